import JvmDerived
import JvmDerived.Pilot.@@N@@Statement
import JvmDerived.Pilot.@@N@@Code
set_option linter.unusedVariables false
set_option linter.unusedSimpArgs false
namespace Jvm.RoadKit
open Sem ClassFile Op Lib Jvm.Stand Jvm.Free Jvm.LawKit
section New
variable {p : Program} {l : Launch} {e : Env} {R : Room} {s : State} {m : MethodId} {args : Array Value} {below : List Frame} {meth : Method} {c : Code} {T : State} {locs : List Loc} {cells slots : Nat}
theorem retI (X : Stand p l e R s m args below meth c T locs cells slots) (hx : p.tables.exec = Jvm.exec) {pc : Nat} {Ls : Array Slot} {z : Int32} {rest : List Value} (hret : meth.sig.returnType = some .int) (hd : decode c.code pc = .ok (.ireturn, 1)) {fs : List Frame}
    (hl : ∀ (f : JFrame) (acts : List Action), f.method = m → f.locked = none → f.entered = [] → (doReturn e (T.setTop f) acts (some (.int z))).1 = T.setFrames fs) : Steps p.tables e below (T.setTop (mkF m pc Ls (.int z :: rest))) (T.setFrames fs) := by
  have hm' : T.vm.method? m = some meth := X.method'
  have hn : narrow .int (.int z) = .int z := rfl
  show Steps p.tables e below (T.setTop { method := m, pc := pc, locals := Ls, stack := _ :: rest, locked := none }) _
  jvm_step X.here [X.here.top, hx, hd, hm', hret, hn]
  first | (intro acts; rw [hl _ acts rfl rfl rfl]) | rw [hl _ _ rfl rfl rfl]
  exact Steps.refl _
theorem own_retJ (X : Stand p l e R s m args below meth c T locs cells slots) (hx : p.tables.exec = Jvm.exec) {pc : Nat} {Ls : Array Slot} {z : Int64} {rest : List Value} (hret : meth.sig.returnType = some .long) (hd : decode c.code pc = .ok (.lreturn, 1)) {fs : List Frame}
    (hl : ∀ (f : JFrame) (acts : List Action), f.method = m → f.locked = none → f.entered = [] → (doReturn e (T.setTop f) acts (some (.long z))).1 = T.setFrames fs) : Steps p.tables e below (T.setTop (mkF m pc Ls (.long z :: rest))) (T.setFrames fs) := by
  have hm' : T.vm.method? m = some meth := X.method'
  have hn : narrow .long (.long z) = .long z := rfl
  show Steps p.tables e below (T.setTop { method := m, pc := pc, locals := Ls, stack := _ :: rest, locked := none }) _
  jvm_step X.here [X.here.top, hx, hd, hm', hret, hn]
  first | (intro acts; rw [hl _ acts rfl rfl rfl]) | rw [hl _ _ rfl rfl rfl]
  exact Steps.refl _
theorem own_retD (X : Stand p l e R s m args below meth c T locs cells slots) (hx : p.tables.exec = Jvm.exec) {pc : Nat} {Ls : Array Slot} {z : UInt64} {rest : List Value} (hret : meth.sig.returnType = some .double) (hd : decode c.code pc = .ok (.dreturn, 1)) {fs : List Frame}
    (hl : ∀ (f : JFrame) (acts : List Action), f.method = m → f.locked = none → f.entered = [] → (doReturn e (T.setTop f) acts (some (.double z))).1 = T.setFrames fs) : Steps p.tables e below (T.setTop (mkF m pc Ls (.double z :: rest))) (T.setFrames fs) := by
  have hm' : T.vm.method? m = some meth := X.method'
  have hn : narrow .double (.double z) = .double z := rfl
  show Steps p.tables e below (T.setTop { method := m, pc := pc, locals := Ls, stack := _ :: rest, locked := none }) _
  jvm_step X.here [X.here.top, hx, hd, hm', hret, hn]
  first | (intro acts; rw [hl _ acts rfl rfl rfl]) | rw [hl _ _ rfl rfl rfl]
  exact Steps.refl _
theorem own_retR (X : Stand p l e R s m args below meth c T locs cells slots) (hx : p.tables.exec = Jvm.exec) {pc : Nat} {Ls : Array Slot} {w : Value} {t : FieldType} {rest : List Value} (hret : meth.sig.returnType = some t) (ht : t.isReference = true) (hw : w.isRef = true) (hd : decode c.code pc = .ok (.areturn, 1)) {fs : List Frame}
    (hl : ∀ (f : JFrame) (acts : List Action), f.method = m → f.locked = none → f.entered = [] → (doReturn e (T.setTop f) acts (some w)).1 = T.setFrames fs) : Steps p.tables e below (T.setTop (mkF m pc Ls (w :: rest))) (T.setFrames fs) := by
  have hm' : T.vm.method? m = some meth := X.method'
  rcases ref_cases hw with rfl | ⟨a, rfl⟩
  all_goals
    show Steps p.tables e below (T.setTop { method := m, pc := pc, locals := Ls, stack := _ :: rest, locked := none }) _
    jvm_step X.here [X.here.top, hx, hd, hm', hret, ht, Value.isRef]
    first | (intro acts; rw [hl _ acts rfl rfl rfl]) | rw [hl _ _ rfl rfl rfl]
    exact Steps.refl _
end New
end Jvm.RoadKit
namespace Jvm.Pilot.@@N@@
open Jvm Jvm.ClassFile Sem Op Lib Jvm.Free Jvm.Stand Jvm.LawKit Jvm.RoadKit Bundle Jvm.Pilot.@@N@@.Jvm.D
abbrev SS (p : Program) (e : Env) (below : List Frame) (T : State) (m : MethodId) (pc : Nat) (ls : Array Slot) (st : List Value) (t : State) : Prop := Steps p.tables e below (T.setTop (mkF m pc ls st)) t
theorem own_bool {P : Prop} [Decidable P] : nar .boolean (if P then (1 : Int32) else (0 : Int32)) = if P then (1 : Int32) else (0 : Int32) := by split <;> decide
theorem w0 {a0 : Array Value} {Z : State} (hw : ∀ d ∈ tables_1, d.before a0 Z = true) : (Jvm.Cond.constant "com/example/composition/composition/model/AbapTypeHasLengthPinLaw" (7 : Nat) (2147483647 : Int32)).before a0 Z = true := hw _ (List.mem_of_getElem? (i := 0) rfl)
theorem w1 {a0 : Array Value} {Z : State} (hw : ∀ d ∈ tables_1, d.before a0 Z = true) : (Jvm.Cond.fieldLink "com/example/composition/composition/model/AbapTypeHasLengthPinLaw" (8 : Nat) "com/example/composition/composition/model/AbapType" "CLNT" "Lcom/example/composition/composition/model/AbapType;").before a0 Z = true := hw _ (List.mem_of_getElem? (i := 1) rfl)
theorem w2 {a0 : Array Value} {Z : State} (hw : ∀ d ∈ tables_1, d.before a0 Z = true) : (Jvm.Cond.initialized "com/example/composition/composition/model/AbapType").before a0 Z = true := hw _ (List.mem_of_getElem? (i := 2) rfl)
theorem w3 {a0 : Array Value} {Z : State} (hw : ∀ d ∈ tables_1, d.before a0 Z = true) : (Jvm.Cond.laysStatic "com/example/composition/composition/model/AbapType" "CLNT" "Lcom/example/composition/composition/model/AbapType;").before a0 Z = true := hw _ (List.mem_of_getElem? (i := 3) rfl)
theorem w4 {a0 : Array Value} {Z : State} (hw : ∀ d ∈ tables_1, d.before a0 Z = true) : (Jvm.Cond.methodLink "com/example/composition/composition/model/AbapTypeHasLengthPinLaw" (32 : Nat) ({ cls := "com/example/composition/composition/model/AbapType", name := "hasLength", desc := "()Z" } : Jvm.MethodName)).before a0 Z = true := hw _ (List.mem_of_getElem? (i := 4) rfl)
theorem w5 {a0 : Array Value} {Z : State} (hw : ∀ d ∈ tables_1, d.before a0 Z = true) : (Jvm.Cond.declares ({ cls := "com/example/composition/composition/model/AbapType", name := "hasLength", desc := "()Z" } : Jvm.MethodName)).before a0 Z = true := hw _ (List.mem_of_getElem? (i := 5) rfl)
theorem w6 {a0 : Array Value} {Z : State} (hw : ∀ d ∈ tables_1, d.before a0 Z = true) : (Jvm.Cond.instanceMethod ({ cls := "com/example/composition/composition/model/AbapType", name := "hasLength", desc := "()Z" } : Jvm.MethodName)).before a0 Z = true := hw _ (List.mem_of_getElem? (i := 6) rfl)
theorem w7 {a0 : Array Value} {Z : State} (hw : ∀ d ∈ tables_1, d.before a0 Z = true) : (Jvm.Cond.selects "com/example/composition/composition/model/AbapType" ({ cls := "com/example/composition/composition/model/AbapType", name := "hasLength", desc := "()Z" } : Jvm.MethodName) ({ cls := "com/example/composition/composition/model/AbapType", name := "hasLength", desc := "()Z" } : Jvm.MethodName)).before a0 Z = true := hw _ (List.mem_of_getElem? (i := 7) rfl)
theorem w8 {a0 : Array Value} {Z : State} (hw : ∀ d ∈ tables_1, d.before a0 Z = true) : (Jvm.Cond.code ({ cls := "com/example/composition/composition/model/AbapType", name := "hasLength", desc := "()Z" } : Jvm.MethodName) prog_17_method_6_code (1 : Nat) (Option.some Jvm.ClassFile.FieldType.boolean)).before a0 Z = true := hw _ (List.mem_of_getElem? (i := 8) rfl)
theorem w9 {a0 : Array Value} {Z : State} (hw : ∀ d ∈ tables_1, d.before a0 Z = true) : (Jvm.Cond.fieldLink "com/example/composition/composition/model/AbapType" (48 : Nat) "com/example/composition/composition/model/AbapType" "maxLength" "I").before a0 Z = true := hw _ (List.mem_of_getElem? (i := 9) rfl)
theorem w11 {a0 : Array Value} {Z : State} (hw : ∀ d ∈ tables_1, d.before a0 Z = true) : (Jvm.Cond.methodLink "com/example/composition/composition/model/AbapTypeHasLengthPinLaw" (36 : Nat) ({ cls := "com/example/composition/composition/model/AbapType", name := "maxLength", desc := "()I" } : Jvm.MethodName)).before a0 Z = true := hw _ (List.mem_of_getElem? (i := 11) rfl)
theorem w12 {a0 : Array Value} {Z : State} (hw : ∀ d ∈ tables_1, d.before a0 Z = true) : (Jvm.Cond.declares ({ cls := "com/example/composition/composition/model/AbapType", name := "maxLength", desc := "()I" } : Jvm.MethodName)).before a0 Z = true := hw _ (List.mem_of_getElem? (i := 12) rfl)
theorem w13 {a0 : Array Value} {Z : State} (hw : ∀ d ∈ tables_1, d.before a0 Z = true) : (Jvm.Cond.instanceMethod ({ cls := "com/example/composition/composition/model/AbapType", name := "maxLength", desc := "()I" } : Jvm.MethodName)).before a0 Z = true := hw _ (List.mem_of_getElem? (i := 13) rfl)
theorem w14 {a0 : Array Value} {Z : State} (hw : ∀ d ∈ tables_1, d.before a0 Z = true) : (Jvm.Cond.selects "com/example/composition/composition/model/AbapType" ({ cls := "com/example/composition/composition/model/AbapType", name := "maxLength", desc := "()I" } : Jvm.MethodName) ({ cls := "com/example/composition/composition/model/AbapType", name := "maxLength", desc := "()I" } : Jvm.MethodName)).before a0 Z = true := hw _ (List.mem_of_getElem? (i := 14) rfl)
theorem w15 {a0 : Array Value} {Z : State} (hw : ∀ d ∈ tables_1, d.before a0 Z = true) : (Jvm.Cond.code ({ cls := "com/example/composition/composition/model/AbapType", name := "maxLength", desc := "()I" } : Jvm.MethodName) prog_17_method_7_code (1 : Nat) (Option.some Jvm.ClassFile.FieldType.int)).before a0 Z = true := hw _ (List.mem_of_getElem? (i := 15) rfl)
theorem w16 {a0 : Array Value} {Z : State} (hw : ∀ d ∈ tables_1, d.before a0 Z = true) : (Jvm.Cond.fieldLink "com/example/composition/composition/model/AbapTypeHasLengthPinLaw" (20 : Nat) "com/example/composition/composition/model/AbapType" "INT4" "Lcom/example/composition/composition/model/AbapType;").before a0 Z = true := hw _ (List.mem_of_getElem? (i := 16) rfl)
theorem w17 {a0 : Array Value} {Z : State} (hw : ∀ d ∈ tables_1, d.before a0 Z = true) : (Jvm.Cond.laysStatic "com/example/composition/composition/model/AbapType" "INT4" "Lcom/example/composition/composition/model/AbapType;").before a0 Z = true := hw _ (List.mem_of_getElem? (i := 17) rfl)
theorem w18 {a0 : Array Value} {Z : State} (hw : ∀ d ∈ tables_1, d.before a0 Z = true) : (Jvm.Cond.fieldLink "com/example/composition/composition/model/AbapTypeHasLengthPinLaw" (26 : Nat) "com/example/composition/composition/model/AbapType" "UTCLONG" "Lcom/example/composition/composition/model/AbapType;").before a0 Z = true := hw _ (List.mem_of_getElem? (i := 18) rfl)
theorem w19 {a0 : Array Value} {Z : State} (hw : ∀ d ∈ tables_1, d.before a0 Z = true) : (Jvm.Cond.laysStatic "com/example/composition/composition/model/AbapType" "UTCLONG" "Lcom/example/composition/composition/model/AbapType;").before a0 Z = true := hw _ (List.mem_of_getElem? (i := 19) rfl)
theorem w20 {a0 : Array Value} {Z : State} (hw : ∀ d ∈ tables_1, d.before a0 Z = true) : (Jvm.Cond.fieldLink "com/example/composition/composition/model/AbapTypeHasLengthPinLaw" (29 : Nat) "com/example/composition/composition/model/AbapType" "RAW" "Lcom/example/composition/composition/model/AbapType;").before a0 Z = true := hw _ (List.mem_of_getElem? (i := 20) rfl)
theorem w21 {a0 : Array Value} {Z : State} (hw : ∀ d ∈ tables_1, d.before a0 Z = true) : (Jvm.Cond.laysStatic "com/example/composition/composition/model/AbapType" "RAW" "Lcom/example/composition/composition/model/AbapType;").before a0 Z = true := hw _ (List.mem_of_getElem? (i := 21) rfl)
theorem w22 {a0 : Array Value} {Z : State} (hw : ∀ d ∈ tables_1, d.before a0 Z = true) : (Jvm.Cond.fieldLink "com/example/composition/composition/model/AbapTypeHasLengthPinLaw" (23 : Nat) "com/example/composition/composition/model/AbapType" "DATS" "Lcom/example/composition/composition/model/AbapType;").before a0 Z = true := hw _ (List.mem_of_getElem? (i := 22) rfl)
theorem w23 {a0 : Array Value} {Z : State} (hw : ∀ d ∈ tables_1, d.before a0 Z = true) : (Jvm.Cond.laysStatic "com/example/composition/composition/model/AbapType" "DATS" "Lcom/example/composition/composition/model/AbapType;").before a0 Z = true := hw _ (List.mem_of_getElem? (i := 23) rfl)
theorem w24 {a0 : Array Value} {Z : State} (hw : ∀ d ∈ tables_1, d.before a0 Z = true) : (Jvm.Cond.fieldLink "com/example/composition/composition/model/AbapTypeHasLengthPinLaw" (17 : Nat) "com/example/composition/composition/model/AbapType" "NUMC" "Lcom/example/composition/composition/model/AbapType;").before a0 Z = true := hw _ (List.mem_of_getElem? (i := 24) rfl)
theorem w25 {a0 : Array Value} {Z : State} (hw : ∀ d ∈ tables_1, d.before a0 Z = true) : (Jvm.Cond.laysStatic "com/example/composition/composition/model/AbapType" "NUMC" "Lcom/example/composition/composition/model/AbapType;").before a0 Z = true := hw _ (List.mem_of_getElem? (i := 25) rfl)
theorem w26 {a0 : Array Value} {Z : State} (hw : ∀ d ∈ tables_1, d.before a0 Z = true) : (Jvm.Cond.fieldLink "com/example/composition/composition/model/AbapTypeHasLengthPinLaw" (14 : Nat) "com/example/composition/composition/model/AbapType" "CHAR" "Lcom/example/composition/composition/model/AbapType;").before a0 Z = true := hw _ (List.mem_of_getElem? (i := 26) rfl)
theorem w27 {a0 : Array Value} {Z : State} (hw : ∀ d ∈ tables_1, d.before a0 Z = true) : (Jvm.Cond.laysStatic "com/example/composition/composition/model/AbapType" "CHAR" "Lcom/example/composition/composition/model/AbapType;").before a0 Z = true := hw _ (List.mem_of_getElem? (i := 27) rfl)
theorem ef_hasLength (m : MethodId) (x0 : Addr) : entryFrame m #[(.ref x0)] 1 = mkF m 0 #[.val (.ref x0)] [] := by first | (simp [entryFrame, mkF, argsToLocals, Value.category]; done) | rfl
theorem pn_com_example_composition_composition_model_AbapType : plainName "com/example/composition/composition/model/AbapType" = true := by first | (simp [plainName, overriddenIn]; done) | decide +kernel
theorem d_prog_17_method_6_0 : decode prog_17_method_6_code 0 = .ok (.aload_n 0, 1) := by decide +kernel
theorem d_prog_17_method_6_1 : decode prog_17_method_6_code 1 = .ok (.getfield 48, 3) := by decide +kernel
theorem d_prog_17_method_6_4 : decode prog_17_method_6_code 4 = .ok (.ifCond .le 7, 3) := by decide +kernel
theorem d_prog_17_method_6_7 : decode prog_17_method_6_code 7 = .ok (.iconst 1, 1) := by decide +kernel
theorem d_prog_17_method_6_8 : decode prog_17_method_6_code 8 = .ok (.goto 4, 3) := by decide +kernel
theorem d_prog_17_method_6_11 : decode prog_17_method_6_code 11 = .ok (.iconst 0, 1) := by decide +kernel
theorem d_prog_17_method_6_12 : decode prog_17_method_6_code 12 = .ok (.ireturn, 1) := by decide +kernel
theorem ef_maxLength (m : MethodId) (x0 : Addr) : entryFrame m #[(.ref x0)] 1 = mkF m 0 #[.val (.ref x0)] [] := by first | (simp [entryFrame, mkF, argsToLocals, Value.category]; done) | rfl
theorem d_prog_17_method_7_0 : decode prog_17_method_7_code 0 = .ok (.aload_n 0, 1) := by decide +kernel
theorem d_prog_17_method_7_1 : decode prog_17_method_7_code 1 = .ok (.getfield 48, 3) := by decide +kernel
theorem d_prog_17_method_7_4 : decode prog_17_method_7_code 4 = .ok (.ireturn, 1) := by decide +kernel
theorem ef_law (m : MethodId) (x0 : Int32) : entryFrame m #[(.int x0)] maxLocals = mkF m 0 #[.val (.int x0), .unset, .unset, .unset, .unset] [] := by first | (simp [entryFrame, mkF, argsToLocals, Value.category, maxLocals]; done) | rfl
theorem pn_com_example_composition_composition_model_AbapTypeHasLengthPinLaw : plainName "com/example/composition/composition/model/AbapTypeHasLengthPinLaw" = true := by first | (simp [plainName, overriddenIn]; done) | decide +kernel
theorem pd__28__29_Z : parseMethodDescriptor "()Z" = some ⟨[], some .boolean⟩ := by decide +kernel
theorem pd__28__29_I : parseMethodDescriptor "()I" = some ⟨[], some .int⟩ := by decide +kernel
def Q_hasLength (Z : State) (a : Addr) (w : Int32) (h0 : Heap) (n0 : Nat) (vQ_ : Option Value) (hQ_ : Heap) (LQ_ : List Loc) : Prop := vQ_ = some (.int (if (0 : Int32) < w then (1 : Int32) else (0 : Int32))) ∧ Fr n0 LQ_ ∧ hQ_ = h0
set_option maxRecDepth 65536 in
set_option maxHeartbeats 40000000 in
theorem rm_hasLength (l : Launch) (Z : State) (a0 : Array Value) (hw : ∀ d ∈ tables_1, d.before a0 Z = true) (ws : List Jvm.Cond) (a : Addr) (w : Int32) (h0 : Heap) (n0 : Nat) (Z0 : n0 ≤ h0.size) (F1 : Fld Z h0 a "com/example/composition/composition/model/AbapType" "maxLength" "I" (.int w)) :
    MetFree l (⟨"com/example/composition/composition/model/AbapType", "hasLength", "()Z"⟩ : MethodName) (head1 (Jvm.Cond.code (⟨"com/example/composition/composition/model/AbapType", "hasLength", "()Z"⟩ : MethodName) prog_17_method_6_code 1 (some .boolean) :: ws) ({ frames := 0, cells := 0, slots := 0, locals := 0 } : Room)) (fun aQ_ UQ => aQ_ = #[(.ref a)] ∧ Z.Warmed39 UQ.vm ∧ UQ.heap = h0) (fun _ _ _ _ _ => True) (fun _ UQ oQ UQ' => ∃ vQ_ LQ_, oQ = .returned vQ_ ∧ Q_hasLength Z a w h0 n0 vQ_ UQ'.heap LQ_ ∧ FrameEnd UQ oQ UQ' LQ_ ({ frames := 0, cells := 0, slots := 0, locals := 0 } : Room).cells ({ frames := 0, cells := 0, slots := 0, locals := 0 } : Room).slots) := by
  refine MetFree.of_bodySF (plainFor_of_name pn_com_example_composition_composition_model_AbapType) hisR ?_
  intro p e s m args below meth cO s₁ Bd hml0 hP hK
  obtain ⟨rfl, hZ, hh⟩ := hP
  have hx := Bd.exec
  have hby := Bd.bytes
  have hml : cO.maxLocals = 1 := hml0
  have hown : s.vm.findClass "com/example/composition/composition/model/AbapType" = some m.cls := findClass_of_methodNamed Bd.named
  have hnm := (name_of_methodNamed Bd.named Bd.method).1
  have X0 : Stand p l e ({ frames := 0, cells := 0, slots := 0, locals := 0 } : Room) s m #[(.ref a)] below meth cO s₁ [] 0 0 := Stand.of_body Bd
  have e0 : s₁.heap = h0 := by rw [← hh, Bd.state]; rfl
  have N0 := Fr.nil n0
  have W0 : ∀ zQ, SS p e below s₁ m 0 #[.val (.ref a)] [] zQ → Steps p.tables e below (s₁.setTop (entryFrame m #[(.ref a)] 1)) zQ := fun tt kt => castTop (ef_hasLength m a) kt
  obtain ⟨T101, X101, e101, st101⟩ := getF X0 hx hZ hown (host := "") (Or.inl (w9 hw)) Via.refl e0 F1 (g := (mkF m 1 #[.val (.ref a)] [(.ref a)])) rfl rfl (hb hby d_prog_17_method_6_1)
  have W102 : ∀ zQ, SS p e below T101 m 4 #[.val (.ref a)] [(.int w)] zQ → Steps p.tables e below (s₁.setTop (entryFrame m #[(.ref a)] 1)) zQ := by
    intro tt kt
    refine W0 tt ?_
    refine XS.aloadN X0.here hx rfl (hb hby d_prog_17_method_6_0) rfl rfl ?_
    show SS p e below s₁ m 1 #[.val (.ref a)] [(.ref a)] _
    refine st101 _ ?_
    show SS p e below T101 m 4 #[.val (.ref a)] [(.int w)] _
    exact kt
  have W104 : ∀ zQ, SS p e below T101 m 12 #[.val (.ref a)] [(.int (if (0 : Int32) < w then (1 : Int32) else (0 : Int32)))] zQ → Steps p.tables e below (s₁.setTop (entryFrame m #[(.ref a)] 1)) zQ := by
    intro tt kt
    refine W102 tt ?_
    by_cases hj103 : (0 : Int32) < w
    ·
      refine XS.ifNo X101.here hx rfl (hb hby d_prog_17_method_6_4) rfl ((if0 _ _).trans (tlt hj103).2.2.2) ?_
      show SS p e below T101 m 7 #[.val (.ref a)] [] _
      refine XS.iconst X101.here hx rfl (hb hby d_prog_17_method_6_7) ?_
      show SS p e below T101 m 8 #[.val (.ref a)] [(.int (1 : Int32))] _
      refine XS.goto X101.here hx rfl (pc0 := 8) (pc' := 12) rfl (hb hby d_prog_17_method_6_8) (by decide) (by decide) ?_
      show SS p e below T101 m 12 #[.val (.ref a)] [(.int (1 : Int32))] _
      exact castTop (by first | rfl | simp only [if_pos hj103]) kt
    ·
      refine XS.ifYes X101.here hx rfl (pc0 := 4) (pc' := 11) rfl (hb hby d_prog_17_method_6_4) rfl ((if0 _ _).trans (flt hj103).2.2.2) (by decide) (by decide) ?_
      show SS p e below T101 m 11 #[.val (.ref a)] [] _
      refine XS.iconst X101.here hx rfl (hb hby d_prog_17_method_6_11) ?_
      show SS p e below T101 m 12 #[.val (.ref a)] [(.int (0 : Int32))] _
      exact castTop (by first | rfl | simp only [if_neg hj103]) kt
  obtain ⟨fs, hr, hrun, hended, hW, hsame⟩ := X101.leave (v := some (.int (nar .boolean (if (0 : Int32) < w then (1 : Int32) else (0 : Int32))))) (fun h => by rw [Bd.returns] at h; cases h)
  refine ⟨_, _, W104 _ (retN X101 hx (t := .boolean) Bd.returns (by simp) (hb hby d_prog_17_method_6_12) hr), hrun, hended, _, _, rfl, ?_, ⟨_, rfl⟩, hW, hsame.mono (by decide) (by decide)⟩
  show Q_hasLength Z a w h0 n0 _ T101.heap _
  rw [e101]
  exact ⟨(congrArg (fun q => some (Value.int q)) own_bool), N0, rfl⟩
def Q_maxLength (Z : State) (a : Addr) (w : Int32) (h0 : Heap) (n0 : Nat) (vQ_ : Option Value) (hQ_ : Heap) (LQ_ : List Loc) : Prop := vQ_ = some (.int w) ∧ Fr n0 LQ_ ∧ hQ_ = h0
set_option maxRecDepth 65536 in
set_option maxHeartbeats 40000000 in
theorem rm_maxLength (l : Launch) (Z : State) (a0 : Array Value) (hw : ∀ d ∈ tables_1, d.before a0 Z = true) (ws : List Jvm.Cond) (a : Addr) (w : Int32) (h0 : Heap) (n0 : Nat) (Z0 : n0 ≤ h0.size) (F1 : Fld Z h0 a "com/example/composition/composition/model/AbapType" "maxLength" "I" (.int w)) :
    MetFree l (⟨"com/example/composition/composition/model/AbapType", "maxLength", "()I"⟩ : MethodName) (head1 (Jvm.Cond.code (⟨"com/example/composition/composition/model/AbapType", "maxLength", "()I"⟩ : MethodName) prog_17_method_7_code 1 (some .int) :: ws) ({ frames := 0, cells := 0, slots := 0, locals := 0 } : Room)) (fun aQ_ UQ => aQ_ = #[(.ref a)] ∧ Z.Warmed39 UQ.vm ∧ UQ.heap = h0) (fun _ _ _ _ _ => True) (fun _ UQ oQ UQ' => ∃ vQ_ LQ_, oQ = .returned vQ_ ∧ Q_maxLength Z a w h0 n0 vQ_ UQ'.heap LQ_ ∧ FrameEnd UQ oQ UQ' LQ_ ({ frames := 0, cells := 0, slots := 0, locals := 0 } : Room).cells ({ frames := 0, cells := 0, slots := 0, locals := 0 } : Room).slots) := by
  refine MetFree.of_bodySF (plainFor_of_name pn_com_example_composition_composition_model_AbapType) hisR ?_
  intro p e s m args below meth cO s₁ Bd hml0 hP hK
  obtain ⟨rfl, hZ, hh⟩ := hP
  have hx := Bd.exec
  have hby := Bd.bytes
  have hml : cO.maxLocals = 1 := hml0
  have hown : s.vm.findClass "com/example/composition/composition/model/AbapType" = some m.cls := findClass_of_methodNamed Bd.named
  have hnm := (name_of_methodNamed Bd.named Bd.method).1
  have X0 : Stand p l e ({ frames := 0, cells := 0, slots := 0, locals := 0 } : Room) s m #[(.ref a)] below meth cO s₁ [] 0 0 := Stand.of_body Bd
  have e0 : s₁.heap = h0 := by rw [← hh, Bd.state]; rfl
  have N0 := Fr.nil n0
  have W0 : ∀ zQ, SS p e below s₁ m 0 #[.val (.ref a)] [] zQ → Steps p.tables e below (s₁.setTop (entryFrame m #[(.ref a)] 1)) zQ := fun tt kt => castTop (ef_maxLength m a) kt
  obtain ⟨T101, X101, e101, st101⟩ := getF X0 hx hZ hown (host := "") (Or.inl (w9 hw)) Via.refl e0 F1 (g := (mkF m 1 #[.val (.ref a)] [(.ref a)])) rfl rfl (hb hby d_prog_17_method_7_1)
  have W102 : ∀ zQ, SS p e below T101 m 4 #[.val (.ref a)] [(.int w)] zQ → Steps p.tables e below (s₁.setTop (entryFrame m #[(.ref a)] 1)) zQ := by
    intro tt kt
    refine W0 tt ?_
    refine XS.aloadN X0.here hx rfl (hb hby d_prog_17_method_7_0) rfl rfl ?_
    show SS p e below s₁ m 1 #[.val (.ref a)] [(.ref a)] _
    refine st101 _ ?_
    show SS p e below T101 m 4 #[.val (.ref a)] [(.int w)] _
    exact kt
  obtain ⟨fs, hr, hrun, hended, hW, hsame⟩ := X101.leave (v := some (.int w)) (fun h => by rw [Bd.returns] at h; cases h)
  refine ⟨_, _, W102 _ (retI X101 hx Bd.returns (hb hby d_prog_17_method_7_4) hr), hrun, hended, _, _, rfl, ?_, ⟨_, rfl⟩, hW, hsame.mono (by decide) (by decide)⟩
  show Q_maxLength Z a w h0 n0 _ T101.heap _
  rw [e101]
  exact ⟨rfl, N0, rfl⟩
def Q_law (Z : State) (k : Int32) (oCLNT : Addr) (oCHAR : Addr) (oNUMC : Addr) (oINT4 : Addr) (oDATS : Addr) (oUTCLONG : Addr) (oRAW : Addr) (h0 : Heap) (n0 : Nat) (vQ_ : Option Value) (hQ_ : Heap) (LQ_ : List Loc) : Prop := vQ_ = some (.int (1 : Int32)) ∧ Fr n0 LQ_ ∧ hQ_ = h0
set_option maxRecDepth 65536 in
set_option maxHeartbeats 40000000 in
theorem rm_law (l : Launch) (Z : State) (a0 : Array Value) (hw : ∀ d ∈ tables_1, d.before a0 Z = true) (ws : List Jvm.Cond) (k : Int32) (oCLNT : Addr) (oCHAR : Addr) (oNUMC : Addr) (oINT4 : Addr) (oDATS : Addr) (oUTCLONG : Addr) (oRAW : Addr) (h0 : Heap) (n0 : Nat) (Z0 : n0 ≤ h0.size) (O0 : Old Z n0 h0) (S_CLNT : Sta Z Z.heap "com/example/composition/composition/model/AbapType" "CLNT" "Lcom/example/composition/composition/model/AbapType;" (.ref oCLNT)) (E_CLNT : Exa Z Z.heap oCLNT "com/example/composition/composition/model/AbapType") (F_CLNT : Fld Z Z.heap oCLNT "com/example/composition/composition/model/AbapType" "maxLength" "I" (.int (0 : Int32))) (S_CHAR : Sta Z Z.heap "com/example/composition/composition/model/AbapType" "CHAR" "Lcom/example/composition/composition/model/AbapType;" (.ref oCHAR)) (E_CHAR : Exa Z Z.heap oCHAR "com/example/composition/composition/model/AbapType") (F_CHAR : Fld Z Z.heap oCHAR "com/example/composition/composition/model/AbapType" "maxLength" "I" (.int (1333 : Int32))) (S_NUMC : Sta Z Z.heap "com/example/composition/composition/model/AbapType" "NUMC" "Lcom/example/composition/composition/model/AbapType;" (.ref oNUMC)) (E_NUMC : Exa Z Z.heap oNUMC "com/example/composition/composition/model/AbapType") (F_NUMC : Fld Z Z.heap oNUMC "com/example/composition/composition/model/AbapType" "maxLength" "I" (.int (255 : Int32))) (S_INT4 : Sta Z Z.heap "com/example/composition/composition/model/AbapType" "INT4" "Lcom/example/composition/composition/model/AbapType;" (.ref oINT4)) (E_INT4 : Exa Z Z.heap oINT4 "com/example/composition/composition/model/AbapType") (F_INT4 : Fld Z Z.heap oINT4 "com/example/composition/composition/model/AbapType" "maxLength" "I" (.int (0 : Int32))) (S_DATS : Sta Z Z.heap "com/example/composition/composition/model/AbapType" "DATS" "Lcom/example/composition/composition/model/AbapType;" (.ref oDATS)) (E_DATS : Exa Z Z.heap oDATS "com/example/composition/composition/model/AbapType") (F_DATS : Fld Z Z.heap oDATS "com/example/composition/composition/model/AbapType" "maxLength" "I" (.int (0 : Int32))) (S_UTCLONG : Sta Z Z.heap "com/example/composition/composition/model/AbapType" "UTCLONG" "Lcom/example/composition/composition/model/AbapType;" (.ref oUTCLONG)) (E_UTCLONG : Exa Z Z.heap oUTCLONG "com/example/composition/composition/model/AbapType") (F_UTCLONG : Fld Z Z.heap oUTCLONG "com/example/composition/composition/model/AbapType" "maxLength" "I" (.int (0 : Int32))) (S_RAW : Sta Z Z.heap "com/example/composition/composition/model/AbapType" "RAW" "Lcom/example/composition/composition/model/AbapType;" (.ref oRAW)) (E_RAW : Exa Z Z.heap oRAW "com/example/composition/composition/model/AbapType") (F_RAW : Fld Z Z.heap oRAW "com/example/composition/composition/model/AbapType" "maxLength" "I" (.int (255 : Int32))) :
    MetFree l x (head1 (Jvm.Cond.code x code maxLocals ret :: ws) room_1) (fun aQ_ UQ => aQ_ = #[(.int k)] ∧ Z.Warmed39 UQ.vm ∧ UQ.heap = h0) (fun _ _ _ _ _ => True) (fun _ UQ oQ UQ' => ∃ vQ_ LQ_, oQ = .returned vQ_ ∧ Q_law Z k oCLNT oCHAR oNUMC oINT4 oDATS oUTCLONG oRAW h0 n0 vQ_ UQ'.heap LQ_ ∧ FrameEnd UQ oQ UQ' LQ_ room_1.cells room_1.slots) := by
  refine MetFree.of_bodySF (plainFor_of_name pn_com_example_composition_composition_model_AbapTypeHasLengthPinLaw) hisR ?_
  intro p e s m args below meth cO s₁ Bd hml0 hP hK
  obtain ⟨rfl, hZ, hh⟩ := hP
  have hx := Bd.exec
  have hby := Bd.bytes
  have hml : cO.maxLocals = 5 := hml0
  have hown : s.vm.findClass "com/example/composition/composition/model/AbapTypeHasLengthPinLaw" = some m.cls := findClass_of_methodNamed Bd.named
  have hnm := (name_of_methodNamed Bd.named Bd.method).1
  have X0 : Stand p l e room_1 s m #[(.int k)] below meth cO s₁ [] 0 0 := Stand.of_body Bd
  have e0 : s₁.heap = h0 := by rw [← hh, Bd.state]; rfl
  have N0 := Fr.nil n0
  have W0 : ∀ zQ, SS p e below s₁ m 0 #[.val (.int k), .unset, .unset, .unset, .unset] [] zQ → Steps p.tables e below (s₁.setTop (entryFrame m #[(.int k)] maxLocals)) zQ := fun tt kt => castTop (ef_law m k) kt
  have W101 : ∀ zQ, SS p e below s₁ m 9 #[.val (.int k), .val (.int ((k &&& (2147483647 : Int32)) % (7 : Int32))), .unset, .unset, .unset] [(.int ((k &&& (2147483647 : Int32)) % (7 : Int32)))] zQ → Steps p.tables e below (s₁.setTop (entryFrame m #[(.int k)] maxLocals)) zQ := by
    intro tt kt
    refine W0 tt ?_
    refine XS.iloadN X0.here hx rfl (hb hby at_0) rfl ?_
    show SS p e below s₁ m 1 #[.val (.int k), .unset, .unset, .unset, .unset] [(.int k)] _
    refine X0.ldcInt hx hown (mvT hZ (w0 hw)) (g := (mkF m 1 #[.val (.int k), .unset, .unset, .unset, .unset] [(.int k)])) rfl (hb hby at_1) _ ?_
    show SS p e below s₁ m 3 #[.val (.int k), .unset, .unset, .unset, .unset] [(.int (2147483647 : Int32)), (.int k)] _
    refine XS.iand X0.here hx rfl (hb hby at_3) rfl ?_
    show SS p e below s₁ m 4 #[.val (.int k), .unset, .unset, .unset, .unset] [(.int (k &&& (2147483647 : Int32)))] _
    refine XS.bipush X0.here hx rfl (hb hby at_4) ?_
    show SS p e below s₁ m 6 #[.val (.int k), .unset, .unset, .unset, .unset] [(.int (7 : Int32)), (.int (k &&& (2147483647 : Int32)))] _
    refine Jvm.RoadKit.iremM X0 hx rfl (hb hby at_6) rfl (by decide) ?_
    show SS p e below s₁ m 7 #[.val (.int k), .unset, .unset, .unset, .unset] [(.int ((k &&& (2147483647 : Int32)) % (7 : Int32)))] _
    refine XS.istoreN X0.here hx rfl (hb hby at_7) rfl (l' := #[.val (.int k), .val (.int ((k &&& (2147483647 : Int32)) % (7 : Int32))), .unset, .unset, .unset]) rfl ?_
    show SS p e below s₁ m 8 #[.val (.int k), .val (.int ((k &&& (2147483647 : Int32)) % (7 : Int32))), .unset, .unset, .unset] [] _
    refine XS.iloadN X0.here hx rfl (hb hby at_8) rfl ?_
    show SS p e below s₁ m 9 #[.val (.int k), .val (.int ((k &&& (2147483647 : Int32)) % (7 : Int32))), .unset, .unset, .unset] [(.int ((k &&& (2147483647 : Int32)) % (7 : Int32)))] _
    exact kt
  by_cases hc102 : ((k &&& (2147483647 : Int32)) % (7 : Int32)) = (0 : Int32)
  ·
    have F104 : Sta Z h0 "com/example/composition/composition/model/AbapType" "CLNT" "Lcom/example/composition/composition/model/AbapType;" (.ref oCLNT) := S_CLNT.ext O0.2
    obtain ⟨T103, X103, e103, st103⟩ := getS2 X0 hx hZ hown (host := "") (Or.inl (w1 hw)) Via.refl e0 F104 (g := (mkF m 12 #[.val (.int k), .val (.int ((k &&& (2147483647 : Int32)) % (7 : Int32))), .unset, .unset, .unset] [])) rfl (hb hby at_12)
    have F105 : Fld Z h0 oCLNT "com/example/composition/composition/model/AbapType" "maxLength" "I" (.int (0 : Int32)) := F_CLNT.ext O0.2
    have F107 : Exa Z h0 oCLNT "com/example/composition/composition/model/AbapType" := E_CLNT.ext O0.2
    obtain ⟨cq106, kq106, q106a, q106b, q106c⟩ := isOf hZ e103 F107
    obtain ⟨_, _, ⟨T106, L106, k106, n106⟩, -, X106, ⟨Lc106, hQ106, l106, y106, z106⟩, st106⟩ := X103.virtualBack hx (y := (⟨"com/example/composition/composition/model/AbapType", "hasLength", "()Z"⟩ : MethodName)) (z := (⟨"com/example/composition/composition/model/AbapType", "hasLength", "()Z"⟩ : MethodName)) hown (mvT hZ (w4 hw)) (mvT hZ (w5 hw)) (notFace_of_selects (args := #[]) (mvT hZ (w7 hw))) (mvT hZ (w7 hw)) (mvT hZ (w6 hw)) (by decide) (backOf (W := 0) (rm_hasLength l Z a0 hw [] oCLNT (0 : Int32) h0 n0 Z0 F105) hZ (w8 hw) (w2 hw) (by decide) (by decide)) q106a q106c (g := (mkF m 98 #[.val (.int k), .val (.int ((k &&& (2147483647 : Int32)) % (7 : Int32))), .val (.ref oCLNT), .val (.int (0 : Int32)), .unset] [(.ref oCLNT)])) rfl (by rw [hml]; rfl) (Steps.refl _) (argsL := []) (rest := []) (lenOf pd__28__29_Z rfl) rfl (by show 2 * 0 + _ ≤ _; exact Nat.le_of_eq rfl) (hb hby at_98) (fun _ _ => ⟨rfl, e103, (Nat.le_of_ble_eq_true rfl), (Nat.le_of_ble_eq_true rfl)⟩)
    dsimp only [Pt.U, Pt.locs, Pt.cells, Pt.slots] at X106 l106 y106 z106 st106 hQ106
    subst l106 y106 z106
    obtain ⟨rfl, Nq106, eq106⟩ := hQ106
    have N106 := Fr.app N0 Nq106
    obtain ⟨cq108, kq108, q108a, q108b, q108c⟩ := isOf hZ eq106 F107
    obtain ⟨_, _, ⟨T108, L108, k108, n108⟩, -, X108, ⟨Lc108, hQ108, l108, y108, z108⟩, st108⟩ := X106.virtualBack hx (y := (⟨"com/example/composition/composition/model/AbapType", "maxLength", "()I"⟩ : MethodName)) (z := (⟨"com/example/composition/composition/model/AbapType", "maxLength", "()I"⟩ : MethodName)) hown (mvT hZ (w11 hw)) (mvT hZ (w12 hw)) (notFace_of_selects (args := #[]) (mvT hZ (w14 hw))) (mvT hZ (w14 hw)) (mvT hZ (w13 hw)) (by decide) (backOf (W := 1) (rm_maxLength l Z a0 hw [] oCLNT (0 : Int32) h0 n0 Z0 F105) hZ (w15 hw) (w2 hw) (by decide) (by decide)) q108a q108c (g := (mkF m 112 #[.val (.int k), .val (.int ((k &&& (2147483647 : Int32)) % (7 : Int32))), .val (.ref oCLNT), .val (.int (0 : Int32)), .val (.int (if (0 : Int32) < (0 : Int32) then (1 : Int32) else (0 : Int32)))] [(.ref oCLNT), (.int (if (0 : Int32) < (0 : Int32) then (1 : Int32) else (0 : Int32)))])) rfl (by rw [hml]; rfl) (Steps.refl _) (argsL := []) (rest := [(.int (if (0 : Int32) < (0 : Int32) then (1 : Int32) else (0 : Int32)))]) (lenOf pd__28__29_I rfl) rfl (by show 2 * 0 + _ ≤ _; exact Nat.le_of_eq rfl) (hb hby at_112) (fun _ _ => ⟨rfl, eq106, (Nat.le_of_ble_eq_true rfl), (Nat.le_of_ble_eq_true rfl)⟩)
    dsimp only [Pt.U, Pt.locs, Pt.cells, Pt.slots] at X108 l108 y108 z108 st108 hQ108
    subst l108 y108 z108
    obtain ⟨rfl, Nq108, eq108⟩ := hQ108
    have N108 := Fr.app N106 Nq108
    have W109 : ∀ zQ, SS p e below T108 m 131 #[.val (.int k), .val (.int ((k &&& (2147483647 : Int32)) % (7 : Int32))), .val (.ref oCLNT), .val (.int (0 : Int32)), .val (.int (if (0 : Int32) < (0 : Int32) then (1 : Int32) else (0 : Int32)))] [(.int (1 : Int32))] zQ → Steps p.tables e below (s₁.setTop (entryFrame m #[(.int k)] maxLocals)) zQ := by
      intro tt kt
      refine W101 tt ?_
      refine XS.ifNo X0.here hx rfl (hb hby at_9) rfl ((if0 _ _).trans (teq hc102).2) ?_
      show SS p e below s₁ m 12 #[.val (.int k), .val (.int ((k &&& (2147483647 : Int32)) % (7 : Int32))), .unset, .unset, .unset] [] _
      refine st103 _ ?_
      show SS p e below T103 m 15 #[.val (.int k), .val (.int ((k &&& (2147483647 : Int32)) % (7 : Int32))), .unset, .unset, .unset] [(.ref oCLNT)] _
      refine XS.astoreN X103.here hx rfl (hb hby at_15) rfl rfl (l' := #[.val (.int k), .val (.int ((k &&& (2147483647 : Int32)) % (7 : Int32))), .val (.ref oCLNT), .unset, .unset]) rfl ?_
      show SS p e below T103 m 16 #[.val (.int k), .val (.int ((k &&& (2147483647 : Int32)) % (7 : Int32))), .val (.ref oCLNT), .unset, .unset] [] _
      refine XS.iconst X103.here hx rfl (hb hby at_16) ?_
      show SS p e below T103 m 17 #[.val (.int k), .val (.int ((k &&& (2147483647 : Int32)) % (7 : Int32))), .val (.ref oCLNT), .unset, .unset] [(.int (0 : Int32))] _
      refine XS.istoreN X103.here hx rfl (hb hby at_17) rfl (l' := #[.val (.int k), .val (.int ((k &&& (2147483647 : Int32)) % (7 : Int32))), .val (.ref oCLNT), .val (.int (0 : Int32)), .unset]) rfl ?_
      show SS p e below T103 m 18 #[.val (.int k), .val (.int ((k &&& (2147483647 : Int32)) % (7 : Int32))), .val (.ref oCLNT), .val (.int (0 : Int32)), .unset] [] _
      refine XS.goto X103.here hx rfl (pc0 := 18) (pc' := 97) rfl (hb hby at_18) (by decide) (by decide) ?_
      show SS p e below T103 m 97 #[.val (.int k), .val (.int ((k &&& (2147483647 : Int32)) % (7 : Int32))), .val (.ref oCLNT), .val (.int (0 : Int32)), .unset] [] _
      refine XS.aloadN X103.here hx rfl (hb hby at_97) rfl rfl ?_
      show SS p e below T103 m 98 #[.val (.int k), .val (.int ((k &&& (2147483647 : Int32)) % (7 : Int32))), .val (.ref oCLNT), .val (.int (0 : Int32)), .unset] [(.ref oCLNT)] _
      refine st106.trans ?_
      show SS p e below T106 m 101 #[.val (.int k), .val (.int ((k &&& (2147483647 : Int32)) % (7 : Int32))), .val (.ref oCLNT), .val (.int (0 : Int32)), .unset] [(.int (if (0 : Int32) < (0 : Int32) then (1 : Int32) else (0 : Int32)))] _
      refine XS.istore X106.here hx rfl (hb hby at_101) rfl (l' := #[.val (.int k), .val (.int ((k &&& (2147483647 : Int32)) % (7 : Int32))), .val (.ref oCLNT), .val (.int (0 : Int32)), .val (.int (if (0 : Int32) < (0 : Int32) then (1 : Int32) else (0 : Int32)))]) rfl ?_
      show SS p e below T106 m 103 #[.val (.int k), .val (.int ((k &&& (2147483647 : Int32)) % (7 : Int32))), .val (.ref oCLNT), .val (.int (0 : Int32)), .val (.int (if (0 : Int32) < (0 : Int32) then (1 : Int32) else (0 : Int32)))] [] _
      refine XS.iload X106.here hx rfl (hb hby at_103) rfl ?_
      show SS p e below T106 m 105 #[.val (.int k), .val (.int ((k &&& (2147483647 : Int32)) % (7 : Int32))), .val (.ref oCLNT), .val (.int (0 : Int32)), .val (.int (if (0 : Int32) < (0 : Int32) then (1 : Int32) else (0 : Int32)))] [(.int (if (0 : Int32) < (0 : Int32) then (1 : Int32) else (0 : Int32)))] _
      refine XS.iloadN X106.here hx rfl (hb hby at_105) rfl ?_
      show SS p e below T106 m 106 #[.val (.int k), .val (.int ((k &&& (2147483647 : Int32)) % (7 : Int32))), .val (.ref oCLNT), .val (.int (0 : Int32)), .val (.int (if (0 : Int32) < (0 : Int32) then (1 : Int32) else (0 : Int32)))] [(.int (0 : Int32)), (.int (if (0 : Int32) < (0 : Int32) then (1 : Int32) else (0 : Int32)))] _
      refine XS.icmpNo X106.here hx rfl (hb hby at_106) rfl (teq (by decide)).2 ?_
      show SS p e below T106 m 109 #[.val (.int k), .val (.int ((k &&& (2147483647 : Int32)) % (7 : Int32))), .val (.ref oCLNT), .val (.int (0 : Int32)), .val (.int (if (0 : Int32) < (0 : Int32) then (1 : Int32) else (0 : Int32)))] [] _
      refine XS.iload X106.here hx rfl (hb hby at_109) rfl ?_
      show SS p e below T106 m 111 #[.val (.int k), .val (.int ((k &&& (2147483647 : Int32)) % (7 : Int32))), .val (.ref oCLNT), .val (.int (0 : Int32)), .val (.int (if (0 : Int32) < (0 : Int32) then (1 : Int32) else (0 : Int32)))] [(.int (if (0 : Int32) < (0 : Int32) then (1 : Int32) else (0 : Int32)))] _
      refine XS.aloadN X106.here hx rfl (hb hby at_111) rfl rfl ?_
      show SS p e below T106 m 112 #[.val (.int k), .val (.int ((k &&& (2147483647 : Int32)) % (7 : Int32))), .val (.ref oCLNT), .val (.int (0 : Int32)), .val (.int (if (0 : Int32) < (0 : Int32) then (1 : Int32) else (0 : Int32)))] [(.ref oCLNT), (.int (if (0 : Int32) < (0 : Int32) then (1 : Int32) else (0 : Int32)))] _
      refine st108.trans ?_
      show SS p e below T108 m 115 #[.val (.int k), .val (.int ((k &&& (2147483647 : Int32)) % (7 : Int32))), .val (.ref oCLNT), .val (.int (0 : Int32)), .val (.int (if (0 : Int32) < (0 : Int32) then (1 : Int32) else (0 : Int32)))] [(.int (0 : Int32)), (.int (if (0 : Int32) < (0 : Int32) then (1 : Int32) else (0 : Int32)))] _
      refine XS.ifYes X108.here hx rfl (pc0 := 115) (pc' := 122) rfl (hb hby at_115) rfl ((if0 _ _).trans (flt (by decide)).2.2.2) (by decide) (by decide) ?_
      show SS p e below T108 m 122 #[.val (.int k), .val (.int ((k &&& (2147483647 : Int32)) % (7 : Int32))), .val (.ref oCLNT), .val (.int (0 : Int32)), .val (.int (if (0 : Int32) < (0 : Int32) then (1 : Int32) else (0 : Int32)))] [(.int (if (0 : Int32) < (0 : Int32) then (1 : Int32) else (0 : Int32)))] _
      refine XS.iconst X108.here hx rfl (hb hby at_122) ?_
      show SS p e below T108 m 123 #[.val (.int k), .val (.int ((k &&& (2147483647 : Int32)) % (7 : Int32))), .val (.ref oCLNT), .val (.int (0 : Int32)), .val (.int (if (0 : Int32) < (0 : Int32) then (1 : Int32) else (0 : Int32)))] [(.int (0 : Int32)), (.int (if (0 : Int32) < (0 : Int32) then (1 : Int32) else (0 : Int32)))] _
      refine XS.icmpNo X108.here hx rfl (hb hby at_123) rfl (teq (by decide)).2 ?_
      show SS p e below T108 m 126 #[.val (.int k), .val (.int ((k &&& (2147483647 : Int32)) % (7 : Int32))), .val (.ref oCLNT), .val (.int (0 : Int32)), .val (.int (if (0 : Int32) < (0 : Int32) then (1 : Int32) else (0 : Int32)))] [] _
      refine XS.iconst X108.here hx rfl (hb hby at_126) ?_
      show SS p e below T108 m 127 #[.val (.int k), .val (.int ((k &&& (2147483647 : Int32)) % (7 : Int32))), .val (.ref oCLNT), .val (.int (0 : Int32)), .val (.int (if (0 : Int32) < (0 : Int32) then (1 : Int32) else (0 : Int32)))] [(.int (1 : Int32))] _
      refine XS.goto X108.here hx rfl (pc0 := 127) (pc' := 131) rfl (hb hby at_127) (by decide) (by decide) ?_
      show SS p e below T108 m 131 #[.val (.int k), .val (.int ((k &&& (2147483647 : Int32)) % (7 : Int32))), .val (.ref oCLNT), .val (.int (0 : Int32)), .val (.int (if (0 : Int32) < (0 : Int32) then (1 : Int32) else (0 : Int32)))] [(.int (1 : Int32))] _
      exact kt
    obtain ⟨fs, hr, hrun, hended, hW, hsame⟩ := X108.leave (v := some (.int (nar .boolean (1 : Int32)))) (fun h => by rw [Bd.returns] at h; cases h)
    refine ⟨_, _, W109 _ (retN X108 hx (t := .boolean) Bd.returns (by simp) (hb hby at_131) hr), hrun, hended, _, _, rfl, ?_, ⟨_, rfl⟩, hW, hsame.mono (by decide) (by decide)⟩
    show Q_law Z k oCLNT oCHAR oNUMC oINT4 oDATS oUTCLONG oRAW h0 n0 _ T108.heap _
    rw [eq108]
    exact ⟨rfl, N108, rfl⟩
  ·
    have W110 : ∀ zQ, SS p e below s₁ m 23 #[.val (.int k), .val (.int ((k &&& (2147483647 : Int32)) % (7 : Int32))), .unset, .unset, .unset] [(.int (1 : Int32)), (.int ((k &&& (2147483647 : Int32)) % (7 : Int32)))] zQ → Steps p.tables e below (s₁.setTop (entryFrame m #[(.int k)] maxLocals)) zQ := by
      intro tt kt
      refine W101 tt ?_
      refine XS.ifYes X0.here hx rfl (pc0 := 9) (pc' := 21) rfl (hb hby at_9) rfl ((if0 _ _).trans (feq hc102).2) (by decide) (by decide) ?_
      show SS p e below s₁ m 21 #[.val (.int k), .val (.int ((k &&& (2147483647 : Int32)) % (7 : Int32))), .unset, .unset, .unset] [] _
      refine XS.iloadN X0.here hx rfl (hb hby at_21) rfl ?_
      show SS p e below s₁ m 22 #[.val (.int k), .val (.int ((k &&& (2147483647 : Int32)) % (7 : Int32))), .unset, .unset, .unset] [(.int ((k &&& (2147483647 : Int32)) % (7 : Int32)))] _
      refine XS.iconst X0.here hx rfl (hb hby at_22) ?_
      show SS p e below s₁ m 23 #[.val (.int k), .val (.int ((k &&& (2147483647 : Int32)) % (7 : Int32))), .unset, .unset, .unset] [(.int (1 : Int32)), (.int ((k &&& (2147483647 : Int32)) % (7 : Int32)))] _
      exact kt
    by_cases hc111 : ((k &&& (2147483647 : Int32)) % (7 : Int32)) = (1 : Int32)
    ·
      have F113 : Sta Z h0 "com/example/composition/composition/model/AbapType" "CHAR" "Lcom/example/composition/composition/model/AbapType;" (.ref oCHAR) := S_CHAR.ext O0.2
      obtain ⟨T112, X112, e112, st112⟩ := getS2 X0 hx hZ hown (host := "") (Or.inl (w26 hw)) Via.refl e0 F113 (g := (mkF m 26 #[.val (.int k), .val (.int ((k &&& (2147483647 : Int32)) % (7 : Int32))), .unset, .unset, .unset] [])) rfl (hb hby at_26)
      have F114 : Fld Z h0 oCHAR "com/example/composition/composition/model/AbapType" "maxLength" "I" (.int (1333 : Int32)) := F_CHAR.ext O0.2
      have F116 : Exa Z h0 oCHAR "com/example/composition/composition/model/AbapType" := E_CHAR.ext O0.2
      obtain ⟨cq115, kq115, q115a, q115b, q115c⟩ := isOf hZ e112 F116
      obtain ⟨_, _, ⟨T115, L115, k115, n115⟩, -, X115, ⟨Lc115, hQ115, l115, y115, z115⟩, st115⟩ := X112.virtualBack hx (y := (⟨"com/example/composition/composition/model/AbapType", "hasLength", "()Z"⟩ : MethodName)) (z := (⟨"com/example/composition/composition/model/AbapType", "hasLength", "()Z"⟩ : MethodName)) hown (mvT hZ (w4 hw)) (mvT hZ (w5 hw)) (notFace_of_selects (args := #[]) (mvT hZ (w7 hw))) (mvT hZ (w7 hw)) (mvT hZ (w6 hw)) (by decide) (backOf (W := 0) (rm_hasLength l Z a0 hw [] oCHAR (1333 : Int32) h0 n0 Z0 F114) hZ (w8 hw) (w2 hw) (by decide) (by decide)) q115a q115c (g := (mkF m 98 #[.val (.int k), .val (.int ((k &&& (2147483647 : Int32)) % (7 : Int32))), .val (.ref oCHAR), .val (.int (1 : Int32)), .unset] [(.ref oCHAR)])) rfl (by rw [hml]; rfl) (Steps.refl _) (argsL := []) (rest := []) (lenOf pd__28__29_Z rfl) rfl (by show 2 * 0 + _ ≤ _; exact Nat.le_of_eq rfl) (hb hby at_98) (fun _ _ => ⟨rfl, e112, (Nat.le_of_ble_eq_true rfl), (Nat.le_of_ble_eq_true rfl)⟩)
      dsimp only [Pt.U, Pt.locs, Pt.cells, Pt.slots] at X115 l115 y115 z115 st115 hQ115
      subst l115 y115 z115
      obtain ⟨rfl, Nq115, eq115⟩ := hQ115
      have N115 := Fr.app N0 Nq115
      obtain ⟨cq117, kq117, q117a, q117b, q117c⟩ := isOf hZ eq115 F116
      obtain ⟨_, _, ⟨T117, L117, k117, n117⟩, -, X117, ⟨Lc117, hQ117, l117, y117, z117⟩, st117⟩ := X115.virtualBack hx (y := (⟨"com/example/composition/composition/model/AbapType", "maxLength", "()I"⟩ : MethodName)) (z := (⟨"com/example/composition/composition/model/AbapType", "maxLength", "()I"⟩ : MethodName)) hown (mvT hZ (w11 hw)) (mvT hZ (w12 hw)) (notFace_of_selects (args := #[]) (mvT hZ (w14 hw))) (mvT hZ (w14 hw)) (mvT hZ (w13 hw)) (by decide) (backOf (W := 1) (rm_maxLength l Z a0 hw [] oCHAR (1333 : Int32) h0 n0 Z0 F114) hZ (w15 hw) (w2 hw) (by decide) (by decide)) q117a q117c (g := (mkF m 112 #[.val (.int k), .val (.int ((k &&& (2147483647 : Int32)) % (7 : Int32))), .val (.ref oCHAR), .val (.int (1 : Int32)), .val (.int (if (0 : Int32) < (1333 : Int32) then (1 : Int32) else (0 : Int32)))] [(.ref oCHAR), (.int (if (0 : Int32) < (1333 : Int32) then (1 : Int32) else (0 : Int32)))])) rfl (by rw [hml]; rfl) (Steps.refl _) (argsL := []) (rest := [(.int (if (0 : Int32) < (1333 : Int32) then (1 : Int32) else (0 : Int32)))]) (lenOf pd__28__29_I rfl) rfl (by show 2 * 0 + _ ≤ _; exact Nat.le_of_eq rfl) (hb hby at_112) (fun _ _ => ⟨rfl, eq115, (Nat.le_of_ble_eq_true rfl), (Nat.le_of_ble_eq_true rfl)⟩)
      dsimp only [Pt.U, Pt.locs, Pt.cells, Pt.slots] at X117 l117 y117 z117 st117 hQ117
      subst l117 y117 z117
      obtain ⟨rfl, Nq117, eq117⟩ := hQ117
      have N117 := Fr.app N115 Nq117
      have W118 : ∀ zQ, SS p e below T117 m 131 #[.val (.int k), .val (.int ((k &&& (2147483647 : Int32)) % (7 : Int32))), .val (.ref oCHAR), .val (.int (1 : Int32)), .val (.int (if (0 : Int32) < (1333 : Int32) then (1 : Int32) else (0 : Int32)))] [(.int (1 : Int32))] zQ → Steps p.tables e below (s₁.setTop (entryFrame m #[(.int k)] maxLocals)) zQ := by
        intro tt kt
        refine W110 tt ?_
        refine XS.icmpNo X0.here hx rfl (hb hby at_23) rfl (teq hc111).2 ?_
        show SS p e below s₁ m 26 #[.val (.int k), .val (.int ((k &&& (2147483647 : Int32)) % (7 : Int32))), .unset, .unset, .unset] [] _
        refine st112 _ ?_
        show SS p e below T112 m 29 #[.val (.int k), .val (.int ((k &&& (2147483647 : Int32)) % (7 : Int32))), .unset, .unset, .unset] [(.ref oCHAR)] _
        refine XS.astoreN X112.here hx rfl (hb hby at_29) rfl rfl (l' := #[.val (.int k), .val (.int ((k &&& (2147483647 : Int32)) % (7 : Int32))), .val (.ref oCHAR), .unset, .unset]) rfl ?_
        show SS p e below T112 m 30 #[.val (.int k), .val (.int ((k &&& (2147483647 : Int32)) % (7 : Int32))), .val (.ref oCHAR), .unset, .unset] [] _
        refine XS.iconst X112.here hx rfl (hb hby at_30) ?_
        show SS p e below T112 m 31 #[.val (.int k), .val (.int ((k &&& (2147483647 : Int32)) % (7 : Int32))), .val (.ref oCHAR), .unset, .unset] [(.int (1 : Int32))] _
        refine XS.istoreN X112.here hx rfl (hb hby at_31) rfl (l' := #[.val (.int k), .val (.int ((k &&& (2147483647 : Int32)) % (7 : Int32))), .val (.ref oCHAR), .val (.int (1 : Int32)), .unset]) rfl ?_
        show SS p e below T112 m 32 #[.val (.int k), .val (.int ((k &&& (2147483647 : Int32)) % (7 : Int32))), .val (.ref oCHAR), .val (.int (1 : Int32)), .unset] [] _
        refine XS.goto X112.here hx rfl (pc0 := 32) (pc' := 97) rfl (hb hby at_32) (by decide) (by decide) ?_
        show SS p e below T112 m 97 #[.val (.int k), .val (.int ((k &&& (2147483647 : Int32)) % (7 : Int32))), .val (.ref oCHAR), .val (.int (1 : Int32)), .unset] [] _
        refine XS.aloadN X112.here hx rfl (hb hby at_97) rfl rfl ?_
        show SS p e below T112 m 98 #[.val (.int k), .val (.int ((k &&& (2147483647 : Int32)) % (7 : Int32))), .val (.ref oCHAR), .val (.int (1 : Int32)), .unset] [(.ref oCHAR)] _
        refine st115.trans ?_
        show SS p e below T115 m 101 #[.val (.int k), .val (.int ((k &&& (2147483647 : Int32)) % (7 : Int32))), .val (.ref oCHAR), .val (.int (1 : Int32)), .unset] [(.int (if (0 : Int32) < (1333 : Int32) then (1 : Int32) else (0 : Int32)))] _
        refine XS.istore X115.here hx rfl (hb hby at_101) rfl (l' := #[.val (.int k), .val (.int ((k &&& (2147483647 : Int32)) % (7 : Int32))), .val (.ref oCHAR), .val (.int (1 : Int32)), .val (.int (if (0 : Int32) < (1333 : Int32) then (1 : Int32) else (0 : Int32)))]) rfl ?_
        show SS p e below T115 m 103 #[.val (.int k), .val (.int ((k &&& (2147483647 : Int32)) % (7 : Int32))), .val (.ref oCHAR), .val (.int (1 : Int32)), .val (.int (if (0 : Int32) < (1333 : Int32) then (1 : Int32) else (0 : Int32)))] [] _
        refine XS.iload X115.here hx rfl (hb hby at_103) rfl ?_
        show SS p e below T115 m 105 #[.val (.int k), .val (.int ((k &&& (2147483647 : Int32)) % (7 : Int32))), .val (.ref oCHAR), .val (.int (1 : Int32)), .val (.int (if (0 : Int32) < (1333 : Int32) then (1 : Int32) else (0 : Int32)))] [(.int (if (0 : Int32) < (1333 : Int32) then (1 : Int32) else (0 : Int32)))] _
        refine XS.iloadN X115.here hx rfl (hb hby at_105) rfl ?_
        show SS p e below T115 m 106 #[.val (.int k), .val (.int ((k &&& (2147483647 : Int32)) % (7 : Int32))), .val (.ref oCHAR), .val (.int (1 : Int32)), .val (.int (if (0 : Int32) < (1333 : Int32) then (1 : Int32) else (0 : Int32)))] [(.int (1 : Int32)), (.int (if (0 : Int32) < (1333 : Int32) then (1 : Int32) else (0 : Int32)))] _
        refine XS.icmpNo X115.here hx rfl (hb hby at_106) rfl (teq (by decide)).2 ?_
        show SS p e below T115 m 109 #[.val (.int k), .val (.int ((k &&& (2147483647 : Int32)) % (7 : Int32))), .val (.ref oCHAR), .val (.int (1 : Int32)), .val (.int (if (0 : Int32) < (1333 : Int32) then (1 : Int32) else (0 : Int32)))] [] _
        refine XS.iload X115.here hx rfl (hb hby at_109) rfl ?_
        show SS p e below T115 m 111 #[.val (.int k), .val (.int ((k &&& (2147483647 : Int32)) % (7 : Int32))), .val (.ref oCHAR), .val (.int (1 : Int32)), .val (.int (if (0 : Int32) < (1333 : Int32) then (1 : Int32) else (0 : Int32)))] [(.int (if (0 : Int32) < (1333 : Int32) then (1 : Int32) else (0 : Int32)))] _
        refine XS.aloadN X115.here hx rfl (hb hby at_111) rfl rfl ?_
        show SS p e below T115 m 112 #[.val (.int k), .val (.int ((k &&& (2147483647 : Int32)) % (7 : Int32))), .val (.ref oCHAR), .val (.int (1 : Int32)), .val (.int (if (0 : Int32) < (1333 : Int32) then (1 : Int32) else (0 : Int32)))] [(.ref oCHAR), (.int (if (0 : Int32) < (1333 : Int32) then (1 : Int32) else (0 : Int32)))] _
        refine st117.trans ?_
        show SS p e below T117 m 115 #[.val (.int k), .val (.int ((k &&& (2147483647 : Int32)) % (7 : Int32))), .val (.ref oCHAR), .val (.int (1 : Int32)), .val (.int (if (0 : Int32) < (1333 : Int32) then (1 : Int32) else (0 : Int32)))] [(.int (1333 : Int32)), (.int (if (0 : Int32) < (1333 : Int32) then (1 : Int32) else (0 : Int32)))] _
        refine XS.ifNo X117.here hx rfl (hb hby at_115) rfl ((if0 _ _).trans (tlt (by decide)).2.2.2) ?_
        show SS p e below T117 m 118 #[.val (.int k), .val (.int ((k &&& (2147483647 : Int32)) % (7 : Int32))), .val (.ref oCHAR), .val (.int (1 : Int32)), .val (.int (if (0 : Int32) < (1333 : Int32) then (1 : Int32) else (0 : Int32)))] [(.int (if (0 : Int32) < (1333 : Int32) then (1 : Int32) else (0 : Int32)))] _
        refine XS.iconst X117.here hx rfl (hb hby at_118) ?_
        show SS p e below T117 m 119 #[.val (.int k), .val (.int ((k &&& (2147483647 : Int32)) % (7 : Int32))), .val (.ref oCHAR), .val (.int (1 : Int32)), .val (.int (if (0 : Int32) < (1333 : Int32) then (1 : Int32) else (0 : Int32)))] [(.int (1 : Int32)), (.int (if (0 : Int32) < (1333 : Int32) then (1 : Int32) else (0 : Int32)))] _
        refine XS.goto X117.here hx rfl (pc0 := 119) (pc' := 123) rfl (hb hby at_119) (by decide) (by decide) ?_
        show SS p e below T117 m 123 #[.val (.int k), .val (.int ((k &&& (2147483647 : Int32)) % (7 : Int32))), .val (.ref oCHAR), .val (.int (1 : Int32)), .val (.int (if (0 : Int32) < (1333 : Int32) then (1 : Int32) else (0 : Int32)))] [(.int (1 : Int32)), (.int (if (0 : Int32) < (1333 : Int32) then (1 : Int32) else (0 : Int32)))] _
        refine XS.icmpNo X117.here hx rfl (hb hby at_123) rfl (teq (by decide)).2 ?_
        show SS p e below T117 m 126 #[.val (.int k), .val (.int ((k &&& (2147483647 : Int32)) % (7 : Int32))), .val (.ref oCHAR), .val (.int (1 : Int32)), .val (.int (if (0 : Int32) < (1333 : Int32) then (1 : Int32) else (0 : Int32)))] [] _
        refine XS.iconst X117.here hx rfl (hb hby at_126) ?_
        show SS p e below T117 m 127 #[.val (.int k), .val (.int ((k &&& (2147483647 : Int32)) % (7 : Int32))), .val (.ref oCHAR), .val (.int (1 : Int32)), .val (.int (if (0 : Int32) < (1333 : Int32) then (1 : Int32) else (0 : Int32)))] [(.int (1 : Int32))] _
        refine XS.goto X117.here hx rfl (pc0 := 127) (pc' := 131) rfl (hb hby at_127) (by decide) (by decide) ?_
        show SS p e below T117 m 131 #[.val (.int k), .val (.int ((k &&& (2147483647 : Int32)) % (7 : Int32))), .val (.ref oCHAR), .val (.int (1 : Int32)), .val (.int (if (0 : Int32) < (1333 : Int32) then (1 : Int32) else (0 : Int32)))] [(.int (1 : Int32))] _
        exact kt
      obtain ⟨fs, hr, hrun, hended, hW, hsame⟩ := X117.leave (v := some (.int (nar .boolean (1 : Int32)))) (fun h => by rw [Bd.returns] at h; cases h)
      refine ⟨_, _, W118 _ (retN X117 hx (t := .boolean) Bd.returns (by simp) (hb hby at_131) hr), hrun, hended, _, _, rfl, ?_, ⟨_, rfl⟩, hW, hsame.mono (by decide) (by decide)⟩
      show Q_law Z k oCLNT oCHAR oNUMC oINT4 oDATS oUTCLONG oRAW h0 n0 _ T117.heap _
      rw [eq117]
      exact ⟨rfl, N117, rfl⟩
    ·
      have W119 : ∀ zQ, SS p e below s₁ m 37 #[.val (.int k), .val (.int ((k &&& (2147483647 : Int32)) % (7 : Int32))), .unset, .unset, .unset] [(.int (2 : Int32)), (.int ((k &&& (2147483647 : Int32)) % (7 : Int32)))] zQ → Steps p.tables e below (s₁.setTop (entryFrame m #[(.int k)] maxLocals)) zQ := by
        intro tt kt
        refine W110 tt ?_
        refine XS.icmpYes X0.here hx rfl (pc0 := 23) (pc' := 35) rfl (hb hby at_23) rfl (feq hc111).2 (by decide) (by decide) ?_
        show SS p e below s₁ m 35 #[.val (.int k), .val (.int ((k &&& (2147483647 : Int32)) % (7 : Int32))), .unset, .unset, .unset] [] _
        refine XS.iloadN X0.here hx rfl (hb hby at_35) rfl ?_
        show SS p e below s₁ m 36 #[.val (.int k), .val (.int ((k &&& (2147483647 : Int32)) % (7 : Int32))), .unset, .unset, .unset] [(.int ((k &&& (2147483647 : Int32)) % (7 : Int32)))] _
        refine XS.iconst X0.here hx rfl (hb hby at_36) ?_
        show SS p e below s₁ m 37 #[.val (.int k), .val (.int ((k &&& (2147483647 : Int32)) % (7 : Int32))), .unset, .unset, .unset] [(.int (2 : Int32)), (.int ((k &&& (2147483647 : Int32)) % (7 : Int32)))] _
        exact kt
      by_cases hc120 : ((k &&& (2147483647 : Int32)) % (7 : Int32)) = (2 : Int32)
      ·
        have F122 : Sta Z h0 "com/example/composition/composition/model/AbapType" "NUMC" "Lcom/example/composition/composition/model/AbapType;" (.ref oNUMC) := S_NUMC.ext O0.2
        obtain ⟨T121, X121, e121, st121⟩ := getS2 X0 hx hZ hown (host := "") (Or.inl (w24 hw)) Via.refl e0 F122 (g := (mkF m 40 #[.val (.int k), .val (.int ((k &&& (2147483647 : Int32)) % (7 : Int32))), .unset, .unset, .unset] [])) rfl (hb hby at_40)
        have F123 : Fld Z h0 oNUMC "com/example/composition/composition/model/AbapType" "maxLength" "I" (.int (255 : Int32)) := F_NUMC.ext O0.2
        have F125 : Exa Z h0 oNUMC "com/example/composition/composition/model/AbapType" := E_NUMC.ext O0.2
        obtain ⟨cq124, kq124, q124a, q124b, q124c⟩ := isOf hZ e121 F125
        obtain ⟨_, _, ⟨T124, L124, k124, n124⟩, -, X124, ⟨Lc124, hQ124, l124, y124, z124⟩, st124⟩ := X121.virtualBack hx (y := (⟨"com/example/composition/composition/model/AbapType", "hasLength", "()Z"⟩ : MethodName)) (z := (⟨"com/example/composition/composition/model/AbapType", "hasLength", "()Z"⟩ : MethodName)) hown (mvT hZ (w4 hw)) (mvT hZ (w5 hw)) (notFace_of_selects (args := #[]) (mvT hZ (w7 hw))) (mvT hZ (w7 hw)) (mvT hZ (w6 hw)) (by decide) (backOf (W := 0) (rm_hasLength l Z a0 hw [] oNUMC (255 : Int32) h0 n0 Z0 F123) hZ (w8 hw) (w2 hw) (by decide) (by decide)) q124a q124c (g := (mkF m 98 #[.val (.int k), .val (.int ((k &&& (2147483647 : Int32)) % (7 : Int32))), .val (.ref oNUMC), .val (.int (1 : Int32)), .unset] [(.ref oNUMC)])) rfl (by rw [hml]; rfl) (Steps.refl _) (argsL := []) (rest := []) (lenOf pd__28__29_Z rfl) rfl (by show 2 * 0 + _ ≤ _; exact Nat.le_of_eq rfl) (hb hby at_98) (fun _ _ => ⟨rfl, e121, (Nat.le_of_ble_eq_true rfl), (Nat.le_of_ble_eq_true rfl)⟩)
        dsimp only [Pt.U, Pt.locs, Pt.cells, Pt.slots] at X124 l124 y124 z124 st124 hQ124
        subst l124 y124 z124
        obtain ⟨rfl, Nq124, eq124⟩ := hQ124
        have N124 := Fr.app N0 Nq124
        obtain ⟨cq126, kq126, q126a, q126b, q126c⟩ := isOf hZ eq124 F125
        obtain ⟨_, _, ⟨T126, L126, k126, n126⟩, -, X126, ⟨Lc126, hQ126, l126, y126, z126⟩, st126⟩ := X124.virtualBack hx (y := (⟨"com/example/composition/composition/model/AbapType", "maxLength", "()I"⟩ : MethodName)) (z := (⟨"com/example/composition/composition/model/AbapType", "maxLength", "()I"⟩ : MethodName)) hown (mvT hZ (w11 hw)) (mvT hZ (w12 hw)) (notFace_of_selects (args := #[]) (mvT hZ (w14 hw))) (mvT hZ (w14 hw)) (mvT hZ (w13 hw)) (by decide) (backOf (W := 1) (rm_maxLength l Z a0 hw [] oNUMC (255 : Int32) h0 n0 Z0 F123) hZ (w15 hw) (w2 hw) (by decide) (by decide)) q126a q126c (g := (mkF m 112 #[.val (.int k), .val (.int ((k &&& (2147483647 : Int32)) % (7 : Int32))), .val (.ref oNUMC), .val (.int (1 : Int32)), .val (.int (if (0 : Int32) < (255 : Int32) then (1 : Int32) else (0 : Int32)))] [(.ref oNUMC), (.int (if (0 : Int32) < (255 : Int32) then (1 : Int32) else (0 : Int32)))])) rfl (by rw [hml]; rfl) (Steps.refl _) (argsL := []) (rest := [(.int (if (0 : Int32) < (255 : Int32) then (1 : Int32) else (0 : Int32)))]) (lenOf pd__28__29_I rfl) rfl (by show 2 * 0 + _ ≤ _; exact Nat.le_of_eq rfl) (hb hby at_112) (fun _ _ => ⟨rfl, eq124, (Nat.le_of_ble_eq_true rfl), (Nat.le_of_ble_eq_true rfl)⟩)
        dsimp only [Pt.U, Pt.locs, Pt.cells, Pt.slots] at X126 l126 y126 z126 st126 hQ126
        subst l126 y126 z126
        obtain ⟨rfl, Nq126, eq126⟩ := hQ126
        have N126 := Fr.app N124 Nq126
        have W127 : ∀ zQ, SS p e below T126 m 131 #[.val (.int k), .val (.int ((k &&& (2147483647 : Int32)) % (7 : Int32))), .val (.ref oNUMC), .val (.int (1 : Int32)), .val (.int (if (0 : Int32) < (255 : Int32) then (1 : Int32) else (0 : Int32)))] [(.int (1 : Int32))] zQ → Steps p.tables e below (s₁.setTop (entryFrame m #[(.int k)] maxLocals)) zQ := by
          intro tt kt
          refine W119 tt ?_
          refine XS.icmpNo X0.here hx rfl (hb hby at_37) rfl (teq hc120).2 ?_
          show SS p e below s₁ m 40 #[.val (.int k), .val (.int ((k &&& (2147483647 : Int32)) % (7 : Int32))), .unset, .unset, .unset] [] _
          refine st121 _ ?_
          show SS p e below T121 m 43 #[.val (.int k), .val (.int ((k &&& (2147483647 : Int32)) % (7 : Int32))), .unset, .unset, .unset] [(.ref oNUMC)] _
          refine XS.astoreN X121.here hx rfl (hb hby at_43) rfl rfl (l' := #[.val (.int k), .val (.int ((k &&& (2147483647 : Int32)) % (7 : Int32))), .val (.ref oNUMC), .unset, .unset]) rfl ?_
          show SS p e below T121 m 44 #[.val (.int k), .val (.int ((k &&& (2147483647 : Int32)) % (7 : Int32))), .val (.ref oNUMC), .unset, .unset] [] _
          refine XS.iconst X121.here hx rfl (hb hby at_44) ?_
          show SS p e below T121 m 45 #[.val (.int k), .val (.int ((k &&& (2147483647 : Int32)) % (7 : Int32))), .val (.ref oNUMC), .unset, .unset] [(.int (1 : Int32))] _
          refine XS.istoreN X121.here hx rfl (hb hby at_45) rfl (l' := #[.val (.int k), .val (.int ((k &&& (2147483647 : Int32)) % (7 : Int32))), .val (.ref oNUMC), .val (.int (1 : Int32)), .unset]) rfl ?_
          show SS p e below T121 m 46 #[.val (.int k), .val (.int ((k &&& (2147483647 : Int32)) % (7 : Int32))), .val (.ref oNUMC), .val (.int (1 : Int32)), .unset] [] _
          refine XS.goto X121.here hx rfl (pc0 := 46) (pc' := 97) rfl (hb hby at_46) (by decide) (by decide) ?_
          show SS p e below T121 m 97 #[.val (.int k), .val (.int ((k &&& (2147483647 : Int32)) % (7 : Int32))), .val (.ref oNUMC), .val (.int (1 : Int32)), .unset] [] _
          refine XS.aloadN X121.here hx rfl (hb hby at_97) rfl rfl ?_
          show SS p e below T121 m 98 #[.val (.int k), .val (.int ((k &&& (2147483647 : Int32)) % (7 : Int32))), .val (.ref oNUMC), .val (.int (1 : Int32)), .unset] [(.ref oNUMC)] _
          refine st124.trans ?_
          show SS p e below T124 m 101 #[.val (.int k), .val (.int ((k &&& (2147483647 : Int32)) % (7 : Int32))), .val (.ref oNUMC), .val (.int (1 : Int32)), .unset] [(.int (if (0 : Int32) < (255 : Int32) then (1 : Int32) else (0 : Int32)))] _
          refine XS.istore X124.here hx rfl (hb hby at_101) rfl (l' := #[.val (.int k), .val (.int ((k &&& (2147483647 : Int32)) % (7 : Int32))), .val (.ref oNUMC), .val (.int (1 : Int32)), .val (.int (if (0 : Int32) < (255 : Int32) then (1 : Int32) else (0 : Int32)))]) rfl ?_
          show SS p e below T124 m 103 #[.val (.int k), .val (.int ((k &&& (2147483647 : Int32)) % (7 : Int32))), .val (.ref oNUMC), .val (.int (1 : Int32)), .val (.int (if (0 : Int32) < (255 : Int32) then (1 : Int32) else (0 : Int32)))] [] _
          refine XS.iload X124.here hx rfl (hb hby at_103) rfl ?_
          show SS p e below T124 m 105 #[.val (.int k), .val (.int ((k &&& (2147483647 : Int32)) % (7 : Int32))), .val (.ref oNUMC), .val (.int (1 : Int32)), .val (.int (if (0 : Int32) < (255 : Int32) then (1 : Int32) else (0 : Int32)))] [(.int (if (0 : Int32) < (255 : Int32) then (1 : Int32) else (0 : Int32)))] _
          refine XS.iloadN X124.here hx rfl (hb hby at_105) rfl ?_
          show SS p e below T124 m 106 #[.val (.int k), .val (.int ((k &&& (2147483647 : Int32)) % (7 : Int32))), .val (.ref oNUMC), .val (.int (1 : Int32)), .val (.int (if (0 : Int32) < (255 : Int32) then (1 : Int32) else (0 : Int32)))] [(.int (1 : Int32)), (.int (if (0 : Int32) < (255 : Int32) then (1 : Int32) else (0 : Int32)))] _
          refine XS.icmpNo X124.here hx rfl (hb hby at_106) rfl (teq (by decide)).2 ?_
          show SS p e below T124 m 109 #[.val (.int k), .val (.int ((k &&& (2147483647 : Int32)) % (7 : Int32))), .val (.ref oNUMC), .val (.int (1 : Int32)), .val (.int (if (0 : Int32) < (255 : Int32) then (1 : Int32) else (0 : Int32)))] [] _
          refine XS.iload X124.here hx rfl (hb hby at_109) rfl ?_
          show SS p e below T124 m 111 #[.val (.int k), .val (.int ((k &&& (2147483647 : Int32)) % (7 : Int32))), .val (.ref oNUMC), .val (.int (1 : Int32)), .val (.int (if (0 : Int32) < (255 : Int32) then (1 : Int32) else (0 : Int32)))] [(.int (if (0 : Int32) < (255 : Int32) then (1 : Int32) else (0 : Int32)))] _
          refine XS.aloadN X124.here hx rfl (hb hby at_111) rfl rfl ?_
          show SS p e below T124 m 112 #[.val (.int k), .val (.int ((k &&& (2147483647 : Int32)) % (7 : Int32))), .val (.ref oNUMC), .val (.int (1 : Int32)), .val (.int (if (0 : Int32) < (255 : Int32) then (1 : Int32) else (0 : Int32)))] [(.ref oNUMC), (.int (if (0 : Int32) < (255 : Int32) then (1 : Int32) else (0 : Int32)))] _
          refine st126.trans ?_
          show SS p e below T126 m 115 #[.val (.int k), .val (.int ((k &&& (2147483647 : Int32)) % (7 : Int32))), .val (.ref oNUMC), .val (.int (1 : Int32)), .val (.int (if (0 : Int32) < (255 : Int32) then (1 : Int32) else (0 : Int32)))] [(.int (255 : Int32)), (.int (if (0 : Int32) < (255 : Int32) then (1 : Int32) else (0 : Int32)))] _
          refine XS.ifNo X126.here hx rfl (hb hby at_115) rfl ((if0 _ _).trans (tlt (by decide)).2.2.2) ?_
          show SS p e below T126 m 118 #[.val (.int k), .val (.int ((k &&& (2147483647 : Int32)) % (7 : Int32))), .val (.ref oNUMC), .val (.int (1 : Int32)), .val (.int (if (0 : Int32) < (255 : Int32) then (1 : Int32) else (0 : Int32)))] [(.int (if (0 : Int32) < (255 : Int32) then (1 : Int32) else (0 : Int32)))] _
          refine XS.iconst X126.here hx rfl (hb hby at_118) ?_
          show SS p e below T126 m 119 #[.val (.int k), .val (.int ((k &&& (2147483647 : Int32)) % (7 : Int32))), .val (.ref oNUMC), .val (.int (1 : Int32)), .val (.int (if (0 : Int32) < (255 : Int32) then (1 : Int32) else (0 : Int32)))] [(.int (1 : Int32)), (.int (if (0 : Int32) < (255 : Int32) then (1 : Int32) else (0 : Int32)))] _
          refine XS.goto X126.here hx rfl (pc0 := 119) (pc' := 123) rfl (hb hby at_119) (by decide) (by decide) ?_
          show SS p e below T126 m 123 #[.val (.int k), .val (.int ((k &&& (2147483647 : Int32)) % (7 : Int32))), .val (.ref oNUMC), .val (.int (1 : Int32)), .val (.int (if (0 : Int32) < (255 : Int32) then (1 : Int32) else (0 : Int32)))] [(.int (1 : Int32)), (.int (if (0 : Int32) < (255 : Int32) then (1 : Int32) else (0 : Int32)))] _
          refine XS.icmpNo X126.here hx rfl (hb hby at_123) rfl (teq (by decide)).2 ?_
          show SS p e below T126 m 126 #[.val (.int k), .val (.int ((k &&& (2147483647 : Int32)) % (7 : Int32))), .val (.ref oNUMC), .val (.int (1 : Int32)), .val (.int (if (0 : Int32) < (255 : Int32) then (1 : Int32) else (0 : Int32)))] [] _
          refine XS.iconst X126.here hx rfl (hb hby at_126) ?_
          show SS p e below T126 m 127 #[.val (.int k), .val (.int ((k &&& (2147483647 : Int32)) % (7 : Int32))), .val (.ref oNUMC), .val (.int (1 : Int32)), .val (.int (if (0 : Int32) < (255 : Int32) then (1 : Int32) else (0 : Int32)))] [(.int (1 : Int32))] _
          refine XS.goto X126.here hx rfl (pc0 := 127) (pc' := 131) rfl (hb hby at_127) (by decide) (by decide) ?_
          show SS p e below T126 m 131 #[.val (.int k), .val (.int ((k &&& (2147483647 : Int32)) % (7 : Int32))), .val (.ref oNUMC), .val (.int (1 : Int32)), .val (.int (if (0 : Int32) < (255 : Int32) then (1 : Int32) else (0 : Int32)))] [(.int (1 : Int32))] _
          exact kt
        obtain ⟨fs, hr, hrun, hended, hW, hsame⟩ := X126.leave (v := some (.int (nar .boolean (1 : Int32)))) (fun h => by rw [Bd.returns] at h; cases h)
        refine ⟨_, _, W127 _ (retN X126 hx (t := .boolean) Bd.returns (by simp) (hb hby at_131) hr), hrun, hended, _, _, rfl, ?_, ⟨_, rfl⟩, hW, hsame.mono (by decide) (by decide)⟩
        show Q_law Z k oCLNT oCHAR oNUMC oINT4 oDATS oUTCLONG oRAW h0 n0 _ T126.heap _
        rw [eq126]
        exact ⟨rfl, N126, rfl⟩
      ·
        have W128 : ∀ zQ, SS p e below s₁ m 51 #[.val (.int k), .val (.int ((k &&& (2147483647 : Int32)) % (7 : Int32))), .unset, .unset, .unset] [(.int (3 : Int32)), (.int ((k &&& (2147483647 : Int32)) % (7 : Int32)))] zQ → Steps p.tables e below (s₁.setTop (entryFrame m #[(.int k)] maxLocals)) zQ := by
          intro tt kt
          refine W119 tt ?_
          refine XS.icmpYes X0.here hx rfl (pc0 := 37) (pc' := 49) rfl (hb hby at_37) rfl (feq hc120).2 (by decide) (by decide) ?_
          show SS p e below s₁ m 49 #[.val (.int k), .val (.int ((k &&& (2147483647 : Int32)) % (7 : Int32))), .unset, .unset, .unset] [] _
          refine XS.iloadN X0.here hx rfl (hb hby at_49) rfl ?_
          show SS p e below s₁ m 50 #[.val (.int k), .val (.int ((k &&& (2147483647 : Int32)) % (7 : Int32))), .unset, .unset, .unset] [(.int ((k &&& (2147483647 : Int32)) % (7 : Int32)))] _
          refine XS.iconst X0.here hx rfl (hb hby at_50) ?_
          show SS p e below s₁ m 51 #[.val (.int k), .val (.int ((k &&& (2147483647 : Int32)) % (7 : Int32))), .unset, .unset, .unset] [(.int (3 : Int32)), (.int ((k &&& (2147483647 : Int32)) % (7 : Int32)))] _
          exact kt
        by_cases hc129 : ((k &&& (2147483647 : Int32)) % (7 : Int32)) = (3 : Int32)
        ·
          have F131 : Sta Z h0 "com/example/composition/composition/model/AbapType" "INT4" "Lcom/example/composition/composition/model/AbapType;" (.ref oINT4) := S_INT4.ext O0.2
          obtain ⟨T130, X130, e130, st130⟩ := getS2 X0 hx hZ hown (host := "") (Or.inl (w16 hw)) Via.refl e0 F131 (g := (mkF m 54 #[.val (.int k), .val (.int ((k &&& (2147483647 : Int32)) % (7 : Int32))), .unset, .unset, .unset] [])) rfl (hb hby at_54)
          have F132 : Fld Z h0 oINT4 "com/example/composition/composition/model/AbapType" "maxLength" "I" (.int (0 : Int32)) := F_INT4.ext O0.2
          have F134 : Exa Z h0 oINT4 "com/example/composition/composition/model/AbapType" := E_INT4.ext O0.2
          obtain ⟨cq133, kq133, q133a, q133b, q133c⟩ := isOf hZ e130 F134
          obtain ⟨_, _, ⟨T133, L133, k133, n133⟩, -, X133, ⟨Lc133, hQ133, l133, y133, z133⟩, st133⟩ := X130.virtualBack hx (y := (⟨"com/example/composition/composition/model/AbapType", "hasLength", "()Z"⟩ : MethodName)) (z := (⟨"com/example/composition/composition/model/AbapType", "hasLength", "()Z"⟩ : MethodName)) hown (mvT hZ (w4 hw)) (mvT hZ (w5 hw)) (notFace_of_selects (args := #[]) (mvT hZ (w7 hw))) (mvT hZ (w7 hw)) (mvT hZ (w6 hw)) (by decide) (backOf (W := 0) (rm_hasLength l Z a0 hw [] oINT4 (0 : Int32) h0 n0 Z0 F132) hZ (w8 hw) (w2 hw) (by decide) (by decide)) q133a q133c (g := (mkF m 98 #[.val (.int k), .val (.int ((k &&& (2147483647 : Int32)) % (7 : Int32))), .val (.ref oINT4), .val (.int (0 : Int32)), .unset] [(.ref oINT4)])) rfl (by rw [hml]; rfl) (Steps.refl _) (argsL := []) (rest := []) (lenOf pd__28__29_Z rfl) rfl (by show 2 * 0 + _ ≤ _; exact Nat.le_of_eq rfl) (hb hby at_98) (fun _ _ => ⟨rfl, e130, (Nat.le_of_ble_eq_true rfl), (Nat.le_of_ble_eq_true rfl)⟩)
          dsimp only [Pt.U, Pt.locs, Pt.cells, Pt.slots] at X133 l133 y133 z133 st133 hQ133
          subst l133 y133 z133
          obtain ⟨rfl, Nq133, eq133⟩ := hQ133
          have N133 := Fr.app N0 Nq133
          obtain ⟨cq135, kq135, q135a, q135b, q135c⟩ := isOf hZ eq133 F134
          obtain ⟨_, _, ⟨T135, L135, k135, n135⟩, -, X135, ⟨Lc135, hQ135, l135, y135, z135⟩, st135⟩ := X133.virtualBack hx (y := (⟨"com/example/composition/composition/model/AbapType", "maxLength", "()I"⟩ : MethodName)) (z := (⟨"com/example/composition/composition/model/AbapType", "maxLength", "()I"⟩ : MethodName)) hown (mvT hZ (w11 hw)) (mvT hZ (w12 hw)) (notFace_of_selects (args := #[]) (mvT hZ (w14 hw))) (mvT hZ (w14 hw)) (mvT hZ (w13 hw)) (by decide) (backOf (W := 1) (rm_maxLength l Z a0 hw [] oINT4 (0 : Int32) h0 n0 Z0 F132) hZ (w15 hw) (w2 hw) (by decide) (by decide)) q135a q135c (g := (mkF m 112 #[.val (.int k), .val (.int ((k &&& (2147483647 : Int32)) % (7 : Int32))), .val (.ref oINT4), .val (.int (0 : Int32)), .val (.int (if (0 : Int32) < (0 : Int32) then (1 : Int32) else (0 : Int32)))] [(.ref oINT4), (.int (if (0 : Int32) < (0 : Int32) then (1 : Int32) else (0 : Int32)))])) rfl (by rw [hml]; rfl) (Steps.refl _) (argsL := []) (rest := [(.int (if (0 : Int32) < (0 : Int32) then (1 : Int32) else (0 : Int32)))]) (lenOf pd__28__29_I rfl) rfl (by show 2 * 0 + _ ≤ _; exact Nat.le_of_eq rfl) (hb hby at_112) (fun _ _ => ⟨rfl, eq133, (Nat.le_of_ble_eq_true rfl), (Nat.le_of_ble_eq_true rfl)⟩)
          dsimp only [Pt.U, Pt.locs, Pt.cells, Pt.slots] at X135 l135 y135 z135 st135 hQ135
          subst l135 y135 z135
          obtain ⟨rfl, Nq135, eq135⟩ := hQ135
          have N135 := Fr.app N133 Nq135
          have W136 : ∀ zQ, SS p e below T135 m 131 #[.val (.int k), .val (.int ((k &&& (2147483647 : Int32)) % (7 : Int32))), .val (.ref oINT4), .val (.int (0 : Int32)), .val (.int (if (0 : Int32) < (0 : Int32) then (1 : Int32) else (0 : Int32)))] [(.int (1 : Int32))] zQ → Steps p.tables e below (s₁.setTop (entryFrame m #[(.int k)] maxLocals)) zQ := by
            intro tt kt
            refine W128 tt ?_
            refine XS.icmpNo X0.here hx rfl (hb hby at_51) rfl (teq hc129).2 ?_
            show SS p e below s₁ m 54 #[.val (.int k), .val (.int ((k &&& (2147483647 : Int32)) % (7 : Int32))), .unset, .unset, .unset] [] _
            refine st130 _ ?_
            show SS p e below T130 m 57 #[.val (.int k), .val (.int ((k &&& (2147483647 : Int32)) % (7 : Int32))), .unset, .unset, .unset] [(.ref oINT4)] _
            refine XS.astoreN X130.here hx rfl (hb hby at_57) rfl rfl (l' := #[.val (.int k), .val (.int ((k &&& (2147483647 : Int32)) % (7 : Int32))), .val (.ref oINT4), .unset, .unset]) rfl ?_
            show SS p e below T130 m 58 #[.val (.int k), .val (.int ((k &&& (2147483647 : Int32)) % (7 : Int32))), .val (.ref oINT4), .unset, .unset] [] _
            refine XS.iconst X130.here hx rfl (hb hby at_58) ?_
            show SS p e below T130 m 59 #[.val (.int k), .val (.int ((k &&& (2147483647 : Int32)) % (7 : Int32))), .val (.ref oINT4), .unset, .unset] [(.int (0 : Int32))] _
            refine XS.istoreN X130.here hx rfl (hb hby at_59) rfl (l' := #[.val (.int k), .val (.int ((k &&& (2147483647 : Int32)) % (7 : Int32))), .val (.ref oINT4), .val (.int (0 : Int32)), .unset]) rfl ?_
            show SS p e below T130 m 60 #[.val (.int k), .val (.int ((k &&& (2147483647 : Int32)) % (7 : Int32))), .val (.ref oINT4), .val (.int (0 : Int32)), .unset] [] _
            refine XS.goto X130.here hx rfl (pc0 := 60) (pc' := 97) rfl (hb hby at_60) (by decide) (by decide) ?_
            show SS p e below T130 m 97 #[.val (.int k), .val (.int ((k &&& (2147483647 : Int32)) % (7 : Int32))), .val (.ref oINT4), .val (.int (0 : Int32)), .unset] [] _
            refine XS.aloadN X130.here hx rfl (hb hby at_97) rfl rfl ?_
            show SS p e below T130 m 98 #[.val (.int k), .val (.int ((k &&& (2147483647 : Int32)) % (7 : Int32))), .val (.ref oINT4), .val (.int (0 : Int32)), .unset] [(.ref oINT4)] _
            refine st133.trans ?_
            show SS p e below T133 m 101 #[.val (.int k), .val (.int ((k &&& (2147483647 : Int32)) % (7 : Int32))), .val (.ref oINT4), .val (.int (0 : Int32)), .unset] [(.int (if (0 : Int32) < (0 : Int32) then (1 : Int32) else (0 : Int32)))] _
            refine XS.istore X133.here hx rfl (hb hby at_101) rfl (l' := #[.val (.int k), .val (.int ((k &&& (2147483647 : Int32)) % (7 : Int32))), .val (.ref oINT4), .val (.int (0 : Int32)), .val (.int (if (0 : Int32) < (0 : Int32) then (1 : Int32) else (0 : Int32)))]) rfl ?_
            show SS p e below T133 m 103 #[.val (.int k), .val (.int ((k &&& (2147483647 : Int32)) % (7 : Int32))), .val (.ref oINT4), .val (.int (0 : Int32)), .val (.int (if (0 : Int32) < (0 : Int32) then (1 : Int32) else (0 : Int32)))] [] _
            refine XS.iload X133.here hx rfl (hb hby at_103) rfl ?_
            show SS p e below T133 m 105 #[.val (.int k), .val (.int ((k &&& (2147483647 : Int32)) % (7 : Int32))), .val (.ref oINT4), .val (.int (0 : Int32)), .val (.int (if (0 : Int32) < (0 : Int32) then (1 : Int32) else (0 : Int32)))] [(.int (if (0 : Int32) < (0 : Int32) then (1 : Int32) else (0 : Int32)))] _
            refine XS.iloadN X133.here hx rfl (hb hby at_105) rfl ?_
            show SS p e below T133 m 106 #[.val (.int k), .val (.int ((k &&& (2147483647 : Int32)) % (7 : Int32))), .val (.ref oINT4), .val (.int (0 : Int32)), .val (.int (if (0 : Int32) < (0 : Int32) then (1 : Int32) else (0 : Int32)))] [(.int (0 : Int32)), (.int (if (0 : Int32) < (0 : Int32) then (1 : Int32) else (0 : Int32)))] _
            refine XS.icmpNo X133.here hx rfl (hb hby at_106) rfl (teq (by decide)).2 ?_
            show SS p e below T133 m 109 #[.val (.int k), .val (.int ((k &&& (2147483647 : Int32)) % (7 : Int32))), .val (.ref oINT4), .val (.int (0 : Int32)), .val (.int (if (0 : Int32) < (0 : Int32) then (1 : Int32) else (0 : Int32)))] [] _
            refine XS.iload X133.here hx rfl (hb hby at_109) rfl ?_
            show SS p e below T133 m 111 #[.val (.int k), .val (.int ((k &&& (2147483647 : Int32)) % (7 : Int32))), .val (.ref oINT4), .val (.int (0 : Int32)), .val (.int (if (0 : Int32) < (0 : Int32) then (1 : Int32) else (0 : Int32)))] [(.int (if (0 : Int32) < (0 : Int32) then (1 : Int32) else (0 : Int32)))] _
            refine XS.aloadN X133.here hx rfl (hb hby at_111) rfl rfl ?_
            show SS p e below T133 m 112 #[.val (.int k), .val (.int ((k &&& (2147483647 : Int32)) % (7 : Int32))), .val (.ref oINT4), .val (.int (0 : Int32)), .val (.int (if (0 : Int32) < (0 : Int32) then (1 : Int32) else (0 : Int32)))] [(.ref oINT4), (.int (if (0 : Int32) < (0 : Int32) then (1 : Int32) else (0 : Int32)))] _
            refine st135.trans ?_
            show SS p e below T135 m 115 #[.val (.int k), .val (.int ((k &&& (2147483647 : Int32)) % (7 : Int32))), .val (.ref oINT4), .val (.int (0 : Int32)), .val (.int (if (0 : Int32) < (0 : Int32) then (1 : Int32) else (0 : Int32)))] [(.int (0 : Int32)), (.int (if (0 : Int32) < (0 : Int32) then (1 : Int32) else (0 : Int32)))] _
            refine XS.ifYes X135.here hx rfl (pc0 := 115) (pc' := 122) rfl (hb hby at_115) rfl ((if0 _ _).trans (flt (by decide)).2.2.2) (by decide) (by decide) ?_
            show SS p e below T135 m 122 #[.val (.int k), .val (.int ((k &&& (2147483647 : Int32)) % (7 : Int32))), .val (.ref oINT4), .val (.int (0 : Int32)), .val (.int (if (0 : Int32) < (0 : Int32) then (1 : Int32) else (0 : Int32)))] [(.int (if (0 : Int32) < (0 : Int32) then (1 : Int32) else (0 : Int32)))] _
            refine XS.iconst X135.here hx rfl (hb hby at_122) ?_
            show SS p e below T135 m 123 #[.val (.int k), .val (.int ((k &&& (2147483647 : Int32)) % (7 : Int32))), .val (.ref oINT4), .val (.int (0 : Int32)), .val (.int (if (0 : Int32) < (0 : Int32) then (1 : Int32) else (0 : Int32)))] [(.int (0 : Int32)), (.int (if (0 : Int32) < (0 : Int32) then (1 : Int32) else (0 : Int32)))] _
            refine XS.icmpNo X135.here hx rfl (hb hby at_123) rfl (teq (by decide)).2 ?_
            show SS p e below T135 m 126 #[.val (.int k), .val (.int ((k &&& (2147483647 : Int32)) % (7 : Int32))), .val (.ref oINT4), .val (.int (0 : Int32)), .val (.int (if (0 : Int32) < (0 : Int32) then (1 : Int32) else (0 : Int32)))] [] _
            refine XS.iconst X135.here hx rfl (hb hby at_126) ?_
            show SS p e below T135 m 127 #[.val (.int k), .val (.int ((k &&& (2147483647 : Int32)) % (7 : Int32))), .val (.ref oINT4), .val (.int (0 : Int32)), .val (.int (if (0 : Int32) < (0 : Int32) then (1 : Int32) else (0 : Int32)))] [(.int (1 : Int32))] _
            refine XS.goto X135.here hx rfl (pc0 := 127) (pc' := 131) rfl (hb hby at_127) (by decide) (by decide) ?_
            show SS p e below T135 m 131 #[.val (.int k), .val (.int ((k &&& (2147483647 : Int32)) % (7 : Int32))), .val (.ref oINT4), .val (.int (0 : Int32)), .val (.int (if (0 : Int32) < (0 : Int32) then (1 : Int32) else (0 : Int32)))] [(.int (1 : Int32))] _
            exact kt
          obtain ⟨fs, hr, hrun, hended, hW, hsame⟩ := X135.leave (v := some (.int (nar .boolean (1 : Int32)))) (fun h => by rw [Bd.returns] at h; cases h)
          refine ⟨_, _, W136 _ (retN X135 hx (t := .boolean) Bd.returns (by simp) (hb hby at_131) hr), hrun, hended, _, _, rfl, ?_, ⟨_, rfl⟩, hW, hsame.mono (by decide) (by decide)⟩
          show Q_law Z k oCLNT oCHAR oNUMC oINT4 oDATS oUTCLONG oRAW h0 n0 _ T135.heap _
          rw [eq135]
          exact ⟨rfl, N135, rfl⟩
        ·
          have W137 : ∀ zQ, SS p e below s₁ m 65 #[.val (.int k), .val (.int ((k &&& (2147483647 : Int32)) % (7 : Int32))), .unset, .unset, .unset] [(.int (4 : Int32)), (.int ((k &&& (2147483647 : Int32)) % (7 : Int32)))] zQ → Steps p.tables e below (s₁.setTop (entryFrame m #[(.int k)] maxLocals)) zQ := by
            intro tt kt
            refine W128 tt ?_
            refine XS.icmpYes X0.here hx rfl (pc0 := 51) (pc' := 63) rfl (hb hby at_51) rfl (feq hc129).2 (by decide) (by decide) ?_
            show SS p e below s₁ m 63 #[.val (.int k), .val (.int ((k &&& (2147483647 : Int32)) % (7 : Int32))), .unset, .unset, .unset] [] _
            refine XS.iloadN X0.here hx rfl (hb hby at_63) rfl ?_
            show SS p e below s₁ m 64 #[.val (.int k), .val (.int ((k &&& (2147483647 : Int32)) % (7 : Int32))), .unset, .unset, .unset] [(.int ((k &&& (2147483647 : Int32)) % (7 : Int32)))] _
            refine XS.iconst X0.here hx rfl (hb hby at_64) ?_
            show SS p e below s₁ m 65 #[.val (.int k), .val (.int ((k &&& (2147483647 : Int32)) % (7 : Int32))), .unset, .unset, .unset] [(.int (4 : Int32)), (.int ((k &&& (2147483647 : Int32)) % (7 : Int32)))] _
            exact kt
          by_cases hc138 : ((k &&& (2147483647 : Int32)) % (7 : Int32)) = (4 : Int32)
          ·
            have F140 : Sta Z h0 "com/example/composition/composition/model/AbapType" "DATS" "Lcom/example/composition/composition/model/AbapType;" (.ref oDATS) := S_DATS.ext O0.2
            obtain ⟨T139, X139, e139, st139⟩ := getS2 X0 hx hZ hown (host := "") (Or.inl (w22 hw)) Via.refl e0 F140 (g := (mkF m 68 #[.val (.int k), .val (.int ((k &&& (2147483647 : Int32)) % (7 : Int32))), .unset, .unset, .unset] [])) rfl (hb hby at_68)
            have F141 : Fld Z h0 oDATS "com/example/composition/composition/model/AbapType" "maxLength" "I" (.int (0 : Int32)) := F_DATS.ext O0.2
            have F143 : Exa Z h0 oDATS "com/example/composition/composition/model/AbapType" := E_DATS.ext O0.2
            obtain ⟨cq142, kq142, q142a, q142b, q142c⟩ := isOf hZ e139 F143
            obtain ⟨_, _, ⟨T142, L142, k142, n142⟩, -, X142, ⟨Lc142, hQ142, l142, y142, z142⟩, st142⟩ := X139.virtualBack hx (y := (⟨"com/example/composition/composition/model/AbapType", "hasLength", "()Z"⟩ : MethodName)) (z := (⟨"com/example/composition/composition/model/AbapType", "hasLength", "()Z"⟩ : MethodName)) hown (mvT hZ (w4 hw)) (mvT hZ (w5 hw)) (notFace_of_selects (args := #[]) (mvT hZ (w7 hw))) (mvT hZ (w7 hw)) (mvT hZ (w6 hw)) (by decide) (backOf (W := 0) (rm_hasLength l Z a0 hw [] oDATS (0 : Int32) h0 n0 Z0 F141) hZ (w8 hw) (w2 hw) (by decide) (by decide)) q142a q142c (g := (mkF m 98 #[.val (.int k), .val (.int ((k &&& (2147483647 : Int32)) % (7 : Int32))), .val (.ref oDATS), .val (.int (0 : Int32)), .unset] [(.ref oDATS)])) rfl (by rw [hml]; rfl) (Steps.refl _) (argsL := []) (rest := []) (lenOf pd__28__29_Z rfl) rfl (by show 2 * 0 + _ ≤ _; exact Nat.le_of_eq rfl) (hb hby at_98) (fun _ _ => ⟨rfl, e139, (Nat.le_of_ble_eq_true rfl), (Nat.le_of_ble_eq_true rfl)⟩)
            dsimp only [Pt.U, Pt.locs, Pt.cells, Pt.slots] at X142 l142 y142 z142 st142 hQ142
            subst l142 y142 z142
            obtain ⟨rfl, Nq142, eq142⟩ := hQ142
            have N142 := Fr.app N0 Nq142
            obtain ⟨cq144, kq144, q144a, q144b, q144c⟩ := isOf hZ eq142 F143
            obtain ⟨_, _, ⟨T144, L144, k144, n144⟩, -, X144, ⟨Lc144, hQ144, l144, y144, z144⟩, st144⟩ := X142.virtualBack hx (y := (⟨"com/example/composition/composition/model/AbapType", "maxLength", "()I"⟩ : MethodName)) (z := (⟨"com/example/composition/composition/model/AbapType", "maxLength", "()I"⟩ : MethodName)) hown (mvT hZ (w11 hw)) (mvT hZ (w12 hw)) (notFace_of_selects (args := #[]) (mvT hZ (w14 hw))) (mvT hZ (w14 hw)) (mvT hZ (w13 hw)) (by decide) (backOf (W := 1) (rm_maxLength l Z a0 hw [] oDATS (0 : Int32) h0 n0 Z0 F141) hZ (w15 hw) (w2 hw) (by decide) (by decide)) q144a q144c (g := (mkF m 112 #[.val (.int k), .val (.int ((k &&& (2147483647 : Int32)) % (7 : Int32))), .val (.ref oDATS), .val (.int (0 : Int32)), .val (.int (if (0 : Int32) < (0 : Int32) then (1 : Int32) else (0 : Int32)))] [(.ref oDATS), (.int (if (0 : Int32) < (0 : Int32) then (1 : Int32) else (0 : Int32)))])) rfl (by rw [hml]; rfl) (Steps.refl _) (argsL := []) (rest := [(.int (if (0 : Int32) < (0 : Int32) then (1 : Int32) else (0 : Int32)))]) (lenOf pd__28__29_I rfl) rfl (by show 2 * 0 + _ ≤ _; exact Nat.le_of_eq rfl) (hb hby at_112) (fun _ _ => ⟨rfl, eq142, (Nat.le_of_ble_eq_true rfl), (Nat.le_of_ble_eq_true rfl)⟩)
            dsimp only [Pt.U, Pt.locs, Pt.cells, Pt.slots] at X144 l144 y144 z144 st144 hQ144
            subst l144 y144 z144
            obtain ⟨rfl, Nq144, eq144⟩ := hQ144
            have N144 := Fr.app N142 Nq144
            have W145 : ∀ zQ, SS p e below T144 m 131 #[.val (.int k), .val (.int ((k &&& (2147483647 : Int32)) % (7 : Int32))), .val (.ref oDATS), .val (.int (0 : Int32)), .val (.int (if (0 : Int32) < (0 : Int32) then (1 : Int32) else (0 : Int32)))] [(.int (1 : Int32))] zQ → Steps p.tables e below (s₁.setTop (entryFrame m #[(.int k)] maxLocals)) zQ := by
              intro tt kt
              refine W137 tt ?_
              refine XS.icmpNo X0.here hx rfl (hb hby at_65) rfl (teq hc138).2 ?_
              show SS p e below s₁ m 68 #[.val (.int k), .val (.int ((k &&& (2147483647 : Int32)) % (7 : Int32))), .unset, .unset, .unset] [] _
              refine st139 _ ?_
              show SS p e below T139 m 71 #[.val (.int k), .val (.int ((k &&& (2147483647 : Int32)) % (7 : Int32))), .unset, .unset, .unset] [(.ref oDATS)] _
              refine XS.astoreN X139.here hx rfl (hb hby at_71) rfl rfl (l' := #[.val (.int k), .val (.int ((k &&& (2147483647 : Int32)) % (7 : Int32))), .val (.ref oDATS), .unset, .unset]) rfl ?_
              show SS p e below T139 m 72 #[.val (.int k), .val (.int ((k &&& (2147483647 : Int32)) % (7 : Int32))), .val (.ref oDATS), .unset, .unset] [] _
              refine XS.iconst X139.here hx rfl (hb hby at_72) ?_
              show SS p e below T139 m 73 #[.val (.int k), .val (.int ((k &&& (2147483647 : Int32)) % (7 : Int32))), .val (.ref oDATS), .unset, .unset] [(.int (0 : Int32))] _
              refine XS.istoreN X139.here hx rfl (hb hby at_73) rfl (l' := #[.val (.int k), .val (.int ((k &&& (2147483647 : Int32)) % (7 : Int32))), .val (.ref oDATS), .val (.int (0 : Int32)), .unset]) rfl ?_
              show SS p e below T139 m 74 #[.val (.int k), .val (.int ((k &&& (2147483647 : Int32)) % (7 : Int32))), .val (.ref oDATS), .val (.int (0 : Int32)), .unset] [] _
              refine XS.goto X139.here hx rfl (pc0 := 74) (pc' := 97) rfl (hb hby at_74) (by decide) (by decide) ?_
              show SS p e below T139 m 97 #[.val (.int k), .val (.int ((k &&& (2147483647 : Int32)) % (7 : Int32))), .val (.ref oDATS), .val (.int (0 : Int32)), .unset] [] _
              refine XS.aloadN X139.here hx rfl (hb hby at_97) rfl rfl ?_
              show SS p e below T139 m 98 #[.val (.int k), .val (.int ((k &&& (2147483647 : Int32)) % (7 : Int32))), .val (.ref oDATS), .val (.int (0 : Int32)), .unset] [(.ref oDATS)] _
              refine st142.trans ?_
              show SS p e below T142 m 101 #[.val (.int k), .val (.int ((k &&& (2147483647 : Int32)) % (7 : Int32))), .val (.ref oDATS), .val (.int (0 : Int32)), .unset] [(.int (if (0 : Int32) < (0 : Int32) then (1 : Int32) else (0 : Int32)))] _
              refine XS.istore X142.here hx rfl (hb hby at_101) rfl (l' := #[.val (.int k), .val (.int ((k &&& (2147483647 : Int32)) % (7 : Int32))), .val (.ref oDATS), .val (.int (0 : Int32)), .val (.int (if (0 : Int32) < (0 : Int32) then (1 : Int32) else (0 : Int32)))]) rfl ?_
              show SS p e below T142 m 103 #[.val (.int k), .val (.int ((k &&& (2147483647 : Int32)) % (7 : Int32))), .val (.ref oDATS), .val (.int (0 : Int32)), .val (.int (if (0 : Int32) < (0 : Int32) then (1 : Int32) else (0 : Int32)))] [] _
              refine XS.iload X142.here hx rfl (hb hby at_103) rfl ?_
              show SS p e below T142 m 105 #[.val (.int k), .val (.int ((k &&& (2147483647 : Int32)) % (7 : Int32))), .val (.ref oDATS), .val (.int (0 : Int32)), .val (.int (if (0 : Int32) < (0 : Int32) then (1 : Int32) else (0 : Int32)))] [(.int (if (0 : Int32) < (0 : Int32) then (1 : Int32) else (0 : Int32)))] _
              refine XS.iloadN X142.here hx rfl (hb hby at_105) rfl ?_
              show SS p e below T142 m 106 #[.val (.int k), .val (.int ((k &&& (2147483647 : Int32)) % (7 : Int32))), .val (.ref oDATS), .val (.int (0 : Int32)), .val (.int (if (0 : Int32) < (0 : Int32) then (1 : Int32) else (0 : Int32)))] [(.int (0 : Int32)), (.int (if (0 : Int32) < (0 : Int32) then (1 : Int32) else (0 : Int32)))] _
              refine XS.icmpNo X142.here hx rfl (hb hby at_106) rfl (teq (by decide)).2 ?_
              show SS p e below T142 m 109 #[.val (.int k), .val (.int ((k &&& (2147483647 : Int32)) % (7 : Int32))), .val (.ref oDATS), .val (.int (0 : Int32)), .val (.int (if (0 : Int32) < (0 : Int32) then (1 : Int32) else (0 : Int32)))] [] _
              refine XS.iload X142.here hx rfl (hb hby at_109) rfl ?_
              show SS p e below T142 m 111 #[.val (.int k), .val (.int ((k &&& (2147483647 : Int32)) % (7 : Int32))), .val (.ref oDATS), .val (.int (0 : Int32)), .val (.int (if (0 : Int32) < (0 : Int32) then (1 : Int32) else (0 : Int32)))] [(.int (if (0 : Int32) < (0 : Int32) then (1 : Int32) else (0 : Int32)))] _
              refine XS.aloadN X142.here hx rfl (hb hby at_111) rfl rfl ?_
              show SS p e below T142 m 112 #[.val (.int k), .val (.int ((k &&& (2147483647 : Int32)) % (7 : Int32))), .val (.ref oDATS), .val (.int (0 : Int32)), .val (.int (if (0 : Int32) < (0 : Int32) then (1 : Int32) else (0 : Int32)))] [(.ref oDATS), (.int (if (0 : Int32) < (0 : Int32) then (1 : Int32) else (0 : Int32)))] _
              refine st144.trans ?_
              show SS p e below T144 m 115 #[.val (.int k), .val (.int ((k &&& (2147483647 : Int32)) % (7 : Int32))), .val (.ref oDATS), .val (.int (0 : Int32)), .val (.int (if (0 : Int32) < (0 : Int32) then (1 : Int32) else (0 : Int32)))] [(.int (0 : Int32)), (.int (if (0 : Int32) < (0 : Int32) then (1 : Int32) else (0 : Int32)))] _
              refine XS.ifYes X144.here hx rfl (pc0 := 115) (pc' := 122) rfl (hb hby at_115) rfl ((if0 _ _).trans (flt (by decide)).2.2.2) (by decide) (by decide) ?_
              show SS p e below T144 m 122 #[.val (.int k), .val (.int ((k &&& (2147483647 : Int32)) % (7 : Int32))), .val (.ref oDATS), .val (.int (0 : Int32)), .val (.int (if (0 : Int32) < (0 : Int32) then (1 : Int32) else (0 : Int32)))] [(.int (if (0 : Int32) < (0 : Int32) then (1 : Int32) else (0 : Int32)))] _
              refine XS.iconst X144.here hx rfl (hb hby at_122) ?_
              show SS p e below T144 m 123 #[.val (.int k), .val (.int ((k &&& (2147483647 : Int32)) % (7 : Int32))), .val (.ref oDATS), .val (.int (0 : Int32)), .val (.int (if (0 : Int32) < (0 : Int32) then (1 : Int32) else (0 : Int32)))] [(.int (0 : Int32)), (.int (if (0 : Int32) < (0 : Int32) then (1 : Int32) else (0 : Int32)))] _
              refine XS.icmpNo X144.here hx rfl (hb hby at_123) rfl (teq (by decide)).2 ?_
              show SS p e below T144 m 126 #[.val (.int k), .val (.int ((k &&& (2147483647 : Int32)) % (7 : Int32))), .val (.ref oDATS), .val (.int (0 : Int32)), .val (.int (if (0 : Int32) < (0 : Int32) then (1 : Int32) else (0 : Int32)))] [] _
              refine XS.iconst X144.here hx rfl (hb hby at_126) ?_
              show SS p e below T144 m 127 #[.val (.int k), .val (.int ((k &&& (2147483647 : Int32)) % (7 : Int32))), .val (.ref oDATS), .val (.int (0 : Int32)), .val (.int (if (0 : Int32) < (0 : Int32) then (1 : Int32) else (0 : Int32)))] [(.int (1 : Int32))] _
              refine XS.goto X144.here hx rfl (pc0 := 127) (pc' := 131) rfl (hb hby at_127) (by decide) (by decide) ?_
              show SS p e below T144 m 131 #[.val (.int k), .val (.int ((k &&& (2147483647 : Int32)) % (7 : Int32))), .val (.ref oDATS), .val (.int (0 : Int32)), .val (.int (if (0 : Int32) < (0 : Int32) then (1 : Int32) else (0 : Int32)))] [(.int (1 : Int32))] _
              exact kt
            obtain ⟨fs, hr, hrun, hended, hW, hsame⟩ := X144.leave (v := some (.int (nar .boolean (1 : Int32)))) (fun h => by rw [Bd.returns] at h; cases h)
            refine ⟨_, _, W145 _ (retN X144 hx (t := .boolean) Bd.returns (by simp) (hb hby at_131) hr), hrun, hended, _, _, rfl, ?_, ⟨_, rfl⟩, hW, hsame.mono (by decide) (by decide)⟩
            show Q_law Z k oCLNT oCHAR oNUMC oINT4 oDATS oUTCLONG oRAW h0 n0 _ T144.heap _
            rw [eq144]
            exact ⟨rfl, N144, rfl⟩
          ·
            have W146 : ∀ zQ, SS p e below s₁ m 79 #[.val (.int k), .val (.int ((k &&& (2147483647 : Int32)) % (7 : Int32))), .unset, .unset, .unset] [(.int (5 : Int32)), (.int ((k &&& (2147483647 : Int32)) % (7 : Int32)))] zQ → Steps p.tables e below (s₁.setTop (entryFrame m #[(.int k)] maxLocals)) zQ := by
              intro tt kt
              refine W137 tt ?_
              refine XS.icmpYes X0.here hx rfl (pc0 := 65) (pc' := 77) rfl (hb hby at_65) rfl (feq hc138).2 (by decide) (by decide) ?_
              show SS p e below s₁ m 77 #[.val (.int k), .val (.int ((k &&& (2147483647 : Int32)) % (7 : Int32))), .unset, .unset, .unset] [] _
              refine XS.iloadN X0.here hx rfl (hb hby at_77) rfl ?_
              show SS p e below s₁ m 78 #[.val (.int k), .val (.int ((k &&& (2147483647 : Int32)) % (7 : Int32))), .unset, .unset, .unset] [(.int ((k &&& (2147483647 : Int32)) % (7 : Int32)))] _
              refine XS.iconst X0.here hx rfl (hb hby at_78) ?_
              show SS p e below s₁ m 79 #[.val (.int k), .val (.int ((k &&& (2147483647 : Int32)) % (7 : Int32))), .unset, .unset, .unset] [(.int (5 : Int32)), (.int ((k &&& (2147483647 : Int32)) % (7 : Int32)))] _
              exact kt
            by_cases hc147 : ((k &&& (2147483647 : Int32)) % (7 : Int32)) = (5 : Int32)
            ·
              have F149 : Sta Z h0 "com/example/composition/composition/model/AbapType" "UTCLONG" "Lcom/example/composition/composition/model/AbapType;" (.ref oUTCLONG) := S_UTCLONG.ext O0.2
              obtain ⟨T148, X148, e148, st148⟩ := getS2 X0 hx hZ hown (host := "") (Or.inl (w18 hw)) Via.refl e0 F149 (g := (mkF m 82 #[.val (.int k), .val (.int ((k &&& (2147483647 : Int32)) % (7 : Int32))), .unset, .unset, .unset] [])) rfl (hb hby at_82)
              have F150 : Fld Z h0 oUTCLONG "com/example/composition/composition/model/AbapType" "maxLength" "I" (.int (0 : Int32)) := F_UTCLONG.ext O0.2
              have F152 : Exa Z h0 oUTCLONG "com/example/composition/composition/model/AbapType" := E_UTCLONG.ext O0.2
              obtain ⟨cq151, kq151, q151a, q151b, q151c⟩ := isOf hZ e148 F152
              obtain ⟨_, _, ⟨T151, L151, k151, n151⟩, -, X151, ⟨Lc151, hQ151, l151, y151, z151⟩, st151⟩ := X148.virtualBack hx (y := (⟨"com/example/composition/composition/model/AbapType", "hasLength", "()Z"⟩ : MethodName)) (z := (⟨"com/example/composition/composition/model/AbapType", "hasLength", "()Z"⟩ : MethodName)) hown (mvT hZ (w4 hw)) (mvT hZ (w5 hw)) (notFace_of_selects (args := #[]) (mvT hZ (w7 hw))) (mvT hZ (w7 hw)) (mvT hZ (w6 hw)) (by decide) (backOf (W := 0) (rm_hasLength l Z a0 hw [] oUTCLONG (0 : Int32) h0 n0 Z0 F150) hZ (w8 hw) (w2 hw) (by decide) (by decide)) q151a q151c (g := (mkF m 98 #[.val (.int k), .val (.int ((k &&& (2147483647 : Int32)) % (7 : Int32))), .val (.ref oUTCLONG), .val (.int (0 : Int32)), .unset] [(.ref oUTCLONG)])) rfl (by rw [hml]; rfl) (Steps.refl _) (argsL := []) (rest := []) (lenOf pd__28__29_Z rfl) rfl (by show 2 * 0 + _ ≤ _; exact Nat.le_of_eq rfl) (hb hby at_98) (fun _ _ => ⟨rfl, e148, (Nat.le_of_ble_eq_true rfl), (Nat.le_of_ble_eq_true rfl)⟩)
              dsimp only [Pt.U, Pt.locs, Pt.cells, Pt.slots] at X151 l151 y151 z151 st151 hQ151
              subst l151 y151 z151
              obtain ⟨rfl, Nq151, eq151⟩ := hQ151
              have N151 := Fr.app N0 Nq151
              obtain ⟨cq153, kq153, q153a, q153b, q153c⟩ := isOf hZ eq151 F152
              obtain ⟨_, _, ⟨T153, L153, k153, n153⟩, -, X153, ⟨Lc153, hQ153, l153, y153, z153⟩, st153⟩ := X151.virtualBack hx (y := (⟨"com/example/composition/composition/model/AbapType", "maxLength", "()I"⟩ : MethodName)) (z := (⟨"com/example/composition/composition/model/AbapType", "maxLength", "()I"⟩ : MethodName)) hown (mvT hZ (w11 hw)) (mvT hZ (w12 hw)) (notFace_of_selects (args := #[]) (mvT hZ (w14 hw))) (mvT hZ (w14 hw)) (mvT hZ (w13 hw)) (by decide) (backOf (W := 1) (rm_maxLength l Z a0 hw [] oUTCLONG (0 : Int32) h0 n0 Z0 F150) hZ (w15 hw) (w2 hw) (by decide) (by decide)) q153a q153c (g := (mkF m 112 #[.val (.int k), .val (.int ((k &&& (2147483647 : Int32)) % (7 : Int32))), .val (.ref oUTCLONG), .val (.int (0 : Int32)), .val (.int (if (0 : Int32) < (0 : Int32) then (1 : Int32) else (0 : Int32)))] [(.ref oUTCLONG), (.int (if (0 : Int32) < (0 : Int32) then (1 : Int32) else (0 : Int32)))])) rfl (by rw [hml]; rfl) (Steps.refl _) (argsL := []) (rest := [(.int (if (0 : Int32) < (0 : Int32) then (1 : Int32) else (0 : Int32)))]) (lenOf pd__28__29_I rfl) rfl (by show 2 * 0 + _ ≤ _; exact Nat.le_of_eq rfl) (hb hby at_112) (fun _ _ => ⟨rfl, eq151, (Nat.le_of_ble_eq_true rfl), (Nat.le_of_ble_eq_true rfl)⟩)
              dsimp only [Pt.U, Pt.locs, Pt.cells, Pt.slots] at X153 l153 y153 z153 st153 hQ153
              subst l153 y153 z153
              obtain ⟨rfl, Nq153, eq153⟩ := hQ153
              have N153 := Fr.app N151 Nq153
              have W154 : ∀ zQ, SS p e below T153 m 131 #[.val (.int k), .val (.int ((k &&& (2147483647 : Int32)) % (7 : Int32))), .val (.ref oUTCLONG), .val (.int (0 : Int32)), .val (.int (if (0 : Int32) < (0 : Int32) then (1 : Int32) else (0 : Int32)))] [(.int (1 : Int32))] zQ → Steps p.tables e below (s₁.setTop (entryFrame m #[(.int k)] maxLocals)) zQ := by
                intro tt kt
                refine W146 tt ?_
                refine XS.icmpNo X0.here hx rfl (hb hby at_79) rfl (teq hc147).2 ?_
                show SS p e below s₁ m 82 #[.val (.int k), .val (.int ((k &&& (2147483647 : Int32)) % (7 : Int32))), .unset, .unset, .unset] [] _
                refine st148 _ ?_
                show SS p e below T148 m 85 #[.val (.int k), .val (.int ((k &&& (2147483647 : Int32)) % (7 : Int32))), .unset, .unset, .unset] [(.ref oUTCLONG)] _
                refine XS.astoreN X148.here hx rfl (hb hby at_85) rfl rfl (l' := #[.val (.int k), .val (.int ((k &&& (2147483647 : Int32)) % (7 : Int32))), .val (.ref oUTCLONG), .unset, .unset]) rfl ?_
                show SS p e below T148 m 86 #[.val (.int k), .val (.int ((k &&& (2147483647 : Int32)) % (7 : Int32))), .val (.ref oUTCLONG), .unset, .unset] [] _
                refine XS.iconst X148.here hx rfl (hb hby at_86) ?_
                show SS p e below T148 m 87 #[.val (.int k), .val (.int ((k &&& (2147483647 : Int32)) % (7 : Int32))), .val (.ref oUTCLONG), .unset, .unset] [(.int (0 : Int32))] _
                refine XS.istoreN X148.here hx rfl (hb hby at_87) rfl (l' := #[.val (.int k), .val (.int ((k &&& (2147483647 : Int32)) % (7 : Int32))), .val (.ref oUTCLONG), .val (.int (0 : Int32)), .unset]) rfl ?_
                show SS p e below T148 m 88 #[.val (.int k), .val (.int ((k &&& (2147483647 : Int32)) % (7 : Int32))), .val (.ref oUTCLONG), .val (.int (0 : Int32)), .unset] [] _
                refine XS.goto X148.here hx rfl (pc0 := 88) (pc' := 97) rfl (hb hby at_88) (by decide) (by decide) ?_
                show SS p e below T148 m 97 #[.val (.int k), .val (.int ((k &&& (2147483647 : Int32)) % (7 : Int32))), .val (.ref oUTCLONG), .val (.int (0 : Int32)), .unset] [] _
                refine XS.aloadN X148.here hx rfl (hb hby at_97) rfl rfl ?_
                show SS p e below T148 m 98 #[.val (.int k), .val (.int ((k &&& (2147483647 : Int32)) % (7 : Int32))), .val (.ref oUTCLONG), .val (.int (0 : Int32)), .unset] [(.ref oUTCLONG)] _
                refine st151.trans ?_
                show SS p e below T151 m 101 #[.val (.int k), .val (.int ((k &&& (2147483647 : Int32)) % (7 : Int32))), .val (.ref oUTCLONG), .val (.int (0 : Int32)), .unset] [(.int (if (0 : Int32) < (0 : Int32) then (1 : Int32) else (0 : Int32)))] _
                refine XS.istore X151.here hx rfl (hb hby at_101) rfl (l' := #[.val (.int k), .val (.int ((k &&& (2147483647 : Int32)) % (7 : Int32))), .val (.ref oUTCLONG), .val (.int (0 : Int32)), .val (.int (if (0 : Int32) < (0 : Int32) then (1 : Int32) else (0 : Int32)))]) rfl ?_
                show SS p e below T151 m 103 #[.val (.int k), .val (.int ((k &&& (2147483647 : Int32)) % (7 : Int32))), .val (.ref oUTCLONG), .val (.int (0 : Int32)), .val (.int (if (0 : Int32) < (0 : Int32) then (1 : Int32) else (0 : Int32)))] [] _
                refine XS.iload X151.here hx rfl (hb hby at_103) rfl ?_
                show SS p e below T151 m 105 #[.val (.int k), .val (.int ((k &&& (2147483647 : Int32)) % (7 : Int32))), .val (.ref oUTCLONG), .val (.int (0 : Int32)), .val (.int (if (0 : Int32) < (0 : Int32) then (1 : Int32) else (0 : Int32)))] [(.int (if (0 : Int32) < (0 : Int32) then (1 : Int32) else (0 : Int32)))] _
                refine XS.iloadN X151.here hx rfl (hb hby at_105) rfl ?_
                show SS p e below T151 m 106 #[.val (.int k), .val (.int ((k &&& (2147483647 : Int32)) % (7 : Int32))), .val (.ref oUTCLONG), .val (.int (0 : Int32)), .val (.int (if (0 : Int32) < (0 : Int32) then (1 : Int32) else (0 : Int32)))] [(.int (0 : Int32)), (.int (if (0 : Int32) < (0 : Int32) then (1 : Int32) else (0 : Int32)))] _
                refine XS.icmpNo X151.here hx rfl (hb hby at_106) rfl (teq (by decide)).2 ?_
                show SS p e below T151 m 109 #[.val (.int k), .val (.int ((k &&& (2147483647 : Int32)) % (7 : Int32))), .val (.ref oUTCLONG), .val (.int (0 : Int32)), .val (.int (if (0 : Int32) < (0 : Int32) then (1 : Int32) else (0 : Int32)))] [] _
                refine XS.iload X151.here hx rfl (hb hby at_109) rfl ?_
                show SS p e below T151 m 111 #[.val (.int k), .val (.int ((k &&& (2147483647 : Int32)) % (7 : Int32))), .val (.ref oUTCLONG), .val (.int (0 : Int32)), .val (.int (if (0 : Int32) < (0 : Int32) then (1 : Int32) else (0 : Int32)))] [(.int (if (0 : Int32) < (0 : Int32) then (1 : Int32) else (0 : Int32)))] _
                refine XS.aloadN X151.here hx rfl (hb hby at_111) rfl rfl ?_
                show SS p e below T151 m 112 #[.val (.int k), .val (.int ((k &&& (2147483647 : Int32)) % (7 : Int32))), .val (.ref oUTCLONG), .val (.int (0 : Int32)), .val (.int (if (0 : Int32) < (0 : Int32) then (1 : Int32) else (0 : Int32)))] [(.ref oUTCLONG), (.int (if (0 : Int32) < (0 : Int32) then (1 : Int32) else (0 : Int32)))] _
                refine st153.trans ?_
                show SS p e below T153 m 115 #[.val (.int k), .val (.int ((k &&& (2147483647 : Int32)) % (7 : Int32))), .val (.ref oUTCLONG), .val (.int (0 : Int32)), .val (.int (if (0 : Int32) < (0 : Int32) then (1 : Int32) else (0 : Int32)))] [(.int (0 : Int32)), (.int (if (0 : Int32) < (0 : Int32) then (1 : Int32) else (0 : Int32)))] _
                refine XS.ifYes X153.here hx rfl (pc0 := 115) (pc' := 122) rfl (hb hby at_115) rfl ((if0 _ _).trans (flt (by decide)).2.2.2) (by decide) (by decide) ?_
                show SS p e below T153 m 122 #[.val (.int k), .val (.int ((k &&& (2147483647 : Int32)) % (7 : Int32))), .val (.ref oUTCLONG), .val (.int (0 : Int32)), .val (.int (if (0 : Int32) < (0 : Int32) then (1 : Int32) else (0 : Int32)))] [(.int (if (0 : Int32) < (0 : Int32) then (1 : Int32) else (0 : Int32)))] _
                refine XS.iconst X153.here hx rfl (hb hby at_122) ?_
                show SS p e below T153 m 123 #[.val (.int k), .val (.int ((k &&& (2147483647 : Int32)) % (7 : Int32))), .val (.ref oUTCLONG), .val (.int (0 : Int32)), .val (.int (if (0 : Int32) < (0 : Int32) then (1 : Int32) else (0 : Int32)))] [(.int (0 : Int32)), (.int (if (0 : Int32) < (0 : Int32) then (1 : Int32) else (0 : Int32)))] _
                refine XS.icmpNo X153.here hx rfl (hb hby at_123) rfl (teq (by decide)).2 ?_
                show SS p e below T153 m 126 #[.val (.int k), .val (.int ((k &&& (2147483647 : Int32)) % (7 : Int32))), .val (.ref oUTCLONG), .val (.int (0 : Int32)), .val (.int (if (0 : Int32) < (0 : Int32) then (1 : Int32) else (0 : Int32)))] [] _
                refine XS.iconst X153.here hx rfl (hb hby at_126) ?_
                show SS p e below T153 m 127 #[.val (.int k), .val (.int ((k &&& (2147483647 : Int32)) % (7 : Int32))), .val (.ref oUTCLONG), .val (.int (0 : Int32)), .val (.int (if (0 : Int32) < (0 : Int32) then (1 : Int32) else (0 : Int32)))] [(.int (1 : Int32))] _
                refine XS.goto X153.here hx rfl (pc0 := 127) (pc' := 131) rfl (hb hby at_127) (by decide) (by decide) ?_
                show SS p e below T153 m 131 #[.val (.int k), .val (.int ((k &&& (2147483647 : Int32)) % (7 : Int32))), .val (.ref oUTCLONG), .val (.int (0 : Int32)), .val (.int (if (0 : Int32) < (0 : Int32) then (1 : Int32) else (0 : Int32)))] [(.int (1 : Int32))] _
                exact kt
              obtain ⟨fs, hr, hrun, hended, hW, hsame⟩ := X153.leave (v := some (.int (nar .boolean (1 : Int32)))) (fun h => by rw [Bd.returns] at h; cases h)
              refine ⟨_, _, W154 _ (retN X153 hx (t := .boolean) Bd.returns (by simp) (hb hby at_131) hr), hrun, hended, _, _, rfl, ?_, ⟨_, rfl⟩, hW, hsame.mono (by decide) (by decide)⟩
              show Q_law Z k oCLNT oCHAR oNUMC oINT4 oDATS oUTCLONG oRAW h0 n0 _ T153.heap _
              rw [eq153]
              exact ⟨rfl, N153, rfl⟩
            ·
              have F156 : Sta Z h0 "com/example/composition/composition/model/AbapType" "RAW" "Lcom/example/composition/composition/model/AbapType;" (.ref oRAW) := S_RAW.ext O0.2
              obtain ⟨T155, X155, e155, st155⟩ := getS2 X0 hx hZ hown (host := "") (Or.inl (w20 hw)) Via.refl e0 F156 (g := (mkF m 91 #[.val (.int k), .val (.int ((k &&& (2147483647 : Int32)) % (7 : Int32))), .unset, .unset, .unset] [])) rfl (hb hby at_91)
              have F157 : Fld Z h0 oRAW "com/example/composition/composition/model/AbapType" "maxLength" "I" (.int (255 : Int32)) := F_RAW.ext O0.2
              have F159 : Exa Z h0 oRAW "com/example/composition/composition/model/AbapType" := E_RAW.ext O0.2
              obtain ⟨cq158, kq158, q158a, q158b, q158c⟩ := isOf hZ e155 F159
              obtain ⟨_, _, ⟨T158, L158, k158, n158⟩, -, X158, ⟨Lc158, hQ158, l158, y158, z158⟩, st158⟩ := X155.virtualBack hx (y := (⟨"com/example/composition/composition/model/AbapType", "hasLength", "()Z"⟩ : MethodName)) (z := (⟨"com/example/composition/composition/model/AbapType", "hasLength", "()Z"⟩ : MethodName)) hown (mvT hZ (w4 hw)) (mvT hZ (w5 hw)) (notFace_of_selects (args := #[]) (mvT hZ (w7 hw))) (mvT hZ (w7 hw)) (mvT hZ (w6 hw)) (by decide) (backOf (W := 0) (rm_hasLength l Z a0 hw [] oRAW (255 : Int32) h0 n0 Z0 F157) hZ (w8 hw) (w2 hw) (by decide) (by decide)) q158a q158c (g := (mkF m 98 #[.val (.int k), .val (.int ((k &&& (2147483647 : Int32)) % (7 : Int32))), .val (.ref oRAW), .val (.int (1 : Int32)), .unset] [(.ref oRAW)])) rfl (by rw [hml]; rfl) (Steps.refl _) (argsL := []) (rest := []) (lenOf pd__28__29_Z rfl) rfl (by show 2 * 0 + _ ≤ _; exact Nat.le_of_eq rfl) (hb hby at_98) (fun _ _ => ⟨rfl, e155, (Nat.le_of_ble_eq_true rfl), (Nat.le_of_ble_eq_true rfl)⟩)
              dsimp only [Pt.U, Pt.locs, Pt.cells, Pt.slots] at X158 l158 y158 z158 st158 hQ158
              subst l158 y158 z158
              obtain ⟨rfl, Nq158, eq158⟩ := hQ158
              have N158 := Fr.app N0 Nq158
              obtain ⟨cq160, kq160, q160a, q160b, q160c⟩ := isOf hZ eq158 F159
              obtain ⟨_, _, ⟨T160, L160, k160, n160⟩, -, X160, ⟨Lc160, hQ160, l160, y160, z160⟩, st160⟩ := X158.virtualBack hx (y := (⟨"com/example/composition/composition/model/AbapType", "maxLength", "()I"⟩ : MethodName)) (z := (⟨"com/example/composition/composition/model/AbapType", "maxLength", "()I"⟩ : MethodName)) hown (mvT hZ (w11 hw)) (mvT hZ (w12 hw)) (notFace_of_selects (args := #[]) (mvT hZ (w14 hw))) (mvT hZ (w14 hw)) (mvT hZ (w13 hw)) (by decide) (backOf (W := 1) (rm_maxLength l Z a0 hw [] oRAW (255 : Int32) h0 n0 Z0 F157) hZ (w15 hw) (w2 hw) (by decide) (by decide)) q160a q160c (g := (mkF m 112 #[.val (.int k), .val (.int ((k &&& (2147483647 : Int32)) % (7 : Int32))), .val (.ref oRAW), .val (.int (1 : Int32)), .val (.int (if (0 : Int32) < (255 : Int32) then (1 : Int32) else (0 : Int32)))] [(.ref oRAW), (.int (if (0 : Int32) < (255 : Int32) then (1 : Int32) else (0 : Int32)))])) rfl (by rw [hml]; rfl) (Steps.refl _) (argsL := []) (rest := [(.int (if (0 : Int32) < (255 : Int32) then (1 : Int32) else (0 : Int32)))]) (lenOf pd__28__29_I rfl) rfl (by show 2 * 0 + _ ≤ _; exact Nat.le_of_eq rfl) (hb hby at_112) (fun _ _ => ⟨rfl, eq158, (Nat.le_of_ble_eq_true rfl), (Nat.le_of_ble_eq_true rfl)⟩)
              dsimp only [Pt.U, Pt.locs, Pt.cells, Pt.slots] at X160 l160 y160 z160 st160 hQ160
              subst l160 y160 z160
              obtain ⟨rfl, Nq160, eq160⟩ := hQ160
              have N160 := Fr.app N158 Nq160
              have W161 : ∀ zQ, SS p e below T160 m 131 #[.val (.int k), .val (.int ((k &&& (2147483647 : Int32)) % (7 : Int32))), .val (.ref oRAW), .val (.int (1 : Int32)), .val (.int (if (0 : Int32) < (255 : Int32) then (1 : Int32) else (0 : Int32)))] [(.int (1 : Int32))] zQ → Steps p.tables e below (s₁.setTop (entryFrame m #[(.int k)] maxLocals)) zQ := by
                intro tt kt
                refine W146 tt ?_
                refine XS.icmpYes X0.here hx rfl (pc0 := 79) (pc' := 91) rfl (hb hby at_79) rfl (feq hc147).2 (by decide) (by decide) ?_
                show SS p e below s₁ m 91 #[.val (.int k), .val (.int ((k &&& (2147483647 : Int32)) % (7 : Int32))), .unset, .unset, .unset] [] _
                refine st155 _ ?_
                show SS p e below T155 m 94 #[.val (.int k), .val (.int ((k &&& (2147483647 : Int32)) % (7 : Int32))), .unset, .unset, .unset] [(.ref oRAW)] _
                refine XS.astoreN X155.here hx rfl (hb hby at_94) rfl rfl (l' := #[.val (.int k), .val (.int ((k &&& (2147483647 : Int32)) % (7 : Int32))), .val (.ref oRAW), .unset, .unset]) rfl ?_
                show SS p e below T155 m 95 #[.val (.int k), .val (.int ((k &&& (2147483647 : Int32)) % (7 : Int32))), .val (.ref oRAW), .unset, .unset] [] _
                refine XS.iconst X155.here hx rfl (hb hby at_95) ?_
                show SS p e below T155 m 96 #[.val (.int k), .val (.int ((k &&& (2147483647 : Int32)) % (7 : Int32))), .val (.ref oRAW), .unset, .unset] [(.int (1 : Int32))] _
                refine XS.istoreN X155.here hx rfl (hb hby at_96) rfl (l' := #[.val (.int k), .val (.int ((k &&& (2147483647 : Int32)) % (7 : Int32))), .val (.ref oRAW), .val (.int (1 : Int32)), .unset]) rfl ?_
                show SS p e below T155 m 97 #[.val (.int k), .val (.int ((k &&& (2147483647 : Int32)) % (7 : Int32))), .val (.ref oRAW), .val (.int (1 : Int32)), .unset] [] _
                refine XS.aloadN X155.here hx rfl (hb hby at_97) rfl rfl ?_
                show SS p e below T155 m 98 #[.val (.int k), .val (.int ((k &&& (2147483647 : Int32)) % (7 : Int32))), .val (.ref oRAW), .val (.int (1 : Int32)), .unset] [(.ref oRAW)] _
                refine st158.trans ?_
                show SS p e below T158 m 101 #[.val (.int k), .val (.int ((k &&& (2147483647 : Int32)) % (7 : Int32))), .val (.ref oRAW), .val (.int (1 : Int32)), .unset] [(.int (if (0 : Int32) < (255 : Int32) then (1 : Int32) else (0 : Int32)))] _
                refine XS.istore X158.here hx rfl (hb hby at_101) rfl (l' := #[.val (.int k), .val (.int ((k &&& (2147483647 : Int32)) % (7 : Int32))), .val (.ref oRAW), .val (.int (1 : Int32)), .val (.int (if (0 : Int32) < (255 : Int32) then (1 : Int32) else (0 : Int32)))]) rfl ?_
                show SS p e below T158 m 103 #[.val (.int k), .val (.int ((k &&& (2147483647 : Int32)) % (7 : Int32))), .val (.ref oRAW), .val (.int (1 : Int32)), .val (.int (if (0 : Int32) < (255 : Int32) then (1 : Int32) else (0 : Int32)))] [] _
                refine XS.iload X158.here hx rfl (hb hby at_103) rfl ?_
                show SS p e below T158 m 105 #[.val (.int k), .val (.int ((k &&& (2147483647 : Int32)) % (7 : Int32))), .val (.ref oRAW), .val (.int (1 : Int32)), .val (.int (if (0 : Int32) < (255 : Int32) then (1 : Int32) else (0 : Int32)))] [(.int (if (0 : Int32) < (255 : Int32) then (1 : Int32) else (0 : Int32)))] _
                refine XS.iloadN X158.here hx rfl (hb hby at_105) rfl ?_
                show SS p e below T158 m 106 #[.val (.int k), .val (.int ((k &&& (2147483647 : Int32)) % (7 : Int32))), .val (.ref oRAW), .val (.int (1 : Int32)), .val (.int (if (0 : Int32) < (255 : Int32) then (1 : Int32) else (0 : Int32)))] [(.int (1 : Int32)), (.int (if (0 : Int32) < (255 : Int32) then (1 : Int32) else (0 : Int32)))] _
                refine XS.icmpNo X158.here hx rfl (hb hby at_106) rfl (teq (by decide)).2 ?_
                show SS p e below T158 m 109 #[.val (.int k), .val (.int ((k &&& (2147483647 : Int32)) % (7 : Int32))), .val (.ref oRAW), .val (.int (1 : Int32)), .val (.int (if (0 : Int32) < (255 : Int32) then (1 : Int32) else (0 : Int32)))] [] _
                refine XS.iload X158.here hx rfl (hb hby at_109) rfl ?_
                show SS p e below T158 m 111 #[.val (.int k), .val (.int ((k &&& (2147483647 : Int32)) % (7 : Int32))), .val (.ref oRAW), .val (.int (1 : Int32)), .val (.int (if (0 : Int32) < (255 : Int32) then (1 : Int32) else (0 : Int32)))] [(.int (if (0 : Int32) < (255 : Int32) then (1 : Int32) else (0 : Int32)))] _
                refine XS.aloadN X158.here hx rfl (hb hby at_111) rfl rfl ?_
                show SS p e below T158 m 112 #[.val (.int k), .val (.int ((k &&& (2147483647 : Int32)) % (7 : Int32))), .val (.ref oRAW), .val (.int (1 : Int32)), .val (.int (if (0 : Int32) < (255 : Int32) then (1 : Int32) else (0 : Int32)))] [(.ref oRAW), (.int (if (0 : Int32) < (255 : Int32) then (1 : Int32) else (0 : Int32)))] _
                refine st160.trans ?_
                show SS p e below T160 m 115 #[.val (.int k), .val (.int ((k &&& (2147483647 : Int32)) % (7 : Int32))), .val (.ref oRAW), .val (.int (1 : Int32)), .val (.int (if (0 : Int32) < (255 : Int32) then (1 : Int32) else (0 : Int32)))] [(.int (255 : Int32)), (.int (if (0 : Int32) < (255 : Int32) then (1 : Int32) else (0 : Int32)))] _
                refine XS.ifNo X160.here hx rfl (hb hby at_115) rfl ((if0 _ _).trans (tlt (by decide)).2.2.2) ?_
                show SS p e below T160 m 118 #[.val (.int k), .val (.int ((k &&& (2147483647 : Int32)) % (7 : Int32))), .val (.ref oRAW), .val (.int (1 : Int32)), .val (.int (if (0 : Int32) < (255 : Int32) then (1 : Int32) else (0 : Int32)))] [(.int (if (0 : Int32) < (255 : Int32) then (1 : Int32) else (0 : Int32)))] _
                refine XS.iconst X160.here hx rfl (hb hby at_118) ?_
                show SS p e below T160 m 119 #[.val (.int k), .val (.int ((k &&& (2147483647 : Int32)) % (7 : Int32))), .val (.ref oRAW), .val (.int (1 : Int32)), .val (.int (if (0 : Int32) < (255 : Int32) then (1 : Int32) else (0 : Int32)))] [(.int (1 : Int32)), (.int (if (0 : Int32) < (255 : Int32) then (1 : Int32) else (0 : Int32)))] _
                refine XS.goto X160.here hx rfl (pc0 := 119) (pc' := 123) rfl (hb hby at_119) (by decide) (by decide) ?_
                show SS p e below T160 m 123 #[.val (.int k), .val (.int ((k &&& (2147483647 : Int32)) % (7 : Int32))), .val (.ref oRAW), .val (.int (1 : Int32)), .val (.int (if (0 : Int32) < (255 : Int32) then (1 : Int32) else (0 : Int32)))] [(.int (1 : Int32)), (.int (if (0 : Int32) < (255 : Int32) then (1 : Int32) else (0 : Int32)))] _
                refine XS.icmpNo X160.here hx rfl (hb hby at_123) rfl (teq (by decide)).2 ?_
                show SS p e below T160 m 126 #[.val (.int k), .val (.int ((k &&& (2147483647 : Int32)) % (7 : Int32))), .val (.ref oRAW), .val (.int (1 : Int32)), .val (.int (if (0 : Int32) < (255 : Int32) then (1 : Int32) else (0 : Int32)))] [] _
                refine XS.iconst X160.here hx rfl (hb hby at_126) ?_
                show SS p e below T160 m 127 #[.val (.int k), .val (.int ((k &&& (2147483647 : Int32)) % (7 : Int32))), .val (.ref oRAW), .val (.int (1 : Int32)), .val (.int (if (0 : Int32) < (255 : Int32) then (1 : Int32) else (0 : Int32)))] [(.int (1 : Int32))] _
                refine XS.goto X160.here hx rfl (pc0 := 127) (pc' := 131) rfl (hb hby at_127) (by decide) (by decide) ?_
                show SS p e below T160 m 131 #[.val (.int k), .val (.int ((k &&& (2147483647 : Int32)) % (7 : Int32))), .val (.ref oRAW), .val (.int (1 : Int32)), .val (.int (if (0 : Int32) < (255 : Int32) then (1 : Int32) else (0 : Int32)))] [(.int (1 : Int32))] _
                exact kt
              obtain ⟨fs, hr, hrun, hended, hW, hsame⟩ := X160.leave (v := some (.int (nar .boolean (1 : Int32)))) (fun h => by rw [Bd.returns] at h; cases h)
              refine ⟨_, _, W161 _ (retN X160 hx (t := .boolean) Bd.returns (by simp) (hb hby at_131) hr), hrun, hended, _, _, rfl, ?_, ⟨_, rfl⟩, hW, hsame.mono (by decide) (by decide)⟩
              show Q_law Z k oCLNT oCHAR oNUMC oINT4 oDATS oUTCLONG oRAW h0 n0 _ T160.heap _
              rw [eq160]
              exact ⟨rfl, N160, rfl⟩
theorem own_eqint {args : Array Value} {s : State} {t : Term} {n : Int32} (h : (Jvm.Cond.eq t (Jvm.Term.int n)).value args s none s [] = some true) : t.eval args s none [] s = some (.int n) := by
  simp only [Cond.value, Term.eval] at h
  cases ht : t.eval args s none [] s with
  | none => simp [ht] at h
  | some x => cases x <;> simp [ht] at h ⊢; exact h
theorem own_eqlong {args : Array Value} {s : State} {t : Term} {n : Int64} (h : (Jvm.Cond.eq t (Jvm.Term.long n)).value args s none s [] = some true) : t.eval args s none [] s = some (.long n) := by
  simp only [Cond.value, Term.eval] at h
  cases ht : t.eval args s none [] s with
  | none => simp [ht] at h
  | some x => cases x <;> simp [ht] at h ⊢; exact h
theorem own_neint {args : Array Value} {s : State} {t : Term} {n x : Int32} (h : (Jvm.Cond.not (Jvm.Cond.eq t (Jvm.Term.int n))).value args s none s [] = some true) (e : t.eval args s none [] s = some (.int x)) : ¬ (x = n) := by
  simpa [Cond.value, Term.eval, e] using h
theorem own_eqref {args : Array Value} {s : State} {t u : Term} {b : Addr} (h : (Jvm.Cond.eq t u).value args s none s [] = some true) (hu : u.eval args s none [] s = some (.ref b)) : t.eval args s none [] s = some (.ref b) := by
  simp only [Cond.value, hu] at h
  cases ht : t.eval args s none [] s with
  | none => simp [ht] at h
  | some x => cases x <;> simp [ht] at h ⊢; exact h
theorem own_arrlen {args : Array Value} {s : State} {t : Term} {a : Addr} {cl : Cell} {ty : FieldType} {z : Int32} (ev : t.eval args s none [] s = some (.ref a)) (A : Arr s s.heap a cl ty) (h : (Term.length t).eval args s none [] s = some (.int z)) : cl.slots.size < 2 ^ 31 ∧ cl.slots.size.toInt32 = z := by
  have e := Arr.fin (U := s) (Vm.Alike.refl _) A
  simp only [Term.eval, ev, Option.bind_eq_bind, Option.bind_some, e] at h
  by_cases q : cl.slots.size < 2 ^ 31
  · simp [q] at h; exact ⟨q, h⟩
  · simp [q] at h
set_option maxRecDepth 65536 in
set_option maxHeartbeats 40000000 in
theorem comes_1 {Post : Tables → Env → Array Value → State → Outcome → State → Prop} (hpost : ∀ tb e args s v u, (limb_1_1.after args s (.returned v) u = true ∧ limb_1_2.after args s (.returned v) u = true ∧ True) → FrameEnd s (.returned v) u (Jvm.fieldLocs frame_1_writes args s ++ Jvm.arrayLocs frame_1_arrays args s ++ Jvm.staticLocs frame_1_statics s) 0 0 → Post tb e args s (.returned v) u) :
    ArmFor flags0 classFile x code maxLocals ret World_1 tables_1 room_1 Calls_1 rest_1 Pre_1 Post := by
  intro l hfl _ _ p e ha hc hk s m args below hf hA hF happ hP
  obtain ⟨hcalls, hrest, hpre⟩ := hP
  obtain ⟨-, -, -, hnamed, -, -, -, hat⟩ := (Spec.applies_iff hf).mp happ
  obtain ⟨hg, hn⟩ := and_e (Cond.before_iff.mp (show (Jvm.Cond.and given_1 narrow_1).before args s = true from hpre))
  obtain ⟨g1, g2⟩ := and_e hg
  obtain ⟨g3, g4⟩ := and_e hn
  obtain ⟨g5, g6⟩ := and_e g4
  obtain ⟨g7, g8⟩ := and_e g6
  obtain ⟨g9, g10⟩ := and_e g8
  obtain ⟨g11, g12⟩ := and_e g10
  obtain ⟨g13, g14⟩ := and_e g12
  obtain ⟨g15, g16⟩ := and_e g14
  obtain ⟨g17, g18⟩ := and_e g16
  obtain ⟨g19, g20⟩ := and_e g18
  obtain ⟨g21, g22⟩ := and_e g20
  obtain ⟨g23, g24⟩ := and_e g22
  obtain ⟨g25, g26⟩ := and_e g24
  obtain ⟨g27, g28⟩ := and_e g26
  obtain ⟨w0, rfl⟩ : ∃ w0 : Value, args = #[w0] := by
    have hs : args.size = 1 := by simpa [Cond.value, given_1] using g1
    obtain ⟨L⟩ := args
    match L, hs with
    | [w0], _ => exact ⟨w0, rfl⟩
  have hw := fun d (hd : d ∈ tables_1) => atoms_spec (ws := Jvm.Cond.code x code maxLocals ret :: tables_1) hat d (List.mem_cons_of_mem _ hd)
  have hfit : Fit s := fun {y c} hc i hi => by
    obtain ⟨ha, rfl⟩ := Array.getElem?_eq_some_iff.mp hc
    have q := List.all_eq_true.mp ((Array.all_eq_true_iff_forall_mem.mp hF) _ (Array.getElem_mem ha)) i (List.mem_range.mpr hi)
    simpa [Array.getElem?_eq_getElem hi] using q
  obtain ⟨i0, ei0⟩ := is_v g2
  obtain rfl : w0 = (.int i0) := Option.some.inj ei0
  obtain ⟨A_oCLNT, e29⟩ := exa_v g3
  have B30 : Sta s s.heap "com/example/composition/composition/model/AbapType" "CLNT" "Lcom/example/composition/composition/model/AbapType;" (.ref A_oCLNT) := Sta.start e29 (Or.inr ⟨(w2 hw), (w3 hw)⟩)
  have B31 : Exa s s.heap A_oCLNT "com/example/composition/composition/model/AbapType" := Exa.start e29 g3
  have B32 : Fld s s.heap A_oCLNT "com/example/composition/composition/model/AbapType" "maxLength" "I" (.int (0 : Int32)) := Fld.start ((fld_at e29).symm.trans (own_eqint g5))
  obtain ⟨A_oCHAR, e33⟩ := exa_v g27
  have B34 : Sta s s.heap "com/example/composition/composition/model/AbapType" "CHAR" "Lcom/example/composition/composition/model/AbapType;" (.ref A_oCHAR) := Sta.start e33 (Or.inr ⟨(w2 hw), (w27 hw)⟩)
  have B35 : Exa s s.heap A_oCHAR "com/example/composition/composition/model/AbapType" := Exa.start e33 g27
  have B36 : Fld s s.heap A_oCHAR "com/example/composition/composition/model/AbapType" "maxLength" "I" (.int (1333 : Int32)) := Fld.start ((fld_at e33).symm.trans (own_eqint g28))
  obtain ⟨A_oNUMC, e37⟩ := exa_v g23
  have B38 : Sta s s.heap "com/example/composition/composition/model/AbapType" "NUMC" "Lcom/example/composition/composition/model/AbapType;" (.ref A_oNUMC) := Sta.start e37 (Or.inr ⟨(w2 hw), (w25 hw)⟩)
  have B39 : Exa s s.heap A_oNUMC "com/example/composition/composition/model/AbapType" := Exa.start e37 g23
  have B40 : Fld s s.heap A_oNUMC "com/example/composition/composition/model/AbapType" "maxLength" "I" (.int (255 : Int32)) := Fld.start ((fld_at e37).symm.trans (own_eqint g25))
  obtain ⟨A_oINT4, e41⟩ := exa_v g7
  have B42 : Sta s s.heap "com/example/composition/composition/model/AbapType" "INT4" "Lcom/example/composition/composition/model/AbapType;" (.ref A_oINT4) := Sta.start e41 (Or.inr ⟨(w2 hw), (w17 hw)⟩)
  have B43 : Exa s s.heap A_oINT4 "com/example/composition/composition/model/AbapType" := Exa.start e41 g7
  have B44 : Fld s s.heap A_oINT4 "com/example/composition/composition/model/AbapType" "maxLength" "I" (.int (0 : Int32)) := Fld.start ((fld_at e41).symm.trans (own_eqint g9))
  obtain ⟨A_oDATS, e45⟩ := exa_v g19
  have B46 : Sta s s.heap "com/example/composition/composition/model/AbapType" "DATS" "Lcom/example/composition/composition/model/AbapType;" (.ref A_oDATS) := Sta.start e45 (Or.inr ⟨(w2 hw), (w23 hw)⟩)
  have B47 : Exa s s.heap A_oDATS "com/example/composition/composition/model/AbapType" := Exa.start e45 g19
  have B48 : Fld s s.heap A_oDATS "com/example/composition/composition/model/AbapType" "maxLength" "I" (.int (0 : Int32)) := Fld.start ((fld_at e45).symm.trans (own_eqint g21))
  obtain ⟨A_oUTCLONG, e49⟩ := exa_v g11
  have B50 : Sta s s.heap "com/example/composition/composition/model/AbapType" "UTCLONG" "Lcom/example/composition/composition/model/AbapType;" (.ref A_oUTCLONG) := Sta.start e49 (Or.inr ⟨(w2 hw), (w19 hw)⟩)
  have B51 : Exa s s.heap A_oUTCLONG "com/example/composition/composition/model/AbapType" := Exa.start e49 g11
  have B52 : Fld s s.heap A_oUTCLONG "com/example/composition/composition/model/AbapType" "maxLength" "I" (.int (0 : Int32)) := Fld.start ((fld_at e49).symm.trans (own_eqint g13))
  obtain ⟨A_oRAW, e53⟩ := exa_v g15
  have B54 : Sta s s.heap "com/example/composition/composition/model/AbapType" "RAW" "Lcom/example/composition/composition/model/AbapType;" (.ref A_oRAW) := Sta.start e53 (Or.inr ⟨(w2 hw), (w21 hw)⟩)
  have B55 : Exa s s.heap A_oRAW "com/example/composition/composition/model/AbapType" := Exa.start e53 g15
  have B56 : Fld s s.heap A_oRAW "com/example/composition/composition/model/AbapType" "maxLength" "I" (.int (255 : Int32)) := Fld.start ((fld_at e53).symm.trans (own_eqint g17))
  obtain ⟨n, o, h1, h2, h3, _, L, rfl, ⟨rfl, N, _⟩, hq⟩ := rm_law l s _ hw tables_1 i0 A_oCLNT A_oCHAR A_oNUMC A_oINT4 A_oDATS A_oUTCLONG A_oRAW s.heap s.heap.size (Nat.le_refl _) (Old.start s) B30 B31 B32 B34 B35 B36 B38 B39 B40 B42 B43 B44 B46 B47 B48 B50 B51 B52 B54 B55 B56 p e ha hc hk s m _ below hf ((Spec.applies_iff_loose hf).mp happ).1 ⟨rfl, State.Warmed39.refl s, rfl⟩ trivial
  refine ⟨n, _, h1, h2, h3, hpost _ _ _ _ _ _ ⟨Cond.after_iff.mpr rfl, Cond.after_iff.mpr (eq_i res_at (Term.int_eval (1)) rfl), trivial⟩ ⟨hq.1, hq.2.1, (hq.2.2.sift fun y hy => Or.inr (N y hy)).mono (by decide) (by decide)⟩⟩
theorem main_1_1 : Claimed_1_1 := comes_1 fun _ _ _ _ _ _ h hF => ⟨h.1, hF⟩
theorem main_1_2 : Claimed_1_2 := comes_1 fun _ _ _ _ _ _ h hF => ⟨h.2.1, hF⟩

end Jvm.Pilot.@@N@@
namespace Jvm.Pilot.@@N@@
open Jvm Jvm.ClassFile Sem Op Lib Jvm.Free Jvm.Stand Jvm.Pilot.@@N@@.Jvm.D
/-! MADE BY PROGRAM (witnessworld.py) out of the Statement's table words and the real class files: 12 classes; the members and pool entries that the words name. The judged class is class 1, her method 1. -/
namespace start1
open Jvm.ClassFile
def u (s : String) : CpInfo := .utf8 (stringToUtf16 s)
/-- a pool by its gaps: so many unusable entries, then the entry; so many at the end -/
def gap : Nat → List CpInfo → List CpInfo
  | 0, r => r
  | n + 1, r => .unusable :: gap n r
def poolList (es : List (Nat × CpInfo)) (last : Nat) : List CpInfo := es.foldr (fun e r => gap e.1 (e.2 :: r)) (gap last [])
def pool (es : List (Nat × CpInfo)) (last : Nat) : Array CpInfo := ⟨poolList es last⟩
def fileOf (pool : Array CpInfo) (this : Nat) (attrs : Array Attribute := #[]) (ms : Array MethodInfo := #[]) (fl : Nat := 33) (sup : Nat := 0) (ifs : Array Nat := #[]) (fds : Array FieldInfo := #[]) : ClassFile where
  minorVersion := 0
  majorVersion := 65
  constantPool := pool
  accessFlags := fl
  thisClass := this
  superClass := sup
  interfaces := ifs
  fields := fds
  methods := ms
  attributes := attrs
def plain (name : String) (sup : Option ClassId) : Class where
  name := name
  kind := .ordinary
  loader := none
  accessFlags := 33
  super := sup
  interfaces := #[]
  cf := none
  fields := #[]
  methods := #[]
  instanceTypes := #[]
  staticTypes := #[]
  resolved := #[]
  callSites := []
  init := .initialized
  statics := none
  mirror := none

def pool0 : Array CpInfo := pool [(5, u "<init>"), (0, u "()V"), (1, .class_ 10), (1, u "java/lang/Object")] 113

def k0m0 : Method := { name := "<init>", desc := "()V", sig := { parameters := [], returnType := none }, accessFlags := 1, code := none }
/-- java/lang/Object -/
def k0 : Class := { plain "java/lang/Object" none with
  accessFlags := 33
  interfaces := #[]
  cf := some (fileOf pool0 8 #[] #[{ accessFlags := 1, nameIndex := 5, descriptorIndex := 6, attributes := #[] }] 33 0 #[] #[])
  fields := #[]
  methods := #[k0m0]
  instanceTypes := #[]
  staticTypes := #[]
  resolved := Array.replicate 124 none
  statics := none }

def pool1 : Array CpInfo := pool [(2, .class_ 4), (1, u "java/lang/Object"), (0, u "<init>"), (0, u "()V"), (0, .integer 2147483647), (0, .fieldref 9 10), (0, .class_ 11), (0, .nameAndType 12 13), (0, u "com/example/composition/composition/model/AbapType"), (0, u "CLNT"), (0, u "Lcom/example/composition/composition/model/AbapType;"), (0, .fieldref 9 15), (0, .nameAndType 16 13), (0, u "CHAR"), (0, .fieldref 9 18), (0, .nameAndType 19 13), (0, u "NUMC"), (0, .fieldref 9 21), (0, .nameAndType 22 13), (0, u "INT4"), (0, .fieldref 9 24), (0, .nameAndType 25 13), (0, u "DATS"), (0, .fieldref 9 27), (0, .nameAndType 28 13), (0, u "UTCLONG"), (0, .fieldref 9 30), (0, .nameAndType 31 13), (0, u "RAW"), (0, .methodref 9 33), (0, .nameAndType 34 35), (0, u "hasLength"), (0, u "()Z"), (0, .methodref 9 37), (0, .nameAndType 38 39), (0, u "maxLength"), (0, u "()I"), (0, .class_ 41), (0, u "com/example/composition/composition/model/AbapTypeHasLengthPinLaw"), (2, u "law"), (0, u "(I)Z")] 3

def k1m0 : Method := { name := "<init>", desc := "()V", sig := { parameters := [], returnType := none }, accessFlags := 1, code := none }
def k1c1 : Code := { maxStack := 2, maxLocals := 5, code := code, exceptionTable := #[], attributes := #[] }
def k1m1 : Method := { name := "law", desc := "(I)Z", sig := { parameters := [.int], returnType := some .boolean }, accessFlags := 9, code := some k1c1 }
/-- com/example/composition/composition/model/AbapTypeHasLengthPinLaw -/
def k1 : Class := { plain "com/example/composition/composition/model/AbapTypeHasLengthPinLaw" (some 0) with
  accessFlags := 49
  interfaces := #[]
  cf := some (fileOf pool1 40 #[] #[{ accessFlags := 1, nameIndex := 5, descriptorIndex := 6, attributes := #[] }, { accessFlags := 9, nameIndex := 44, descriptorIndex := 45, attributes := #[] }] 49 2 #[] #[])
  fields := #[]
  methods := #[k1m0, k1m1]
  instanceTypes := #[]
  staticTypes := #[]
  resolved := Array.replicate 49 none
  statics := none }

def pool2 : Array CpInfo := pool [(1, .class_ 2), (0, u "java/lang/constant/Constable"), (0, .class_ 4), (0, u "java/lang/Object")] 6

/-- java/lang/constant/Constable -/
def k2 : Class := { plain "java/lang/constant/Constable" (some 0) with
  accessFlags := 1537
  interfaces := #[]
  cf := some (fileOf pool2 1 #[] #[] 1537 3 #[] #[])
  fields := #[]
  methods := #[]
  instanceTypes := #[]
  staticTypes := #[]
  resolved := Array.replicate 11 none
  statics := none }

def pool3 : Array CpInfo := pool [(1, .class_ 2), (0, u "java/lang/Comparable"), (0, .class_ 4), (0, u "java/lang/Object")] 7

/-- java/lang/Comparable -/
def k3 : Class := { plain "java/lang/Comparable" (some 0) with
  accessFlags := 1537
  interfaces := #[]
  cf := some (fileOf pool3 1 #[] #[] 1537 3 #[] #[])
  fields := #[]
  methods := #[]
  instanceTypes := #[]
  staticTypes := #[]
  resolved := Array.replicate 12 none
  statics := none }

def pool4 : Array CpInfo := pool [(1, .class_ 2), (0, u "java/io/Serializable"), (0, .class_ 4), (0, u "java/lang/Object")] 2

/-- java/io/Serializable -/
def k4 : Class := { plain "java/io/Serializable" (some 0) with
  accessFlags := 1537
  interfaces := #[]
  cf := some (fileOf pool4 1 #[] #[] 1537 3 #[] #[])
  fields := #[]
  methods := #[]
  instanceTypes := #[]
  staticTypes := #[]
  resolved := Array.replicate 7 none
  statics := none }

def pool5 : Array CpInfo := pool [(2, .class_ 4), (1, u "java/lang/Enum"), (0, u "name"), (0, u "Ljava/lang/String;"), (2, u "ordinal"), (0, u "I"), (1, .class_ 14), (1, u "java/lang/Object"), (4, u "hash"), (86, .class_ 108), (1, u "java/lang/Enum$EnumDesc"), (2, .class_ 112), (0, u "java/lang/constant/Constable"), (0, .class_ 114), (0, u "java/lang/Comparable"), (0, .class_ 116), (0, u "java/io/Serializable")] 87

/-- java/lang/Enum -/
def k5 : Class := { plain "java/lang/Enum" (some 0) with
  accessFlags := 1057
  interfaces := #[2, 3, 4]
  cf := some (fileOf pool5 2 #[.nestMembers #[106]] #[] 1057 12 #[111, 113, 115] #[{ accessFlags := 18, nameIndex := 5, descriptorIndex := 6, attributes := #[] }, { accessFlags := 18, nameIndex := 9, descriptorIndex := 10, attributes := #[] }, { accessFlags := 2, nameIndex := 19, descriptorIndex := 10, attributes := #[] }])
  fields := #[{ name := "name", type := (.object "java/lang/String"), accessFlags := 18, slot := 0, constantValue := 0 }, { name := "ordinal", type := .int, accessFlags := 18, slot := 1, constantValue := 0 }, { name := "hash", type := .int, accessFlags := 2, slot := 2, constantValue := 0 }]
  methods := #[]
  instanceTypes := #[(.object "java/lang/String"), .int, .int]
  staticTypes := #[]
  resolved := Array.replicate 204 none
  statics := none }

def pool6 : Array CpInfo := pool [(1, .class_ 2), (0, u "com/example/composition/composition/model/AbapType"), (2, u "CLNT"), (0, u "Lcom/example/composition/composition/model/AbapType;"), (2, u "CHAR"), (2, u "NUMC"), (2, u "INT4"), (2, u "DATS"), (2, u "UTCLONG"), (2, u "RAW"), (2, u "$VALUES"), (0, u "[Lcom/example/composition/composition/model/AbapType;"), (6, .class_ 37), (1, u "java/lang/Enum"), (8, u "sourceName"), (0, u "Ljava/lang/String;"), (0, .fieldref 1 49), (0, .nameAndType 50 51), (0, u "maxLength"), (0, u "I"), (2, u "valueClass"), (0, u "Ljava/lang/Class;"), (67, u "hasLength"), (0, u "()Z"), (0, u "()I")] 7

def k6c0 : Code := { maxStack := 1, maxLocals := 1, code := prog_17_method_6_code, exceptionTable := #[], attributes := #[] }
def k6m0 : Method := { name := "hasLength", desc := "()Z", sig := { parameters := [], returnType := some .boolean }, accessFlags := 1, code := some k6c0 }
def k6c1 : Code := { maxStack := 1, maxLocals := 1, code := prog_17_method_7_code, exceptionTable := #[], attributes := #[] }
def k6m1 : Method := { name := "maxLength", desc := "()I", sig := { parameters := [], returnType := some .int }, accessFlags := 1, code := some k6c1 }
/-- com/example/composition/composition/model/AbapType -/
def k6 : Class := { plain "com/example/composition/composition/model/AbapType" (some 5) with
  accessFlags := 16433
  interfaces := #[]
  cf := some (fileOf pool6 1 #[] #[{ accessFlags := 1, nameIndex := 123, descriptorIndex := 124, attributes := #[] }, { accessFlags := 1, nameIndex := 50, descriptorIndex := 125, attributes := #[] }] 16433 35 #[] #[{ accessFlags := 16409, nameIndex := 5, descriptorIndex := 6, attributes := #[] }, { accessFlags := 16409, nameIndex := 9, descriptorIndex := 6, attributes := #[] }, { accessFlags := 16409, nameIndex := 12, descriptorIndex := 6, attributes := #[] }, { accessFlags := 16409, nameIndex := 15, descriptorIndex := 6, attributes := #[] }, { accessFlags := 16409, nameIndex := 18, descriptorIndex := 6, attributes := #[] }, { accessFlags := 16409, nameIndex := 21, descriptorIndex := 6, attributes := #[] }, { accessFlags := 16409, nameIndex := 24, descriptorIndex := 6, attributes := #[] }, { accessFlags := 18, nameIndex := 46, descriptorIndex := 47, attributes := #[] }, { accessFlags := 18, nameIndex := 50, descriptorIndex := 51, attributes := #[] }, { accessFlags := 18, nameIndex := 54, descriptorIndex := 55, attributes := #[] }, { accessFlags := 4122, nameIndex := 27, descriptorIndex := 28, attributes := #[] }])
  fields := #[{ name := "CLNT", type := (.object "com/example/composition/composition/model/AbapType"), accessFlags := 16409, slot := 0, constantValue := 0 }, { name := "CHAR", type := (.object "com/example/composition/composition/model/AbapType"), accessFlags := 16409, slot := 1, constantValue := 0 }, { name := "NUMC", type := (.object "com/example/composition/composition/model/AbapType"), accessFlags := 16409, slot := 2, constantValue := 0 }, { name := "INT4", type := (.object "com/example/composition/composition/model/AbapType"), accessFlags := 16409, slot := 3, constantValue := 0 }, { name := "DATS", type := (.object "com/example/composition/composition/model/AbapType"), accessFlags := 16409, slot := 4, constantValue := 0 }, { name := "UTCLONG", type := (.object "com/example/composition/composition/model/AbapType"), accessFlags := 16409, slot := 5, constantValue := 0 }, { name := "RAW", type := (.object "com/example/composition/composition/model/AbapType"), accessFlags := 16409, slot := 6, constantValue := 0 }, { name := "sourceName", type := (.object "java/lang/String"), accessFlags := 18, slot := 3, constantValue := 0 }, { name := "maxLength", type := .int, accessFlags := 18, slot := 4, constantValue := 0 }, { name := "valueClass", type := (.object "java/lang/Class"), accessFlags := 18, slot := 5, constantValue := 0 }, { name := "$VALUES", type := (.array (.object "com/example/composition/composition/model/AbapType")), accessFlags := 4122, slot := 7, constantValue := 0 }]
  methods := #[k6m0, k6m1]
  instanceTypes := #[(.object "java/lang/String"), .int, .int, (.object "java/lang/String"), .int, (.object "java/lang/Class")]
  staticTypes := #[(.object "com/example/composition/composition/model/AbapType"), (.object "com/example/composition/composition/model/AbapType"), (.object "com/example/composition/composition/model/AbapType"), (.object "com/example/composition/composition/model/AbapType"), (.object "com/example/composition/composition/model/AbapType"), (.object "com/example/composition/composition/model/AbapType"), (.object "com/example/composition/composition/model/AbapType"), (.array (.object "com/example/composition/composition/model/AbapType"))]
  resolved := Array.replicate 133 none
  statics := some 0 }

def pool7 : Array CpInfo := pool [(1, u "java/lang/Cloneable"), (0, .class_ 1), (0, u "java/lang/Object"), (0, .class_ 3)] 3

/-- java/lang/Cloneable -/
def k7 : Class := { plain "java/lang/Cloneable" (some 0) with
  accessFlags := 1537
  interfaces := #[]
  cf := some (fileOf pool7 2 #[] #[] 1537 4 #[] #[])
  fields := #[]
  methods := #[]
  instanceTypes := #[]
  staticTypes := #[]
  resolved := Array.replicate 8 none
  statics := none }

/-- the primitive byte -/
def k8 : Class := { plain "byte" none with kind := .primitive 'B', accessFlags := 0x411 }
/-- [B -/
def k9 : Class := { plain "[B" (some 0) with kind := .array 8 .byte, interfaces := #[7, 4], accessFlags := 1041 }

/-- the primitive int -/
def k10 : Class := { plain "int" none with kind := .primitive 'I', accessFlags := 0x411 }
/-- [I -/
def k11 : Class := { plain "[I" (some 0) with kind := .array 10 .int, interfaces := #[7, 4], accessFlags := 1041 }

def heap : Heap := #[{ cls := 6, slots := #[.ref 1, .ref 7, .ref 6, .ref 2, .ref 5, .ref 3, .ref 4, .null], vm := .statics 6 },
  { cls := 6, slots := #[.null, .int 0, .int 0, .null, .int 0, .null], vm := .none },
  { cls := 6, slots := #[.null, .int 0, .int 0, .null, .int 0, .null], vm := .none },
  { cls := 6, slots := #[.null, .int 0, .int 0, .null, .int 0, .null], vm := .none },
  { cls := 6, slots := #[.null, .int 0, .int 0, .null, .int 255, .null], vm := .none },
  { cls := 6, slots := #[.null, .int 0, .int 0, .null, .int 0, .null], vm := .none },
  { cls := 6, slots := #[.null, .int 0, .int 0, .null, .int 255, .null], vm := .none },
  { cls := 6, slots := #[.null, .int 0, .int 0, .null, .int 1333, .null], vm := .none }]
def classes : Array Class := #[k0, k1, k2, k3, k4, k5, k6, k7, k8, k9, k10, k11]
def interned : List (Array UInt16 × Addr) := []
def slotsUsed : Nat := 50
def theMethod : MethodId := ⟨1, 1⟩
def args0 : Array Value := #[.int 5]
def aboutOver (below : List Frame) : State where
  vm := { classes := classes, interned := interned.toArray }
  heap := heap
  slotsUsed := slotsUsed
  threads := #[{ frames := .invoking theMethod args0 :: below }]
def below0 : List Frame := [.native { method := ⟨0, 0⟩, args := #[] }]
def about1 : State := aboutOver below0
def p0 : Program := .bare "" "" ""
def e0 : Env := launch0.env 0 0 0
theorem w_frames : about1.frames = Frame.invoking theMethod args0 :: below0 := rfl
set_option maxRecDepth 65536 in
theorem w_args : argsFit about1.vm theMethod args0 = true := by decide +kernel
set_option maxRecDepth 65536 in
theorem w_heap : heapFits about1 = true := by decide +kernel
set_option maxRecDepth 65536 in
theorem w_runnable : about1.curStatus? = some .runnable := by decide +kernel
set_option maxRecDepth 65536 in
theorem w_alone : about1.alone = true := by decide +kernel
set_option maxRecDepth 65536 in
theorem w_named : about1.methodNamed? x = some theMethod := by decide +kernel
set_option maxRecDepth 65536 in
theorem w_hears : about1.hears theMethod below0 = true := by decide +kernel
set_option maxRecDepth 65536 in
theorem w_ripe : about1.ripe theMethod args0 below0 = true := by decide +kernel
theorem w_running : about1.status = .running := rfl
set_option maxRecDepth 65536 in
theorem w_room : about1.hasRoom e0.platform room_1 = true :=
  launch0.hasRoom_least _ room_1 (by decide +kernel) (by decide +kernel) (by decide +kernel) (by decide +kernel) (by decide +kernel) (by decide +kernel)
theorem allAtoms_all (ts : List Jvm.Cond) (a : Array Jvm.Value) (st : Jvm.State) : (allAtoms ts).before a st = ts.all (fun c => c.before a st) := by
  induction ts with
  | nil => rfl
  | cons c t ih =>
    show (Jvm.Cond.and c (allAtoms t)).before a st = _
    rw [Jvm.Cond.before_and, ih, List.all_cons]
def words1 : List Jvm.Cond := Jvm.Cond.code x code maxLocals ret :: tables_1
/-- a 'code' word, met by the world's own term for the bytes: nothing is compared byte by byte -/
theorem code_word {y : MethodName} {bytes : ByteArray} {mx : Nat} {rt : Option FieldType} {a : Array Value} {s : State} {m : MethodId} {meth : Method} {c : Code} (h1 : s.methodNamed? y = some m) (h2 : s.vm.method? m = some meth) (h3 : meth.code = some c) (h4 : c.code = bytes)
    (h5 : (c.maxLocals == mx && c.exceptionTable.isEmpty && decide (c.maxStack ≤ mostOperands) && decide (meth.sig.returnType = rt) && !meth.locks && decide (parseMethodDescriptor y.desc = some meth.sig)) = true) : (Jvm.Cond.code y bytes mx rt).before a s = true := by
  simp only [Bool.and_eq_true, beq_iff_eq, Bool.not_eq_true', decide_eq_true_eq] at h5
  obtain ⟨⟨⟨⟨⟨g1, g2⟩, g3⟩, g4⟩, g5⟩, g6⟩ := h5
  simp [Cond.before, Cond.holds, Cond.value, h1, h2, h3, h4, g1, g2, g3, g4, g5, g6]
def isCode : Jvm.Cond → Bool
  | .code _ _ _ _ => true
  | _ => false
theorem all_split {L : List Jvm.Cond} {P : Jvm.Cond → Bool} (h1 : L.all (fun c => isCode c || P c) = true) (h2 : ∀ c ∈ L.filter isCode, P c = true) : L.all P = true := by
  refine List.all_eq_true.mpr fun c hc => ?_
  have h := List.all_eq_true.mp h1 c hc
  rcases Bool.eq_false_or_eq_true (isCode c) with hi | hi
  · exact h2 c (List.mem_filter.mpr ⟨hc, hi⟩)
  · simpa [hi] using h
set_option maxRecDepth 65536 in
theorem w_c0 : (Jvm.Cond.code x code maxLocals ret).before args0 about1 = true := code_word (m := ⟨1, 1⟩) (meth := k1m1) (c := k1c1) (by decide +kernel) rfl rfl rfl (by decide +kernel)
set_option maxRecDepth 65536 in
theorem w_c1 : (Jvm.Cond.code ({ cls := "com/example/composition/composition/model/AbapType", name := "hasLength", desc := "()Z" } : Jvm.MethodName) prog_17_method_6_code (1 : Nat) (Option.some Jvm.ClassFile.FieldType.boolean)).before args0 about1 = true := code_word (m := ⟨6, 0⟩) (meth := k6m0) (c := k6c0) (by decide +kernel) rfl rfl rfl (by decide +kernel)
set_option maxRecDepth 65536 in
theorem w_c2 : (Jvm.Cond.code ({ cls := "com/example/composition/composition/model/AbapType", name := "maxLength", desc := "()I" } : Jvm.MethodName) prog_17_method_7_code (1 : Nat) (Option.some Jvm.ClassFile.FieldType.int)).before args0 about1 = true := code_word (m := ⟨6, 1⟩) (meth := k6m1) (c := k6c1) (by decide +kernel) rfl rfl rfl (by decide +kernel)
def codes1 : List Jvm.Cond := [Jvm.Cond.code x code maxLocals ret, Jvm.Cond.code ({ cls := "com/example/composition/composition/model/AbapType", name := "hasLength", desc := "()Z" } : Jvm.MethodName) prog_17_method_6_code (1 : Nat) (Option.some Jvm.ClassFile.FieldType.boolean), Jvm.Cond.code ({ cls := "com/example/composition/composition/model/AbapType", name := "maxLength", desc := "()I" } : Jvm.MethodName) prog_17_method_7_code (1 : Nat) (Option.some Jvm.ClassFile.FieldType.int)]
set_option maxRecDepth 65536 in
theorem codes_eq : words1.filter isCode = codes1 := rfl
theorem w_codes : ∀ c ∈ words1.filter isCode, c.before args0 about1 = true := by
  rw [codes_eq]
  intro c hc
  simp only [codes1, List.mem_cons, List.not_mem_nil, or_false] at hc
  rcases hc with rfl | rfl | rfl
  · exact w_c0
  · exact w_c1
  · exact w_c2
set_option maxRecDepth 65536 in
theorem w_t1 : (words1.take 24).all (fun c => isCode c || c.before args0 about1) = true := by decide +kernel
set_option maxRecDepth 65536 in
theorem w_t2 : (words1.drop 24).all (fun c => isCode c || c.before args0 about1) = true := by decide +kernel
theorem w_tables : (allAtoms (Jvm.Cond.code x code maxLocals ret :: tables_1)).before args0 about1 = true := by
  rw [allAtoms_all]
  show words1.all (fun c => c.before args0 about1) = true
  refine all_split ?_ w_codes
  rw [← List.take_append_drop 24 words1, List.all_append, w_t1, w_t2]
  rfl
set_option maxRecDepth 65536 in
theorem w_case : (Jvm.Cond.and given_1 narrow_1).before args0 about1 = true := by decide +kernel
theorem w_applies : (headSpec (Jvm.Cond.code x code maxLocals ret :: tables_1) room_1).applies x e0.platform about1 = true :=
  (Spec.applies_iff w_frames).mpr ⟨w_running, w_runnable, w_alone, w_named, w_hears, w_ripe, w_room, w_tables⟩
theorem atStart : AtStart classFile x code maxLocals ret World_1 tables_1 room_1 Calls_1 rest_1 Pre_1 launch0 p0 e0 about1 theMethod args0 below0 :=
  ⟨lists_1, trivial, launch0.admits_env _ _ _, launch0.least_env, fairChoices_fair.cas, fairChoices_fair.clock, w_frames, w_args, w_heap, w_applies, trivial, trivial, w_case⟩
end start1
theorem witness_1 : WitnessClaimed_1 := ⟨start1.p0, start1.e0, start1.about1, start1.theMethod, start1.args0, start1.below0, start1.atStart⟩
end Jvm.Pilot.@@N@@
