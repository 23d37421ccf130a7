import JvmDerived
import JvmDerived.Pilot.@@N@@Statement
import JvmDerived.Pilot.@@N@@Code
set_option linter.unusedVariables false
set_option linter.unusedSimpArgs false
namespace Jvm.RoadKit
open Sem ClassFile Op Lib Jvm.Stand Jvm.Free Jvm.LawKit
section New
variable {p : Program} {l : Launch} {e : Env} {R : Room} {s : State} {m : MethodId} {args : Array Value} {below : List Frame} {meth : Method} {c : Code} {T : State} {locs : List Loc} {cells slots : Nat}
theorem retI (X : Stand p l e R s m args below meth c T locs cells slots) (hx : p.tables.exec = Jvm.exec) {pc : Nat} {Ls : Array Slot} {z : Int32} {rest : List Value} (hret : meth.sig.returnType = some .int) (hd : decode c.code pc = .ok (.ireturn, 1)) {fs : List Frame}
    (hl : ∀ (f : JFrame) (acts : List Action), f.method = m → f.locked = none → f.entered = [] → (doReturn e (T.setTop f) acts (some (.int z))).1 = T.setFrames fs) : Steps p.tables e below (T.setTop (mkF m pc Ls (.int z :: rest))) (T.setFrames fs) := by
  have hm' : T.vm.method? m = some meth := X.method'
  have hn : narrow .int (.int z) = .int z := rfl
  show Steps p.tables e below (T.setTop { method := m, pc := pc, locals := Ls, stack := _ :: rest, locked := none }) _
  jvm_step X.here [X.here.top, hx, hd, hm', hret, hn]
  first | (intro acts; rw [hl _ acts rfl rfl rfl]) | rw [hl _ _ rfl rfl rfl]
  exact Steps.refl _
end New
end Jvm.RoadKit
namespace Jvm.Pilot.@@N@@
open Jvm Jvm.ClassFile Sem Op Lib Jvm.Free Jvm.Stand Jvm.LawKit Jvm.RoadKit Bundle Jvm.Pilot.@@N@@.Jvm.D
def Rch (tb : Tables) (e : Env) (below : List Frame) (P : State → Prop) (st : State) : Prop := ∃ t, Steps tb e below st t ∧ P t
theorem Rch.go {tb : Tables} {e : Env} {below : List Frame} {P : State → Prop} {st st' : State} (h : ∀ t, Steps tb e below st' t → Steps tb e below st t) (k : Rch tb e below P st') : Rch tb e below P st := by
  obtain ⟨t, h1, h2⟩ := k
  exact ⟨t, h t h1, h2⟩
theorem Rch.mk {tb : Tables} {e : Env} {below : List Frame} {P : State → Prop} {st t : State} (h : Steps tb e below st t) (k : P t) : Rch tb e below P st := ⟨t, h, k⟩
theorem ow0 {a0 : Array Value} {Z : State} (hw : ∀ d ∈ tables_1, d.before a0 Z = true) : (Jvm.Cond.methodLink "com/example/feldsher/feldsher/crypto/SpanIsEmptyElementTagPinLaw" (9 : Nat) ({ cls := "java/lang/Math", name := "min", desc := "(II)I" } : Jvm.MethodName)).before a0 Z = true := hw _ (List.mem_of_getElem? (i := 0) rfl)
theorem ow1 {a0 : Array Value} {Z : State} (hw : ∀ d ∈ tables_1, d.before a0 Z = true) : (Jvm.Cond.static ({ cls := "java/lang/Math", name := "min", desc := "(II)I" } : Jvm.MethodName)).before a0 Z = true := hw _ (List.mem_of_getElem? (i := 1) rfl)
theorem ow2 {a0 : Array Value} {Z : State} (hw : ∀ d ∈ tables_1, d.before a0 Z = true) : (Jvm.Cond.initialized "java/lang/Math").before a0 Z = true := hw _ (List.mem_of_getElem? (i := 2) rfl)
theorem ow3 {a0 : Array Value} {Z : State} (hw : ∀ d ∈ tables_1, d.before a0 Z = true) : (Jvm.Cond.code ({ cls := "java/lang/Math", name := "min", desc := "(II)I" } : Jvm.MethodName) jdk_29_method_69_code (2 : Nat) (Option.some Jvm.ClassFile.FieldType.int)).before a0 Z = true := hw _ (List.mem_of_getElem? (i := 3) rfl)
theorem ow4 {a0 : Array Value} {Z : State} (hw : ∀ d ∈ tables_1, d.before a0 Z = true) : (Jvm.Cond.methodLink "com/example/feldsher/feldsher/crypto/SpanIsEmptyElementTagPinLaw" (22 : Nat) ({ cls := "java/lang/Math", name := "max", desc := "(II)I" } : Jvm.MethodName)).before a0 Z = true := hw _ (List.mem_of_getElem? (i := 4) rfl)
theorem ow5 {a0 : Array Value} {Z : State} (hw : ∀ d ∈ tables_1, d.before a0 Z = true) : (Jvm.Cond.static ({ cls := "java/lang/Math", name := "max", desc := "(II)I" } : Jvm.MethodName)).before a0 Z = true := hw _ (List.mem_of_getElem? (i := 5) rfl)
theorem ow6 {a0 : Array Value} {Z : State} (hw : ∀ d ∈ tables_1, d.before a0 Z = true) : (Jvm.Cond.code ({ cls := "java/lang/Math", name := "max", desc := "(II)I" } : Jvm.MethodName) jdk_29_method_65_code (2 : Nat) (Option.some Jvm.ClassFile.FieldType.int)).before a0 Z = true := hw _ (List.mem_of_getElem? (i := 6) rfl)
theorem ow7 {a0 : Array Value} {Z : State} (hw : ∀ d ∈ tables_1, d.before a0 Z = true) : (Jvm.Cond.constant "com/example/feldsher/feldsher/crypto/SpanIsEmptyElementTagPinLaw" (27 : Nat) (2147483647 : Int32)).before a0 Z = true := hw _ (List.mem_of_getElem? (i := 7) rfl)
theorem ow8 {a0 : Array Value} {Z : State} (hw : ∀ d ∈ tables_1, d.before a0 Z = true) : (Jvm.Cond.constantLong "com/example/feldsher/feldsher/crypto/SpanIsEmptyElementTagPinLaw" (29 : Nat) (2147483647 : Int64)).before a0 Z = true := hw _ (List.mem_of_getElem? (i := 8) rfl)
theorem ow9 {a0 : Array Value} {Z : State} (hw : ∀ d ∈ tables_1, d.before a0 Z = true) : (Jvm.Cond.constantLong "com/example/feldsher/feldsher/crypto/SpanIsEmptyElementTagPinLaw" (31 : Nat) (4294967295 : Int64)).before a0 Z = true := hw _ (List.mem_of_getElem? (i := 9) rfl)
theorem ow10 {a0 : Array Value} {Z : State} (hw : ∀ d ∈ tables_1, d.before a0 Z = true) : (Jvm.Cond.classLink "com/example/feldsher/feldsher/crypto/SpanIsEmptyElementTagPinLaw" (7 : Nat) "com/example/feldsher/feldsher/crypto/ElementSpans$Span").before a0 Z = true := hw _ (List.mem_of_getElem? (i := 10) rfl)
theorem ow11 {a0 : Array Value} {Z : State} (hw : ∀ d ∈ tables_1, d.before a0 Z = true) : (Jvm.Cond.instantiable "com/example/feldsher/feldsher/crypto/ElementSpans$Span" (4 : Nat)).before a0 Z = true := hw _ (List.mem_of_getElem? (i := 11) rfl)
theorem ow12 {a0 : Array Value} {Z : State} (hw : ∀ d ∈ tables_1, d.before a0 Z = true) : (Jvm.Cond.initialized "com/example/feldsher/feldsher/crypto/ElementSpans$Span").before a0 Z = true := hw _ (List.mem_of_getElem? (i := 12) rfl)
theorem ow13 {a0 : Array Value} {Z : State} (hw : ∀ d ∈ tables_1, d.before a0 Z = true) : (Jvm.Cond.methodLink "com/example/feldsher/feldsher/crypto/SpanIsEmptyElementTagPinLaw" (15 : Nat) ({ cls := "com/example/feldsher/feldsher/crypto/ElementSpans$Span", name := "<init>", desc := "(IIII)V" } : Jvm.MethodName)).before a0 Z = true := hw _ (List.mem_of_getElem? (i := 13) rfl)
theorem ow14 {a0 : Array Value} {Z : State} (hw : ∀ d ∈ tables_1, d.before a0 Z = true) : (Jvm.Cond.instanceMethod ({ cls := "com/example/feldsher/feldsher/crypto/ElementSpans$Span", name := "<init>", desc := "(IIII)V" } : Jvm.MethodName)).before a0 Z = true := hw _ (List.mem_of_getElem? (i := 14) rfl)
theorem ow15 {a0 : Array Value} {Z : State} (hw : ∀ d ∈ tables_1, d.before a0 Z = true) : (Jvm.Cond.code ({ cls := "com/example/feldsher/feldsher/crypto/ElementSpans$Span", name := "<init>", desc := "(IIII)V" } : Jvm.MethodName) prog_16_method_1_code (5 : Nat) (Option.none : Option Jvm.ClassFile.FieldType)).before a0 Z = true := hw _ (List.mem_of_getElem? (i := 15) rfl)
theorem ow16 {a0 : Array Value} {Z : State} (hw : ∀ d ∈ tables_1, d.before a0 Z = true) : (Jvm.Cond.methodLink "com/example/feldsher/feldsher/crypto/ElementSpans$Span" (1 : Nat) ({ cls := "java/lang/Record", name := "<init>", desc := "()V" } : Jvm.MethodName)).before a0 Z = true := hw _ (List.mem_of_getElem? (i := 16) rfl)
theorem ow17 {a0 : Array Value} {Z : State} (hw : ∀ d ∈ tables_1, d.before a0 Z = true) : (Jvm.Cond.instanceMethod ({ cls := "java/lang/Record", name := "<init>", desc := "()V" } : Jvm.MethodName)).before a0 Z = true := hw _ (List.mem_of_getElem? (i := 17) rfl)
theorem ow19 {a0 : Array Value} {Z : State} (hw : ∀ d ∈ tables_1, d.before a0 Z = true) : (Jvm.Cond.initialized "java/lang/Record").before a0 Z = true := hw _ (List.mem_of_getElem? (i := 19) rfl)
theorem ow20 {a0 : Array Value} {Z : State} (hw : ∀ d ∈ tables_1, d.before a0 Z = true) : (Jvm.Cond.code ({ cls := "java/lang/Record", name := "<init>", desc := "()V" } : Jvm.MethodName) jdk_30_method_1_code (1 : Nat) (Option.none : Option Jvm.ClassFile.FieldType)).before a0 Z = true := hw _ (List.mem_of_getElem? (i := 20) rfl)
theorem ow21 {a0 : Array Value} {Z : State} (hw : ∀ d ∈ tables_1, d.before a0 Z = true) : (Jvm.Cond.methodLink "java/lang/Record" (1 : Nat) ({ cls := "java/lang/Object", name := "<init>", desc := "()V" } : Jvm.MethodName)).before a0 Z = true := hw _ (List.mem_of_getElem? (i := 21) rfl)
theorem ow22 {a0 : Array Value} {Z : State} (hw : ∀ d ∈ tables_1, d.before a0 Z = true) : (Jvm.Cond.instanceMethod ({ cls := "java/lang/Object", name := "<init>", desc := "()V" } : Jvm.MethodName)).before a0 Z = true := hw _ (List.mem_of_getElem? (i := 22) rfl)
theorem ow23 {a0 : Array Value} {Z : State} (hw : ∀ d ∈ tables_1, d.before a0 Z = true) : (Jvm.Cond.code ({ cls := "java/lang/Object", name := "<init>", desc := "()V" } : Jvm.MethodName) object_method_1_code (1 : Nat) (Option.none : Option Jvm.ClassFile.FieldType)).before a0 Z = true := hw _ (List.mem_of_getElem? (i := 23) rfl)
theorem ow24 {a0 : Array Value} {Z : State} (hw : ∀ d ∈ tables_1, d.before a0 Z = true) : (Jvm.Cond.fieldLink "com/example/feldsher/feldsher/crypto/ElementSpans$Span" (7 : Nat) "com/example/feldsher/feldsher/crypto/ElementSpans$Span" "start" "I").before a0 Z = true := hw _ (List.mem_of_getElem? (i := 24) rfl)
theorem ow25 {a0 : Array Value} {Z : State} (hw : ∀ d ∈ tables_1, d.before a0 Z = true) : (Jvm.Cond.laysFinal "com/example/feldsher/feldsher/crypto/ElementSpans$Span" "com/example/feldsher/feldsher/crypto/ElementSpans$Span" "start" "I").before a0 Z = true := hw _ (List.mem_of_getElem? (i := 25) rfl)
theorem ow26 {a0 : Array Value} {Z : State} (hw : ∀ d ∈ tables_1, d.before a0 Z = true) : (Jvm.Cond.fieldLink "com/example/feldsher/feldsher/crypto/ElementSpans$Span" (13 : Nat) "com/example/feldsher/feldsher/crypto/ElementSpans$Span" "contentStart" "I").before a0 Z = true := hw _ (List.mem_of_getElem? (i := 26) rfl)
theorem ow27 {a0 : Array Value} {Z : State} (hw : ∀ d ∈ tables_1, d.before a0 Z = true) : (Jvm.Cond.laysFinal "com/example/feldsher/feldsher/crypto/ElementSpans$Span" "com/example/feldsher/feldsher/crypto/ElementSpans$Span" "contentStart" "I").before a0 Z = true := hw _ (List.mem_of_getElem? (i := 27) rfl)
theorem ow28 {a0 : Array Value} {Z : State} (hw : ∀ d ∈ tables_1, d.before a0 Z = true) : (Jvm.Cond.fieldLink "com/example/feldsher/feldsher/crypto/ElementSpans$Span" (16 : Nat) "com/example/feldsher/feldsher/crypto/ElementSpans$Span" "contentEnd" "I").before a0 Z = true := hw _ (List.mem_of_getElem? (i := 28) rfl)
theorem ow29 {a0 : Array Value} {Z : State} (hw : ∀ d ∈ tables_1, d.before a0 Z = true) : (Jvm.Cond.laysFinal "com/example/feldsher/feldsher/crypto/ElementSpans$Span" "com/example/feldsher/feldsher/crypto/ElementSpans$Span" "contentEnd" "I").before a0 Z = true := hw _ (List.mem_of_getElem? (i := 29) rfl)
theorem ow30 {a0 : Array Value} {Z : State} (hw : ∀ d ∈ tables_1, d.before a0 Z = true) : (Jvm.Cond.fieldLink "com/example/feldsher/feldsher/crypto/ElementSpans$Span" (19 : Nat) "com/example/feldsher/feldsher/crypto/ElementSpans$Span" "end" "I").before a0 Z = true := hw _ (List.mem_of_getElem? (i := 30) rfl)
theorem ow31 {a0 : Array Value} {Z : State} (hw : ∀ d ∈ tables_1, d.before a0 Z = true) : (Jvm.Cond.laysFinal "com/example/feldsher/feldsher/crypto/ElementSpans$Span" "com/example/feldsher/feldsher/crypto/ElementSpans$Span" "end" "I").before a0 Z = true := hw _ (List.mem_of_getElem? (i := 31) rfl)
theorem ow32 {a0 : Array Value} {Z : State} (hw : ∀ d ∈ tables_1, d.before a0 Z = true) : (Jvm.Cond.methodLink "com/example/feldsher/feldsher/crypto/SpanIsEmptyElementTagPinLaw" (18 : Nat) ({ cls := "com/example/feldsher/feldsher/crypto/ElementSpans$Span", name := "isEmptyElementTag", desc := "()Z" } : Jvm.MethodName)).before a0 Z = true := hw _ (List.mem_of_getElem? (i := 32) rfl)
theorem ow33 {a0 : Array Value} {Z : State} (hw : ∀ d ∈ tables_1, d.before a0 Z = true) : (Jvm.Cond.declares ({ cls := "com/example/feldsher/feldsher/crypto/ElementSpans$Span", name := "isEmptyElementTag", desc := "()Z" } : Jvm.MethodName)).before a0 Z = true := hw _ (List.mem_of_getElem? (i := 33) rfl)
theorem ow34 {a0 : Array Value} {Z : State} (hw : ∀ d ∈ tables_1, d.before a0 Z = true) : (Jvm.Cond.instanceMethod ({ cls := "com/example/feldsher/feldsher/crypto/ElementSpans$Span", name := "isEmptyElementTag", desc := "()Z" } : Jvm.MethodName)).before a0 Z = true := hw _ (List.mem_of_getElem? (i := 34) rfl)
theorem ow35 {a0 : Array Value} {Z : State} (hw : ∀ d ∈ tables_1, d.before a0 Z = true) : (Jvm.Cond.selects "com/example/feldsher/feldsher/crypto/ElementSpans$Span" ({ cls := "com/example/feldsher/feldsher/crypto/ElementSpans$Span", name := "isEmptyElementTag", desc := "()Z" } : Jvm.MethodName) ({ cls := "com/example/feldsher/feldsher/crypto/ElementSpans$Span", name := "isEmptyElementTag", desc := "()Z" } : Jvm.MethodName)).before a0 Z = true := hw _ (List.mem_of_getElem? (i := 35) rfl)
theorem ow36 {a0 : Array Value} {Z : State} (hw : ∀ d ∈ tables_1, d.before a0 Z = true) : (Jvm.Cond.code ({ cls := "com/example/feldsher/feldsher/crypto/ElementSpans$Span", name := "isEmptyElementTag", desc := "()Z" } : Jvm.MethodName) prog_16_method_2_code (1 : Nat) (Option.some Jvm.ClassFile.FieldType.boolean)).before a0 Z = true := hw _ (List.mem_of_getElem? (i := 36) rfl)
theorem ow37 {a0 : Array Value} {Z : State} (hw : ∀ d ∈ tables_1, d.before a0 Z = true) : (Jvm.Cond.constant "com/example/feldsher/feldsher/crypto/SpanIsEmptyElementTagPinLaw" (28 : Nat) (2147483646 : Int32)).before a0 Z = true := hw _ (List.mem_of_getElem? (i := 37) rfl)
def fMin (p1 : Int32) (p2 : Int32) : Int32 := (if p2 < p1 then p2 else p1)
theorem ef_rm1 (m : MethodId) (p1 : Int32) (p2 : Int32) : entryFrame m #[(.int p1), (.int p2)] 2 = mkF m 0 #[.val (.int p1), .val (.int p2)] [] := by first | (simp [entryFrame, mkF, argsToLocals, Value.category]; done) | rfl
theorem d1_0 : decode jdk_29_method_69_code 0 = .ok (.iload_n 0, 1) := by decide +kernel
theorem d1_1 : decode jdk_29_method_69_code 1 = .ok (.iload_n 1, 1) := by decide +kernel
theorem d1_2 : decode jdk_29_method_69_code 2 = .ok (.if_icmp .gt 7, 3) := by decide +kernel
theorem d1_9 : decode jdk_29_method_69_code 9 = .ok (.iload_n 1, 1) := by decide +kernel
theorem d1_10 : decode jdk_29_method_69_code 10 = .ok (.ireturn, 1) := by decide +kernel
theorem d1_5 : decode jdk_29_method_69_code 5 = .ok (.iload_n 0, 1) := by decide +kernel
theorem d1_6 : decode jdk_29_method_69_code 6 = .ok (.goto 4, 3) := by decide +kernel
def Q_rm1 (Z : State) (p1 : Int32) (p2 : Int32) (h0 : Heap) (n0 : Nat) (v : Option Value) (h : Heap) (L : List Loc) : Prop := v = some (.int (fMin p1 p2)) ∧ Fr n0 L ∧ h = h0
set_option maxRecDepth 65536 in
set_option maxHeartbeats 40000000 in
theorem rm1 (l : Launch) (Z : State) (a0 : Array Value) (hw : ∀ d ∈ tables_1, d.before a0 Z = true) (ws : List Jvm.Cond) (p1 : Int32) (p2 : Int32) (h0 : Heap) (n0 : Nat) (Z0 : n0 ≤ h0.size) :
    MetFree l (⟨"java/lang/Math", "min", "(II)I"⟩ : MethodName) (head1 (Jvm.Cond.code (⟨"java/lang/Math", "min", "(II)I"⟩ : MethodName) jdk_29_method_69_code 2 (some .int) :: ws) ({ frames := 0, cells := 0, slots := 0, locals := 0 } : Room)) (fun a U => a = #[(.int p1), (.int p2)] ∧ Z.Warmed39 U.vm ∧ U.heap = h0) (fun _ _ _ _ _ => True) (fun _ U o U' => ∃ v L, o = .returned v ∧ Q_rm1 Z p1 p2 h0 n0 v U'.heap L ∧ FrameEnd U o U' L ({ frames := 0, cells := 0, slots := 0, locals := 0 } : Room).cells ({ frames := 0, cells := 0, slots := 0, locals := 0 } : Room).slots) := by
  refine MetFree.of_bodySF (Jvm.Free.JP.mathPlain rfl (by decide +kernel)) hisR ?_
  intro p e s m args below meth c s₁ Bd hml0 hP hK
  obtain ⟨rfl, hZ, hh⟩ := hP
  have hx := Bd.exec
  have hby := Bd.bytes
  have hml : c.maxLocals = 2 := hml0
  have hown : s.vm.findClass "java/lang/Math" = some m.cls := findClass_of_methodNamed Bd.named
  have hnm := (name_of_methodNamed Bd.named Bd.method).1
  have X0 : Stand p l e ({ frames := 0, cells := 0, slots := 0, locals := 0 } : Room) s m #[(.int p1), (.int p2)] below meth c s₁ [] 0 0 := Stand.of_body Bd
  have e0 : s₁.heap = h0 := by rw [← hh, Bd.state]; rfl
  have N0 := Fr.nil n0
  suffices hR : ∀ P : State → Prop, (∀ s₂ o v L, s₂.status = .running → Ended s₂ below o → o = .returned v → Q_rm1 Z p1 p2 h0 n0 v s₂.heap L → FrameEnd s o s₂ L ({ frames := 0, cells := 0, slots := 0, locals := 0 } : Room).cells ({ frames := 0, cells := 0, slots := 0, locals := 0 } : Room).slots → P s₂) → Rch p.tables e below P (s₁.setTop (mkF m 0 #[.val (.int p1), .val (.int p2)] [])) by
    obtain ⟨s₂, h1, o, h2⟩ := hR (fun s₂ => ∃ o, s₂.status = .running ∧ Ended s₂ below o ∧ ∃ v L, o = .returned v ∧ Q_rm1 Z p1 p2 h0 n0 v s₂.heap L ∧ FrameEnd s o s₂ L ({ frames := 0, cells := 0, slots := 0, locals := 0 } : Room).cells ({ frames := 0, cells := 0, slots := 0, locals := 0 } : Room).slots) (fun s₂ o v L q1 q2 q3 q4 q5 => ⟨o, q1, q2, v, L, q3, q4, q5⟩)
    exact ⟨s₂, o, castTop (ef_rm1 m p1 p2) h1, h2⟩
  intro P hPd
  refine Rch.go (fun zt zk => XS.iloadN X0.here hx rfl (hb hby d1_0) rfl zk) ?_
  show Rch _ _ _ _ (s₁.setTop (mkF m 1 #[.val (.int p1), .val (.int p2)] [(.int p1)]))
  refine Rch.go (fun zt zk => XS.iloadN X0.here hx rfl (hb hby d1_1) rfl zk) ?_
  show Rch _ _ _ _ (s₁.setTop (mkF m 2 #[.val (.int p1), .val (.int p2)] [(.int p2), (.int p1)]))
  by_cases hc2_1 : p2 < p1
  · skip
    refine Rch.go (fun zt zk => XS.icmpYes X0.here hx rfl (pc0 := 2) (pc' := 9) rfl (hb hby d1_2) rfl (tlt hc2_1).2.2.1 (by decide) (by decide) zk) ?_
    show Rch _ _ _ _ (s₁.setTop (mkF m 9 #[.val (.int p1), .val (.int p2)] []))
    refine Rch.go (fun zt zk => XS.iloadN X0.here hx rfl (hb hby d1_9) rfl zk) ?_
    show Rch _ _ _ _ (s₁.setTop (mkF m 10 #[.val (.int p1), .val (.int p2)] [(.int p2)]))
    obtain ⟨fs, hr, hrun, hended, hW, hsame⟩ := X0.leave (v := some (.int p2)) (fun h => by rw [Bd.returns] at h; cases h)
    refine Rch.mk (retI X0 hx Bd.returns (hb hby d1_10) hr) (hPd _ _ _ _ hrun hended rfl ?_ ⟨⟨_, rfl⟩, hW, hsame.mono (by decide) (by decide)⟩)
    show Q_rm1 Z p1 p2 h0 n0 _ s₁.heap _
    have hF : fMin p1 p2 = p2 := ((if_pos hc2_1).trans rfl)
    rw [e0]
    exact ⟨by rw [hF], N0, rfl⟩
  · skip
    refine Rch.go (fun zt zk => XS.icmpNo X0.here hx rfl (hb hby d1_2) rfl (flt hc2_1).2.2.1 zk) ?_
    show Rch _ _ _ _ (s₁.setTop (mkF m 5 #[.val (.int p1), .val (.int p2)] []))
    refine Rch.go (fun zt zk => XS.iloadN X0.here hx rfl (hb hby d1_5) rfl zk) ?_
    show Rch _ _ _ _ (s₁.setTop (mkF m 6 #[.val (.int p1), .val (.int p2)] [(.int p1)]))
    refine Rch.go (fun zt zk => XS.goto X0.here hx rfl (pc0 := 6) (pc' := 10) rfl (hb hby d1_6) (by decide) (by decide) zk) ?_
    show Rch _ _ _ _ (s₁.setTop (mkF m 10 #[.val (.int p1), .val (.int p2)] [(.int p1)]))
    obtain ⟨fs, hr, hrun, hended, hW, hsame⟩ := X0.leave (v := some (.int p1)) (fun h => by rw [Bd.returns] at h; cases h)
    refine Rch.mk (retI X0 hx Bd.returns (hb hby d1_10) hr) (hPd _ _ _ _ hrun hended rfl ?_ ⟨⟨_, rfl⟩, hW, hsame.mono (by decide) (by decide)⟩)
    show Q_rm1 Z p1 p2 h0 n0 _ s₁.heap _
    have hF : fMin p1 p2 = p1 := ((if_neg hc2_1).trans rfl)
    rw [e0]
    exact ⟨by rw [hF], N0, rfl⟩
def fMax (p1 : Int32) (p2 : Int32) : Int32 := (if p1 < p2 then p2 else p1)
theorem ef_rm2 (m : MethodId) (p1 : Int32) (p2 : Int32) : entryFrame m #[(.int p1), (.int p2)] 2 = mkF m 0 #[.val (.int p1), .val (.int p2)] [] := by first | (simp [entryFrame, mkF, argsToLocals, Value.category]; done) | rfl
theorem d2_0 : decode jdk_29_method_65_code 0 = .ok (.iload_n 0, 1) := by decide +kernel
theorem d2_1 : decode jdk_29_method_65_code 1 = .ok (.iload_n 1, 1) := by decide +kernel
theorem d2_2 : decode jdk_29_method_65_code 2 = .ok (.if_icmp .lt 7, 3) := by decide +kernel
theorem d2_9 : decode jdk_29_method_65_code 9 = .ok (.iload_n 1, 1) := by decide +kernel
theorem d2_10 : decode jdk_29_method_65_code 10 = .ok (.ireturn, 1) := by decide +kernel
theorem d2_5 : decode jdk_29_method_65_code 5 = .ok (.iload_n 0, 1) := by decide +kernel
theorem d2_6 : decode jdk_29_method_65_code 6 = .ok (.goto 4, 3) := by decide +kernel
def Q_rm2 (Z : State) (p1 : Int32) (p2 : Int32) (h0 : Heap) (n0 : Nat) (v : Option Value) (h : Heap) (L : List Loc) : Prop := v = some (.int (fMax p1 p2)) ∧ Fr n0 L ∧ h = h0
set_option maxRecDepth 65536 in
set_option maxHeartbeats 40000000 in
theorem rm2 (l : Launch) (Z : State) (a0 : Array Value) (hw : ∀ d ∈ tables_1, d.before a0 Z = true) (ws : List Jvm.Cond) (p1 : Int32) (p2 : Int32) (h0 : Heap) (n0 : Nat) (Z0 : n0 ≤ h0.size) :
    MetFree l (⟨"java/lang/Math", "max", "(II)I"⟩ : MethodName) (head1 (Jvm.Cond.code (⟨"java/lang/Math", "max", "(II)I"⟩ : MethodName) jdk_29_method_65_code 2 (some .int) :: ws) ({ frames := 0, cells := 0, slots := 0, locals := 0 } : Room)) (fun a U => a = #[(.int p1), (.int p2)] ∧ Z.Warmed39 U.vm ∧ U.heap = h0) (fun _ _ _ _ _ => True) (fun _ U o U' => ∃ v L, o = .returned v ∧ Q_rm2 Z p1 p2 h0 n0 v U'.heap L ∧ FrameEnd U o U' L ({ frames := 0, cells := 0, slots := 0, locals := 0 } : Room).cells ({ frames := 0, cells := 0, slots := 0, locals := 0 } : Room).slots) := by
  refine MetFree.of_bodySF (Jvm.Free.JP.mathPlain rfl (by decide +kernel)) hisR ?_
  intro p e s m args below meth c s₁ Bd hml0 hP hK
  obtain ⟨rfl, hZ, hh⟩ := hP
  have hx := Bd.exec
  have hby := Bd.bytes
  have hml : c.maxLocals = 2 := hml0
  have hown : s.vm.findClass "java/lang/Math" = some m.cls := findClass_of_methodNamed Bd.named
  have hnm := (name_of_methodNamed Bd.named Bd.method).1
  have X0 : Stand p l e ({ frames := 0, cells := 0, slots := 0, locals := 0 } : Room) s m #[(.int p1), (.int p2)] below meth c s₁ [] 0 0 := Stand.of_body Bd
  have e0 : s₁.heap = h0 := by rw [← hh, Bd.state]; rfl
  have N0 := Fr.nil n0
  suffices hR : ∀ P : State → Prop, (∀ s₂ o v L, s₂.status = .running → Ended s₂ below o → o = .returned v → Q_rm2 Z p1 p2 h0 n0 v s₂.heap L → FrameEnd s o s₂ L ({ frames := 0, cells := 0, slots := 0, locals := 0 } : Room).cells ({ frames := 0, cells := 0, slots := 0, locals := 0 } : Room).slots → P s₂) → Rch p.tables e below P (s₁.setTop (mkF m 0 #[.val (.int p1), .val (.int p2)] [])) by
    obtain ⟨s₂, h1, o, h2⟩ := hR (fun s₂ => ∃ o, s₂.status = .running ∧ Ended s₂ below o ∧ ∃ v L, o = .returned v ∧ Q_rm2 Z p1 p2 h0 n0 v s₂.heap L ∧ FrameEnd s o s₂ L ({ frames := 0, cells := 0, slots := 0, locals := 0 } : Room).cells ({ frames := 0, cells := 0, slots := 0, locals := 0 } : Room).slots) (fun s₂ o v L q1 q2 q3 q4 q5 => ⟨o, q1, q2, v, L, q3, q4, q5⟩)
    exact ⟨s₂, o, castTop (ef_rm2 m p1 p2) h1, h2⟩
  intro P hPd
  refine Rch.go (fun zt zk => XS.iloadN X0.here hx rfl (hb hby d2_0) rfl zk) ?_
  show Rch _ _ _ _ (s₁.setTop (mkF m 1 #[.val (.int p1), .val (.int p2)] [(.int p1)]))
  refine Rch.go (fun zt zk => XS.iloadN X0.here hx rfl (hb hby d2_1) rfl zk) ?_
  show Rch _ _ _ _ (s₁.setTop (mkF m 2 #[.val (.int p1), .val (.int p2)] [(.int p2), (.int p1)]))
  by_cases hc2_1 : p1 < p2
  · skip
    refine Rch.go (fun zt zk => XS.icmpYes X0.here hx rfl (pc0 := 2) (pc' := 9) rfl (hb hby d2_2) rfl (tlt hc2_1).1 (by decide) (by decide) zk) ?_
    show Rch _ _ _ _ (s₁.setTop (mkF m 9 #[.val (.int p1), .val (.int p2)] []))
    refine Rch.go (fun zt zk => XS.iloadN X0.here hx rfl (hb hby d2_9) rfl zk) ?_
    show Rch _ _ _ _ (s₁.setTop (mkF m 10 #[.val (.int p1), .val (.int p2)] [(.int p2)]))
    obtain ⟨fs, hr, hrun, hended, hW, hsame⟩ := X0.leave (v := some (.int p2)) (fun h => by rw [Bd.returns] at h; cases h)
    refine Rch.mk (retI X0 hx Bd.returns (hb hby d2_10) hr) (hPd _ _ _ _ hrun hended rfl ?_ ⟨⟨_, rfl⟩, hW, hsame.mono (by decide) (by decide)⟩)
    show Q_rm2 Z p1 p2 h0 n0 _ s₁.heap _
    have hF : fMax p1 p2 = p2 := ((if_pos hc2_1).trans rfl)
    rw [e0]
    exact ⟨by rw [hF], N0, rfl⟩
  · skip
    refine Rch.go (fun zt zk => XS.icmpNo X0.here hx rfl (hb hby d2_2) rfl (flt hc2_1).1 zk) ?_
    show Rch _ _ _ _ (s₁.setTop (mkF m 5 #[.val (.int p1), .val (.int p2)] []))
    refine Rch.go (fun zt zk => XS.iloadN X0.here hx rfl (hb hby d2_5) rfl zk) ?_
    show Rch _ _ _ _ (s₁.setTop (mkF m 6 #[.val (.int p1), .val (.int p2)] [(.int p1)]))
    refine Rch.go (fun zt zk => XS.goto X0.here hx rfl (pc0 := 6) (pc' := 10) rfl (hb hby d2_6) (by decide) (by decide) zk) ?_
    show Rch _ _ _ _ (s₁.setTop (mkF m 10 #[.val (.int p1), .val (.int p2)] [(.int p1)]))
    obtain ⟨fs, hr, hrun, hended, hW, hsame⟩ := X0.leave (v := some (.int p1)) (fun h => by rw [Bd.returns] at h; cases h)
    refine Rch.mk (retI X0 hx Bd.returns (hb hby d2_10) hr) (hPd _ _ _ _ hrun hended rfl ?_ ⟨⟨_, rfl⟩, hW, hsame.mono (by decide) (by decide)⟩)
    show Q_rm2 Z p1 p2 h0 n0 _ s₁.heap _
    have hF : fMax p1 p2 = p1 := ((if_neg hc2_1).trans rfl)
    rw [e0]
    exact ⟨by rw [hF], N0, rfl⟩
theorem ef_rm4 (m : MethodId) (a1 : Addr) : entryFrame m #[(.ref a1)] 1 = mkF m 0 #[.val (.ref a1)] [] := by first | (simp [entryFrame, mkF, argsToLocals, Value.category]; done) | rfl
theorem pn_java_lang_Record : plainName "java/lang/Record" = true := by first | (simp [plainName, overriddenIn]; done) | decide +kernel
theorem d4_0 : decode jdk_30_method_1_code 0 = .ok (.aload_n 0, 1) := by decide +kernel
theorem d4_1 : decode jdk_30_method_1_code 1 = .ok (.invokespecial 1, 3) := by decide +kernel
theorem d4_4 : decode jdk_30_method_1_code 4 = .ok (.return_, 1) := by decide +kernel
def Q_rm4 (Z : State) (a1 : Addr) (h0 : Heap) (n0 : Nat) (v : Option Value) (h : Heap) (L : List Loc) : Prop := v = none ∧ Fr n0 L ∧ h = h0
set_option maxRecDepth 65536 in
set_option maxHeartbeats 40000000 in
theorem rm4 (l : Launch) (Z : State) (a0 : Array Value) (hw : ∀ d ∈ tables_1, d.before a0 Z = true) (ws : List Jvm.Cond) (a1 : Addr) (h0 : Heap) (n0 : Nat) (Z0 : n0 ≤ h0.size) :
    MetFree l (⟨"java/lang/Record", "<init>", "()V"⟩ : MethodName) (head1 (Jvm.Cond.code (⟨"java/lang/Record", "<init>", "()V"⟩ : MethodName) jdk_30_method_1_code 1 none :: ws) ({ frames := 1, cells := 0, slots := 0, locals := 12 } : Room)) (fun a U => a = #[(.ref a1)] ∧ Z.Warmed39 U.vm ∧ U.heap = h0) (fun _ _ _ _ _ => True) (fun _ U o U' => ∃ v L, o = .returned v ∧ Q_rm4 Z a1 h0 n0 v U'.heap L ∧ FrameEnd U o U' L ({ frames := 1, cells := 0, slots := 0, locals := 12 } : Room).cells ({ frames := 1, cells := 0, slots := 0, locals := 12 } : Room).slots) := by
  refine MetFree.of_bodySF (plainFor_of_name pn_java_lang_Record) hisR ?_
  intro p e s m args below meth c s₁ Bd hml0 hP hK
  obtain ⟨rfl, hZ, hh⟩ := hP
  have hx := Bd.exec
  have hby := Bd.bytes
  have hml : c.maxLocals = 1 := hml0
  have hown : s.vm.findClass "java/lang/Record" = some m.cls := findClass_of_methodNamed Bd.named
  have hnm := (name_of_methodNamed Bd.named Bd.method).1
  have X0 : Stand p l e ({ frames := 1, cells := 0, slots := 0, locals := 12 } : Room) s m #[(.ref a1)] below meth c s₁ [] 0 0 := Stand.of_body Bd
  have e0 : s₁.heap = h0 := by rw [← hh, Bd.state]; rfl
  have N0 := Fr.nil n0
  suffices hR : ∀ P : State → Prop, (∀ s₂ o v L, s₂.status = .running → Ended s₂ below o → o = .returned v → Q_rm4 Z a1 h0 n0 v s₂.heap L → FrameEnd s o s₂ L ({ frames := 1, cells := 0, slots := 0, locals := 12 } : Room).cells ({ frames := 1, cells := 0, slots := 0, locals := 12 } : Room).slots → P s₂) → Rch p.tables e below P (s₁.setTop (mkF m 0 #[.val (.ref a1)] [])) by
    obtain ⟨s₂, h1, o, h2⟩ := hR (fun s₂ => ∃ o, s₂.status = .running ∧ Ended s₂ below o ∧ ∃ v L, o = .returned v ∧ Q_rm4 Z a1 h0 n0 v s₂.heap L ∧ FrameEnd s o s₂ L ({ frames := 1, cells := 0, slots := 0, locals := 12 } : Room).cells ({ frames := 1, cells := 0, slots := 0, locals := 12 } : Room).slots) (fun s₂ o v L q1 q2 q3 q4 q5 => ⟨o, q1, q2, v, L, q3, q4, q5⟩)
    exact ⟨s₂, o, castTop (ef_rm4 m a1) h1, h2⟩
  intro P hPd
  refine Rch.go (fun zt zk => XS.aloadN X0.here hx rfl (hb hby d4_0) rfl rfl zk) ?_
  show Rch _ _ _ _ (s₁.setTop (mkF m 1 #[.val (.ref a1)] [(.ref a1)]))
  obtain ⟨T1, X1, e1, st1⟩ := initO X0 hx hZ hown (ow21 hw) (ow22 hw) (ow23 hw) e0 (g := (mkF m 1 #[.val (.ref a1)] [(.ref a1)])) rfl (by rw [hml]; rfl) rfl (hb hby d4_1) (by decide) (W := 0) (by show 2 * 0 + _ ≤ _; exact Nat.le_of_eq rfl) (by decide)
  refine Rch.go st1 ?_
  show Rch _ _ _ _ (T1.setTop (mkF m 4 #[.val (.ref a1)] []))
  obtain ⟨fs, hr, hrun, hended, hW, hsame⟩ := X1.leave (v := none) (fun _ => rfl)
  refine Rch.mk (X1.returnOut hx Bd.returns (hb hby d4_4) hr) (hPd _ _ _ _ hrun hended rfl ?_ ⟨⟨_, rfl⟩, hW, hsame.mono (by decide) (by decide)⟩)
  show Q_rm4 Z a1 h0 n0 _ T1.heap _
  rw [e1]
  exact ⟨rfl, N0, rfl⟩
theorem ef_rm3 (m : MethodId) (a1 : Addr) (p2 : Int32) (p3 : Int32) (p4 : Int32) (p5 : Int32) : entryFrame m #[(.ref a1), (.int p2), (.int p3), (.int p4), (.int p5)] 5 = mkF m 0 #[.val (.ref a1), .val (.int p2), .val (.int p3), .val (.int p4), .val (.int p5)] [] := by first | (simp [entryFrame, mkF, argsToLocals, Value.category]; done) | rfl
theorem pn_com_example_feldsher_feldsher_crypto_ElementSpans_Span : plainName "com/example/feldsher/feldsher/crypto/ElementSpans$Span" = true := by first | (simp [plainName, overriddenIn]; done) | decide +kernel
theorem d3_0 : decode prog_16_method_1_code 0 = .ok (.aload_n 0, 1) := by decide +kernel
theorem d3_1 : decode prog_16_method_1_code 1 = .ok (.invokespecial 1, 3) := by decide +kernel
theorem pd___V : parseMethodDescriptor "()V" = some ⟨[], none⟩ := by decide +kernel
theorem d3_4 : decode prog_16_method_1_code 4 = .ok (.aload_n 0, 1) := by decide +kernel
theorem d3_5 : decode prog_16_method_1_code 5 = .ok (.iload_n 1, 1) := by decide +kernel
theorem d3_6 : decode prog_16_method_1_code 6 = .ok (.putfield 7, 3) := by decide +kernel
theorem d3_9 : decode prog_16_method_1_code 9 = .ok (.aload_n 0, 1) := by decide +kernel
theorem d3_10 : decode prog_16_method_1_code 10 = .ok (.iload_n 2, 1) := by decide +kernel
theorem d3_11 : decode prog_16_method_1_code 11 = .ok (.putfield 13, 3) := by decide +kernel
theorem d3_14 : decode prog_16_method_1_code 14 = .ok (.aload_n 0, 1) := by decide +kernel
theorem d3_15 : decode prog_16_method_1_code 15 = .ok (.iload_n 3, 1) := by decide +kernel
theorem d3_16 : decode prog_16_method_1_code 16 = .ok (.putfield 16, 3) := by decide +kernel
theorem d3_19 : decode prog_16_method_1_code 19 = .ok (.aload_n 0, 1) := by decide +kernel
theorem d3_20 : decode prog_16_method_1_code 20 = .ok (.iload 4, 2) := by decide +kernel
theorem d3_22 : decode prog_16_method_1_code 22 = .ok (.putfield 19, 3) := by decide +kernel
theorem d3_25 : decode prog_16_method_1_code 25 = .ok (.return_, 1) := by decide +kernel
def Q_rm3 (Z : State) (a1 : Addr) (p2 : Int32) (p3 : Int32) (p4 : Int32) (p5 : Int32) (u1 : Value) (u2 : Value) (u3 : Value) (u4 : Value) (h0 : Heap) (n0 : Nat) (v : Option Value) (h : Heap) (L : List Loc) : Prop := v = none ∧ Fr n0 L ∧ Keep h0 h [a1] ∧ Exa Z h a1 "com/example/feldsher/feldsher/crypto/ElementSpans$Span" ∧ Fld Z h a1 "com/example/feldsher/feldsher/crypto/ElementSpans$Span" "start" "I" (.int p2) ∧ Fld Z h a1 "com/example/feldsher/feldsher/crypto/ElementSpans$Span" "contentStart" "I" (.int p3) ∧ Fld Z h a1 "com/example/feldsher/feldsher/crypto/ElementSpans$Span" "contentEnd" "I" (.int p4) ∧ Fld Z h a1 "com/example/feldsher/feldsher/crypto/ElementSpans$Span" "end" "I" (.int p5)
set_option maxRecDepth 65536 in
set_option maxHeartbeats 40000000 in
theorem rm3 (l : Launch) (Z : State) (a0 : Array Value) (hw : ∀ d ∈ tables_1, d.before a0 Z = true) (ws : List Jvm.Cond) (a1 : Addr) (p2 : Int32) (p3 : Int32) (p4 : Int32) (p5 : Int32) (u1 : Value) (u2 : Value) (u3 : Value) (u4 : Value) (h0 : Heap) (n0 : Nat) (Z0 : n0 ≤ h0.size) (P0 : Exa Z h0 a1 "com/example/feldsher/feldsher/crypto/ElementSpans$Span") (P1 : Fld Z h0 a1 "com/example/feldsher/feldsher/crypto/ElementSpans$Span" "start" "I" u1) (P2 : Fld Z h0 a1 "com/example/feldsher/feldsher/crypto/ElementSpans$Span" "contentStart" "I" u2) (P3 : Fld Z h0 a1 "com/example/feldsher/feldsher/crypto/ElementSpans$Span" "contentEnd" "I" u3) (P4 : Fld Z h0 a1 "com/example/feldsher/feldsher/crypto/ElementSpans$Span" "end" "I" u4) (Pg_a1 : n0 ≤ a1) :
    MetFree l (⟨"com/example/feldsher/feldsher/crypto/ElementSpans$Span", "<init>", "(IIII)V"⟩ : MethodName) (head1 (Jvm.Cond.code (⟨"com/example/feldsher/feldsher/crypto/ElementSpans$Span", "<init>", "(IIII)V"⟩ : MethodName) prog_16_method_1_code 5 none :: ws) ({ frames := 2, cells := 0, slots := 0, locals := 24 } : Room)) (fun a U => a = #[(.ref a1), (.int p2), (.int p3), (.int p4), (.int p5)] ∧ Z.Warmed39 U.vm ∧ U.heap = h0) (fun _ _ _ _ _ => True) (fun _ U o U' => ∃ v L, o = .returned v ∧ Q_rm3 Z a1 p2 p3 p4 p5 u1 u2 u3 u4 h0 n0 v U'.heap L ∧ FrameEnd U o U' L ({ frames := 2, cells := 0, slots := 0, locals := 24 } : Room).cells ({ frames := 2, cells := 0, slots := 0, locals := 24 } : Room).slots) := by
  refine MetFree.of_bodySF (plainFor_of_name pn_com_example_feldsher_feldsher_crypto_ElementSpans_Span) hisR ?_
  intro p e s m args below meth c s₁ Bd hml0 hP hK
  obtain ⟨rfl, hZ, hh⟩ := hP
  have hx := Bd.exec
  have hby := Bd.bytes
  have hml : c.maxLocals = 5 := hml0
  have hown : s.vm.findClass "com/example/feldsher/feldsher/crypto/ElementSpans$Span" = some m.cls := findClass_of_methodNamed Bd.named
  have hnm := (name_of_methodNamed Bd.named Bd.method).1
  have X0 : Stand p l e ({ frames := 2, cells := 0, slots := 0, locals := 24 } : Room) s m #[(.ref a1), (.int p2), (.int p3), (.int p4), (.int p5)] below meth c s₁ [] 0 0 := Stand.of_body Bd
  have e0 : s₁.heap = h0 := by rw [← hh, Bd.state]; rfl
  have N0 := Fr.nil n0
  suffices hR : ∀ P : State → Prop, (∀ s₂ o v L, s₂.status = .running → Ended s₂ below o → o = .returned v → Q_rm3 Z a1 p2 p3 p4 p5 u1 u2 u3 u4 h0 n0 v s₂.heap L → FrameEnd s o s₂ L ({ frames := 2, cells := 0, slots := 0, locals := 24 } : Room).cells ({ frames := 2, cells := 0, slots := 0, locals := 24 } : Room).slots → P s₂) → Rch p.tables e below P (s₁.setTop (mkF m 0 #[.val (.ref a1), .val (.int p2), .val (.int p3), .val (.int p4), .val (.int p5)] [])) by
    obtain ⟨s₂, h1, o, h2⟩ := hR (fun s₂ => ∃ o, s₂.status = .running ∧ Ended s₂ below o ∧ ∃ v L, o = .returned v ∧ Q_rm3 Z a1 p2 p3 p4 p5 u1 u2 u3 u4 h0 n0 v s₂.heap L ∧ FrameEnd s o s₂ L ({ frames := 2, cells := 0, slots := 0, locals := 24 } : Room).cells ({ frames := 2, cells := 0, slots := 0, locals := 24 } : Room).slots) (fun s₂ o v L q1 q2 q3 q4 q5 => ⟨o, q1, q2, v, L, q3, q4, q5⟩)
    exact ⟨s₂, o, castTop (ef_rm3 m a1 p2 p3 p4 p5) h1, h2⟩
  intro P hPd
  refine Rch.go (fun zt zk => XS.aloadN X0.here hx rfl (hb hby d3_0) rfl rfl zk) ?_
  show Rch _ _ _ _ (s₁.setTop (mkF m 1 #[.val (.ref a1), .val (.int p2), .val (.int p3), .val (.int p4), .val (.int p5)] [(.ref a1)]))
  obtain ⟨_, _, ⟨T1, L1, k1, n1⟩, -, X1, ⟨Lc1, hQ1, l1, y1, z1⟩, st1⟩ := X0.specialBack hx (y := (⟨"java/lang/Record", "<init>", "()V"⟩ : MethodName)) rfl hown (mvT hZ (ow16 hw)) (mvT hZ (ow17 hw)) (mvT hZ (ow20 hw)) (by decide) (backOf (W := 0) (rm4 l Z a0 hw [] (a1) h0 n0 Z0 ) hZ (ow20 hw) (ow19 hw) (by decide) (by decide)) (g := (mkF m 1 #[.val (.ref a1), .val (.int p2), .val (.int p3), .val (.int p4), .val (.int p5)] [(.ref a1)])) rfl (by rw [hml]; rfl) (Steps.refl _) (a := a1) (argsL := []) (rest := []) (lenOf pd___V rfl) rfl (by show 2 * 0 + _ ≤ _; exact Nat.le_of_eq rfl) (hb hby d3_1) (fun _ _ => ⟨rfl, e0, (by decide : 0 + 0 ≤ _), (by decide : 0 + 0 ≤ _)⟩)
  dsimp only [Pt.U, Pt.locs, Pt.cells, Pt.slots] at X1 l1 y1 z1 st1 hQ1
  subst l1 y1 z1
  obtain ⟨rfl, N1q, eq1⟩ := hQ1
  have N1 := Fr.app N0 N1q
  refine Rch.go (fun zt zk => st1.trans zk) ?_
  show Rch _ _ _ _ (T1.setTop (mkF m 4 #[.val (.ref a1), .val (.int p2), .val (.int p3), .val (.int p4), .val (.int p5)] []))
  refine Rch.go (fun zt zk => XS.aloadN X1.here hx rfl (hb hby d3_4) rfl rfl zk) ?_
  show Rch _ _ _ _ (T1.setTop (mkF m 5 #[.val (.ref a1), .val (.int p2), .val (.int p3), .val (.int p4), .val (.int p5)] [(.ref a1)]))
  refine Rch.go (fun zt zk => XS.iloadN X1.here hx rfl (hb hby d3_5) rfl zk) ?_
  show Rch _ _ _ _ (T1.setTop (mkF m 6 #[.val (.ref a1), .val (.int p2), .val (.int p3), .val (.int p4), .val (.int p5)] [(.int p2), (.ref a1)]))
  obtain ⟨T2, h2, X2, e2, W2, st2⟩ := putF X1 hx hZ hown (host := "") (Or.inl (ow24 hw)) Via.refl eq1 P1 P0 (Or.inr ⟨(ow25 hw), rfl, hnm⟩) (ow11 hw) (ty := .int) (by decide) rfl rfl (g := (mkF m 6 #[.val (.ref a1), .val (.int p2), .val (.int p3), .val (.int p4), .val (.int p5)] [(.int p2), (.ref a1)])) rfl rfl (hb hby d3_6)
  refine Rch.go st2 ?_
  have Fw2 := P1.same W2
  have N2 := Fr.snoc X2 N1 Pg_a1
  have K2 : Keep h0 h2 [a1] := Keep.wr (Keep.refl h0 [a1]) W2 (Or.inl (List.mem_of_getElem? (i := 0) rfl))
  show Rch _ _ _ _ (T2.setTop (mkF m 9 #[.val (.ref a1), .val (.int p2), .val (.int p3), .val (.int p4), .val (.int p5)] []))
  refine Rch.go (fun zt zk => XS.aloadN X2.here hx rfl (hb hby d3_9) rfl rfl zk) ?_
  show Rch _ _ _ _ (T2.setTop (mkF m 10 #[.val (.ref a1), .val (.int p2), .val (.int p3), .val (.int p4), .val (.int p5)] [(.ref a1)]))
  refine Rch.go (fun zt zk => XS.iloadN X2.here hx rfl (hb hby d3_10) rfl zk) ?_
  show Rch _ _ _ _ (T2.setTop (mkF m 11 #[.val (.ref a1), .val (.int p2), .val (.int p3), .val (.int p4), .val (.int p5)] [(.int p3), (.ref a1)]))
  have f3 := (P0.wr W2)
  have f4 := (P2.other W2 (Or.inr (slot_ne (Or.inr (ow27 hw)) (Or.inr (ow25 hw)) (by decide) (t := .int) (t' := .int) (by decide) (by decide))))
  obtain ⟨T5, h5, X5, e5, W5, st5⟩ := putF X2 hx hZ hown (host := "") (Or.inl (ow26 hw)) Via.refl e2 f4 f3 (Or.inr ⟨(ow27 hw), rfl, hnm⟩) (ow11 hw) (ty := .int) (by decide) rfl rfl (g := (mkF m 11 #[.val (.ref a1), .val (.int p2), .val (.int p3), .val (.int p4), .val (.int p5)] [(.int p3), (.ref a1)])) rfl rfl (hb hby d3_11)
  refine Rch.go st5 ?_
  have Fw5 := f4.same W5
  have N5 := Fr.snoc X5 N2 Pg_a1
  have K5 : Keep h0 h5 [a1] := Keep.wr K2 W5 (Or.inl (List.mem_of_getElem? (i := 0) rfl))
  show Rch _ _ _ _ (T5.setTop (mkF m 14 #[.val (.ref a1), .val (.int p2), .val (.int p3), .val (.int p4), .val (.int p5)] []))
  refine Rch.go (fun zt zk => XS.aloadN X5.here hx rfl (hb hby d3_14) rfl rfl zk) ?_
  show Rch _ _ _ _ (T5.setTop (mkF m 15 #[.val (.ref a1), .val (.int p2), .val (.int p3), .val (.int p4), .val (.int p5)] [(.ref a1)]))
  refine Rch.go (fun zt zk => XS.iloadN X5.here hx rfl (hb hby d3_15) rfl zk) ?_
  show Rch _ _ _ _ (T5.setTop (mkF m 16 #[.val (.ref a1), .val (.int p2), .val (.int p3), .val (.int p4), .val (.int p5)] [(.int p4), (.ref a1)]))
  have f6 := (f3.wr W5)
  have f7 := ((P3.other W2 (Or.inr (slot_ne (Or.inr (ow29 hw)) (Or.inr (ow25 hw)) (by decide) (t := .int) (t' := .int) (by decide) (by decide)))).other W5 (Or.inr (slot_ne (Or.inr (ow29 hw)) (Or.inr (ow27 hw)) (by decide) (t := .int) (t' := .int) (by decide) (by decide))))
  obtain ⟨T8, h8, X8, e8, W8, st8⟩ := putF X5 hx hZ hown (host := "") (Or.inl (ow28 hw)) Via.refl e5 f7 f6 (Or.inr ⟨(ow29 hw), rfl, hnm⟩) (ow11 hw) (ty := .int) (by decide) rfl rfl (g := (mkF m 16 #[.val (.ref a1), .val (.int p2), .val (.int p3), .val (.int p4), .val (.int p5)] [(.int p4), (.ref a1)])) rfl rfl (hb hby d3_16)
  refine Rch.go st8 ?_
  have Fw8 := f7.same W8
  have N8 := Fr.snoc X8 N5 Pg_a1
  have K8 : Keep h0 h8 [a1] := Keep.wr K5 W8 (Or.inl (List.mem_of_getElem? (i := 0) rfl))
  show Rch _ _ _ _ (T8.setTop (mkF m 19 #[.val (.ref a1), .val (.int p2), .val (.int p3), .val (.int p4), .val (.int p5)] []))
  refine Rch.go (fun zt zk => XS.aloadN X8.here hx rfl (hb hby d3_19) rfl rfl zk) ?_
  show Rch _ _ _ _ (T8.setTop (mkF m 20 #[.val (.ref a1), .val (.int p2), .val (.int p3), .val (.int p4), .val (.int p5)] [(.ref a1)]))
  refine Rch.go (fun zt zk => XS.iload X8.here hx rfl (hb hby d3_20) rfl zk) ?_
  show Rch _ _ _ _ (T8.setTop (mkF m 22 #[.val (.ref a1), .val (.int p2), .val (.int p3), .val (.int p4), .val (.int p5)] [(.int p5), (.ref a1)]))
  have f9 := (f6.wr W8)
  have f10 := (((P4.other W2 (Or.inr (slot_ne (Or.inr (ow31 hw)) (Or.inr (ow25 hw)) (by decide) (t := .int) (t' := .int) (by decide) (by decide)))).other W5 (Or.inr (slot_ne (Or.inr (ow31 hw)) (Or.inr (ow27 hw)) (by decide) (t := .int) (t' := .int) (by decide) (by decide)))).other W8 (Or.inr (slot_ne (Or.inr (ow31 hw)) (Or.inr (ow29 hw)) (by decide) (t := .int) (t' := .int) (by decide) (by decide))))
  obtain ⟨T11, h11, X11, e11, W11, st11⟩ := putF X8 hx hZ hown (host := "") (Or.inl (ow30 hw)) Via.refl e8 f10 f9 (Or.inr ⟨(ow31 hw), rfl, hnm⟩) (ow11 hw) (ty := .int) (by decide) rfl rfl (g := (mkF m 22 #[.val (.ref a1), .val (.int p2), .val (.int p3), .val (.int p4), .val (.int p5)] [(.int p5), (.ref a1)])) rfl rfl (hb hby d3_22)
  refine Rch.go st11 ?_
  have Fw11 := f10.same W11
  have N11 := Fr.snoc X11 N8 Pg_a1
  have K11 : Keep h0 h11 [a1] := Keep.wr K8 W11 (Or.inl (List.mem_of_getElem? (i := 0) rfl))
  show Rch _ _ _ _ (T11.setTop (mkF m 25 #[.val (.ref a1), .val (.int p2), .val (.int p3), .val (.int p4), .val (.int p5)] []))
  obtain ⟨fs, hr, hrun, hended, hW, hsame⟩ := X11.leave (v := none) (fun _ => rfl)
  refine Rch.mk (X11.returnOut hx Bd.returns (hb hby d3_25) hr) (hPd _ _ _ _ hrun hended rfl ?_ ⟨⟨_, rfl⟩, hW, hsame.mono (by decide) (by decide)⟩)
  show Q_rm3 Z a1 p2 p3 p4 p5 u1 u2 u3 u4 h0 n0 _ T11.heap _
  rw [e11]
  have f12 := (f9.wr W11)
  have f13 := (((Fw2.other W5 (Or.inr (slot_ne (Or.inr (ow25 hw)) (Or.inr (ow27 hw)) (by decide) (t := .int) (t' := .int) (by decide) (by decide)))).other W8 (Or.inr (slot_ne (Or.inr (ow25 hw)) (Or.inr (ow29 hw)) (by decide) (t := .int) (t' := .int) (by decide) (by decide)))).other W11 (Or.inr (slot_ne (Or.inr (ow25 hw)) (Or.inr (ow31 hw)) (by decide) (t := .int) (t' := .int) (by decide) (by decide))))
  have f14 := ((Fw5.other W8 (Or.inr (slot_ne (Or.inr (ow27 hw)) (Or.inr (ow29 hw)) (by decide) (t := .int) (t' := .int) (by decide) (by decide)))).other W11 (Or.inr (slot_ne (Or.inr (ow27 hw)) (Or.inr (ow31 hw)) (by decide) (t := .int) (t' := .int) (by decide) (by decide))))
  have f15 := (Fw8.other W11 (Or.inr (slot_ne (Or.inr (ow29 hw)) (Or.inr (ow31 hw)) (by decide) (t := .int) (t' := .int) (by decide) (by decide))))
  exact ⟨rfl, N11, K11, f12, f13, f14, f15, Fw11⟩
def fEmpty (w2 : Int32) (w3 : Int32) : Int32 := (if w2 = w3 then (1 : Int32) else (0 : Int32))
theorem ef_rm6 (m : MethodId) (a1 : Addr) : entryFrame m #[(.ref a1)] 1 = mkF m 0 #[.val (.ref a1)] [] := by first | (simp [entryFrame, mkF, argsToLocals, Value.category]; done) | rfl
theorem d6_0 : decode prog_16_method_2_code 0 = .ok (.aload_n 0, 1) := by decide +kernel
theorem d6_1 : decode prog_16_method_2_code 1 = .ok (.getfield 13, 3) := by decide +kernel
theorem d6_4 : decode prog_16_method_2_code 4 = .ok (.aload_n 0, 1) := by decide +kernel
theorem d6_5 : decode prog_16_method_2_code 5 = .ok (.getfield 19, 3) := by decide +kernel
theorem d6_8 : decode prog_16_method_2_code 8 = .ok (.if_icmp .ne 7, 3) := by decide +kernel
theorem d6_11 : decode prog_16_method_2_code 11 = .ok (.iconst 1, 1) := by decide +kernel
theorem d6_12 : decode prog_16_method_2_code 12 = .ok (.goto 4, 3) := by decide +kernel
theorem d6_16 : decode prog_16_method_2_code 16 = .ok (.ireturn, 1) := by decide +kernel
theorem d6_15 : decode prog_16_method_2_code 15 = .ok (.iconst 0, 1) := by decide +kernel
def Q_rm6 (Z : State) (a1 : Addr) (w2 : Int32) (w3 : Int32) (h0 : Heap) (n0 : Nat) (v : Option Value) (h : Heap) (L : List Loc) : Prop := v = some (.int (fEmpty w2 w3)) ∧ Fr n0 L ∧ h = h0
set_option maxRecDepth 65536 in
set_option maxHeartbeats 40000000 in
theorem rm6 (l : Launch) (Z : State) (a0 : Array Value) (hw : ∀ d ∈ tables_1, d.before a0 Z = true) (ws : List Jvm.Cond) (a1 : Addr) (w2 : Int32) (w3 : Int32) (h0 : Heap) (n0 : Nat) (Z0 : n0 ≤ h0.size) (P0 : Fld Z h0 a1 "com/example/feldsher/feldsher/crypto/ElementSpans$Span" "contentStart" "I" (.int w2)) (P1 : Fld Z h0 a1 "com/example/feldsher/feldsher/crypto/ElementSpans$Span" "end" "I" (.int w3)) :
    MetFree l (⟨"com/example/feldsher/feldsher/crypto/ElementSpans$Span", "isEmptyElementTag", "()Z"⟩ : MethodName) (head1 (Jvm.Cond.code (⟨"com/example/feldsher/feldsher/crypto/ElementSpans$Span", "isEmptyElementTag", "()Z"⟩ : MethodName) prog_16_method_2_code 1 (some .boolean) :: ws) ({ frames := 0, cells := 0, slots := 0, locals := 0 } : Room)) (fun a U => a = #[(.ref a1)] ∧ Z.Warmed39 U.vm ∧ U.heap = h0) (fun _ _ _ _ _ => True) (fun _ U o U' => ∃ v L, o = .returned v ∧ Q_rm6 Z a1 w2 w3 h0 n0 v U'.heap L ∧ FrameEnd U o U' L ({ frames := 0, cells := 0, slots := 0, locals := 0 } : Room).cells ({ frames := 0, cells := 0, slots := 0, locals := 0 } : Room).slots) := by
  refine MetFree.of_bodySF (plainFor_of_name pn_com_example_feldsher_feldsher_crypto_ElementSpans_Span) hisR ?_
  intro p e s m args below meth c s₁ Bd hml0 hP hK
  obtain ⟨rfl, hZ, hh⟩ := hP
  have hx := Bd.exec
  have hby := Bd.bytes
  have hml : c.maxLocals = 1 := hml0
  have hown : s.vm.findClass "com/example/feldsher/feldsher/crypto/ElementSpans$Span" = some m.cls := findClass_of_methodNamed Bd.named
  have hnm := (name_of_methodNamed Bd.named Bd.method).1
  have X0 : Stand p l e ({ frames := 0, cells := 0, slots := 0, locals := 0 } : Room) s m #[(.ref a1)] below meth c s₁ [] 0 0 := Stand.of_body Bd
  have e0 : s₁.heap = h0 := by rw [← hh, Bd.state]; rfl
  have N0 := Fr.nil n0
  suffices hR : ∀ P : State → Prop, (∀ s₂ o v L, s₂.status = .running → Ended s₂ below o → o = .returned v → Q_rm6 Z a1 w2 w3 h0 n0 v s₂.heap L → FrameEnd s o s₂ L ({ frames := 0, cells := 0, slots := 0, locals := 0 } : Room).cells ({ frames := 0, cells := 0, slots := 0, locals := 0 } : Room).slots → P s₂) → Rch p.tables e below P (s₁.setTop (mkF m 0 #[.val (.ref a1)] [])) by
    obtain ⟨s₂, h1, o, h2⟩ := hR (fun s₂ => ∃ o, s₂.status = .running ∧ Ended s₂ below o ∧ ∃ v L, o = .returned v ∧ Q_rm6 Z a1 w2 w3 h0 n0 v s₂.heap L ∧ FrameEnd s o s₂ L ({ frames := 0, cells := 0, slots := 0, locals := 0 } : Room).cells ({ frames := 0, cells := 0, slots := 0, locals := 0 } : Room).slots) (fun s₂ o v L q1 q2 q3 q4 q5 => ⟨o, q1, q2, v, L, q3, q4, q5⟩)
    exact ⟨s₂, o, castTop (ef_rm6 m a1) h1, h2⟩
  intro P hPd
  refine Rch.go (fun zt zk => XS.aloadN X0.here hx rfl (hb hby d6_0) rfl rfl zk) ?_
  show Rch _ _ _ _ (s₁.setTop (mkF m 1 #[.val (.ref a1)] [(.ref a1)]))
  obtain ⟨T1, X1, e1, st1⟩ := getF X0 hx hZ hown (host := "") (Or.inl (ow26 hw)) Via.refl e0 P0 (g := (mkF m 1 #[.val (.ref a1)] [(.ref a1)])) rfl rfl (hb hby d6_1)
  refine Rch.go st1 ?_
  show Rch _ _ _ _ (T1.setTop (mkF m 4 #[.val (.ref a1)] [(.int w2)]))
  refine Rch.go (fun zt zk => XS.aloadN X1.here hx rfl (hb hby d6_4) rfl rfl zk) ?_
  show Rch _ _ _ _ (T1.setTop (mkF m 5 #[.val (.ref a1)] [(.ref a1), (.int w2)]))
  obtain ⟨T2, X2, e2, st2⟩ := getF X1 hx hZ hown (host := "") (Or.inl (ow30 hw)) Via.refl e1 P1 (g := (mkF m 5 #[.val (.ref a1)] [(.ref a1), (.int w2)])) rfl rfl (hb hby d6_5)
  refine Rch.go st2 ?_
  show Rch _ _ _ _ (T2.setTop (mkF m 8 #[.val (.ref a1)] [(.int w3), (.int w2)]))
  by_cases hc8_3 : w2 = w3
  · skip
    refine Rch.go (fun zt zk => XS.icmpNo X2.here hx rfl (hb hby d6_8) rfl (teq hc8_3).2 zk) ?_
    show Rch _ _ _ _ (T2.setTop (mkF m 11 #[.val (.ref a1)] []))
    refine Rch.go (fun zt zk => XS.iconst X2.here hx rfl (hb hby d6_11) zk) ?_
    show Rch _ _ _ _ (T2.setTop (mkF m 12 #[.val (.ref a1)] [(.int (1 : Int32))]))
    refine Rch.go (fun zt zk => XS.goto X2.here hx rfl (pc0 := 12) (pc' := 16) rfl (hb hby d6_12) (by decide) (by decide) zk) ?_
    show Rch _ _ _ _ (T2.setTop (mkF m 16 #[.val (.ref a1)] [(.int (1 : Int32))]))
    obtain ⟨fs, hr, hrun, hended, hW, hsame⟩ := X2.leave (v := some (.int (1 : Int32))) (fun h => by rw [Bd.returns] at h; cases h)
    refine Rch.mk (retN X2 hx (t := .boolean) Bd.returns (by simp) (hb hby d6_16) hr) (hPd _ _ _ _ hrun hended rfl ?_ ⟨⟨_, rfl⟩, hW, hsame.mono (by decide) (by decide)⟩)
    show Q_rm6 Z a1 w2 w3 h0 n0 _ T2.heap _
    have hF : fEmpty w2 w3 = (1 : Int32) := ((if_pos hc8_3).trans rfl)
    rw [e2]
    exact ⟨by rw [hF], N0, rfl⟩
  · skip
    refine Rch.go (fun zt zk => XS.icmpYes X2.here hx rfl (pc0 := 8) (pc' := 15) rfl (hb hby d6_8) rfl (feq hc8_3).2 (by decide) (by decide) zk) ?_
    show Rch _ _ _ _ (T2.setTop (mkF m 15 #[.val (.ref a1)] []))
    refine Rch.go (fun zt zk => XS.iconst X2.here hx rfl (hb hby d6_15) zk) ?_
    show Rch _ _ _ _ (T2.setTop (mkF m 16 #[.val (.ref a1)] [(.int (0 : Int32))]))
    obtain ⟨fs, hr, hrun, hended, hW, hsame⟩ := X2.leave (v := some (.int (0 : Int32))) (fun h => by rw [Bd.returns] at h; cases h)
    refine Rch.mk (retN X2 hx (t := .boolean) Bd.returns (by simp) (hb hby d6_16) hr) (hPd _ _ _ _ hrun hended rfl ?_ ⟨⟨_, rfl⟩, hW, hsame.mono (by decide) (by decide)⟩)
    show Q_rm6 Z a1 w2 w3 h0 n0 _ T2.heap _
    have hF : fEmpty w2 w3 = (0 : Int32) := ((if_neg hc8_3).trans rfl)
    rw [e2]
    exact ⟨by rw [hF], N0, rfl⟩
theorem own_min (a b : Int32) : (fMin a b).toInt ≤ a.toInt ∧ (fMin a b).toInt ≤ b.toInt := by
  unfold fMin; split <;> rename_i h <;> rw [Int32.lt_iff_toInt_lt] at h <;> omega
theorem own_max (a b : Int32) : a.toInt ≤ (fMax a b).toInt ∧ b.toInt ≤ (fMax a b).toInt := by
  unfold fMax; split <;> rename_i h <;> rw [Int32.lt_iff_toInt_lt] at h <;> omega
theorem own_room {b : Int32} (hb : b.toInt < 2147483647) : ((2147483647 : Int64) - b.toInt64).toInt = 2147483647 - b.toInt := by
  have h1 := c_lsub (2147483647 : Int64) b.toInt64; have h2 := c_i2l b; have h3 := rng32 b; have h4 := rng64 ((2147483647 : Int64) - b.toInt64)
  have e1 : (2147483647 : Int64).toInt = 2147483647 := by decide
  omega
theorem own_room0 {b : Int32} (hb : b.toInt < 2147483647) : ¬ (((2147483647 : Int64) - b.toInt64) = (0 : Int64)) := fun h => by
  have h1 := own_room hb; rw [h] at h1; have e0 : (0 : Int64).toInt = 0 := by decide
  omega
theorem own_end {a b z : Int32} (hab : a.toInt ≤ b.toInt) (hb : b.toInt < 2147483647) :
    ¬ (a = (b.toInt64 + (1 : Int64) + ((z.toInt64 &&& (4294967295 : Int64)) - ((z.toInt64 &&& (4294967295 : Int64)) / ((2147483647 : Int64) - b.toInt64)) * ((2147483647 : Int64) - b.toInt64))).toInt32) := by
  have hr := own_room hb
  have hm := c_maskL z.toInt64 (4294967295 : Int64) 32 (by decide) (by decide)
  have hz : 0 ≤ (z.toInt64 &&& (4294967295 : Int64)).toInt := by rw [hm]; omega
  have hq := (c_lrem (z.toInt64 &&& (4294967295 : Int64)) ((2147483647 : Int64) - b.toInt64) _ hr).1 hz
  generalize (z.toInt64 &&& (4294967295 : Int64)) - ((z.toInt64 &&& (4294967295 : Int64)) / ((2147483647 : Int64) - b.toInt64)) * ((2147483647 : Int64) - b.toInt64) = w at *
  have hb2 := rng32 b
  have hw1 : 0 ≤ w.toInt := by rw [hq]; exact Int.emod_nonneg _ (by omega)
  have hw2 : w.toInt < 2147483647 - b.toInt := by rw [hq]; exact Int.emod_lt_of_pos _ (by omega)
  have h1 := c_ladd b.toInt64 (1 : Int64); have h2 := rng64 (b.toInt64 + (1 : Int64)); have h3 := c_i2l b
  have e1 : (1 : Int64).toInt = 1 := by decide
  have h4 := c_ladd (b.toInt64 + (1 : Int64)) w; have h5 := rng64 (b.toInt64 + (1 : Int64) + w)
  have h6 := c_l2i (b.toInt64 + (1 : Int64) + w); have h7 := rng32 (b.toInt64 + (1 : Int64) + w).toInt32
  intro h
  rw [← h] at h6 h7
  omega
theorem own_yes (x : Int32) : nar .boolean (fEmpty x x) = (1 : Int32) := by
  rw [show fEmpty x x = (1 : Int32) from if_pos rfl]; decide
theorem own_no {x y : Int32} (h : ¬ (x = y)) : fEmpty x y = (0 : Int32) := if_neg h
theorem own_j {x y : Int32} (h : ¬ (fMax x y = (2147483647 : Int32))) : (fMin x y).toInt ≤ (fMax x y).toInt ∧ (fMax x y).toInt < 2147483647 := by
  have h1 := own_min x y; have h2 := own_max x y; have h3 := rng32 (fMax x y)
  have e1 : (2147483647 : Int32).toInt = 2147483647 := by decide
  rw [← Int32.toInt_inj, e1] at h
  omega
theorem own_j2 (x : Int32) : (fMin x (2147483646 : Int32)).toInt ≤ (2147483646 : Int32).toInt ∧ (2147483646 : Int32).toInt < 2147483647 := ⟨(own_min x _).2, by decide⟩
theorem own_yes2 (x : Int32) : nar .boolean (fEmpty x x) = (1 : Int32) := own_yes x
theorem ef_rm0 (m : MethodId) (p1 : Int32) (p2 : Int32) (p3 : Int32) (p4 : Int32) (p5 : Int32) : entryFrame m #[(.int p1), (.int p2), (.int p3), (.int p4), (.int p5)] maxLocals = mkF m 0 #[.val (.int p1), .val (.int p2), .val (.int p3), .val (.int p4), .val (.int p5), .unset, .unset, .unset, .unset, .unset, .unset] [] := by first | (simp [entryFrame, mkF, argsToLocals, Value.category, maxLocals]; done) | rfl
theorem pn_com_example_feldsher_feldsher_crypto_SpanIsEmptyElementTagPinLaw : plainName "com/example/feldsher/feldsher/crypto/SpanIsEmptyElementTagPinLaw" = true := by first | (simp [plainName, overriddenIn]; done) | decide +kernel
theorem pd__II_I : parseMethodDescriptor "(II)I" = some ⟨[.int, .int], some .int⟩ := by decide +kernel
theorem pd__IIII_V : parseMethodDescriptor "(IIII)V" = some ⟨[.int, .int, .int, .int], none⟩ := by decide +kernel
theorem pd___Z : parseMethodDescriptor "()Z" = some ⟨[], some .boolean⟩ := by decide +kernel
def Q_rm0 (Z : State) (p1 : Int32) (p2 : Int32) (p3 : Int32) (p4 : Int32) (p5 : Int32) (h0 : Heap) (n0 : Nat) (v : Option Value) (h : Heap) (L : List Loc) : Prop := v = some (.int (1 : Int32)) ∧ Fr n0 L
set_option maxRecDepth 65536 in
set_option maxHeartbeats 40000000 in
theorem rm0 (l : Launch) (Z : State) (a0 : Array Value) (hw : ∀ d ∈ tables_1, d.before a0 Z = true) (ws : List Jvm.Cond) (p1 : Int32) (p2 : Int32) (p3 : Int32) (p4 : Int32) (p5 : Int32) (h0 : Heap) (n0 : Nat) (Z0 : n0 ≤ h0.size) :
    MetFree l x (head1 (Jvm.Cond.code x code maxLocals ret :: ws) room_1) (fun a U => a = #[(.int p1), (.int p2), (.int p3), (.int p4), (.int p5)] ∧ Z.Warmed39 U.vm ∧ U.heap = h0) (fun _ _ _ _ _ => True) (fun _ U o U' => ∃ v L, o = .returned v ∧ Q_rm0 Z p1 p2 p3 p4 p5 h0 n0 v U'.heap L ∧ FrameEnd U o U' L room_1.cells room_1.slots) := by
  refine MetFree.of_bodySF (plainFor_of_name pn_com_example_feldsher_feldsher_crypto_SpanIsEmptyElementTagPinLaw) hisR ?_
  intro p e s m args below meth c s₁ Bd hml0 hP hK
  obtain ⟨rfl, hZ, hh⟩ := hP
  have hx := Bd.exec
  have hby := Bd.bytes
  have hml : c.maxLocals = 11 := hml0
  have hown : s.vm.findClass "com/example/feldsher/feldsher/crypto/SpanIsEmptyElementTagPinLaw" = some m.cls := findClass_of_methodNamed Bd.named
  have hnm := (name_of_methodNamed Bd.named Bd.method).1
  have X0 : Stand p l e room_1 s m #[(.int p1), (.int p2), (.int p3), (.int p4), (.int p5)] below meth c s₁ [] 0 0 := Stand.of_body Bd
  have e0 : s₁.heap = h0 := by rw [← hh, Bd.state]; rfl
  have N0 := Fr.nil n0
  suffices hR : ∀ P : State → Prop, (∀ s₂ o v L, s₂.status = .running → Ended s₂ below o → o = .returned v → Q_rm0 Z p1 p2 p3 p4 p5 h0 n0 v s₂.heap L → FrameEnd s o s₂ L room_1.cells room_1.slots → P s₂) → Rch p.tables e below P (s₁.setTop (mkF m 0 #[.val (.int p1), .val (.int p2), .val (.int p3), .val (.int p4), .val (.int p5), .unset, .unset, .unset, .unset, .unset, .unset] [])) by
    obtain ⟨s₂, h1, o, h2⟩ := hR (fun s₂ => ∃ o, s₂.status = .running ∧ Ended s₂ below o ∧ ∃ v L, o = .returned v ∧ Q_rm0 Z p1 p2 p3 p4 p5 h0 n0 v s₂.heap L ∧ FrameEnd s o s₂ L room_1.cells room_1.slots) (fun s₂ o v L q1 q2 q3 q4 q5 => ⟨o, q1, q2, v, L, q3, q4, q5⟩)
    exact ⟨s₂, o, castTop (ef_rm0 m p1 p2 p3 p4 p5) h1, h2⟩
  intro P hPd
  refine Rch.go (fun zt zk => XS.iload X0.here hx rfl (hb hby at_0) rfl zk) ?_
  show Rch _ _ _ _ (s₁.setTop (mkF m 2 #[.val (.int p1), .val (.int p2), .val (.int p3), .val (.int p4), .val (.int p5), .unset, .unset, .unset, .unset, .unset, .unset] [(.int p5)]))
  refine Rch.go (fun zt zk => XS.iconst X0.here hx rfl (hb hby at_2) zk) ?_
  show Rch _ _ _ _ (s₁.setTop (mkF m 3 #[.val (.int p1), .val (.int p2), .val (.int p3), .val (.int p4), .val (.int p5), .unset, .unset, .unset, .unset, .unset, .unset] [(.int (1 : Int32)), (.int p5)]))
  refine Rch.go (fun zt zk => XS.iand X0.here hx rfl (hb hby at_3) rfl zk) ?_
  show Rch _ _ _ _ (s₁.setTop (mkF m 4 #[.val (.int p1), .val (.int p2), .val (.int p3), .val (.int p4), .val (.int p5), .unset, .unset, .unset, .unset, .unset, .unset] [(.int (p5 &&& (1 : Int32)))]))
  by_cases hc4_1 : (p5 &&& (1 : Int32)) = (0 : Int32)
  · skip
    refine Rch.go (fun zt zk => XS.ifYes X0.here hx rfl (pc0 := 4) (pc' := 30) rfl (hb hby at_4) rfl ((if0 _ _).trans (teq hc4_1).1) (by decide) (by decide) zk) ?_
    show Rch _ _ _ _ (s₁.setTop (mkF m 30 #[.val (.int p1), .val (.int p2), .val (.int p3), .val (.int p4), .val (.int p5), .unset, .unset, .unset, .unset, .unset, .unset] []))
    have j64 : ∀ (Tj64 : State) (Lj64 : List Loc) (_ : Stand p l e room_1 s m #[(.int p1), (.int p2), (.int p3), (.int p4), (.int p5)] below meth c Tj64 Lj64 0 0) (_ : Tj64.heap = h0) (_ : Fr n0 Lj64) (a : Int32) (b : Int32), (a.toInt ≤ b.toInt) → (b.toInt < 2147483647) → Rch p.tables e below P (Tj64.setTop (mkF m 64 #[.val (.int p1), .val (.int p2), .val (.int p3), .val (.int p4), .val (.int p5), .val (.int a), .val (.int b), .unset, .unset, .unset, .unset] [])) := by
      intro Tj64 Lj64 Xj64 ej64 Nj64 a b hab hbb
      refine Rch.go (Xj64.ldc2Long hx hown (mvT hZ (ow8 hw)) (g := (mkF m 64 #[.val (.int p1), .val (.int p2), .val (.int p3), .val (.int p4), .val (.int p5), .val (.int a), .val (.int b), .unset, .unset, .unset, .unset] [])) rfl (hb hby at_64)) ?_
      show Rch _ _ _ _ (Tj64.setTop (mkF m 67 #[.val (.int p1), .val (.int p2), .val (.int p3), .val (.int p4), .val (.int p5), .val (.int a), .val (.int b), .unset, .unset, .unset, .unset] [(.long (2147483647 : Int64))]))
      refine Rch.go (fun zt zk => XS.iload Xj64.here hx rfl (hb hby at_67) rfl zk) ?_
      show Rch _ _ _ _ (Tj64.setTop (mkF m 69 #[.val (.int p1), .val (.int p2), .val (.int p3), .val (.int p4), .val (.int p5), .val (.int a), .val (.int b), .unset, .unset, .unset, .unset] [(.int b), (.long (2147483647 : Int64))]))
      refine Rch.go (fun zt zk => XS.i2l Xj64.here hx rfl (hb hby at_69) rfl zk) ?_
      show Rch _ _ _ _ (Tj64.setTop (mkF m 70 #[.val (.int p1), .val (.int p2), .val (.int p3), .val (.int p4), .val (.int p5), .val (.int a), .val (.int b), .unset, .unset, .unset, .unset] [(.long (b.toInt64)), (.long (2147483647 : Int64))]))
      refine Rch.go (fun zt zk => XS.lsub Xj64.here hx rfl (hb hby at_70) rfl zk) ?_
      show Rch _ _ _ _ (Tj64.setTop (mkF m 71 #[.val (.int p1), .val (.int p2), .val (.int p3), .val (.int p4), .val (.int p5), .val (.int a), .val (.int b), .unset, .unset, .unset, .unset] [(.long ((2147483647 : Int64) - (b.toInt64)))]))
      refine Rch.go (fun zt zk => XS.lstore Xj64.here hx rfl (hb hby at_71) rfl (l' := #[.val (.int p1), .val (.int p2), .val (.int p3), .val (.int p4), .val (.int p5), .val (.int a), .val (.int b), .val (.long ((2147483647 : Int64) - (b.toInt64))), .second, .unset, .unset]) rfl zk) ?_
      show Rch _ _ _ _ (Tj64.setTop (mkF m 73 #[.val (.int p1), .val (.int p2), .val (.int p3), .val (.int p4), .val (.int p5), .val (.int a), .val (.int b), .val (.long ((2147483647 : Int64) - (b.toInt64))), .second, .unset, .unset] []))
      refine Rch.go (fun zt zk => XS.iload Xj64.here hx rfl (hb hby at_73) rfl zk) ?_
      show Rch _ _ _ _ (Tj64.setTop (mkF m 75 #[.val (.int p1), .val (.int p2), .val (.int p3), .val (.int p4), .val (.int p5), .val (.int a), .val (.int b), .val (.long ((2147483647 : Int64) - (b.toInt64))), .second, .unset, .unset] [(.int b)]))
      refine Rch.go (fun zt zk => XS.i2l Xj64.here hx rfl (hb hby at_75) rfl zk) ?_
      show Rch _ _ _ _ (Tj64.setTop (mkF m 76 #[.val (.int p1), .val (.int p2), .val (.int p3), .val (.int p4), .val (.int p5), .val (.int a), .val (.int b), .val (.long ((2147483647 : Int64) - (b.toInt64))), .second, .unset, .unset] [(.long (b.toInt64))]))
      refine Rch.go (fun zt zk => XS.lconst Xj64.here hx rfl (hb hby at_76) zk) ?_
      show Rch _ _ _ _ (Tj64.setTop (mkF m 77 #[.val (.int p1), .val (.int p2), .val (.int p3), .val (.int p4), .val (.int p5), .val (.int a), .val (.int b), .val (.long ((2147483647 : Int64) - (b.toInt64))), .second, .unset, .unset] [(.long (1 : Int64)), (.long (b.toInt64))]))
      refine Rch.go (fun zt zk => XS.ladd Xj64.here hx rfl (hb hby at_77) rfl zk) ?_
      show Rch _ _ _ _ (Tj64.setTop (mkF m 78 #[.val (.int p1), .val (.int p2), .val (.int p3), .val (.int p4), .val (.int p5), .val (.int a), .val (.int b), .val (.long ((2147483647 : Int64) - (b.toInt64))), .second, .unset, .unset] [(.long ((b.toInt64) + (1 : Int64)))]))
      refine Rch.go (fun zt zk => XS.iloadN Xj64.here hx rfl (hb hby at_78) rfl zk) ?_
      show Rch _ _ _ _ (Tj64.setTop (mkF m 79 #[.val (.int p1), .val (.int p2), .val (.int p3), .val (.int p4), .val (.int p5), .val (.int a), .val (.int b), .val (.long ((2147483647 : Int64) - (b.toInt64))), .second, .unset, .unset] [(.int p4), (.long ((b.toInt64) + (1 : Int64)))]))
      refine Rch.go (fun zt zk => XS.i2l Xj64.here hx rfl (hb hby at_79) rfl zk) ?_
      show Rch _ _ _ _ (Tj64.setTop (mkF m 80 #[.val (.int p1), .val (.int p2), .val (.int p3), .val (.int p4), .val (.int p5), .val (.int a), .val (.int b), .val (.long ((2147483647 : Int64) - (b.toInt64))), .second, .unset, .unset] [(.long (p4.toInt64)), (.long ((b.toInt64) + (1 : Int64)))]))
      refine Rch.go (Xj64.ldc2Long hx hown (mvT hZ (ow9 hw)) (g := (mkF m 80 #[.val (.int p1), .val (.int p2), .val (.int p3), .val (.int p4), .val (.int p5), .val (.int a), .val (.int b), .val (.long ((2147483647 : Int64) - (b.toInt64))), .second, .unset, .unset] [(.long (p4.toInt64)), (.long ((b.toInt64) + (1 : Int64)))])) rfl (hb hby at_80)) ?_
      show Rch _ _ _ _ (Tj64.setTop (mkF m 83 #[.val (.int p1), .val (.int p2), .val (.int p3), .val (.int p4), .val (.int p5), .val (.int a), .val (.int b), .val (.long ((2147483647 : Int64) - (b.toInt64))), .second, .unset, .unset] [(.long (4294967295 : Int64)), (.long (p4.toInt64)), (.long ((b.toInt64) + (1 : Int64)))]))
      refine Rch.go (fun zt zk => XS.land Xj64.here hx rfl (hb hby at_83) rfl zk) ?_
      show Rch _ _ _ _ (Tj64.setTop (mkF m 84 #[.val (.int p1), .val (.int p2), .val (.int p3), .val (.int p4), .val (.int p5), .val (.int a), .val (.int b), .val (.long ((2147483647 : Int64) - (b.toInt64))), .second, .unset, .unset] [(.long ((p4.toInt64) &&& (4294967295 : Int64))), (.long ((b.toInt64) + (1 : Int64)))]))
      refine Rch.go (fun zt zk => XS.lload Xj64.here hx rfl (hb hby at_84) rfl zk) ?_
      show Rch _ _ _ _ (Tj64.setTop (mkF m 86 #[.val (.int p1), .val (.int p2), .val (.int p3), .val (.int p4), .val (.int p5), .val (.int a), .val (.int b), .val (.long ((2147483647 : Int64) - (b.toInt64))), .second, .unset, .unset] [(.long ((2147483647 : Int64) - (b.toInt64))), (.long ((p4.toInt64) &&& (4294967295 : Int64))), (.long ((b.toInt64) + (1 : Int64)))]))
      refine Rch.go (fun zt zk => XS.lrem Xj64.here hx rfl (hb hby at_86) rfl (own_room0 hbb) zk) ?_
      show Rch _ _ _ _ (Tj64.setTop (mkF m 87 #[.val (.int p1), .val (.int p2), .val (.int p3), .val (.int p4), .val (.int p5), .val (.int a), .val (.int b), .val (.long ((2147483647 : Int64) - (b.toInt64))), .second, .unset, .unset] [(.long (((p4.toInt64) &&& (4294967295 : Int64)) - (((p4.toInt64) &&& (4294967295 : Int64)) / ((2147483647 : Int64) - (b.toInt64))) * ((2147483647 : Int64) - (b.toInt64)))), (.long ((b.toInt64) + (1 : Int64)))]))
      refine Rch.go (fun zt zk => XS.ladd Xj64.here hx rfl (hb hby at_87) rfl zk) ?_
      show Rch _ _ _ _ (Tj64.setTop (mkF m 88 #[.val (.int p1), .val (.int p2), .val (.int p3), .val (.int p4), .val (.int p5), .val (.int a), .val (.int b), .val (.long ((2147483647 : Int64) - (b.toInt64))), .second, .unset, .unset] [(.long (((b.toInt64) + (1 : Int64)) + (((p4.toInt64) &&& (4294967295 : Int64)) - (((p4.toInt64) &&& (4294967295 : Int64)) / ((2147483647 : Int64) - (b.toInt64))) * ((2147483647 : Int64) - (b.toInt64)))))]))
      refine Rch.go (fun zt zk => XS.l2i Xj64.here hx rfl (hb hby at_88) rfl zk) ?_
      show Rch _ _ _ _ (Tj64.setTop (mkF m 89 #[.val (.int p1), .val (.int p2), .val (.int p3), .val (.int p4), .val (.int p5), .val (.int a), .val (.int b), .val (.long ((2147483647 : Int64) - (b.toInt64))), .second, .unset, .unset] [(.int ((((b.toInt64) + (1 : Int64)) + (((p4.toInt64) &&& (4294967295 : Int64)) - (((p4.toInt64) &&& (4294967295 : Int64)) / ((2147483647 : Int64) - (b.toInt64))) * ((2147483647 : Int64) - (b.toInt64)))).toInt32))]))
      refine Rch.go (fun zt zk => XS.istore Xj64.here hx rfl (hb hby at_89) rfl (l' := #[.val (.int p1), .val (.int p2), .val (.int p3), .val (.int p4), .val (.int p5), .val (.int a), .val (.int b), .val (.long ((2147483647 : Int64) - (b.toInt64))), .second, .val (.int ((((b.toInt64) + (1 : Int64)) + (((p4.toInt64) &&& (4294967295 : Int64)) - (((p4.toInt64) &&& (4294967295 : Int64)) / ((2147483647 : Int64) - (b.toInt64))) * ((2147483647 : Int64) - (b.toInt64)))).toInt32)), .unset]) rfl zk) ?_
      show Rch _ _ _ _ (Tj64.setTop (mkF m 91 #[.val (.int p1), .val (.int p2), .val (.int p3), .val (.int p4), .val (.int p5), .val (.int a), .val (.int b), .val (.long ((2147483647 : Int64) - (b.toInt64))), .second, .val (.int ((((b.toInt64) + (1 : Int64)) + (((p4.toInt64) &&& (4294967295 : Int64)) - (((p4.toInt64) &&& (4294967295 : Int64)) / ((2147483647 : Int64) - (b.toInt64))) * ((2147483647 : Int64) - (b.toInt64)))).toInt32)), .unset] []))
      obtain ⟨T2, h2, X2, e2, E2, A2, D2, -, st2⟩ := newO Xj64 hx hZ hown (ow10 hw) (ow11 hw) (ow12 hw) ej64 (g := (mkF m 91 #[.val (.int p1), .val (.int p2), .val (.int p3), .val (.int p4), .val (.int p5), .val (.int a), .val (.int b), .val (.long ((2147483647 : Int64) - (b.toInt64))), .second, .val (.int ((((b.toInt64) + (1 : Int64)) + (((p4.toInt64) &&& (4294967295 : Int64)) - (((p4.toInt64) &&& (4294967295 : Int64)) / ((2147483647 : Int64) - (b.toInt64))) * ((2147483647 : Int64) - (b.toInt64)))).toInt32)), .unset] [])) rfl (hb hby at_91) (by decide) (by decide)
      obtain ⟨b2, g2⟩ : ∃ z, z = h0.size := ⟨_, rfl⟩
      rw [← g2] at A2 D2 st2
      refine Rch.go st2 ?_
      have ge2 : n0 ≤ b2 := by rw [g2]; exact Z0
      have gk2 : h0.size ≤ b2 := by rw [g2]; exact (Keep.refl h0 []).1
      have K2 := (Keep.refl h0 []).ext E2
      have F2_start : Fld Z h2 b2 "com/example/feldsher/feldsher/crypto/ElementSpans$Span" "start" "I" (.int (0 : Int32)) := D2 (Or.inr (ow25 hw)) (ty := .int) (by decide)
      have F2_contentStart : Fld Z h2 b2 "com/example/feldsher/feldsher/crypto/ElementSpans$Span" "contentStart" "I" (.int (0 : Int32)) := D2 (Or.inr (ow27 hw)) (ty := .int) (by decide)
      have F2_contentEnd : Fld Z h2 b2 "com/example/feldsher/feldsher/crypto/ElementSpans$Span" "contentEnd" "I" (.int (0 : Int32)) := D2 (Or.inr (ow29 hw)) (ty := .int) (by decide)
      have F2_end : Fld Z h2 b2 "com/example/feldsher/feldsher/crypto/ElementSpans$Span" "end" "I" (.int (0 : Int32)) := D2 (Or.inr (ow31 hw)) (ty := .int) (by decide)
      show Rch _ _ _ _ (T2.setTop (mkF m 94 #[.val (.int p1), .val (.int p2), .val (.int p3), .val (.int p4), .val (.int p5), .val (.int a), .val (.int b), .val (.long ((2147483647 : Int64) - (b.toInt64))), .second, .val (.int ((((b.toInt64) + (1 : Int64)) + (((p4.toInt64) &&& (4294967295 : Int64)) - (((p4.toInt64) &&& (4294967295 : Int64)) / ((2147483647 : Int64) - (b.toInt64))) * ((2147483647 : Int64) - (b.toInt64)))).toInt32)), .unset] [(.ref b2)]))
      refine Rch.go (fun zt zk => XS.dup X2.here hx rfl (hb hby at_94) rfl rfl zk) ?_
      show Rch _ _ _ _ (T2.setTop (mkF m 95 #[.val (.int p1), .val (.int p2), .val (.int p3), .val (.int p4), .val (.int p5), .val (.int a), .val (.int b), .val (.long ((2147483647 : Int64) - (b.toInt64))), .second, .val (.int ((((b.toInt64) + (1 : Int64)) + (((p4.toInt64) &&& (4294967295 : Int64)) - (((p4.toInt64) &&& (4294967295 : Int64)) / ((2147483647 : Int64) - (b.toInt64))) * ((2147483647 : Int64) - (b.toInt64)))).toInt32)), .unset] [(.ref b2), (.ref b2)]))
      refine Rch.go (fun zt zk => XS.iloadN X2.here hx rfl (hb hby at_95) rfl zk) ?_
      show Rch _ _ _ _ (T2.setTop (mkF m 96 #[.val (.int p1), .val (.int p2), .val (.int p3), .val (.int p4), .val (.int p5), .val (.int a), .val (.int b), .val (.long ((2147483647 : Int64) - (b.toInt64))), .second, .val (.int ((((b.toInt64) + (1 : Int64)) + (((p4.toInt64) &&& (4294967295 : Int64)) - (((p4.toInt64) &&& (4294967295 : Int64)) / ((2147483647 : Int64) - (b.toInt64))) * ((2147483647 : Int64) - (b.toInt64)))).toInt32)), .unset] [(.int p1), (.ref b2), (.ref b2)]))
      refine Rch.go (fun zt zk => XS.iload X2.here hx rfl (hb hby at_96) rfl zk) ?_
      show Rch _ _ _ _ (T2.setTop (mkF m 98 #[.val (.int p1), .val (.int p2), .val (.int p3), .val (.int p4), .val (.int p5), .val (.int a), .val (.int b), .val (.long ((2147483647 : Int64) - (b.toInt64))), .second, .val (.int ((((b.toInt64) + (1 : Int64)) + (((p4.toInt64) &&& (4294967295 : Int64)) - (((p4.toInt64) &&& (4294967295 : Int64)) / ((2147483647 : Int64) - (b.toInt64))) * ((2147483647 : Int64) - (b.toInt64)))).toInt32)), .unset] [(.int a), (.int p1), (.ref b2), (.ref b2)]))
      have f4 := (Nat.le_trans Z0 E2.1)
      obtain ⟨_, _, ⟨T3, L3, k3, n3⟩, -, X3, ⟨Lc3, hQ3, l3, y3, z3⟩, st3⟩ := Jvm.LawKit.callS X2 hx (y := (⟨"java/lang/Math", "min", "(II)I"⟩ : MethodName)) hown (mvT hZ (ow0 hw)) (mvT hZ (ow1 hw)) (mvT hZ (ow2 hw)) (mvT hZ (ow3 hw)) (by decide) (backOf (W := 2) (rm1 l Z a0 hw [] p1 a h2 n0 f4 ) hZ (ow3 hw) (ow2 hw) (by decide) (by decide)) (g := (mkF m 98 #[.val (.int p1), .val (.int p2), .val (.int p3), .val (.int p4), .val (.int p5), .val (.int a), .val (.int b), .val (.long ((2147483647 : Int64) - (b.toInt64))), .second, .val (.int ((((b.toInt64) + (1 : Int64)) + (((p4.toInt64) &&& (4294967295 : Int64)) - (((p4.toInt64) &&& (4294967295 : Int64)) / ((2147483647 : Int64) - (b.toInt64))) * ((2147483647 : Int64) - (b.toInt64)))).toInt32)), .unset] [(.int a), (.int p1), (.ref b2), (.ref b2)])) rfl (by rw [hml]; rfl) (argsL := [(.int p1), (.int a)]) (rest := [(.ref b2), (.ref b2)]) (lenOf pd__II_I rfl) rfl (by show 2 * 0 + _ ≤ _; exact Nat.le_of_eq rfl) (hb hby at_98) (fun _ _ => ⟨rfl, e2, (by decide : 1 + 0 ≤ _), (by decide : 4 + 0 ≤ _)⟩)
      dsimp only [Pt.U, Pt.locs, Pt.cells, Pt.slots] at X3 l3 y3 z3 st3 hQ3
      subst l3 y3 z3
      obtain ⟨rfl, N3q, eq3⟩ := hQ3
      have N3 := Fr.app Nj64 N3q
      refine Rch.go st3 ?_
      show Rch _ _ _ _ (T3.setTop (mkF m 101 #[.val (.int p1), .val (.int p2), .val (.int p3), .val (.int p4), .val (.int p5), .val (.int a), .val (.int b), .val (.long ((2147483647 : Int64) - (b.toInt64))), .second, .val (.int ((((b.toInt64) + (1 : Int64)) + (((p4.toInt64) &&& (4294967295 : Int64)) - (((p4.toInt64) &&& (4294967295 : Int64)) / ((2147483647 : Int64) - (b.toInt64))) * ((2147483647 : Int64) - (b.toInt64)))).toInt32)), .unset] [(.int (fMin p1 a)), (.ref b2), (.ref b2)]))
      refine Rch.go (fun zt zk => XS.iload X3.here hx rfl (hb hby at_101) rfl zk) ?_
      show Rch _ _ _ _ (T3.setTop (mkF m 103 #[.val (.int p1), .val (.int p2), .val (.int p3), .val (.int p4), .val (.int p5), .val (.int a), .val (.int b), .val (.long ((2147483647 : Int64) - (b.toInt64))), .second, .val (.int ((((b.toInt64) + (1 : Int64)) + (((p4.toInt64) &&& (4294967295 : Int64)) - (((p4.toInt64) &&& (4294967295 : Int64)) / ((2147483647 : Int64) - (b.toInt64))) * ((2147483647 : Int64) - (b.toInt64)))).toInt32)), .unset] [(.int a), (.int (fMin p1 a)), (.ref b2), (.ref b2)]))
      refine Rch.go (fun zt zk => XS.iload X3.here hx rfl (hb hby at_103) rfl zk) ?_
      show Rch _ _ _ _ (T3.setTop (mkF m 105 #[.val (.int p1), .val (.int p2), .val (.int p3), .val (.int p4), .val (.int p5), .val (.int a), .val (.int b), .val (.long ((2147483647 : Int64) - (b.toInt64))), .second, .val (.int ((((b.toInt64) + (1 : Int64)) + (((p4.toInt64) &&& (4294967295 : Int64)) - (((p4.toInt64) &&& (4294967295 : Int64)) / ((2147483647 : Int64) - (b.toInt64))) * ((2147483647 : Int64) - (b.toInt64)))).toInt32)), .unset] [(.int b), (.int a), (.int (fMin p1 a)), (.ref b2), (.ref b2)]))
      refine Rch.go (fun zt zk => XS.iload X3.here hx rfl (hb hby at_105) rfl zk) ?_
      show Rch _ _ _ _ (T3.setTop (mkF m 107 #[.val (.int p1), .val (.int p2), .val (.int p3), .val (.int p4), .val (.int p5), .val (.int a), .val (.int b), .val (.long ((2147483647 : Int64) - (b.toInt64))), .second, .val (.int ((((b.toInt64) + (1 : Int64)) + (((p4.toInt64) &&& (4294967295 : Int64)) - (((p4.toInt64) &&& (4294967295 : Int64)) / ((2147483647 : Int64) - (b.toInt64))) * ((2147483647 : Int64) - (b.toInt64)))).toInt32)), .unset] [(.int ((((b.toInt64) + (1 : Int64)) + (((p4.toInt64) &&& (4294967295 : Int64)) - (((p4.toInt64) &&& (4294967295 : Int64)) / ((2147483647 : Int64) - (b.toInt64))) * ((2147483647 : Int64) - (b.toInt64)))).toInt32)), (.int b), (.int a), (.int (fMin p1 a)), (.ref b2), (.ref b2)]))
      obtain ⟨_, _, ⟨T5, L5, k5, n5⟩, -, X5, ⟨Lc5, hQ5, l5, y5, z5⟩, st5⟩ := X3.specialBack hx (y := (⟨"com/example/feldsher/feldsher/crypto/ElementSpans$Span", "<init>", "(IIII)V"⟩ : MethodName)) rfl hown (mvT hZ (ow13 hw)) (mvT hZ (ow14 hw)) (mvT hZ (ow15 hw)) (by decide) (backOf (W := 1) (rm3 l Z a0 hw [] (b2) ((fMin p1 a)) (a) (b) (((((b.toInt64) + (1 : Int64)) + (((p4.toInt64) &&& (4294967295 : Int64)) - (((p4.toInt64) &&& (4294967295 : Int64)) / ((2147483647 : Int64) - (b.toInt64))) * ((2147483647 : Int64) - (b.toInt64)))).toInt32)) ((.int (0 : Int32))) ((.int (0 : Int32))) ((.int (0 : Int32))) ((.int (0 : Int32))) h2 n0 f4 (A2) (F2_start) (F2_contentStart) (F2_contentEnd) (F2_end) (ge2)) hZ (ow15 hw) (ow12 hw) (by decide) (by decide)) (g := (mkF m 107 #[.val (.int p1), .val (.int p2), .val (.int p3), .val (.int p4), .val (.int p5), .val (.int a), .val (.int b), .val (.long ((2147483647 : Int64) - (b.toInt64))), .second, .val (.int ((((b.toInt64) + (1 : Int64)) + (((p4.toInt64) &&& (4294967295 : Int64)) - (((p4.toInt64) &&& (4294967295 : Int64)) / ((2147483647 : Int64) - (b.toInt64))) * ((2147483647 : Int64) - (b.toInt64)))).toInt32)), .unset] [(.int ((((b.toInt64) + (1 : Int64)) + (((p4.toInt64) &&& (4294967295 : Int64)) - (((p4.toInt64) &&& (4294967295 : Int64)) / ((2147483647 : Int64) - (b.toInt64))) * ((2147483647 : Int64) - (b.toInt64)))).toInt32)), (.int b), (.int a), (.int (fMin p1 a)), (.ref b2), (.ref b2)])) rfl (by rw [hml]; rfl) (Steps.refl _) (a := b2) (argsL := [(.int (fMin p1 a)), (.int a), (.int b), (.int ((((b.toInt64) + (1 : Int64)) + (((p4.toInt64) &&& (4294967295 : Int64)) - (((p4.toInt64) &&& (4294967295 : Int64)) / ((2147483647 : Int64) - (b.toInt64))) * ((2147483647 : Int64) - (b.toInt64)))).toInt32))]) (rest := [(.ref b2)]) (lenOf pd__IIII_V rfl) rfl (by show 2 * 0 + _ ≤ _; exact Nat.le_of_eq rfl) (hb hby at_107) (fun _ _ => ⟨rfl, eq3, (by decide : 1 + 0 ≤ _), (by decide : 4 + 0 ≤ _)⟩)
      dsimp only [Pt.U, Pt.locs, Pt.cells, Pt.slots] at X5 l5 y5 z5 st5 hQ5
      subst l5 y5 z5
      obtain ⟨rfl, N5q, K5q, O5_0, O5_1, O5_2, O5_3, O5_4⟩ := hQ5
      have N5 := Fr.app N3 N5q
      have K5 := Keep.trans K2 K5q (allS (Or.inr gk2) all0)
      refine Rch.go (fun zt zk => st5.trans zk) ?_
      show Rch _ _ _ _ (T5.setTop (mkF m 110 #[.val (.int p1), .val (.int p2), .val (.int p3), .val (.int p4), .val (.int p5), .val (.int a), .val (.int b), .val (.long ((2147483647 : Int64) - (b.toInt64))), .second, .val (.int ((((b.toInt64) + (1 : Int64)) + (((p4.toInt64) &&& (4294967295 : Int64)) - (((p4.toInt64) &&& (4294967295 : Int64)) / ((2147483647 : Int64) - (b.toInt64))) * ((2147483647 : Int64) - (b.toInt64)))).toInt32)), .unset] [(.ref b2)]))
      refine Rch.go (fun zt zk => XS.astore X5.here hx rfl (hb hby at_110) rfl rfl (l' := #[.val (.int p1), .val (.int p2), .val (.int p3), .val (.int p4), .val (.int p5), .val (.int a), .val (.int b), .val (.long ((2147483647 : Int64) - (b.toInt64))), .second, .val (.int ((((b.toInt64) + (1 : Int64)) + (((p4.toInt64) &&& (4294967295 : Int64)) - (((p4.toInt64) &&& (4294967295 : Int64)) / ((2147483647 : Int64) - (b.toInt64))) * ((2147483647 : Int64) - (b.toInt64)))).toInt32)), .val (.ref b2)]) rfl zk) ?_
      show Rch _ _ _ _ (T5.setTop (mkF m 112 #[.val (.int p1), .val (.int p2), .val (.int p3), .val (.int p4), .val (.int p5), .val (.int a), .val (.int b), .val (.long ((2147483647 : Int64) - (b.toInt64))), .second, .val (.int ((((b.toInt64) + (1 : Int64)) + (((p4.toInt64) &&& (4294967295 : Int64)) - (((p4.toInt64) &&& (4294967295 : Int64)) / ((2147483647 : Int64) - (b.toInt64))) * ((2147483647 : Int64) - (b.toInt64)))).toInt32)), .val (.ref b2)] []))
      refine Rch.go (fun zt zk => XS.aload X5.here hx rfl (hb hby at_112) rfl rfl zk) ?_
      show Rch _ _ _ _ (T5.setTop (mkF m 114 #[.val (.int p1), .val (.int p2), .val (.int p3), .val (.int p4), .val (.int p5), .val (.int a), .val (.int b), .val (.long ((2147483647 : Int64) - (b.toInt64))), .second, .val (.int ((((b.toInt64) + (1 : Int64)) + (((p4.toInt64) &&& (4294967295 : Int64)) - (((p4.toInt64) &&& (4294967295 : Int64)) / ((2147483647 : Int64) - (b.toInt64))) * ((2147483647 : Int64) - (b.toInt64)))).toInt32)), .val (.ref b2)] [(.ref b2)]))
      have f7 := (Nat.le_trans f4 K5q.1)
      obtain ⟨cq6, kq6, q6a, q6b, q6c⟩ := isOf hZ rfl O5_0
      obtain ⟨_, _, ⟨T6, L6, k6, n6⟩, -, X6, ⟨Lc6, hQ6, l6, y6, z6⟩, st6⟩ := X5.virtualBack hx (y := (⟨"com/example/feldsher/feldsher/crypto/ElementSpans$Span", "isEmptyElementTag", "()Z"⟩ : MethodName)) (z := (⟨"com/example/feldsher/feldsher/crypto/ElementSpans$Span", "isEmptyElementTag", "()Z"⟩ : MethodName)) hown (mvT hZ (ow32 hw)) (mvT hZ (ow33 hw)) (notFace_of_selects (args := #[]) (mvT hZ (ow35 hw))) (mvT hZ (ow35 hw)) (mvT hZ (ow34 hw)) (by decide) (backOf (W := 0) (rm6 l Z a0 hw [] (b2) (a) (((((b.toInt64) + (1 : Int64)) + (((p4.toInt64) &&& (4294967295 : Int64)) - (((p4.toInt64) &&& (4294967295 : Int64)) / ((2147483647 : Int64) - (b.toInt64))) * ((2147483647 : Int64) - (b.toInt64)))).toInt32)) T5.heap n0 f7 (O5_2) (O5_4)) hZ (ow36 hw) (ow12 hw) (by decide) (by decide)) q6a q6c (g := (mkF m 114 #[.val (.int p1), .val (.int p2), .val (.int p3), .val (.int p4), .val (.int p5), .val (.int a), .val (.int b), .val (.long ((2147483647 : Int64) - (b.toInt64))), .second, .val (.int ((((b.toInt64) + (1 : Int64)) + (((p4.toInt64) &&& (4294967295 : Int64)) - (((p4.toInt64) &&& (4294967295 : Int64)) / ((2147483647 : Int64) - (b.toInt64))) * ((2147483647 : Int64) - (b.toInt64)))).toInt32)), .val (.ref b2)] [(.ref b2)])) rfl (by rw [hml]; rfl) (Steps.refl _) (argsL := []) (rest := []) (lenOf pd___Z rfl) rfl (by show 2 * 0 + _ ≤ _; exact Nat.le_of_eq rfl) (hb hby at_114) (fun _ _ => ⟨rfl, rfl, (by decide : 1 + 0 ≤ _), (by decide : 4 + 0 ≤ _)⟩)
      dsimp only [Pt.U, Pt.locs, Pt.cells, Pt.slots] at X6 l6 y6 z6 st6 hQ6
      subst l6 y6 z6
      obtain ⟨rfl, N6q, eq6⟩ := hQ6
      have N6 := Fr.app N5 N6q
      refine Rch.go (fun zt zk => st6.trans zk) ?_
      show Rch _ _ _ _ (T6.setTop (mkF m 117 #[.val (.int p1), .val (.int p2), .val (.int p3), .val (.int p4), .val (.int p5), .val (.int a), .val (.int b), .val (.long ((2147483647 : Int64) - (b.toInt64))), .second, .val (.int ((((b.toInt64) + (1 : Int64)) + (((p4.toInt64) &&& (4294967295 : Int64)) - (((p4.toInt64) &&& (4294967295 : Int64)) / ((2147483647 : Int64) - (b.toInt64))) * ((2147483647 : Int64) - (b.toInt64)))).toInt32)), .val (.ref b2)] [(.int (fEmpty a ((((b.toInt64) + (1 : Int64)) + (((p4.toInt64) &&& (4294967295 : Int64)) - (((p4.toInt64) &&& (4294967295 : Int64)) / ((2147483647 : Int64) - (b.toInt64))) * ((2147483647 : Int64) - (b.toInt64)))).toInt32)))]))
      refine Rch.go (fun zt zk => XS.ifNo X6.here hx rfl (hb hby at_117) rfl ((if0 _ _).trans (teq (own_no (own_end hab hbb) : (fEmpty a ((((b.toInt64) + (1 : Int64)) + (((p4.toInt64) &&& (4294967295 : Int64)) - (((p4.toInt64) &&& (4294967295 : Int64)) / ((2147483647 : Int64) - (b.toInt64))) * ((2147483647 : Int64) - (b.toInt64)))).toInt32)) = (0 : Int32))).2) zk) ?_
      show Rch _ _ _ _ (T6.setTop (mkF m 120 #[.val (.int p1), .val (.int p2), .val (.int p3), .val (.int p4), .val (.int p5), .val (.int a), .val (.int b), .val (.long ((2147483647 : Int64) - (b.toInt64))), .second, .val (.int ((((b.toInt64) + (1 : Int64)) + (((p4.toInt64) &&& (4294967295 : Int64)) - (((p4.toInt64) &&& (4294967295 : Int64)) / ((2147483647 : Int64) - (b.toInt64))) * ((2147483647 : Int64) - (b.toInt64)))).toInt32)), .val (.ref b2)] []))
      refine Rch.go (fun zt zk => XS.iconst X6.here hx rfl (hb hby at_120) zk) ?_
      show Rch _ _ _ _ (T6.setTop (mkF m 121 #[.val (.int p1), .val (.int p2), .val (.int p3), .val (.int p4), .val (.int p5), .val (.int a), .val (.int b), .val (.long ((2147483647 : Int64) - (b.toInt64))), .second, .val (.int ((((b.toInt64) + (1 : Int64)) + (((p4.toInt64) &&& (4294967295 : Int64)) - (((p4.toInt64) &&& (4294967295 : Int64)) / ((2147483647 : Int64) - (b.toInt64))) * ((2147483647 : Int64) - (b.toInt64)))).toInt32)), .val (.ref b2)] [(.int (1 : Int32))]))
      refine Rch.go (fun zt zk => XS.goto X6.here hx rfl (pc0 := 121) (pc' := 125) rfl (hb hby at_121) (by decide) (by decide) zk) ?_
      show Rch _ _ _ _ (T6.setTop (mkF m 125 #[.val (.int p1), .val (.int p2), .val (.int p3), .val (.int p4), .val (.int p5), .val (.int a), .val (.int b), .val (.long ((2147483647 : Int64) - (b.toInt64))), .second, .val (.int ((((b.toInt64) + (1 : Int64)) + (((p4.toInt64) &&& (4294967295 : Int64)) - (((p4.toInt64) &&& (4294967295 : Int64)) / ((2147483647 : Int64) - (b.toInt64))) * ((2147483647 : Int64) - (b.toInt64)))).toInt32)), .val (.ref b2)] [(.int (1 : Int32))]))
      obtain ⟨fs, hr, hrun, hended, hW, hsame⟩ := X6.leave (v := some (.int (1 : Int32))) (fun h => by rw [Bd.returns] at h; cases h)
      refine Rch.mk (retN X6 hx (t := .boolean) Bd.returns (by simp) (hb hby at_125) hr) (hPd _ _ _ _ hrun hended rfl ?_ ⟨⟨_, rfl⟩, hW, hsame.mono (by decide) (by decide)⟩)
      show Q_rm0 Z p1 p2 p3 p4 p5 h0 n0 _ T6.heap _
      exact ⟨rfl, N6⟩
    refine Rch.go (fun zt zk => XS.iloadN X0.here hx rfl (hb hby at_30) rfl zk) ?_
    show Rch _ _ _ _ (s₁.setTop (mkF m 31 #[.val (.int p1), .val (.int p2), .val (.int p3), .val (.int p4), .val (.int p5), .unset, .unset, .unset, .unset, .unset, .unset] [(.int p2)]))
    refine Rch.go (fun zt zk => XS.iloadN X0.here hx rfl (hb hby at_31) rfl zk) ?_
    show Rch _ _ _ _ (s₁.setTop (mkF m 32 #[.val (.int p1), .val (.int p2), .val (.int p3), .val (.int p4), .val (.int p5), .unset, .unset, .unset, .unset, .unset, .unset] [(.int p3), (.int p2)]))
    obtain ⟨_, _, ⟨T8, L8, k8, n8⟩, -, X8, ⟨Lc8, hQ8, l8, y8, z8⟩, st8⟩ := Jvm.LawKit.callS X0 hx (y := (⟨"java/lang/Math", "min", "(II)I"⟩ : MethodName)) hown (mvT hZ (ow0 hw)) (mvT hZ (ow1 hw)) (mvT hZ (ow2 hw)) (mvT hZ (ow3 hw)) (by decide) (backOf (W := 0) (rm1 l Z a0 hw [] p2 p3 h0 n0 Z0 ) hZ (ow3 hw) (ow2 hw) (by decide) (by decide)) (g := (mkF m 32 #[.val (.int p1), .val (.int p2), .val (.int p3), .val (.int p4), .val (.int p5), .unset, .unset, .unset, .unset, .unset, .unset] [(.int p3), (.int p2)])) rfl (by rw [hml]; rfl) (argsL := [(.int p2), (.int p3)]) (rest := []) (lenOf pd__II_I rfl) rfl (by show 2 * 0 + _ ≤ _; exact Nat.le_of_eq rfl) (hb hby at_32) (fun _ _ => ⟨rfl, e0, (by decide : 0 + 0 ≤ _), (by decide : 0 + 0 ≤ _)⟩)
    dsimp only [Pt.U, Pt.locs, Pt.cells, Pt.slots] at X8 l8 y8 z8 st8 hQ8
    subst l8 y8 z8
    obtain ⟨rfl, N8q, eq8⟩ := hQ8
    have N8 := Fr.app N0 N8q
    refine Rch.go st8 ?_
    show Rch _ _ _ _ (T8.setTop (mkF m 35 #[.val (.int p1), .val (.int p2), .val (.int p3), .val (.int p4), .val (.int p5), .unset, .unset, .unset, .unset, .unset, .unset] [(.int (fMin p2 p3))]))
    refine Rch.go (fun zt zk => XS.istore X8.here hx rfl (hb hby at_35) rfl (l' := #[.val (.int p1), .val (.int p2), .val (.int p3), .val (.int p4), .val (.int p5), .val (.int (fMin p2 p3)), .unset, .unset, .unset, .unset, .unset]) rfl zk) ?_
    show Rch _ _ _ _ (T8.setTop (mkF m 37 #[.val (.int p1), .val (.int p2), .val (.int p3), .val (.int p4), .val (.int p5), .val (.int (fMin p2 p3)), .unset, .unset, .unset, .unset, .unset] []))
    refine Rch.go (fun zt zk => XS.iloadN X8.here hx rfl (hb hby at_37) rfl zk) ?_
    show Rch _ _ _ _ (T8.setTop (mkF m 38 #[.val (.int p1), .val (.int p2), .val (.int p3), .val (.int p4), .val (.int p5), .val (.int (fMin p2 p3)), .unset, .unset, .unset, .unset, .unset] [(.int p2)]))
    refine Rch.go (fun zt zk => XS.iloadN X8.here hx rfl (hb hby at_38) rfl zk) ?_
    show Rch _ _ _ _ (T8.setTop (mkF m 39 #[.val (.int p1), .val (.int p2), .val (.int p3), .val (.int p4), .val (.int p5), .val (.int (fMin p2 p3)), .unset, .unset, .unset, .unset, .unset] [(.int p3), (.int p2)]))
    obtain ⟨_, _, ⟨T9, L9, k9, n9⟩, -, X9, ⟨Lc9, hQ9, l9, y9, z9⟩, st9⟩ := Jvm.LawKit.callS X8 hx (y := (⟨"java/lang/Math", "max", "(II)I"⟩ : MethodName)) hown (mvT hZ (ow4 hw)) (mvT hZ (ow5 hw)) (mvT hZ (ow2 hw)) (mvT hZ (ow6 hw)) (by decide) (backOf (W := 0) (rm2 l Z a0 hw [] p2 p3 h0 n0 Z0 ) hZ (ow6 hw) (ow2 hw) (by decide) (by decide)) (g := (mkF m 39 #[.val (.int p1), .val (.int p2), .val (.int p3), .val (.int p4), .val (.int p5), .val (.int (fMin p2 p3)), .unset, .unset, .unset, .unset, .unset] [(.int p3), (.int p2)])) rfl (by rw [hml]; rfl) (argsL := [(.int p2), (.int p3)]) (rest := []) (lenOf pd__II_I rfl) rfl (by show 2 * 0 + _ ≤ _; exact Nat.le_of_eq rfl) (hb hby at_39) (fun _ _ => ⟨rfl, eq8, (by decide : 0 + 0 ≤ _), (by decide : 0 + 0 ≤ _)⟩)
    dsimp only [Pt.U, Pt.locs, Pt.cells, Pt.slots] at X9 l9 y9 z9 st9 hQ9
    subst l9 y9 z9
    obtain ⟨rfl, N9q, eq9⟩ := hQ9
    have N9 := Fr.app N8 N9q
    refine Rch.go st9 ?_
    show Rch _ _ _ _ (T9.setTop (mkF m 42 #[.val (.int p1), .val (.int p2), .val (.int p3), .val (.int p4), .val (.int p5), .val (.int (fMin p2 p3)), .unset, .unset, .unset, .unset, .unset] [(.int (fMax p2 p3))]))
    refine Rch.go (fun zt zk => XS.istore X9.here hx rfl (hb hby at_42) rfl (l' := #[.val (.int p1), .val (.int p2), .val (.int p3), .val (.int p4), .val (.int p5), .val (.int (fMin p2 p3)), .val (.int (fMax p2 p3)), .unset, .unset, .unset, .unset]) rfl zk) ?_
    show Rch _ _ _ _ (T9.setTop (mkF m 44 #[.val (.int p1), .val (.int p2), .val (.int p3), .val (.int p4), .val (.int p5), .val (.int (fMin p2 p3)), .val (.int (fMax p2 p3)), .unset, .unset, .unset, .unset] []))
    refine Rch.go (fun zt zk => XS.iload X9.here hx rfl (hb hby at_44) rfl zk) ?_
    show Rch _ _ _ _ (T9.setTop (mkF m 46 #[.val (.int p1), .val (.int p2), .val (.int p3), .val (.int p4), .val (.int p5), .val (.int (fMin p2 p3)), .val (.int (fMax p2 p3)), .unset, .unset, .unset, .unset] [(.int (fMax p2 p3))]))
    refine Rch.go (X9.ldcInt hx hown (mvT hZ (ow7 hw)) (g := (mkF m 46 #[.val (.int p1), .val (.int p2), .val (.int p3), .val (.int p4), .val (.int p5), .val (.int (fMin p2 p3)), .val (.int (fMax p2 p3)), .unset, .unset, .unset, .unset] [(.int (fMax p2 p3))])) rfl (hb hby at_46)) ?_
    show Rch _ _ _ _ (T9.setTop (mkF m 48 #[.val (.int p1), .val (.int p2), .val (.int p3), .val (.int p4), .val (.int p5), .val (.int (fMin p2 p3)), .val (.int (fMax p2 p3)), .unset, .unset, .unset, .unset] [(.int (2147483647 : Int32)), (.int (fMax p2 p3))]))
    by_cases hc48_10 : (fMax p2 p3) = (2147483647 : Int32)
    · skip
      refine Rch.go (fun zt zk => XS.icmpNo X9.here hx rfl (hb hby at_48) rfl (teq hc48_10).2 zk) ?_
      show Rch _ _ _ _ (T9.setTop (mkF m 51 #[.val (.int p1), .val (.int p2), .val (.int p3), .val (.int p4), .val (.int p5), .val (.int (fMin p2 p3)), .val (.int (fMax p2 p3)), .unset, .unset, .unset, .unset] []))
      refine Rch.go (X9.ldcInt hx hown (mvT hZ (ow37 hw)) (g := (mkF m 51 #[.val (.int p1), .val (.int p2), .val (.int p3), .val (.int p4), .val (.int p5), .val (.int (fMin p2 p3)), .val (.int (fMax p2 p3)), .unset, .unset, .unset, .unset] [])) rfl (hb hby at_51)) ?_
      show Rch _ _ _ _ (T9.setTop (mkF m 53 #[.val (.int p1), .val (.int p2), .val (.int p3), .val (.int p4), .val (.int p5), .val (.int (fMin p2 p3)), .val (.int (fMax p2 p3)), .unset, .unset, .unset, .unset] [(.int (2147483646 : Int32))]))
      refine Rch.go (fun zt zk => XS.istore X9.here hx rfl (hb hby at_53) rfl (l' := #[.val (.int p1), .val (.int p2), .val (.int p3), .val (.int p4), .val (.int p5), .val (.int (fMin p2 p3)), .val (.int (2147483646 : Int32)), .unset, .unset, .unset, .unset]) rfl zk) ?_
      show Rch _ _ _ _ (T9.setTop (mkF m 55 #[.val (.int p1), .val (.int p2), .val (.int p3), .val (.int p4), .val (.int p5), .val (.int (fMin p2 p3)), .val (.int (2147483646 : Int32)), .unset, .unset, .unset, .unset] []))
      refine Rch.go (fun zt zk => XS.iload X9.here hx rfl (hb hby at_55) rfl zk) ?_
      show Rch _ _ _ _ (T9.setTop (mkF m 57 #[.val (.int p1), .val (.int p2), .val (.int p3), .val (.int p4), .val (.int p5), .val (.int (fMin p2 p3)), .val (.int (2147483646 : Int32)), .unset, .unset, .unset, .unset] [(.int (fMin p2 p3))]))
      refine Rch.go (fun zt zk => XS.iload X9.here hx rfl (hb hby at_57) rfl zk) ?_
      show Rch _ _ _ _ (T9.setTop (mkF m 59 #[.val (.int p1), .val (.int p2), .val (.int p3), .val (.int p4), .val (.int p5), .val (.int (fMin p2 p3)), .val (.int (2147483646 : Int32)), .unset, .unset, .unset, .unset] [(.int (2147483646 : Int32)), (.int (fMin p2 p3))]))
      obtain ⟨_, _, ⟨T11, L11, k11, n11⟩, -, X11, ⟨Lc11, hQ11, l11, y11, z11⟩, st11⟩ := Jvm.LawKit.callS X9 hx (y := (⟨"java/lang/Math", "min", "(II)I"⟩ : MethodName)) hown (mvT hZ (ow0 hw)) (mvT hZ (ow1 hw)) (mvT hZ (ow2 hw)) (mvT hZ (ow3 hw)) (by decide) (backOf (W := 0) (rm1 l Z a0 hw [] (fMin p2 p3) (2147483646 : Int32) h0 n0 Z0 ) hZ (ow3 hw) (ow2 hw) (by decide) (by decide)) (g := (mkF m 59 #[.val (.int p1), .val (.int p2), .val (.int p3), .val (.int p4), .val (.int p5), .val (.int (fMin p2 p3)), .val (.int (2147483646 : Int32)), .unset, .unset, .unset, .unset] [(.int (2147483646 : Int32)), (.int (fMin p2 p3))])) rfl (by rw [hml]; rfl) (argsL := [(.int (fMin p2 p3)), (.int (2147483646 : Int32))]) (rest := []) (lenOf pd__II_I rfl) rfl (by show 2 * 0 + _ ≤ _; exact Nat.le_of_eq rfl) (hb hby at_59) (fun _ _ => ⟨rfl, eq9, (by decide : 0 + 0 ≤ _), (by decide : 0 + 0 ≤ _)⟩)
      dsimp only [Pt.U, Pt.locs, Pt.cells, Pt.slots] at X11 l11 y11 z11 st11 hQ11
      subst l11 y11 z11
      obtain ⟨rfl, N11q, eq11⟩ := hQ11
      have N11 := Fr.app N9 N11q
      refine Rch.go st11 ?_
      show Rch _ _ _ _ (T11.setTop (mkF m 62 #[.val (.int p1), .val (.int p2), .val (.int p3), .val (.int p4), .val (.int p5), .val (.int (fMin p2 p3)), .val (.int (2147483646 : Int32)), .unset, .unset, .unset, .unset] [(.int (fMin (fMin p2 p3) (2147483646 : Int32)))]))
      refine Rch.go (fun zt zk => XS.istore X11.here hx rfl (hb hby at_62) rfl (l' := #[.val (.int p1), .val (.int p2), .val (.int p3), .val (.int p4), .val (.int p5), .val (.int (fMin (fMin p2 p3) (2147483646 : Int32))), .val (.int (2147483646 : Int32)), .unset, .unset, .unset, .unset]) rfl zk) ?_
      show Rch _ _ _ _ (T11.setTop (mkF m 64 #[.val (.int p1), .val (.int p2), .val (.int p3), .val (.int p4), .val (.int p5), .val (.int (fMin (fMin p2 p3) (2147483646 : Int32))), .val (.int (2147483646 : Int32)), .unset, .unset, .unset, .unset] []))
      exact j64 _ _ X11 eq11 N11 _ _ (by first | exact (own_j hc48_10).1 | exact (own_j2 _).1) (by first | exact (own_j hc48_10).2 | exact (own_j2 (fMin p2 p3)).2)
    · skip
      refine Rch.go (fun zt zk => XS.icmpYes X9.here hx rfl (pc0 := 48) (pc' := 64) rfl (hb hby at_48) rfl (feq hc48_10).2 (by decide) (by decide) zk) ?_
      show Rch _ _ _ _ (T9.setTop (mkF m 64 #[.val (.int p1), .val (.int p2), .val (.int p3), .val (.int p4), .val (.int p5), .val (.int (fMin p2 p3)), .val (.int (fMax p2 p3)), .unset, .unset, .unset, .unset] []))
      exact j64 _ _ X9 eq9 N9 _ _ (by first | exact (own_j hc48_10).1 | exact (own_j2 _).1) (by first | exact (own_j hc48_10).2 | exact (own_j2 (fMin p2 p3)).2)
  · skip
    refine Rch.go (fun zt zk => XS.ifNo X0.here hx rfl (hb hby at_4) rfl ((if0 _ _).trans (feq hc4_1).1) zk) ?_
    show Rch _ _ _ _ (s₁.setTop (mkF m 7 #[.val (.int p1), .val (.int p2), .val (.int p3), .val (.int p4), .val (.int p5), .unset, .unset, .unset, .unset, .unset, .unset] []))
    obtain ⟨T12, h12, X12, e12, E12, A12, D12, -, st12⟩ := newO X0 hx hZ hown (ow10 hw) (ow11 hw) (ow12 hw) e0 (g := (mkF m 7 #[.val (.int p1), .val (.int p2), .val (.int p3), .val (.int p4), .val (.int p5), .unset, .unset, .unset, .unset, .unset, .unset] [])) rfl (hb hby at_7) (by decide) (by decide)
    obtain ⟨b12, g12⟩ : ∃ z, z = h0.size := ⟨_, rfl⟩
    rw [← g12] at A12 D12 st12
    refine Rch.go st12 ?_
    have ge12 : n0 ≤ b12 := by rw [g12]; exact Z0
    have gk12 : h0.size ≤ b12 := by rw [g12]; exact (Keep.refl h0 []).1
    have K12 := (Keep.refl h0 []).ext E12
    have F12_start : Fld Z h12 b12 "com/example/feldsher/feldsher/crypto/ElementSpans$Span" "start" "I" (.int (0 : Int32)) := D12 (Or.inr (ow25 hw)) (ty := .int) (by decide)
    have F12_contentStart : Fld Z h12 b12 "com/example/feldsher/feldsher/crypto/ElementSpans$Span" "contentStart" "I" (.int (0 : Int32)) := D12 (Or.inr (ow27 hw)) (ty := .int) (by decide)
    have F12_contentEnd : Fld Z h12 b12 "com/example/feldsher/feldsher/crypto/ElementSpans$Span" "contentEnd" "I" (.int (0 : Int32)) := D12 (Or.inr (ow29 hw)) (ty := .int) (by decide)
    have F12_end : Fld Z h12 b12 "com/example/feldsher/feldsher/crypto/ElementSpans$Span" "end" "I" (.int (0 : Int32)) := D12 (Or.inr (ow31 hw)) (ty := .int) (by decide)
    show Rch _ _ _ _ (T12.setTop (mkF m 10 #[.val (.int p1), .val (.int p2), .val (.int p3), .val (.int p4), .val (.int p5), .unset, .unset, .unset, .unset, .unset, .unset] [(.ref b12)]))
    refine Rch.go (fun zt zk => XS.dup X12.here hx rfl (hb hby at_10) rfl rfl zk) ?_
    show Rch _ _ _ _ (T12.setTop (mkF m 11 #[.val (.int p1), .val (.int p2), .val (.int p3), .val (.int p4), .val (.int p5), .unset, .unset, .unset, .unset, .unset, .unset] [(.ref b12), (.ref b12)]))
    refine Rch.go (fun zt zk => XS.iloadN X12.here hx rfl (hb hby at_11) rfl zk) ?_
    show Rch _ _ _ _ (T12.setTop (mkF m 12 #[.val (.int p1), .val (.int p2), .val (.int p3), .val (.int p4), .val (.int p5), .unset, .unset, .unset, .unset, .unset, .unset] [(.int p1), (.ref b12), (.ref b12)]))
    refine Rch.go (fun zt zk => XS.iloadN X12.here hx rfl (hb hby at_12) rfl zk) ?_
    show Rch _ _ _ _ (T12.setTop (mkF m 13 #[.val (.int p1), .val (.int p2), .val (.int p3), .val (.int p4), .val (.int p5), .unset, .unset, .unset, .unset, .unset, .unset] [(.int p2), (.int p1), (.ref b12), (.ref b12)]))
    have f14 := (Nat.le_trans Z0 E12.1)
    obtain ⟨_, _, ⟨T13, L13, k13, n13⟩, -, X13, ⟨Lc13, hQ13, l13, y13, z13⟩, st13⟩ := Jvm.LawKit.callS X12 hx (y := (⟨"java/lang/Math", "min", "(II)I"⟩ : MethodName)) hown (mvT hZ (ow0 hw)) (mvT hZ (ow1 hw)) (mvT hZ (ow2 hw)) (mvT hZ (ow3 hw)) (by decide) (backOf (W := 2) (rm1 l Z a0 hw [] p1 p2 h12 n0 f14 ) hZ (ow3 hw) (ow2 hw) (by decide) (by decide)) (g := (mkF m 13 #[.val (.int p1), .val (.int p2), .val (.int p3), .val (.int p4), .val (.int p5), .unset, .unset, .unset, .unset, .unset, .unset] [(.int p2), (.int p1), (.ref b12), (.ref b12)])) rfl (by rw [hml]; rfl) (argsL := [(.int p1), (.int p2)]) (rest := [(.ref b12), (.ref b12)]) (lenOf pd__II_I rfl) rfl (by show 2 * 0 + _ ≤ _; exact Nat.le_of_eq rfl) (hb hby at_13) (fun _ _ => ⟨rfl, e12, (by decide : 1 + 0 ≤ _), (by decide : 4 + 0 ≤ _)⟩)
    dsimp only [Pt.U, Pt.locs, Pt.cells, Pt.slots] at X13 l13 y13 z13 st13 hQ13
    subst l13 y13 z13
    obtain ⟨rfl, N13q, eq13⟩ := hQ13
    have N13 := Fr.app N0 N13q
    refine Rch.go st13 ?_
    show Rch _ _ _ _ (T13.setTop (mkF m 16 #[.val (.int p1), .val (.int p2), .val (.int p3), .val (.int p4), .val (.int p5), .unset, .unset, .unset, .unset, .unset, .unset] [(.int (fMin p1 p2)), (.ref b12), (.ref b12)]))
    refine Rch.go (fun zt zk => XS.iloadN X13.here hx rfl (hb hby at_16) rfl zk) ?_
    show Rch _ _ _ _ (T13.setTop (mkF m 17 #[.val (.int p1), .val (.int p2), .val (.int p3), .val (.int p4), .val (.int p5), .unset, .unset, .unset, .unset, .unset, .unset] [(.int p2), (.int (fMin p1 p2)), (.ref b12), (.ref b12)]))
    refine Rch.go (fun zt zk => XS.iloadN X13.here hx rfl (hb hby at_17) rfl zk) ?_
    show Rch _ _ _ _ (T13.setTop (mkF m 18 #[.val (.int p1), .val (.int p2), .val (.int p3), .val (.int p4), .val (.int p5), .unset, .unset, .unset, .unset, .unset, .unset] [(.int p2), (.int p2), (.int (fMin p1 p2)), (.ref b12), (.ref b12)]))
    refine Rch.go (fun zt zk => XS.iloadN X13.here hx rfl (hb hby at_18) rfl zk) ?_
    show Rch _ _ _ _ (T13.setTop (mkF m 19 #[.val (.int p1), .val (.int p2), .val (.int p3), .val (.int p4), .val (.int p5), .unset, .unset, .unset, .unset, .unset, .unset] [(.int p2), (.int p2), (.int p2), (.int (fMin p1 p2)), (.ref b12), (.ref b12)]))
    obtain ⟨_, _, ⟨T15, L15, k15, n15⟩, -, X15, ⟨Lc15, hQ15, l15, y15, z15⟩, st15⟩ := X13.specialBack hx (y := (⟨"com/example/feldsher/feldsher/crypto/ElementSpans$Span", "<init>", "(IIII)V"⟩ : MethodName)) rfl hown (mvT hZ (ow13 hw)) (mvT hZ (ow14 hw)) (mvT hZ (ow15 hw)) (by decide) (backOf (W := 1) (rm3 l Z a0 hw [] (b12) ((fMin p1 p2)) (p2) (p2) (p2) ((.int (0 : Int32))) ((.int (0 : Int32))) ((.int (0 : Int32))) ((.int (0 : Int32))) h12 n0 f14 (A12) (F12_start) (F12_contentStart) (F12_contentEnd) (F12_end) (ge12)) hZ (ow15 hw) (ow12 hw) (by decide) (by decide)) (g := (mkF m 19 #[.val (.int p1), .val (.int p2), .val (.int p3), .val (.int p4), .val (.int p5), .unset, .unset, .unset, .unset, .unset, .unset] [(.int p2), (.int p2), (.int p2), (.int (fMin p1 p2)), (.ref b12), (.ref b12)])) rfl (by rw [hml]; rfl) (Steps.refl _) (a := b12) (argsL := [(.int (fMin p1 p2)), (.int p2), (.int p2), (.int p2)]) (rest := [(.ref b12)]) (lenOf pd__IIII_V rfl) rfl (by show 2 * 0 + _ ≤ _; exact Nat.le_of_eq rfl) (hb hby at_19) (fun _ _ => ⟨rfl, eq13, (by decide : 1 + 0 ≤ _), (by decide : 4 + 0 ≤ _)⟩)
    dsimp only [Pt.U, Pt.locs, Pt.cells, Pt.slots] at X15 l15 y15 z15 st15 hQ15
    subst l15 y15 z15
    obtain ⟨rfl, N15q, K15q, O15_0, O15_1, O15_2, O15_3, O15_4⟩ := hQ15
    have N15 := Fr.app N13 N15q
    have K15 := Keep.trans K12 K15q (allS (Or.inr gk12) all0)
    refine Rch.go (fun zt zk => st15.trans zk) ?_
    show Rch _ _ _ _ (T15.setTop (mkF m 22 #[.val (.int p1), .val (.int p2), .val (.int p3), .val (.int p4), .val (.int p5), .unset, .unset, .unset, .unset, .unset, .unset] [(.ref b12)]))
    refine Rch.go (fun zt zk => XS.astore X15.here hx rfl (hb hby at_22) rfl rfl (l' := #[.val (.int p1), .val (.int p2), .val (.int p3), .val (.int p4), .val (.int p5), .val (.ref b12), .unset, .unset, .unset, .unset, .unset]) rfl zk) ?_
    show Rch _ _ _ _ (T15.setTop (mkF m 24 #[.val (.int p1), .val (.int p2), .val (.int p3), .val (.int p4), .val (.int p5), .val (.ref b12), .unset, .unset, .unset, .unset, .unset] []))
    refine Rch.go (fun zt zk => XS.aload X15.here hx rfl (hb hby at_24) rfl rfl zk) ?_
    show Rch _ _ _ _ (T15.setTop (mkF m 26 #[.val (.int p1), .val (.int p2), .val (.int p3), .val (.int p4), .val (.int p5), .val (.ref b12), .unset, .unset, .unset, .unset, .unset] [(.ref b12)]))
    have f17 := (Nat.le_trans f14 K15q.1)
    obtain ⟨cq16, kq16, q16a, q16b, q16c⟩ := isOf hZ rfl O15_0
    obtain ⟨_, _, ⟨T16, L16, k16, n16⟩, -, X16, ⟨Lc16, hQ16, l16, y16, z16⟩, st16⟩ := X15.virtualBack hx (y := (⟨"com/example/feldsher/feldsher/crypto/ElementSpans$Span", "isEmptyElementTag", "()Z"⟩ : MethodName)) (z := (⟨"com/example/feldsher/feldsher/crypto/ElementSpans$Span", "isEmptyElementTag", "()Z"⟩ : MethodName)) hown (mvT hZ (ow32 hw)) (mvT hZ (ow33 hw)) (notFace_of_selects (args := #[]) (mvT hZ (ow35 hw))) (mvT hZ (ow35 hw)) (mvT hZ (ow34 hw)) (by decide) (backOf (W := 0) (rm6 l Z a0 hw [] (b12) (p2) (p2) T15.heap n0 f17 (O15_2) (O15_4)) hZ (ow36 hw) (ow12 hw) (by decide) (by decide)) q16a q16c (g := (mkF m 26 #[.val (.int p1), .val (.int p2), .val (.int p3), .val (.int p4), .val (.int p5), .val (.ref b12), .unset, .unset, .unset, .unset, .unset] [(.ref b12)])) rfl (by rw [hml]; rfl) (Steps.refl _) (argsL := []) (rest := []) (lenOf pd___Z rfl) rfl (by show 2 * 0 + _ ≤ _; exact Nat.le_of_eq rfl) (hb hby at_26) (fun _ _ => ⟨rfl, rfl, (by decide : 1 + 0 ≤ _), (by decide : 4 + 0 ≤ _)⟩)
    dsimp only [Pt.U, Pt.locs, Pt.cells, Pt.slots] at X16 l16 y16 z16 st16 hQ16
    subst l16 y16 z16
    obtain ⟨rfl, N16q, eq16⟩ := hQ16
    have N16 := Fr.app N15 N16q
    refine Rch.go (fun zt zk => st16.trans zk) ?_
    show Rch _ _ _ _ (T16.setTop (mkF m 29 #[.val (.int p1), .val (.int p2), .val (.int p3), .val (.int p4), .val (.int p5), .val (.ref b12), .unset, .unset, .unset, .unset, .unset] [(.int (fEmpty p2 p2))]))
    obtain ⟨fs, hr, hrun, hended, hW, hsame⟩ := X16.leave (v := some (.int (nar .boolean (fEmpty p2 p2)))) (fun h => by rw [Bd.returns] at h; cases h)
    refine Rch.mk (retN X16 hx (t := .boolean) Bd.returns (by simp) (hb hby at_29) hr) (hPd _ _ _ _ hrun hended rfl ?_ ⟨⟨_, rfl⟩, hW, hsame.mono (by decide) (by decide)⟩)
    show Q_rm0 Z p1 p2 p3 p4 p5 h0 n0 _ T16.heap _
    exact ⟨by rw [show (nar .boolean (fEmpty p2 p2)) = (1 : Int32) from own_yes2 _], N16⟩
set_option maxRecDepth 65536 in
set_option maxHeartbeats 40000000 in
theorem comes_1 {Post : Tables → Env → Array Value → State → Outcome → State → Prop} (hpost : ∀ tb e args s v u, (limb_1_1.after args s (.returned v) u = true ∧ limb_1_2.after args s (.returned v) u = true ∧ True) → FrameEnd s (.returned v) u (Jvm.fieldLocs frame_1_writes args s ++ Jvm.arrayLocs frame_1_arrays args s ++ Jvm.staticLocs frame_1_statics s) 16 128 → Post tb e args s (.returned v) u) :
    ArmFor flags0 classFile x code maxLocals ret World_1 tables_1 room_1 Calls_1 rest_1 Pre_1 Post := by
  intro l hfl _ _ p e ha hc hk s m args below hf hA hF happ hP
  obtain ⟨hcalls, hrest, hpre⟩ := hP
  obtain ⟨-, -, -, hnamed, -, -, -, hat⟩ := (Spec.applies_iff hf).mp happ
  obtain ⟨hg, hn⟩ := and_e (Cond.before_iff.mp (show (Jvm.Cond.and given_1 narrow_1).before args s = true from hpre))
  obtain ⟨g1, g2⟩ := and_e hg
  obtain ⟨ga0, gb0⟩ := and_e g2
  obtain ⟨ga1, gb1⟩ := and_e gb0
  obtain ⟨ga2, gb2⟩ := and_e gb1
  obtain ⟨ga3, gb3⟩ := and_e gb2
  obtain ⟨w0, w1, w2, w3, w4, rfl⟩ : ∃ w0 w1 w2 w3 w4 : Value, args = #[w0, w1, w2, w3, w4] := by
    have hs : args.size = 5 := by simpa [Cond.value, given_1] using g1
    obtain ⟨L⟩ := args
    match L, hs with
    | [w0, w1, w2, w3, w4], _ => exact ⟨w0, w1, w2, w3, w4, rfl⟩
  have hw := fun d (hd : d ∈ tables_1) => atoms_spec (ws := Jvm.Cond.code x code maxLocals ret :: tables_1) hat d (List.mem_cons_of_mem _ hd)
  have hfit : Fit s := fun {y c} hc i hi => by
    obtain ⟨ha, rfl⟩ := Array.getElem?_eq_some_iff.mp hc
    have q := List.all_eq_true.mp ((Array.all_eq_true_iff_forall_mem.mp hF) _ (Array.getElem_mem ha)) i (List.mem_range.mpr hi)
    simpa [Array.getElem?_eq_getElem hi] using q
  obtain ⟨i0, ei0⟩ := is_v ga0
  obtain rfl : w0 = (.int i0) := Option.some.inj ei0
  obtain ⟨i1, ei1⟩ := is_v ga1
  obtain rfl : w1 = (.int i1) := Option.some.inj ei1
  obtain ⟨i2, ei2⟩ := is_v ga2
  obtain rfl : w2 = (.int i2) := Option.some.inj ei2
  obtain ⟨i3, ei3⟩ := is_v ga3
  obtain rfl : w3 = (.int i3) := Option.some.inj ei3
  obtain ⟨i4, ei4⟩ := is_v gb3
  obtain rfl : w4 = (.int i4) := Option.some.inj ei4
  obtain ⟨n, o, h1, h2, h3, _, L, rfl, ⟨rfl, N⟩, hq⟩ := rm0 l s _ hw tables_1 i0 i1 i2 i3 i4  s.heap s.heap.size (Nat.le_refl _)  p e ha hc hk s m _ below hf ((Spec.applies_iff_loose hf).mp happ).1 ⟨rfl, State.Warmed39.refl s, rfl⟩ trivial
  refine ⟨n, _, h1, h2, h3, hpost _ _ _ _ _ _ ⟨Cond.after_iff.mpr rfl, Cond.after_iff.mpr (eq_i res_at (Term.int_eval (1)) rfl), trivial⟩ ⟨hq.1, hq.2.1, (hq.2.2.sift fun y hy => Or.inr (N y hy)).mono (by decide) (by decide)⟩⟩
theorem main_1_1 : Claimed_1_1 := comes_1 fun _ _ _ _ _ _ h hF => ⟨h.1, hF⟩
theorem main_1_2 : Claimed_1_2 := comes_1 fun _ _ _ _ _ _ h hF => ⟨h.2.1, hF⟩
end Jvm.Pilot.@@N@@
namespace Jvm.Pilot.@@N@@
open Jvm Jvm.ClassFile Sem Op Lib Jvm.Free Jvm.Stand Jvm.Pilot.@@N@@.Jvm.D
/-! MADE BY PROGRAM (witnessworld.py) out of the Statement's table words and the real class files: 11 classes; the members and pool entries that the words name. The judged class is class 1, her method 1. -/
namespace start1
open Jvm.ClassFile
def u (s : String) : CpInfo := .utf8 (stringToUtf16 s)
/-- a pool by its gaps: so many unusable entries, then the entry; so many at the end -/
def gap : Nat → List CpInfo → List CpInfo
  | 0, r => r
  | n + 1, r => .unusable :: gap n r
def poolList (es : List (Nat × CpInfo)) (last : Nat) : List CpInfo := es.foldr (fun e r => gap e.1 (e.2 :: r)) (gap last [])
def pool (es : List (Nat × CpInfo)) (last : Nat) : Array CpInfo := ⟨poolList es last⟩
def fileOf (pool : Array CpInfo) (this : Nat) (attrs : Array Attribute := #[]) (ms : Array MethodInfo := #[]) (fl : Nat := 33) (sup : Nat := 0) (ifs : Array Nat := #[]) (fds : Array FieldInfo := #[]) : ClassFile where
  minorVersion := 0
  majorVersion := 65
  constantPool := pool
  accessFlags := fl
  thisClass := this
  superClass := sup
  interfaces := ifs
  fields := fds
  methods := ms
  attributes := attrs
def plain (name : String) (sup : Option ClassId) : Class where
  name := name
  kind := .ordinary
  loader := none
  accessFlags := 33
  super := sup
  interfaces := #[]
  cf := none
  fields := #[]
  methods := #[]
  instanceTypes := #[]
  staticTypes := #[]
  resolved := #[]
  callSites := []
  init := .initialized
  statics := none
  mirror := none

def pool0 : Array CpInfo := pool [(5, u "<init>"), (0, u "()V"), (1, .class_ 10), (1, u "java/lang/Object")] 113

def k0c0 : Code := { maxStack := 0, maxLocals := 1, code := object_method_1_code, exceptionTable := #[], attributes := #[] }
def k0m0 : Method := { name := "<init>", desc := "()V", sig := { parameters := [], returnType := none }, accessFlags := 1, code := some k0c0 }
/-- java/lang/Object -/
def k0 : Class := { plain "java/lang/Object" none with
  accessFlags := 33
  interfaces := #[]
  cf := some (fileOf pool0 8 #[] #[{ accessFlags := 1, nameIndex := 5, descriptorIndex := 6, attributes := #[] }] 33 0 #[] #[])
  fields := #[]
  methods := #[k0m0]
  instanceTypes := #[]
  staticTypes := #[]
  resolved := Array.replicate 124 none
  statics := none }

def pool1 : Array CpInfo := pool [(2, .class_ 4), (1, u "java/lang/Object"), (0, u "<init>"), (0, u "()V"), (0, .class_ 8), (0, u "com/example/feldsher/feldsher/crypto/ElementSpans$Span"), (0, .methodref 10 11), (0, .class_ 12), (0, .nameAndType 13 14), (0, u "java/lang/Math"), (0, u "min"), (0, u "(II)I"), (0, .methodref 7 16), (0, .nameAndType 5 17), (0, u "(IIII)V"), (0, .methodref 7 19), (0, .nameAndType 20 21), (0, u "isEmptyElementTag"), (0, u "()Z"), (0, .methodref 10 23), (0, .nameAndType 24 14), (0, u "max"), (2, .integer 2147483647), (0, .integer 2147483646), (0, .long 2147483647), (1, .long 4294967295), (1, .class_ 34), (0, u "com/example/feldsher/feldsher/crypto/SpanIsEmptyElementTagPinLaw"), (2, u "law"), (0, u "(IIIII)Z")] 7

def k1m0 : Method := { name := "<init>", desc := "()V", sig := { parameters := [], returnType := none }, accessFlags := 1, code := none }
def k1c1 : Code := { maxStack := 6, maxLocals := 11, code := code, exceptionTable := #[], attributes := #[] }
def k1m1 : Method := { name := "law", desc := "(IIIII)Z", sig := { parameters := [.int, .int, .int, .int, .int], returnType := some .boolean }, accessFlags := 9, code := some k1c1 }
/-- com/example/feldsher/feldsher/crypto/SpanIsEmptyElementTagPinLaw -/
def k1 : Class := { plain "com/example/feldsher/feldsher/crypto/SpanIsEmptyElementTagPinLaw" (some 0) with
  accessFlags := 49
  interfaces := #[]
  cf := some (fileOf pool1 33 #[] #[{ accessFlags := 1, nameIndex := 5, descriptorIndex := 6, attributes := #[] }, { accessFlags := 9, nameIndex := 37, descriptorIndex := 38, attributes := #[] }] 49 2 #[] #[])
  fields := #[]
  methods := #[k1m0, k1m1]
  instanceTypes := #[]
  staticTypes := #[]
  resolved := Array.replicate 46 none
  statics := none }

def pool2 : Array CpInfo := pool [(1, .class_ 2), (0, u "java/lang/Math"), (1, .class_ 6), (1, u "java/lang/Object"), (0, u "<init>"), (0, u "()V"), (89, .class_ 100), (1, u "java/lang/Math$RandomNumberGeneratorHolder"), (71, u "negativeZeroFloatBits"), (0, u "J"), (2, u "negativeZeroDoubleBits"), (21, u "max"), (2, u "min"), (43, u "$assertionsDisabled"), (0, u "Z"), (88, u "(II)I"), (2, u "twoToTheDoubleScaleDown"), (0, u "D"), (4, u "twoToTheDoubleScaleUp"), (9, u "E"), (3, u "PI"), (2, u "TAU"), (2, u "DEGREES_TO_RADIANS"), (0, u "RADIANS_TO_DEGREES")] 94

def k2m0 : Method := { name := "<init>", desc := "()V", sig := { parameters := [], returnType := none }, accessFlags := 2, code := none }
def k2c1 : Code := { maxStack := 2, maxLocals := 2, code := jdk_29_method_65_code, exceptionTable := #[], attributes := #[] }
def k2m1 : Method := { name := "max", desc := "(II)I", sig := { parameters := [.int, .int], returnType := some .int }, accessFlags := 9, code := some k2c1 }
def k2c2 : Code := { maxStack := 2, maxLocals := 2, code := jdk_29_method_69_code, exceptionTable := #[], attributes := #[] }
def k2m2 : Method := { name := "min", desc := "(II)I", sig := { parameters := [.int, .int], returnType := some .int }, accessFlags := 9, code := some k2c2 }
/-- java/lang/Math -/
def k2 : Class := { plain "java/lang/Math" (some 0) with
  accessFlags := 49
  interfaces := #[]
  cf := some (fileOf pool2 1 #[.nestMembers #[98]] #[{ accessFlags := 2, nameIndex := 7, descriptorIndex := 8, attributes := #[] }, { accessFlags := 9, nameIndex := 198, descriptorIndex := 335, attributes := #[] }, { accessFlags := 9, nameIndex := 201, descriptorIndex := 335, attributes := #[] }] 49 4 #[] #[{ accessFlags := 25, nameIndex := 354, descriptorIndex := 339, attributes := #[] }, { accessFlags := 25, nameIndex := 358, descriptorIndex := 339, attributes := #[] }, { accessFlags := 25, nameIndex := 361, descriptorIndex := 339, attributes := #[] }, { accessFlags := 26, nameIndex := 364, descriptorIndex := 339, attributes := #[] }, { accessFlags := 26, nameIndex := 365, descriptorIndex := 339, attributes := #[] }, { accessFlags := 26, nameIndex := 172, descriptorIndex := 173, attributes := #[] }, { accessFlags := 26, nameIndex := 176, descriptorIndex := 173, attributes := #[] }, { accessFlags := 8, nameIndex := 344, descriptorIndex := 339, attributes := #[] }, { accessFlags := 8, nameIndex := 338, descriptorIndex := 339, attributes := #[] }, { accessFlags := 4120, nameIndex := 245, descriptorIndex := 246, attributes := #[] }])
  fields := #[{ name := "E", type := .double, accessFlags := 25, slot := 0, constantValue := 0 }, { name := "PI", type := .double, accessFlags := 25, slot := 1, constantValue := 0 }, { name := "TAU", type := .double, accessFlags := 25, slot := 2, constantValue := 0 }, { name := "DEGREES_TO_RADIANS", type := .double, accessFlags := 26, slot := 3, constantValue := 0 }, { name := "RADIANS_TO_DEGREES", type := .double, accessFlags := 26, slot := 4, constantValue := 0 }, { name := "negativeZeroFloatBits", type := .long, accessFlags := 26, slot := 5, constantValue := 0 }, { name := "negativeZeroDoubleBits", type := .long, accessFlags := 26, slot := 6, constantValue := 0 }, { name := "twoToTheDoubleScaleUp", type := .double, accessFlags := 8, slot := 7, constantValue := 0 }, { name := "twoToTheDoubleScaleDown", type := .double, accessFlags := 8, slot := 8, constantValue := 0 }, { name := "$assertionsDisabled", type := .boolean, accessFlags := 4120, slot := 9, constantValue := 0 }]
  methods := #[k2m0, k2m1, k2m2]
  instanceTypes := #[]
  staticTypes := #[.double, .double, .double, .double, .double, .long, .long, .double, .double, .boolean]
  resolved := Array.replicate 460 none
  statics := none }

def pool3 : Array CpInfo := pool [(1, .methodref 2 3), (0, .class_ 4), (0, .nameAndType 5 6), (0, u "java/lang/Object"), (0, u "<init>"), (0, u "()V"), (0, .class_ 8), (0, u "java/lang/Record")] 13

def k3c0 : Code := { maxStack := 1, maxLocals := 1, code := jdk_30_method_1_code, exceptionTable := #[], attributes := #[] }
def k3m0 : Method := { name := "<init>", desc := "()V", sig := { parameters := [], returnType := none }, accessFlags := 4, code := some k3c0 }
/-- java/lang/Record -/
def k3 : Class := { plain "java/lang/Record" (some 0) with
  accessFlags := 1057
  interfaces := #[]
  cf := some (fileOf pool3 7 #[] #[{ accessFlags := 4, nameIndex := 5, descriptorIndex := 6, attributes := #[] }] 1057 2 #[] #[])
  fields := #[]
  methods := #[k3m0]
  instanceTypes := #[]
  staticTypes := #[]
  resolved := Array.replicate 22 none
  statics := none }

def pool4 : Array CpInfo := pool [(1, .methodref 2 3), (0, .class_ 4), (0, .nameAndType 5 6), (0, u "java/lang/Record"), (0, u "<init>"), (0, u "()V"), (0, .fieldref 8 9), (0, .class_ 10), (0, .nameAndType 11 12), (0, u "com/example/feldsher/feldsher/crypto/ElementSpans$Span"), (0, u "start"), (0, u "I"), (0, .fieldref 8 14), (0, .nameAndType 15 12), (0, u "contentStart"), (0, .fieldref 8 17), (0, .nameAndType 18 12), (0, u "contentEnd"), (0, .fieldref 8 20), (0, .nameAndType 21 12), (0, u "end"), (12, u "(IIII)V"), (3, u "isEmptyElementTag"), (0, u "()Z"), (7, .class_ 48), (0, u "com/example/feldsher/feldsher/crypto/ElementSpans")] 22

def k4c0 : Code := { maxStack := 2, maxLocals := 5, code := prog_16_method_1_code, exceptionTable := #[], attributes := #[] }
def k4m0 : Method := { name := "<init>", desc := "(IIII)V", sig := { parameters := [.int, .int, .int, .int], returnType := none }, accessFlags := 0, code := some k4c0 }
def k4c1 : Code := { maxStack := 2, maxLocals := 1, code := prog_16_method_2_code, exceptionTable := #[], attributes := #[] }
def k4m1 : Method := { name := "isEmptyElementTag", desc := "()Z", sig := { parameters := [], returnType := some .boolean }, accessFlags := 0, code := some k4c1 }
/-- com/example/feldsher/feldsher/crypto/ElementSpans$Span -/
def k4 : Class := { plain "com/example/feldsher/feldsher/crypto/ElementSpans$Span" (some 3) with
  accessFlags := 48
  interfaces := #[]
  cf := some (fileOf pool4 8 #[.nestHost 47] #[{ accessFlags := 0, nameIndex := 5, descriptorIndex := 34, attributes := #[] }, { accessFlags := 0, nameIndex := 38, descriptorIndex := 39, attributes := #[] }] 48 2 #[] #[{ accessFlags := 18, nameIndex := 11, descriptorIndex := 12, attributes := #[] }, { accessFlags := 18, nameIndex := 15, descriptorIndex := 12, attributes := #[] }, { accessFlags := 18, nameIndex := 18, descriptorIndex := 12, attributes := #[] }, { accessFlags := 18, nameIndex := 21, descriptorIndex := 12, attributes := #[] }])
  fields := #[{ name := "start", type := .int, accessFlags := 18, slot := 0, constantValue := 0 }, { name := "contentStart", type := .int, accessFlags := 18, slot := 1, constantValue := 0 }, { name := "contentEnd", type := .int, accessFlags := 18, slot := 2, constantValue := 0 }, { name := "end", type := .int, accessFlags := 18, slot := 3, constantValue := 0 }]
  methods := #[k4m0, k4m1]
  instanceTypes := #[.int, .int, .int, .int]
  staticTypes := #[]
  resolved := Array.replicate 71 none
  statics := none }

def pool5 : Array CpInfo := pool [(1, u "java/lang/Cloneable"), (0, .class_ 1), (0, u "java/lang/Object"), (0, .class_ 3)] 3

/-- java/lang/Cloneable -/
def k5 : Class := { plain "java/lang/Cloneable" (some 0) with
  accessFlags := 1537
  interfaces := #[]
  cf := some (fileOf pool5 2 #[] #[] 1537 4 #[] #[])
  fields := #[]
  methods := #[]
  instanceTypes := #[]
  staticTypes := #[]
  resolved := Array.replicate 8 none
  statics := none }

def pool6 : Array CpInfo := pool [(1, u "java/io/Serializable"), (0, .class_ 1), (0, u "java/lang/Object"), (0, .class_ 3)] 3

/-- java/io/Serializable -/
def k6 : Class := { plain "java/io/Serializable" (some 0) with
  accessFlags := 1537
  interfaces := #[]
  cf := some (fileOf pool6 2 #[] #[] 1537 4 #[] #[])
  fields := #[]
  methods := #[]
  instanceTypes := #[]
  staticTypes := #[]
  resolved := Array.replicate 8 none
  statics := none }

/-- the primitive byte -/
def k7 : Class := { plain "byte" none with kind := .primitive 'B', accessFlags := 0x411 }
/-- [B -/
def k8 : Class := { plain "[B" (some 0) with kind := .array 7 .byte, interfaces := #[5, 6], accessFlags := 1041 }

/-- the primitive int -/
def k9 : Class := { plain "int" none with kind := .primitive 'I', accessFlags := 0x411 }
/-- [I -/
def k10 : Class := { plain "[I" (some 0) with kind := .array 9 .int, interfaces := #[5, 6], accessFlags := 1041 }

def heap : Heap := #[]
def classes : Array Class := #[k0, k1, k2, k3, k4, k5, k6, k7, k8, k9, k10]
def interned : List (Array UInt16 × Addr) := []
def slotsUsed : Nat := 0
def theMethod : MethodId := ⟨1, 1⟩
def args0 : Array Value := #[.int 5, .int 3, .int 0, .int 0, .int 0]
def aboutOver (below : List Frame) : State where
  vm := { classes := classes, interned := interned.toArray }
  heap := heap
  slotsUsed := slotsUsed
  threads := #[{ frames := .invoking theMethod args0 :: below }]
def below0 : List Frame := [.native { method := ⟨0, 0⟩, args := #[] }]
def about1 : State := aboutOver below0
def p0 : Program := .bare "" "" ""
def e0 : Env := launch0.env 0 0 0
theorem w_frames : about1.frames = Frame.invoking theMethod args0 :: below0 := rfl
set_option maxRecDepth 65536 in
theorem w_args : argsFit about1.vm theMethod args0 = true := by decide +kernel
set_option maxRecDepth 65536 in
theorem w_heap : heapFits about1 = true := by decide +kernel
set_option maxRecDepth 65536 in
theorem w_runnable : about1.curStatus? = some .runnable := by decide +kernel
set_option maxRecDepth 65536 in
theorem w_alone : about1.alone = true := by decide +kernel
set_option maxRecDepth 65536 in
theorem w_named : about1.methodNamed? x = some theMethod := by decide +kernel
set_option maxRecDepth 65536 in
theorem w_hears : about1.hears theMethod below0 = true := by decide +kernel
set_option maxRecDepth 65536 in
theorem w_ripe : about1.ripe theMethod args0 below0 = true := by decide +kernel
theorem w_running : about1.status = .running := rfl
set_option maxRecDepth 65536 in
theorem w_room : about1.hasRoom e0.platform room_1 = true :=
  launch0.hasRoom_least _ room_1 (by decide +kernel) (by decide +kernel) (by decide +kernel) (by decide +kernel) (by decide +kernel) (by decide +kernel)
theorem allAtoms_all (ts : List Jvm.Cond) (a : Array Jvm.Value) (st : Jvm.State) : (allAtoms ts).before a st = ts.all (fun c => c.before a st) := by
  induction ts with
  | nil => rfl
  | cons c t ih =>
    show (Jvm.Cond.and c (allAtoms t)).before a st = _
    rw [Jvm.Cond.before_and, ih, List.all_cons]
def words1 : List Jvm.Cond := Jvm.Cond.code x code maxLocals ret :: tables_1
/-- a 'code' word, met by the world's own term for the bytes: nothing is compared byte by byte -/
theorem code_word {y : MethodName} {bytes : ByteArray} {mx : Nat} {rt : Option FieldType} {a : Array Value} {s : State} {m : MethodId} {meth : Method} {c : Code} (h1 : s.methodNamed? y = some m) (h2 : s.vm.method? m = some meth) (h3 : meth.code = some c) (h4 : c.code = bytes)
    (h5 : (c.maxLocals == mx && c.exceptionTable.isEmpty && decide (c.maxStack ≤ mostOperands) && decide (meth.sig.returnType = rt) && !meth.locks && decide (parseMethodDescriptor y.desc = some meth.sig)) = true) : (Jvm.Cond.code y bytes mx rt).before a s = true := by
  simp only [Bool.and_eq_true, beq_iff_eq, Bool.not_eq_true', decide_eq_true_eq] at h5
  obtain ⟨⟨⟨⟨⟨g1, g2⟩, g3⟩, g4⟩, g5⟩, g6⟩ := h5
  simp [Cond.before, Cond.holds, Cond.value, h1, h2, h3, h4, g1, g2, g3, g4, g5, g6]
def isCode : Jvm.Cond → Bool
  | .code _ _ _ _ => true
  | _ => false
theorem all_split {L : List Jvm.Cond} {P : Jvm.Cond → Bool} (h1 : L.all (fun c => isCode c || P c) = true) (h2 : ∀ c ∈ L.filter isCode, P c = true) : L.all P = true := by
  refine List.all_eq_true.mpr fun c hc => ?_
  have h := List.all_eq_true.mp h1 c hc
  rcases Bool.eq_false_or_eq_true (isCode c) with hi | hi
  · exact h2 c (List.mem_filter.mpr ⟨hc, hi⟩)
  · simpa [hi] using h
set_option maxRecDepth 65536 in
theorem w_c0 : (Jvm.Cond.code x code maxLocals ret).before args0 about1 = true := code_word (m := ⟨1, 1⟩) (meth := k1m1) (c := k1c1) (by decide +kernel) rfl rfl rfl (by decide +kernel)
set_option maxRecDepth 65536 in
theorem w_c1 : (Jvm.Cond.code ({ cls := "java/lang/Math", name := "min", desc := "(II)I" } : Jvm.MethodName) jdk_29_method_69_code (2 : Nat) (Option.some Jvm.ClassFile.FieldType.int)).before args0 about1 = true := code_word (m := ⟨2, 2⟩) (meth := k2m2) (c := k2c2) (by decide +kernel) rfl rfl rfl (by decide +kernel)
set_option maxRecDepth 65536 in
theorem w_c2 : (Jvm.Cond.code ({ cls := "java/lang/Math", name := "max", desc := "(II)I" } : Jvm.MethodName) jdk_29_method_65_code (2 : Nat) (Option.some Jvm.ClassFile.FieldType.int)).before args0 about1 = true := code_word (m := ⟨2, 1⟩) (meth := k2m1) (c := k2c1) (by decide +kernel) rfl rfl rfl (by decide +kernel)
set_option maxRecDepth 65536 in
theorem w_c3 : (Jvm.Cond.code ({ cls := "com/example/feldsher/feldsher/crypto/ElementSpans$Span", name := "<init>", desc := "(IIII)V" } : Jvm.MethodName) prog_16_method_1_code (5 : Nat) (Option.none : Option Jvm.ClassFile.FieldType)).before args0 about1 = true := code_word (m := ⟨4, 0⟩) (meth := k4m0) (c := k4c0) (by decide +kernel) rfl rfl rfl (by decide +kernel)
set_option maxRecDepth 65536 in
theorem w_c4 : (Jvm.Cond.code ({ cls := "java/lang/Record", name := "<init>", desc := "()V" } : Jvm.MethodName) jdk_30_method_1_code (1 : Nat) (Option.none : Option Jvm.ClassFile.FieldType)).before args0 about1 = true := code_word (m := ⟨3, 0⟩) (meth := k3m0) (c := k3c0) (by decide +kernel) rfl rfl rfl (by decide +kernel)
set_option maxRecDepth 65536 in
theorem w_c5 : (Jvm.Cond.code ({ cls := "java/lang/Object", name := "<init>", desc := "()V" } : Jvm.MethodName) object_method_1_code (1 : Nat) (Option.none : Option Jvm.ClassFile.FieldType)).before args0 about1 = true := code_word (m := ⟨0, 0⟩) (meth := k0m0) (c := k0c0) (by decide +kernel) rfl rfl rfl (by decide +kernel)
set_option maxRecDepth 65536 in
theorem w_c6 : (Jvm.Cond.code ({ cls := "com/example/feldsher/feldsher/crypto/ElementSpans$Span", name := "isEmptyElementTag", desc := "()Z" } : Jvm.MethodName) prog_16_method_2_code (1 : Nat) (Option.some Jvm.ClassFile.FieldType.boolean)).before args0 about1 = true := code_word (m := ⟨4, 1⟩) (meth := k4m1) (c := k4c1) (by decide +kernel) rfl rfl rfl (by decide +kernel)
def codes1 : List Jvm.Cond := [Jvm.Cond.code x code maxLocals ret, Jvm.Cond.code ({ cls := "java/lang/Math", name := "min", desc := "(II)I" } : Jvm.MethodName) jdk_29_method_69_code (2 : Nat) (Option.some Jvm.ClassFile.FieldType.int), Jvm.Cond.code ({ cls := "java/lang/Math", name := "max", desc := "(II)I" } : Jvm.MethodName) jdk_29_method_65_code (2 : Nat) (Option.some Jvm.ClassFile.FieldType.int), Jvm.Cond.code ({ cls := "com/example/feldsher/feldsher/crypto/ElementSpans$Span", name := "<init>", desc := "(IIII)V" } : Jvm.MethodName) prog_16_method_1_code (5 : Nat) (Option.none : Option Jvm.ClassFile.FieldType), Jvm.Cond.code ({ cls := "java/lang/Record", name := "<init>", desc := "()V" } : Jvm.MethodName) jdk_30_method_1_code (1 : Nat) (Option.none : Option Jvm.ClassFile.FieldType), Jvm.Cond.code ({ cls := "java/lang/Object", name := "<init>", desc := "()V" } : Jvm.MethodName) object_method_1_code (1 : Nat) (Option.none : Option Jvm.ClassFile.FieldType), Jvm.Cond.code ({ cls := "com/example/feldsher/feldsher/crypto/ElementSpans$Span", name := "isEmptyElementTag", desc := "()Z" } : Jvm.MethodName) prog_16_method_2_code (1 : Nat) (Option.some Jvm.ClassFile.FieldType.boolean)]
set_option maxRecDepth 65536 in
theorem codes_eq : words1.filter isCode = codes1 := rfl
theorem w_codes : ∀ c ∈ words1.filter isCode, c.before args0 about1 = true := by
  rw [codes_eq]
  intro c hc
  simp only [codes1, List.mem_cons, List.not_mem_nil, or_false] at hc
  rcases hc with rfl | rfl | rfl | rfl | rfl | rfl | rfl
  · exact w_c0
  · exact w_c1
  · exact w_c2
  · exact w_c3
  · exact w_c4
  · exact w_c5
  · exact w_c6
set_option maxRecDepth 65536 in
theorem w_t1 : (words1.take 24).all (fun c => isCode c || c.before args0 about1) = true := by decide +kernel
set_option maxRecDepth 65536 in
theorem w_t2 : (words1.drop 24).all (fun c => isCode c || c.before args0 about1) = true := by decide +kernel
theorem w_tables : (allAtoms (Jvm.Cond.code x code maxLocals ret :: tables_1)).before args0 about1 = true := by
  rw [allAtoms_all]
  show words1.all (fun c => c.before args0 about1) = true
  refine all_split ?_ w_codes
  rw [← List.take_append_drop 24 words1, List.all_append, w_t1, w_t2]
  rfl
set_option maxRecDepth 65536 in
theorem w_case : (Jvm.Cond.and given_1 narrow_1).before args0 about1 = true := by decide +kernel
theorem w_applies : (headSpec (Jvm.Cond.code x code maxLocals ret :: tables_1) room_1).applies x e0.platform about1 = true :=
  (Spec.applies_iff w_frames).mpr ⟨w_running, w_runnable, w_alone, w_named, w_hears, w_ripe, w_room, w_tables⟩
theorem atStart : AtStart classFile x code maxLocals ret World_1 tables_1 room_1 Calls_1 rest_1 Pre_1 launch0 p0 e0 about1 theMethod args0 below0 :=
  ⟨lists_1, trivial, launch0.admits_env _ _ _, launch0.least_env, fairChoices_fair.cas, fairChoices_fair.clock, w_frames, w_args, w_heap, w_applies, trivial, trivial, w_case⟩
end start1
theorem witness_1 : WitnessClaimed_1 := ⟨start1.p0, start1.e0, start1.about1, start1.theMethod, start1.args0, start1.below0, start1.atStart⟩
end Jvm.Pilot.@@N@@
