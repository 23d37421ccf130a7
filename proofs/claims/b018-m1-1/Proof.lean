import JvmDerived
import JvmDerived.Pilot.@@N@@Statement
import JvmDerived.Pilot.@@N@@Code
set_option linter.unusedVariables false
set_option linter.unusedSimpArgs false
namespace Jvm.RoadKit
open Sem ClassFile Op Lib Jvm.Stand Jvm.Free Jvm.LawKit
section New
variable {p : Program} {l : Launch} {e : Env} {R : Room} {s : State} {m : MethodId} {args : Array Value} {below : List Frame} {meth : Method} {c : Code} {T : State} {locs : List Loc} {cells slots : Nat}
theorem retI (X : Stand p l e R s m args below meth c T locs cells slots) (hx : p.tables.exec = Jvm.exec) {pc : Nat} {Ls : Array Slot} {z : Int32} {rest : List Value} (hret : meth.sig.returnType = some .int) (hd : decode c.code pc = .ok (.ireturn, 1)) {fs : List Frame}
    (hl : ∀ (f : JFrame) (acts : List Action), f.method = m → f.locked = none → f.entered = [] → (doReturn e (T.setTop f) acts (some (.int z))).1 = T.setFrames fs) : Steps p.tables e below (T.setTop (mkF m pc Ls (.int z :: rest))) (T.setFrames fs) := by
  have hm' : T.vm.method? m = some meth := X.method'
  have hn : narrow .int (.int z) = .int z := rfl
  show Steps p.tables e below (T.setTop { method := m, pc := pc, locals := Ls, stack := _ :: rest, locked := none }) _
  jvm_step X.here [X.here.top, hx, hd, hm', hret, hn]
  first | (intro acts; rw [hl _ acts rfl rfl rfl]) | rw [hl _ _ rfl rfl rfl]
  exact Steps.refl _
end New
end Jvm.RoadKit
namespace Jvm.Pilot.@@N@@
open Jvm Jvm.ClassFile Sem Op Lib Jvm.Free Jvm.Stand Jvm.LawKit Jvm.RoadKit Bundle Jvm.Pilot.@@N@@.Jvm.D
def Rch (tb : Tables) (e : Env) (below : List Frame) (P : State → Prop) (st : State) : Prop := ∃ t, Steps tb e below st t ∧ P t
theorem Rch.go {tb : Tables} {e : Env} {below : List Frame} {P : State → Prop} {st st' : State} (h : ∀ t, Steps tb e below st' t → Steps tb e below st t) (k : Rch tb e below P st') : Rch tb e below P st := by
  obtain ⟨t, h1, h2⟩ := k
  exact ⟨t, h t h1, h2⟩
theorem Rch.mk {tb : Tables} {e : Env} {below : List Frame} {P : State → Prop} {st t : State} (h : Steps tb e below st t) (k : P t) : Rch tb e below P st := ⟨t, h, k⟩
theorem ow0 {a0 : Array Value} {Z : State} (hw : ∀ d ∈ tables_1, d.before a0 Z = true) : (Jvm.Cond.constantLong "com/example/keepwire/keepwire/LengthAtEndPinLaw" (9 : Nat) (9223372036854775807 : Int64)).before a0 Z = true := hw _ (List.mem_of_getElem? (i := 0) rfl)
theorem ow1 {a0 : Array Value} {Z : State} (hw : ∀ d ∈ tables_1, d.before a0 Z = true) : (Jvm.Cond.classLink "com/example/keepwire/keepwire/LengthAtEndPinLaw" (11 : Nat) "com/example/keepwire/keepwire/Framing$Length").before a0 Z = true := hw _ (List.mem_of_getElem? (i := 1) rfl)
theorem ow2 {a0 : Array Value} {Z : State} (hw : ∀ d ∈ tables_1, d.before a0 Z = true) : (Jvm.Cond.instantiable "com/example/keepwire/keepwire/Framing$Length" (3 : Nat)).before a0 Z = true := hw _ (List.mem_of_getElem? (i := 2) rfl)
theorem ow3 {a0 : Array Value} {Z : State} (hw : ∀ d ∈ tables_1, d.before a0 Z = true) : (Jvm.Cond.initialized "com/example/keepwire/keepwire/Framing$Length").before a0 Z = true := hw _ (List.mem_of_getElem? (i := 3) rfl)
theorem ow4 {a0 : Array Value} {Z : State} (hw : ∀ d ∈ tables_1, d.before a0 Z = true) : (Jvm.Cond.methodLink "com/example/keepwire/keepwire/LengthAtEndPinLaw" (13 : Nat) ({ cls := "com/example/keepwire/keepwire/Framing$Length", name := "<init>", desc := "(JZ)V" } : Jvm.MethodName)).before a0 Z = true := hw _ (List.mem_of_getElem? (i := 4) rfl)
theorem ow5 {a0 : Array Value} {Z : State} (hw : ∀ d ∈ tables_1, d.before a0 Z = true) : (Jvm.Cond.instanceMethod ({ cls := "com/example/keepwire/keepwire/Framing$Length", name := "<init>", desc := "(JZ)V" } : Jvm.MethodName)).before a0 Z = true := hw _ (List.mem_of_getElem? (i := 5) rfl)
theorem ow6 {a0 : Array Value} {Z : State} (hw : ∀ d ∈ tables_1, d.before a0 Z = true) : (Jvm.Cond.code ({ cls := "com/example/keepwire/keepwire/Framing$Length", name := "<init>", desc := "(JZ)V" } : Jvm.MethodName) prog_15_method_1_code (4 : Nat) (Option.none : Option Jvm.ClassFile.FieldType)).before a0 Z = true := hw _ (List.mem_of_getElem? (i := 6) rfl)
theorem ow7 {a0 : Array Value} {Z : State} (hw : ∀ d ∈ tables_1, d.before a0 Z = true) : (Jvm.Cond.methodLink "com/example/keepwire/keepwire/Framing$Length" (1 : Nat) ({ cls := "java/lang/Object", name := "<init>", desc := "()V" } : Jvm.MethodName)).before a0 Z = true := hw _ (List.mem_of_getElem? (i := 7) rfl)
theorem ow8 {a0 : Array Value} {Z : State} (hw : ∀ d ∈ tables_1, d.before a0 Z = true) : (Jvm.Cond.instanceMethod ({ cls := "java/lang/Object", name := "<init>", desc := "()V" } : Jvm.MethodName)).before a0 Z = true := hw _ (List.mem_of_getElem? (i := 8) rfl)
theorem ow9 {a0 : Array Value} {Z : State} (hw : ∀ d ∈ tables_1, d.before a0 Z = true) : (Jvm.Cond.code ({ cls := "java/lang/Object", name := "<init>", desc := "()V" } : Jvm.MethodName) object_method_1_code (1 : Nat) (Option.none : Option Jvm.ClassFile.FieldType)).before a0 Z = true := hw _ (List.mem_of_getElem? (i := 9) rfl)
theorem ow10 {a0 : Array Value} {Z : State} (hw : ∀ d ∈ tables_1, d.before a0 Z = true) : (Jvm.Cond.fieldLink "com/example/keepwire/keepwire/Framing$Length" (7 : Nat) "com/example/keepwire/keepwire/Framing$Length" "length" "J").before a0 Z = true := hw _ (List.mem_of_getElem? (i := 10) rfl)
theorem ow11 {a0 : Array Value} {Z : State} (hw : ∀ d ∈ tables_1, d.before a0 Z = true) : (Jvm.Cond.laysFinal "com/example/keepwire/keepwire/Framing$Length" "com/example/keepwire/keepwire/Framing$Length" "length" "J").before a0 Z = true := hw _ (List.mem_of_getElem? (i := 11) rfl)
theorem ow12 {a0 : Array Value} {Z : State} (hw : ∀ d ∈ tables_1, d.before a0 Z = true) : (Jvm.Cond.fieldLink "com/example/keepwire/keepwire/Framing$Length" (13 : Nat) "com/example/keepwire/keepwire/Framing$Length" "closesConnection" "Z").before a0 Z = true := hw _ (List.mem_of_getElem? (i := 12) rfl)
theorem ow13 {a0 : Array Value} {Z : State} (hw : ∀ d ∈ tables_1, d.before a0 Z = true) : (Jvm.Cond.laysFinal "com/example/keepwire/keepwire/Framing$Length" "com/example/keepwire/keepwire/Framing$Length" "closesConnection" "Z").before a0 Z = true := hw _ (List.mem_of_getElem? (i := 13) rfl)
theorem ow14 {a0 : Array Value} {Z : State} (hw : ∀ d ∈ tables_1, d.before a0 Z = true) : (Jvm.Cond.fieldLink "com/example/keepwire/keepwire/Framing$Length" (17 : Nat) "com/example/keepwire/keepwire/Framing$Length" "remaining" "J").before a0 Z = true := hw _ (List.mem_of_getElem? (i := 14) rfl)
theorem ow15 {a0 : Array Value} {Z : State} (hw : ∀ d ∈ tables_1, d.before a0 Z = true) : (Jvm.Cond.lays "com/example/keepwire/keepwire/Framing$Length" "com/example/keepwire/keepwire/Framing$Length" "remaining" "J").before a0 Z = true := hw _ (List.mem_of_getElem? (i := 15) rfl)
theorem ow16 {a0 : Array Value} {Z : State} (hw : ∀ d ∈ tables_1, d.before a0 Z = true) : (Jvm.Cond.methodLink "com/example/keepwire/keepwire/LengthAtEndPinLaw" (16 : Nat) ({ cls := "com/example/keepwire/keepwire/Framing$Length", name := "atEnd", desc := "()Z" } : Jvm.MethodName)).before a0 Z = true := hw _ (List.mem_of_getElem? (i := 16) rfl)
theorem ow17 {a0 : Array Value} {Z : State} (hw : ∀ d ∈ tables_1, d.before a0 Z = true) : (Jvm.Cond.declares ({ cls := "com/example/keepwire/keepwire/Framing$Length", name := "atEnd", desc := "()Z" } : Jvm.MethodName)).before a0 Z = true := hw _ (List.mem_of_getElem? (i := 17) rfl)
theorem ow18 {a0 : Array Value} {Z : State} (hw : ∀ d ∈ tables_1, d.before a0 Z = true) : (Jvm.Cond.instanceMethod ({ cls := "com/example/keepwire/keepwire/Framing$Length", name := "atEnd", desc := "()Z" } : Jvm.MethodName)).before a0 Z = true := hw _ (List.mem_of_getElem? (i := 18) rfl)
theorem ow19 {a0 : Array Value} {Z : State} (hw : ∀ d ∈ tables_1, d.before a0 Z = true) : (Jvm.Cond.selects "com/example/keepwire/keepwire/Framing$Length" ({ cls := "com/example/keepwire/keepwire/Framing$Length", name := "atEnd", desc := "()Z" } : Jvm.MethodName) ({ cls := "com/example/keepwire/keepwire/Framing$Length", name := "atEnd", desc := "()Z" } : Jvm.MethodName)).before a0 Z = true := hw _ (List.mem_of_getElem? (i := 19) rfl)
theorem ow20 {a0 : Array Value} {Z : State} (hw : ∀ d ∈ tables_1, d.before a0 Z = true) : (Jvm.Cond.code ({ cls := "com/example/keepwire/keepwire/Framing$Length", name := "atEnd", desc := "()Z" } : Jvm.MethodName) prog_15_method_3_code (1 : Nat) (Option.some Jvm.ClassFile.FieldType.boolean)).before a0 Z = true := hw _ (List.mem_of_getElem? (i := 20) rfl)
theorem ow21 {a0 : Array Value} {Z : State} (hw : ∀ d ∈ tables_1, d.before a0 Z = true) : (Jvm.Cond.methodLink "com/example/keepwire/keepwire/LengthAtEndPinLaw" (20 : Nat) ({ cls := "com/example/keepwire/keepwire/Framing$Length", name := "remainingBytes", desc := "()J" } : Jvm.MethodName)).before a0 Z = true := hw _ (List.mem_of_getElem? (i := 21) rfl)
theorem ow22 {a0 : Array Value} {Z : State} (hw : ∀ d ∈ tables_1, d.before a0 Z = true) : (Jvm.Cond.declares ({ cls := "com/example/keepwire/keepwire/Framing$Length", name := "remainingBytes", desc := "()J" } : Jvm.MethodName)).before a0 Z = true := hw _ (List.mem_of_getElem? (i := 22) rfl)
theorem ow23 {a0 : Array Value} {Z : State} (hw : ∀ d ∈ tables_1, d.before a0 Z = true) : (Jvm.Cond.instanceMethod ({ cls := "com/example/keepwire/keepwire/Framing$Length", name := "remainingBytes", desc := "()J" } : Jvm.MethodName)).before a0 Z = true := hw _ (List.mem_of_getElem? (i := 23) rfl)
theorem ow24 {a0 : Array Value} {Z : State} (hw : ∀ d ∈ tables_1, d.before a0 Z = true) : (Jvm.Cond.selects "com/example/keepwire/keepwire/Framing$Length" ({ cls := "com/example/keepwire/keepwire/Framing$Length", name := "remainingBytes", desc := "()J" } : Jvm.MethodName) ({ cls := "com/example/keepwire/keepwire/Framing$Length", name := "remainingBytes", desc := "()J" } : Jvm.MethodName)).before a0 Z = true := hw _ (List.mem_of_getElem? (i := 24) rfl)
theorem ow25 {a0 : Array Value} {Z : State} (hw : ∀ d ∈ tables_1, d.before a0 Z = true) : (Jvm.Cond.code ({ cls := "com/example/keepwire/keepwire/Framing$Length", name := "remainingBytes", desc := "()J" } : Jvm.MethodName) prog_15_method_4_code (1 : Nat) (Option.some Jvm.ClassFile.FieldType.long)).before a0 Z = true := hw _ (List.mem_of_getElem? (i := 25) rfl)
theorem ow26 {a0 : Array Value} {Z : State} (hw : ∀ d ∈ tables_1, d.before a0 Z = true) : (Jvm.Cond.methodLink "com/example/keepwire/keepwire/LengthAtEndPinLaw" (24 : Nat) ({ cls := "com/example/keepwire/keepwire/Framing$Length", name := "closesConnection", desc := "()Z" } : Jvm.MethodName)).before a0 Z = true := hw _ (List.mem_of_getElem? (i := 26) rfl)
theorem ow27 {a0 : Array Value} {Z : State} (hw : ∀ d ∈ tables_1, d.before a0 Z = true) : (Jvm.Cond.declares ({ cls := "com/example/keepwire/keepwire/Framing$Length", name := "closesConnection", desc := "()Z" } : Jvm.MethodName)).before a0 Z = true := hw _ (List.mem_of_getElem? (i := 27) rfl)
theorem ow28 {a0 : Array Value} {Z : State} (hw : ∀ d ∈ tables_1, d.before a0 Z = true) : (Jvm.Cond.instanceMethod ({ cls := "com/example/keepwire/keepwire/Framing$Length", name := "closesConnection", desc := "()Z" } : Jvm.MethodName)).before a0 Z = true := hw _ (List.mem_of_getElem? (i := 28) rfl)
theorem ow29 {a0 : Array Value} {Z : State} (hw : ∀ d ∈ tables_1, d.before a0 Z = true) : (Jvm.Cond.selects "com/example/keepwire/keepwire/Framing$Length" ({ cls := "com/example/keepwire/keepwire/Framing$Length", name := "closesConnection", desc := "()Z" } : Jvm.MethodName) ({ cls := "com/example/keepwire/keepwire/Framing$Length", name := "closesConnection", desc := "()Z" } : Jvm.MethodName)).before a0 Z = true := hw _ (List.mem_of_getElem? (i := 29) rfl)
theorem ow30 {a0 : Array Value} {Z : State} (hw : ∀ d ∈ tables_1, d.before a0 Z = true) : (Jvm.Cond.code ({ cls := "com/example/keepwire/keepwire/Framing$Length", name := "closesConnection", desc := "()Z" } : Jvm.MethodName) prog_15_method_5_code (1 : Nat) (Option.some Jvm.ClassFile.FieldType.boolean)).before a0 Z = true := hw _ (List.mem_of_getElem? (i := 30) rfl)
theorem ef_rm1 (m : MethodId) (a1 : Addr) (q2 : Int64) (p3 : Int32) : entryFrame m #[(.ref a1), (.long q2), (.int p3)] 4 = mkF m 0 #[.val (.ref a1), .val (.long q2), .second, .val (.int p3)] [] := by first | (simp [entryFrame, mkF, argsToLocals, Value.category]; done) | rfl
theorem pn_com_example_keepwire_keepwire_Framing_Length : plainName "com/example/keepwire/keepwire/Framing$Length" = true := by first | (simp [plainName, overriddenIn]; done) | decide +kernel
theorem d1_0 : decode prog_15_method_1_code 0 = .ok (.aload_n 0, 1) := by decide +kernel
theorem d1_1 : decode prog_15_method_1_code 1 = .ok (.invokespecial 1, 3) := by decide +kernel
theorem d1_4 : decode prog_15_method_1_code 4 = .ok (.aload_n 0, 1) := by decide +kernel
theorem d1_5 : decode prog_15_method_1_code 5 = .ok (.lload_n 1, 1) := by decide +kernel
theorem d1_6 : decode prog_15_method_1_code 6 = .ok (.putfield 7, 3) := by decide +kernel
theorem d1_9 : decode prog_15_method_1_code 9 = .ok (.aload_n 0, 1) := by decide +kernel
theorem d1_10 : decode prog_15_method_1_code 10 = .ok (.iload_n 3, 1) := by decide +kernel
theorem d1_11 : decode prog_15_method_1_code 11 = .ok (.putfield 13, 3) := by decide +kernel
theorem d1_14 : decode prog_15_method_1_code 14 = .ok (.aload_n 0, 1) := by decide +kernel
theorem d1_15 : decode prog_15_method_1_code 15 = .ok (.lload_n 1, 1) := by decide +kernel
theorem d1_16 : decode prog_15_method_1_code 16 = .ok (.putfield 17, 3) := by decide +kernel
theorem d1_19 : decode prog_15_method_1_code 19 = .ok (.return_, 1) := by decide +kernel
def Q_rm1 (Z : State) (a1 : Addr) (q2 : Int64) (p3 : Int32) (u1 : Value) (u2 : Value) (u3 : Value) (h0 : Heap) (n0 : Nat) (v : Option Value) (h : Heap) (L : List Loc) : Prop := v = none ∧ Fr n0 L ∧ Keep h0 h [a1] ∧ Exa Z h a1 "com/example/keepwire/keepwire/Framing$Length" ∧ Fld Z h a1 "com/example/keepwire/keepwire/Framing$Length" "length" "J" (.long q2) ∧ Fld Z h a1 "com/example/keepwire/keepwire/Framing$Length" "closesConnection" "Z" (.int (nar .boolean p3)) ∧ Fld Z h a1 "com/example/keepwire/keepwire/Framing$Length" "remaining" "J" (.long q2)
set_option maxRecDepth 65536 in
set_option maxHeartbeats 40000000 in
theorem rm1 (l : Launch) (Z : State) (a0 : Array Value) (hw : ∀ d ∈ tables_1, d.before a0 Z = true) (ws : List Jvm.Cond) (a1 : Addr) (q2 : Int64) (p3 : Int32) (u1 : Value) (u2 : Value) (u3 : Value) (h0 : Heap) (n0 : Nat) (Z0 : n0 ≤ h0.size) (P0 : Exa Z h0 a1 "com/example/keepwire/keepwire/Framing$Length") (P1 : Fld Z h0 a1 "com/example/keepwire/keepwire/Framing$Length" "length" "J" u1) (P2 : Fld Z h0 a1 "com/example/keepwire/keepwire/Framing$Length" "closesConnection" "Z" u2) (P3 : Fld Z h0 a1 "com/example/keepwire/keepwire/Framing$Length" "remaining" "J" u3) (Pg_a1 : n0 ≤ a1) :
    MetFree l (⟨"com/example/keepwire/keepwire/Framing$Length", "<init>", "(JZ)V"⟩ : MethodName) (head1 (Jvm.Cond.code (⟨"com/example/keepwire/keepwire/Framing$Length", "<init>", "(JZ)V"⟩ : MethodName) prog_15_method_1_code 4 none :: ws) ({ frames := 1, cells := 0, slots := 0, locals := 12 } : Room)) (fun a U => a = #[(.ref a1), (.long q2), (.int p3)] ∧ Z.Warmed39 U.vm ∧ U.heap = h0) (fun _ _ _ _ _ => True) (fun _ U o U' => ∃ v L, o = .returned v ∧ Q_rm1 Z a1 q2 p3 u1 u2 u3 h0 n0 v U'.heap L ∧ FrameEnd U o U' L ({ frames := 1, cells := 0, slots := 0, locals := 12 } : Room).cells ({ frames := 1, cells := 0, slots := 0, locals := 12 } : Room).slots) := by
  refine MetFree.of_bodySF (plainFor_of_name pn_com_example_keepwire_keepwire_Framing_Length) hisR ?_
  intro p e s m args below meth c s₁ Bd hml0 hP hK
  obtain ⟨rfl, hZ, hh⟩ := hP
  have hx := Bd.exec
  have hby := Bd.bytes
  have hml : c.maxLocals = 4 := hml0
  have hown : s.vm.findClass "com/example/keepwire/keepwire/Framing$Length" = some m.cls := findClass_of_methodNamed Bd.named
  have hnm := (name_of_methodNamed Bd.named Bd.method).1
  have X0 : Stand p l e ({ frames := 1, cells := 0, slots := 0, locals := 12 } : Room) s m #[(.ref a1), (.long q2), (.int p3)] below meth c s₁ [] 0 0 := Stand.of_body Bd
  have e0 : s₁.heap = h0 := by rw [← hh, Bd.state]; rfl
  have N0 := Fr.nil n0
  suffices hR : ∀ P : State → Prop, (∀ s₂ o v L, s₂.status = .running → Ended s₂ below o → o = .returned v → Q_rm1 Z a1 q2 p3 u1 u2 u3 h0 n0 v s₂.heap L → FrameEnd s o s₂ L ({ frames := 1, cells := 0, slots := 0, locals := 12 } : Room).cells ({ frames := 1, cells := 0, slots := 0, locals := 12 } : Room).slots → P s₂) → Rch p.tables e below P (s₁.setTop (mkF m 0 #[.val (.ref a1), .val (.long q2), .second, .val (.int p3)] [])) by
    obtain ⟨s₂, h1, o, h2⟩ := hR (fun s₂ => ∃ o, s₂.status = .running ∧ Ended s₂ below o ∧ ∃ v L, o = .returned v ∧ Q_rm1 Z a1 q2 p3 u1 u2 u3 h0 n0 v s₂.heap L ∧ FrameEnd s o s₂ L ({ frames := 1, cells := 0, slots := 0, locals := 12 } : Room).cells ({ frames := 1, cells := 0, slots := 0, locals := 12 } : Room).slots) (fun s₂ o v L q1 q2 q3 q4 q5 => ⟨o, q1, q2, v, L, q3, q4, q5⟩)
    exact ⟨s₂, o, castTop (ef_rm1 m a1 q2 p3) h1, h2⟩
  intro P hPd
  refine Rch.go (fun t k => XS.aloadN X0.here hx rfl (hb hby d1_0) rfl rfl k) ?_
  show Rch _ _ _ _ (s₁.setTop (mkF m 1 #[.val (.ref a1), .val (.long q2), .second, .val (.int p3)] [(.ref a1)]))
  obtain ⟨T1, X1, e1, st1⟩ := initO X0 hx hZ hown (ow7 hw) (ow8 hw) (ow9 hw) e0 (g := (mkF m 1 #[.val (.ref a1), .val (.long q2), .second, .val (.int p3)] [(.ref a1)])) rfl (by rw [hml]; rfl) rfl (hb hby d1_1) (by decide) (W := 0) (by show 2 * 0 + _ ≤ _; exact Nat.le_of_eq rfl) (by decide)
  refine Rch.go st1 ?_
  show Rch _ _ _ _ (T1.setTop (mkF m 4 #[.val (.ref a1), .val (.long q2), .second, .val (.int p3)] []))
  refine Rch.go (fun t k => XS.aloadN X1.here hx rfl (hb hby d1_4) rfl rfl k) ?_
  show Rch _ _ _ _ (T1.setTop (mkF m 5 #[.val (.ref a1), .val (.long q2), .second, .val (.int p3)] [(.ref a1)]))
  refine Rch.go (fun t k => XS.lloadN X1.here hx rfl (hb hby d1_5) rfl k) ?_
  show Rch _ _ _ _ (T1.setTop (mkF m 6 #[.val (.ref a1), .val (.long q2), .second, .val (.int p3)] [(.long q2), (.ref a1)]))
  obtain ⟨T2, h2, X2, e2, W2, st2⟩ := putF X1 hx hZ hown (host := "") (Or.inl (ow10 hw)) Via.refl e1 P1 P0 (Or.inr ⟨(ow11 hw), rfl, hnm⟩) (ow2 hw) (ty := .long) (by decide) rfl rfl (g := (mkF m 6 #[.val (.ref a1), .val (.long q2), .second, .val (.int p3)] [(.long q2), (.ref a1)])) rfl rfl (hb hby d1_6)
  refine Rch.go st2 ?_
  have Fw2 := P1.same W2
  have N2 := Fr.snoc X2 N0 Pg_a1
  have K2 : Keep h0 h2 [a1] := Keep.wr (Keep.refl h0 [a1]) W2 (Or.inl (List.mem_of_getElem? (i := 0) rfl))
  show Rch _ _ _ _ (T2.setTop (mkF m 9 #[.val (.ref a1), .val (.long q2), .second, .val (.int p3)] []))
  refine Rch.go (fun t k => XS.aloadN X2.here hx rfl (hb hby d1_9) rfl rfl k) ?_
  show Rch _ _ _ _ (T2.setTop (mkF m 10 #[.val (.ref a1), .val (.long q2), .second, .val (.int p3)] [(.ref a1)]))
  refine Rch.go (fun t k => XS.iloadN X2.here hx rfl (hb hby d1_10) rfl k) ?_
  show Rch _ _ _ _ (T2.setTop (mkF m 11 #[.val (.ref a1), .val (.long q2), .second, .val (.int p3)] [(.int p3), (.ref a1)]))
  have f3 := (P0.wr W2)
  have f4 := (P2.other W2 (Or.inr (slot_ne (Or.inr (ow13 hw)) (Or.inr (ow11 hw)) (by decide) (t := .boolean) (t' := .long) (by decide) (by decide))))
  obtain ⟨T5, h5, X5, e5, W5, st5⟩ := putFN X2 hx hZ hown (ow12 hw) Via.refl e2 f4 f3 (Or.inr ⟨(ow13 hw), rfl, hnm⟩) (ow2 hw) (ty := .boolean) (v' := (.int (nar .boolean p3))) (by decide) rfl (fits_nar_bool _) (g := (mkF m 11 #[.val (.ref a1), .val (.long q2), .second, .val (.int p3)] [(.int p3), (.ref a1)])) rfl rfl (hb hby d1_11)
  refine Rch.go st5 ?_
  have Fw5 := f4.same W5
  have N5 := Fr.snoc X5 N2 Pg_a1
  have K5 : Keep h0 h5 [a1] := Keep.wr K2 W5 (Or.inl (List.mem_of_getElem? (i := 0) rfl))
  show Rch _ _ _ _ (T5.setTop (mkF m 14 #[.val (.ref a1), .val (.long q2), .second, .val (.int p3)] []))
  refine Rch.go (fun t k => XS.aloadN X5.here hx rfl (hb hby d1_14) rfl rfl k) ?_
  show Rch _ _ _ _ (T5.setTop (mkF m 15 #[.val (.ref a1), .val (.long q2), .second, .val (.int p3)] [(.ref a1)]))
  refine Rch.go (fun t k => XS.lloadN X5.here hx rfl (hb hby d1_15) rfl k) ?_
  show Rch _ _ _ _ (T5.setTop (mkF m 16 #[.val (.ref a1), .val (.long q2), .second, .val (.int p3)] [(.long q2), (.ref a1)]))
  have f6 := (f3.wr W5)
  have f7 := ((P3.other W2 (Or.inr (slot_ne (Or.inl (ow15 hw)) (Or.inr (ow11 hw)) (by decide) (t := .long) (t' := .long) (by decide) (by decide)))).other W5 (Or.inr (slot_ne (Or.inl (ow15 hw)) (Or.inr (ow13 hw)) (by decide) (t := .long) (t' := .boolean) (by decide) (by decide))))
  obtain ⟨T8, h8, X8, e8, W8, st8⟩ := putF X5 hx hZ hown (host := "") (Or.inl (ow14 hw)) Via.refl e5 f7 f6 (Or.inl (ow15 hw)) (ow2 hw) (ty := .long) (by decide) rfl rfl (g := (mkF m 16 #[.val (.ref a1), .val (.long q2), .second, .val (.int p3)] [(.long q2), (.ref a1)])) rfl rfl (hb hby d1_16)
  refine Rch.go st8 ?_
  have Fw8 := f7.same W8
  have N8 := Fr.snoc X8 N5 Pg_a1
  have K8 : Keep h0 h8 [a1] := Keep.wr K5 W8 (Or.inl (List.mem_of_getElem? (i := 0) rfl))
  show Rch _ _ _ _ (T8.setTop (mkF m 19 #[.val (.ref a1), .val (.long q2), .second, .val (.int p3)] []))
  obtain ⟨fs, hr, hrun, hended, hW, hsame⟩ := X8.leave (v := none) (fun _ => rfl)
  refine Rch.mk (X8.returnOut hx Bd.returns (hb hby d1_19) hr) (hPd _ _ _ _ hrun hended rfl ?_ ⟨⟨_, rfl⟩, hW, hsame.mono (by decide) (by decide)⟩)
  show Q_rm1 Z a1 q2 p3 u1 u2 u3 h0 n0 _ T8.heap _
  rw [e8]
  have f9 := (f6.wr W8)
  have f10 := ((Fw2.other W5 (Or.inr (slot_ne (Or.inr (ow11 hw)) (Or.inr (ow13 hw)) (by decide) (t := .long) (t' := .boolean) (by decide) (by decide)))).other W8 (Or.inr (slot_ne (Or.inr (ow11 hw)) (Or.inl (ow15 hw)) (by decide) (t := .long) (t' := .long) (by decide) (by decide))))
  have f11 := (Fw5.other W8 (Or.inr (slot_ne (Or.inr (ow13 hw)) (Or.inl (ow15 hw)) (by decide) (t := .boolean) (t' := .long) (by decide) (by decide))))
  exact ⟨rfl, N8, K8, f9, f10, f11, Fw8⟩
def fAtEnd (w2 : Int64) : Int32 := (if (lcmpW w2 (0 : Int64)) = (0 : Int32) then (1 : Int32) else (0 : Int32))
theorem ef_rm3 (m : MethodId) (a1 : Addr) : entryFrame m #[(.ref a1)] 1 = mkF m 0 #[.val (.ref a1)] [] := by first | (simp [entryFrame, mkF, argsToLocals, Value.category]; done) | rfl
theorem d3_0 : decode prog_15_method_3_code 0 = .ok (.aload_n 0, 1) := by decide +kernel
theorem d3_1 : decode prog_15_method_3_code 1 = .ok (.getfield 17, 3) := by decide +kernel
theorem d3_4 : decode prog_15_method_3_code 4 = .ok (.lconst 0, 1) := by decide +kernel
theorem d3_5 : decode prog_15_method_3_code 5 = .ok (.lcmp, 1) := by decide +kernel
theorem d3_6 : decode prog_15_method_3_code 6 = .ok (.ifCond .ne 7, 3) := by decide +kernel
theorem d3_9 : decode prog_15_method_3_code 9 = .ok (.iconst 1, 1) := by decide +kernel
theorem d3_10 : decode prog_15_method_3_code 10 = .ok (.goto 4, 3) := by decide +kernel
theorem d3_14 : decode prog_15_method_3_code 14 = .ok (.ireturn, 1) := by decide +kernel
theorem d3_13 : decode prog_15_method_3_code 13 = .ok (.iconst 0, 1) := by decide +kernel
def Q_rm3 (Z : State) (a1 : Addr) (w2 : Int64) (h0 : Heap) (n0 : Nat) (v : Option Value) (h : Heap) (L : List Loc) : Prop := v = some (.int (fAtEnd w2)) ∧ Fr n0 L ∧ h = h0
set_option maxRecDepth 65536 in
set_option maxHeartbeats 40000000 in
theorem rm3 (l : Launch) (Z : State) (a0 : Array Value) (hw : ∀ d ∈ tables_1, d.before a0 Z = true) (ws : List Jvm.Cond) (a1 : Addr) (w2 : Int64) (h0 : Heap) (n0 : Nat) (Z0 : n0 ≤ h0.size) (P0 : Fld Z h0 a1 "com/example/keepwire/keepwire/Framing$Length" "remaining" "J" (.long w2)) :
    MetFree l (⟨"com/example/keepwire/keepwire/Framing$Length", "atEnd", "()Z"⟩ : MethodName) (head1 (Jvm.Cond.code (⟨"com/example/keepwire/keepwire/Framing$Length", "atEnd", "()Z"⟩ : MethodName) prog_15_method_3_code 1 (some .boolean) :: ws) ({ frames := 0, cells := 0, slots := 0, locals := 0 } : Room)) (fun a U => a = #[(.ref a1)] ∧ Z.Warmed39 U.vm ∧ U.heap = h0) (fun _ _ _ _ _ => True) (fun _ U o U' => ∃ v L, o = .returned v ∧ Q_rm3 Z a1 w2 h0 n0 v U'.heap L ∧ FrameEnd U o U' L ({ frames := 0, cells := 0, slots := 0, locals := 0 } : Room).cells ({ frames := 0, cells := 0, slots := 0, locals := 0 } : Room).slots) := by
  refine MetFree.of_bodySF (plainFor_of_name pn_com_example_keepwire_keepwire_Framing_Length) hisR ?_
  intro p e s m args below meth c s₁ Bd hml0 hP hK
  obtain ⟨rfl, hZ, hh⟩ := hP
  have hx := Bd.exec
  have hby := Bd.bytes
  have hml : c.maxLocals = 1 := hml0
  have hown : s.vm.findClass "com/example/keepwire/keepwire/Framing$Length" = some m.cls := findClass_of_methodNamed Bd.named
  have hnm := (name_of_methodNamed Bd.named Bd.method).1
  have X0 : Stand p l e ({ frames := 0, cells := 0, slots := 0, locals := 0 } : Room) s m #[(.ref a1)] below meth c s₁ [] 0 0 := Stand.of_body Bd
  have e0 : s₁.heap = h0 := by rw [← hh, Bd.state]; rfl
  have N0 := Fr.nil n0
  suffices hR : ∀ P : State → Prop, (∀ s₂ o v L, s₂.status = .running → Ended s₂ below o → o = .returned v → Q_rm3 Z a1 w2 h0 n0 v s₂.heap L → FrameEnd s o s₂ L ({ frames := 0, cells := 0, slots := 0, locals := 0 } : Room).cells ({ frames := 0, cells := 0, slots := 0, locals := 0 } : Room).slots → P s₂) → Rch p.tables e below P (s₁.setTop (mkF m 0 #[.val (.ref a1)] [])) by
    obtain ⟨s₂, h1, o, h2⟩ := hR (fun s₂ => ∃ o, s₂.status = .running ∧ Ended s₂ below o ∧ ∃ v L, o = .returned v ∧ Q_rm3 Z a1 w2 h0 n0 v s₂.heap L ∧ FrameEnd s o s₂ L ({ frames := 0, cells := 0, slots := 0, locals := 0 } : Room).cells ({ frames := 0, cells := 0, slots := 0, locals := 0 } : Room).slots) (fun s₂ o v L q1 q2 q3 q4 q5 => ⟨o, q1, q2, v, L, q3, q4, q5⟩)
    exact ⟨s₂, o, castTop (ef_rm3 m a1) h1, h2⟩
  intro P hPd
  refine Rch.go (fun t k => XS.aloadN X0.here hx rfl (hb hby d3_0) rfl rfl k) ?_
  show Rch _ _ _ _ (s₁.setTop (mkF m 1 #[.val (.ref a1)] [(.ref a1)]))
  obtain ⟨T1, X1, e1, st1⟩ := getF X0 hx hZ hown (host := "") (Or.inl (ow14 hw)) Via.refl e0 P0 (g := (mkF m 1 #[.val (.ref a1)] [(.ref a1)])) rfl rfl (hb hby d3_1)
  refine Rch.go st1 ?_
  show Rch _ _ _ _ (T1.setTop (mkF m 4 #[.val (.ref a1)] [(.long w2)]))
  refine Rch.go (fun t k => XS.lconst X1.here hx rfl (hb hby d3_4) k) ?_
  show Rch _ _ _ _ (T1.setTop (mkF m 5 #[.val (.ref a1)] [(.long (0 : Int64)), (.long w2)]))
  refine Rch.go (fun t k => XS.lcmp X1.here hx rfl (hb hby d3_5) rfl k) ?_
  show Rch _ _ _ _ (T1.setTop (mkF m 6 #[.val (.ref a1)] [(.int (lcmpW w2 (0 : Int64)))]))
  by_cases hc6_2 : (lcmpW w2 (0 : Int64)) = (0 : Int32)
  · skip
    refine Rch.go (fun t k => XS.ifNo X1.here hx rfl (hb hby d3_6) rfl ((if0 _ _).trans (teq hc6_2).2) k) ?_
    show Rch _ _ _ _ (T1.setTop (mkF m 9 #[.val (.ref a1)] []))
    refine Rch.go (fun t k => XS.iconst X1.here hx rfl (hb hby d3_9) k) ?_
    show Rch _ _ _ _ (T1.setTop (mkF m 10 #[.val (.ref a1)] [(.int (1 : Int32))]))
    refine Rch.go (fun t k => XS.goto X1.here hx rfl (pc0 := 10) (pc' := 14) rfl (hb hby d3_10) (by decide) (by decide) k) ?_
    show Rch _ _ _ _ (T1.setTop (mkF m 14 #[.val (.ref a1)] [(.int (1 : Int32))]))
    obtain ⟨fs, hr, hrun, hended, hW, hsame⟩ := X1.leave (v := some (.int (1 : Int32))) (fun h => by rw [Bd.returns] at h; cases h)
    refine Rch.mk (retN X1 hx (t := .boolean) Bd.returns (by simp) (hb hby d3_14) hr) (hPd _ _ _ _ hrun hended rfl ?_ ⟨⟨_, rfl⟩, hW, hsame.mono (by decide) (by decide)⟩)
    show Q_rm3 Z a1 w2 h0 n0 _ T1.heap _
    have hF : fAtEnd w2 = (1 : Int32) := ((if_pos hc6_2).trans rfl)
    rw [e1]
    exact ⟨by rw [hF], N0, rfl⟩
  · skip
    refine Rch.go (fun t k => XS.ifYes X1.here hx rfl (pc0 := 6) (pc' := 13) rfl (hb hby d3_6) rfl ((if0 _ _).trans (feq hc6_2).2) (by decide) (by decide) k) ?_
    show Rch _ _ _ _ (T1.setTop (mkF m 13 #[.val (.ref a1)] []))
    refine Rch.go (fun t k => XS.iconst X1.here hx rfl (hb hby d3_13) k) ?_
    show Rch _ _ _ _ (T1.setTop (mkF m 14 #[.val (.ref a1)] [(.int (0 : Int32))]))
    obtain ⟨fs, hr, hrun, hended, hW, hsame⟩ := X1.leave (v := some (.int (0 : Int32))) (fun h => by rw [Bd.returns] at h; cases h)
    refine Rch.mk (retN X1 hx (t := .boolean) Bd.returns (by simp) (hb hby d3_14) hr) (hPd _ _ _ _ hrun hended rfl ?_ ⟨⟨_, rfl⟩, hW, hsame.mono (by decide) (by decide)⟩)
    show Q_rm3 Z a1 w2 h0 n0 _ T1.heap _
    have hF : fAtEnd w2 = (0 : Int32) := ((if_neg hc6_2).trans rfl)
    rw [e1]
    exact ⟨by rw [hF], N0, rfl⟩
theorem ef_rm4 (m : MethodId) (a1 : Addr) : entryFrame m #[(.ref a1)] 1 = mkF m 0 #[.val (.ref a1)] [] := by first | (simp [entryFrame, mkF, argsToLocals, Value.category]; done) | rfl
theorem d4_0 : decode prog_15_method_4_code 0 = .ok (.aload_n 0, 1) := by decide +kernel
theorem d4_1 : decode prog_15_method_4_code 1 = .ok (.getfield 17, 3) := by decide +kernel
theorem d4_4 : decode prog_15_method_4_code 4 = .ok (.lreturn, 1) := by decide +kernel
def Q_rm4 (Z : State) (a1 : Addr) (w2 : Int64) (h0 : Heap) (n0 : Nat) (v : Option Value) (h : Heap) (L : List Loc) : Prop := v = some (.long w2) ∧ Fr n0 L ∧ h = h0
set_option maxRecDepth 65536 in
set_option maxHeartbeats 40000000 in
theorem rm4 (l : Launch) (Z : State) (a0 : Array Value) (hw : ∀ d ∈ tables_1, d.before a0 Z = true) (ws : List Jvm.Cond) (a1 : Addr) (w2 : Int64) (h0 : Heap) (n0 : Nat) (Z0 : n0 ≤ h0.size) (P0 : Fld Z h0 a1 "com/example/keepwire/keepwire/Framing$Length" "remaining" "J" (.long w2)) :
    MetFree l (⟨"com/example/keepwire/keepwire/Framing$Length", "remainingBytes", "()J"⟩ : MethodName) (head1 (Jvm.Cond.code (⟨"com/example/keepwire/keepwire/Framing$Length", "remainingBytes", "()J"⟩ : MethodName) prog_15_method_4_code 1 (some .long) :: ws) ({ frames := 0, cells := 0, slots := 0, locals := 0 } : Room)) (fun a U => a = #[(.ref a1)] ∧ Z.Warmed39 U.vm ∧ U.heap = h0) (fun _ _ _ _ _ => True) (fun _ U o U' => ∃ v L, o = .returned v ∧ Q_rm4 Z a1 w2 h0 n0 v U'.heap L ∧ FrameEnd U o U' L ({ frames := 0, cells := 0, slots := 0, locals := 0 } : Room).cells ({ frames := 0, cells := 0, slots := 0, locals := 0 } : Room).slots) := by
  refine MetFree.of_bodySF (plainFor_of_name pn_com_example_keepwire_keepwire_Framing_Length) hisR ?_
  intro p e s m args below meth c s₁ Bd hml0 hP hK
  obtain ⟨rfl, hZ, hh⟩ := hP
  have hx := Bd.exec
  have hby := Bd.bytes
  have hml : c.maxLocals = 1 := hml0
  have hown : s.vm.findClass "com/example/keepwire/keepwire/Framing$Length" = some m.cls := findClass_of_methodNamed Bd.named
  have hnm := (name_of_methodNamed Bd.named Bd.method).1
  have X0 : Stand p l e ({ frames := 0, cells := 0, slots := 0, locals := 0 } : Room) s m #[(.ref a1)] below meth c s₁ [] 0 0 := Stand.of_body Bd
  have e0 : s₁.heap = h0 := by rw [← hh, Bd.state]; rfl
  have N0 := Fr.nil n0
  suffices hR : ∀ P : State → Prop, (∀ s₂ o v L, s₂.status = .running → Ended s₂ below o → o = .returned v → Q_rm4 Z a1 w2 h0 n0 v s₂.heap L → FrameEnd s o s₂ L ({ frames := 0, cells := 0, slots := 0, locals := 0 } : Room).cells ({ frames := 0, cells := 0, slots := 0, locals := 0 } : Room).slots → P s₂) → Rch p.tables e below P (s₁.setTop (mkF m 0 #[.val (.ref a1)] [])) by
    obtain ⟨s₂, h1, o, h2⟩ := hR (fun s₂ => ∃ o, s₂.status = .running ∧ Ended s₂ below o ∧ ∃ v L, o = .returned v ∧ Q_rm4 Z a1 w2 h0 n0 v s₂.heap L ∧ FrameEnd s o s₂ L ({ frames := 0, cells := 0, slots := 0, locals := 0 } : Room).cells ({ frames := 0, cells := 0, slots := 0, locals := 0 } : Room).slots) (fun s₂ o v L q1 q2 q3 q4 q5 => ⟨o, q1, q2, v, L, q3, q4, q5⟩)
    exact ⟨s₂, o, castTop (ef_rm4 m a1) h1, h2⟩
  intro P hPd
  refine Rch.go (fun t k => XS.aloadN X0.here hx rfl (hb hby d4_0) rfl rfl k) ?_
  show Rch _ _ _ _ (s₁.setTop (mkF m 1 #[.val (.ref a1)] [(.ref a1)]))
  obtain ⟨T1, X1, e1, st1⟩ := getF X0 hx hZ hown (host := "") (Or.inl (ow14 hw)) Via.refl e0 P0 (g := (mkF m 1 #[.val (.ref a1)] [(.ref a1)])) rfl rfl (hb hby d4_1)
  refine Rch.go st1 ?_
  show Rch _ _ _ _ (T1.setTop (mkF m 4 #[.val (.ref a1)] [(.long w2)]))
  obtain ⟨fs, hr, hrun, hended, hW, hsame⟩ := X1.leave (v := some (.long w2)) (fun h => by rw [Bd.returns] at h; cases h)
  have hend : Steps p.tables e below (T1.setTop (mkF m 4 #[.val (.ref a1)] [(.long w2)])) (T1.setFrames fs) := by
    jvm_step X1.here [X1.here.top, hx, (hb hby d4_4), X1.method', Bd.returns, narrow]
    first | (intro acts; rw [hr _ acts rfl rfl rfl]) | rw [hr _ _ rfl rfl rfl]
    exact Steps.refl _
  refine Rch.mk (hend) (hPd _ _ _ _ hrun hended rfl ?_ ⟨⟨_, rfl⟩, hW, hsame.mono (by decide) (by decide)⟩)
  show Q_rm4 Z a1 w2 h0 n0 _ T1.heap _
  rw [e1]
  exact ⟨rfl, N0, rfl⟩
theorem ef_rm5 (m : MethodId) (a1 : Addr) : entryFrame m #[(.ref a1)] 1 = mkF m 0 #[.val (.ref a1)] [] := by first | (simp [entryFrame, mkF, argsToLocals, Value.category]; done) | rfl
theorem d5_0 : decode prog_15_method_5_code 0 = .ok (.aload_n 0, 1) := by decide +kernel
theorem d5_1 : decode prog_15_method_5_code 1 = .ok (.getfield 13, 3) := by decide +kernel
theorem d5_4 : decode prog_15_method_5_code 4 = .ok (.ireturn, 1) := by decide +kernel
def Q_rm5 (Z : State) (a1 : Addr) (w2 : Int32) (h0 : Heap) (n0 : Nat) (v : Option Value) (h : Heap) (L : List Loc) : Prop := v = some (.int (nar .boolean w2)) ∧ Fr n0 L ∧ h = h0
set_option maxRecDepth 65536 in
set_option maxHeartbeats 40000000 in
theorem rm5 (l : Launch) (Z : State) (a0 : Array Value) (hw : ∀ d ∈ tables_1, d.before a0 Z = true) (ws : List Jvm.Cond) (a1 : Addr) (w2 : Int32) (h0 : Heap) (n0 : Nat) (Z0 : n0 ≤ h0.size) (P0 : Fld Z h0 a1 "com/example/keepwire/keepwire/Framing$Length" "closesConnection" "Z" (.int w2)) :
    MetFree l (⟨"com/example/keepwire/keepwire/Framing$Length", "closesConnection", "()Z"⟩ : MethodName) (head1 (Jvm.Cond.code (⟨"com/example/keepwire/keepwire/Framing$Length", "closesConnection", "()Z"⟩ : MethodName) prog_15_method_5_code 1 (some .boolean) :: ws) ({ frames := 0, cells := 0, slots := 0, locals := 0 } : Room)) (fun a U => a = #[(.ref a1)] ∧ Z.Warmed39 U.vm ∧ U.heap = h0) (fun _ _ _ _ _ => True) (fun _ U o U' => ∃ v L, o = .returned v ∧ Q_rm5 Z a1 w2 h0 n0 v U'.heap L ∧ FrameEnd U o U' L ({ frames := 0, cells := 0, slots := 0, locals := 0 } : Room).cells ({ frames := 0, cells := 0, slots := 0, locals := 0 } : Room).slots) := by
  refine MetFree.of_bodySF (plainFor_of_name pn_com_example_keepwire_keepwire_Framing_Length) hisR ?_
  intro p e s m args below meth c s₁ Bd hml0 hP hK
  obtain ⟨rfl, hZ, hh⟩ := hP
  have hx := Bd.exec
  have hby := Bd.bytes
  have hml : c.maxLocals = 1 := hml0
  have hown : s.vm.findClass "com/example/keepwire/keepwire/Framing$Length" = some m.cls := findClass_of_methodNamed Bd.named
  have hnm := (name_of_methodNamed Bd.named Bd.method).1
  have X0 : Stand p l e ({ frames := 0, cells := 0, slots := 0, locals := 0 } : Room) s m #[(.ref a1)] below meth c s₁ [] 0 0 := Stand.of_body Bd
  have e0 : s₁.heap = h0 := by rw [← hh, Bd.state]; rfl
  have N0 := Fr.nil n0
  suffices hR : ∀ P : State → Prop, (∀ s₂ o v L, s₂.status = .running → Ended s₂ below o → o = .returned v → Q_rm5 Z a1 w2 h0 n0 v s₂.heap L → FrameEnd s o s₂ L ({ frames := 0, cells := 0, slots := 0, locals := 0 } : Room).cells ({ frames := 0, cells := 0, slots := 0, locals := 0 } : Room).slots → P s₂) → Rch p.tables e below P (s₁.setTop (mkF m 0 #[.val (.ref a1)] [])) by
    obtain ⟨s₂, h1, o, h2⟩ := hR (fun s₂ => ∃ o, s₂.status = .running ∧ Ended s₂ below o ∧ ∃ v L, o = .returned v ∧ Q_rm5 Z a1 w2 h0 n0 v s₂.heap L ∧ FrameEnd s o s₂ L ({ frames := 0, cells := 0, slots := 0, locals := 0 } : Room).cells ({ frames := 0, cells := 0, slots := 0, locals := 0 } : Room).slots) (fun s₂ o v L q1 q2 q3 q4 q5 => ⟨o, q1, q2, v, L, q3, q4, q5⟩)
    exact ⟨s₂, o, castTop (ef_rm5 m a1) h1, h2⟩
  intro P hPd
  refine Rch.go (fun t k => XS.aloadN X0.here hx rfl (hb hby d5_0) rfl rfl k) ?_
  show Rch _ _ _ _ (s₁.setTop (mkF m 1 #[.val (.ref a1)] [(.ref a1)]))
  obtain ⟨T1, X1, e1, st1⟩ := getF X0 hx hZ hown (host := "") (Or.inl (ow12 hw)) Via.refl e0 P0 (g := (mkF m 1 #[.val (.ref a1)] [(.ref a1)])) rfl rfl (hb hby d5_1)
  refine Rch.go st1 ?_
  show Rch _ _ _ _ (T1.setTop (mkF m 4 #[.val (.ref a1)] [(.int w2)]))
  obtain ⟨fs, hr, hrun, hended, hW, hsame⟩ := X1.leave (v := some (.int (nar .boolean w2))) (fun h => by rw [Bd.returns] at h; cases h)
  refine Rch.mk (retN X1 hx (t := .boolean) Bd.returns (by simp) (hb hby d5_4) hr) (hPd _ _ _ _ hrun hended rfl ?_ ⟨⟨_, rfl⟩, hW, hsame.mono (by decide) (by decide)⟩)
  show Q_rm5 Z a1 w2 h0 n0 _ T1.heap _
  rw [e1]
  exact ⟨rfl, N0, rfl⟩
theorem own_bool {f : Int32} (h : f = (0 : Int32) ∨ f = (1 : Int32)) : nar .boolean (nar .boolean f) = f := by
  rcases h with rfl | rfl <;> decide
theorem ef_rm0 (m : MethodId) (q1 : Int64) (p2 : Int32) (p3 : Int32) : entryFrame m #[(.long q1), (.int p2), (.int p3)] maxLocals = mkF m 0 #[.val (.long q1), .second, .val (.int p2), .val (.int p3), .unset, .unset, .unset, .unset, .unset, .unset, .unset, .unset, .unset, .unset] [] := by first | (simp [entryFrame, mkF, argsToLocals, Value.category, maxLocals]; done) | rfl
theorem pn_com_example_keepwire_keepwire_LengthAtEndPinLaw : plainName "com/example/keepwire/keepwire/LengthAtEndPinLaw" = true := by first | (simp [plainName, overriddenIn]; done) | decide +kernel
theorem pd__JZ_V : parseMethodDescriptor "(JZ)V" = some ⟨[.long, .boolean], none⟩ := by decide +kernel
theorem pd___Z : parseMethodDescriptor "()Z" = some ⟨[], some .boolean⟩ := by decide +kernel
theorem pd___J : parseMethodDescriptor "()J" = some ⟨[], some .long⟩ := by decide +kernel
def Q_rm0 (Z : State) (q1 : Int64) (p2 : Int32) (p3 : Int32) (h0 : Heap) (n0 : Nat) (v : Option Value) (h : Heap) (L : List Loc) : Prop := v = some (.int (1 : Int32)) ∧ Fr n0 L
set_option maxRecDepth 65536 in
set_option maxHeartbeats 40000000 in
theorem rm0 (l : Launch) (Z : State) (a0 : Array Value) (hw : ∀ d ∈ tables_1, d.before a0 Z = true) (ws : List Jvm.Cond) (q1 : Int64) (p2 : Int32) (p3 : Int32) (h0 : Heap) (n0 : Nat) (Z0 : n0 ≤ h0.size) :
    MetFree l x (head1 (Jvm.Cond.code x code maxLocals ret :: ws) room_1) (fun a U => a = #[(.long q1), (.int p2), (.int p3)] ∧ Z.Warmed39 U.vm ∧ U.heap = h0) (fun _ _ _ _ _ => True) (fun _ U o U' => ∃ v L, o = .returned v ∧ Q_rm0 Z q1 p2 p3 h0 n0 v U'.heap L ∧ FrameEnd U o U' L room_1.cells room_1.slots) := by
  refine MetFree.of_bodySF (plainFor_of_name pn_com_example_keepwire_keepwire_LengthAtEndPinLaw) hisR ?_
  intro p e s m args below meth c s₁ Bd hml0 hP hK
  obtain ⟨rfl, hZ, hh⟩ := hP
  have hx := Bd.exec
  have hby := Bd.bytes
  have hml : c.maxLocals = 14 := hml0
  have hown : s.vm.findClass "com/example/keepwire/keepwire/LengthAtEndPinLaw" = some m.cls := findClass_of_methodNamed Bd.named
  have hnm := (name_of_methodNamed Bd.named Bd.method).1
  have X0 : Stand p l e room_1 s m #[(.long q1), (.int p2), (.int p3)] below meth c s₁ [] 0 0 := Stand.of_body Bd
  have e0 : s₁.heap = h0 := by rw [← hh, Bd.state]; rfl
  have N0 := Fr.nil n0
  suffices hR : ∀ P : State → Prop, (∀ s₂ o v L, s₂.status = .running → Ended s₂ below o → o = .returned v → Q_rm0 Z q1 p2 p3 h0 n0 v s₂.heap L → FrameEnd s o s₂ L room_1.cells room_1.slots → P s₂) → Rch p.tables e below P (s₁.setTop (mkF m 0 #[.val (.long q1), .second, .val (.int p2), .val (.int p3), .unset, .unset, .unset, .unset, .unset, .unset, .unset, .unset, .unset, .unset] [])) by
    obtain ⟨s₂, h1, o, h2⟩ := hR (fun s₂ => ∃ o, s₂.status = .running ∧ Ended s₂ below o ∧ ∃ v L, o = .returned v ∧ Q_rm0 Z q1 p2 p3 h0 n0 v s₂.heap L ∧ FrameEnd s o s₂ L room_1.cells room_1.slots) (fun s₂ o v L q1 q2 q3 q4 q5 => ⟨o, q1, q2, v, L, q3, q4, q5⟩)
    exact ⟨s₂, o, castTop (ef_rm0 m q1 p2 p3) h1, h2⟩
  intro P hPd
  have j49 : ∀ (len : Int64), Rch p.tables e below P (s₁.setTop (mkF m 49 #[.val (.long q1), .second, .val (.int p2), .val (.int p3), .val (.int (p2 &&& (3 : Int32))), .val (.long len), .second, .unset, .unset, .unset, .unset, .unset, .unset, .unset] [])) := by
    intro len
    have j60 : ∀ (fl : Int32), (fl = (0 : Int32) ∨ fl = (1 : Int32)) → Rch p.tables e below P (s₁.setTop (mkF m 60 #[.val (.long q1), .second, .val (.int p2), .val (.int p3), .val (.int (p2 &&& (3 : Int32))), .val (.long len), .second, .unset, .unset, .unset, .unset, .unset, .unset, .unset] [(.int fl)])) := by
      intro fl hfl
      refine Rch.go (fun t k => XS.istore X0.here hx rfl (hb hby at_60) rfl (l' := #[.val (.long q1), .second, .val (.int p2), .val (.int p3), .val (.int (p2 &&& (3 : Int32))), .val (.long len), .second, .val (.int fl), .unset, .unset, .unset, .unset, .unset, .unset]) rfl k) ?_
      show Rch _ _ _ _ (s₁.setTop (mkF m 62 #[.val (.long q1), .second, .val (.int p2), .val (.int p3), .val (.int (p2 &&& (3 : Int32))), .val (.long len), .second, .val (.int fl), .unset, .unset, .unset, .unset, .unset, .unset] []))
      obtain ⟨T1, h1, X1, e1, E1, A1, D1, -, st1⟩ := newO X0 hx hZ hown (ow1 hw) (ow2 hw) (ow3 hw) e0 (g := (mkF m 62 #[.val (.long q1), .second, .val (.int p2), .val (.int p3), .val (.int (p2 &&& (3 : Int32))), .val (.long len), .second, .val (.int fl), .unset, .unset, .unset, .unset, .unset, .unset] [])) rfl (hb hby at_62) (by decide) (by decide)
      obtain ⟨b1, g1⟩ : ∃ z, z = h0.size := ⟨_, rfl⟩
      rw [← g1] at A1 D1 st1
      refine Rch.go st1 ?_
      have ge1 : n0 ≤ b1 := by rw [g1]; exact Z0
      have gk1 : h0.size ≤ b1 := by rw [g1]; exact (Keep.refl h0 []).1
      have K1 := (Keep.refl h0 []).ext E1
      have F1_length : Fld Z h1 b1 "com/example/keepwire/keepwire/Framing$Length" "length" "J" (.long (0 : Int64)) := D1 (Or.inr (ow11 hw)) (ty := .long) (by decide)
      have F1_closesConnection : Fld Z h1 b1 "com/example/keepwire/keepwire/Framing$Length" "closesConnection" "Z" (.int (0 : Int32)) := D1 (Or.inr (ow13 hw)) (ty := .boolean) (by decide)
      have F1_remaining : Fld Z h1 b1 "com/example/keepwire/keepwire/Framing$Length" "remaining" "J" (.long (0 : Int64)) := D1 (Or.inl (ow15 hw)) (ty := .long) (by decide)
      show Rch _ _ _ _ (T1.setTop (mkF m 65 #[.val (.long q1), .second, .val (.int p2), .val (.int p3), .val (.int (p2 &&& (3 : Int32))), .val (.long len), .second, .val (.int fl), .unset, .unset, .unset, .unset, .unset, .unset] [(.ref b1)]))
      refine Rch.go (fun t k => XS.dup X1.here hx rfl (hb hby at_65) rfl rfl k) ?_
      show Rch _ _ _ _ (T1.setTop (mkF m 66 #[.val (.long q1), .second, .val (.int p2), .val (.int p3), .val (.int (p2 &&& (3 : Int32))), .val (.long len), .second, .val (.int fl), .unset, .unset, .unset, .unset, .unset, .unset] [(.ref b1), (.ref b1)]))
      refine Rch.go (fun t k => XS.lload X1.here hx rfl (hb hby at_66) rfl k) ?_
      show Rch _ _ _ _ (T1.setTop (mkF m 68 #[.val (.long q1), .second, .val (.int p2), .val (.int p3), .val (.int (p2 &&& (3 : Int32))), .val (.long len), .second, .val (.int fl), .unset, .unset, .unset, .unset, .unset, .unset] [(.long len), (.ref b1), (.ref b1)]))
      refine Rch.go (fun t k => XS.iload X1.here hx rfl (hb hby at_68) rfl k) ?_
      show Rch _ _ _ _ (T1.setTop (mkF m 70 #[.val (.long q1), .second, .val (.int p2), .val (.int p3), .val (.int (p2 &&& (3 : Int32))), .val (.long len), .second, .val (.int fl), .unset, .unset, .unset, .unset, .unset, .unset] [(.int fl), (.long len), (.ref b1), (.ref b1)]))
      have f3 := (Nat.le_trans Z0 E1.1)
      obtain ⟨_, _, ⟨T2, L2, k2, n2⟩, -, X2, ⟨Lc2, hQ2, l2, y2, z2⟩, st2⟩ := X1.specialBack hx (y := (⟨"com/example/keepwire/keepwire/Framing$Length", "<init>", "(JZ)V"⟩ : MethodName)) rfl hown (mvT hZ (ow4 hw)) (mvT hZ (ow5 hw)) (mvT hZ (ow6 hw)) (by decide) (backOf (W := 1) (rm1 l Z a0 hw [] (b1) (len) (fl) ((.long (0 : Int64))) ((.int (0 : Int32))) ((.long (0 : Int64))) h1 n0 f3 (A1) (F1_length) (F1_closesConnection) (F1_remaining) (ge1)) hZ (ow6 hw) (ow3 hw) (by decide) (by decide)) (g := (mkF m 70 #[.val (.long q1), .second, .val (.int p2), .val (.int p3), .val (.int (p2 &&& (3 : Int32))), .val (.long len), .second, .val (.int fl), .unset, .unset, .unset, .unset, .unset, .unset] [(.int fl), (.long len), (.ref b1), (.ref b1)])) rfl (by rw [hml]; rfl) (Steps.refl _) (a := b1) (argsL := [(.long len), (.int fl)]) (rest := [(.ref b1)]) (lenOf pd__JZ_V rfl) rfl (by show 2 * 0 + _ ≤ _; exact Nat.le_of_eq rfl) (hb hby at_70) (fun _ _ => ⟨rfl, e1, (by decide : 1 + 0 ≤ _), (by decide : 3 + 0 ≤ _)⟩)
      dsimp only [Pt.U, Pt.locs, Pt.cells, Pt.slots] at X2 l2 y2 z2 st2 hQ2
      subst l2 y2 z2
      obtain ⟨rfl, N2q, K2q, O2_0, O2_1, O2_2, O2_3⟩ := hQ2
      have N2 := Fr.app N0 N2q
      have K2 := Keep.trans K1 K2q (allS (Or.inr gk1) all0)
      refine Rch.go (fun t k => st2.trans k) ?_
      show Rch _ _ _ _ (T2.setTop (mkF m 73 #[.val (.long q1), .second, .val (.int p2), .val (.int p3), .val (.int (p2 &&& (3 : Int32))), .val (.long len), .second, .val (.int fl), .unset, .unset, .unset, .unset, .unset, .unset] [(.ref b1)]))
      refine Rch.go (fun t k => XS.astore X2.here hx rfl (hb hby at_73) rfl rfl (l' := #[.val (.long q1), .second, .val (.int p2), .val (.int p3), .val (.int (p2 &&& (3 : Int32))), .val (.long len), .second, .val (.int fl), .val (.ref b1), .unset, .unset, .unset, .unset, .unset]) rfl k) ?_
      show Rch _ _ _ _ (T2.setTop (mkF m 75 #[.val (.long q1), .second, .val (.int p2), .val (.int p3), .val (.int (p2 &&& (3 : Int32))), .val (.long len), .second, .val (.int fl), .val (.ref b1), .unset, .unset, .unset, .unset, .unset] []))
      refine Rch.go (fun t k => XS.aload X2.here hx rfl (hb hby at_75) rfl rfl k) ?_
      show Rch _ _ _ _ (T2.setTop (mkF m 77 #[.val (.long q1), .second, .val (.int p2), .val (.int p3), .val (.int (p2 &&& (3 : Int32))), .val (.long len), .second, .val (.int fl), .val (.ref b1), .unset, .unset, .unset, .unset, .unset] [(.ref b1)]))
      have f5 := (Nat.le_trans f3 K2q.1)
      obtain ⟨cq4, kq4, q4a, q4b, q4c⟩ := isOf hZ rfl O2_0
      obtain ⟨_, _, ⟨T4, L4, k4, n4⟩, -, X4, ⟨Lc4, hQ4, l4, y4, z4⟩, st4⟩ := X2.virtualBack hx (y := (⟨"com/example/keepwire/keepwire/Framing$Length", "atEnd", "()Z"⟩ : MethodName)) (z := (⟨"com/example/keepwire/keepwire/Framing$Length", "atEnd", "()Z"⟩ : MethodName)) hown (mvT hZ (ow16 hw)) (mvT hZ (ow17 hw)) (notFace_of_selects (args := #[]) (mvT hZ (ow19 hw))) (mvT hZ (ow19 hw)) (mvT hZ (ow18 hw)) (by decide) (backOf (W := 0) (rm3 l Z a0 hw [] (b1) (len) T2.heap n0 f5 (O2_3)) hZ (ow20 hw) (ow3 hw) (by decide) (by decide)) q4a q4c (g := (mkF m 77 #[.val (.long q1), .second, .val (.int p2), .val (.int p3), .val (.int (p2 &&& (3 : Int32))), .val (.long len), .second, .val (.int fl), .val (.ref b1), .unset, .unset, .unset, .unset, .unset] [(.ref b1)])) rfl (by rw [hml]; rfl) (Steps.refl _) (argsL := []) (rest := []) (lenOf pd___Z rfl) rfl (by show 2 * 0 + _ ≤ _; exact Nat.le_of_eq rfl) (hb hby at_77) (fun _ _ => ⟨rfl, rfl, (by decide : 1 + 0 ≤ _), (by decide : 3 + 0 ≤ _)⟩)
      dsimp only [Pt.U, Pt.locs, Pt.cells, Pt.slots] at X4 l4 y4 z4 st4 hQ4
      subst l4 y4 z4
      obtain ⟨rfl, N4q, eq4⟩ := hQ4
      have N4 := Fr.app N2 N4q
      refine Rch.go (fun t k => st4.trans k) ?_
      show Rch _ _ _ _ (T4.setTop (mkF m 80 #[.val (.long q1), .second, .val (.int p2), .val (.int p3), .val (.int (p2 &&& (3 : Int32))), .val (.long len), .second, .val (.int fl), .val (.ref b1), .unset, .unset, .unset, .unset, .unset] [(.int (fAtEnd len))]))
      refine Rch.go (fun t k => XS.istore X4.here hx rfl (hb hby at_80) rfl (l' := #[.val (.long q1), .second, .val (.int p2), .val (.int p3), .val (.int (p2 &&& (3 : Int32))), .val (.long len), .second, .val (.int fl), .val (.ref b1), .val (.int (fAtEnd len)), .unset, .unset, .unset, .unset]) rfl k) ?_
      show Rch _ _ _ _ (T4.setTop (mkF m 82 #[.val (.long q1), .second, .val (.int p2), .val (.int p3), .val (.int (p2 &&& (3 : Int32))), .val (.long len), .second, .val (.int fl), .val (.ref b1), .val (.int (fAtEnd len)), .unset, .unset, .unset, .unset] []))
      refine Rch.go (fun t k => XS.aload X4.here hx rfl (hb hby at_82) rfl rfl k) ?_
      show Rch _ _ _ _ (T4.setTop (mkF m 84 #[.val (.long q1), .second, .val (.int p2), .val (.int p3), .val (.int (p2 &&& (3 : Int32))), .val (.long len), .second, .val (.int fl), .val (.ref b1), .val (.int (fAtEnd len)), .unset, .unset, .unset, .unset] [(.ref b1)]))
      obtain ⟨cq6, kq6, q6a, q6b, q6c⟩ := isOf hZ eq4 O2_0
      obtain ⟨_, _, ⟨T6, L6, k6, n6⟩, -, X6, ⟨Lc6, hQ6, l6, y6, z6⟩, st6⟩ := X4.virtualBack hx (y := (⟨"com/example/keepwire/keepwire/Framing$Length", "remainingBytes", "()J"⟩ : MethodName)) (z := (⟨"com/example/keepwire/keepwire/Framing$Length", "remainingBytes", "()J"⟩ : MethodName)) hown (mvT hZ (ow21 hw)) (mvT hZ (ow22 hw)) (notFace_of_selects (args := #[]) (mvT hZ (ow24 hw))) (mvT hZ (ow24 hw)) (mvT hZ (ow23 hw)) (by decide) (backOf (W := 0) (rm4 l Z a0 hw [] (b1) (len) T2.heap n0 f5 (O2_3)) hZ (ow25 hw) (ow3 hw) (by decide) (by decide)) q6a q6c (g := (mkF m 84 #[.val (.long q1), .second, .val (.int p2), .val (.int p3), .val (.int (p2 &&& (3 : Int32))), .val (.long len), .second, .val (.int fl), .val (.ref b1), .val (.int (fAtEnd len)), .unset, .unset, .unset, .unset] [(.ref b1)])) rfl (by rw [hml]; rfl) (Steps.refl _) (argsL := []) (rest := []) (lenOf pd___J rfl) rfl (by show 2 * 0 + _ ≤ _; exact Nat.le_of_eq rfl) (hb hby at_84) (fun _ _ => ⟨rfl, eq4, (by decide : 1 + 0 ≤ _), (by decide : 3 + 0 ≤ _)⟩)
      dsimp only [Pt.U, Pt.locs, Pt.cells, Pt.slots] at X6 l6 y6 z6 st6 hQ6
      subst l6 y6 z6
      obtain ⟨rfl, N6q, eq6⟩ := hQ6
      have N6 := Fr.app N4 N6q
      refine Rch.go (fun t k => st6.trans k) ?_
      show Rch _ _ _ _ (T6.setTop (mkF m 87 #[.val (.long q1), .second, .val (.int p2), .val (.int p3), .val (.int (p2 &&& (3 : Int32))), .val (.long len), .second, .val (.int fl), .val (.ref b1), .val (.int (fAtEnd len)), .unset, .unset, .unset, .unset] [(.long len)]))
      refine Rch.go (fun t k => XS.lstore X6.here hx rfl (hb hby at_87) rfl (l' := #[.val (.long q1), .second, .val (.int p2), .val (.int p3), .val (.int (p2 &&& (3 : Int32))), .val (.long len), .second, .val (.int fl), .val (.ref b1), .val (.int (fAtEnd len)), .val (.long len), .second, .unset, .unset]) rfl k) ?_
      show Rch _ _ _ _ (T6.setTop (mkF m 89 #[.val (.long q1), .second, .val (.int p2), .val (.int p3), .val (.int (p2 &&& (3 : Int32))), .val (.long len), .second, .val (.int fl), .val (.ref b1), .val (.int (fAtEnd len)), .val (.long len), .second, .unset, .unset] []))
      refine Rch.go (fun t k => XS.aload X6.here hx rfl (hb hby at_89) rfl rfl k) ?_
      show Rch _ _ _ _ (T6.setTop (mkF m 91 #[.val (.long q1), .second, .val (.int p2), .val (.int p3), .val (.int (p2 &&& (3 : Int32))), .val (.long len), .second, .val (.int fl), .val (.ref b1), .val (.int (fAtEnd len)), .val (.long len), .second, .unset, .unset] [(.ref b1)]))
      obtain ⟨cq7, kq7, q7a, q7b, q7c⟩ := isOf hZ eq6 O2_0
      obtain ⟨_, _, ⟨T7, L7, k7, n7⟩, -, X7, ⟨Lc7, hQ7, l7, y7, z7⟩, st7⟩ := X6.virtualBack hx (y := (⟨"com/example/keepwire/keepwire/Framing$Length", "closesConnection", "()Z"⟩ : MethodName)) (z := (⟨"com/example/keepwire/keepwire/Framing$Length", "closesConnection", "()Z"⟩ : MethodName)) hown (mvT hZ (ow26 hw)) (mvT hZ (ow27 hw)) (notFace_of_selects (args := #[]) (mvT hZ (ow29 hw))) (mvT hZ (ow29 hw)) (mvT hZ (ow28 hw)) (by decide) (backOf (W := 0) (rm5 l Z a0 hw [] (b1) ((nar .boolean fl)) T2.heap n0 f5 (O2_2)) hZ (ow30 hw) (ow3 hw) (by decide) (by decide)) q7a q7c (g := (mkF m 91 #[.val (.long q1), .second, .val (.int p2), .val (.int p3), .val (.int (p2 &&& (3 : Int32))), .val (.long len), .second, .val (.int fl), .val (.ref b1), .val (.int (fAtEnd len)), .val (.long len), .second, .unset, .unset] [(.ref b1)])) rfl (by rw [hml]; rfl) (Steps.refl _) (argsL := []) (rest := []) (lenOf pd___Z rfl) rfl (by show 2 * 0 + _ ≤ _; exact Nat.le_of_eq rfl) (hb hby at_91) (fun _ _ => ⟨rfl, eq6, (by decide : 1 + 0 ≤ _), (by decide : 3 + 0 ≤ _)⟩)
      dsimp only [Pt.U, Pt.locs, Pt.cells, Pt.slots] at X7 l7 y7 z7 st7 hQ7
      subst l7 y7 z7
      obtain ⟨rfl, N7q, eq7⟩ := hQ7
      have N7 := Fr.app N6 N7q
      refine Rch.go (fun t k => st7.trans k) ?_
      show Rch _ _ _ _ (T7.setTop (mkF m 94 #[.val (.long q1), .second, .val (.int p2), .val (.int p3), .val (.int (p2 &&& (3 : Int32))), .val (.long len), .second, .val (.int fl), .val (.ref b1), .val (.int (fAtEnd len)), .val (.long len), .second, .unset, .unset] [(.int (nar .boolean (nar .boolean fl)))]))
      refine Rch.go (fun t k => XS.istore X7.here hx rfl (hb hby at_94) rfl (l' := #[.val (.long q1), .second, .val (.int p2), .val (.int p3), .val (.int (p2 &&& (3 : Int32))), .val (.long len), .second, .val (.int fl), .val (.ref b1), .val (.int (fAtEnd len)), .val (.long len), .second, .val (.int (nar .boolean (nar .boolean fl))), .unset]) rfl k) ?_
      show Rch _ _ _ _ (T7.setTop (mkF m 96 #[.val (.long q1), .second, .val (.int p2), .val (.int p3), .val (.int (p2 &&& (3 : Int32))), .val (.long len), .second, .val (.int fl), .val (.ref b1), .val (.int (fAtEnd len)), .val (.long len), .second, .val (.int (nar .boolean (nar .boolean fl))), .unset] []))
      refine Rch.go (fun t k => XS.lload X7.here hx rfl (hb hby at_96) rfl k) ?_
      show Rch _ _ _ _ (T7.setTop (mkF m 98 #[.val (.long q1), .second, .val (.int p2), .val (.int p3), .val (.int (p2 &&& (3 : Int32))), .val (.long len), .second, .val (.int fl), .val (.ref b1), .val (.int (fAtEnd len)), .val (.long len), .second, .val (.int (nar .boolean (nar .boolean fl))), .unset] [(.long len)]))
      refine Rch.go (fun t k => XS.lconst X7.here hx rfl (hb hby at_98) k) ?_
      show Rch _ _ _ _ (T7.setTop (mkF m 99 #[.val (.long q1), .second, .val (.int p2), .val (.int p3), .val (.int (p2 &&& (3 : Int32))), .val (.long len), .second, .val (.int fl), .val (.ref b1), .val (.int (fAtEnd len)), .val (.long len), .second, .val (.int (nar .boolean (nar .boolean fl))), .unset] [(.long (0 : Int64)), (.long len)]))
      refine Rch.go (fun t k => XS.lcmp X7.here hx rfl (hb hby at_99) rfl k) ?_
      show Rch _ _ _ _ (T7.setTop (mkF m 100 #[.val (.long q1), .second, .val (.int p2), .val (.int p3), .val (.int (p2 &&& (3 : Int32))), .val (.long len), .second, .val (.int fl), .val (.ref b1), .val (.int (fAtEnd len)), .val (.long len), .second, .val (.int (nar .boolean (nar .boolean fl))), .unset] [(.int (lcmpW len (0 : Int64)))]))
      by_cases hc100_8 : (lcmpW len (0 : Int64)) = (0 : Int32)
      · skip
        refine Rch.go (fun t k => XS.ifNo X7.here hx rfl (hb hby at_100) rfl ((if0 _ _).trans (teq hc100_8).2) k) ?_
        show Rch _ _ _ _ (T7.setTop (mkF m 103 #[.val (.long q1), .second, .val (.int p2), .val (.int p3), .val (.int (p2 &&& (3 : Int32))), .val (.long len), .second, .val (.int fl), .val (.ref b1), .val (.int (fAtEnd len)), .val (.long len), .second, .val (.int (nar .boolean (nar .boolean fl))), .unset] []))
        refine Rch.go (fun t k => XS.iconst X7.here hx rfl (hb hby at_103) k) ?_
        show Rch _ _ _ _ (T7.setTop (mkF m 104 #[.val (.long q1), .second, .val (.int p2), .val (.int p3), .val (.int (p2 &&& (3 : Int32))), .val (.long len), .second, .val (.int fl), .val (.ref b1), .val (.int (fAtEnd len)), .val (.long len), .second, .val (.int (nar .boolean (nar .boolean fl))), .unset] [(.int (1 : Int32))]))
        refine Rch.go (fun t k => XS.goto X7.here hx rfl (pc0 := 104) (pc' := 108) rfl (hb hby at_104) (by decide) (by decide) k) ?_
        show Rch _ _ _ _ (T7.setTop (mkF m 108 #[.val (.long q1), .second, .val (.int p2), .val (.int p3), .val (.int (p2 &&& (3 : Int32))), .val (.long len), .second, .val (.int fl), .val (.ref b1), .val (.int (fAtEnd len)), .val (.long len), .second, .val (.int (nar .boolean (nar .boolean fl))), .unset] [(.int (1 : Int32))]))
        refine Rch.go (fun t k => XS.istore X7.here hx rfl (hb hby at_108) rfl (l' := #[.val (.long q1), .second, .val (.int p2), .val (.int p3), .val (.int (p2 &&& (3 : Int32))), .val (.long len), .second, .val (.int fl), .val (.ref b1), .val (.int (fAtEnd len)), .val (.long len), .second, .val (.int (nar .boolean (nar .boolean fl))), .val (.int (1 : Int32))]) rfl k) ?_
        show Rch _ _ _ _ (T7.setTop (mkF m 110 #[.val (.long q1), .second, .val (.int p2), .val (.int p3), .val (.int (p2 &&& (3 : Int32))), .val (.long len), .second, .val (.int fl), .val (.ref b1), .val (.int (fAtEnd len)), .val (.long len), .second, .val (.int (nar .boolean (nar .boolean fl))), .val (.int (1 : Int32))] []))
        refine Rch.go (fun t k => XS.iload X7.here hx rfl (hb hby at_110) rfl k) ?_
        show Rch _ _ _ _ (T7.setTop (mkF m 112 #[.val (.long q1), .second, .val (.int p2), .val (.int p3), .val (.int (p2 &&& (3 : Int32))), .val (.long len), .second, .val (.int fl), .val (.ref b1), .val (.int (fAtEnd len)), .val (.long len), .second, .val (.int (nar .boolean (nar .boolean fl))), .val (.int (1 : Int32))] [(.int (fAtEnd len))]))
        refine Rch.go (fun t k => XS.iload X7.here hx rfl (hb hby at_112) rfl k) ?_
        show Rch _ _ _ _ (T7.setTop (mkF m 114 #[.val (.long q1), .second, .val (.int p2), .val (.int p3), .val (.int (p2 &&& (3 : Int32))), .val (.long len), .second, .val (.int fl), .val (.ref b1), .val (.int (fAtEnd len)), .val (.long len), .second, .val (.int (nar .boolean (nar .boolean fl))), .val (.int (1 : Int32))] [(.int (1 : Int32)), (.int (fAtEnd len))]))
        refine Rch.go (fun t k => XS.icmpNo X7.here hx rfl (hb hby at_114) rfl (teq (if_pos hc100_8 : (fAtEnd len) = (1 : Int32))).2 k) ?_
        show Rch _ _ _ _ (T7.setTop (mkF m 117 #[.val (.long q1), .second, .val (.int p2), .val (.int p3), .val (.int (p2 &&& (3 : Int32))), .val (.long len), .second, .val (.int fl), .val (.ref b1), .val (.int (fAtEnd len)), .val (.long len), .second, .val (.int (nar .boolean (nar .boolean fl))), .val (.int (1 : Int32))] []))
        refine Rch.go (fun t k => XS.iload X7.here hx rfl (hb hby at_117) rfl k) ?_
        show Rch _ _ _ _ (T7.setTop (mkF m 119 #[.val (.long q1), .second, .val (.int p2), .val (.int p3), .val (.int (p2 &&& (3 : Int32))), .val (.long len), .second, .val (.int fl), .val (.ref b1), .val (.int (fAtEnd len)), .val (.long len), .second, .val (.int (nar .boolean (nar .boolean fl))), .val (.int (1 : Int32))] [(.int (fAtEnd len))]))
        refine Rch.go (fun t k => XS.lload X7.here hx rfl (hb hby at_119) rfl k) ?_
        show Rch _ _ _ _ (T7.setTop (mkF m 121 #[.val (.long q1), .second, .val (.int p2), .val (.int p3), .val (.int (p2 &&& (3 : Int32))), .val (.long len), .second, .val (.int fl), .val (.ref b1), .val (.int (fAtEnd len)), .val (.long len), .second, .val (.int (nar .boolean (nar .boolean fl))), .val (.int (1 : Int32))] [(.long len), (.int (fAtEnd len))]))
        refine Rch.go (fun t k => XS.lconst X7.here hx rfl (hb hby at_121) k) ?_
        show Rch _ _ _ _ (T7.setTop (mkF m 122 #[.val (.long q1), .second, .val (.int p2), .val (.int p3), .val (.int (p2 &&& (3 : Int32))), .val (.long len), .second, .val (.int fl), .val (.ref b1), .val (.int (fAtEnd len)), .val (.long len), .second, .val (.int (nar .boolean (nar .boolean fl))), .val (.int (1 : Int32))] [(.long (0 : Int64)), (.long len), (.int (fAtEnd len))]))
        refine Rch.go (fun t k => XS.lcmp X7.here hx rfl (hb hby at_122) rfl k) ?_
        show Rch _ _ _ _ (T7.setTop (mkF m 123 #[.val (.long q1), .second, .val (.int p2), .val (.int p3), .val (.int (p2 &&& (3 : Int32))), .val (.long len), .second, .val (.int fl), .val (.ref b1), .val (.int (fAtEnd len)), .val (.long len), .second, .val (.int (nar .boolean (nar .boolean fl))), .val (.int (1 : Int32))] [(.int (lcmpW len (0 : Int64))), (.int (fAtEnd len))]))
        refine Rch.go (fun t k => XS.ifNo X7.here hx rfl (hb hby at_123) rfl ((if0 _ _).trans (teq hc100_8).2) k) ?_
        show Rch _ _ _ _ (T7.setTop (mkF m 126 #[.val (.long q1), .second, .val (.int p2), .val (.int p3), .val (.int (p2 &&& (3 : Int32))), .val (.long len), .second, .val (.int fl), .val (.ref b1), .val (.int (fAtEnd len)), .val (.long len), .second, .val (.int (nar .boolean (nar .boolean fl))), .val (.int (1 : Int32))] [(.int (fAtEnd len))]))
        refine Rch.go (fun t k => XS.iconst X7.here hx rfl (hb hby at_126) k) ?_
        show Rch _ _ _ _ (T7.setTop (mkF m 127 #[.val (.long q1), .second, .val (.int p2), .val (.int p3), .val (.int (p2 &&& (3 : Int32))), .val (.long len), .second, .val (.int fl), .val (.ref b1), .val (.int (fAtEnd len)), .val (.long len), .second, .val (.int (nar .boolean (nar .boolean fl))), .val (.int (1 : Int32))] [(.int (1 : Int32)), (.int (fAtEnd len))]))
        refine Rch.go (fun t k => XS.goto X7.here hx rfl (pc0 := 127) (pc' := 131) rfl (hb hby at_127) (by decide) (by decide) k) ?_
        show Rch _ _ _ _ (T7.setTop (mkF m 131 #[.val (.long q1), .second, .val (.int p2), .val (.int p3), .val (.int (p2 &&& (3 : Int32))), .val (.long len), .second, .val (.int fl), .val (.ref b1), .val (.int (fAtEnd len)), .val (.long len), .second, .val (.int (nar .boolean (nar .boolean fl))), .val (.int (1 : Int32))] [(.int (1 : Int32)), (.int (fAtEnd len))]))
        refine Rch.go (fun t k => XS.icmpNo X7.here hx rfl (hb hby at_131) rfl (teq (if_pos hc100_8 : (fAtEnd len) = (1 : Int32))).2 k) ?_
        show Rch _ _ _ _ (T7.setTop (mkF m 134 #[.val (.long q1), .second, .val (.int p2), .val (.int p3), .val (.int (p2 &&& (3 : Int32))), .val (.long len), .second, .val (.int fl), .val (.ref b1), .val (.int (fAtEnd len)), .val (.long len), .second, .val (.int (nar .boolean (nar .boolean fl))), .val (.int (1 : Int32))] []))
        refine Rch.go (fun t k => XS.lload X7.here hx rfl (hb hby at_134) rfl k) ?_
        show Rch _ _ _ _ (T7.setTop (mkF m 136 #[.val (.long q1), .second, .val (.int p2), .val (.int p3), .val (.int (p2 &&& (3 : Int32))), .val (.long len), .second, .val (.int fl), .val (.ref b1), .val (.int (fAtEnd len)), .val (.long len), .second, .val (.int (nar .boolean (nar .boolean fl))), .val (.int (1 : Int32))] [(.long len)]))
        refine Rch.go (fun t k => XS.lload X7.here hx rfl (hb hby at_136) rfl k) ?_
        show Rch _ _ _ _ (T7.setTop (mkF m 138 #[.val (.long q1), .second, .val (.int p2), .val (.int p3), .val (.int (p2 &&& (3 : Int32))), .val (.long len), .second, .val (.int fl), .val (.ref b1), .val (.int (fAtEnd len)), .val (.long len), .second, .val (.int (nar .boolean (nar .boolean fl))), .val (.int (1 : Int32))] [(.long len), (.long len)]))
        refine Rch.go (fun t k => XS.lcmp X7.here hx rfl (hb hby at_138) rfl k) ?_
        show Rch _ _ _ _ (T7.setTop (mkF m 139 #[.val (.long q1), .second, .val (.int p2), .val (.int p3), .val (.int (p2 &&& (3 : Int32))), .val (.long len), .second, .val (.int fl), .val (.ref b1), .val (.int (fAtEnd len)), .val (.long len), .second, .val (.int (nar .boolean (nar .boolean fl))), .val (.int (1 : Int32))] [(.int (lcmpW len len))]))
        refine Rch.go (fun t k => XS.ifNo X7.here hx rfl (hb hby at_139) rfl ((if0 _ _).trans (teq ((lw_eq _ _).mpr rfl : (lcmpW len len) = (0 : Int32))).2) k) ?_
        show Rch _ _ _ _ (T7.setTop (mkF m 142 #[.val (.long q1), .second, .val (.int p2), .val (.int p3), .val (.int (p2 &&& (3 : Int32))), .val (.long len), .second, .val (.int fl), .val (.ref b1), .val (.int (fAtEnd len)), .val (.long len), .second, .val (.int (nar .boolean (nar .boolean fl))), .val (.int (1 : Int32))] []))
        refine Rch.go (fun t k => XS.iload X7.here hx rfl (hb hby at_142) rfl k) ?_
        show Rch _ _ _ _ (T7.setTop (mkF m 144 #[.val (.long q1), .second, .val (.int p2), .val (.int p3), .val (.int (p2 &&& (3 : Int32))), .val (.long len), .second, .val (.int fl), .val (.ref b1), .val (.int (fAtEnd len)), .val (.long len), .second, .val (.int (nar .boolean (nar .boolean fl))), .val (.int (1 : Int32))] [(.int (nar .boolean (nar .boolean fl)))]))
        refine Rch.go (fun t k => XS.iload X7.here hx rfl (hb hby at_144) rfl k) ?_
        show Rch _ _ _ _ (T7.setTop (mkF m 146 #[.val (.long q1), .second, .val (.int p2), .val (.int p3), .val (.int (p2 &&& (3 : Int32))), .val (.long len), .second, .val (.int fl), .val (.ref b1), .val (.int (fAtEnd len)), .val (.long len), .second, .val (.int (nar .boolean (nar .boolean fl))), .val (.int (1 : Int32))] [(.int fl), (.int (nar .boolean (nar .boolean fl)))]))
        refine Rch.go (fun t k => XS.icmpNo X7.here hx rfl (hb hby at_146) rfl (teq (own_bool hfl : (nar .boolean (nar .boolean fl)) = fl)).2 k) ?_
        show Rch _ _ _ _ (T7.setTop (mkF m 149 #[.val (.long q1), .second, .val (.int p2), .val (.int p3), .val (.int (p2 &&& (3 : Int32))), .val (.long len), .second, .val (.int fl), .val (.ref b1), .val (.int (fAtEnd len)), .val (.long len), .second, .val (.int (nar .boolean (nar .boolean fl))), .val (.int (1 : Int32))] []))
        refine Rch.go (fun t k => XS.iconst X7.here hx rfl (hb hby at_149) k) ?_
        show Rch _ _ _ _ (T7.setTop (mkF m 150 #[.val (.long q1), .second, .val (.int p2), .val (.int p3), .val (.int (p2 &&& (3 : Int32))), .val (.long len), .second, .val (.int fl), .val (.ref b1), .val (.int (fAtEnd len)), .val (.long len), .second, .val (.int (nar .boolean (nar .boolean fl))), .val (.int (1 : Int32))] [(.int (1 : Int32))]))
        refine Rch.go (fun t k => XS.goto X7.here hx rfl (pc0 := 150) (pc' := 154) rfl (hb hby at_150) (by decide) (by decide) k) ?_
        show Rch _ _ _ _ (T7.setTop (mkF m 154 #[.val (.long q1), .second, .val (.int p2), .val (.int p3), .val (.int (p2 &&& (3 : Int32))), .val (.long len), .second, .val (.int fl), .val (.ref b1), .val (.int (fAtEnd len)), .val (.long len), .second, .val (.int (nar .boolean (nar .boolean fl))), .val (.int (1 : Int32))] [(.int (1 : Int32))]))
        obtain ⟨fs, hr, hrun, hended, hW, hsame⟩ := X7.leave (v := some (.int (1 : Int32))) (fun h => by rw [Bd.returns] at h; cases h)
        refine Rch.mk (retN X7 hx (t := .boolean) Bd.returns (by simp) (hb hby at_154) hr) (hPd _ _ _ _ hrun hended rfl ?_ ⟨⟨_, rfl⟩, hW, hsame.mono (by decide) (by decide)⟩)
        show Q_rm0 Z q1 p2 p3 h0 n0 _ T7.heap _
        exact ⟨rfl, N7⟩
      · skip
        refine Rch.go (fun t k => XS.ifYes X7.here hx rfl (pc0 := 100) (pc' := 107) rfl (hb hby at_100) rfl ((if0 _ _).trans (feq hc100_8).2) (by decide) (by decide) k) ?_
        show Rch _ _ _ _ (T7.setTop (mkF m 107 #[.val (.long q1), .second, .val (.int p2), .val (.int p3), .val (.int (p2 &&& (3 : Int32))), .val (.long len), .second, .val (.int fl), .val (.ref b1), .val (.int (fAtEnd len)), .val (.long len), .second, .val (.int (nar .boolean (nar .boolean fl))), .unset] []))
        refine Rch.go (fun t k => XS.iconst X7.here hx rfl (hb hby at_107) k) ?_
        show Rch _ _ _ _ (T7.setTop (mkF m 108 #[.val (.long q1), .second, .val (.int p2), .val (.int p3), .val (.int (p2 &&& (3 : Int32))), .val (.long len), .second, .val (.int fl), .val (.ref b1), .val (.int (fAtEnd len)), .val (.long len), .second, .val (.int (nar .boolean (nar .boolean fl))), .unset] [(.int (0 : Int32))]))
        refine Rch.go (fun t k => XS.istore X7.here hx rfl (hb hby at_108) rfl (l' := #[.val (.long q1), .second, .val (.int p2), .val (.int p3), .val (.int (p2 &&& (3 : Int32))), .val (.long len), .second, .val (.int fl), .val (.ref b1), .val (.int (fAtEnd len)), .val (.long len), .second, .val (.int (nar .boolean (nar .boolean fl))), .val (.int (0 : Int32))]) rfl k) ?_
        show Rch _ _ _ _ (T7.setTop (mkF m 110 #[.val (.long q1), .second, .val (.int p2), .val (.int p3), .val (.int (p2 &&& (3 : Int32))), .val (.long len), .second, .val (.int fl), .val (.ref b1), .val (.int (fAtEnd len)), .val (.long len), .second, .val (.int (nar .boolean (nar .boolean fl))), .val (.int (0 : Int32))] []))
        refine Rch.go (fun t k => XS.iload X7.here hx rfl (hb hby at_110) rfl k) ?_
        show Rch _ _ _ _ (T7.setTop (mkF m 112 #[.val (.long q1), .second, .val (.int p2), .val (.int p3), .val (.int (p2 &&& (3 : Int32))), .val (.long len), .second, .val (.int fl), .val (.ref b1), .val (.int (fAtEnd len)), .val (.long len), .second, .val (.int (nar .boolean (nar .boolean fl))), .val (.int (0 : Int32))] [(.int (fAtEnd len))]))
        refine Rch.go (fun t k => XS.iload X7.here hx rfl (hb hby at_112) rfl k) ?_
        show Rch _ _ _ _ (T7.setTop (mkF m 114 #[.val (.long q1), .second, .val (.int p2), .val (.int p3), .val (.int (p2 &&& (3 : Int32))), .val (.long len), .second, .val (.int fl), .val (.ref b1), .val (.int (fAtEnd len)), .val (.long len), .second, .val (.int (nar .boolean (nar .boolean fl))), .val (.int (0 : Int32))] [(.int (0 : Int32)), (.int (fAtEnd len))]))
        refine Rch.go (fun t k => XS.icmpNo X7.here hx rfl (hb hby at_114) rfl (teq (if_neg hc100_8 : (fAtEnd len) = (0 : Int32))).2 k) ?_
        show Rch _ _ _ _ (T7.setTop (mkF m 117 #[.val (.long q1), .second, .val (.int p2), .val (.int p3), .val (.int (p2 &&& (3 : Int32))), .val (.long len), .second, .val (.int fl), .val (.ref b1), .val (.int (fAtEnd len)), .val (.long len), .second, .val (.int (nar .boolean (nar .boolean fl))), .val (.int (0 : Int32))] []))
        refine Rch.go (fun t k => XS.iload X7.here hx rfl (hb hby at_117) rfl k) ?_
        show Rch _ _ _ _ (T7.setTop (mkF m 119 #[.val (.long q1), .second, .val (.int p2), .val (.int p3), .val (.int (p2 &&& (3 : Int32))), .val (.long len), .second, .val (.int fl), .val (.ref b1), .val (.int (fAtEnd len)), .val (.long len), .second, .val (.int (nar .boolean (nar .boolean fl))), .val (.int (0 : Int32))] [(.int (fAtEnd len))]))
        refine Rch.go (fun t k => XS.lload X7.here hx rfl (hb hby at_119) rfl k) ?_
        show Rch _ _ _ _ (T7.setTop (mkF m 121 #[.val (.long q1), .second, .val (.int p2), .val (.int p3), .val (.int (p2 &&& (3 : Int32))), .val (.long len), .second, .val (.int fl), .val (.ref b1), .val (.int (fAtEnd len)), .val (.long len), .second, .val (.int (nar .boolean (nar .boolean fl))), .val (.int (0 : Int32))] [(.long len), (.int (fAtEnd len))]))
        refine Rch.go (fun t k => XS.lconst X7.here hx rfl (hb hby at_121) k) ?_
        show Rch _ _ _ _ (T7.setTop (mkF m 122 #[.val (.long q1), .second, .val (.int p2), .val (.int p3), .val (.int (p2 &&& (3 : Int32))), .val (.long len), .second, .val (.int fl), .val (.ref b1), .val (.int (fAtEnd len)), .val (.long len), .second, .val (.int (nar .boolean (nar .boolean fl))), .val (.int (0 : Int32))] [(.long (0 : Int64)), (.long len), (.int (fAtEnd len))]))
        refine Rch.go (fun t k => XS.lcmp X7.here hx rfl (hb hby at_122) rfl k) ?_
        show Rch _ _ _ _ (T7.setTop (mkF m 123 #[.val (.long q1), .second, .val (.int p2), .val (.int p3), .val (.int (p2 &&& (3 : Int32))), .val (.long len), .second, .val (.int fl), .val (.ref b1), .val (.int (fAtEnd len)), .val (.long len), .second, .val (.int (nar .boolean (nar .boolean fl))), .val (.int (0 : Int32))] [(.int (lcmpW len (0 : Int64))), (.int (fAtEnd len))]))
        refine Rch.go (fun t k => XS.ifYes X7.here hx rfl (pc0 := 123) (pc' := 130) rfl (hb hby at_123) rfl ((if0 _ _).trans (feq hc100_8).2) (by decide) (by decide) k) ?_
        show Rch _ _ _ _ (T7.setTop (mkF m 130 #[.val (.long q1), .second, .val (.int p2), .val (.int p3), .val (.int (p2 &&& (3 : Int32))), .val (.long len), .second, .val (.int fl), .val (.ref b1), .val (.int (fAtEnd len)), .val (.long len), .second, .val (.int (nar .boolean (nar .boolean fl))), .val (.int (0 : Int32))] [(.int (fAtEnd len))]))
        refine Rch.go (fun t k => XS.iconst X7.here hx rfl (hb hby at_130) k) ?_
        show Rch _ _ _ _ (T7.setTop (mkF m 131 #[.val (.long q1), .second, .val (.int p2), .val (.int p3), .val (.int (p2 &&& (3 : Int32))), .val (.long len), .second, .val (.int fl), .val (.ref b1), .val (.int (fAtEnd len)), .val (.long len), .second, .val (.int (nar .boolean (nar .boolean fl))), .val (.int (0 : Int32))] [(.int (0 : Int32)), (.int (fAtEnd len))]))
        refine Rch.go (fun t k => XS.icmpNo X7.here hx rfl (hb hby at_131) rfl (teq (if_neg hc100_8 : (fAtEnd len) = (0 : Int32))).2 k) ?_
        show Rch _ _ _ _ (T7.setTop (mkF m 134 #[.val (.long q1), .second, .val (.int p2), .val (.int p3), .val (.int (p2 &&& (3 : Int32))), .val (.long len), .second, .val (.int fl), .val (.ref b1), .val (.int (fAtEnd len)), .val (.long len), .second, .val (.int (nar .boolean (nar .boolean fl))), .val (.int (0 : Int32))] []))
        refine Rch.go (fun t k => XS.lload X7.here hx rfl (hb hby at_134) rfl k) ?_
        show Rch _ _ _ _ (T7.setTop (mkF m 136 #[.val (.long q1), .second, .val (.int p2), .val (.int p3), .val (.int (p2 &&& (3 : Int32))), .val (.long len), .second, .val (.int fl), .val (.ref b1), .val (.int (fAtEnd len)), .val (.long len), .second, .val (.int (nar .boolean (nar .boolean fl))), .val (.int (0 : Int32))] [(.long len)]))
        refine Rch.go (fun t k => XS.lload X7.here hx rfl (hb hby at_136) rfl k) ?_
        show Rch _ _ _ _ (T7.setTop (mkF m 138 #[.val (.long q1), .second, .val (.int p2), .val (.int p3), .val (.int (p2 &&& (3 : Int32))), .val (.long len), .second, .val (.int fl), .val (.ref b1), .val (.int (fAtEnd len)), .val (.long len), .second, .val (.int (nar .boolean (nar .boolean fl))), .val (.int (0 : Int32))] [(.long len), (.long len)]))
        refine Rch.go (fun t k => XS.lcmp X7.here hx rfl (hb hby at_138) rfl k) ?_
        show Rch _ _ _ _ (T7.setTop (mkF m 139 #[.val (.long q1), .second, .val (.int p2), .val (.int p3), .val (.int (p2 &&& (3 : Int32))), .val (.long len), .second, .val (.int fl), .val (.ref b1), .val (.int (fAtEnd len)), .val (.long len), .second, .val (.int (nar .boolean (nar .boolean fl))), .val (.int (0 : Int32))] [(.int (lcmpW len len))]))
        refine Rch.go (fun t k => XS.ifNo X7.here hx rfl (hb hby at_139) rfl ((if0 _ _).trans (teq ((lw_eq _ _).mpr rfl : (lcmpW len len) = (0 : Int32))).2) k) ?_
        show Rch _ _ _ _ (T7.setTop (mkF m 142 #[.val (.long q1), .second, .val (.int p2), .val (.int p3), .val (.int (p2 &&& (3 : Int32))), .val (.long len), .second, .val (.int fl), .val (.ref b1), .val (.int (fAtEnd len)), .val (.long len), .second, .val (.int (nar .boolean (nar .boolean fl))), .val (.int (0 : Int32))] []))
        refine Rch.go (fun t k => XS.iload X7.here hx rfl (hb hby at_142) rfl k) ?_
        show Rch _ _ _ _ (T7.setTop (mkF m 144 #[.val (.long q1), .second, .val (.int p2), .val (.int p3), .val (.int (p2 &&& (3 : Int32))), .val (.long len), .second, .val (.int fl), .val (.ref b1), .val (.int (fAtEnd len)), .val (.long len), .second, .val (.int (nar .boolean (nar .boolean fl))), .val (.int (0 : Int32))] [(.int (nar .boolean (nar .boolean fl)))]))
        refine Rch.go (fun t k => XS.iload X7.here hx rfl (hb hby at_144) rfl k) ?_
        show Rch _ _ _ _ (T7.setTop (mkF m 146 #[.val (.long q1), .second, .val (.int p2), .val (.int p3), .val (.int (p2 &&& (3 : Int32))), .val (.long len), .second, .val (.int fl), .val (.ref b1), .val (.int (fAtEnd len)), .val (.long len), .second, .val (.int (nar .boolean (nar .boolean fl))), .val (.int (0 : Int32))] [(.int fl), (.int (nar .boolean (nar .boolean fl)))]))
        refine Rch.go (fun t k => XS.icmpNo X7.here hx rfl (hb hby at_146) rfl (teq (own_bool hfl : (nar .boolean (nar .boolean fl)) = fl)).2 k) ?_
        show Rch _ _ _ _ (T7.setTop (mkF m 149 #[.val (.long q1), .second, .val (.int p2), .val (.int p3), .val (.int (p2 &&& (3 : Int32))), .val (.long len), .second, .val (.int fl), .val (.ref b1), .val (.int (fAtEnd len)), .val (.long len), .second, .val (.int (nar .boolean (nar .boolean fl))), .val (.int (0 : Int32))] []))
        refine Rch.go (fun t k => XS.iconst X7.here hx rfl (hb hby at_149) k) ?_
        show Rch _ _ _ _ (T7.setTop (mkF m 150 #[.val (.long q1), .second, .val (.int p2), .val (.int p3), .val (.int (p2 &&& (3 : Int32))), .val (.long len), .second, .val (.int fl), .val (.ref b1), .val (.int (fAtEnd len)), .val (.long len), .second, .val (.int (nar .boolean (nar .boolean fl))), .val (.int (0 : Int32))] [(.int (1 : Int32))]))
        refine Rch.go (fun t k => XS.goto X7.here hx rfl (pc0 := 150) (pc' := 154) rfl (hb hby at_150) (by decide) (by decide) k) ?_
        show Rch _ _ _ _ (T7.setTop (mkF m 154 #[.val (.long q1), .second, .val (.int p2), .val (.int p3), .val (.int (p2 &&& (3 : Int32))), .val (.long len), .second, .val (.int fl), .val (.ref b1), .val (.int (fAtEnd len)), .val (.long len), .second, .val (.int (nar .boolean (nar .boolean fl))), .val (.int (0 : Int32))] [(.int (1 : Int32))]))
        obtain ⟨fs, hr, hrun, hended, hW, hsame⟩ := X7.leave (v := some (.int (1 : Int32))) (fun h => by rw [Bd.returns] at h; cases h)
        refine Rch.mk (retN X7 hx (t := .boolean) Bd.returns (by simp) (hb hby at_154) hr) (hPd _ _ _ _ hrun hended rfl ?_ ⟨⟨_, rfl⟩, hW, hsame.mono (by decide) (by decide)⟩)
        show Q_rm0 Z q1 p2 p3 h0 n0 _ T7.heap _
        exact ⟨rfl, N7⟩
    refine Rch.go (fun t k => XS.iloadN X0.here hx rfl (hb hby at_49) rfl k) ?_
    show Rch _ _ _ _ (s₁.setTop (mkF m 50 #[.val (.long q1), .second, .val (.int p2), .val (.int p3), .val (.int (p2 &&& (3 : Int32))), .val (.long len), .second, .unset, .unset, .unset, .unset, .unset, .unset, .unset] [(.int p3)]))
    refine Rch.go (fun t k => XS.iconst X0.here hx rfl (hb hby at_50) k) ?_
    show Rch _ _ _ _ (s₁.setTop (mkF m 51 #[.val (.long q1), .second, .val (.int p2), .val (.int p3), .val (.int (p2 &&& (3 : Int32))), .val (.long len), .second, .unset, .unset, .unset, .unset, .unset, .unset, .unset] [(.int (1 : Int32)), (.int p3)]))
    refine Rch.go (fun t k => XS.iand X0.here hx rfl (hb hby at_51) rfl k) ?_
    show Rch _ _ _ _ (s₁.setTop (mkF m 52 #[.val (.long q1), .second, .val (.int p2), .val (.int p3), .val (.int (p2 &&& (3 : Int32))), .val (.long len), .second, .unset, .unset, .unset, .unset, .unset, .unset, .unset] [(.int (p3 &&& (1 : Int32)))]))
    by_cases hc52_9 : (p3 &&& (1 : Int32)) = (0 : Int32)
    · skip
      refine Rch.go (fun t k => XS.ifYes X0.here hx rfl (pc0 := 52) (pc' := 59) rfl (hb hby at_52) rfl ((if0 _ _).trans (teq hc52_9).1) (by decide) (by decide) k) ?_
      show Rch _ _ _ _ (s₁.setTop (mkF m 59 #[.val (.long q1), .second, .val (.int p2), .val (.int p3), .val (.int (p2 &&& (3 : Int32))), .val (.long len), .second, .unset, .unset, .unset, .unset, .unset, .unset, .unset] []))
      refine Rch.go (fun t k => XS.iconst X0.here hx rfl (hb hby at_59) k) ?_
      show Rch _ _ _ _ (s₁.setTop (mkF m 60 #[.val (.long q1), .second, .val (.int p2), .val (.int p3), .val (.int (p2 &&& (3 : Int32))), .val (.long len), .second, .unset, .unset, .unset, .unset, .unset, .unset, .unset] [(.int (0 : Int32))]))
      exact j60 _ (by decide)
    · skip
      refine Rch.go (fun t k => XS.ifNo X0.here hx rfl (hb hby at_52) rfl ((if0 _ _).trans (feq hc52_9).1) k) ?_
      show Rch _ _ _ _ (s₁.setTop (mkF m 55 #[.val (.long q1), .second, .val (.int p2), .val (.int p3), .val (.int (p2 &&& (3 : Int32))), .val (.long len), .second, .unset, .unset, .unset, .unset, .unset, .unset, .unset] []))
      refine Rch.go (fun t k => XS.iconst X0.here hx rfl (hb hby at_55) k) ?_
      show Rch _ _ _ _ (s₁.setTop (mkF m 56 #[.val (.long q1), .second, .val (.int p2), .val (.int p3), .val (.int (p2 &&& (3 : Int32))), .val (.long len), .second, .unset, .unset, .unset, .unset, .unset, .unset, .unset] [(.int (1 : Int32))]))
      refine Rch.go (fun t k => XS.goto X0.here hx rfl (pc0 := 56) (pc' := 60) rfl (hb hby at_56) (by decide) (by decide) k) ?_
      show Rch _ _ _ _ (s₁.setTop (mkF m 60 #[.val (.long q1), .second, .val (.int p2), .val (.int p3), .val (.int (p2 &&& (3 : Int32))), .val (.long len), .second, .unset, .unset, .unset, .unset, .unset, .unset, .unset] [(.int (1 : Int32))]))
      exact j60 _ (by decide)
  refine Rch.go (fun t k => XS.iloadN X0.here hx rfl (hb hby at_0) rfl k) ?_
  show Rch _ _ _ _ (s₁.setTop (mkF m 1 #[.val (.long q1), .second, .val (.int p2), .val (.int p3), .unset, .unset, .unset, .unset, .unset, .unset, .unset, .unset, .unset, .unset] [(.int p2)]))
  refine Rch.go (fun t k => XS.iconst X0.here hx rfl (hb hby at_1) k) ?_
  show Rch _ _ _ _ (s₁.setTop (mkF m 2 #[.val (.long q1), .second, .val (.int p2), .val (.int p3), .unset, .unset, .unset, .unset, .unset, .unset, .unset, .unset, .unset, .unset] [(.int (3 : Int32)), (.int p2)]))
  refine Rch.go (fun t k => XS.iand X0.here hx rfl (hb hby at_2) rfl k) ?_
  show Rch _ _ _ _ (s₁.setTop (mkF m 3 #[.val (.long q1), .second, .val (.int p2), .val (.int p3), .unset, .unset, .unset, .unset, .unset, .unset, .unset, .unset, .unset, .unset] [(.int (p2 &&& (3 : Int32)))]))
  refine Rch.go (fun t k => XS.istore X0.here hx rfl (hb hby at_3) rfl (l' := #[.val (.long q1), .second, .val (.int p2), .val (.int p3), .val (.int (p2 &&& (3 : Int32))), .unset, .unset, .unset, .unset, .unset, .unset, .unset, .unset, .unset]) rfl k) ?_
  show Rch _ _ _ _ (s₁.setTop (mkF m 5 #[.val (.long q1), .second, .val (.int p2), .val (.int p3), .val (.int (p2 &&& (3 : Int32))), .unset, .unset, .unset, .unset, .unset, .unset, .unset, .unset, .unset] []))
  refine Rch.go (fun t k => XS.iload X0.here hx rfl (hb hby at_5) rfl k) ?_
  show Rch _ _ _ _ (s₁.setTop (mkF m 7 #[.val (.long q1), .second, .val (.int p2), .val (.int p3), .val (.int (p2 &&& (3 : Int32))), .unset, .unset, .unset, .unset, .unset, .unset, .unset, .unset, .unset] [(.int (p2 &&& (3 : Int32)))]))
  by_cases hc7_10 : (p2 &&& (3 : Int32)) = (0 : Int32)
  · skip
    refine Rch.go (fun t k => XS.ifNo X0.here hx rfl (hb hby at_7) rfl ((if0 _ _).trans (teq hc7_10).2) k) ?_
    show Rch _ _ _ _ (s₁.setTop (mkF m 10 #[.val (.long q1), .second, .val (.int p2), .val (.int p3), .val (.int (p2 &&& (3 : Int32))), .unset, .unset, .unset, .unset, .unset, .unset, .unset, .unset, .unset] []))
    refine Rch.go (fun t k => XS.lconst X0.here hx rfl (hb hby at_10) k) ?_
    show Rch _ _ _ _ (s₁.setTop (mkF m 11 #[.val (.long q1), .second, .val (.int p2), .val (.int p3), .val (.int (p2 &&& (3 : Int32))), .unset, .unset, .unset, .unset, .unset, .unset, .unset, .unset, .unset] [(.long (0 : Int64))]))
    refine Rch.go (fun t k => XS.lstore X0.here hx rfl (hb hby at_11) rfl (l' := #[.val (.long q1), .second, .val (.int p2), .val (.int p3), .val (.int (p2 &&& (3 : Int32))), .val (.long (0 : Int64)), .second, .unset, .unset, .unset, .unset, .unset, .unset, .unset]) rfl k) ?_
    show Rch _ _ _ _ (s₁.setTop (mkF m 13 #[.val (.long q1), .second, .val (.int p2), .val (.int p3), .val (.int (p2 &&& (3 : Int32))), .val (.long (0 : Int64)), .second, .unset, .unset, .unset, .unset, .unset, .unset, .unset] []))
    refine Rch.go (fun t k => XS.goto X0.here hx rfl (pc0 := 13) (pc' := 49) rfl (hb hby at_13) (by decide) (by decide) k) ?_
    show Rch _ _ _ _ (s₁.setTop (mkF m 49 #[.val (.long q1), .second, .val (.int p2), .val (.int p3), .val (.int (p2 &&& (3 : Int32))), .val (.long (0 : Int64)), .second, .unset, .unset, .unset, .unset, .unset, .unset, .unset] []))
    exact j49 _ 
  · skip
    refine Rch.go (fun t k => XS.ifYes X0.here hx rfl (pc0 := 7) (pc' := 16) rfl (hb hby at_7) rfl ((if0 _ _).trans (feq hc7_10).2) (by decide) (by decide) k) ?_
    show Rch _ _ _ _ (s₁.setTop (mkF m 16 #[.val (.long q1), .second, .val (.int p2), .val (.int p3), .val (.int (p2 &&& (3 : Int32))), .unset, .unset, .unset, .unset, .unset, .unset, .unset, .unset, .unset] []))
    refine Rch.go (fun t k => XS.iload X0.here hx rfl (hb hby at_16) rfl k) ?_
    show Rch _ _ _ _ (s₁.setTop (mkF m 18 #[.val (.long q1), .second, .val (.int p2), .val (.int p3), .val (.int (p2 &&& (3 : Int32))), .unset, .unset, .unset, .unset, .unset, .unset, .unset, .unset, .unset] [(.int (p2 &&& (3 : Int32)))]))
    refine Rch.go (fun t k => XS.iconst X0.here hx rfl (hb hby at_18) k) ?_
    show Rch _ _ _ _ (s₁.setTop (mkF m 19 #[.val (.long q1), .second, .val (.int p2), .val (.int p3), .val (.int (p2 &&& (3 : Int32))), .unset, .unset, .unset, .unset, .unset, .unset, .unset, .unset, .unset] [(.int (1 : Int32)), (.int (p2 &&& (3 : Int32)))]))
    by_cases hc19_11 : (p2 &&& (3 : Int32)) = (1 : Int32)
    · skip
      refine Rch.go (fun t k => XS.icmpNo X0.here hx rfl (hb hby at_19) rfl (teq hc19_11).2 k) ?_
      show Rch _ _ _ _ (s₁.setTop (mkF m 22 #[.val (.long q1), .second, .val (.int p2), .val (.int p3), .val (.int (p2 &&& (3 : Int32))), .unset, .unset, .unset, .unset, .unset, .unset, .unset, .unset, .unset] []))
      refine Rch.go (fun t k => XS.lconst X0.here hx rfl (hb hby at_22) k) ?_
      show Rch _ _ _ _ (s₁.setTop (mkF m 23 #[.val (.long q1), .second, .val (.int p2), .val (.int p3), .val (.int (p2 &&& (3 : Int32))), .unset, .unset, .unset, .unset, .unset, .unset, .unset, .unset, .unset] [(.long (1 : Int64))]))
      refine Rch.go (fun t k => XS.lstore X0.here hx rfl (hb hby at_23) rfl (l' := #[.val (.long q1), .second, .val (.int p2), .val (.int p3), .val (.int (p2 &&& (3 : Int32))), .val (.long (1 : Int64)), .second, .unset, .unset, .unset, .unset, .unset, .unset, .unset]) rfl k) ?_
      show Rch _ _ _ _ (s₁.setTop (mkF m 25 #[.val (.long q1), .second, .val (.int p2), .val (.int p3), .val (.int (p2 &&& (3 : Int32))), .val (.long (1 : Int64)), .second, .unset, .unset, .unset, .unset, .unset, .unset, .unset] []))
      refine Rch.go (fun t k => XS.goto X0.here hx rfl (pc0 := 25) (pc' := 49) rfl (hb hby at_25) (by decide) (by decide) k) ?_
      show Rch _ _ _ _ (s₁.setTop (mkF m 49 #[.val (.long q1), .second, .val (.int p2), .val (.int p3), .val (.int (p2 &&& (3 : Int32))), .val (.long (1 : Int64)), .second, .unset, .unset, .unset, .unset, .unset, .unset, .unset] []))
      exact j49 _ 
    · skip
      refine Rch.go (fun t k => XS.icmpYes X0.here hx rfl (pc0 := 19) (pc' := 28) rfl (hb hby at_19) rfl (feq hc19_11).2 (by decide) (by decide) k) ?_
      show Rch _ _ _ _ (s₁.setTop (mkF m 28 #[.val (.long q1), .second, .val (.int p2), .val (.int p3), .val (.int (p2 &&& (3 : Int32))), .unset, .unset, .unset, .unset, .unset, .unset, .unset, .unset, .unset] []))
      refine Rch.go (fun t k => XS.iload X0.here hx rfl (hb hby at_28) rfl k) ?_
      show Rch _ _ _ _ (s₁.setTop (mkF m 30 #[.val (.long q1), .second, .val (.int p2), .val (.int p3), .val (.int (p2 &&& (3 : Int32))), .unset, .unset, .unset, .unset, .unset, .unset, .unset, .unset, .unset] [(.int (p2 &&& (3 : Int32)))]))
      refine Rch.go (fun t k => XS.iconst X0.here hx rfl (hb hby at_30) k) ?_
      show Rch _ _ _ _ (s₁.setTop (mkF m 31 #[.val (.long q1), .second, .val (.int p2), .val (.int p3), .val (.int (p2 &&& (3 : Int32))), .unset, .unset, .unset, .unset, .unset, .unset, .unset, .unset, .unset] [(.int (2 : Int32)), (.int (p2 &&& (3 : Int32)))]))
      by_cases hc31_12 : (p2 &&& (3 : Int32)) = (2 : Int32)
      · skip
        refine Rch.go (fun t k => XS.icmpNo X0.here hx rfl (hb hby at_31) rfl (teq hc31_12).2 k) ?_
        show Rch _ _ _ _ (s₁.setTop (mkF m 34 #[.val (.long q1), .second, .val (.int p2), .val (.int p3), .val (.int (p2 &&& (3 : Int32))), .unset, .unset, .unset, .unset, .unset, .unset, .unset, .unset, .unset] []))
        refine Rch.go (X0.ldc2Long hx hown (mvT hZ (ow0 hw)) (g := (mkF m 34 #[.val (.long q1), .second, .val (.int p2), .val (.int p3), .val (.int (p2 &&& (3 : Int32))), .unset, .unset, .unset, .unset, .unset, .unset, .unset, .unset, .unset] [])) rfl (hb hby at_34)) ?_
        show Rch _ _ _ _ (s₁.setTop (mkF m 37 #[.val (.long q1), .second, .val (.int p2), .val (.int p3), .val (.int (p2 &&& (3 : Int32))), .unset, .unset, .unset, .unset, .unset, .unset, .unset, .unset, .unset] [(.long (9223372036854775807 : Int64))]))
        refine Rch.go (fun t k => XS.lstore X0.here hx rfl (hb hby at_37) rfl (l' := #[.val (.long q1), .second, .val (.int p2), .val (.int p3), .val (.int (p2 &&& (3 : Int32))), .val (.long (9223372036854775807 : Int64)), .second, .unset, .unset, .unset, .unset, .unset, .unset, .unset]) rfl k) ?_
        show Rch _ _ _ _ (s₁.setTop (mkF m 39 #[.val (.long q1), .second, .val (.int p2), .val (.int p3), .val (.int (p2 &&& (3 : Int32))), .val (.long (9223372036854775807 : Int64)), .second, .unset, .unset, .unset, .unset, .unset, .unset, .unset] []))
        refine Rch.go (fun t k => XS.goto X0.here hx rfl (pc0 := 39) (pc' := 49) rfl (hb hby at_39) (by decide) (by decide) k) ?_
        show Rch _ _ _ _ (s₁.setTop (mkF m 49 #[.val (.long q1), .second, .val (.int p2), .val (.int p3), .val (.int (p2 &&& (3 : Int32))), .val (.long (9223372036854775807 : Int64)), .second, .unset, .unset, .unset, .unset, .unset, .unset, .unset] []))
        exact j49 _ 
      · skip
        refine Rch.go (fun t k => XS.icmpYes X0.here hx rfl (pc0 := 31) (pc' := 42) rfl (hb hby at_31) rfl (feq hc31_12).2 (by decide) (by decide) k) ?_
        show Rch _ _ _ _ (s₁.setTop (mkF m 42 #[.val (.long q1), .second, .val (.int p2), .val (.int p3), .val (.int (p2 &&& (3 : Int32))), .unset, .unset, .unset, .unset, .unset, .unset, .unset, .unset, .unset] []))
        refine Rch.go (fun t k => XS.lloadN X0.here hx rfl (hb hby at_42) rfl k) ?_
        show Rch _ _ _ _ (s₁.setTop (mkF m 43 #[.val (.long q1), .second, .val (.int p2), .val (.int p3), .val (.int (p2 &&& (3 : Int32))), .unset, .unset, .unset, .unset, .unset, .unset, .unset, .unset, .unset] [(.long q1)]))
        refine Rch.go (X0.ldc2Long hx hown (mvT hZ (ow0 hw)) (g := (mkF m 43 #[.val (.long q1), .second, .val (.int p2), .val (.int p3), .val (.int (p2 &&& (3 : Int32))), .unset, .unset, .unset, .unset, .unset, .unset, .unset, .unset, .unset] [(.long q1)])) rfl (hb hby at_43)) ?_
        show Rch _ _ _ _ (s₁.setTop (mkF m 46 #[.val (.long q1), .second, .val (.int p2), .val (.int p3), .val (.int (p2 &&& (3 : Int32))), .unset, .unset, .unset, .unset, .unset, .unset, .unset, .unset, .unset] [(.long (9223372036854775807 : Int64)), (.long q1)]))
        refine Rch.go (fun t k => XS.land X0.here hx rfl (hb hby at_46) rfl k) ?_
        show Rch _ _ _ _ (s₁.setTop (mkF m 47 #[.val (.long q1), .second, .val (.int p2), .val (.int p3), .val (.int (p2 &&& (3 : Int32))), .unset, .unset, .unset, .unset, .unset, .unset, .unset, .unset, .unset] [(.long (q1 &&& (9223372036854775807 : Int64)))]))
        refine Rch.go (fun t k => XS.lstore X0.here hx rfl (hb hby at_47) rfl (l' := #[.val (.long q1), .second, .val (.int p2), .val (.int p3), .val (.int (p2 &&& (3 : Int32))), .val (.long (q1 &&& (9223372036854775807 : Int64))), .second, .unset, .unset, .unset, .unset, .unset, .unset, .unset]) rfl k) ?_
        show Rch _ _ _ _ (s₁.setTop (mkF m 49 #[.val (.long q1), .second, .val (.int p2), .val (.int p3), .val (.int (p2 &&& (3 : Int32))), .val (.long (q1 &&& (9223372036854775807 : Int64))), .second, .unset, .unset, .unset, .unset, .unset, .unset, .unset] []))
        exact j49 _ 
set_option maxRecDepth 65536 in
set_option maxHeartbeats 40000000 in
theorem comes_1 {Post : Tables → Env → Array Value → State → Outcome → State → Prop} (hpost : ∀ tb e args s v u, (limb_1_1.after args s (.returned v) u = true ∧ limb_1_2.after args s (.returned v) u = true ∧ True) → FrameEnd s (.returned v) u (Jvm.fieldLocs frame_1_writes args s ++ Jvm.arrayLocs frame_1_arrays args s ++ Jvm.staticLocs frame_1_statics s) 16 128 → Post tb e args s (.returned v) u) :
    ArmFor flags0 classFile x code maxLocals ret World_1 tables_1 room_1 Calls_1 rest_1 Pre_1 Post := by
  intro l hfl _ _ p e ha hc hk s m args below hf hA hF happ hP
  obtain ⟨hcalls, hrest, hpre⟩ := hP
  obtain ⟨-, -, -, hnamed, -, -, -, hat⟩ := (Spec.applies_iff hf).mp happ
  obtain ⟨hg, hn⟩ := and_e (Cond.before_iff.mp (show (Jvm.Cond.and given_1 narrow_1).before args s = true from hpre))
  obtain ⟨g1, g2⟩ := and_e hg
  obtain ⟨ga0, gb0⟩ := and_e g2
  obtain ⟨ga1, gb1⟩ := and_e gb0
  obtain ⟨w0, w1, w2, rfl⟩ : ∃ w0 w1 w2 : Value, args = #[w0, w1, w2] := by
    have hs : args.size = 3 := by simpa [Cond.value, given_1] using g1
    obtain ⟨L⟩ := args
    match L, hs with
    | [w0, w1, w2], _ => exact ⟨w0, w1, w2, rfl⟩
  have hw := fun d (hd : d ∈ tables_1) => atoms_spec (ws := Jvm.Cond.code x code maxLocals ret :: tables_1) hat d (List.mem_cons_of_mem _ hd)
  have hfit : Fit s := fun {y c} hc i hi => by
    obtain ⟨ha, rfl⟩ := Array.getElem?_eq_some_iff.mp hc
    have q := List.all_eq_true.mp ((Array.all_eq_true_iff_forall_mem.mp hF) _ (Array.getElem_mem ha)) i (List.mem_range.mpr hi)
    simpa [Array.getElem?_eq_getElem hi] using q
  obtain ⟨i0, ei0⟩ := isL_v ga0
  obtain rfl : w0 = (.long i0) := Option.some.inj ei0
  obtain ⟨i1, ei1⟩ := is_v ga1
  obtain rfl : w1 = (.int i1) := Option.some.inj ei1
  obtain ⟨i2, ei2⟩ := is_v gb1
  obtain rfl : w2 = (.int i2) := Option.some.inj ei2
  obtain ⟨n, o, h1, h2, h3, _, L, rfl, ⟨rfl, N⟩, hq⟩ := rm0 l s _ hw tables_1 i0 i1 i2  s.heap s.heap.size (Nat.le_refl _)  p e ha hc hk s m _ below hf ((Spec.applies_iff_loose hf).mp happ).1 ⟨rfl, State.Warmed39.refl s, rfl⟩ trivial
  refine ⟨n, _, h1, h2, h3, hpost _ _ _ _ _ _ ⟨Cond.after_iff.mpr rfl, Cond.after_iff.mpr (eq_i res_at (Term.int_eval (1)) rfl), trivial⟩ ⟨hq.1, hq.2.1, (hq.2.2.sift fun y hy => Or.inr (N y hy)).mono (by decide) (by decide)⟩⟩
theorem main_1_1 : Claimed_1_1 := comes_1 fun _ _ _ _ _ _ h hF => ⟨h.1, hF⟩
theorem main_1_2 : Claimed_1_2 := comes_1 fun _ _ _ _ _ _ h hF => ⟨h.2.1, hF⟩
end Jvm.Pilot.@@N@@
namespace Jvm.Pilot.@@N@@
open Jvm Jvm.ClassFile Sem Op Lib Jvm.Free Jvm.Stand Jvm.Pilot.@@N@@.Jvm.D
/-! MADE BY PROGRAM (witnessworld.py) out of the Statement's table words and the real class files: 10 classes; the members and pool entries that the words name. The judged class is class 1, her method 1. -/
namespace start1
open Jvm.ClassFile
def u (s : String) : CpInfo := .utf8 (stringToUtf16 s)
/-- a pool by its gaps: so many unusable entries, then the entry; so many at the end -/
def gap : Nat → List CpInfo → List CpInfo
  | 0, r => r
  | n + 1, r => .unusable :: gap n r
def poolList (es : List (Nat × CpInfo)) (last : Nat) : List CpInfo := es.foldr (fun e r => gap e.1 (e.2 :: r)) (gap last [])
def pool (es : List (Nat × CpInfo)) (last : Nat) : Array CpInfo := ⟨poolList es last⟩
def fileOf (pool : Array CpInfo) (this : Nat) (attrs : Array Attribute := #[]) (ms : Array MethodInfo := #[]) (fl : Nat := 33) (sup : Nat := 0) (ifs : Array Nat := #[]) (fds : Array FieldInfo := #[]) : ClassFile where
  minorVersion := 0
  majorVersion := 65
  constantPool := pool
  accessFlags := fl
  thisClass := this
  superClass := sup
  interfaces := ifs
  fields := fds
  methods := ms
  attributes := attrs
def plain (name : String) (sup : Option ClassId) : Class where
  name := name
  kind := .ordinary
  loader := none
  accessFlags := 33
  super := sup
  interfaces := #[]
  cf := none
  fields := #[]
  methods := #[]
  instanceTypes := #[]
  staticTypes := #[]
  resolved := #[]
  callSites := []
  init := .initialized
  statics := none
  mirror := none

def pool0 : Array CpInfo := pool [(5, u "<init>"), (0, u "()V"), (1, .class_ 10), (1, u "java/lang/Object")] 113

def k0c0 : Code := { maxStack := 0, maxLocals := 1, code := object_method_1_code, exceptionTable := #[], attributes := #[] }
def k0m0 : Method := { name := "<init>", desc := "()V", sig := { parameters := [], returnType := none }, accessFlags := 1, code := some k0c0 }
/-- java/lang/Object -/
def k0 : Class := { plain "java/lang/Object" none with
  accessFlags := 33
  interfaces := #[]
  cf := some (fileOf pool0 8 #[] #[{ accessFlags := 1, nameIndex := 5, descriptorIndex := 6, attributes := #[] }] 33 0 #[] #[])
  fields := #[]
  methods := #[k0m0]
  instanceTypes := #[]
  staticTypes := #[]
  resolved := Array.replicate 124 none
  statics := none }

def pool1 : Array CpInfo := pool [(2, .class_ 4), (1, u "java/lang/Object"), (0, u "<init>"), (0, u "()V"), (2, .long 9223372036854775807), (1, .class_ 12), (0, u "com/example/keepwire/keepwire/Framing$Length"), (0, .methodref 11 14), (0, .nameAndType 5 15), (0, u "(JZ)V"), (0, .methodref 11 17), (0, .nameAndType 18 19), (0, u "atEnd"), (0, u "()Z"), (0, .methodref 11 21), (0, .nameAndType 22 23), (0, u "remainingBytes"), (0, u "()J"), (0, .methodref 11 25), (0, .nameAndType 26 19), (0, u "closesConnection"), (0, .class_ 28), (0, u "com/example/keepwire/keepwire/LengthAtEndPinLaw"), (2, u "law"), (0, u "(JII)Z")] 7

def k1m0 : Method := { name := "<init>", desc := "()V", sig := { parameters := [], returnType := none }, accessFlags := 1, code := none }
def k1c1 : Code := { maxStack := 5, maxLocals := 14, code := code, exceptionTable := #[], attributes := #[] }
def k1m1 : Method := { name := "law", desc := "(JII)Z", sig := { parameters := [.long, .int, .int], returnType := some .boolean }, accessFlags := 9, code := some k1c1 }
/-- com/example/keepwire/keepwire/LengthAtEndPinLaw -/
def k1 : Class := { plain "com/example/keepwire/keepwire/LengthAtEndPinLaw" (some 0) with
  accessFlags := 49
  interfaces := #[]
  cf := some (fileOf pool1 27 #[] #[{ accessFlags := 1, nameIndex := 5, descriptorIndex := 6, attributes := #[] }, { accessFlags := 9, nameIndex := 31, descriptorIndex := 32, attributes := #[] }] 49 2 #[] #[])
  fields := #[]
  methods := #[k1m0, k1m1]
  instanceTypes := #[]
  staticTypes := #[]
  resolved := Array.replicate 40 none
  statics := none }

def pool2 : Array CpInfo := pool [(35, .class_ 36), (0, u "com/example/keepwire/keepwire/Framing$Length"), (5, .class_ 44), (1, u "com/example/keepwire/keepwire/Framing"), (8, .class_ 54), (0, u "com/example/keepwire/keepwire/Framing$Chunked"), (3, .class_ 59), (0, u "com/example/keepwire/keepwire/Framing$UntilClose"), (29, .class_ 90), (0, u "java/lang/Object")] 27

/-- com/example/keepwire/keepwire/Framing -/
def k2 : Class := { plain "com/example/keepwire/keepwire/Framing" (some 0) with
  accessFlags := 1536
  interfaces := #[]
  cf := some (fileOf pool2 42 #[.nestMembers #[58, 53, 35]] #[] 1536 89 #[] #[])
  fields := #[]
  methods := #[]
  instanceTypes := #[]
  staticTypes := #[]
  resolved := Array.replicate 118 none
  statics := none }

def pool3 : Array CpInfo := pool [(1, .methodref 2 3), (0, .class_ 4), (0, .nameAndType 5 6), (0, u "java/lang/Object"), (0, u "<init>"), (0, u "()V"), (0, .fieldref 8 9), (0, .class_ 10), (0, .nameAndType 11 12), (0, u "com/example/keepwire/keepwire/Framing$Length"), (0, u "length"), (0, u "J"), (0, .fieldref 8 14), (0, .nameAndType 15 16), (0, u "closesConnection"), (0, u "Z"), (0, .fieldref 8 18), (0, .nameAndType 19 12), (0, u "remaining"), (21, .class_ 42), (0, u "com/example/keepwire/keepwire/Framing"), (0, u "(JZ)V"), (7, u "atEnd"), (0, u "()Z"), (0, u "remainingBytes"), (0, u "()J")] 19

def k3c0 : Code := { maxStack := 3, maxLocals := 4, code := prog_15_method_1_code, exceptionTable := #[], attributes := #[] }
def k3m0 : Method := { name := "<init>", desc := "(JZ)V", sig := { parameters := [.long, .boolean], returnType := none }, accessFlags := 0, code := some k3c0 }
def k3c1 : Code := { maxStack := 4, maxLocals := 1, code := prog_15_method_3_code, exceptionTable := #[], attributes := #[] }
def k3m1 : Method := { name := "atEnd", desc := "()Z", sig := { parameters := [], returnType := some .boolean }, accessFlags := 1, code := some k3c1 }
def k3c2 : Code := { maxStack := 2, maxLocals := 1, code := prog_15_method_4_code, exceptionTable := #[], attributes := #[] }
def k3m2 : Method := { name := "remainingBytes", desc := "()J", sig := { parameters := [], returnType := some .long }, accessFlags := 1, code := some k3c2 }
def k3c3 : Code := { maxStack := 1, maxLocals := 1, code := prog_15_method_5_code, exceptionTable := #[], attributes := #[] }
def k3m3 : Method := { name := "closesConnection", desc := "()Z", sig := { parameters := [], returnType := some .boolean }, accessFlags := 1, code := some k3c3 }
/-- com/example/keepwire/keepwire/Framing$Length -/
def k3 : Class := { plain "com/example/keepwire/keepwire/Framing$Length" (some 0) with
  accessFlags := 49
  interfaces := #[2]
  cf := some (fileOf pool3 8 #[.nestHost 41] #[{ accessFlags := 0, nameIndex := 5, descriptorIndex := 43, attributes := #[] }, { accessFlags := 1, nameIndex := 51, descriptorIndex := 52, attributes := #[] }, { accessFlags := 1, nameIndex := 53, descriptorIndex := 54, attributes := #[] }, { accessFlags := 1, nameIndex := 15, descriptorIndex := 52, attributes := #[] }] 49 2 #[41] #[{ accessFlags := 18, nameIndex := 11, descriptorIndex := 12, attributes := #[] }, { accessFlags := 18, nameIndex := 15, descriptorIndex := 16, attributes := #[] }, { accessFlags := 2, nameIndex := 19, descriptorIndex := 12, attributes := #[] }])
  fields := #[{ name := "length", type := .long, accessFlags := 18, slot := 0, constantValue := 0 }, { name := "closesConnection", type := .boolean, accessFlags := 18, slot := 1, constantValue := 0 }, { name := "remaining", type := .long, accessFlags := 2, slot := 2, constantValue := 0 }]
  methods := #[k3m0, k3m1, k3m2, k3m3]
  instanceTypes := #[.long, .boolean, .long]
  staticTypes := #[]
  resolved := Array.replicate 74 none
  statics := none }

def pool4 : Array CpInfo := pool [(1, u "java/lang/Cloneable"), (0, .class_ 1), (0, u "java/lang/Object"), (0, .class_ 3)] 3

/-- java/lang/Cloneable -/
def k4 : Class := { plain "java/lang/Cloneable" (some 0) with
  accessFlags := 1537
  interfaces := #[]
  cf := some (fileOf pool4 2 #[] #[] 1537 4 #[] #[])
  fields := #[]
  methods := #[]
  instanceTypes := #[]
  staticTypes := #[]
  resolved := Array.replicate 8 none
  statics := none }

def pool5 : Array CpInfo := pool [(1, u "java/io/Serializable"), (0, .class_ 1), (0, u "java/lang/Object"), (0, .class_ 3)] 3

/-- java/io/Serializable -/
def k5 : Class := { plain "java/io/Serializable" (some 0) with
  accessFlags := 1537
  interfaces := #[]
  cf := some (fileOf pool5 2 #[] #[] 1537 4 #[] #[])
  fields := #[]
  methods := #[]
  instanceTypes := #[]
  staticTypes := #[]
  resolved := Array.replicate 8 none
  statics := none }

/-- the primitive byte -/
def k6 : Class := { plain "byte" none with kind := .primitive 'B', accessFlags := 0x411 }
/-- [B -/
def k7 : Class := { plain "[B" (some 0) with kind := .array 6 .byte, interfaces := #[4, 5], accessFlags := 1041 }

/-- the primitive int -/
def k8 : Class := { plain "int" none with kind := .primitive 'I', accessFlags := 0x411 }
/-- [I -/
def k9 : Class := { plain "[I" (some 0) with kind := .array 8 .int, interfaces := #[4, 5], accessFlags := 1041 }

def heap : Heap := #[]
def classes : Array Class := #[k0, k1, k2, k3, k4, k5, k6, k7, k8, k9]
def interned : List (Array UInt16 × Addr) := []
def slotsUsed : Nat := 0
def theMethod : MethodId := ⟨1, 1⟩
def args0 : Array Value := #[.long 5, .int 3, .int 0]
def aboutOver (below : List Frame) : State where
  vm := { classes := classes, interned := interned.toArray }
  heap := heap
  slotsUsed := slotsUsed
  threads := #[{ frames := .invoking theMethod args0 :: below }]
def below0 : List Frame := [.native { method := ⟨0, 0⟩, args := #[] }]
def about1 : State := aboutOver below0
def p0 : Program := .bare "" "" ""
def e0 : Env := launch0.env 0 0 0
theorem w_frames : about1.frames = Frame.invoking theMethod args0 :: below0 := rfl
set_option maxRecDepth 65536 in
theorem w_args : argsFit about1.vm theMethod args0 = true := by decide +kernel
set_option maxRecDepth 65536 in
theorem w_heap : heapFits about1 = true := by decide +kernel
set_option maxRecDepth 65536 in
theorem w_runnable : about1.curStatus? = some .runnable := by decide +kernel
set_option maxRecDepth 65536 in
theorem w_alone : about1.alone = true := by decide +kernel
set_option maxRecDepth 65536 in
theorem w_named : about1.methodNamed? x = some theMethod := by decide +kernel
set_option maxRecDepth 65536 in
theorem w_hears : about1.hears theMethod below0 = true := by decide +kernel
set_option maxRecDepth 65536 in
theorem w_ripe : about1.ripe theMethod args0 below0 = true := by decide +kernel
theorem w_running : about1.status = .running := rfl
set_option maxRecDepth 65536 in
theorem w_room : about1.hasRoom e0.platform room_1 = true :=
  launch0.hasRoom_least _ room_1 (by decide +kernel) (by decide +kernel) (by decide +kernel) (by decide +kernel) (by decide +kernel) (by decide +kernel)
theorem allAtoms_all (ts : List Jvm.Cond) (a : Array Jvm.Value) (st : Jvm.State) : (allAtoms ts).before a st = ts.all (fun c => c.before a st) := by
  induction ts with
  | nil => rfl
  | cons c t ih =>
    show (Jvm.Cond.and c (allAtoms t)).before a st = _
    rw [Jvm.Cond.before_and, ih, List.all_cons]
def words1 : List Jvm.Cond := Jvm.Cond.code x code maxLocals ret :: tables_1
/-- a 'code' word, met by the world's own term for the bytes: nothing is compared byte by byte -/
theorem code_word {y : MethodName} {bytes : ByteArray} {mx : Nat} {rt : Option FieldType} {a : Array Value} {s : State} {m : MethodId} {meth : Method} {c : Code} (h1 : s.methodNamed? y = some m) (h2 : s.vm.method? m = some meth) (h3 : meth.code = some c) (h4 : c.code = bytes)
    (h5 : (c.maxLocals == mx && c.exceptionTable.isEmpty && decide (c.maxStack ≤ mostOperands) && decide (meth.sig.returnType = rt) && !meth.locks && decide (parseMethodDescriptor y.desc = some meth.sig)) = true) : (Jvm.Cond.code y bytes mx rt).before a s = true := by
  simp only [Bool.and_eq_true, beq_iff_eq, Bool.not_eq_true', decide_eq_true_eq] at h5
  obtain ⟨⟨⟨⟨⟨g1, g2⟩, g3⟩, g4⟩, g5⟩, g6⟩ := h5
  simp [Cond.before, Cond.holds, Cond.value, h1, h2, h3, h4, g1, g2, g3, g4, g5, g6]
def isCode : Jvm.Cond → Bool
  | .code _ _ _ _ => true
  | _ => false
theorem all_split {L : List Jvm.Cond} {P : Jvm.Cond → Bool} (h1 : L.all (fun c => isCode c || P c) = true) (h2 : ∀ c ∈ L.filter isCode, P c = true) : L.all P = true := by
  refine List.all_eq_true.mpr fun c hc => ?_
  have h := List.all_eq_true.mp h1 c hc
  rcases Bool.eq_false_or_eq_true (isCode c) with hi | hi
  · exact h2 c (List.mem_filter.mpr ⟨hc, hi⟩)
  · simpa [hi] using h
set_option maxRecDepth 65536 in
theorem w_c0 : (Jvm.Cond.code x code maxLocals ret).before args0 about1 = true := code_word (m := ⟨1, 1⟩) (meth := k1m1) (c := k1c1) (by decide +kernel) rfl rfl rfl (by decide +kernel)
set_option maxRecDepth 65536 in
theorem w_c1 : (Jvm.Cond.code ({ cls := "com/example/keepwire/keepwire/Framing$Length", name := "<init>", desc := "(JZ)V" } : Jvm.MethodName) prog_15_method_1_code (4 : Nat) (Option.none : Option Jvm.ClassFile.FieldType)).before args0 about1 = true := code_word (m := ⟨3, 0⟩) (meth := k3m0) (c := k3c0) (by decide +kernel) rfl rfl rfl (by decide +kernel)
set_option maxRecDepth 65536 in
theorem w_c2 : (Jvm.Cond.code ({ cls := "java/lang/Object", name := "<init>", desc := "()V" } : Jvm.MethodName) object_method_1_code (1 : Nat) (Option.none : Option Jvm.ClassFile.FieldType)).before args0 about1 = true := code_word (m := ⟨0, 0⟩) (meth := k0m0) (c := k0c0) (by decide +kernel) rfl rfl rfl (by decide +kernel)
set_option maxRecDepth 65536 in
theorem w_c3 : (Jvm.Cond.code ({ cls := "com/example/keepwire/keepwire/Framing$Length", name := "atEnd", desc := "()Z" } : Jvm.MethodName) prog_15_method_3_code (1 : Nat) (Option.some Jvm.ClassFile.FieldType.boolean)).before args0 about1 = true := code_word (m := ⟨3, 1⟩) (meth := k3m1) (c := k3c1) (by decide +kernel) rfl rfl rfl (by decide +kernel)
set_option maxRecDepth 65536 in
theorem w_c4 : (Jvm.Cond.code ({ cls := "com/example/keepwire/keepwire/Framing$Length", name := "remainingBytes", desc := "()J" } : Jvm.MethodName) prog_15_method_4_code (1 : Nat) (Option.some Jvm.ClassFile.FieldType.long)).before args0 about1 = true := code_word (m := ⟨3, 2⟩) (meth := k3m2) (c := k3c2) (by decide +kernel) rfl rfl rfl (by decide +kernel)
set_option maxRecDepth 65536 in
theorem w_c5 : (Jvm.Cond.code ({ cls := "com/example/keepwire/keepwire/Framing$Length", name := "closesConnection", desc := "()Z" } : Jvm.MethodName) prog_15_method_5_code (1 : Nat) (Option.some Jvm.ClassFile.FieldType.boolean)).before args0 about1 = true := code_word (m := ⟨3, 3⟩) (meth := k3m3) (c := k3c3) (by decide +kernel) rfl rfl rfl (by decide +kernel)
def codes1 : List Jvm.Cond := [Jvm.Cond.code x code maxLocals ret, Jvm.Cond.code ({ cls := "com/example/keepwire/keepwire/Framing$Length", name := "<init>", desc := "(JZ)V" } : Jvm.MethodName) prog_15_method_1_code (4 : Nat) (Option.none : Option Jvm.ClassFile.FieldType), Jvm.Cond.code ({ cls := "java/lang/Object", name := "<init>", desc := "()V" } : Jvm.MethodName) object_method_1_code (1 : Nat) (Option.none : Option Jvm.ClassFile.FieldType), Jvm.Cond.code ({ cls := "com/example/keepwire/keepwire/Framing$Length", name := "atEnd", desc := "()Z" } : Jvm.MethodName) prog_15_method_3_code (1 : Nat) (Option.some Jvm.ClassFile.FieldType.boolean), Jvm.Cond.code ({ cls := "com/example/keepwire/keepwire/Framing$Length", name := "remainingBytes", desc := "()J" } : Jvm.MethodName) prog_15_method_4_code (1 : Nat) (Option.some Jvm.ClassFile.FieldType.long), Jvm.Cond.code ({ cls := "com/example/keepwire/keepwire/Framing$Length", name := "closesConnection", desc := "()Z" } : Jvm.MethodName) prog_15_method_5_code (1 : Nat) (Option.some Jvm.ClassFile.FieldType.boolean)]
set_option maxRecDepth 65536 in
theorem codes_eq : words1.filter isCode = codes1 := rfl
theorem w_codes : ∀ c ∈ words1.filter isCode, c.before args0 about1 = true := by
  rw [codes_eq]
  intro c hc
  simp only [codes1, List.mem_cons, List.not_mem_nil, or_false] at hc
  rcases hc with rfl | rfl | rfl | rfl | rfl | rfl
  · exact w_c0
  · exact w_c1
  · exact w_c2
  · exact w_c3
  · exact w_c4
  · exact w_c5
set_option maxRecDepth 65536 in
theorem w_t1 : (words1.take 24).all (fun c => isCode c || c.before args0 about1) = true := by decide +kernel
set_option maxRecDepth 65536 in
theorem w_t2 : (words1.drop 24).all (fun c => isCode c || c.before args0 about1) = true := by decide +kernel
theorem w_tables : (allAtoms (Jvm.Cond.code x code maxLocals ret :: tables_1)).before args0 about1 = true := by
  rw [allAtoms_all]
  show words1.all (fun c => c.before args0 about1) = true
  refine all_split ?_ w_codes
  rw [← List.take_append_drop 24 words1, List.all_append, w_t1, w_t2]
  rfl
set_option maxRecDepth 65536 in
theorem w_case : (Jvm.Cond.and given_1 narrow_1).before args0 about1 = true := by decide +kernel
theorem w_applies : (headSpec (Jvm.Cond.code x code maxLocals ret :: tables_1) room_1).applies x e0.platform about1 = true :=
  (Spec.applies_iff w_frames).mpr ⟨w_running, w_runnable, w_alone, w_named, w_hears, w_ripe, w_room, w_tables⟩
theorem atStart : AtStart classFile x code maxLocals ret World_1 tables_1 room_1 Calls_1 rest_1 Pre_1 launch0 p0 e0 about1 theMethod args0 below0 :=
  ⟨lists_1, trivial, launch0.admits_env _ _ _, launch0.least_env, fairChoices_fair.cas, fairChoices_fair.clock, w_frames, w_args, w_heap, w_applies, trivial, trivial, w_case⟩
end start1
theorem witness_1 : WitnessClaimed_1 := ⟨start1.p0, start1.e0, start1.about1, start1.theMethod, start1.args0, start1.below0, start1.atStart⟩
end Jvm.Pilot.@@N@@
