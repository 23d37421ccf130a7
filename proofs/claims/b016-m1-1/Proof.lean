import JvmDerived
import JvmDerived.Pilot.@@N@@Statement
import JvmDerived.Pilot.@@N@@Code
set_option linter.unusedVariables false
set_option linter.unusedSimpArgs false
namespace Jvm.RoadKit
open Sem ClassFile Op Lib Jvm.Stand Jvm.Free Jvm.LawKit
section New
variable {p : Program} {l : Launch} {e : Env} {R : Room} {s : State} {m : MethodId} {args : Array Value} {below : List Frame} {meth : Method} {c : Code} {T : State} {locs : List Loc} {cells slots : Nat}
theorem retI (X : Stand p l e R s m args below meth c T locs cells slots) (hx : p.tables.exec = Jvm.exec) {pc : Nat} {Ls : Array Slot} {z : Int32} {rest : List Value} (hret : meth.sig.returnType = some .int) (hd : decode c.code pc = .ok (.ireturn, 1)) {fs : List Frame}
    (hl : ∀ (f : JFrame) (acts : List Action), f.method = m → f.locked = none → f.entered = [] → (doReturn e (T.setTop f) acts (some (.int z))).1 = T.setFrames fs) : Steps p.tables e below (T.setTop (mkF m pc Ls (.int z :: rest))) (T.setFrames fs) := by
  have hm' : T.vm.method? m = some meth := X.method'
  have hn : narrow .int (.int z) = .int z := rfl
  show Steps p.tables e below (T.setTop { method := m, pc := pc, locals := Ls, stack := _ :: rest, locked := none }) _
  jvm_step X.here [X.here.top, hx, hd, hm', hret, hn]
  first | (intro acts; rw [hl _ acts rfl rfl rfl]) | rw [hl _ _ rfl rfl rfl]
  exact Steps.refl _
end New
end Jvm.RoadKit
namespace Jvm.Pilot.@@N@@
open Jvm Jvm.ClassFile Sem Op Lib Jvm.Free Jvm.Stand Jvm.LawKit Jvm.RoadKit Bundle Jvm.Pilot.@@N@@.Jvm.D
def Rch (tb : Tables) (e : Env) (below : List Frame) (P : State → Prop) (st : State) : Prop := ∃ t, Steps tb e below st t ∧ P t
theorem Rch.go {tb : Tables} {e : Env} {below : List Frame} {P : State → Prop} {st st' : State} (h : ∀ t, Steps tb e below st' t → Steps tb e below st t) (k : Rch tb e below P st') : Rch tb e below P st := by
  obtain ⟨t, h1, h2⟩ := k
  exact ⟨t, h t h1, h2⟩
theorem Rch.mk {tb : Tables} {e : Env} {below : List Frame} {P : State → Prop} {st t : State} (h : Steps tb e below st t) (k : P t) : Rch tb e below P st := ⟨t, h, k⟩
theorem ow0 {a0 : Array Value} {Z : State} (hw : ∀ d ∈ tables_1, d.before a0 Z = true) : (Jvm.Cond.classLink "com/example/tidekeep/tidekeep/indexer/RunTierPinLaw" (7 : Nat) "com/example/tidekeep/tidekeep/indexer/Run").before a0 Z = true := hw _ (List.mem_of_getElem? (i := 0) rfl)
theorem ow1 {a0 : Array Value} {Z : State} (hw : ∀ d ∈ tables_1, d.before a0 Z = true) : (Jvm.Cond.instantiable "com/example/tidekeep/tidekeep/indexer/Run" (2 : Nat)).before a0 Z = true := hw _ (List.mem_of_getElem? (i := 1) rfl)
theorem ow2 {a0 : Array Value} {Z : State} (hw : ∀ d ∈ tables_1, d.before a0 Z = true) : (Jvm.Cond.initialized "com/example/tidekeep/tidekeep/indexer/Run").before a0 Z = true := hw _ (List.mem_of_getElem? (i := 2) rfl)
theorem ow3 {a0 : Array Value} {Z : State} (hw : ∀ d ∈ tables_1, d.before a0 Z = true) : (Jvm.Cond.methodLink "com/example/tidekeep/tidekeep/indexer/RunTierPinLaw" (9 : Nat) ({ cls := "com/example/tidekeep/tidekeep/indexer/Run", name := "<init>", desc := "(JJ)V" } : Jvm.MethodName)).before a0 Z = true := hw _ (List.mem_of_getElem? (i := 3) rfl)
theorem ow4 {a0 : Array Value} {Z : State} (hw : ∀ d ∈ tables_1, d.before a0 Z = true) : (Jvm.Cond.instanceMethod ({ cls := "com/example/tidekeep/tidekeep/indexer/Run", name := "<init>", desc := "(JJ)V" } : Jvm.MethodName)).before a0 Z = true := hw _ (List.mem_of_getElem? (i := 4) rfl)
theorem ow5 {a0 : Array Value} {Z : State} (hw : ∀ d ∈ tables_1, d.before a0 Z = true) : (Jvm.Cond.code ({ cls := "com/example/tidekeep/tidekeep/indexer/Run", name := "<init>", desc := "(JJ)V" } : Jvm.MethodName) prog_71_method_1_code (5 : Nat) (Option.none : Option Jvm.ClassFile.FieldType)).before a0 Z = true := hw _ (List.mem_of_getElem? (i := 5) rfl)
theorem ow6 {a0 : Array Value} {Z : State} (hw : ∀ d ∈ tables_1, d.before a0 Z = true) : (Jvm.Cond.methodLink "com/example/tidekeep/tidekeep/indexer/Run" (1 : Nat) ({ cls := "java/lang/Record", name := "<init>", desc := "()V" } : Jvm.MethodName)).before a0 Z = true := hw _ (List.mem_of_getElem? (i := 6) rfl)
theorem ow7 {a0 : Array Value} {Z : State} (hw : ∀ d ∈ tables_1, d.before a0 Z = true) : (Jvm.Cond.instanceMethod ({ cls := "java/lang/Record", name := "<init>", desc := "()V" } : Jvm.MethodName)).before a0 Z = true := hw _ (List.mem_of_getElem? (i := 7) rfl)
theorem ow9 {a0 : Array Value} {Z : State} (hw : ∀ d ∈ tables_1, d.before a0 Z = true) : (Jvm.Cond.initialized "java/lang/Record").before a0 Z = true := hw _ (List.mem_of_getElem? (i := 9) rfl)
theorem ow10 {a0 : Array Value} {Z : State} (hw : ∀ d ∈ tables_1, d.before a0 Z = true) : (Jvm.Cond.code ({ cls := "java/lang/Record", name := "<init>", desc := "()V" } : Jvm.MethodName) jdk_30_method_1_code (1 : Nat) (Option.none : Option Jvm.ClassFile.FieldType)).before a0 Z = true := hw _ (List.mem_of_getElem? (i := 10) rfl)
theorem ow11 {a0 : Array Value} {Z : State} (hw : ∀ d ∈ tables_1, d.before a0 Z = true) : (Jvm.Cond.methodLink "java/lang/Record" (1 : Nat) ({ cls := "java/lang/Object", name := "<init>", desc := "()V" } : Jvm.MethodName)).before a0 Z = true := hw _ (List.mem_of_getElem? (i := 11) rfl)
theorem ow12 {a0 : Array Value} {Z : State} (hw : ∀ d ∈ tables_1, d.before a0 Z = true) : (Jvm.Cond.instanceMethod ({ cls := "java/lang/Object", name := "<init>", desc := "()V" } : Jvm.MethodName)).before a0 Z = true := hw _ (List.mem_of_getElem? (i := 12) rfl)
theorem ow13 {a0 : Array Value} {Z : State} (hw : ∀ d ∈ tables_1, d.before a0 Z = true) : (Jvm.Cond.code ({ cls := "java/lang/Object", name := "<init>", desc := "()V" } : Jvm.MethodName) object_method_1_code (1 : Nat) (Option.none : Option Jvm.ClassFile.FieldType)).before a0 Z = true := hw _ (List.mem_of_getElem? (i := 13) rfl)
theorem ow14 {a0 : Array Value} {Z : State} (hw : ∀ d ∈ tables_1, d.before a0 Z = true) : (Jvm.Cond.fieldLink "com/example/tidekeep/tidekeep/indexer/Run" (7 : Nat) "com/example/tidekeep/tidekeep/indexer/Run" "number" "J").before a0 Z = true := hw _ (List.mem_of_getElem? (i := 14) rfl)
theorem ow15 {a0 : Array Value} {Z : State} (hw : ∀ d ∈ tables_1, d.before a0 Z = true) : (Jvm.Cond.laysFinal "com/example/tidekeep/tidekeep/indexer/Run" "com/example/tidekeep/tidekeep/indexer/Run" "number" "J").before a0 Z = true := hw _ (List.mem_of_getElem? (i := 15) rfl)
theorem ow16 {a0 : Array Value} {Z : State} (hw : ∀ d ∈ tables_1, d.before a0 Z = true) : (Jvm.Cond.fieldLink "com/example/tidekeep/tidekeep/indexer/Run" (13 : Nat) "com/example/tidekeep/tidekeep/indexer/Run" "lines" "J").before a0 Z = true := hw _ (List.mem_of_getElem? (i := 16) rfl)
theorem ow17 {a0 : Array Value} {Z : State} (hw : ∀ d ∈ tables_1, d.before a0 Z = true) : (Jvm.Cond.laysFinal "com/example/tidekeep/tidekeep/indexer/Run" "com/example/tidekeep/tidekeep/indexer/Run" "lines" "J").before a0 Z = true := hw _ (List.mem_of_getElem? (i := 17) rfl)
theorem ow18 {a0 : Array Value} {Z : State} (hw : ∀ d ∈ tables_1, d.before a0 Z = true) : (Jvm.Cond.methodLink "com/example/tidekeep/tidekeep/indexer/RunTierPinLaw" (12 : Nat) ({ cls := "com/example/tidekeep/tidekeep/indexer/Run", name := "tier", desc := "()I" } : Jvm.MethodName)).before a0 Z = true := hw _ (List.mem_of_getElem? (i := 18) rfl)
theorem ow19 {a0 : Array Value} {Z : State} (hw : ∀ d ∈ tables_1, d.before a0 Z = true) : (Jvm.Cond.declares ({ cls := "com/example/tidekeep/tidekeep/indexer/Run", name := "tier", desc := "()I" } : Jvm.MethodName)).before a0 Z = true := hw _ (List.mem_of_getElem? (i := 19) rfl)
theorem ow20 {a0 : Array Value} {Z : State} (hw : ∀ d ∈ tables_1, d.before a0 Z = true) : (Jvm.Cond.instanceMethod ({ cls := "com/example/tidekeep/tidekeep/indexer/Run", name := "tier", desc := "()I" } : Jvm.MethodName)).before a0 Z = true := hw _ (List.mem_of_getElem? (i := 20) rfl)
theorem ow21 {a0 : Array Value} {Z : State} (hw : ∀ d ∈ tables_1, d.before a0 Z = true) : (Jvm.Cond.selects "com/example/tidekeep/tidekeep/indexer/Run" ({ cls := "com/example/tidekeep/tidekeep/indexer/Run", name := "tier", desc := "()I" } : Jvm.MethodName) ({ cls := "com/example/tidekeep/tidekeep/indexer/Run", name := "tier", desc := "()I" } : Jvm.MethodName)).before a0 Z = true := hw _ (List.mem_of_getElem? (i := 21) rfl)
theorem ow22 {a0 : Array Value} {Z : State} (hw : ∀ d ∈ tables_1, d.before a0 Z = true) : (Jvm.Cond.code ({ cls := "com/example/tidekeep/tidekeep/indexer/Run", name := "tier", desc := "()I" } : Jvm.MethodName) prog_71_method_5_code (4 : Nat) (Option.some Jvm.ClassFile.FieldType.int)).before a0 Z = true := hw _ (List.mem_of_getElem? (i := 22) rfl)
theorem ow23 {a0 : Array Value} {Z : State} (hw : ∀ d ∈ tables_1, d.before a0 Z = true) : (Jvm.Cond.constantLong "com/example/tidekeep/tidekeep/indexer/Run" (46 : Nat) (8 : Int64)).before a0 Z = true := hw _ (List.mem_of_getElem? (i := 23) rfl)
theorem ow24 {a0 : Array Value} {Z : State} (hw : ∀ d ∈ tables_1, d.before a0 Z = true) : (Jvm.Cond.constantLong "com/example/tidekeep/tidekeep/indexer/RunTierPinLaw" (16 : Nat) (7 : Int64)).before a0 Z = true := hw _ (List.mem_of_getElem? (i := 24) rfl)
theorem ef_rm2 (m : MethodId) (a1 : Addr) : entryFrame m #[(.ref a1)] 1 = mkF m 0 #[.val (.ref a1)] [] := by first | (simp [entryFrame, mkF, argsToLocals, Value.category]; done) | rfl
theorem pn_java_lang_Record : plainName "java/lang/Record" = true := by first | (simp [plainName, overriddenIn]; done) | decide +kernel
theorem d2_0 : decode jdk_30_method_1_code 0 = .ok (.aload_n 0, 1) := by decide +kernel
theorem d2_1 : decode jdk_30_method_1_code 1 = .ok (.invokespecial 1, 3) := by decide +kernel
theorem d2_4 : decode jdk_30_method_1_code 4 = .ok (.return_, 1) := by decide +kernel
def Q_rm2 (Z : State) (a1 : Addr) (h0 : Heap) (n0 : Nat) (v : Option Value) (h : Heap) (L : List Loc) : Prop := v = none ∧ Fr n0 L ∧ h = h0
set_option maxRecDepth 65536 in
set_option maxHeartbeats 40000000 in
theorem rm2 (l : Launch) (Z : State) (a0 : Array Value) (hw : ∀ d ∈ tables_1, d.before a0 Z = true) (ws : List Jvm.Cond) (a1 : Addr) (h0 : Heap) (n0 : Nat) (Z0 : n0 ≤ h0.size) :
    MetFree l (⟨"java/lang/Record", "<init>", "()V"⟩ : MethodName) (head1 (Jvm.Cond.code (⟨"java/lang/Record", "<init>", "()V"⟩ : MethodName) jdk_30_method_1_code 1 none :: ws) ({ frames := 1, cells := 0, slots := 0, locals := 12 } : Room)) (fun a U => a = #[(.ref a1)] ∧ Z.Warmed39 U.vm ∧ U.heap = h0) (fun _ _ _ _ _ => True) (fun _ U o U' => ∃ v L, o = .returned v ∧ Q_rm2 Z a1 h0 n0 v U'.heap L ∧ FrameEnd U o U' L ({ frames := 1, cells := 0, slots := 0, locals := 12 } : Room).cells ({ frames := 1, cells := 0, slots := 0, locals := 12 } : Room).slots) := by
  refine MetFree.of_bodySF (plainFor_of_name pn_java_lang_Record) hisR ?_
  intro p e s m args below meth c s₁ Bd hml0 hP hK
  obtain ⟨rfl, hZ, hh⟩ := hP
  have hx := Bd.exec
  have hby := Bd.bytes
  have hml : c.maxLocals = 1 := hml0
  have hown : s.vm.findClass "java/lang/Record" = some m.cls := findClass_of_methodNamed Bd.named
  have hnm := (name_of_methodNamed Bd.named Bd.method).1
  have X0 : Stand p l e ({ frames := 1, cells := 0, slots := 0, locals := 12 } : Room) s m #[(.ref a1)] below meth c s₁ [] 0 0 := Stand.of_body Bd
  have e0 : s₁.heap = h0 := by rw [← hh, Bd.state]; rfl
  have N0 := Fr.nil n0
  suffices hR : ∀ P : State → Prop, (∀ s₂ o v L, s₂.status = .running → Ended s₂ below o → o = .returned v → Q_rm2 Z a1 h0 n0 v s₂.heap L → FrameEnd s o s₂ L ({ frames := 1, cells := 0, slots := 0, locals := 12 } : Room).cells ({ frames := 1, cells := 0, slots := 0, locals := 12 } : Room).slots → P s₂) → Rch p.tables e below P (s₁.setTop (mkF m 0 #[.val (.ref a1)] [])) by
    obtain ⟨s₂, h1, o, h2⟩ := hR (fun s₂ => ∃ o, s₂.status = .running ∧ Ended s₂ below o ∧ ∃ v L, o = .returned v ∧ Q_rm2 Z a1 h0 n0 v s₂.heap L ∧ FrameEnd s o s₂ L ({ frames := 1, cells := 0, slots := 0, locals := 12 } : Room).cells ({ frames := 1, cells := 0, slots := 0, locals := 12 } : Room).slots) (fun s₂ o v L q1 q2 q3 q4 q5 => ⟨o, q1, q2, v, L, q3, q4, q5⟩)
    exact ⟨s₂, o, castTop (ef_rm2 m a1) h1, h2⟩
  intro P hPd
  refine Rch.go (fun zt zk => XS.aloadN X0.here hx rfl (hb hby d2_0) rfl rfl zk) ?_
  show Rch _ _ _ _ (s₁.setTop (mkF m 1 #[.val (.ref a1)] [(.ref a1)]))
  obtain ⟨T1, X1, e1, st1⟩ := initO X0 hx hZ hown (ow11 hw) (ow12 hw) (ow13 hw) e0 (g := (mkF m 1 #[.val (.ref a1)] [(.ref a1)])) rfl (by rw [hml]; rfl) rfl (hb hby d2_1) (by decide) (W := 0) (by show 2 * 0 + _ ≤ _; exact Nat.le_of_eq rfl) (by decide)
  refine Rch.go st1 ?_
  show Rch _ _ _ _ (T1.setTop (mkF m 4 #[.val (.ref a1)] []))
  obtain ⟨fs, hr, hrun, hended, hW, hsame⟩ := X1.leave (v := none) (fun _ => rfl)
  refine Rch.mk (X1.returnOut hx Bd.returns (hb hby d2_4) hr) (hPd _ _ _ _ hrun hended rfl ?_ ⟨⟨_, rfl⟩, hW, hsame.mono (by decide) (by decide)⟩)
  show Q_rm2 Z a1 h0 n0 _ T1.heap _
  rw [e1]
  exact ⟨rfl, N0, rfl⟩
theorem ef_rm1 (m : MethodId) (a1 : Addr) (q2 : Int64) (q3 : Int64) : entryFrame m #[(.ref a1), (.long q2), (.long q3)] 5 = mkF m 0 #[.val (.ref a1), .val (.long q2), .second, .val (.long q3), .second] [] := by first | (simp [entryFrame, mkF, argsToLocals, Value.category]; done) | rfl
theorem pn_com_example_tidekeep_tidekeep_indexer_Run : plainName "com/example/tidekeep/tidekeep/indexer/Run" = true := by first | (simp [plainName, overriddenIn]; done) | decide +kernel
theorem d1_0 : decode prog_71_method_1_code 0 = .ok (.aload_n 0, 1) := by decide +kernel
theorem d1_1 : decode prog_71_method_1_code 1 = .ok (.invokespecial 1, 3) := by decide +kernel
theorem pd___V : parseMethodDescriptor "()V" = some ⟨[], none⟩ := by decide +kernel
theorem d1_4 : decode prog_71_method_1_code 4 = .ok (.aload_n 0, 1) := by decide +kernel
theorem d1_5 : decode prog_71_method_1_code 5 = .ok (.lload_n 1, 1) := by decide +kernel
theorem d1_6 : decode prog_71_method_1_code 6 = .ok (.putfield 7, 3) := by decide +kernel
theorem d1_9 : decode prog_71_method_1_code 9 = .ok (.aload_n 0, 1) := by decide +kernel
theorem d1_10 : decode prog_71_method_1_code 10 = .ok (.lload_n 3, 1) := by decide +kernel
theorem d1_11 : decode prog_71_method_1_code 11 = .ok (.putfield 13, 3) := by decide +kernel
theorem d1_14 : decode prog_71_method_1_code 14 = .ok (.return_, 1) := by decide +kernel
def Q_rm1 (Z : State) (a1 : Addr) (q2 : Int64) (q3 : Int64) (u1 : Value) (u2 : Value) (h0 : Heap) (n0 : Nat) (v : Option Value) (h : Heap) (L : List Loc) : Prop := v = none ∧ Fr n0 L ∧ Keep h0 h [a1] ∧ Exa Z h a1 "com/example/tidekeep/tidekeep/indexer/Run" ∧ Fld Z h a1 "com/example/tidekeep/tidekeep/indexer/Run" "number" "J" (.long q2) ∧ Fld Z h a1 "com/example/tidekeep/tidekeep/indexer/Run" "lines" "J" (.long q3)
set_option maxRecDepth 65536 in
set_option maxHeartbeats 40000000 in
theorem rm1 (l : Launch) (Z : State) (a0 : Array Value) (hw : ∀ d ∈ tables_1, d.before a0 Z = true) (ws : List Jvm.Cond) (a1 : Addr) (q2 : Int64) (q3 : Int64) (u1 : Value) (u2 : Value) (h0 : Heap) (n0 : Nat) (Z0 : n0 ≤ h0.size) (P0 : Exa Z h0 a1 "com/example/tidekeep/tidekeep/indexer/Run") (P1 : Fld Z h0 a1 "com/example/tidekeep/tidekeep/indexer/Run" "number" "J" u1) (P2 : Fld Z h0 a1 "com/example/tidekeep/tidekeep/indexer/Run" "lines" "J" u2) (Pg_a1 : n0 ≤ a1) :
    MetFree l (⟨"com/example/tidekeep/tidekeep/indexer/Run", "<init>", "(JJ)V"⟩ : MethodName) (head1 (Jvm.Cond.code (⟨"com/example/tidekeep/tidekeep/indexer/Run", "<init>", "(JJ)V"⟩ : MethodName) prog_71_method_1_code 5 none :: ws) ({ frames := 2, cells := 0, slots := 0, locals := 24 } : Room)) (fun a U => a = #[(.ref a1), (.long q2), (.long q3)] ∧ Z.Warmed39 U.vm ∧ U.heap = h0) (fun _ _ _ _ _ => True) (fun _ U o U' => ∃ v L, o = .returned v ∧ Q_rm1 Z a1 q2 q3 u1 u2 h0 n0 v U'.heap L ∧ FrameEnd U o U' L ({ frames := 2, cells := 0, slots := 0, locals := 24 } : Room).cells ({ frames := 2, cells := 0, slots := 0, locals := 24 } : Room).slots) := by
  refine MetFree.of_bodySF (plainFor_of_name pn_com_example_tidekeep_tidekeep_indexer_Run) hisR ?_
  intro p e s m args below meth c s₁ Bd hml0 hP hK
  obtain ⟨rfl, hZ, hh⟩ := hP
  have hx := Bd.exec
  have hby := Bd.bytes
  have hml : c.maxLocals = 5 := hml0
  have hown : s.vm.findClass "com/example/tidekeep/tidekeep/indexer/Run" = some m.cls := findClass_of_methodNamed Bd.named
  have hnm := (name_of_methodNamed Bd.named Bd.method).1
  have X0 : Stand p l e ({ frames := 2, cells := 0, slots := 0, locals := 24 } : Room) s m #[(.ref a1), (.long q2), (.long q3)] below meth c s₁ [] 0 0 := Stand.of_body Bd
  have e0 : s₁.heap = h0 := by rw [← hh, Bd.state]; rfl
  have N0 := Fr.nil n0
  suffices hR : ∀ P : State → Prop, (∀ s₂ o v L, s₂.status = .running → Ended s₂ below o → o = .returned v → Q_rm1 Z a1 q2 q3 u1 u2 h0 n0 v s₂.heap L → FrameEnd s o s₂ L ({ frames := 2, cells := 0, slots := 0, locals := 24 } : Room).cells ({ frames := 2, cells := 0, slots := 0, locals := 24 } : Room).slots → P s₂) → Rch p.tables e below P (s₁.setTop (mkF m 0 #[.val (.ref a1), .val (.long q2), .second, .val (.long q3), .second] [])) by
    obtain ⟨s₂, h1, o, h2⟩ := hR (fun s₂ => ∃ o, s₂.status = .running ∧ Ended s₂ below o ∧ ∃ v L, o = .returned v ∧ Q_rm1 Z a1 q2 q3 u1 u2 h0 n0 v s₂.heap L ∧ FrameEnd s o s₂ L ({ frames := 2, cells := 0, slots := 0, locals := 24 } : Room).cells ({ frames := 2, cells := 0, slots := 0, locals := 24 } : Room).slots) (fun s₂ o v L q1 q2 q3 q4 q5 => ⟨o, q1, q2, v, L, q3, q4, q5⟩)
    exact ⟨s₂, o, castTop (ef_rm1 m a1 q2 q3) h1, h2⟩
  intro P hPd
  refine Rch.go (fun zt zk => XS.aloadN X0.here hx rfl (hb hby d1_0) rfl rfl zk) ?_
  show Rch _ _ _ _ (s₁.setTop (mkF m 1 #[.val (.ref a1), .val (.long q2), .second, .val (.long q3), .second] [(.ref a1)]))
  obtain ⟨_, _, ⟨T1, L1, k1, n1⟩, -, X1, ⟨Lc1, hQ1, l1, y1, z1⟩, st1⟩ := X0.specialBack hx (y := (⟨"java/lang/Record", "<init>", "()V"⟩ : MethodName)) rfl hown (mvT hZ (ow6 hw)) (mvT hZ (ow7 hw)) (mvT hZ (ow10 hw)) (by decide) (backOf (W := 0) (rm2 l Z a0 hw [] (a1) h0 n0 Z0 ) hZ (ow10 hw) (ow9 hw) (by decide) (by decide)) (g := (mkF m 1 #[.val (.ref a1), .val (.long q2), .second, .val (.long q3), .second] [(.ref a1)])) rfl (by rw [hml]; rfl) (Steps.refl _) (a := a1) (argsL := []) (rest := []) (lenOf pd___V rfl) rfl (by show 2 * 0 + _ ≤ _; exact Nat.le_of_eq rfl) (hb hby d1_1) (fun _ _ => ⟨rfl, e0, (by decide : 0 + 0 ≤ _), (by decide : 0 + 0 ≤ _)⟩)
  dsimp only [Pt.U, Pt.locs, Pt.cells, Pt.slots] at X1 l1 y1 z1 st1 hQ1
  subst l1 y1 z1
  obtain ⟨rfl, N1q, eq1⟩ := hQ1
  have N1 := Fr.app N0 N1q
  refine Rch.go (fun zt zk => st1.trans zk) ?_
  show Rch _ _ _ _ (T1.setTop (mkF m 4 #[.val (.ref a1), .val (.long q2), .second, .val (.long q3), .second] []))
  refine Rch.go (fun zt zk => XS.aloadN X1.here hx rfl (hb hby d1_4) rfl rfl zk) ?_
  show Rch _ _ _ _ (T1.setTop (mkF m 5 #[.val (.ref a1), .val (.long q2), .second, .val (.long q3), .second] [(.ref a1)]))
  refine Rch.go (fun zt zk => XS.lloadN X1.here hx rfl (hb hby d1_5) rfl zk) ?_
  show Rch _ _ _ _ (T1.setTop (mkF m 6 #[.val (.ref a1), .val (.long q2), .second, .val (.long q3), .second] [(.long q2), (.ref a1)]))
  obtain ⟨T2, h2, X2, e2, W2, st2⟩ := putF X1 hx hZ hown (host := "") (Or.inl (ow14 hw)) Via.refl eq1 P1 P0 (Or.inr ⟨(ow15 hw), rfl, hnm⟩) (ow1 hw) (ty := .long) (by decide) rfl rfl (g := (mkF m 6 #[.val (.ref a1), .val (.long q2), .second, .val (.long q3), .second] [(.long q2), (.ref a1)])) rfl rfl (hb hby d1_6)
  refine Rch.go st2 ?_
  have Fw2 := P1.same W2
  have N2 := Fr.snoc X2 N1 Pg_a1
  have K2 : Keep h0 h2 [a1] := Keep.wr (Keep.refl h0 [a1]) W2 (Or.inl (List.mem_of_getElem? (i := 0) rfl))
  show Rch _ _ _ _ (T2.setTop (mkF m 9 #[.val (.ref a1), .val (.long q2), .second, .val (.long q3), .second] []))
  refine Rch.go (fun zt zk => XS.aloadN X2.here hx rfl (hb hby d1_9) rfl rfl zk) ?_
  show Rch _ _ _ _ (T2.setTop (mkF m 10 #[.val (.ref a1), .val (.long q2), .second, .val (.long q3), .second] [(.ref a1)]))
  refine Rch.go (fun zt zk => XS.lloadN X2.here hx rfl (hb hby d1_10) rfl zk) ?_
  show Rch _ _ _ _ (T2.setTop (mkF m 11 #[.val (.ref a1), .val (.long q2), .second, .val (.long q3), .second] [(.long q3), (.ref a1)]))
  have f3 := (P0.wr W2)
  have f4 := (P2.other W2 (Or.inr (slot_ne (Or.inr (ow17 hw)) (Or.inr (ow15 hw)) (by decide) (t := .long) (t' := .long) (by decide) (by decide))))
  obtain ⟨T5, h5, X5, e5, W5, st5⟩ := putF X2 hx hZ hown (host := "") (Or.inl (ow16 hw)) Via.refl e2 f4 f3 (Or.inr ⟨(ow17 hw), rfl, hnm⟩) (ow1 hw) (ty := .long) (by decide) rfl rfl (g := (mkF m 11 #[.val (.ref a1), .val (.long q2), .second, .val (.long q3), .second] [(.long q3), (.ref a1)])) rfl rfl (hb hby d1_11)
  refine Rch.go st5 ?_
  have Fw5 := f4.same W5
  have N5 := Fr.snoc X5 N2 Pg_a1
  have K5 : Keep h0 h5 [a1] := Keep.wr K2 W5 (Or.inl (List.mem_of_getElem? (i := 0) rfl))
  show Rch _ _ _ _ (T5.setTop (mkF m 14 #[.val (.ref a1), .val (.long q2), .second, .val (.long q3), .second] []))
  obtain ⟨fs, hr, hrun, hended, hW, hsame⟩ := X5.leave (v := none) (fun _ => rfl)
  refine Rch.mk (X5.returnOut hx Bd.returns (hb hby d1_14) hr) (hPd _ _ _ _ hrun hended rfl ?_ ⟨⟨_, rfl⟩, hW, hsame.mono (by decide) (by decide)⟩)
  show Q_rm1 Z a1 q2 q3 u1 u2 h0 n0 _ T5.heap _
  rw [e5]
  have f6 := (f3.wr W5)
  have f7 := (Fw2.other W5 (Or.inr (slot_ne (Or.inr (ow15 hw)) (Or.inr (ow17 hw)) (by decide) (t := .long) (t' := .long) (by decide) (by decide))))
  exact ⟨rfl, N5, K5, f6, f7, Fw5⟩
def TierOk (w : Int64) (t : Int32) : Prop := (w.toInt ≤ 0 ∧ t = (0 : Int32)) ∨ (0 < w.toInt ∧ ∃ n : Nat, n ≤ 20 ∧ t.toInt = n ∧ (8 : Int) ^ n ≤ w.toInt ∧ w.toInt < (8 : Int) ^ (n + 1))
def TierInv (w : Int64) (n : Nat) (q : Int64) (t : Int32) : Prop := (w.toInt ≤ 0 ∧ t = (0 : Int32) ∧ q.toInt ≤ 0) ∨ (0 < w.toInt ∧ t.toInt = n ∧ (8 : Int) ^ n ≤ w.toInt ∧ q.toInt = w.toInt / (8 : Int) ^ (n + 1))
theorem own_8 : ¬ ((8 : Int64) = (0 : Int64)) := by decide
theorem own_div8 (x : Int64) : (0 ≤ x.toInt → (x / (8 : Int64)).toInt = x.toInt / 8) ∧ (x.toInt < 0 → (x / (8 : Int64)).toInt = -((-x.toInt) / 8)) := c_ldiv x (8 : Int64) 8 (by decide) (by decide)
theorem own_start (w : Int64) : TierInv w 0 (w / (8 : Int64)) (0 : Int32) := by
  have h := own_div8 w
  by_cases hw : 0 < w.toInt
  · exact Or.inr ⟨hw, rfl, by omega, by rw [h.1 (by omega)]; rfl⟩
  · refine Or.inl ⟨by omega, rfl, ?_⟩
    by_cases h0 : w.toInt < 0
    · rw [h.2 h0]; omega
    · rw [h.1 (by omega)]; omega
theorem own_pow (n : Nat) : 0 < (8 : Int) ^ n := Int.pow_pos (by decide)
theorem own_stop {w q : Int64} {n : Nat} {t : Int32} (hn : n ≤ 20) (h : TierInv w n q t) (hq : ¬ ((0 : Int32) < lcmpW q (0 : Int64))) : TierOk w t := by
  rw [lw_gt, Int64.lt_iff_toInt_lt] at hq
  have e0 : (0 : Int64).toInt = 0 := by decide
  rcases h with ⟨h1, h2, h3⟩ | ⟨h1, h2, h3, h4⟩
  · exact Or.inl ⟨h1, h2⟩
  · refine Or.inr ⟨h1, n, hn, h2, h3, ?_⟩
    have hp := own_pow (n + 1)
    have hz : w.toInt / (8 : Int) ^ (n + 1) < 1 := by omega
    have := (Int.ediv_lt_iff_lt_mul hp).mp hz
    omega
theorem own_turn {w q : Int64} {n : Nat} {t : Int32} (hn : n ≤ 20) (h : TierInv w n q t) (hq : (0 : Int32) < lcmpW q (0 : Int64)) : TierInv w (n + 1) (q / (8 : Int64)) (t + (1 : Int32)) := by
  rw [lw_gt, Int64.lt_iff_toInt_lt] at hq
  have e0 : (0 : Int64).toInt = 0 := by decide
  have h8 := own_div8 q
  rcases h with ⟨h1, h2, h3⟩ | ⟨h1, h2, h3, h4⟩
  · omega
  · refine Or.inr ⟨h1, ?_, ?_, ?_⟩
    · have h5 := c_iadd t (1 : Int32); have h6 := rng32 (t + (1 : Int32)); have e1 : (1 : Int32).toInt = 1 := by decide
      omega
    · have hp := own_pow (n + 1)
      have hz : 1 ≤ w.toInt / (8 : Int) ^ (n + 1) := by omega
      have := (Int.le_ediv_iff_mul_le hp).mp hz
      omega
    · rw [h8.1 (by omega), h4, Int.ediv_ediv_of_nonneg (Int.le_of_lt (own_pow _)), ← Int.pow_succ]
theorem own_end {w q : Int64} {t : Int32} (h : TierInv w 21 q t) : ¬ ((0 : Int32) < lcmpW q (0 : Int64)) ∧ w.toInt ≤ 0 := by
  have hr := rng64 w
  have e0 : (0 : Int64).toInt = 0 := by decide
  rw [lw_gt, Int64.lt_iff_toInt_lt]
  rcases h with ⟨h1, h2, h3⟩ | ⟨h1, h2, h3, h4⟩
  · exact ⟨by omega, h1⟩
  · have : (8 : Int) ^ 21 = 9223372036854775808 := by decide
    omega
theorem ef_rm4 (m : MethodId) (a1 : Addr) : entryFrame m #[(.ref a1)] 4 = mkF m 0 #[.val (.ref a1), .unset, .unset, .unset] [] := by first | (simp [entryFrame, mkF, argsToLocals, Value.category]; done) | rfl
theorem d4_0 : decode prog_71_method_5_code 0 = .ok (.iconst 0, 1) := by decide +kernel
theorem d4_1 : decode prog_71_method_5_code 1 = .ok (.istore_n 1, 1) := by decide +kernel
theorem d4_2 : decode prog_71_method_5_code 2 = .ok (.aload_n 0, 1) := by decide +kernel
theorem d4_3 : decode prog_71_method_5_code 3 = .ok (.getfield 13, 3) := by decide +kernel
theorem d4_6 : decode prog_71_method_5_code 6 = .ok (.ldc2_w 46, 3) := by decide +kernel
theorem d4_9 : decode prog_71_method_5_code 9 = .ok (.ldiv, 1) := by decide +kernel
theorem d4_10 : decode prog_71_method_5_code 10 = .ok (.lstore_n 2, 1) := by decide +kernel
theorem d4_11 : decode prog_71_method_5_code 11 = .ok (.lload_n 2, 1) := by decide +kernel
theorem d4_12 : decode prog_71_method_5_code 12 = .ok (.lconst 0, 1) := by decide +kernel
theorem d4_13 : decode prog_71_method_5_code 13 = .ok (.lcmp, 1) := by decide +kernel
theorem d4_14 : decode prog_71_method_5_code 14 = .ok (.ifCond .le 15, 3) := by decide +kernel
theorem d4_29 : decode prog_71_method_5_code 29 = .ok (.iload_n 1, 1) := by decide +kernel
theorem d4_30 : decode prog_71_method_5_code 30 = .ok (.ireturn, 1) := by decide +kernel
theorem d4_17 : decode prog_71_method_5_code 17 = .ok (.iinc 1 1, 3) := by decide +kernel
theorem d4_20 : decode prog_71_method_5_code 20 = .ok (.lload_n 2, 1) := by decide +kernel
theorem d4_21 : decode prog_71_method_5_code 21 = .ok (.ldc2_w 46, 3) := by decide +kernel
theorem d4_24 : decode prog_71_method_5_code 24 = .ok (.ldiv, 1) := by decide +kernel
theorem d4_25 : decode prog_71_method_5_code 25 = .ok (.lstore_n 2, 1) := by decide +kernel
theorem d4_26 : decode prog_71_method_5_code 26 = .ok (.goto (-15), 3) := by decide +kernel
def Q_rm4 (Z : State) (a1 : Addr) (w2 : Int64) (h0 : Heap) (n0 : Nat) (v : Option Value) (h : Heap) (L : List Loc) : Prop := (∃ t : Int32, v = some (.int t) ∧ TierOk w2 t) ∧ Fr n0 L ∧ h = h0
set_option maxRecDepth 65536 in
set_option maxHeartbeats 40000000 in
theorem rm4 (l : Launch) (Z : State) (a0 : Array Value) (hw : ∀ d ∈ tables_1, d.before a0 Z = true) (ws : List Jvm.Cond) (a1 : Addr) (w2 : Int64) (h0 : Heap) (n0 : Nat) (Z0 : n0 ≤ h0.size) (P0 : Fld Z h0 a1 "com/example/tidekeep/tidekeep/indexer/Run" "lines" "J" (.long w2)) :
    MetFree l (⟨"com/example/tidekeep/tidekeep/indexer/Run", "tier", "()I"⟩ : MethodName) (head1 (Jvm.Cond.code (⟨"com/example/tidekeep/tidekeep/indexer/Run", "tier", "()I"⟩ : MethodName) prog_71_method_5_code 4 (some .int) :: ws) ({ frames := 0, cells := 0, slots := 0, locals := 0 } : Room)) (fun a U => a = #[(.ref a1)] ∧ Z.Warmed39 U.vm ∧ U.heap = h0) (fun _ _ _ _ _ => True) (fun _ U o U' => ∃ v L, o = .returned v ∧ Q_rm4 Z a1 w2 h0 n0 v U'.heap L ∧ FrameEnd U o U' L ({ frames := 0, cells := 0, slots := 0, locals := 0 } : Room).cells ({ frames := 0, cells := 0, slots := 0, locals := 0 } : Room).slots) := by
  refine MetFree.of_bodySF (plainFor_of_name pn_com_example_tidekeep_tidekeep_indexer_Run) hisR ?_
  intro p e s m args below meth c s₁ Bd hml0 hP hK
  obtain ⟨rfl, hZ, hh⟩ := hP
  have hx := Bd.exec
  have hby := Bd.bytes
  have hml : c.maxLocals = 4 := hml0
  have hown : s.vm.findClass "com/example/tidekeep/tidekeep/indexer/Run" = some m.cls := findClass_of_methodNamed Bd.named
  have hnm := (name_of_methodNamed Bd.named Bd.method).1
  have X0 : Stand p l e ({ frames := 0, cells := 0, slots := 0, locals := 0 } : Room) s m #[(.ref a1)] below meth c s₁ [] 0 0 := Stand.of_body Bd
  have e0 : s₁.heap = h0 := by rw [← hh, Bd.state]; rfl
  have N0 := Fr.nil n0
  suffices hR : ∀ P : State → Prop, (∀ s₂ o v L, s₂.status = .running → Ended s₂ below o → o = .returned v → Q_rm4 Z a1 w2 h0 n0 v s₂.heap L → FrameEnd s o s₂ L ({ frames := 0, cells := 0, slots := 0, locals := 0 } : Room).cells ({ frames := 0, cells := 0, slots := 0, locals := 0 } : Room).slots → P s₂) → Rch p.tables e below P (s₁.setTop (mkF m 0 #[.val (.ref a1), .unset, .unset, .unset] [])) by
    obtain ⟨s₂, h1, o, h2⟩ := hR (fun s₂ => ∃ o, s₂.status = .running ∧ Ended s₂ below o ∧ ∃ v L, o = .returned v ∧ Q_rm4 Z a1 w2 h0 n0 v s₂.heap L ∧ FrameEnd s o s₂ L ({ frames := 0, cells := 0, slots := 0, locals := 0 } : Room).cells ({ frames := 0, cells := 0, slots := 0, locals := 0 } : Room).slots) (fun s₂ o v L q1 q2 q3 q4 q5 => ⟨o, q1, q2, v, L, q3, q4, q5⟩)
    exact ⟨s₂, o, castTop (ef_rm4 m a1) h1, h2⟩
  intro P hPd
  refine Rch.go (fun zt zk => XS.iconst X0.here hx rfl (hb hby d4_0) zk) ?_
  show Rch _ _ _ _ (s₁.setTop (mkF m 1 #[.val (.ref a1), .unset, .unset, .unset] [(.int (0 : Int32))]))
  refine Rch.go (fun zt zk => XS.istoreN X0.here hx rfl (hb hby d4_1) rfl (l' := #[.val (.ref a1), .val (.int (0 : Int32)), .unset, .unset]) rfl zk) ?_
  show Rch _ _ _ _ (s₁.setTop (mkF m 2 #[.val (.ref a1), .val (.int (0 : Int32)), .unset, .unset] []))
  refine Rch.go (fun zt zk => XS.aloadN X0.here hx rfl (hb hby d4_2) rfl rfl zk) ?_
  show Rch _ _ _ _ (s₁.setTop (mkF m 3 #[.val (.ref a1), .val (.int (0 : Int32)), .unset, .unset] [(.ref a1)]))
  obtain ⟨T1, X1, e1, st1⟩ := getF X0 hx hZ hown (host := "") (Or.inl (ow16 hw)) Via.refl e0 P0 (g := (mkF m 3 #[.val (.ref a1), .val (.int (0 : Int32)), .unset, .unset] [(.ref a1)])) rfl rfl (hb hby d4_3)
  refine Rch.go st1 ?_
  show Rch _ _ _ _ (T1.setTop (mkF m 6 #[.val (.ref a1), .val (.int (0 : Int32)), .unset, .unset] [(.long w2)]))
  refine Rch.go (X1.ldc2Long hx hown (mvT hZ (ow23 hw)) (g := (mkF m 6 #[.val (.ref a1), .val (.int (0 : Int32)), .unset, .unset] [(.long w2)])) rfl (hb hby d4_6)) ?_
  show Rch _ _ _ _ (T1.setTop (mkF m 9 #[.val (.ref a1), .val (.int (0 : Int32)), .unset, .unset] [(.long (8 : Int64)), (.long w2)]))
  refine Rch.go (fun zt zk => XS.ldiv X1.here hx rfl (hb hby d4_9) rfl own_8 zk) ?_
  show Rch _ _ _ _ (T1.setTop (mkF m 10 #[.val (.ref a1), .val (.int (0 : Int32)), .unset, .unset] [(.long (w2 / (8 : Int64)))]))
  refine Rch.go (fun zt zk => XS.lstoreN X1.here hx rfl (hb hby d4_10) rfl (l' := #[.val (.ref a1), .val (.int (0 : Int32)), .val (.long (w2 / (8 : Int64))), .second]) rfl zk) ?_
  show Rch _ _ _ _ (T1.setTop (mkF m 11 #[.val (.ref a1), .val (.int (0 : Int32)), .val (.long (w2 / (8 : Int64))), .second] []))
  have loop : ∀ (k n : Nat) (q : Int64) (t : Int32), n + k = 21 → TierInv w2 n q t → Rch p.tables e below P (T1.setTop (mkF m 11 #[.val (.ref a1), .val (.int t), .val (.long q), .second] [])) := by
    intro k
    induction k with
    | zero =>
      intro n q t hn hI
      obtain rfl : n = 21 := by omega
      have hok : TierOk w2 t := by
        rcases hI with ⟨h1, h2, -⟩ | ⟨h1, h2, h3, h4⟩
        · exact Or.inl ⟨h1, h2⟩
        · have := rng64 w2; have e8 : (8 : Int) ^ 21 = 9223372036854775808 := by decide
          omega
      refine Rch.go (fun zt zk => XS.lloadN X1.here hx rfl (hb hby d4_11) rfl zk) ?_
      show Rch _ _ _ _ (T1.setTop (mkF m 12 #[.val (.ref a1), .val (.int t), .val (.long q), .second] [(.long q)]))
      refine Rch.go (fun zt zk => XS.lconst X1.here hx rfl (hb hby d4_12) zk) ?_
      show Rch _ _ _ _ (T1.setTop (mkF m 13 #[.val (.ref a1), .val (.int t), .val (.long q), .second] [(.long (0 : Int64)), (.long q)]))
      refine Rch.go (fun zt zk => XS.lcmp X1.here hx rfl (hb hby d4_13) rfl zk) ?_
      show Rch _ _ _ _ (T1.setTop (mkF m 14 #[.val (.ref a1), .val (.int t), .val (.long q), .second] [(.int (lcmpW q (0 : Int64)))]))
      refine Rch.go (fun zt zk => XS.ifYes X1.here hx rfl (pc0 := 14) (pc' := 29) rfl (hb hby d4_14) rfl ((if0 _ _).trans (flt ((own_end hI).1 : ¬ ((0 : Int32) < (lcmpW q (0 : Int64))))).2.2.2) (by decide) (by decide) zk) ?_
      show Rch _ _ _ _ (T1.setTop (mkF m 29 #[.val (.ref a1), .val (.int t), .val (.long q), .second] []))
      refine Rch.go (fun zt zk => XS.iloadN X1.here hx rfl (hb hby d4_29) rfl zk) ?_
      show Rch _ _ _ _ (T1.setTop (mkF m 30 #[.val (.ref a1), .val (.int t), .val (.long q), .second] [(.int t)]))
      obtain ⟨fs, hr, hrun, hended, hW, hsame⟩ := X1.leave (v := some (.int t)) (fun h => by rw [Bd.returns] at h; cases h)
      refine Rch.mk (retI X1 hx Bd.returns (hb hby d4_30) hr) (hPd _ _ _ _ hrun hended rfl ?_ ⟨⟨_, rfl⟩, hW, hsame.mono (by decide) (by decide)⟩)
      show Q_rm4 Z a1 w2 h0 n0 _ T1.heap _
      rw [e1]
      exact ⟨⟨_, rfl, hok⟩, N0, rfl⟩
    | succ k ih =>
      intro n q t hn hI
      refine Rch.go (fun zt zk => XS.lloadN X1.here hx rfl (hb hby d4_11) rfl zk) ?_
      show Rch _ _ _ _ (T1.setTop (mkF m 12 #[.val (.ref a1), .val (.int t), .val (.long q), .second] [(.long q)]))
      refine Rch.go (fun zt zk => XS.lconst X1.here hx rfl (hb hby d4_12) zk) ?_
      show Rch _ _ _ _ (T1.setTop (mkF m 13 #[.val (.ref a1), .val (.int t), .val (.long q), .second] [(.long (0 : Int64)), (.long q)]))
      refine Rch.go (fun zt zk => XS.lcmp X1.here hx rfl (hb hby d4_13) rfl zk) ?_
      show Rch _ _ _ _ (T1.setTop (mkF m 14 #[.val (.ref a1), .val (.int t), .val (.long q), .second] [(.int (lcmpW q (0 : Int64)))]))
      by_cases hc14_2 : (0 : Int32) < (lcmpW q (0 : Int64))
      · skip
        refine Rch.go (fun zt zk => XS.ifNo X1.here hx rfl (hb hby d4_14) rfl ((if0 _ _).trans (tlt hc14_2).2.2.2) zk) ?_
        show Rch _ _ _ _ (T1.setTop (mkF m 17 #[.val (.ref a1), .val (.int t), .val (.long q), .second] []))
        refine Rch.go (fun zt zk => XS.iinc X1.here hx rfl (hb hby d4_17) rfl (l' := #[.val (.ref a1), .val (.int (t + (1 : Int32))), .val (.long q), .second]) rfl zk) ?_
        show Rch _ _ _ _ (T1.setTop (mkF m 20 #[.val (.ref a1), .val (.int (t + (1 : Int32))), .val (.long q), .second] []))
        refine Rch.go (fun zt zk => XS.lloadN X1.here hx rfl (hb hby d4_20) rfl zk) ?_
        show Rch _ _ _ _ (T1.setTop (mkF m 21 #[.val (.ref a1), .val (.int (t + (1 : Int32))), .val (.long q), .second] [(.long q)]))
        refine Rch.go (X1.ldc2Long hx hown (mvT hZ (ow23 hw)) (g := (mkF m 21 #[.val (.ref a1), .val (.int (t + (1 : Int32))), .val (.long q), .second] [(.long q)])) rfl (hb hby d4_21)) ?_
        show Rch _ _ _ _ (T1.setTop (mkF m 24 #[.val (.ref a1), .val (.int (t + (1 : Int32))), .val (.long q), .second] [(.long (8 : Int64)), (.long q)]))
        refine Rch.go (fun zt zk => XS.ldiv X1.here hx rfl (hb hby d4_24) rfl own_8 zk) ?_
        show Rch _ _ _ _ (T1.setTop (mkF m 25 #[.val (.ref a1), .val (.int (t + (1 : Int32))), .val (.long q), .second] [(.long (q / (8 : Int64)))]))
        refine Rch.go (fun zt zk => XS.lstoreN X1.here hx rfl (hb hby d4_25) rfl (l' := #[.val (.ref a1), .val (.int (t + (1 : Int32))), .val (.long (q / (8 : Int64))), .second]) rfl zk) ?_
        show Rch _ _ _ _ (T1.setTop (mkF m 26 #[.val (.ref a1), .val (.int (t + (1 : Int32))), .val (.long (q / (8 : Int64))), .second] []))
        refine Rch.go (fun zt zk => XS.goto X1.here hx rfl (pc0 := 26) (pc' := 11) rfl (hb hby d4_26) (by decide) (by decide) zk) ?_
        show Rch _ _ _ _ (T1.setTop (mkF m 11 #[.val (.ref a1), .val (.int (t + (1 : Int32))), .val (.long (q / (8 : Int64))), .second] []))
        exact ih (n + 1) _ _ (by omega) (own_turn (by omega) hI hc14_2)
      · skip
        refine Rch.go (fun zt zk => XS.ifYes X1.here hx rfl (pc0 := 14) (pc' := 29) rfl (hb hby d4_14) rfl ((if0 _ _).trans (flt hc14_2).2.2.2) (by decide) (by decide) zk) ?_
        show Rch _ _ _ _ (T1.setTop (mkF m 29 #[.val (.ref a1), .val (.int t), .val (.long q), .second] []))
        have hok := own_stop (by omega) hI hc14_2
        refine Rch.go (fun zt zk => XS.iloadN X1.here hx rfl (hb hby d4_29) rfl zk) ?_
        show Rch _ _ _ _ (T1.setTop (mkF m 30 #[.val (.ref a1), .val (.int t), .val (.long q), .second] [(.int t)]))
        obtain ⟨fs, hr, hrun, hended, hW, hsame⟩ := X1.leave (v := some (.int t)) (fun h => by rw [Bd.returns] at h; cases h)
        refine Rch.mk (retI X1 hx Bd.returns (hb hby d4_30) hr) (hPd _ _ _ _ hrun hended rfl ?_ ⟨⟨_, rfl⟩, hW, hsame.mono (by decide) (by decide)⟩)
        show Q_rm4 Z a1 w2 h0 n0 _ T1.heap _
        rw [e1]
        exact ⟨⟨_, rfl, hok⟩, N0, rfl⟩
  exact loop 21 0 _ _ rfl (own_start w2)
theorem own_t0 {w : Int64} {t : Int32} (h : TierOk w t) (hw : ¬ ((0 : Int32) < lcmpW w (0 : Int64))) : t = (0 : Int32) := by
  rw [lw_gt, Int64.lt_iff_toInt_lt] at hw
  have e0 : (0 : Int64).toInt = 0 := by decide
  rcases h with ⟨h1, h2⟩ | ⟨h1, h2⟩
  · exact h2
  · omega
theorem own_sh (n : Nat) (hn : n ≤ 20) : ((3 : Int32) * Int32.ofNat n).toBitVec.toNat % 64 = 3 * n := by
  have : ∀ n ∈ List.range 21, ((3 : Int32) * Int32.ofNat n).toBitVec.toNat % 64 = 3 * n := by decide +kernel
  exact this n (List.mem_range.mpr (by omega))
theorem own_q {w : Int64} {t : Int32} (h : TierOk w t) (hw : (0 : Int32) < lcmpW w (0 : Int64)) : ¬ (t < (0 : Int32)) ∧ ¬ ((20 : Int32) < t) ∧ ¬ (lcmpW (w >>> (((3 : Int32) * t) &&& 0x3f).toInt64) (1 : Int64) < (0 : Int32)) ∧ ¬ ((0 : Int32) < lcmpW (w >>> (((3 : Int32) * t) &&& 0x3f).toInt64) (7 : Int64)) := by
  rw [lw_gt, Int64.lt_iff_toInt_lt] at hw
  have e0 : (0 : Int64).toInt = 0 := by decide
  rcases h with ⟨h1, h2⟩ | ⟨h1, n, h2, h3, h4, h5⟩
  · omega
  · obtain rfl : t = Int32.ofNat n := by
      rw [← Int32.toInt_inj, h3, Int32.toInt_ofNat_of_lt (by omega)]
    have hs := own_sh n h2
    have hq : (w >>> (((3 : Int32) * Int32.ofNat n) &&& 0x3f).toInt64).toInt = w.toInt / (8 : Int) ^ n := by
      rw [c_lshr w _ (3 * n) hs, Nat.pow_mul]; simp
    have hp := own_pow n
    have hp1 : (8 : Int) ^ (n + 1) = 8 * (8 : Int) ^ n := by rw [Int.pow_succ, Int.mul_comm]
    have l1 : 1 ≤ w.toInt / (8 : Int) ^ n := (Int.le_ediv_iff_mul_le hp).mpr (by omega)
    have l2 : w.toInt / (8 : Int) ^ n < 8 := (Int.ediv_lt_iff_lt_mul hp).mpr (by omega)
    have e1 : (1 : Int64).toInt = 1 := by decide
    have e7 : (7 : Int64).toInt = 7 := by decide
    have i0 : (0 : Int32).toInt = 0 := by decide
    have i20 : (20 : Int32).toInt = 20 := by decide
    rw [lw_gt, lw_lt, Int64.lt_iff_toInt_lt, Int64.lt_iff_toInt_lt, Int32.lt_iff_toInt_lt, Int32.lt_iff_toInt_lt]
    refine ⟨by omega, by omega, ?_, ?_⟩
    · show ¬ ((w >>> (((3 : Int32) * Int32.ofNat n) &&& 0x3f).toInt64).toInt < _); omega
    · show ¬ (_ < (w >>> (((3 : Int32) * Int32.ofNat n) &&& 0x3f).toInt64).toInt); omega
theorem ef_rm0 (m : MethodId) (q1 : Int64) (q2 : Int64) (p3 : Int32) : entryFrame m #[(.long q1), (.long q2), (.int p3)] maxLocals = mkF m 0 #[.val (.long q1), .second, .val (.long q2), .second, .val (.int p3), .unset, .unset, .unset, .unset, .unset, .unset] [] := by first | (simp [entryFrame, mkF, argsToLocals, Value.category, maxLocals]; done) | rfl
theorem pn_com_example_tidekeep_tidekeep_indexer_RunTierPinLaw : plainName "com/example/tidekeep/tidekeep/indexer/RunTierPinLaw" = true := by first | (simp [plainName, overriddenIn]; done) | decide +kernel
theorem pd__JJ_V : parseMethodDescriptor "(JJ)V" = some ⟨[.long, .long], none⟩ := by decide +kernel
theorem pd___I : parseMethodDescriptor "()I" = some ⟨[], some .int⟩ := by decide +kernel
def Q_rm0 (Z : State) (q1 : Int64) (q2 : Int64) (p3 : Int32) (h0 : Heap) (n0 : Nat) (v : Option Value) (h : Heap) (L : List Loc) : Prop := v = some (.int (1 : Int32)) ∧ Fr n0 L
set_option maxRecDepth 65536 in
set_option maxHeartbeats 40000000 in
theorem rm0 (l : Launch) (Z : State) (a0 : Array Value) (hw : ∀ d ∈ tables_1, d.before a0 Z = true) (ws : List Jvm.Cond) (q1 : Int64) (q2 : Int64) (p3 : Int32) (h0 : Heap) (n0 : Nat) (Z0 : n0 ≤ h0.size) :
    MetFree l x (head1 (Jvm.Cond.code x code maxLocals ret :: ws) room_1) (fun a U => a = #[(.long q1), (.long q2), (.int p3)] ∧ Z.Warmed39 U.vm ∧ U.heap = h0) (fun _ _ _ _ _ => True) (fun _ U o U' => ∃ v L, o = .returned v ∧ Q_rm0 Z q1 q2 p3 h0 n0 v U'.heap L ∧ FrameEnd U o U' L room_1.cells room_1.slots) := by
  refine MetFree.of_bodySF (plainFor_of_name pn_com_example_tidekeep_tidekeep_indexer_RunTierPinLaw) hisR ?_
  intro p e s m args below meth c s₁ Bd hml0 hP hK
  obtain ⟨rfl, hZ, hh⟩ := hP
  have hx := Bd.exec
  have hby := Bd.bytes
  have hml : c.maxLocals = 11 := hml0
  have hown : s.vm.findClass "com/example/tidekeep/tidekeep/indexer/RunTierPinLaw" = some m.cls := findClass_of_methodNamed Bd.named
  have hnm := (name_of_methodNamed Bd.named Bd.method).1
  have X0 : Stand p l e room_1 s m #[(.long q1), (.long q2), (.int p3)] below meth c s₁ [] 0 0 := Stand.of_body Bd
  have e0 : s₁.heap = h0 := by rw [← hh, Bd.state]; rfl
  have N0 := Fr.nil n0
  suffices hR : ∀ P : State → Prop, (∀ s₂ o v L, s₂.status = .running → Ended s₂ below o → o = .returned v → Q_rm0 Z q1 q2 p3 h0 n0 v s₂.heap L → FrameEnd s o s₂ L room_1.cells room_1.slots → P s₂) → Rch p.tables e below P (s₁.setTop (mkF m 0 #[.val (.long q1), .second, .val (.long q2), .second, .val (.int p3), .unset, .unset, .unset, .unset, .unset, .unset] [])) by
    obtain ⟨s₂, h1, o, h2⟩ := hR (fun s₂ => ∃ o, s₂.status = .running ∧ Ended s₂ below o ∧ ∃ v L, o = .returned v ∧ Q_rm0 Z q1 q2 p3 h0 n0 v s₂.heap L ∧ FrameEnd s o s₂ L room_1.cells room_1.slots) (fun s₂ o v L q1 q2 q3 q4 q5 => ⟨o, q1, q2, v, L, q3, q4, q5⟩)
    exact ⟨s₂, o, castTop (ef_rm0 m q1 q2 p3) h1, h2⟩
  intro P hPd
  have j24 : ∀ (ln : Int64), Rch p.tables e below P (s₁.setTop (mkF m 24 #[.val (.long q1), .second, .val (.long q2), .second, .val (.int p3), .val (.long ln), .second, .unset, .unset, .unset, .unset] [])) := by
    intro ln
    obtain ⟨T1, h1, X1, e1, E1, A1, D1, -, st1⟩ := newO X0 hx hZ hown (ow0 hw) (ow1 hw) (ow2 hw) e0 (g := (mkF m 24 #[.val (.long q1), .second, .val (.long q2), .second, .val (.int p3), .val (.long ln), .second, .unset, .unset, .unset, .unset] [])) rfl (hb hby at_24) (by decide) (by decide)
    obtain ⟨b1, g1⟩ : ∃ z, z = h0.size := ⟨_, rfl⟩
    rw [← g1] at A1 D1 st1
    refine Rch.go st1 ?_
    have ge1 : n0 ≤ b1 := by rw [g1]; exact Z0
    have gk1 : h0.size ≤ b1 := by rw [g1]; exact (Keep.refl h0 []).1
    have K1 := (Keep.refl h0 []).ext E1
    have F1_number : Fld Z h1 b1 "com/example/tidekeep/tidekeep/indexer/Run" "number" "J" (.long (0 : Int64)) := D1 (Or.inr (ow15 hw)) (ty := .long) (by decide)
    have F1_lines : Fld Z h1 b1 "com/example/tidekeep/tidekeep/indexer/Run" "lines" "J" (.long (0 : Int64)) := D1 (Or.inr (ow17 hw)) (ty := .long) (by decide)
    show Rch _ _ _ _ (T1.setTop (mkF m 27 #[.val (.long q1), .second, .val (.long q2), .second, .val (.int p3), .val (.long ln), .second, .unset, .unset, .unset, .unset] [(.ref b1)]))
    refine Rch.go (fun zt zk => XS.dup X1.here hx rfl (hb hby at_27) rfl rfl zk) ?_
    show Rch _ _ _ _ (T1.setTop (mkF m 28 #[.val (.long q1), .second, .val (.long q2), .second, .val (.int p3), .val (.long ln), .second, .unset, .unset, .unset, .unset] [(.ref b1), (.ref b1)]))
    refine Rch.go (fun zt zk => XS.lloadN X1.here hx rfl (hb hby at_28) rfl zk) ?_
    show Rch _ _ _ _ (T1.setTop (mkF m 29 #[.val (.long q1), .second, .val (.long q2), .second, .val (.int p3), .val (.long ln), .second, .unset, .unset, .unset, .unset] [(.long q1), (.ref b1), (.ref b1)]))
    refine Rch.go (fun zt zk => XS.lload X1.here hx rfl (hb hby at_29) rfl zk) ?_
    show Rch _ _ _ _ (T1.setTop (mkF m 31 #[.val (.long q1), .second, .val (.long q2), .second, .val (.int p3), .val (.long ln), .second, .unset, .unset, .unset, .unset] [(.long ln), (.long q1), (.ref b1), (.ref b1)]))
    have f3 := (Nat.le_trans Z0 E1.1)
    obtain ⟨_, _, ⟨T2, L2, k2, n2⟩, -, X2, ⟨Lc2, hQ2, l2, y2, z2⟩, st2⟩ := X1.specialBack hx (y := (⟨"com/example/tidekeep/tidekeep/indexer/Run", "<init>", "(JJ)V"⟩ : MethodName)) rfl hown (mvT hZ (ow3 hw)) (mvT hZ (ow4 hw)) (mvT hZ (ow5 hw)) (by decide) (backOf (W := 1) (rm1 l Z a0 hw [] (b1) (q1) (ln) ((.long (0 : Int64))) ((.long (0 : Int64))) h1 n0 f3 (A1) (F1_number) (F1_lines) (ge1)) hZ (ow5 hw) (ow2 hw) (by decide) (by decide)) (g := (mkF m 31 #[.val (.long q1), .second, .val (.long q2), .second, .val (.int p3), .val (.long ln), .second, .unset, .unset, .unset, .unset] [(.long ln), (.long q1), (.ref b1), (.ref b1)])) rfl (by rw [hml]; rfl) (Steps.refl _) (a := b1) (argsL := [(.long q1), (.long ln)]) (rest := [(.ref b1)]) (lenOf pd__JJ_V rfl) rfl (by show 2 * 0 + _ ≤ _; exact Nat.le_of_eq rfl) (hb hby at_31) (fun _ _ => ⟨rfl, e1, (by decide : 1 + 0 ≤ _), (by decide : 2 + 0 ≤ _)⟩)
    dsimp only [Pt.U, Pt.locs, Pt.cells, Pt.slots] at X2 l2 y2 z2 st2 hQ2
    subst l2 y2 z2
    obtain ⟨rfl, N2q, K2q, O2_0, O2_1, O2_2⟩ := hQ2
    have N2 := Fr.app N0 N2q
    have K2 := Keep.trans K1 K2q (allS (Or.inr gk1) all0)
    refine Rch.go (fun zt zk => st2.trans zk) ?_
    show Rch _ _ _ _ (T2.setTop (mkF m 34 #[.val (.long q1), .second, .val (.long q2), .second, .val (.int p3), .val (.long ln), .second, .unset, .unset, .unset, .unset] [(.ref b1)]))
    refine Rch.go (fun zt zk => XS.astore X2.here hx rfl (hb hby at_34) rfl rfl (l' := #[.val (.long q1), .second, .val (.long q2), .second, .val (.int p3), .val (.long ln), .second, .val (.ref b1), .unset, .unset, .unset]) rfl zk) ?_
    show Rch _ _ _ _ (T2.setTop (mkF m 36 #[.val (.long q1), .second, .val (.long q2), .second, .val (.int p3), .val (.long ln), .second, .val (.ref b1), .unset, .unset, .unset] []))
    refine Rch.go (fun zt zk => XS.aload X2.here hx rfl (hb hby at_36) rfl rfl zk) ?_
    show Rch _ _ _ _ (T2.setTop (mkF m 38 #[.val (.long q1), .second, .val (.long q2), .second, .val (.int p3), .val (.long ln), .second, .val (.ref b1), .unset, .unset, .unset] [(.ref b1)]))
    have f5 := (Nat.le_trans f3 K2q.1)
    obtain ⟨cq4, kq4, q4a, q4b, q4c⟩ := isOf hZ rfl O2_0
    obtain ⟨_, _, ⟨T4, L4, k4, n4⟩, -, X4, ⟨Lc4, hQ4, l4, y4, z4⟩, st4⟩ := X2.virtualBack hx (y := (⟨"com/example/tidekeep/tidekeep/indexer/Run", "tier", "()I"⟩ : MethodName)) (z := (⟨"com/example/tidekeep/tidekeep/indexer/Run", "tier", "()I"⟩ : MethodName)) hown (mvT hZ (ow18 hw)) (mvT hZ (ow19 hw)) (notFace_of_selects (args := #[]) (mvT hZ (ow21 hw))) (mvT hZ (ow21 hw)) (mvT hZ (ow20 hw)) (by decide) (backOf (W := 0) (rm4 l Z a0 hw [] b1 ln T2.heap n0 f5 O2_2) hZ (ow22 hw) (ow2 hw) (by decide) (by decide)) q4a q4c (g := (mkF m 38 #[.val (.long q1), .second, .val (.long q2), .second, .val (.int p3), .val (.long ln), .second, .val (.ref b1), .unset, .unset, .unset] [(.ref b1)])) rfl (by rw [hml]; rfl) (Steps.refl _) (argsL := []) (rest := []) (lenOf pd___I rfl) rfl (by show 2 * 0 + _ ≤ _; exact Nat.le_of_eq rfl) (hb hby at_38) (fun _ _ => ⟨rfl, rfl, (by decide : 1 + 0 ≤ _), (by decide : 2 + 0 ≤ _)⟩)
    dsimp only [Pt.U, Pt.locs, Pt.cells, Pt.slots] at X4 l4 y4 z4 st4 hQ4
    subst l4 y4 z4
    obtain ⟨⟨t4, rfl, ht4⟩, N4q, eq4⟩ := hQ4
    have N4 := Fr.app N2 N4q
    refine Rch.go (fun zt zk => st4.trans zk) ?_
    show Rch _ _ _ _ (T4.setTop (mkF m 41 #[.val (.long q1), .second, .val (.long q2), .second, .val (.int p3), .val (.long ln), .second, .val (.ref b1), .unset, .unset, .unset] [(.int t4)]))
    refine Rch.go (fun zt zk => XS.istore X4.here hx rfl (hb hby at_41) rfl (l' := #[.val (.long q1), .second, .val (.long q2), .second, .val (.int p3), .val (.long ln), .second, .val (.ref b1), .val (.int t4), .unset, .unset]) rfl zk) ?_
    show Rch _ _ _ _ (T4.setTop (mkF m 43 #[.val (.long q1), .second, .val (.long q2), .second, .val (.int p3), .val (.long ln), .second, .val (.ref b1), .val (.int t4), .unset, .unset] []))
    refine Rch.go (fun zt zk => XS.lload X4.here hx rfl (hb hby at_43) rfl zk) ?_
    show Rch _ _ _ _ (T4.setTop (mkF m 45 #[.val (.long q1), .second, .val (.long q2), .second, .val (.int p3), .val (.long ln), .second, .val (.ref b1), .val (.int t4), .unset, .unset] [(.long ln)]))
    refine Rch.go (fun zt zk => XS.lconst X4.here hx rfl (hb hby at_45) zk) ?_
    show Rch _ _ _ _ (T4.setTop (mkF m 46 #[.val (.long q1), .second, .val (.long q2), .second, .val (.int p3), .val (.long ln), .second, .val (.ref b1), .val (.int t4), .unset, .unset] [(.long (0 : Int64)), (.long ln)]))
    refine Rch.go (fun zt zk => XS.lcmp X4.here hx rfl (hb hby at_46) rfl zk) ?_
    show Rch _ _ _ _ (T4.setTop (mkF m 47 #[.val (.long q1), .second, .val (.long q2), .second, .val (.int p3), .val (.long ln), .second, .val (.ref b1), .val (.int t4), .unset, .unset] [(.int (lcmpW ln (0 : Int64)))]))
    by_cases hc47_6 : (0 : Int32) < (lcmpW ln (0 : Int64))
    · skip
      refine Rch.go (fun zt zk => XS.ifYes X4.here hx rfl (pc0 := 47) (pc' := 61) rfl (hb hby at_47) rfl ((if0 _ _).trans (tlt hc47_6).2.2.1) (by decide) (by decide) zk) ?_
      show Rch _ _ _ _ (T4.setTop (mkF m 61 #[.val (.long q1), .second, .val (.long q2), .second, .val (.int p3), .val (.long ln), .second, .val (.ref b1), .val (.int t4), .unset, .unset] []))
      refine Rch.go (fun zt zk => XS.iload X4.here hx rfl (hb hby at_61) rfl zk) ?_
      show Rch _ _ _ _ (T4.setTop (mkF m 63 #[.val (.long q1), .second, .val (.long q2), .second, .val (.int p3), .val (.long ln), .second, .val (.ref b1), .val (.int t4), .unset, .unset] [(.int t4)]))
      by_cases hc63_7 : t4 < (0 : Int32)
      · skip
        refine Rch.go (fun zt zk => XS.ifYes X4.here hx rfl (pc0 := 63) (pc' := 73) rfl (hb hby at_63) rfl ((if0 _ _).trans (tlt hc63_7).1) (by decide) (by decide) zk) ?_
        show Rch _ _ _ _ (T4.setTop (mkF m 73 #[.val (.long q1), .second, .val (.long q2), .second, .val (.int p3), .val (.long ln), .second, .val (.ref b1), .val (.int t4), .unset, .unset] []))
        refine Rch.go (fun zt zk => XS.iconst X4.here hx rfl (hb hby at_73) zk) ?_
        show Rch _ _ _ _ (T4.setTop (mkF m 74 #[.val (.long q1), .second, .val (.long q2), .second, .val (.int p3), .val (.long ln), .second, .val (.ref b1), .val (.int t4), .unset, .unset] [(.int (0 : Int32))]))
        obtain ⟨fs, hr, hrun, hended, hW, hsame⟩ := X4.leave (v := some (.int (0 : Int32))) (fun h => by rw [Bd.returns] at h; cases h)
        refine Rch.mk (retN X4 hx (t := .boolean) Bd.returns (by simp) (hb hby at_74) hr) (hPd _ _ _ _ hrun hended rfl ?_ ⟨⟨_, rfl⟩, hW, hsame.mono (by decide) (by decide)⟩)
        show Q_rm0 Z q1 q2 p3 h0 n0 _ T4.heap _
        exfalso
        have hz := own_q ht4 hc47_6
        first | exact hz.1 hc63_7 | exact hz.2.1 hc63_7 | exact hz.2.2.1 hc63_7 | exact hz.2.2.2 hc63_7
      · skip
        refine Rch.go (fun zt zk => XS.ifNo X4.here hx rfl (hb hby at_63) rfl ((if0 _ _).trans (flt hc63_7).1) zk) ?_
        show Rch _ _ _ _ (T4.setTop (mkF m 66 #[.val (.long q1), .second, .val (.long q2), .second, .val (.int p3), .val (.long ln), .second, .val (.ref b1), .val (.int t4), .unset, .unset] []))
        refine Rch.go (fun zt zk => XS.iload X4.here hx rfl (hb hby at_66) rfl zk) ?_
        show Rch _ _ _ _ (T4.setTop (mkF m 68 #[.val (.long q1), .second, .val (.long q2), .second, .val (.int p3), .val (.long ln), .second, .val (.ref b1), .val (.int t4), .unset, .unset] [(.int t4)]))
        refine Rch.go (fun zt zk => XS.bipush X4.here hx rfl (hb hby at_68) zk) ?_
        show Rch _ _ _ _ (T4.setTop (mkF m 70 #[.val (.long q1), .second, .val (.long q2), .second, .val (.int p3), .val (.long ln), .second, .val (.ref b1), .val (.int t4), .unset, .unset] [(.int (20 : Int32)), (.int t4)]))
        by_cases hc70_8 : (20 : Int32) < t4
        · skip
          refine Rch.go (fun zt zk => XS.icmpNo X4.here hx rfl (hb hby at_70) rfl (tlt hc70_8).2.2.2 zk) ?_
          show Rch _ _ _ _ (T4.setTop (mkF m 73 #[.val (.long q1), .second, .val (.long q2), .second, .val (.int p3), .val (.long ln), .second, .val (.ref b1), .val (.int t4), .unset, .unset] []))
          refine Rch.go (fun zt zk => XS.iconst X4.here hx rfl (hb hby at_73) zk) ?_
          show Rch _ _ _ _ (T4.setTop (mkF m 74 #[.val (.long q1), .second, .val (.long q2), .second, .val (.int p3), .val (.long ln), .second, .val (.ref b1), .val (.int t4), .unset, .unset] [(.int (0 : Int32))]))
          obtain ⟨fs, hr, hrun, hended, hW, hsame⟩ := X4.leave (v := some (.int (0 : Int32))) (fun h => by rw [Bd.returns] at h; cases h)
          refine Rch.mk (retN X4 hx (t := .boolean) Bd.returns (by simp) (hb hby at_74) hr) (hPd _ _ _ _ hrun hended rfl ?_ ⟨⟨_, rfl⟩, hW, hsame.mono (by decide) (by decide)⟩)
          show Q_rm0 Z q1 q2 p3 h0 n0 _ T4.heap _
          exfalso
          have hz := own_q ht4 hc47_6
          first | exact hz.1 hc70_8 | exact hz.2.1 hc70_8 | exact hz.2.2.1 hc70_8 | exact hz.2.2.2 hc70_8
        · skip
          refine Rch.go (fun zt zk => XS.icmpYes X4.here hx rfl (pc0 := 70) (pc' := 75) rfl (hb hby at_70) rfl (flt hc70_8).2.2.2 (by decide) (by decide) zk) ?_
          show Rch _ _ _ _ (T4.setTop (mkF m 75 #[.val (.long q1), .second, .val (.long q2), .second, .val (.int p3), .val (.long ln), .second, .val (.ref b1), .val (.int t4), .unset, .unset] []))
          refine Rch.go (fun zt zk => XS.lload X4.here hx rfl (hb hby at_75) rfl zk) ?_
          show Rch _ _ _ _ (T4.setTop (mkF m 77 #[.val (.long q1), .second, .val (.long q2), .second, .val (.int p3), .val (.long ln), .second, .val (.ref b1), .val (.int t4), .unset, .unset] [(.long ln)]))
          refine Rch.go (fun zt zk => XS.iconst X4.here hx rfl (hb hby at_77) zk) ?_
          show Rch _ _ _ _ (T4.setTop (mkF m 78 #[.val (.long q1), .second, .val (.long q2), .second, .val (.int p3), .val (.long ln), .second, .val (.ref b1), .val (.int t4), .unset, .unset] [(.int (3 : Int32)), (.long ln)]))
          refine Rch.go (fun zt zk => XS.iload X4.here hx rfl (hb hby at_78) rfl zk) ?_
          show Rch _ _ _ _ (T4.setTop (mkF m 80 #[.val (.long q1), .second, .val (.long q2), .second, .val (.int p3), .val (.long ln), .second, .val (.ref b1), .val (.int t4), .unset, .unset] [(.int t4), (.int (3 : Int32)), (.long ln)]))
          refine Rch.go (fun zt zk => XS.imul X4.here hx rfl (hb hby at_80) rfl zk) ?_
          show Rch _ _ _ _ (T4.setTop (mkF m 81 #[.val (.long q1), .second, .val (.long q2), .second, .val (.int p3), .val (.long ln), .second, .val (.ref b1), .val (.int t4), .unset, .unset] [(.int ((3 : Int32) * t4)), (.long ln)]))
          refine Rch.go (fun zt zk => XS.lshr X4.here hx rfl (hb hby at_81) rfl zk) ?_
          show Rch _ _ _ _ (T4.setTop (mkF m 82 #[.val (.long q1), .second, .val (.long q2), .second, .val (.int p3), .val (.long ln), .second, .val (.ref b1), .val (.int t4), .unset, .unset] [(.long (ln >>> (((3 : Int32) * t4) &&& 0x3f).toInt64))]))
          refine Rch.go (fun zt zk => XS.lstore X4.here hx rfl (hb hby at_82) rfl (l' := #[.val (.long q1), .second, .val (.long q2), .second, .val (.int p3), .val (.long ln), .second, .val (.ref b1), .val (.int t4), .val (.long (ln >>> (((3 : Int32) * t4) &&& 0x3f).toInt64)), .second]) rfl zk) ?_
          show Rch _ _ _ _ (T4.setTop (mkF m 84 #[.val (.long q1), .second, .val (.long q2), .second, .val (.int p3), .val (.long ln), .second, .val (.ref b1), .val (.int t4), .val (.long (ln >>> (((3 : Int32) * t4) &&& 0x3f).toInt64)), .second] []))
          refine Rch.go (fun zt zk => XS.lload X4.here hx rfl (hb hby at_84) rfl zk) ?_
          show Rch _ _ _ _ (T4.setTop (mkF m 86 #[.val (.long q1), .second, .val (.long q2), .second, .val (.int p3), .val (.long ln), .second, .val (.ref b1), .val (.int t4), .val (.long (ln >>> (((3 : Int32) * t4) &&& 0x3f).toInt64)), .second] [(.long (ln >>> (((3 : Int32) * t4) &&& 0x3f).toInt64))]))
          refine Rch.go (fun zt zk => XS.lconst X4.here hx rfl (hb hby at_86) zk) ?_
          show Rch _ _ _ _ (T4.setTop (mkF m 87 #[.val (.long q1), .second, .val (.long q2), .second, .val (.int p3), .val (.long ln), .second, .val (.ref b1), .val (.int t4), .val (.long (ln >>> (((3 : Int32) * t4) &&& 0x3f).toInt64)), .second] [(.long (1 : Int64)), (.long (ln >>> (((3 : Int32) * t4) &&& 0x3f).toInt64))]))
          refine Rch.go (fun zt zk => XS.lcmp X4.here hx rfl (hb hby at_87) rfl zk) ?_
          show Rch _ _ _ _ (T4.setTop (mkF m 88 #[.val (.long q1), .second, .val (.long q2), .second, .val (.int p3), .val (.long ln), .second, .val (.ref b1), .val (.int t4), .val (.long (ln >>> (((3 : Int32) * t4) &&& 0x3f).toInt64)), .second] [(.int (lcmpW (ln >>> (((3 : Int32) * t4) &&& 0x3f).toInt64) (1 : Int64)))]))
          by_cases hc88_9 : (lcmpW (ln >>> (((3 : Int32) * t4) &&& 0x3f).toInt64) (1 : Int64)) < (0 : Int32)
          · skip
            refine Rch.go (fun zt zk => XS.ifYes X4.here hx rfl (pc0 := 88) (pc' := 104) rfl (hb hby at_88) rfl ((if0 _ _).trans (tlt hc88_9).1) (by decide) (by decide) zk) ?_
            show Rch _ _ _ _ (T4.setTop (mkF m 104 #[.val (.long q1), .second, .val (.long q2), .second, .val (.int p3), .val (.long ln), .second, .val (.ref b1), .val (.int t4), .val (.long (ln >>> (((3 : Int32) * t4) &&& 0x3f).toInt64)), .second] []))
            refine Rch.go (fun zt zk => XS.iconst X4.here hx rfl (hb hby at_104) zk) ?_
            show Rch _ _ _ _ (T4.setTop (mkF m 105 #[.val (.long q1), .second, .val (.long q2), .second, .val (.int p3), .val (.long ln), .second, .val (.ref b1), .val (.int t4), .val (.long (ln >>> (((3 : Int32) * t4) &&& 0x3f).toInt64)), .second] [(.int (0 : Int32))]))
            obtain ⟨fs, hr, hrun, hended, hW, hsame⟩ := X4.leave (v := some (.int (0 : Int32))) (fun h => by rw [Bd.returns] at h; cases h)
            refine Rch.mk (retN X4 hx (t := .boolean) Bd.returns (by simp) (hb hby at_105) hr) (hPd _ _ _ _ hrun hended rfl ?_ ⟨⟨_, rfl⟩, hW, hsame.mono (by decide) (by decide)⟩)
            show Q_rm0 Z q1 q2 p3 h0 n0 _ T4.heap _
            exfalso
            have hz := own_q ht4 hc47_6
            first | exact hz.1 hc88_9 | exact hz.2.1 hc88_9 | exact hz.2.2.1 hc88_9 | exact hz.2.2.2 hc88_9
          · skip
            refine Rch.go (fun zt zk => XS.ifNo X4.here hx rfl (hb hby at_88) rfl ((if0 _ _).trans (flt hc88_9).1) zk) ?_
            show Rch _ _ _ _ (T4.setTop (mkF m 91 #[.val (.long q1), .second, .val (.long q2), .second, .val (.int p3), .val (.long ln), .second, .val (.ref b1), .val (.int t4), .val (.long (ln >>> (((3 : Int32) * t4) &&& 0x3f).toInt64)), .second] []))
            refine Rch.go (fun zt zk => XS.lload X4.here hx rfl (hb hby at_91) rfl zk) ?_
            show Rch _ _ _ _ (T4.setTop (mkF m 93 #[.val (.long q1), .second, .val (.long q2), .second, .val (.int p3), .val (.long ln), .second, .val (.ref b1), .val (.int t4), .val (.long (ln >>> (((3 : Int32) * t4) &&& 0x3f).toInt64)), .second] [(.long (ln >>> (((3 : Int32) * t4) &&& 0x3f).toInt64))]))
            refine Rch.go (X4.ldc2Long hx hown (mvT hZ (ow24 hw)) (g := (mkF m 93 #[.val (.long q1), .second, .val (.long q2), .second, .val (.int p3), .val (.long ln), .second, .val (.ref b1), .val (.int t4), .val (.long (ln >>> (((3 : Int32) * t4) &&& 0x3f).toInt64)), .second] [(.long (ln >>> (((3 : Int32) * t4) &&& 0x3f).toInt64))])) rfl (hb hby at_93)) ?_
            show Rch _ _ _ _ (T4.setTop (mkF m 96 #[.val (.long q1), .second, .val (.long q2), .second, .val (.int p3), .val (.long ln), .second, .val (.ref b1), .val (.int t4), .val (.long (ln >>> (((3 : Int32) * t4) &&& 0x3f).toInt64)), .second] [(.long (7 : Int64)), (.long (ln >>> (((3 : Int32) * t4) &&& 0x3f).toInt64))]))
            refine Rch.go (fun zt zk => XS.lcmp X4.here hx rfl (hb hby at_96) rfl zk) ?_
            show Rch _ _ _ _ (T4.setTop (mkF m 97 #[.val (.long q1), .second, .val (.long q2), .second, .val (.int p3), .val (.long ln), .second, .val (.ref b1), .val (.int t4), .val (.long (ln >>> (((3 : Int32) * t4) &&& 0x3f).toInt64)), .second] [(.int (lcmpW (ln >>> (((3 : Int32) * t4) &&& 0x3f).toInt64) (7 : Int64)))]))
            by_cases hc97_10 : (0 : Int32) < (lcmpW (ln >>> (((3 : Int32) * t4) &&& 0x3f).toInt64) (7 : Int64))
            · skip
              refine Rch.go (fun zt zk => XS.ifYes X4.here hx rfl (pc0 := 97) (pc' := 104) rfl (hb hby at_97) rfl ((if0 _ _).trans (tlt hc97_10).2.2.1) (by decide) (by decide) zk) ?_
              show Rch _ _ _ _ (T4.setTop (mkF m 104 #[.val (.long q1), .second, .val (.long q2), .second, .val (.int p3), .val (.long ln), .second, .val (.ref b1), .val (.int t4), .val (.long (ln >>> (((3 : Int32) * t4) &&& 0x3f).toInt64)), .second] []))
              refine Rch.go (fun zt zk => XS.iconst X4.here hx rfl (hb hby at_104) zk) ?_
              show Rch _ _ _ _ (T4.setTop (mkF m 105 #[.val (.long q1), .second, .val (.long q2), .second, .val (.int p3), .val (.long ln), .second, .val (.ref b1), .val (.int t4), .val (.long (ln >>> (((3 : Int32) * t4) &&& 0x3f).toInt64)), .second] [(.int (0 : Int32))]))
              obtain ⟨fs, hr, hrun, hended, hW, hsame⟩ := X4.leave (v := some (.int (0 : Int32))) (fun h => by rw [Bd.returns] at h; cases h)
              refine Rch.mk (retN X4 hx (t := .boolean) Bd.returns (by simp) (hb hby at_105) hr) (hPd _ _ _ _ hrun hended rfl ?_ ⟨⟨_, rfl⟩, hW, hsame.mono (by decide) (by decide)⟩)
              show Q_rm0 Z q1 q2 p3 h0 n0 _ T4.heap _
              exfalso
              have hz := own_q ht4 hc47_6
              first | exact hz.1 hc97_10 | exact hz.2.1 hc97_10 | exact hz.2.2.1 hc97_10 | exact hz.2.2.2 hc97_10
            · skip
              refine Rch.go (fun zt zk => XS.ifNo X4.here hx rfl (hb hby at_97) rfl ((if0 _ _).trans (flt hc97_10).2.2.1) zk) ?_
              show Rch _ _ _ _ (T4.setTop (mkF m 100 #[.val (.long q1), .second, .val (.long q2), .second, .val (.int p3), .val (.long ln), .second, .val (.ref b1), .val (.int t4), .val (.long (ln >>> (((3 : Int32) * t4) &&& 0x3f).toInt64)), .second] []))
              refine Rch.go (fun zt zk => XS.iconst X4.here hx rfl (hb hby at_100) zk) ?_
              show Rch _ _ _ _ (T4.setTop (mkF m 101 #[.val (.long q1), .second, .val (.long q2), .second, .val (.int p3), .val (.long ln), .second, .val (.ref b1), .val (.int t4), .val (.long (ln >>> (((3 : Int32) * t4) &&& 0x3f).toInt64)), .second] [(.int (1 : Int32))]))
              refine Rch.go (fun zt zk => XS.goto X4.here hx rfl (pc0 := 101) (pc' := 105) rfl (hb hby at_101) (by decide) (by decide) zk) ?_
              show Rch _ _ _ _ (T4.setTop (mkF m 105 #[.val (.long q1), .second, .val (.long q2), .second, .val (.int p3), .val (.long ln), .second, .val (.ref b1), .val (.int t4), .val (.long (ln >>> (((3 : Int32) * t4) &&& 0x3f).toInt64)), .second] [(.int (1 : Int32))]))
              obtain ⟨fs, hr, hrun, hended, hW, hsame⟩ := X4.leave (v := some (.int (1 : Int32))) (fun h => by rw [Bd.returns] at h; cases h)
              refine Rch.mk (retN X4 hx (t := .boolean) Bd.returns (by simp) (hb hby at_105) hr) (hPd _ _ _ _ hrun hended rfl ?_ ⟨⟨_, rfl⟩, hW, hsame.mono (by decide) (by decide)⟩)
              show Q_rm0 Z q1 q2 p3 h0 n0 _ T4.heap _
              exact ⟨rfl, N4⟩
    · skip
      refine Rch.go (fun zt zk => XS.ifNo X4.here hx rfl (hb hby at_47) rfl ((if0 _ _).trans (flt hc47_6).2.2.1) zk) ?_
      show Rch _ _ _ _ (T4.setTop (mkF m 50 #[.val (.long q1), .second, .val (.long q2), .second, .val (.int p3), .val (.long ln), .second, .val (.ref b1), .val (.int t4), .unset, .unset] []))
      refine Rch.go (fun zt zk => XS.iload X4.here hx rfl (hb hby at_50) rfl zk) ?_
      show Rch _ _ _ _ (T4.setTop (mkF m 52 #[.val (.long q1), .second, .val (.long q2), .second, .val (.int p3), .val (.long ln), .second, .val (.ref b1), .val (.int t4), .unset, .unset] [(.int t4)]))
      by_cases hc52_11 : t4 = (0 : Int32)
      · skip
        refine Rch.go (fun zt zk => XS.ifNo X4.here hx rfl (hb hby at_52) rfl ((if0 _ _).trans (teq hc52_11).2) zk) ?_
        show Rch _ _ _ _ (T4.setTop (mkF m 55 #[.val (.long q1), .second, .val (.long q2), .second, .val (.int p3), .val (.long ln), .second, .val (.ref b1), .val (.int t4), .unset, .unset] []))
        refine Rch.go (fun zt zk => XS.iconst X4.here hx rfl (hb hby at_55) zk) ?_
        show Rch _ _ _ _ (T4.setTop (mkF m 56 #[.val (.long q1), .second, .val (.long q2), .second, .val (.int p3), .val (.long ln), .second, .val (.ref b1), .val (.int t4), .unset, .unset] [(.int (1 : Int32))]))
        refine Rch.go (fun zt zk => XS.goto X4.here hx rfl (pc0 := 56) (pc' := 60) rfl (hb hby at_56) (by decide) (by decide) zk) ?_
        show Rch _ _ _ _ (T4.setTop (mkF m 60 #[.val (.long q1), .second, .val (.long q2), .second, .val (.int p3), .val (.long ln), .second, .val (.ref b1), .val (.int t4), .unset, .unset] [(.int (1 : Int32))]))
        obtain ⟨fs, hr, hrun, hended, hW, hsame⟩ := X4.leave (v := some (.int (1 : Int32))) (fun h => by rw [Bd.returns] at h; cases h)
        refine Rch.mk (retN X4 hx (t := .boolean) Bd.returns (by simp) (hb hby at_60) hr) (hPd _ _ _ _ hrun hended rfl ?_ ⟨⟨_, rfl⟩, hW, hsame.mono (by decide) (by decide)⟩)
        show Q_rm0 Z q1 q2 p3 h0 n0 _ T4.heap _
        exact ⟨rfl, N4⟩
      · skip
        refine Rch.go (fun zt zk => XS.ifYes X4.here hx rfl (pc0 := 52) (pc' := 59) rfl (hb hby at_52) rfl ((if0 _ _).trans (feq hc52_11).2) (by decide) (by decide) zk) ?_
        show Rch _ _ _ _ (T4.setTop (mkF m 59 #[.val (.long q1), .second, .val (.long q2), .second, .val (.int p3), .val (.long ln), .second, .val (.ref b1), .val (.int t4), .unset, .unset] []))
        refine Rch.go (fun zt zk => XS.iconst X4.here hx rfl (hb hby at_59) zk) ?_
        show Rch _ _ _ _ (T4.setTop (mkF m 60 #[.val (.long q1), .second, .val (.long q2), .second, .val (.int p3), .val (.long ln), .second, .val (.ref b1), .val (.int t4), .unset, .unset] [(.int (0 : Int32))]))
        obtain ⟨fs, hr, hrun, hended, hW, hsame⟩ := X4.leave (v := some (.int (0 : Int32))) (fun h => by rw [Bd.returns] at h; cases h)
        refine Rch.mk (retN X4 hx (t := .boolean) Bd.returns (by simp) (hb hby at_60) hr) (hPd _ _ _ _ hrun hended rfl ?_ ⟨⟨_, rfl⟩, hW, hsame.mono (by decide) (by decide)⟩)
        show Q_rm0 Z q1 q2 p3 h0 n0 _ T4.heap _
        exfalso
        exact hc52_11 (own_t0 ht4 hc47_6)
  refine Rch.go (fun zt zk => XS.iload X0.here hx rfl (hb hby at_0) rfl zk) ?_
  show Rch _ _ _ _ (s₁.setTop (mkF m 2 #[.val (.long q1), .second, .val (.long q2), .second, .val (.int p3), .unset, .unset, .unset, .unset, .unset, .unset] [(.int p3)]))
  refine Rch.go (fun zt zk => XS.iconst X0.here hx rfl (hb hby at_2) zk) ?_
  show Rch _ _ _ _ (s₁.setTop (mkF m 3 #[.val (.long q1), .second, .val (.long q2), .second, .val (.int p3), .unset, .unset, .unset, .unset, .unset, .unset] [(.int (1 : Int32)), (.int p3)]))
  refine Rch.go (fun zt zk => XS.iand X0.here hx rfl (hb hby at_3) rfl zk) ?_
  show Rch _ _ _ _ (s₁.setTop (mkF m 4 #[.val (.long q1), .second, .val (.long q2), .second, .val (.int p3), .unset, .unset, .unset, .unset, .unset, .unset] [(.int (p3 &&& (1 : Int32)))]))
  by_cases hc4_12 : (p3 &&& (1 : Int32)) = (0 : Int32)
  · skip
    refine Rch.go (fun zt zk => XS.ifYes X0.here hx rfl (pc0 := 4) (pc' := 13) rfl (hb hby at_4) rfl ((if0 _ _).trans (teq hc4_12).1) (by decide) (by decide) zk) ?_
    show Rch _ _ _ _ (s₁.setTop (mkF m 13 #[.val (.long q1), .second, .val (.long q2), .second, .val (.int p3), .unset, .unset, .unset, .unset, .unset, .unset] []))
    refine Rch.go (fun zt zk => XS.lloadN X0.here hx rfl (hb hby at_13) rfl zk) ?_
    show Rch _ _ _ _ (s₁.setTop (mkF m 14 #[.val (.long q1), .second, .val (.long q2), .second, .val (.int p3), .unset, .unset, .unset, .unset, .unset, .unset] [(.long q2)]))
    refine Rch.go (fun zt zk => XS.iload X0.here hx rfl (hb hby at_14) rfl zk) ?_
    show Rch _ _ _ _ (s₁.setTop (mkF m 16 #[.val (.long q1), .second, .val (.long q2), .second, .val (.int p3), .unset, .unset, .unset, .unset, .unset, .unset] [(.int p3), (.long q2)]))
    refine Rch.go (fun zt zk => XS.iconst X0.here hx rfl (hb hby at_16) zk) ?_
    show Rch _ _ _ _ (s₁.setTop (mkF m 17 #[.val (.long q1), .second, .val (.long q2), .second, .val (.int p3), .unset, .unset, .unset, .unset, .unset, .unset] [(.int (1 : Int32)), (.int p3), (.long q2)]))
    refine Rch.go (fun zt zk => XS.iushr X0.here hx rfl (hb hby at_17) rfl zk) ?_
    show Rch _ _ _ _ (s₁.setTop (mkF m 18 #[.val (.long q1), .second, .val (.long q2), .second, .val (.int p3), .unset, .unset, .unset, .unset, .unset, .unset] [(.int ((p3.toUInt32 >>> ((1 : Int32) &&& 31).toUInt32).toInt32)), (.long q2)]))
    refine Rch.go (fun zt zk => XS.bipush X0.here hx rfl (hb hby at_18) zk) ?_
    show Rch _ _ _ _ (s₁.setTop (mkF m 20 #[.val (.long q1), .second, .val (.long q2), .second, .val (.int p3), .unset, .unset, .unset, .unset, .unset, .unset] [(.int (63 : Int32)), (.int ((p3.toUInt32 >>> ((1 : Int32) &&& 31).toUInt32).toInt32)), (.long q2)]))
    refine Rch.go (fun zt zk => XS.iand X0.here hx rfl (hb hby at_20) rfl zk) ?_
    show Rch _ _ _ _ (s₁.setTop (mkF m 21 #[.val (.long q1), .second, .val (.long q2), .second, .val (.int p3), .unset, .unset, .unset, .unset, .unset, .unset] [(.int (((p3.toUInt32 >>> ((1 : Int32) &&& 31).toUInt32).toInt32) &&& (63 : Int32))), (.long q2)]))
    refine Rch.go (fun zt zk => XS.lushr X0.here hx rfl (hb hby at_21) rfl zk) ?_
    show Rch _ _ _ _ (s₁.setTop (mkF m 22 #[.val (.long q1), .second, .val (.long q2), .second, .val (.int p3), .unset, .unset, .unset, .unset, .unset, .unset] [(.long ((q2.toUInt64 >>> ((((p3.toUInt32 >>> ((1 : Int32) &&& 31).toUInt32).toInt32) &&& (63 : Int32)) &&& 0x3f).toInt64.toUInt64).toInt64))]))
    refine Rch.go (fun zt zk => XS.lstore X0.here hx rfl (hb hby at_22) rfl (l' := #[.val (.long q1), .second, .val (.long q2), .second, .val (.int p3), .val (.long ((q2.toUInt64 >>> ((((p3.toUInt32 >>> ((1 : Int32) &&& 31).toUInt32).toInt32) &&& (63 : Int32)) &&& 0x3f).toInt64.toUInt64).toInt64)), .second, .unset, .unset, .unset, .unset]) rfl zk) ?_
    show Rch _ _ _ _ (s₁.setTop (mkF m 24 #[.val (.long q1), .second, .val (.long q2), .second, .val (.int p3), .val (.long ((q2.toUInt64 >>> ((((p3.toUInt32 >>> ((1 : Int32) &&& 31).toUInt32).toInt32) &&& (63 : Int32)) &&& 0x3f).toInt64.toUInt64).toInt64)), .second, .unset, .unset, .unset, .unset] []))
    exact j24 _ 
  · skip
    refine Rch.go (fun zt zk => XS.ifNo X0.here hx rfl (hb hby at_4) rfl ((if0 _ _).trans (feq hc4_12).1) zk) ?_
    show Rch _ _ _ _ (s₁.setTop (mkF m 7 #[.val (.long q1), .second, .val (.long q2), .second, .val (.int p3), .unset, .unset, .unset, .unset, .unset, .unset] []))
    refine Rch.go (fun zt zk => XS.lloadN X0.here hx rfl (hb hby at_7) rfl zk) ?_
    show Rch _ _ _ _ (s₁.setTop (mkF m 8 #[.val (.long q1), .second, .val (.long q2), .second, .val (.int p3), .unset, .unset, .unset, .unset, .unset, .unset] [(.long q2)]))
    refine Rch.go (fun zt zk => XS.lstore X0.here hx rfl (hb hby at_8) rfl (l' := #[.val (.long q1), .second, .val (.long q2), .second, .val (.int p3), .val (.long q2), .second, .unset, .unset, .unset, .unset]) rfl zk) ?_
    show Rch _ _ _ _ (s₁.setTop (mkF m 10 #[.val (.long q1), .second, .val (.long q2), .second, .val (.int p3), .val (.long q2), .second, .unset, .unset, .unset, .unset] []))
    refine Rch.go (fun zt zk => XS.goto X0.here hx rfl (pc0 := 10) (pc' := 24) rfl (hb hby at_10) (by decide) (by decide) zk) ?_
    show Rch _ _ _ _ (s₁.setTop (mkF m 24 #[.val (.long q1), .second, .val (.long q2), .second, .val (.int p3), .val (.long q2), .second, .unset, .unset, .unset, .unset] []))
    exact j24 _ 
set_option maxRecDepth 65536 in
set_option maxHeartbeats 40000000 in
theorem comes_1 {Post : Tables → Env → Array Value → State → Outcome → State → Prop} (hpost : ∀ tb e args s v u, (limb_1_1.after args s (.returned v) u = true ∧ limb_1_2.after args s (.returned v) u = true ∧ True) → FrameEnd s (.returned v) u (Jvm.fieldLocs frame_1_writes args s ++ Jvm.arrayLocs frame_1_arrays args s ++ Jvm.staticLocs frame_1_statics s) 16 128 → Post tb e args s (.returned v) u) :
    ArmFor flags0 classFile x code maxLocals ret World_1 tables_1 room_1 Calls_1 rest_1 Pre_1 Post := by
  intro l hfl _ _ p e ha hc hk s m args below hf hA hF happ hP
  obtain ⟨hcalls, hrest, hpre⟩ := hP
  obtain ⟨-, -, -, hnamed, -, -, -, hat⟩ := (Spec.applies_iff hf).mp happ
  obtain ⟨hg, hn⟩ := and_e (Cond.before_iff.mp (show (Jvm.Cond.and given_1 narrow_1).before args s = true from hpre))
  obtain ⟨g1, g2⟩ := and_e hg
  obtain ⟨ga0, gb0⟩ := and_e g2
  obtain ⟨ga1, gb1⟩ := and_e gb0
  obtain ⟨w0, w1, w2, rfl⟩ : ∃ w0 w1 w2 : Value, args = #[w0, w1, w2] := by
    have hs : args.size = 3 := by simpa [Cond.value, given_1] using g1
    obtain ⟨L⟩ := args
    match L, hs with
    | [w0, w1, w2], _ => exact ⟨w0, w1, w2, rfl⟩
  have hw := fun d (hd : d ∈ tables_1) => atoms_spec (ws := Jvm.Cond.code x code maxLocals ret :: tables_1) hat d (List.mem_cons_of_mem _ hd)
  have hfit : Fit s := fun {y c} hc i hi => by
    obtain ⟨ha, rfl⟩ := Array.getElem?_eq_some_iff.mp hc
    have q := List.all_eq_true.mp ((Array.all_eq_true_iff_forall_mem.mp hF) _ (Array.getElem_mem ha)) i (List.mem_range.mpr hi)
    simpa [Array.getElem?_eq_getElem hi] using q
  obtain ⟨i0, ei0⟩ := isL_v ga0
  obtain rfl : w0 = (.long i0) := Option.some.inj ei0
  obtain ⟨i1, ei1⟩ := isL_v ga1
  obtain rfl : w1 = (.long i1) := Option.some.inj ei1
  obtain ⟨i2, ei2⟩ := is_v gb1
  obtain rfl : w2 = (.int i2) := Option.some.inj ei2
  obtain ⟨n, o, h1, h2, h3, _, L, rfl, ⟨rfl, N⟩, hq⟩ := rm0 l s _ hw tables_1 i0 i1 i2  s.heap s.heap.size (Nat.le_refl _)  p e ha hc hk s m _ below hf ((Spec.applies_iff_loose hf).mp happ).1 ⟨rfl, State.Warmed39.refl s, rfl⟩ trivial
  refine ⟨n, _, h1, h2, h3, hpost _ _ _ _ _ _ ⟨Cond.after_iff.mpr rfl, Cond.after_iff.mpr (eq_i res_at (Term.int_eval (1)) rfl), trivial⟩ ⟨hq.1, hq.2.1, (hq.2.2.sift fun y hy => Or.inr (N y hy)).mono (by decide) (by decide)⟩⟩
theorem main_1_1 : Claimed_1_1 := comes_1 fun _ _ _ _ _ _ h hF => ⟨h.1, hF⟩
theorem main_1_2 : Claimed_1_2 := comes_1 fun _ _ _ _ _ _ h hF => ⟨h.2.1, hF⟩
end Jvm.Pilot.@@N@@
namespace Jvm.Pilot.@@N@@
open Jvm Jvm.ClassFile Sem Op Lib Jvm.Free Jvm.Stand Jvm.Pilot.@@N@@.Jvm.D
/-! MADE BY PROGRAM (witnessworld.py) out of the Statement's table words and the real class files: 10 classes; the members and pool entries that the words name. The judged class is class 1, her method 1. -/
namespace start1
open Jvm.ClassFile
def u (s : String) : CpInfo := .utf8 (stringToUtf16 s)
/-- a pool by its gaps: so many unusable entries, then the entry; so many at the end -/
def gap : Nat → List CpInfo → List CpInfo
  | 0, r => r
  | n + 1, r => .unusable :: gap n r
def poolList (es : List (Nat × CpInfo)) (last : Nat) : List CpInfo := es.foldr (fun e r => gap e.1 (e.2 :: r)) (gap last [])
def pool (es : List (Nat × CpInfo)) (last : Nat) : Array CpInfo := ⟨poolList es last⟩
def fileOf (pool : Array CpInfo) (this : Nat) (attrs : Array Attribute := #[]) (ms : Array MethodInfo := #[]) (fl : Nat := 33) (sup : Nat := 0) (ifs : Array Nat := #[]) (fds : Array FieldInfo := #[]) : ClassFile where
  minorVersion := 0
  majorVersion := 65
  constantPool := pool
  accessFlags := fl
  thisClass := this
  superClass := sup
  interfaces := ifs
  fields := fds
  methods := ms
  attributes := attrs
def plain (name : String) (sup : Option ClassId) : Class where
  name := name
  kind := .ordinary
  loader := none
  accessFlags := 33
  super := sup
  interfaces := #[]
  cf := none
  fields := #[]
  methods := #[]
  instanceTypes := #[]
  staticTypes := #[]
  resolved := #[]
  callSites := []
  init := .initialized
  statics := none
  mirror := none

def pool0 : Array CpInfo := pool [(5, u "<init>"), (0, u "()V"), (1, .class_ 10), (1, u "java/lang/Object")] 113

def k0c0 : Code := { maxStack := 0, maxLocals := 1, code := object_method_1_code, exceptionTable := #[], attributes := #[] }
def k0m0 : Method := { name := "<init>", desc := "()V", sig := { parameters := [], returnType := none }, accessFlags := 1, code := some k0c0 }
/-- java/lang/Object -/
def k0 : Class := { plain "java/lang/Object" none with
  accessFlags := 33
  interfaces := #[]
  cf := some (fileOf pool0 8 #[] #[{ accessFlags := 1, nameIndex := 5, descriptorIndex := 6, attributes := #[] }] 33 0 #[] #[])
  fields := #[]
  methods := #[k0m0]
  instanceTypes := #[]
  staticTypes := #[]
  resolved := Array.replicate 124 none
  statics := none }

def pool1 : Array CpInfo := pool [(2, .class_ 4), (1, u "java/lang/Object"), (0, u "<init>"), (0, u "()V"), (0, .class_ 8), (0, u "com/example/tidekeep/tidekeep/indexer/Run"), (0, .methodref 7 10), (0, .nameAndType 5 11), (0, u "(JJ)V"), (0, .methodref 7 13), (0, .nameAndType 14 15), (0, u "tier"), (0, u "()I"), (0, .long 7), (1, .class_ 19), (0, u "com/example/tidekeep/tidekeep/indexer/RunTierPinLaw"), (2, u "law"), (0, u "(JJI)Z")] 3

def k1m0 : Method := { name := "<init>", desc := "()V", sig := { parameters := [], returnType := none }, accessFlags := 1, code := none }
def k1c1 : Code := { maxStack := 6, maxLocals := 11, code := code, exceptionTable := #[], attributes := #[] }
def k1m1 : Method := { name := "law", desc := "(JJI)Z", sig := { parameters := [.long, .long, .int], returnType := some .boolean }, accessFlags := 9, code := some k1c1 }
/-- com/example/tidekeep/tidekeep/indexer/RunTierPinLaw -/
def k1 : Class := { plain "com/example/tidekeep/tidekeep/indexer/RunTierPinLaw" (some 0) with
  accessFlags := 49
  interfaces := #[]
  cf := some (fileOf pool1 18 #[] #[{ accessFlags := 1, nameIndex := 5, descriptorIndex := 6, attributes := #[] }, { accessFlags := 9, nameIndex := 22, descriptorIndex := 23, attributes := #[] }] 49 2 #[] #[])
  fields := #[]
  methods := #[k1m0, k1m1]
  instanceTypes := #[]
  staticTypes := #[]
  resolved := Array.replicate 27 none
  statics := none }

def pool2 : Array CpInfo := pool [(1, .methodref 2 3), (0, .class_ 4), (0, .nameAndType 5 6), (0, u "java/lang/Object"), (0, u "<init>"), (0, u "()V"), (0, .class_ 8), (0, u "java/lang/Record")] 13

def k2c0 : Code := { maxStack := 1, maxLocals := 1, code := jdk_30_method_1_code, exceptionTable := #[], attributes := #[] }
def k2m0 : Method := { name := "<init>", desc := "()V", sig := { parameters := [], returnType := none }, accessFlags := 4, code := some k2c0 }
/-- java/lang/Record -/
def k2 : Class := { plain "java/lang/Record" (some 0) with
  accessFlags := 1057
  interfaces := #[]
  cf := some (fileOf pool2 7 #[] #[{ accessFlags := 4, nameIndex := 5, descriptorIndex := 6, attributes := #[] }] 1057 2 #[] #[])
  fields := #[]
  methods := #[k2m0]
  instanceTypes := #[]
  staticTypes := #[]
  resolved := Array.replicate 22 none
  statics := none }

def pool3 : Array CpInfo := pool [(1, .methodref 2 3), (0, .class_ 4), (0, .nameAndType 5 6), (0, u "java/lang/Record"), (0, u "<init>"), (0, u "()V"), (0, .fieldref 8 9), (0, .class_ 10), (0, .nameAndType 11 12), (0, u "com/example/tidekeep/tidekeep/indexer/Run"), (0, u "number"), (0, u "J"), (0, .fieldref 8 14), (0, .nameAndType 15 12), (0, u "lines"), (30, .long 8), (3, u "PART"), (0, u "Ljava/util/regex/Pattern;"), (14, u "NAME"), (38, u "FAN_IN"), (0, u "I"), (2, u "(JJ)V"), (6, u "tier"), (0, u "()I")] 39

def k3c0 : Code := { maxStack := 3, maxLocals := 5, code := prog_71_method_1_code, exceptionTable := #[], attributes := #[] }
def k3m0 : Method := { name := "<init>", desc := "(JJ)V", sig := { parameters := [.long, .long], returnType := none }, accessFlags := 0, code := some k3c0 }
def k3c1 : Code := { maxStack := 4, maxLocals := 4, code := prog_71_method_5_code, exceptionTable := #[], attributes := #[] }
def k3m1 : Method := { name := "tier", desc := "()I", sig := { parameters := [], returnType := some .int }, accessFlags := 0, code := some k3c1 }
/-- com/example/tidekeep/tidekeep/indexer/Run -/
def k3 : Class := { plain "com/example/tidekeep/tidekeep/indexer/Run" (some 2) with
  accessFlags := 48
  interfaces := #[]
  cf := some (fileOf pool3 8 #[] #[{ accessFlags := 0, nameIndex := 5, descriptorIndex := 109, attributes := #[] }, { accessFlags := 0, nameIndex := 116, descriptorIndex := 117, attributes := #[] }] 48 2 #[] #[{ accessFlags := 18, nameIndex := 11, descriptorIndex := 12, attributes := #[] }, { accessFlags := 18, nameIndex := 15, descriptorIndex := 12, attributes := #[] }, { accessFlags := 26, nameIndex := 66, descriptorIndex := 51, attributes := #[] }, { accessFlags := 26, nameIndex := 50, descriptorIndex := 51, attributes := #[] }, { accessFlags := 24, nameIndex := 105, descriptorIndex := 106, attributes := #[] }])
  fields := #[{ name := "number", type := .long, accessFlags := 18, slot := 0, constantValue := 0 }, { name := "lines", type := .long, accessFlags := 18, slot := 1, constantValue := 0 }, { name := "NAME", type := (.object "java/util/regex/Pattern"), accessFlags := 26, slot := 0, constantValue := 0 }, { name := "PART", type := (.object "java/util/regex/Pattern"), accessFlags := 26, slot := 1, constantValue := 0 }, { name := "FAN_IN", type := .int, accessFlags := 24, slot := 2, constantValue := 0 }]
  methods := #[k3m0, k3m1]
  instanceTypes := #[.long, .long]
  staticTypes := #[(.object "java/util/regex/Pattern"), (.object "java/util/regex/Pattern"), .int]
  resolved := Array.replicate 157 none
  statics := none }

def pool4 : Array CpInfo := pool [(1, u "java/lang/Cloneable"), (0, .class_ 1), (0, u "java/lang/Object"), (0, .class_ 3)] 3

/-- java/lang/Cloneable -/
def k4 : Class := { plain "java/lang/Cloneable" (some 0) with
  accessFlags := 1537
  interfaces := #[]
  cf := some (fileOf pool4 2 #[] #[] 1537 4 #[] #[])
  fields := #[]
  methods := #[]
  instanceTypes := #[]
  staticTypes := #[]
  resolved := Array.replicate 8 none
  statics := none }

def pool5 : Array CpInfo := pool [(1, u "java/io/Serializable"), (0, .class_ 1), (0, u "java/lang/Object"), (0, .class_ 3)] 3

/-- java/io/Serializable -/
def k5 : Class := { plain "java/io/Serializable" (some 0) with
  accessFlags := 1537
  interfaces := #[]
  cf := some (fileOf pool5 2 #[] #[] 1537 4 #[] #[])
  fields := #[]
  methods := #[]
  instanceTypes := #[]
  staticTypes := #[]
  resolved := Array.replicate 8 none
  statics := none }

/-- the primitive byte -/
def k6 : Class := { plain "byte" none with kind := .primitive 'B', accessFlags := 0x411 }
/-- [B -/
def k7 : Class := { plain "[B" (some 0) with kind := .array 6 .byte, interfaces := #[4, 5], accessFlags := 1041 }

/-- the primitive int -/
def k8 : Class := { plain "int" none with kind := .primitive 'I', accessFlags := 0x411 }
/-- [I -/
def k9 : Class := { plain "[I" (some 0) with kind := .array 8 .int, interfaces := #[4, 5], accessFlags := 1041 }

def heap : Heap := #[]
def classes : Array Class := #[k0, k1, k2, k3, k4, k5, k6, k7, k8, k9]
def interned : List (Array UInt16 × Addr) := []
def slotsUsed : Nat := 0
def theMethod : MethodId := ⟨1, 1⟩
def args0 : Array Value := #[.long 5, .long 3, .int 0]
def aboutOver (below : List Frame) : State where
  vm := { classes := classes, interned := interned.toArray }
  heap := heap
  slotsUsed := slotsUsed
  threads := #[{ frames := .invoking theMethod args0 :: below }]
def below0 : List Frame := [.native { method := ⟨0, 0⟩, args := #[] }]
def about1 : State := aboutOver below0
def p0 : Program := .bare "" "" ""
def e0 : Env := launch0.env 0 0 0
theorem w_frames : about1.frames = Frame.invoking theMethod args0 :: below0 := rfl
set_option maxRecDepth 65536 in
theorem w_args : argsFit about1.vm theMethod args0 = true := by decide +kernel
set_option maxRecDepth 65536 in
theorem w_heap : heapFits about1 = true := by decide +kernel
set_option maxRecDepth 65536 in
theorem w_runnable : about1.curStatus? = some .runnable := by decide +kernel
set_option maxRecDepth 65536 in
theorem w_alone : about1.alone = true := by decide +kernel
set_option maxRecDepth 65536 in
theorem w_named : about1.methodNamed? x = some theMethod := by decide +kernel
set_option maxRecDepth 65536 in
theorem w_hears : about1.hears theMethod below0 = true := by decide +kernel
set_option maxRecDepth 65536 in
theorem w_ripe : about1.ripe theMethod args0 below0 = true := by decide +kernel
theorem w_running : about1.status = .running := rfl
set_option maxRecDepth 65536 in
theorem w_room : about1.hasRoom e0.platform room_1 = true :=
  launch0.hasRoom_least _ room_1 (by decide +kernel) (by decide +kernel) (by decide +kernel) (by decide +kernel) (by decide +kernel) (by decide +kernel)
theorem allAtoms_all (ts : List Jvm.Cond) (a : Array Jvm.Value) (st : Jvm.State) : (allAtoms ts).before a st = ts.all (fun c => c.before a st) := by
  induction ts with
  | nil => rfl
  | cons c t ih =>
    show (Jvm.Cond.and c (allAtoms t)).before a st = _
    rw [Jvm.Cond.before_and, ih, List.all_cons]
def words1 : List Jvm.Cond := Jvm.Cond.code x code maxLocals ret :: tables_1
/-- a 'code' word, met by the world's own term for the bytes: nothing is compared byte by byte -/
theorem code_word {y : MethodName} {bytes : ByteArray} {mx : Nat} {rt : Option FieldType} {a : Array Value} {s : State} {m : MethodId} {meth : Method} {c : Code} (h1 : s.methodNamed? y = some m) (h2 : s.vm.method? m = some meth) (h3 : meth.code = some c) (h4 : c.code = bytes)
    (h5 : (c.maxLocals == mx && c.exceptionTable.isEmpty && decide (c.maxStack ≤ mostOperands) && decide (meth.sig.returnType = rt) && !meth.locks && decide (parseMethodDescriptor y.desc = some meth.sig)) = true) : (Jvm.Cond.code y bytes mx rt).before a s = true := by
  simp only [Bool.and_eq_true, beq_iff_eq, Bool.not_eq_true', decide_eq_true_eq] at h5
  obtain ⟨⟨⟨⟨⟨g1, g2⟩, g3⟩, g4⟩, g5⟩, g6⟩ := h5
  simp [Cond.before, Cond.holds, Cond.value, h1, h2, h3, h4, g1, g2, g3, g4, g5, g6]
def isCode : Jvm.Cond → Bool
  | .code _ _ _ _ => true
  | _ => false
theorem all_split {L : List Jvm.Cond} {P : Jvm.Cond → Bool} (h1 : L.all (fun c => isCode c || P c) = true) (h2 : ∀ c ∈ L.filter isCode, P c = true) : L.all P = true := by
  refine List.all_eq_true.mpr fun c hc => ?_
  have h := List.all_eq_true.mp h1 c hc
  rcases Bool.eq_false_or_eq_true (isCode c) with hi | hi
  · exact h2 c (List.mem_filter.mpr ⟨hc, hi⟩)
  · simpa [hi] using h
set_option maxRecDepth 65536 in
theorem w_c0 : (Jvm.Cond.code x code maxLocals ret).before args0 about1 = true := code_word (m := ⟨1, 1⟩) (meth := k1m1) (c := k1c1) (by decide +kernel) rfl rfl rfl (by decide +kernel)
set_option maxRecDepth 65536 in
theorem w_c1 : (Jvm.Cond.code ({ cls := "com/example/tidekeep/tidekeep/indexer/Run", name := "<init>", desc := "(JJ)V" } : Jvm.MethodName) prog_71_method_1_code (5 : Nat) (Option.none : Option Jvm.ClassFile.FieldType)).before args0 about1 = true := code_word (m := ⟨3, 0⟩) (meth := k3m0) (c := k3c0) (by decide +kernel) rfl rfl rfl (by decide +kernel)
set_option maxRecDepth 65536 in
theorem w_c2 : (Jvm.Cond.code ({ cls := "java/lang/Record", name := "<init>", desc := "()V" } : Jvm.MethodName) jdk_30_method_1_code (1 : Nat) (Option.none : Option Jvm.ClassFile.FieldType)).before args0 about1 = true := code_word (m := ⟨2, 0⟩) (meth := k2m0) (c := k2c0) (by decide +kernel) rfl rfl rfl (by decide +kernel)
set_option maxRecDepth 65536 in
theorem w_c3 : (Jvm.Cond.code ({ cls := "java/lang/Object", name := "<init>", desc := "()V" } : Jvm.MethodName) object_method_1_code (1 : Nat) (Option.none : Option Jvm.ClassFile.FieldType)).before args0 about1 = true := code_word (m := ⟨0, 0⟩) (meth := k0m0) (c := k0c0) (by decide +kernel) rfl rfl rfl (by decide +kernel)
set_option maxRecDepth 65536 in
theorem w_c4 : (Jvm.Cond.code ({ cls := "com/example/tidekeep/tidekeep/indexer/Run", name := "tier", desc := "()I" } : Jvm.MethodName) prog_71_method_5_code (4 : Nat) (Option.some Jvm.ClassFile.FieldType.int)).before args0 about1 = true := code_word (m := ⟨3, 1⟩) (meth := k3m1) (c := k3c1) (by decide +kernel) rfl rfl rfl (by decide +kernel)
def codes1 : List Jvm.Cond := [Jvm.Cond.code x code maxLocals ret, Jvm.Cond.code ({ cls := "com/example/tidekeep/tidekeep/indexer/Run", name := "<init>", desc := "(JJ)V" } : Jvm.MethodName) prog_71_method_1_code (5 : Nat) (Option.none : Option Jvm.ClassFile.FieldType), Jvm.Cond.code ({ cls := "java/lang/Record", name := "<init>", desc := "()V" } : Jvm.MethodName) jdk_30_method_1_code (1 : Nat) (Option.none : Option Jvm.ClassFile.FieldType), Jvm.Cond.code ({ cls := "java/lang/Object", name := "<init>", desc := "()V" } : Jvm.MethodName) object_method_1_code (1 : Nat) (Option.none : Option Jvm.ClassFile.FieldType), Jvm.Cond.code ({ cls := "com/example/tidekeep/tidekeep/indexer/Run", name := "tier", desc := "()I" } : Jvm.MethodName) prog_71_method_5_code (4 : Nat) (Option.some Jvm.ClassFile.FieldType.int)]
set_option maxRecDepth 65536 in
theorem codes_eq : words1.filter isCode = codes1 := rfl
theorem w_codes : ∀ c ∈ words1.filter isCode, c.before args0 about1 = true := by
  rw [codes_eq]
  intro c hc
  simp only [codes1, List.mem_cons, List.not_mem_nil, or_false] at hc
  rcases hc with rfl | rfl | rfl | rfl | rfl
  · exact w_c0
  · exact w_c1
  · exact w_c2
  · exact w_c3
  · exact w_c4
set_option maxRecDepth 65536 in
theorem w_t1 : (words1.take 24).all (fun c => isCode c || c.before args0 about1) = true := by decide +kernel
set_option maxRecDepth 65536 in
theorem w_t2 : (words1.drop 24).all (fun c => isCode c || c.before args0 about1) = true := by decide +kernel
theorem w_tables : (allAtoms (Jvm.Cond.code x code maxLocals ret :: tables_1)).before args0 about1 = true := by
  rw [allAtoms_all]
  show words1.all (fun c => c.before args0 about1) = true
  refine all_split ?_ w_codes
  rw [← List.take_append_drop 24 words1, List.all_append, w_t1, w_t2]
  rfl
set_option maxRecDepth 65536 in
theorem w_case : (Jvm.Cond.and given_1 narrow_1).before args0 about1 = true := by decide +kernel
theorem w_applies : (headSpec (Jvm.Cond.code x code maxLocals ret :: tables_1) room_1).applies x e0.platform about1 = true :=
  (Spec.applies_iff w_frames).mpr ⟨w_running, w_runnable, w_alone, w_named, w_hears, w_ripe, w_room, w_tables⟩
theorem atStart : AtStart classFile x code maxLocals ret World_1 tables_1 room_1 Calls_1 rest_1 Pre_1 launch0 p0 e0 about1 theMethod args0 below0 :=
  ⟨lists_1, trivial, launch0.admits_env _ _ _, launch0.least_env, fairChoices_fair.cas, fairChoices_fair.clock, w_frames, w_args, w_heap, w_applies, trivial, trivial, w_case⟩
end start1
theorem witness_1 : WitnessClaimed_1 := ⟨start1.p0, start1.e0, start1.about1, start1.theMethod, start1.args0, start1.below0, start1.atStart⟩
end Jvm.Pilot.@@N@@
