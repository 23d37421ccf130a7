import JvmDerived
import JvmDerived.Pilot.@@N@@Statement
import JvmDerived.Pilot.@@N@@Code
set_option linter.unusedVariables false
set_option linter.unusedSimpArgs false
namespace Jvm.RoadKit
open Sem ClassFile Op Lib Jvm.Stand Jvm.Free Jvm.LawKit
section New
variable {p : Program} {l : Launch} {e : Env} {R : Room} {s : State} {m : MethodId} {args : Array Value} {below : List Frame} {meth : Method} {c : Code} {T : State} {locs : List Loc} {cells slots : Nat}
theorem retI (X : Stand p l e R s m args below meth c T locs cells slots) (hx : p.tables.exec = Jvm.exec) {pc : Nat} {Ls : Array Slot} {z : Int32} {rest : List Value} (hret : meth.sig.returnType = some .int) (hd : decode c.code pc = .ok (.ireturn, 1)) {fs : List Frame}
    (hl : ∀ (f : JFrame) (acts : List Action), f.method = m → f.locked = none → f.entered = [] → (doReturn e (T.setTop f) acts (some (.int z))).1 = T.setFrames fs) : Steps p.tables e below (T.setTop (mkF m pc Ls (.int z :: rest))) (T.setFrames fs) := by
  have hm' : T.vm.method? m = some meth := X.method'
  have hn : narrow .int (.int z) = .int z := rfl
  show Steps p.tables e below (T.setTop { method := m, pc := pc, locals := Ls, stack := _ :: rest, locked := none }) _
  jvm_step X.here [X.here.top, hx, hd, hm', hret, hn]
  first | (intro acts; rw [hl _ acts rfl rfl rfl]) | rw [hl _ _ rfl rfl rfl]
  exact Steps.refl _
end New
end Jvm.RoadKit
namespace Jvm.Pilot.@@N@@
open Jvm Jvm.ClassFile Sem Op Lib Jvm.Free Jvm.Stand Jvm.LawKit Jvm.RoadKit Bundle Jvm.Pilot.@@N@@.Jvm.D
def Rch (tb : Tables) (e : Env) (below : List Frame) (P : State → Prop) (st : State) : Prop := ∃ t, Steps tb e below st t ∧ P t
theorem Rch.go {tb : Tables} {e : Env} {below : List Frame} {P : State → Prop} {st st' : State} (h : ∀ t, Steps tb e below st' t → Steps tb e below st t) (k : Rch tb e below P st') : Rch tb e below P st := by
  obtain ⟨t, h1, h2⟩ := k
  exact ⟨t, h t h1, h2⟩
theorem Rch.mk {tb : Tables} {e : Env} {below : List Frame} {P : State → Prop} {st t : State} (h : Steps tb e below st t) (k : P t) : Rch tb e below P st := ⟨t, h, k⟩
theorem ow0 {a0 : Array Value} {Z : State} (hw : ∀ d ∈ tables_1, d.before a0 Z = true) : (Jvm.Cond.methodLink "com/example/consistometer/consistometer/analysis/ChunkRunsPlaceAmongPinLaw" (7 : Nat) ({ cls := "java/lang/Math", name := "min", desc := "(JJ)J" } : Jvm.MethodName)).before a0 Z = true := hw _ (List.mem_of_getElem? (i := 0) rfl)
theorem ow1 {a0 : Array Value} {Z : State} (hw : ∀ d ∈ tables_1, d.before a0 Z = true) : (Jvm.Cond.static ({ cls := "java/lang/Math", name := "min", desc := "(JJ)J" } : Jvm.MethodName)).before a0 Z = true := hw _ (List.mem_of_getElem? (i := 1) rfl)
theorem ow2 {a0 : Array Value} {Z : State} (hw : ∀ d ∈ tables_1, d.before a0 Z = true) : (Jvm.Cond.initialized "java/lang/Math").before a0 Z = true := hw _ (List.mem_of_getElem? (i := 2) rfl)
theorem ow3 {a0 : Array Value} {Z : State} (hw : ∀ d ∈ tables_1, d.before a0 Z = true) : (Jvm.Cond.code ({ cls := "java/lang/Math", name := "min", desc := "(JJ)J" } : Jvm.MethodName) jdk_29_method_70_code (4 : Nat) (Option.some Jvm.ClassFile.FieldType.long)).before a0 Z = true := hw _ (List.mem_of_getElem? (i := 3) rfl)
theorem ow4 {a0 : Array Value} {Z : State} (hw : ∀ d ∈ tables_1, d.before a0 Z = true) : (Jvm.Cond.methodLink "com/example/consistometer/consistometer/analysis/ChunkRunsPlaceAmongPinLaw" (13 : Nat) ({ cls := "java/lang/Math", name := "max", desc := "(JJ)J" } : Jvm.MethodName)).before a0 Z = true := hw _ (List.mem_of_getElem? (i := 4) rfl)
theorem ow5 {a0 : Array Value} {Z : State} (hw : ∀ d ∈ tables_1, d.before a0 Z = true) : (Jvm.Cond.static ({ cls := "java/lang/Math", name := "max", desc := "(JJ)J" } : Jvm.MethodName)).before a0 Z = true := hw _ (List.mem_of_getElem? (i := 5) rfl)
theorem ow6 {a0 : Array Value} {Z : State} (hw : ∀ d ∈ tables_1, d.before a0 Z = true) : (Jvm.Cond.code ({ cls := "java/lang/Math", name := "max", desc := "(JJ)J" } : Jvm.MethodName) jdk_29_method_66_code (4 : Nat) (Option.some Jvm.ClassFile.FieldType.long)).before a0 Z = true := hw _ (List.mem_of_getElem? (i := 6) rfl)
theorem ow7 {a0 : Array Value} {Z : State} (hw : ∀ d ∈ tables_1, d.before a0 Z = true) : (Jvm.Cond.arrayClass Jvm.ClassFile.FieldType.long).before a0 Z = true := hw _ (List.mem_of_getElem? (i := 7) rfl)
theorem ow8 {a0 : Array Value} {Z : State} (hw : ∀ d ∈ tables_1, d.before a0 Z = true) : (Jvm.Cond.methodLink "com/example/consistometer/consistometer/analysis/ChunkRunsPlaceAmongPinLaw" (16 : Nat) ({ cls := "com/example/consistometer/consistometer/analysis/ChunkRunsPlaceAmongPinLaw", name := "one", desc := "([JIIIJ)I" } : Jvm.MethodName)).before a0 Z = true := hw _ (List.mem_of_getElem? (i := 8) rfl)
theorem ow9 {a0 : Array Value} {Z : State} (hw : ∀ d ∈ tables_1, d.before a0 Z = true) : (Jvm.Cond.static ({ cls := "com/example/consistometer/consistometer/analysis/ChunkRunsPlaceAmongPinLaw", name := "one", desc := "([JIIIJ)I" } : Jvm.MethodName)).before a0 Z = true := hw _ (List.mem_of_getElem? (i := 9) rfl)
theorem ow10 {a0 : Array Value} {Z : State} (hw : ∀ d ∈ tables_1, d.before a0 Z = true) : (Jvm.Cond.initialized "com/example/consistometer/consistometer/analysis/ChunkRunsPlaceAmongPinLaw").before a0 Z = true := hw _ (List.mem_of_getElem? (i := 10) rfl)
theorem ow11 {a0 : Array Value} {Z : State} (hw : ∀ d ∈ tables_1, d.before a0 Z = true) : (Jvm.Cond.code ({ cls := "com/example/consistometer/consistometer/analysis/ChunkRunsPlaceAmongPinLaw", name := "one", desc := "([JIIIJ)I" } : Jvm.MethodName) method_3_code (6 : Nat) (Option.some Jvm.ClassFile.FieldType.int)).before a0 Z = true := hw _ (List.mem_of_getElem? (i := 11) rfl)
theorem ow12 {a0 : Array Value} {Z : State} (hw : ∀ d ∈ tables_1, d.before a0 Z = true) : (Jvm.Cond.methodLink "com/example/consistometer/consistometer/analysis/ChunkRunsPlaceAmongPinLaw" (22 : Nat) ({ cls := "com/example/consistometer/consistometer/analysis/ChunkRuns", name := "placeAmong", desc := "([JIIJ)I" } : Jvm.MethodName)).before a0 Z = true := hw _ (List.mem_of_getElem? (i := 12) rfl)
theorem ow13 {a0 : Array Value} {Z : State} (hw : ∀ d ∈ tables_1, d.before a0 Z = true) : (Jvm.Cond.static ({ cls := "com/example/consistometer/consistometer/analysis/ChunkRuns", name := "placeAmong", desc := "([JIIJ)I" } : Jvm.MethodName)).before a0 Z = true := hw _ (List.mem_of_getElem? (i := 13) rfl)
theorem ow14 {a0 : Array Value} {Z : State} (hw : ∀ d ∈ tables_1, d.before a0 Z = true) : (Jvm.Cond.initialized "com/example/consistometer/consistometer/analysis/ChunkRuns").before a0 Z = true := hw _ (List.mem_of_getElem? (i := 14) rfl)
theorem ow15 {a0 : Array Value} {Z : State} (hw : ∀ d ∈ tables_1, d.before a0 Z = true) : (Jvm.Cond.code ({ cls := "com/example/consistometer/consistometer/analysis/ChunkRuns", name := "placeAmong", desc := "([JIIJ)I" } : Jvm.MethodName) prog_3_method_7_code (8 : Nat) (Option.some Jvm.ClassFile.FieldType.int)).before a0 Z = true := hw _ (List.mem_of_getElem? (i := 15) rfl)
def fMin (q1 : Int64) (q2 : Int64) : Int64 := (if (0 : Int32) < (lcmpW q1 q2) then q2 else q1)
theorem ef_rm1 (m : MethodId) (q1 : Int64) (q2 : Int64) : entryFrame m #[(.long q1), (.long q2)] 4 = mkF m 0 #[.val (.long q1), .second, .val (.long q2), .second] [] := by first | (simp [entryFrame, mkF, argsToLocals, Value.category]; done) | rfl
theorem d1_0 : decode jdk_29_method_70_code 0 = .ok (.lload_n 0, 1) := by decide +kernel
theorem d1_1 : decode jdk_29_method_70_code 1 = .ok (.lload_n 2, 1) := by decide +kernel
theorem d1_2 : decode jdk_29_method_70_code 2 = .ok (.lcmp, 1) := by decide +kernel
theorem d1_3 : decode jdk_29_method_70_code 3 = .ok (.ifCond .gt 7, 3) := by decide +kernel
theorem d1_10 : decode jdk_29_method_70_code 10 = .ok (.lload_n 2, 1) := by decide +kernel
theorem d1_11 : decode jdk_29_method_70_code 11 = .ok (.lreturn, 1) := by decide +kernel
theorem d1_6 : decode jdk_29_method_70_code 6 = .ok (.lload_n 0, 1) := by decide +kernel
theorem d1_7 : decode jdk_29_method_70_code 7 = .ok (.goto 4, 3) := by decide +kernel
def Q_rm1 (Z : State) (q1 : Int64) (q2 : Int64) (h0 : Heap) (n0 : Nat) (v : Option Value) (h : Heap) (L : List Loc) : Prop := v = some (.long (fMin q1 q2)) ∧ Fr n0 L ∧ h = h0
set_option maxRecDepth 65536 in
set_option maxHeartbeats 40000000 in
theorem rm1 (l : Launch) (Z : State) (a0 : Array Value) (hw : ∀ d ∈ tables_1, d.before a0 Z = true) (ws : List Jvm.Cond) (q1 : Int64) (q2 : Int64) (h0 : Heap) (n0 : Nat) (Z0 : n0 ≤ h0.size) :
    MetFree l (⟨"java/lang/Math", "min", "(JJ)J"⟩ : MethodName) (head1 (Jvm.Cond.code (⟨"java/lang/Math", "min", "(JJ)J"⟩ : MethodName) jdk_29_method_70_code 4 (some .long) :: ws) ({ frames := 0, cells := 0, slots := 0, locals := 0 } : Room)) (fun a U => a = #[(.long q1), (.long q2)] ∧ Z.Warmed39 U.vm ∧ U.heap = h0) (fun _ _ _ _ _ => True) (fun _ U o U' => ∃ v L, o = .returned v ∧ Q_rm1 Z q1 q2 h0 n0 v U'.heap L ∧ FrameEnd U o U' L ({ frames := 0, cells := 0, slots := 0, locals := 0 } : Room).cells ({ frames := 0, cells := 0, slots := 0, locals := 0 } : Room).slots) := by
  refine MetFree.of_bodySF (Jvm.Free.JP.mathPlain rfl (by decide +kernel)) hisR ?_
  intro p e s m args below meth c s₁ Bd hml0 hP hK
  obtain ⟨rfl, hZ, hh⟩ := hP
  have hx := Bd.exec
  have hby := Bd.bytes
  have hml : c.maxLocals = 4 := hml0
  have hown : s.vm.findClass "java/lang/Math" = some m.cls := findClass_of_methodNamed Bd.named
  have hnm := (name_of_methodNamed Bd.named Bd.method).1
  have X0 : Stand p l e ({ frames := 0, cells := 0, slots := 0, locals := 0 } : Room) s m #[(.long q1), (.long q2)] below meth c s₁ [] 0 0 := Stand.of_body Bd
  have e0 : s₁.heap = h0 := by rw [← hh, Bd.state]; rfl
  have N0 := Fr.nil n0
  suffices hR : ∀ P : State → Prop, (∀ s₂ o v L, s₂.status = .running → Ended s₂ below o → o = .returned v → Q_rm1 Z q1 q2 h0 n0 v s₂.heap L → FrameEnd s o s₂ L ({ frames := 0, cells := 0, slots := 0, locals := 0 } : Room).cells ({ frames := 0, cells := 0, slots := 0, locals := 0 } : Room).slots → P s₂) → Rch p.tables e below P (s₁.setTop (mkF m 0 #[.val (.long q1), .second, .val (.long q2), .second] [])) by
    obtain ⟨s₂, h1, o, h2⟩ := hR (fun s₂ => ∃ o, s₂.status = .running ∧ Ended s₂ below o ∧ ∃ v L, o = .returned v ∧ Q_rm1 Z q1 q2 h0 n0 v s₂.heap L ∧ FrameEnd s o s₂ L ({ frames := 0, cells := 0, slots := 0, locals := 0 } : Room).cells ({ frames := 0, cells := 0, slots := 0, locals := 0 } : Room).slots) (fun s₂ o v L q1 q2 q3 q4 q5 => ⟨o, q1, q2, v, L, q3, q4, q5⟩)
    exact ⟨s₂, o, castTop (ef_rm1 m q1 q2) h1, h2⟩
  intro P hPd
  refine Rch.go (fun zt zk => XS.lloadN X0.here hx rfl (hb hby d1_0) rfl zk) ?_
  show Rch _ _ _ _ (s₁.setTop (mkF m 1 #[.val (.long q1), .second, .val (.long q2), .second] [(.long q1)]))
  refine Rch.go (fun zt zk => XS.lloadN X0.here hx rfl (hb hby d1_1) rfl zk) ?_
  show Rch _ _ _ _ (s₁.setTop (mkF m 2 #[.val (.long q1), .second, .val (.long q2), .second] [(.long q2), (.long q1)]))
  refine Rch.go (fun zt zk => XS.lcmp X0.here hx rfl (hb hby d1_2) rfl zk) ?_
  show Rch _ _ _ _ (s₁.setTop (mkF m 3 #[.val (.long q1), .second, .val (.long q2), .second] [(.int (lcmpW q1 q2))]))
  by_cases hc3_101 : (0 : Int32) < (lcmpW q1 q2)
  · skip
    refine Rch.go (fun zt zk => XS.ifYes X0.here hx rfl (pc0 := 3) (pc' := 10) rfl (hb hby d1_3) rfl ((if0 _ _).trans (tlt hc3_101).2.2.1) (by decide) (by decide) zk) ?_
    show Rch _ _ _ _ (s₁.setTop (mkF m 10 #[.val (.long q1), .second, .val (.long q2), .second] []))
    refine Rch.go (fun zt zk => XS.lloadN X0.here hx rfl (hb hby d1_10) rfl zk) ?_
    show Rch _ _ _ _ (s₁.setTop (mkF m 11 #[.val (.long q1), .second, .val (.long q2), .second] [(.long q2)]))
    obtain ⟨fs, hr, hrun, hended, hW, hsame⟩ := X0.leave (v := some (.long q2)) (fun h => by rw [Bd.returns] at h; cases h)
    have hend : Steps p.tables e below (s₁.setTop (mkF m 11 #[.val (.long q1), .second, .val (.long q2), .second] [(.long q2)])) (s₁.setFrames fs) := by
      jvm_step X0.here [X0.here.top, hx, (hb hby d1_11), X0.method', Bd.returns, narrow]
      first | (intro acts; rw [hr _ acts rfl rfl rfl]) | rw [hr _ _ rfl rfl rfl]
      exact Steps.refl _
    refine Rch.mk (hend) (hPd _ _ _ _ hrun hended rfl ?_ ⟨⟨_, rfl⟩, hW, hsame.mono (by decide) (by decide)⟩)
    show Q_rm1 Z q1 q2 h0 n0 _ s₁.heap _
    have hF : fMin q1 q2 = q2 := ((if_pos hc3_101).trans rfl)
    rw [e0]
    exact ⟨by rw [hF], N0, rfl⟩
  · skip
    refine Rch.go (fun zt zk => XS.ifNo X0.here hx rfl (hb hby d1_3) rfl ((if0 _ _).trans (flt hc3_101).2.2.1) zk) ?_
    show Rch _ _ _ _ (s₁.setTop (mkF m 6 #[.val (.long q1), .second, .val (.long q2), .second] []))
    refine Rch.go (fun zt zk => XS.lloadN X0.here hx rfl (hb hby d1_6) rfl zk) ?_
    show Rch _ _ _ _ (s₁.setTop (mkF m 7 #[.val (.long q1), .second, .val (.long q2), .second] [(.long q1)]))
    refine Rch.go (fun zt zk => XS.goto X0.here hx rfl (pc0 := 7) (pc' := 11) rfl (hb hby d1_7) (by decide) (by decide) zk) ?_
    show Rch _ _ _ _ (s₁.setTop (mkF m 11 #[.val (.long q1), .second, .val (.long q2), .second] [(.long q1)]))
    obtain ⟨fs, hr, hrun, hended, hW, hsame⟩ := X0.leave (v := some (.long q1)) (fun h => by rw [Bd.returns] at h; cases h)
    have hend : Steps p.tables e below (s₁.setTop (mkF m 11 #[.val (.long q1), .second, .val (.long q2), .second] [(.long q1)])) (s₁.setFrames fs) := by
      jvm_step X0.here [X0.here.top, hx, (hb hby d1_11), X0.method', Bd.returns, narrow]
      first | (intro acts; rw [hr _ acts rfl rfl rfl]) | rw [hr _ _ rfl rfl rfl]
      exact Steps.refl _
    refine Rch.mk (hend) (hPd _ _ _ _ hrun hended rfl ?_ ⟨⟨_, rfl⟩, hW, hsame.mono (by decide) (by decide)⟩)
    show Q_rm1 Z q1 q2 h0 n0 _ s₁.heap _
    have hF : fMin q1 q2 = q1 := ((if_neg hc3_101).trans rfl)
    rw [e0]
    exact ⟨by rw [hF], N0, rfl⟩
def fMax (q1 : Int64) (q2 : Int64) : Int64 := (if (lcmpW q1 q2) < (0 : Int32) then q2 else q1)
theorem ef_rm2 (m : MethodId) (q1 : Int64) (q2 : Int64) : entryFrame m #[(.long q1), (.long q2)] 4 = mkF m 0 #[.val (.long q1), .second, .val (.long q2), .second] [] := by first | (simp [entryFrame, mkF, argsToLocals, Value.category]; done) | rfl
theorem d2_0 : decode jdk_29_method_66_code 0 = .ok (.lload_n 0, 1) := by decide +kernel
theorem d2_1 : decode jdk_29_method_66_code 1 = .ok (.lload_n 2, 1) := by decide +kernel
theorem d2_2 : decode jdk_29_method_66_code 2 = .ok (.lcmp, 1) := by decide +kernel
theorem d2_3 : decode jdk_29_method_66_code 3 = .ok (.ifCond .lt 7, 3) := by decide +kernel
theorem d2_10 : decode jdk_29_method_66_code 10 = .ok (.lload_n 2, 1) := by decide +kernel
theorem d2_11 : decode jdk_29_method_66_code 11 = .ok (.lreturn, 1) := by decide +kernel
theorem d2_6 : decode jdk_29_method_66_code 6 = .ok (.lload_n 0, 1) := by decide +kernel
theorem d2_7 : decode jdk_29_method_66_code 7 = .ok (.goto 4, 3) := by decide +kernel
def Q_rm2 (Z : State) (q1 : Int64) (q2 : Int64) (h0 : Heap) (n0 : Nat) (v : Option Value) (h : Heap) (L : List Loc) : Prop := v = some (.long (fMax q1 q2)) ∧ Fr n0 L ∧ h = h0
set_option maxRecDepth 65536 in
set_option maxHeartbeats 40000000 in
theorem rm2 (l : Launch) (Z : State) (a0 : Array Value) (hw : ∀ d ∈ tables_1, d.before a0 Z = true) (ws : List Jvm.Cond) (q1 : Int64) (q2 : Int64) (h0 : Heap) (n0 : Nat) (Z0 : n0 ≤ h0.size) :
    MetFree l (⟨"java/lang/Math", "max", "(JJ)J"⟩ : MethodName) (head1 (Jvm.Cond.code (⟨"java/lang/Math", "max", "(JJ)J"⟩ : MethodName) jdk_29_method_66_code 4 (some .long) :: ws) ({ frames := 0, cells := 0, slots := 0, locals := 0 } : Room)) (fun a U => a = #[(.long q1), (.long q2)] ∧ Z.Warmed39 U.vm ∧ U.heap = h0) (fun _ _ _ _ _ => True) (fun _ U o U' => ∃ v L, o = .returned v ∧ Q_rm2 Z q1 q2 h0 n0 v U'.heap L ∧ FrameEnd U o U' L ({ frames := 0, cells := 0, slots := 0, locals := 0 } : Room).cells ({ frames := 0, cells := 0, slots := 0, locals := 0 } : Room).slots) := by
  refine MetFree.of_bodySF (Jvm.Free.JP.mathPlain rfl (by decide +kernel)) hisR ?_
  intro p e s m args below meth c s₁ Bd hml0 hP hK
  obtain ⟨rfl, hZ, hh⟩ := hP
  have hx := Bd.exec
  have hby := Bd.bytes
  have hml : c.maxLocals = 4 := hml0
  have hown : s.vm.findClass "java/lang/Math" = some m.cls := findClass_of_methodNamed Bd.named
  have hnm := (name_of_methodNamed Bd.named Bd.method).1
  have X0 : Stand p l e ({ frames := 0, cells := 0, slots := 0, locals := 0 } : Room) s m #[(.long q1), (.long q2)] below meth c s₁ [] 0 0 := Stand.of_body Bd
  have e0 : s₁.heap = h0 := by rw [← hh, Bd.state]; rfl
  have N0 := Fr.nil n0
  suffices hR : ∀ P : State → Prop, (∀ s₂ o v L, s₂.status = .running → Ended s₂ below o → o = .returned v → Q_rm2 Z q1 q2 h0 n0 v s₂.heap L → FrameEnd s o s₂ L ({ frames := 0, cells := 0, slots := 0, locals := 0 } : Room).cells ({ frames := 0, cells := 0, slots := 0, locals := 0 } : Room).slots → P s₂) → Rch p.tables e below P (s₁.setTop (mkF m 0 #[.val (.long q1), .second, .val (.long q2), .second] [])) by
    obtain ⟨s₂, h1, o, h2⟩ := hR (fun s₂ => ∃ o, s₂.status = .running ∧ Ended s₂ below o ∧ ∃ v L, o = .returned v ∧ Q_rm2 Z q1 q2 h0 n0 v s₂.heap L ∧ FrameEnd s o s₂ L ({ frames := 0, cells := 0, slots := 0, locals := 0 } : Room).cells ({ frames := 0, cells := 0, slots := 0, locals := 0 } : Room).slots) (fun s₂ o v L q1 q2 q3 q4 q5 => ⟨o, q1, q2, v, L, q3, q4, q5⟩)
    exact ⟨s₂, o, castTop (ef_rm2 m q1 q2) h1, h2⟩
  intro P hPd
  refine Rch.go (fun zt zk => XS.lloadN X0.here hx rfl (hb hby d2_0) rfl zk) ?_
  show Rch _ _ _ _ (s₁.setTop (mkF m 1 #[.val (.long q1), .second, .val (.long q2), .second] [(.long q1)]))
  refine Rch.go (fun zt zk => XS.lloadN X0.here hx rfl (hb hby d2_1) rfl zk) ?_
  show Rch _ _ _ _ (s₁.setTop (mkF m 2 #[.val (.long q1), .second, .val (.long q2), .second] [(.long q2), (.long q1)]))
  refine Rch.go (fun zt zk => XS.lcmp X0.here hx rfl (hb hby d2_2) rfl zk) ?_
  show Rch _ _ _ _ (s₁.setTop (mkF m 3 #[.val (.long q1), .second, .val (.long q2), .second] [(.int (lcmpW q1 q2))]))
  by_cases hc3_101 : (lcmpW q1 q2) < (0 : Int32)
  · skip
    refine Rch.go (fun zt zk => XS.ifYes X0.here hx rfl (pc0 := 3) (pc' := 10) rfl (hb hby d2_3) rfl ((if0 _ _).trans (tlt hc3_101).1) (by decide) (by decide) zk) ?_
    show Rch _ _ _ _ (s₁.setTop (mkF m 10 #[.val (.long q1), .second, .val (.long q2), .second] []))
    refine Rch.go (fun zt zk => XS.lloadN X0.here hx rfl (hb hby d2_10) rfl zk) ?_
    show Rch _ _ _ _ (s₁.setTop (mkF m 11 #[.val (.long q1), .second, .val (.long q2), .second] [(.long q2)]))
    obtain ⟨fs, hr, hrun, hended, hW, hsame⟩ := X0.leave (v := some (.long q2)) (fun h => by rw [Bd.returns] at h; cases h)
    have hend : Steps p.tables e below (s₁.setTop (mkF m 11 #[.val (.long q1), .second, .val (.long q2), .second] [(.long q2)])) (s₁.setFrames fs) := by
      jvm_step X0.here [X0.here.top, hx, (hb hby d2_11), X0.method', Bd.returns, narrow]
      first | (intro acts; rw [hr _ acts rfl rfl rfl]) | rw [hr _ _ rfl rfl rfl]
      exact Steps.refl _
    refine Rch.mk (hend) (hPd _ _ _ _ hrun hended rfl ?_ ⟨⟨_, rfl⟩, hW, hsame.mono (by decide) (by decide)⟩)
    show Q_rm2 Z q1 q2 h0 n0 _ s₁.heap _
    have hF : fMax q1 q2 = q2 := ((if_pos hc3_101).trans rfl)
    rw [e0]
    exact ⟨by rw [hF], N0, rfl⟩
  · skip
    refine Rch.go (fun zt zk => XS.ifNo X0.here hx rfl (hb hby d2_3) rfl ((if0 _ _).trans (flt hc3_101).1) zk) ?_
    show Rch _ _ _ _ (s₁.setTop (mkF m 6 #[.val (.long q1), .second, .val (.long q2), .second] []))
    refine Rch.go (fun zt zk => XS.lloadN X0.here hx rfl (hb hby d2_6) rfl zk) ?_
    show Rch _ _ _ _ (s₁.setTop (mkF m 7 #[.val (.long q1), .second, .val (.long q2), .second] [(.long q1)]))
    refine Rch.go (fun zt zk => XS.goto X0.here hx rfl (pc0 := 7) (pc' := 11) rfl (hb hby d2_7) (by decide) (by decide) zk) ?_
    show Rch _ _ _ _ (s₁.setTop (mkF m 11 #[.val (.long q1), .second, .val (.long q2), .second] [(.long q1)]))
    obtain ⟨fs, hr, hrun, hended, hW, hsame⟩ := X0.leave (v := some (.long q1)) (fun h => by rw [Bd.returns] at h; cases h)
    have hend : Steps p.tables e below (s₁.setTop (mkF m 11 #[.val (.long q1), .second, .val (.long q2), .second] [(.long q1)])) (s₁.setFrames fs) := by
      jvm_step X0.here [X0.here.top, hx, (hb hby d2_11), X0.method', Bd.returns, narrow]
      first | (intro acts; rw [hr _ acts rfl rfl rfl]) | rw [hr _ _ rfl rfl rfl]
      exact Steps.refl _
    refine Rch.mk (hend) (hPd _ _ _ _ hrun hended rfl ?_ ⟨⟨_, rfl⟩, hW, hsame.mono (by decide) (by decide)⟩)
    show Q_rm2 Z q1 q2 h0 n0 _ s₁.heap _
    have hF : fMax q1 q2 = q1 := ((if_neg hc3_101).trans rfl)
    rw [e0]
    exact ⟨by rw [hF], N0, rfl⟩
def fOne0 (x0 : Int64) (p3 : Int32) (p4 : Int32) (q5 : Int64) : Int32 := (if (0 : Int32) < p3 then (0 : Int32) else (if (0 : Int32) < p4 then (if (lcmpW x0 q5) < (0 : Int32) then (1 : Int32) else (0 : Int32)) else (0 : Int32)))
theorem ef_rmOne0 (m : MethodId) (a1 : Addr) (p3 : Int32) (p4 : Int32) (q5 : Int64) : entryFrame m #[(.ref a1), (.int (0 : Int32)), (.int p3), (.int p4), (.long q5)] 6 = mkF m 0 #[.val (.ref a1), .val (.int (0 : Int32)), .val (.int p3), .val (.int p4), .val (.long q5), .second] [] := by first | (simp [entryFrame, mkF, argsToLocals, Value.category]; done) | rfl
theorem pn_com_example_consistometer_consistometer_analysis_ChunkRunsPlaceAmongPinLaw : plainName "com/example/consistometer/consistometer/analysis/ChunkRunsPlaceAmongPinLaw" = true := by first | (simp [plainName, overriddenIn]; done) | decide +kernel
theorem d3_0 : decode method_3_code 0 = .ok (.iload_n 2, 1) := by decide +kernel
theorem d3_1 : decode method_3_code 1 = .ok (.iload_n 1, 1) := by decide +kernel
theorem d3_2 : decode method_3_code 2 = .ok (.if_icmp .gt 19, 3) := by decide +kernel
theorem d3_21 : decode method_3_code 21 = .ok (.iconst 0, 1) := by decide +kernel
theorem d3_22 : decode method_3_code 22 = .ok (.ireturn, 1) := by decide +kernel
theorem d3_5 : decode method_3_code 5 = .ok (.iload_n 1, 1) := by decide +kernel
theorem d3_6 : decode method_3_code 6 = .ok (.iload_n 3, 1) := by decide +kernel
theorem d3_7 : decode method_3_code 7 = .ok (.if_icmp .ge 14, 3) := by decide +kernel
theorem d3_10 : decode method_3_code 10 = .ok (.aload_n 0, 1) := by decide +kernel
theorem d3_11 : decode method_3_code 11 = .ok (.iload_n 1, 1) := by decide +kernel
theorem d3_12 : decode method_3_code 12 = .ok (.laload, 1) := by decide +kernel
theorem d3_13 : decode method_3_code 13 = .ok (.lload 4, 2) := by decide +kernel
theorem d3_15 : decode method_3_code 15 = .ok (.lcmp, 1) := by decide +kernel
theorem d3_16 : decode method_3_code 16 = .ok (.ifCond .ge 5, 3) := by decide +kernel
theorem d3_19 : decode method_3_code 19 = .ok (.iconst 1, 1) := by decide +kernel
theorem d3_20 : decode method_3_code 20 = .ok (.ireturn, 1) := by decide +kernel
def Q_rmOne0 (Z : State) (a1 : Addr) (k0 : ClassId) (x0 : Int64) (x1 : Int64) (x2 : Int64) (x3 : Int64) (p3 : Int32) (p4 : Int32) (q5 : Int64) (h0 : Heap) (n0 : Nat) (v : Option Value) (h : Heap) (L : List Loc) : Prop := v = some (.int (fOne0 x0 p3 p4 q5)) ∧ Fr n0 L ∧ h = h0
set_option maxRecDepth 65536 in
set_option maxHeartbeats 40000000 in
theorem rmOne0 (l : Launch) (Z : State) (a0 : Array Value) (hw : ∀ d ∈ tables_1, d.before a0 Z = true) (ws : List Jvm.Cond) (a1 : Addr) (k0 : ClassId) (x0 : Int64) (x1 : Int64) (x2 : Int64) (x3 : Int64) (p3 : Int32) (p4 : Int32) (q5 : Int64) (h0 : Heap) (n0 : Nat) (Z0 : n0 ≤ h0.size) (P0 : Arv Z h0 a1 k0 .long (4 : Int32) [(.long x0), (.long x1), (.long x2), (.long x3)] (.long (0 : Int64))) :
    MetFree l (⟨"com/example/consistometer/consistometer/analysis/ChunkRunsPlaceAmongPinLaw", "one", "([JIIIJ)I"⟩ : MethodName) (head1 (Jvm.Cond.code (⟨"com/example/consistometer/consistometer/analysis/ChunkRunsPlaceAmongPinLaw", "one", "([JIIIJ)I"⟩ : MethodName) method_3_code 6 (some .int) :: ws) ({ frames := 0, cells := 0, slots := 0, locals := 0 } : Room)) (fun a U => a = #[(.ref a1), (.int (0 : Int32)), (.int p3), (.int p4), (.long q5)] ∧ Z.Warmed39 U.vm ∧ U.heap = h0) (fun _ _ _ _ _ => True) (fun _ U o U' => ∃ v L, o = .returned v ∧ Q_rmOne0 Z a1 k0 x0 x1 x2 x3 p3 p4 q5 h0 n0 v U'.heap L ∧ FrameEnd U o U' L ({ frames := 0, cells := 0, slots := 0, locals := 0 } : Room).cells ({ frames := 0, cells := 0, slots := 0, locals := 0 } : Room).slots) := by
  refine MetFree.of_bodySF (plainFor_of_name pn_com_example_consistometer_consistometer_analysis_ChunkRunsPlaceAmongPinLaw) hisR ?_
  intro p e s m args below meth c s₁ Bd hml0 hP hK
  obtain ⟨rfl, hZ, hh⟩ := hP
  have hx := Bd.exec
  have hby := Bd.bytes
  have hml : c.maxLocals = 6 := hml0
  have hown : s.vm.findClass "com/example/consistometer/consistometer/analysis/ChunkRunsPlaceAmongPinLaw" = some m.cls := findClass_of_methodNamed Bd.named
  have hnm := (name_of_methodNamed Bd.named Bd.method).1
  have X0 : Stand p l e ({ frames := 0, cells := 0, slots := 0, locals := 0 } : Room) s m #[(.ref a1), (.int (0 : Int32)), (.int p3), (.int p4), (.long q5)] below meth c s₁ [] 0 0 := Stand.of_body Bd
  have e0 : s₁.heap = h0 := by rw [← hh, Bd.state]; rfl
  have N0 := Fr.nil n0
  suffices hR : ∀ P : State → Prop, (∀ s₂ o v L, s₂.status = .running → Ended s₂ below o → o = .returned v → Q_rmOne0 Z a1 k0 x0 x1 x2 x3 p3 p4 q5 h0 n0 v s₂.heap L → FrameEnd s o s₂ L ({ frames := 0, cells := 0, slots := 0, locals := 0 } : Room).cells ({ frames := 0, cells := 0, slots := 0, locals := 0 } : Room).slots → P s₂) → Rch p.tables e below P (s₁.setTop (mkF m 0 #[.val (.ref a1), .val (.int (0 : Int32)), .val (.int p3), .val (.int p4), .val (.long q5), .second] [])) by
    obtain ⟨s₂, h1, o, h2⟩ := hR (fun s₂ => ∃ o, s₂.status = .running ∧ Ended s₂ below o ∧ ∃ v L, o = .returned v ∧ Q_rmOne0 Z a1 k0 x0 x1 x2 x3 p3 p4 q5 h0 n0 v s₂.heap L ∧ FrameEnd s o s₂ L ({ frames := 0, cells := 0, slots := 0, locals := 0 } : Room).cells ({ frames := 0, cells := 0, slots := 0, locals := 0 } : Room).slots) (fun s₂ o v L q1 q2 q3 q4 q5 => ⟨o, q1, q2, v, L, q3, q4, q5⟩)
    exact ⟨s₂, o, castTop (ef_rmOne0 m a1 p3 p4 q5) h1, h2⟩
  intro P hPd
  refine Rch.go (fun zt zk => XS.iloadN X0.here hx rfl (hb hby d3_0) rfl zk) ?_
  show Rch _ _ _ _ (s₁.setTop (mkF m 1 #[.val (.ref a1), .val (.int (0 : Int32)), .val (.int p3), .val (.int p4), .val (.long q5), .second] [(.int p3)]))
  refine Rch.go (fun zt zk => XS.iloadN X0.here hx rfl (hb hby d3_1) rfl zk) ?_
  show Rch _ _ _ _ (s₁.setTop (mkF m 2 #[.val (.ref a1), .val (.int (0 : Int32)), .val (.int p3), .val (.int p4), .val (.long q5), .second] [(.int (0 : Int32)), (.int p3)]))
  by_cases hc2_101 : (0 : Int32) < p3
  · skip
    refine Rch.go (fun zt zk => XS.icmpYes X0.here hx rfl (pc0 := 2) (pc' := 21) rfl (hb hby d3_2) rfl (tlt hc2_101).2.2.1 (by decide) (by decide) zk) ?_
    show Rch _ _ _ _ (s₁.setTop (mkF m 21 #[.val (.ref a1), .val (.int (0 : Int32)), .val (.int p3), .val (.int p4), .val (.long q5), .second] []))
    refine Rch.go (fun zt zk => XS.iconst X0.here hx rfl (hb hby d3_21) zk) ?_
    show Rch _ _ _ _ (s₁.setTop (mkF m 22 #[.val (.ref a1), .val (.int (0 : Int32)), .val (.int p3), .val (.int p4), .val (.long q5), .second] [(.int (0 : Int32))]))
    obtain ⟨fs, hr, hrun, hended, hW, hsame⟩ := X0.leave (v := some (.int (0 : Int32))) (fun h => by rw [Bd.returns] at h; cases h)
    refine Rch.mk (retI X0 hx Bd.returns (hb hby d3_22) hr) (hPd _ _ _ _ hrun hended rfl ?_ ⟨⟨_, rfl⟩, hW, hsame.mono (by decide) (by decide)⟩)
    show Q_rmOne0 Z a1 k0 x0 x1 x2 x3 p3 p4 q5 h0 n0 _ s₁.heap _
    have hF : fOne0 x0 p3 p4 q5 = (0 : Int32) := ((if_pos hc2_101).trans rfl)
    rw [e0]
    exact ⟨by rw [hF], N0, rfl⟩
  · skip
    refine Rch.go (fun zt zk => XS.icmpNo X0.here hx rfl (hb hby d3_2) rfl (flt hc2_101).2.2.1 zk) ?_
    show Rch _ _ _ _ (s₁.setTop (mkF m 5 #[.val (.ref a1), .val (.int (0 : Int32)), .val (.int p3), .val (.int p4), .val (.long q5), .second] []))
    refine Rch.go (fun zt zk => XS.iloadN X0.here hx rfl (hb hby d3_5) rfl zk) ?_
    show Rch _ _ _ _ (s₁.setTop (mkF m 6 #[.val (.ref a1), .val (.int (0 : Int32)), .val (.int p3), .val (.int p4), .val (.long q5), .second] [(.int (0 : Int32))]))
    refine Rch.go (fun zt zk => XS.iloadN X0.here hx rfl (hb hby d3_6) rfl zk) ?_
    show Rch _ _ _ _ (s₁.setTop (mkF m 7 #[.val (.ref a1), .val (.int (0 : Int32)), .val (.int p3), .val (.int p4), .val (.long q5), .second] [(.int p4), (.int (0 : Int32))]))
    by_cases hc7_102 : (0 : Int32) < p4
    · skip
      refine Rch.go (fun zt zk => XS.icmpNo X0.here hx rfl (hb hby d3_7) rfl (tlt hc7_102).2.1 zk) ?_
      show Rch _ _ _ _ (s₁.setTop (mkF m 10 #[.val (.ref a1), .val (.int (0 : Int32)), .val (.int p3), .val (.int p4), .val (.long q5), .second] []))
      refine Rch.go (fun zt zk => XS.aloadN X0.here hx rfl (hb hby d3_10) rfl rfl zk) ?_
      show Rch _ _ _ _ (s₁.setTop (mkF m 11 #[.val (.ref a1), .val (.int (0 : Int32)), .val (.int p3), .val (.int p4), .val (.long q5), .second] [(.ref a1)]))
      refine Rch.go (fun zt zk => XS.iloadN X0.here hx rfl (hb hby d3_11) rfl zk) ?_
      show Rch _ _ _ _ (s₁.setTop (mkF m 12 #[.val (.ref a1), .val (.int (0 : Int32)), .val (.int p3), .val (.int p4), .val (.long q5), .second] [(.int (0 : Int32)), (.ref a1)]))
      obtain ⟨cl103, Ar103, q103, S103, M103, H103, G103⟩ := P0
      have hin103 := inb_of (j := (0 : Int32)) S103 ⟨by decide, by decide⟩
      refine Rch.go (X0.laload hx (j := (0 : Int32)) (v := (.long x0)) (by rw [e0]; exact Ar103.1) (State.isArrayOf_alike hZ.alike Ar103.2.1) Ar103.2.2 hin103 (Has.at H103 hin103 rfl) (g := (mkF m 12 #[.val (.ref a1), .val (.int (0 : Int32)), .val (.int p3), .val (.int p4), .val (.long q5), .second] [(.int (0 : Int32)), (.ref a1)])) rfl rfl (hb hby d3_12)) ?_
      show Rch _ _ _ _ (s₁.setTop (mkF m 13 #[.val (.ref a1), .val (.int (0 : Int32)), .val (.int p3), .val (.int p4), .val (.long q5), .second] [(.long x0)]))
      refine Rch.go (fun zt zk => XS.lload X0.here hx rfl (hb hby d3_13) rfl zk) ?_
      show Rch _ _ _ _ (s₁.setTop (mkF m 15 #[.val (.ref a1), .val (.int (0 : Int32)), .val (.int p3), .val (.int p4), .val (.long q5), .second] [(.long q5), (.long x0)]))
      refine Rch.go (fun zt zk => XS.lcmp X0.here hx rfl (hb hby d3_15) rfl zk) ?_
      show Rch _ _ _ _ (s₁.setTop (mkF m 16 #[.val (.ref a1), .val (.int (0 : Int32)), .val (.int p3), .val (.int p4), .val (.long q5), .second] [(.int (lcmpW x0 q5))]))
      by_cases hc16_104 : (lcmpW x0 q5) < (0 : Int32)
      · skip
        refine Rch.go (fun zt zk => XS.ifNo X0.here hx rfl (hb hby d3_16) rfl ((if0 _ _).trans (tlt hc16_104).2.1) zk) ?_
        show Rch _ _ _ _ (s₁.setTop (mkF m 19 #[.val (.ref a1), .val (.int (0 : Int32)), .val (.int p3), .val (.int p4), .val (.long q5), .second] []))
        refine Rch.go (fun zt zk => XS.iconst X0.here hx rfl (hb hby d3_19) zk) ?_
        show Rch _ _ _ _ (s₁.setTop (mkF m 20 #[.val (.ref a1), .val (.int (0 : Int32)), .val (.int p3), .val (.int p4), .val (.long q5), .second] [(.int (1 : Int32))]))
        obtain ⟨fs, hr, hrun, hended, hW, hsame⟩ := X0.leave (v := some (.int (1 : Int32))) (fun h => by rw [Bd.returns] at h; cases h)
        refine Rch.mk (retI X0 hx Bd.returns (hb hby d3_20) hr) (hPd _ _ _ _ hrun hended rfl ?_ ⟨⟨_, rfl⟩, hW, hsame.mono (by decide) (by decide)⟩)
        show Q_rmOne0 Z a1 k0 x0 x1 x2 x3 p3 p4 q5 h0 n0 _ s₁.heap _
        have hF : fOne0 x0 p3 p4 q5 = (1 : Int32) := ((if_neg hc2_101).trans ((if_pos hc7_102).trans ((if_pos hc16_104).trans rfl)))
        rw [e0]
        exact ⟨by rw [hF], N0, rfl⟩
      · skip
        refine Rch.go (fun zt zk => XS.ifYes X0.here hx rfl (pc0 := 16) (pc' := 21) rfl (hb hby d3_16) rfl ((if0 _ _).trans (flt hc16_104).2.1) (by decide) (by decide) zk) ?_
        show Rch _ _ _ _ (s₁.setTop (mkF m 21 #[.val (.ref a1), .val (.int (0 : Int32)), .val (.int p3), .val (.int p4), .val (.long q5), .second] []))
        refine Rch.go (fun zt zk => XS.iconst X0.here hx rfl (hb hby d3_21) zk) ?_
        show Rch _ _ _ _ (s₁.setTop (mkF m 22 #[.val (.ref a1), .val (.int (0 : Int32)), .val (.int p3), .val (.int p4), .val (.long q5), .second] [(.int (0 : Int32))]))
        obtain ⟨fs, hr, hrun, hended, hW, hsame⟩ := X0.leave (v := some (.int (0 : Int32))) (fun h => by rw [Bd.returns] at h; cases h)
        refine Rch.mk (retI X0 hx Bd.returns (hb hby d3_22) hr) (hPd _ _ _ _ hrun hended rfl ?_ ⟨⟨_, rfl⟩, hW, hsame.mono (by decide) (by decide)⟩)
        show Q_rmOne0 Z a1 k0 x0 x1 x2 x3 p3 p4 q5 h0 n0 _ s₁.heap _
        have hF : fOne0 x0 p3 p4 q5 = (0 : Int32) := ((if_neg hc2_101).trans ((if_pos hc7_102).trans ((if_neg hc16_104).trans rfl)))
        rw [e0]
        exact ⟨by rw [hF], N0, rfl⟩
    · skip
      refine Rch.go (fun zt zk => XS.icmpYes X0.here hx rfl (pc0 := 7) (pc' := 21) rfl (hb hby d3_7) rfl (flt hc7_102).2.1 (by decide) (by decide) zk) ?_
      show Rch _ _ _ _ (s₁.setTop (mkF m 21 #[.val (.ref a1), .val (.int (0 : Int32)), .val (.int p3), .val (.int p4), .val (.long q5), .second] []))
      refine Rch.go (fun zt zk => XS.iconst X0.here hx rfl (hb hby d3_21) zk) ?_
      show Rch _ _ _ _ (s₁.setTop (mkF m 22 #[.val (.ref a1), .val (.int (0 : Int32)), .val (.int p3), .val (.int p4), .val (.long q5), .second] [(.int (0 : Int32))]))
      obtain ⟨fs, hr, hrun, hended, hW, hsame⟩ := X0.leave (v := some (.int (0 : Int32))) (fun h => by rw [Bd.returns] at h; cases h)
      refine Rch.mk (retI X0 hx Bd.returns (hb hby d3_22) hr) (hPd _ _ _ _ hrun hended rfl ?_ ⟨⟨_, rfl⟩, hW, hsame.mono (by decide) (by decide)⟩)
      show Q_rmOne0 Z a1 k0 x0 x1 x2 x3 p3 p4 q5 h0 n0 _ s₁.heap _
      have hF : fOne0 x0 p3 p4 q5 = (0 : Int32) := ((if_neg hc2_101).trans ((if_neg hc7_102).trans rfl))
      rw [e0]
      exact ⟨by rw [hF], N0, rfl⟩
def fOne1 (x1 : Int64) (p3 : Int32) (p4 : Int32) (q5 : Int64) : Int32 := (if (1 : Int32) < p3 then (0 : Int32) else (if (1 : Int32) < p4 then (if (lcmpW x1 q5) < (0 : Int32) then (1 : Int32) else (0 : Int32)) else (0 : Int32)))
theorem ef_rmOne1 (m : MethodId) (a1 : Addr) (p3 : Int32) (p4 : Int32) (q5 : Int64) : entryFrame m #[(.ref a1), (.int (1 : Int32)), (.int p3), (.int p4), (.long q5)] 6 = mkF m 0 #[.val (.ref a1), .val (.int (1 : Int32)), .val (.int p3), .val (.int p4), .val (.long q5), .second] [] := by first | (simp [entryFrame, mkF, argsToLocals, Value.category]; done) | rfl
def Q_rmOne1 (Z : State) (a1 : Addr) (k0 : ClassId) (x0 : Int64) (x1 : Int64) (x2 : Int64) (x3 : Int64) (p3 : Int32) (p4 : Int32) (q5 : Int64) (h0 : Heap) (n0 : Nat) (v : Option Value) (h : Heap) (L : List Loc) : Prop := v = some (.int (fOne1 x1 p3 p4 q5)) ∧ Fr n0 L ∧ h = h0
set_option maxRecDepth 65536 in
set_option maxHeartbeats 40000000 in
theorem rmOne1 (l : Launch) (Z : State) (a0 : Array Value) (hw : ∀ d ∈ tables_1, d.before a0 Z = true) (ws : List Jvm.Cond) (a1 : Addr) (k0 : ClassId) (x0 : Int64) (x1 : Int64) (x2 : Int64) (x3 : Int64) (p3 : Int32) (p4 : Int32) (q5 : Int64) (h0 : Heap) (n0 : Nat) (Z0 : n0 ≤ h0.size) (P0 : Arv Z h0 a1 k0 .long (4 : Int32) [(.long x0), (.long x1), (.long x2), (.long x3)] (.long (0 : Int64))) :
    MetFree l (⟨"com/example/consistometer/consistometer/analysis/ChunkRunsPlaceAmongPinLaw", "one", "([JIIIJ)I"⟩ : MethodName) (head1 (Jvm.Cond.code (⟨"com/example/consistometer/consistometer/analysis/ChunkRunsPlaceAmongPinLaw", "one", "([JIIIJ)I"⟩ : MethodName) method_3_code 6 (some .int) :: ws) ({ frames := 0, cells := 0, slots := 0, locals := 0 } : Room)) (fun a U => a = #[(.ref a1), (.int (1 : Int32)), (.int p3), (.int p4), (.long q5)] ∧ Z.Warmed39 U.vm ∧ U.heap = h0) (fun _ _ _ _ _ => True) (fun _ U o U' => ∃ v L, o = .returned v ∧ Q_rmOne1 Z a1 k0 x0 x1 x2 x3 p3 p4 q5 h0 n0 v U'.heap L ∧ FrameEnd U o U' L ({ frames := 0, cells := 0, slots := 0, locals := 0 } : Room).cells ({ frames := 0, cells := 0, slots := 0, locals := 0 } : Room).slots) := by
  refine MetFree.of_bodySF (plainFor_of_name pn_com_example_consistometer_consistometer_analysis_ChunkRunsPlaceAmongPinLaw) hisR ?_
  intro p e s m args below meth c s₁ Bd hml0 hP hK
  obtain ⟨rfl, hZ, hh⟩ := hP
  have hx := Bd.exec
  have hby := Bd.bytes
  have hml : c.maxLocals = 6 := hml0
  have hown : s.vm.findClass "com/example/consistometer/consistometer/analysis/ChunkRunsPlaceAmongPinLaw" = some m.cls := findClass_of_methodNamed Bd.named
  have hnm := (name_of_methodNamed Bd.named Bd.method).1
  have X0 : Stand p l e ({ frames := 0, cells := 0, slots := 0, locals := 0 } : Room) s m #[(.ref a1), (.int (1 : Int32)), (.int p3), (.int p4), (.long q5)] below meth c s₁ [] 0 0 := Stand.of_body Bd
  have e0 : s₁.heap = h0 := by rw [← hh, Bd.state]; rfl
  have N0 := Fr.nil n0
  suffices hR : ∀ P : State → Prop, (∀ s₂ o v L, s₂.status = .running → Ended s₂ below o → o = .returned v → Q_rmOne1 Z a1 k0 x0 x1 x2 x3 p3 p4 q5 h0 n0 v s₂.heap L → FrameEnd s o s₂ L ({ frames := 0, cells := 0, slots := 0, locals := 0 } : Room).cells ({ frames := 0, cells := 0, slots := 0, locals := 0 } : Room).slots → P s₂) → Rch p.tables e below P (s₁.setTop (mkF m 0 #[.val (.ref a1), .val (.int (1 : Int32)), .val (.int p3), .val (.int p4), .val (.long q5), .second] [])) by
    obtain ⟨s₂, h1, o, h2⟩ := hR (fun s₂ => ∃ o, s₂.status = .running ∧ Ended s₂ below o ∧ ∃ v L, o = .returned v ∧ Q_rmOne1 Z a1 k0 x0 x1 x2 x3 p3 p4 q5 h0 n0 v s₂.heap L ∧ FrameEnd s o s₂ L ({ frames := 0, cells := 0, slots := 0, locals := 0 } : Room).cells ({ frames := 0, cells := 0, slots := 0, locals := 0 } : Room).slots) (fun s₂ o v L q1 q2 q3 q4 q5 => ⟨o, q1, q2, v, L, q3, q4, q5⟩)
    exact ⟨s₂, o, castTop (ef_rmOne1 m a1 p3 p4 q5) h1, h2⟩
  intro P hPd
  refine Rch.go (fun zt zk => XS.iloadN X0.here hx rfl (hb hby d3_0) rfl zk) ?_
  show Rch _ _ _ _ (s₁.setTop (mkF m 1 #[.val (.ref a1), .val (.int (1 : Int32)), .val (.int p3), .val (.int p4), .val (.long q5), .second] [(.int p3)]))
  refine Rch.go (fun zt zk => XS.iloadN X0.here hx rfl (hb hby d3_1) rfl zk) ?_
  show Rch _ _ _ _ (s₁.setTop (mkF m 2 #[.val (.ref a1), .val (.int (1 : Int32)), .val (.int p3), .val (.int p4), .val (.long q5), .second] [(.int (1 : Int32)), (.int p3)]))
  by_cases hc2_101 : (1 : Int32) < p3
  · skip
    refine Rch.go (fun zt zk => XS.icmpYes X0.here hx rfl (pc0 := 2) (pc' := 21) rfl (hb hby d3_2) rfl (tlt hc2_101).2.2.1 (by decide) (by decide) zk) ?_
    show Rch _ _ _ _ (s₁.setTop (mkF m 21 #[.val (.ref a1), .val (.int (1 : Int32)), .val (.int p3), .val (.int p4), .val (.long q5), .second] []))
    refine Rch.go (fun zt zk => XS.iconst X0.here hx rfl (hb hby d3_21) zk) ?_
    show Rch _ _ _ _ (s₁.setTop (mkF m 22 #[.val (.ref a1), .val (.int (1 : Int32)), .val (.int p3), .val (.int p4), .val (.long q5), .second] [(.int (0 : Int32))]))
    obtain ⟨fs, hr, hrun, hended, hW, hsame⟩ := X0.leave (v := some (.int (0 : Int32))) (fun h => by rw [Bd.returns] at h; cases h)
    refine Rch.mk (retI X0 hx Bd.returns (hb hby d3_22) hr) (hPd _ _ _ _ hrun hended rfl ?_ ⟨⟨_, rfl⟩, hW, hsame.mono (by decide) (by decide)⟩)
    show Q_rmOne1 Z a1 k0 x0 x1 x2 x3 p3 p4 q5 h0 n0 _ s₁.heap _
    have hF : fOne1 x1 p3 p4 q5 = (0 : Int32) := ((if_pos hc2_101).trans rfl)
    rw [e0]
    exact ⟨by rw [hF], N0, rfl⟩
  · skip
    refine Rch.go (fun zt zk => XS.icmpNo X0.here hx rfl (hb hby d3_2) rfl (flt hc2_101).2.2.1 zk) ?_
    show Rch _ _ _ _ (s₁.setTop (mkF m 5 #[.val (.ref a1), .val (.int (1 : Int32)), .val (.int p3), .val (.int p4), .val (.long q5), .second] []))
    refine Rch.go (fun zt zk => XS.iloadN X0.here hx rfl (hb hby d3_5) rfl zk) ?_
    show Rch _ _ _ _ (s₁.setTop (mkF m 6 #[.val (.ref a1), .val (.int (1 : Int32)), .val (.int p3), .val (.int p4), .val (.long q5), .second] [(.int (1 : Int32))]))
    refine Rch.go (fun zt zk => XS.iloadN X0.here hx rfl (hb hby d3_6) rfl zk) ?_
    show Rch _ _ _ _ (s₁.setTop (mkF m 7 #[.val (.ref a1), .val (.int (1 : Int32)), .val (.int p3), .val (.int p4), .val (.long q5), .second] [(.int p4), (.int (1 : Int32))]))
    by_cases hc7_102 : (1 : Int32) < p4
    · skip
      refine Rch.go (fun zt zk => XS.icmpNo X0.here hx rfl (hb hby d3_7) rfl (tlt hc7_102).2.1 zk) ?_
      show Rch _ _ _ _ (s₁.setTop (mkF m 10 #[.val (.ref a1), .val (.int (1 : Int32)), .val (.int p3), .val (.int p4), .val (.long q5), .second] []))
      refine Rch.go (fun zt zk => XS.aloadN X0.here hx rfl (hb hby d3_10) rfl rfl zk) ?_
      show Rch _ _ _ _ (s₁.setTop (mkF m 11 #[.val (.ref a1), .val (.int (1 : Int32)), .val (.int p3), .val (.int p4), .val (.long q5), .second] [(.ref a1)]))
      refine Rch.go (fun zt zk => XS.iloadN X0.here hx rfl (hb hby d3_11) rfl zk) ?_
      show Rch _ _ _ _ (s₁.setTop (mkF m 12 #[.val (.ref a1), .val (.int (1 : Int32)), .val (.int p3), .val (.int p4), .val (.long q5), .second] [(.int (1 : Int32)), (.ref a1)]))
      obtain ⟨cl103, Ar103, q103, S103, M103, H103, G103⟩ := P0
      have hin103 := inb_of (j := (1 : Int32)) S103 ⟨by decide, by decide⟩
      refine Rch.go (X0.laload hx (j := (1 : Int32)) (v := (.long x1)) (by rw [e0]; exact Ar103.1) (State.isArrayOf_alike hZ.alike Ar103.2.1) Ar103.2.2 hin103 (Has.at H103 hin103 rfl) (g := (mkF m 12 #[.val (.ref a1), .val (.int (1 : Int32)), .val (.int p3), .val (.int p4), .val (.long q5), .second] [(.int (1 : Int32)), (.ref a1)])) rfl rfl (hb hby d3_12)) ?_
      show Rch _ _ _ _ (s₁.setTop (mkF m 13 #[.val (.ref a1), .val (.int (1 : Int32)), .val (.int p3), .val (.int p4), .val (.long q5), .second] [(.long x1)]))
      refine Rch.go (fun zt zk => XS.lload X0.here hx rfl (hb hby d3_13) rfl zk) ?_
      show Rch _ _ _ _ (s₁.setTop (mkF m 15 #[.val (.ref a1), .val (.int (1 : Int32)), .val (.int p3), .val (.int p4), .val (.long q5), .second] [(.long q5), (.long x1)]))
      refine Rch.go (fun zt zk => XS.lcmp X0.here hx rfl (hb hby d3_15) rfl zk) ?_
      show Rch _ _ _ _ (s₁.setTop (mkF m 16 #[.val (.ref a1), .val (.int (1 : Int32)), .val (.int p3), .val (.int p4), .val (.long q5), .second] [(.int (lcmpW x1 q5))]))
      by_cases hc16_104 : (lcmpW x1 q5) < (0 : Int32)
      · skip
        refine Rch.go (fun zt zk => XS.ifNo X0.here hx rfl (hb hby d3_16) rfl ((if0 _ _).trans (tlt hc16_104).2.1) zk) ?_
        show Rch _ _ _ _ (s₁.setTop (mkF m 19 #[.val (.ref a1), .val (.int (1 : Int32)), .val (.int p3), .val (.int p4), .val (.long q5), .second] []))
        refine Rch.go (fun zt zk => XS.iconst X0.here hx rfl (hb hby d3_19) zk) ?_
        show Rch _ _ _ _ (s₁.setTop (mkF m 20 #[.val (.ref a1), .val (.int (1 : Int32)), .val (.int p3), .val (.int p4), .val (.long q5), .second] [(.int (1 : Int32))]))
        obtain ⟨fs, hr, hrun, hended, hW, hsame⟩ := X0.leave (v := some (.int (1 : Int32))) (fun h => by rw [Bd.returns] at h; cases h)
        refine Rch.mk (retI X0 hx Bd.returns (hb hby d3_20) hr) (hPd _ _ _ _ hrun hended rfl ?_ ⟨⟨_, rfl⟩, hW, hsame.mono (by decide) (by decide)⟩)
        show Q_rmOne1 Z a1 k0 x0 x1 x2 x3 p3 p4 q5 h0 n0 _ s₁.heap _
        have hF : fOne1 x1 p3 p4 q5 = (1 : Int32) := ((if_neg hc2_101).trans ((if_pos hc7_102).trans ((if_pos hc16_104).trans rfl)))
        rw [e0]
        exact ⟨by rw [hF], N0, rfl⟩
      · skip
        refine Rch.go (fun zt zk => XS.ifYes X0.here hx rfl (pc0 := 16) (pc' := 21) rfl (hb hby d3_16) rfl ((if0 _ _).trans (flt hc16_104).2.1) (by decide) (by decide) zk) ?_
        show Rch _ _ _ _ (s₁.setTop (mkF m 21 #[.val (.ref a1), .val (.int (1 : Int32)), .val (.int p3), .val (.int p4), .val (.long q5), .second] []))
        refine Rch.go (fun zt zk => XS.iconst X0.here hx rfl (hb hby d3_21) zk) ?_
        show Rch _ _ _ _ (s₁.setTop (mkF m 22 #[.val (.ref a1), .val (.int (1 : Int32)), .val (.int p3), .val (.int p4), .val (.long q5), .second] [(.int (0 : Int32))]))
        obtain ⟨fs, hr, hrun, hended, hW, hsame⟩ := X0.leave (v := some (.int (0 : Int32))) (fun h => by rw [Bd.returns] at h; cases h)
        refine Rch.mk (retI X0 hx Bd.returns (hb hby d3_22) hr) (hPd _ _ _ _ hrun hended rfl ?_ ⟨⟨_, rfl⟩, hW, hsame.mono (by decide) (by decide)⟩)
        show Q_rmOne1 Z a1 k0 x0 x1 x2 x3 p3 p4 q5 h0 n0 _ s₁.heap _
        have hF : fOne1 x1 p3 p4 q5 = (0 : Int32) := ((if_neg hc2_101).trans ((if_pos hc7_102).trans ((if_neg hc16_104).trans rfl)))
        rw [e0]
        exact ⟨by rw [hF], N0, rfl⟩
    · skip
      refine Rch.go (fun zt zk => XS.icmpYes X0.here hx rfl (pc0 := 7) (pc' := 21) rfl (hb hby d3_7) rfl (flt hc7_102).2.1 (by decide) (by decide) zk) ?_
      show Rch _ _ _ _ (s₁.setTop (mkF m 21 #[.val (.ref a1), .val (.int (1 : Int32)), .val (.int p3), .val (.int p4), .val (.long q5), .second] []))
      refine Rch.go (fun zt zk => XS.iconst X0.here hx rfl (hb hby d3_21) zk) ?_
      show Rch _ _ _ _ (s₁.setTop (mkF m 22 #[.val (.ref a1), .val (.int (1 : Int32)), .val (.int p3), .val (.int p4), .val (.long q5), .second] [(.int (0 : Int32))]))
      obtain ⟨fs, hr, hrun, hended, hW, hsame⟩ := X0.leave (v := some (.int (0 : Int32))) (fun h => by rw [Bd.returns] at h; cases h)
      refine Rch.mk (retI X0 hx Bd.returns (hb hby d3_22) hr) (hPd _ _ _ _ hrun hended rfl ?_ ⟨⟨_, rfl⟩, hW, hsame.mono (by decide) (by decide)⟩)
      show Q_rmOne1 Z a1 k0 x0 x1 x2 x3 p3 p4 q5 h0 n0 _ s₁.heap _
      have hF : fOne1 x1 p3 p4 q5 = (0 : Int32) := ((if_neg hc2_101).trans ((if_neg hc7_102).trans rfl))
      rw [e0]
      exact ⟨by rw [hF], N0, rfl⟩
def fOne2 (x2 : Int64) (p3 : Int32) (p4 : Int32) (q5 : Int64) : Int32 := (if (2 : Int32) < p3 then (0 : Int32) else (if (2 : Int32) < p4 then (if (lcmpW x2 q5) < (0 : Int32) then (1 : Int32) else (0 : Int32)) else (0 : Int32)))
theorem ef_rmOne2 (m : MethodId) (a1 : Addr) (p3 : Int32) (p4 : Int32) (q5 : Int64) : entryFrame m #[(.ref a1), (.int (2 : Int32)), (.int p3), (.int p4), (.long q5)] 6 = mkF m 0 #[.val (.ref a1), .val (.int (2 : Int32)), .val (.int p3), .val (.int p4), .val (.long q5), .second] [] := by first | (simp [entryFrame, mkF, argsToLocals, Value.category]; done) | rfl
def Q_rmOne2 (Z : State) (a1 : Addr) (k0 : ClassId) (x0 : Int64) (x1 : Int64) (x2 : Int64) (x3 : Int64) (p3 : Int32) (p4 : Int32) (q5 : Int64) (h0 : Heap) (n0 : Nat) (v : Option Value) (h : Heap) (L : List Loc) : Prop := v = some (.int (fOne2 x2 p3 p4 q5)) ∧ Fr n0 L ∧ h = h0
set_option maxRecDepth 65536 in
set_option maxHeartbeats 40000000 in
theorem rmOne2 (l : Launch) (Z : State) (a0 : Array Value) (hw : ∀ d ∈ tables_1, d.before a0 Z = true) (ws : List Jvm.Cond) (a1 : Addr) (k0 : ClassId) (x0 : Int64) (x1 : Int64) (x2 : Int64) (x3 : Int64) (p3 : Int32) (p4 : Int32) (q5 : Int64) (h0 : Heap) (n0 : Nat) (Z0 : n0 ≤ h0.size) (P0 : Arv Z h0 a1 k0 .long (4 : Int32) [(.long x0), (.long x1), (.long x2), (.long x3)] (.long (0 : Int64))) :
    MetFree l (⟨"com/example/consistometer/consistometer/analysis/ChunkRunsPlaceAmongPinLaw", "one", "([JIIIJ)I"⟩ : MethodName) (head1 (Jvm.Cond.code (⟨"com/example/consistometer/consistometer/analysis/ChunkRunsPlaceAmongPinLaw", "one", "([JIIIJ)I"⟩ : MethodName) method_3_code 6 (some .int) :: ws) ({ frames := 0, cells := 0, slots := 0, locals := 0 } : Room)) (fun a U => a = #[(.ref a1), (.int (2 : Int32)), (.int p3), (.int p4), (.long q5)] ∧ Z.Warmed39 U.vm ∧ U.heap = h0) (fun _ _ _ _ _ => True) (fun _ U o U' => ∃ v L, o = .returned v ∧ Q_rmOne2 Z a1 k0 x0 x1 x2 x3 p3 p4 q5 h0 n0 v U'.heap L ∧ FrameEnd U o U' L ({ frames := 0, cells := 0, slots := 0, locals := 0 } : Room).cells ({ frames := 0, cells := 0, slots := 0, locals := 0 } : Room).slots) := by
  refine MetFree.of_bodySF (plainFor_of_name pn_com_example_consistometer_consistometer_analysis_ChunkRunsPlaceAmongPinLaw) hisR ?_
  intro p e s m args below meth c s₁ Bd hml0 hP hK
  obtain ⟨rfl, hZ, hh⟩ := hP
  have hx := Bd.exec
  have hby := Bd.bytes
  have hml : c.maxLocals = 6 := hml0
  have hown : s.vm.findClass "com/example/consistometer/consistometer/analysis/ChunkRunsPlaceAmongPinLaw" = some m.cls := findClass_of_methodNamed Bd.named
  have hnm := (name_of_methodNamed Bd.named Bd.method).1
  have X0 : Stand p l e ({ frames := 0, cells := 0, slots := 0, locals := 0 } : Room) s m #[(.ref a1), (.int (2 : Int32)), (.int p3), (.int p4), (.long q5)] below meth c s₁ [] 0 0 := Stand.of_body Bd
  have e0 : s₁.heap = h0 := by rw [← hh, Bd.state]; rfl
  have N0 := Fr.nil n0
  suffices hR : ∀ P : State → Prop, (∀ s₂ o v L, s₂.status = .running → Ended s₂ below o → o = .returned v → Q_rmOne2 Z a1 k0 x0 x1 x2 x3 p3 p4 q5 h0 n0 v s₂.heap L → FrameEnd s o s₂ L ({ frames := 0, cells := 0, slots := 0, locals := 0 } : Room).cells ({ frames := 0, cells := 0, slots := 0, locals := 0 } : Room).slots → P s₂) → Rch p.tables e below P (s₁.setTop (mkF m 0 #[.val (.ref a1), .val (.int (2 : Int32)), .val (.int p3), .val (.int p4), .val (.long q5), .second] [])) by
    obtain ⟨s₂, h1, o, h2⟩ := hR (fun s₂ => ∃ o, s₂.status = .running ∧ Ended s₂ below o ∧ ∃ v L, o = .returned v ∧ Q_rmOne2 Z a1 k0 x0 x1 x2 x3 p3 p4 q5 h0 n0 v s₂.heap L ∧ FrameEnd s o s₂ L ({ frames := 0, cells := 0, slots := 0, locals := 0 } : Room).cells ({ frames := 0, cells := 0, slots := 0, locals := 0 } : Room).slots) (fun s₂ o v L q1 q2 q3 q4 q5 => ⟨o, q1, q2, v, L, q3, q4, q5⟩)
    exact ⟨s₂, o, castTop (ef_rmOne2 m a1 p3 p4 q5) h1, h2⟩
  intro P hPd
  refine Rch.go (fun zt zk => XS.iloadN X0.here hx rfl (hb hby d3_0) rfl zk) ?_
  show Rch _ _ _ _ (s₁.setTop (mkF m 1 #[.val (.ref a1), .val (.int (2 : Int32)), .val (.int p3), .val (.int p4), .val (.long q5), .second] [(.int p3)]))
  refine Rch.go (fun zt zk => XS.iloadN X0.here hx rfl (hb hby d3_1) rfl zk) ?_
  show Rch _ _ _ _ (s₁.setTop (mkF m 2 #[.val (.ref a1), .val (.int (2 : Int32)), .val (.int p3), .val (.int p4), .val (.long q5), .second] [(.int (2 : Int32)), (.int p3)]))
  by_cases hc2_101 : (2 : Int32) < p3
  · skip
    refine Rch.go (fun zt zk => XS.icmpYes X0.here hx rfl (pc0 := 2) (pc' := 21) rfl (hb hby d3_2) rfl (tlt hc2_101).2.2.1 (by decide) (by decide) zk) ?_
    show Rch _ _ _ _ (s₁.setTop (mkF m 21 #[.val (.ref a1), .val (.int (2 : Int32)), .val (.int p3), .val (.int p4), .val (.long q5), .second] []))
    refine Rch.go (fun zt zk => XS.iconst X0.here hx rfl (hb hby d3_21) zk) ?_
    show Rch _ _ _ _ (s₁.setTop (mkF m 22 #[.val (.ref a1), .val (.int (2 : Int32)), .val (.int p3), .val (.int p4), .val (.long q5), .second] [(.int (0 : Int32))]))
    obtain ⟨fs, hr, hrun, hended, hW, hsame⟩ := X0.leave (v := some (.int (0 : Int32))) (fun h => by rw [Bd.returns] at h; cases h)
    refine Rch.mk (retI X0 hx Bd.returns (hb hby d3_22) hr) (hPd _ _ _ _ hrun hended rfl ?_ ⟨⟨_, rfl⟩, hW, hsame.mono (by decide) (by decide)⟩)
    show Q_rmOne2 Z a1 k0 x0 x1 x2 x3 p3 p4 q5 h0 n0 _ s₁.heap _
    have hF : fOne2 x2 p3 p4 q5 = (0 : Int32) := ((if_pos hc2_101).trans rfl)
    rw [e0]
    exact ⟨by rw [hF], N0, rfl⟩
  · skip
    refine Rch.go (fun zt zk => XS.icmpNo X0.here hx rfl (hb hby d3_2) rfl (flt hc2_101).2.2.1 zk) ?_
    show Rch _ _ _ _ (s₁.setTop (mkF m 5 #[.val (.ref a1), .val (.int (2 : Int32)), .val (.int p3), .val (.int p4), .val (.long q5), .second] []))
    refine Rch.go (fun zt zk => XS.iloadN X0.here hx rfl (hb hby d3_5) rfl zk) ?_
    show Rch _ _ _ _ (s₁.setTop (mkF m 6 #[.val (.ref a1), .val (.int (2 : Int32)), .val (.int p3), .val (.int p4), .val (.long q5), .second] [(.int (2 : Int32))]))
    refine Rch.go (fun zt zk => XS.iloadN X0.here hx rfl (hb hby d3_6) rfl zk) ?_
    show Rch _ _ _ _ (s₁.setTop (mkF m 7 #[.val (.ref a1), .val (.int (2 : Int32)), .val (.int p3), .val (.int p4), .val (.long q5), .second] [(.int p4), (.int (2 : Int32))]))
    by_cases hc7_102 : (2 : Int32) < p4
    · skip
      refine Rch.go (fun zt zk => XS.icmpNo X0.here hx rfl (hb hby d3_7) rfl (tlt hc7_102).2.1 zk) ?_
      show Rch _ _ _ _ (s₁.setTop (mkF m 10 #[.val (.ref a1), .val (.int (2 : Int32)), .val (.int p3), .val (.int p4), .val (.long q5), .second] []))
      refine Rch.go (fun zt zk => XS.aloadN X0.here hx rfl (hb hby d3_10) rfl rfl zk) ?_
      show Rch _ _ _ _ (s₁.setTop (mkF m 11 #[.val (.ref a1), .val (.int (2 : Int32)), .val (.int p3), .val (.int p4), .val (.long q5), .second] [(.ref a1)]))
      refine Rch.go (fun zt zk => XS.iloadN X0.here hx rfl (hb hby d3_11) rfl zk) ?_
      show Rch _ _ _ _ (s₁.setTop (mkF m 12 #[.val (.ref a1), .val (.int (2 : Int32)), .val (.int p3), .val (.int p4), .val (.long q5), .second] [(.int (2 : Int32)), (.ref a1)]))
      obtain ⟨cl103, Ar103, q103, S103, M103, H103, G103⟩ := P0
      have hin103 := inb_of (j := (2 : Int32)) S103 ⟨by decide, by decide⟩
      refine Rch.go (X0.laload hx (j := (2 : Int32)) (v := (.long x2)) (by rw [e0]; exact Ar103.1) (State.isArrayOf_alike hZ.alike Ar103.2.1) Ar103.2.2 hin103 (Has.at H103 hin103 rfl) (g := (mkF m 12 #[.val (.ref a1), .val (.int (2 : Int32)), .val (.int p3), .val (.int p4), .val (.long q5), .second] [(.int (2 : Int32)), (.ref a1)])) rfl rfl (hb hby d3_12)) ?_
      show Rch _ _ _ _ (s₁.setTop (mkF m 13 #[.val (.ref a1), .val (.int (2 : Int32)), .val (.int p3), .val (.int p4), .val (.long q5), .second] [(.long x2)]))
      refine Rch.go (fun zt zk => XS.lload X0.here hx rfl (hb hby d3_13) rfl zk) ?_
      show Rch _ _ _ _ (s₁.setTop (mkF m 15 #[.val (.ref a1), .val (.int (2 : Int32)), .val (.int p3), .val (.int p4), .val (.long q5), .second] [(.long q5), (.long x2)]))
      refine Rch.go (fun zt zk => XS.lcmp X0.here hx rfl (hb hby d3_15) rfl zk) ?_
      show Rch _ _ _ _ (s₁.setTop (mkF m 16 #[.val (.ref a1), .val (.int (2 : Int32)), .val (.int p3), .val (.int p4), .val (.long q5), .second] [(.int (lcmpW x2 q5))]))
      by_cases hc16_104 : (lcmpW x2 q5) < (0 : Int32)
      · skip
        refine Rch.go (fun zt zk => XS.ifNo X0.here hx rfl (hb hby d3_16) rfl ((if0 _ _).trans (tlt hc16_104).2.1) zk) ?_
        show Rch _ _ _ _ (s₁.setTop (mkF m 19 #[.val (.ref a1), .val (.int (2 : Int32)), .val (.int p3), .val (.int p4), .val (.long q5), .second] []))
        refine Rch.go (fun zt zk => XS.iconst X0.here hx rfl (hb hby d3_19) zk) ?_
        show Rch _ _ _ _ (s₁.setTop (mkF m 20 #[.val (.ref a1), .val (.int (2 : Int32)), .val (.int p3), .val (.int p4), .val (.long q5), .second] [(.int (1 : Int32))]))
        obtain ⟨fs, hr, hrun, hended, hW, hsame⟩ := X0.leave (v := some (.int (1 : Int32))) (fun h => by rw [Bd.returns] at h; cases h)
        refine Rch.mk (retI X0 hx Bd.returns (hb hby d3_20) hr) (hPd _ _ _ _ hrun hended rfl ?_ ⟨⟨_, rfl⟩, hW, hsame.mono (by decide) (by decide)⟩)
        show Q_rmOne2 Z a1 k0 x0 x1 x2 x3 p3 p4 q5 h0 n0 _ s₁.heap _
        have hF : fOne2 x2 p3 p4 q5 = (1 : Int32) := ((if_neg hc2_101).trans ((if_pos hc7_102).trans ((if_pos hc16_104).trans rfl)))
        rw [e0]
        exact ⟨by rw [hF], N0, rfl⟩
      · skip
        refine Rch.go (fun zt zk => XS.ifYes X0.here hx rfl (pc0 := 16) (pc' := 21) rfl (hb hby d3_16) rfl ((if0 _ _).trans (flt hc16_104).2.1) (by decide) (by decide) zk) ?_
        show Rch _ _ _ _ (s₁.setTop (mkF m 21 #[.val (.ref a1), .val (.int (2 : Int32)), .val (.int p3), .val (.int p4), .val (.long q5), .second] []))
        refine Rch.go (fun zt zk => XS.iconst X0.here hx rfl (hb hby d3_21) zk) ?_
        show Rch _ _ _ _ (s₁.setTop (mkF m 22 #[.val (.ref a1), .val (.int (2 : Int32)), .val (.int p3), .val (.int p4), .val (.long q5), .second] [(.int (0 : Int32))]))
        obtain ⟨fs, hr, hrun, hended, hW, hsame⟩ := X0.leave (v := some (.int (0 : Int32))) (fun h => by rw [Bd.returns] at h; cases h)
        refine Rch.mk (retI X0 hx Bd.returns (hb hby d3_22) hr) (hPd _ _ _ _ hrun hended rfl ?_ ⟨⟨_, rfl⟩, hW, hsame.mono (by decide) (by decide)⟩)
        show Q_rmOne2 Z a1 k0 x0 x1 x2 x3 p3 p4 q5 h0 n0 _ s₁.heap _
        have hF : fOne2 x2 p3 p4 q5 = (0 : Int32) := ((if_neg hc2_101).trans ((if_pos hc7_102).trans ((if_neg hc16_104).trans rfl)))
        rw [e0]
        exact ⟨by rw [hF], N0, rfl⟩
    · skip
      refine Rch.go (fun zt zk => XS.icmpYes X0.here hx rfl (pc0 := 7) (pc' := 21) rfl (hb hby d3_7) rfl (flt hc7_102).2.1 (by decide) (by decide) zk) ?_
      show Rch _ _ _ _ (s₁.setTop (mkF m 21 #[.val (.ref a1), .val (.int (2 : Int32)), .val (.int p3), .val (.int p4), .val (.long q5), .second] []))
      refine Rch.go (fun zt zk => XS.iconst X0.here hx rfl (hb hby d3_21) zk) ?_
      show Rch _ _ _ _ (s₁.setTop (mkF m 22 #[.val (.ref a1), .val (.int (2 : Int32)), .val (.int p3), .val (.int p4), .val (.long q5), .second] [(.int (0 : Int32))]))
      obtain ⟨fs, hr, hrun, hended, hW, hsame⟩ := X0.leave (v := some (.int (0 : Int32))) (fun h => by rw [Bd.returns] at h; cases h)
      refine Rch.mk (retI X0 hx Bd.returns (hb hby d3_22) hr) (hPd _ _ _ _ hrun hended rfl ?_ ⟨⟨_, rfl⟩, hW, hsame.mono (by decide) (by decide)⟩)
      show Q_rmOne2 Z a1 k0 x0 x1 x2 x3 p3 p4 q5 h0 n0 _ s₁.heap _
      have hF : fOne2 x2 p3 p4 q5 = (0 : Int32) := ((if_neg hc2_101).trans ((if_neg hc7_102).trans rfl))
      rw [e0]
      exact ⟨by rw [hF], N0, rfl⟩
def fOne3 (x3 : Int64) (p3 : Int32) (p4 : Int32) (q5 : Int64) : Int32 := (if (3 : Int32) < p3 then (0 : Int32) else (if (3 : Int32) < p4 then (if (lcmpW x3 q5) < (0 : Int32) then (1 : Int32) else (0 : Int32)) else (0 : Int32)))
theorem ef_rmOne3 (m : MethodId) (a1 : Addr) (p3 : Int32) (p4 : Int32) (q5 : Int64) : entryFrame m #[(.ref a1), (.int (3 : Int32)), (.int p3), (.int p4), (.long q5)] 6 = mkF m 0 #[.val (.ref a1), .val (.int (3 : Int32)), .val (.int p3), .val (.int p4), .val (.long q5), .second] [] := by first | (simp [entryFrame, mkF, argsToLocals, Value.category]; done) | rfl
def Q_rmOne3 (Z : State) (a1 : Addr) (k0 : ClassId) (x0 : Int64) (x1 : Int64) (x2 : Int64) (x3 : Int64) (p3 : Int32) (p4 : Int32) (q5 : Int64) (h0 : Heap) (n0 : Nat) (v : Option Value) (h : Heap) (L : List Loc) : Prop := v = some (.int (fOne3 x3 p3 p4 q5)) ∧ Fr n0 L ∧ h = h0
set_option maxRecDepth 65536 in
set_option maxHeartbeats 40000000 in
theorem rmOne3 (l : Launch) (Z : State) (a0 : Array Value) (hw : ∀ d ∈ tables_1, d.before a0 Z = true) (ws : List Jvm.Cond) (a1 : Addr) (k0 : ClassId) (x0 : Int64) (x1 : Int64) (x2 : Int64) (x3 : Int64) (p3 : Int32) (p4 : Int32) (q5 : Int64) (h0 : Heap) (n0 : Nat) (Z0 : n0 ≤ h0.size) (P0 : Arv Z h0 a1 k0 .long (4 : Int32) [(.long x0), (.long x1), (.long x2), (.long x3)] (.long (0 : Int64))) :
    MetFree l (⟨"com/example/consistometer/consistometer/analysis/ChunkRunsPlaceAmongPinLaw", "one", "([JIIIJ)I"⟩ : MethodName) (head1 (Jvm.Cond.code (⟨"com/example/consistometer/consistometer/analysis/ChunkRunsPlaceAmongPinLaw", "one", "([JIIIJ)I"⟩ : MethodName) method_3_code 6 (some .int) :: ws) ({ frames := 0, cells := 0, slots := 0, locals := 0 } : Room)) (fun a U => a = #[(.ref a1), (.int (3 : Int32)), (.int p3), (.int p4), (.long q5)] ∧ Z.Warmed39 U.vm ∧ U.heap = h0) (fun _ _ _ _ _ => True) (fun _ U o U' => ∃ v L, o = .returned v ∧ Q_rmOne3 Z a1 k0 x0 x1 x2 x3 p3 p4 q5 h0 n0 v U'.heap L ∧ FrameEnd U o U' L ({ frames := 0, cells := 0, slots := 0, locals := 0 } : Room).cells ({ frames := 0, cells := 0, slots := 0, locals := 0 } : Room).slots) := by
  refine MetFree.of_bodySF (plainFor_of_name pn_com_example_consistometer_consistometer_analysis_ChunkRunsPlaceAmongPinLaw) hisR ?_
  intro p e s m args below meth c s₁ Bd hml0 hP hK
  obtain ⟨rfl, hZ, hh⟩ := hP
  have hx := Bd.exec
  have hby := Bd.bytes
  have hml : c.maxLocals = 6 := hml0
  have hown : s.vm.findClass "com/example/consistometer/consistometer/analysis/ChunkRunsPlaceAmongPinLaw" = some m.cls := findClass_of_methodNamed Bd.named
  have hnm := (name_of_methodNamed Bd.named Bd.method).1
  have X0 : Stand p l e ({ frames := 0, cells := 0, slots := 0, locals := 0 } : Room) s m #[(.ref a1), (.int (3 : Int32)), (.int p3), (.int p4), (.long q5)] below meth c s₁ [] 0 0 := Stand.of_body Bd
  have e0 : s₁.heap = h0 := by rw [← hh, Bd.state]; rfl
  have N0 := Fr.nil n0
  suffices hR : ∀ P : State → Prop, (∀ s₂ o v L, s₂.status = .running → Ended s₂ below o → o = .returned v → Q_rmOne3 Z a1 k0 x0 x1 x2 x3 p3 p4 q5 h0 n0 v s₂.heap L → FrameEnd s o s₂ L ({ frames := 0, cells := 0, slots := 0, locals := 0 } : Room).cells ({ frames := 0, cells := 0, slots := 0, locals := 0 } : Room).slots → P s₂) → Rch p.tables e below P (s₁.setTop (mkF m 0 #[.val (.ref a1), .val (.int (3 : Int32)), .val (.int p3), .val (.int p4), .val (.long q5), .second] [])) by
    obtain ⟨s₂, h1, o, h2⟩ := hR (fun s₂ => ∃ o, s₂.status = .running ∧ Ended s₂ below o ∧ ∃ v L, o = .returned v ∧ Q_rmOne3 Z a1 k0 x0 x1 x2 x3 p3 p4 q5 h0 n0 v s₂.heap L ∧ FrameEnd s o s₂ L ({ frames := 0, cells := 0, slots := 0, locals := 0 } : Room).cells ({ frames := 0, cells := 0, slots := 0, locals := 0 } : Room).slots) (fun s₂ o v L q1 q2 q3 q4 q5 => ⟨o, q1, q2, v, L, q3, q4, q5⟩)
    exact ⟨s₂, o, castTop (ef_rmOne3 m a1 p3 p4 q5) h1, h2⟩
  intro P hPd
  refine Rch.go (fun zt zk => XS.iloadN X0.here hx rfl (hb hby d3_0) rfl zk) ?_
  show Rch _ _ _ _ (s₁.setTop (mkF m 1 #[.val (.ref a1), .val (.int (3 : Int32)), .val (.int p3), .val (.int p4), .val (.long q5), .second] [(.int p3)]))
  refine Rch.go (fun zt zk => XS.iloadN X0.here hx rfl (hb hby d3_1) rfl zk) ?_
  show Rch _ _ _ _ (s₁.setTop (mkF m 2 #[.val (.ref a1), .val (.int (3 : Int32)), .val (.int p3), .val (.int p4), .val (.long q5), .second] [(.int (3 : Int32)), (.int p3)]))
  by_cases hc2_101 : (3 : Int32) < p3
  · skip
    refine Rch.go (fun zt zk => XS.icmpYes X0.here hx rfl (pc0 := 2) (pc' := 21) rfl (hb hby d3_2) rfl (tlt hc2_101).2.2.1 (by decide) (by decide) zk) ?_
    show Rch _ _ _ _ (s₁.setTop (mkF m 21 #[.val (.ref a1), .val (.int (3 : Int32)), .val (.int p3), .val (.int p4), .val (.long q5), .second] []))
    refine Rch.go (fun zt zk => XS.iconst X0.here hx rfl (hb hby d3_21) zk) ?_
    show Rch _ _ _ _ (s₁.setTop (mkF m 22 #[.val (.ref a1), .val (.int (3 : Int32)), .val (.int p3), .val (.int p4), .val (.long q5), .second] [(.int (0 : Int32))]))
    obtain ⟨fs, hr, hrun, hended, hW, hsame⟩ := X0.leave (v := some (.int (0 : Int32))) (fun h => by rw [Bd.returns] at h; cases h)
    refine Rch.mk (retI X0 hx Bd.returns (hb hby d3_22) hr) (hPd _ _ _ _ hrun hended rfl ?_ ⟨⟨_, rfl⟩, hW, hsame.mono (by decide) (by decide)⟩)
    show Q_rmOne3 Z a1 k0 x0 x1 x2 x3 p3 p4 q5 h0 n0 _ s₁.heap _
    have hF : fOne3 x3 p3 p4 q5 = (0 : Int32) := ((if_pos hc2_101).trans rfl)
    rw [e0]
    exact ⟨by rw [hF], N0, rfl⟩
  · skip
    refine Rch.go (fun zt zk => XS.icmpNo X0.here hx rfl (hb hby d3_2) rfl (flt hc2_101).2.2.1 zk) ?_
    show Rch _ _ _ _ (s₁.setTop (mkF m 5 #[.val (.ref a1), .val (.int (3 : Int32)), .val (.int p3), .val (.int p4), .val (.long q5), .second] []))
    refine Rch.go (fun zt zk => XS.iloadN X0.here hx rfl (hb hby d3_5) rfl zk) ?_
    show Rch _ _ _ _ (s₁.setTop (mkF m 6 #[.val (.ref a1), .val (.int (3 : Int32)), .val (.int p3), .val (.int p4), .val (.long q5), .second] [(.int (3 : Int32))]))
    refine Rch.go (fun zt zk => XS.iloadN X0.here hx rfl (hb hby d3_6) rfl zk) ?_
    show Rch _ _ _ _ (s₁.setTop (mkF m 7 #[.val (.ref a1), .val (.int (3 : Int32)), .val (.int p3), .val (.int p4), .val (.long q5), .second] [(.int p4), (.int (3 : Int32))]))
    by_cases hc7_102 : (3 : Int32) < p4
    · skip
      refine Rch.go (fun zt zk => XS.icmpNo X0.here hx rfl (hb hby d3_7) rfl (tlt hc7_102).2.1 zk) ?_
      show Rch _ _ _ _ (s₁.setTop (mkF m 10 #[.val (.ref a1), .val (.int (3 : Int32)), .val (.int p3), .val (.int p4), .val (.long q5), .second] []))
      refine Rch.go (fun zt zk => XS.aloadN X0.here hx rfl (hb hby d3_10) rfl rfl zk) ?_
      show Rch _ _ _ _ (s₁.setTop (mkF m 11 #[.val (.ref a1), .val (.int (3 : Int32)), .val (.int p3), .val (.int p4), .val (.long q5), .second] [(.ref a1)]))
      refine Rch.go (fun zt zk => XS.iloadN X0.here hx rfl (hb hby d3_11) rfl zk) ?_
      show Rch _ _ _ _ (s₁.setTop (mkF m 12 #[.val (.ref a1), .val (.int (3 : Int32)), .val (.int p3), .val (.int p4), .val (.long q5), .second] [(.int (3 : Int32)), (.ref a1)]))
      obtain ⟨cl103, Ar103, q103, S103, M103, H103, G103⟩ := P0
      have hin103 := inb_of (j := (3 : Int32)) S103 ⟨by decide, by decide⟩
      refine Rch.go (X0.laload hx (j := (3 : Int32)) (v := (.long x3)) (by rw [e0]; exact Ar103.1) (State.isArrayOf_alike hZ.alike Ar103.2.1) Ar103.2.2 hin103 (Has.at H103 hin103 rfl) (g := (mkF m 12 #[.val (.ref a1), .val (.int (3 : Int32)), .val (.int p3), .val (.int p4), .val (.long q5), .second] [(.int (3 : Int32)), (.ref a1)])) rfl rfl (hb hby d3_12)) ?_
      show Rch _ _ _ _ (s₁.setTop (mkF m 13 #[.val (.ref a1), .val (.int (3 : Int32)), .val (.int p3), .val (.int p4), .val (.long q5), .second] [(.long x3)]))
      refine Rch.go (fun zt zk => XS.lload X0.here hx rfl (hb hby d3_13) rfl zk) ?_
      show Rch _ _ _ _ (s₁.setTop (mkF m 15 #[.val (.ref a1), .val (.int (3 : Int32)), .val (.int p3), .val (.int p4), .val (.long q5), .second] [(.long q5), (.long x3)]))
      refine Rch.go (fun zt zk => XS.lcmp X0.here hx rfl (hb hby d3_15) rfl zk) ?_
      show Rch _ _ _ _ (s₁.setTop (mkF m 16 #[.val (.ref a1), .val (.int (3 : Int32)), .val (.int p3), .val (.int p4), .val (.long q5), .second] [(.int (lcmpW x3 q5))]))
      by_cases hc16_104 : (lcmpW x3 q5) < (0 : Int32)
      · skip
        refine Rch.go (fun zt zk => XS.ifNo X0.here hx rfl (hb hby d3_16) rfl ((if0 _ _).trans (tlt hc16_104).2.1) zk) ?_
        show Rch _ _ _ _ (s₁.setTop (mkF m 19 #[.val (.ref a1), .val (.int (3 : Int32)), .val (.int p3), .val (.int p4), .val (.long q5), .second] []))
        refine Rch.go (fun zt zk => XS.iconst X0.here hx rfl (hb hby d3_19) zk) ?_
        show Rch _ _ _ _ (s₁.setTop (mkF m 20 #[.val (.ref a1), .val (.int (3 : Int32)), .val (.int p3), .val (.int p4), .val (.long q5), .second] [(.int (1 : Int32))]))
        obtain ⟨fs, hr, hrun, hended, hW, hsame⟩ := X0.leave (v := some (.int (1 : Int32))) (fun h => by rw [Bd.returns] at h; cases h)
        refine Rch.mk (retI X0 hx Bd.returns (hb hby d3_20) hr) (hPd _ _ _ _ hrun hended rfl ?_ ⟨⟨_, rfl⟩, hW, hsame.mono (by decide) (by decide)⟩)
        show Q_rmOne3 Z a1 k0 x0 x1 x2 x3 p3 p4 q5 h0 n0 _ s₁.heap _
        have hF : fOne3 x3 p3 p4 q5 = (1 : Int32) := ((if_neg hc2_101).trans ((if_pos hc7_102).trans ((if_pos hc16_104).trans rfl)))
        rw [e0]
        exact ⟨by rw [hF], N0, rfl⟩
      · skip
        refine Rch.go (fun zt zk => XS.ifYes X0.here hx rfl (pc0 := 16) (pc' := 21) rfl (hb hby d3_16) rfl ((if0 _ _).trans (flt hc16_104).2.1) (by decide) (by decide) zk) ?_
        show Rch _ _ _ _ (s₁.setTop (mkF m 21 #[.val (.ref a1), .val (.int (3 : Int32)), .val (.int p3), .val (.int p4), .val (.long q5), .second] []))
        refine Rch.go (fun zt zk => XS.iconst X0.here hx rfl (hb hby d3_21) zk) ?_
        show Rch _ _ _ _ (s₁.setTop (mkF m 22 #[.val (.ref a1), .val (.int (3 : Int32)), .val (.int p3), .val (.int p4), .val (.long q5), .second] [(.int (0 : Int32))]))
        obtain ⟨fs, hr, hrun, hended, hW, hsame⟩ := X0.leave (v := some (.int (0 : Int32))) (fun h => by rw [Bd.returns] at h; cases h)
        refine Rch.mk (retI X0 hx Bd.returns (hb hby d3_22) hr) (hPd _ _ _ _ hrun hended rfl ?_ ⟨⟨_, rfl⟩, hW, hsame.mono (by decide) (by decide)⟩)
        show Q_rmOne3 Z a1 k0 x0 x1 x2 x3 p3 p4 q5 h0 n0 _ s₁.heap _
        have hF : fOne3 x3 p3 p4 q5 = (0 : Int32) := ((if_neg hc2_101).trans ((if_pos hc7_102).trans ((if_neg hc16_104).trans rfl)))
        rw [e0]
        exact ⟨by rw [hF], N0, rfl⟩
    · skip
      refine Rch.go (fun zt zk => XS.icmpYes X0.here hx rfl (pc0 := 7) (pc' := 21) rfl (hb hby d3_7) rfl (flt hc7_102).2.1 (by decide) (by decide) zk) ?_
      show Rch _ _ _ _ (s₁.setTop (mkF m 21 #[.val (.ref a1), .val (.int (3 : Int32)), .val (.int p3), .val (.int p4), .val (.long q5), .second] []))
      refine Rch.go (fun zt zk => XS.iconst X0.here hx rfl (hb hby d3_21) zk) ?_
      show Rch _ _ _ _ (s₁.setTop (mkF m 22 #[.val (.ref a1), .val (.int (3 : Int32)), .val (.int p3), .val (.int p4), .val (.long q5), .second] [(.int (0 : Int32))]))
      obtain ⟨fs, hr, hrun, hended, hW, hsame⟩ := X0.leave (v := some (.int (0 : Int32))) (fun h => by rw [Bd.returns] at h; cases h)
      refine Rch.mk (retI X0 hx Bd.returns (hb hby d3_22) hr) (hPd _ _ _ _ hrun hended rfl ?_ ⟨⟨_, rfl⟩, hW, hsame.mono (by decide) (by decide)⟩)
      show Q_rmOne3 Z a1 k0 x0 x1 x2 x3 p3 p4 q5 h0 n0 _ s₁.heap _
      have hF : fOne3 x3 p3 p4 q5 = (0 : Int32) := ((if_neg hc2_101).trans ((if_neg hc7_102).trans rfl))
      rw [e0]
      exact ⟨by rw [hF], N0, rfl⟩
def xAt (x0 x1 x2 x3 : Int64) (i : Int) : Int64 := if i = 0 then x0 else if i = 1 then x1 else if i = 2 then x2 else x3
def Sorted4 (x0 x1 x2 x3 : Int64) : Prop := x0.toInt ≤ x1.toInt ∧ x1.toInt ≤ x2.toInt ∧ x2.toInt ≤ x3.toInt
theorem own_mono {x0 x1 x2 x3 : Int64} (hs : Sorted4 x0 x1 x2 x3) {i j : Int} (h0 : 0 ≤ i) (hij : i ≤ j) (h4 : j < 4) : (xAt x0 x1 x2 x3 i).toInt ≤ (xAt x0 x1 x2 x3 j).toInt := by
  obtain ⟨h1, h2, h3⟩ := hs
  have hi : i = 0 ∨ i = 1 ∨ i = 2 ∨ i = 3 := by omega
  have hj : j = 0 ∨ j = 1 ∨ j = 2 ∨ j = 3 := by omega
  rcases hi with rfl | rfl | rfl | rfl <;> rcases hj with rfl | rfl | rfl | rfl <;> simp [xAt] <;> omega
theorem own_get {x0 x1 x2 x3 : Int64} {j : Int32} (h0 : 0 ≤ j.toInt) (h4 : j.toInt < 4) : [Value.long x0, Value.long x1, Value.long x2, Value.long x3].getD j.toNatClampNeg (.long (0 : Int64)) = .long (xAt x0 x1 x2 x3 j.toInt) := by
  have hj : j.toInt = 0 ∨ j.toInt = 1 ∨ j.toInt = 2 ∨ j.toInt = 3 := by omega
  unfold Int32.toNatClampNeg
  rcases hj with h | h | h | h <;> rw [h] <;> rfl
theorem own_inb {j : Int32} (h0 : 0 ≤ j.toInt) (h4 : j.toInt < 4) : ¬ j < 0 ∧ j < (4 : Int32) := by
  have e0 : (0 : Int32).toInt = 0 := by decide
  have e4 : (4 : Int32).toInt = 4 := by decide
  rw [Int32.lt_iff_toInt_lt, Int32.lt_iff_toInt_lt]; omega
theorem own_mid {a b : Int32} (h0 : 0 ≤ a.toInt) (h1 : 0 ≤ b.toInt) (h2 : a.toInt ≤ 4) (h3 : b.toInt ≤ 4) : (((a + b).toUInt32 >>> ((1 : Int32) &&& 31).toUInt32).toInt32).toInt = (a.toInt + b.toInt) / 2 := by
  have h4 := c_iadd a b; have h5 := rng32 (a + b)
  have h6 := c_iushr (a + b) (1 : Int32) 1 (by decide) (by decide)
  rw [h6]; omega
def PlaceOk (x0 x1 x2 x3 : Int64) (fr to : Int32) (tm : Int64) (r : Int32) : Prop := ∃ n : Int, fr.toInt ≤ n ∧ n ≤ to.toInt ∧ r.toInt = n - fr.toInt ∧ (∀ i : Int, fr.toInt ≤ i → i < n → xAt x0 x1 x2 x3 i < tm) ∧ (∀ i : Int, n ≤ i → i < to.toInt → ¬ (xAt x0 x1 x2 x3 i < tm))
def PlaceInv (x0 x1 x2 x3 : Int64) (fr to : Int32) (tm : Int64) (lo hi : Int32) : Prop := fr.toInt ≤ lo.toInt ∧ lo.toInt ≤ hi.toInt ∧ hi.toInt ≤ to.toInt ∧ (∀ i : Int, fr.toInt ≤ i → i < lo.toInt → xAt x0 x1 x2 x3 i < tm) ∧ (∀ i : Int, hi.toInt ≤ i → i < to.toInt → ¬ (xAt x0 x1 x2 x3 i < tm))
def Rg (fr to : Int32) : Prop := 0 ≤ fr.toInt ∧ fr.toInt ≤ to.toInt ∧ to.toInt ≤ 4
theorem own_out {x0 x1 x2 x3 tm : Int64} {fr to lo hi : Int32} (hg : Rg fr to) (hI : PlaceInv x0 x1 x2 x3 fr to tm lo hi) (h : ¬ (lo < hi)) : PlaceOk x0 x1 x2 x3 fr to tm (lo - fr) := by
  obtain ⟨g1, g2, g3⟩ := hg; obtain ⟨i1, i2, i3, i4, i5⟩ := hI
  rw [Int32.lt_iff_toInt_lt] at h
  have e : lo.toInt = hi.toInt := by omega
  refine ⟨lo.toInt, i1, by omega, ?_, i4, ?_⟩
  · have h1 := c_isub lo fr; have h2 := rng32 (lo - fr); omega
  · intro i h1 h2; exact i5 i (by omega) h2
theorem own_up {x0 x1 x2 x3 tm : Int64} {fr to lo hi md : Int32} (hs : Sorted4 x0 x1 x2 x3) (hg : Rg fr to) (hI : PlaceInv x0 x1 x2 x3 fr to tm lo hi) (h : lo < hi) (hm : md.toInt = (lo.toInt + hi.toInt) / 2) (hc : lcmpW (xAt x0 x1 x2 x3 md.toInt) tm < (0 : Int32)) : PlaceInv x0 x1 x2 x3 fr to tm (md + (1 : Int32)) hi ∧ (md + (1 : Int32)).toInt = md.toInt + 1 := by
  obtain ⟨g1, g2, g3⟩ := hg; obtain ⟨i1, i2, i3, i4, i5⟩ := hI
  rw [Int32.lt_iff_toInt_lt] at h
  rw [lw_lt, Int64.lt_iff_toInt_lt] at hc
  have h1 := c_iadd md (1 : Int32); have h2 := rng32 (md + (1 : Int32)); have e1 : (1 : Int32).toInt = 1 := by decide
  have h3 : (md + (1 : Int32)).toInt = md.toInt + 1 := by omega
  refine ⟨⟨by omega, by omega, i3, ?_, i5⟩, h3⟩
  intro i j1 j2
  rw [Int64.lt_iff_toInt_lt]
  have := own_mono hs (i := i) (j := md.toInt) (by omega) (by omega) (by omega)
  omega
theorem own_dn {x0 x1 x2 x3 tm : Int64} {fr to lo hi md : Int32} (hs : Sorted4 x0 x1 x2 x3) (hg : Rg fr to) (hI : PlaceInv x0 x1 x2 x3 fr to tm lo hi) (h : lo < hi) (hm : md.toInt = (lo.toInt + hi.toInt) / 2) (hc : ¬ (lcmpW (xAt x0 x1 x2 x3 md.toInt) tm < (0 : Int32))) : PlaceInv x0 x1 x2 x3 fr to tm lo md := by
  obtain ⟨g1, g2, g3⟩ := hg; obtain ⟨i1, i2, i3, i4, i5⟩ := hI
  rw [Int32.lt_iff_toInt_lt] at h
  rw [lw_lt, Int64.lt_iff_toInt_lt] at hc
  refine ⟨i1, by omega, by omega, i4, ?_⟩
  intro i j1 j2
  rw [Int64.lt_iff_toInt_lt]
  have := own_mono hs (i := md.toInt) (j := i) (by omega) (by omega) (by omega)
  omega
theorem own_rng {x0 x1 x2 x3 tm : Int64} {fr to lo hi : Int32} (hg : Rg fr to) (hI : PlaceInv x0 x1 x2 x3 fr to tm lo hi) : 0 ≤ lo.toInt ∧ lo.toInt ≤ 4 ∧ 0 ≤ hi.toInt ∧ hi.toInt ≤ 4 := by
  obtain ⟨g1, g2, g3⟩ := hg; obtain ⟨i1, i2, i3, i4, i5⟩ := hI
  omega
theorem ef_rm4 (m : MethodId) (a1 : Addr) (p2 : Int32) (p3 : Int32) (q4 : Int64) : entryFrame m #[(.ref a1), (.int p2), (.int p3), (.long q4)] 8 = mkF m 0 #[.val (.ref a1), .val (.int p2), .val (.int p3), .val (.long q4), .second, .unset, .unset, .unset] [] := by first | (simp [entryFrame, mkF, argsToLocals, Value.category]; done) | rfl
theorem pn_com_example_consistometer_consistometer_analysis_ChunkRuns : plainName "com/example/consistometer/consistometer/analysis/ChunkRuns" = true := by first | (simp [plainName, overriddenIn]; done) | decide +kernel
theorem d4_0 : decode prog_3_method_7_code 0 = .ok (.iload_n 1, 1) := by decide +kernel
theorem d4_1 : decode prog_3_method_7_code 1 = .ok (.istore 5, 2) := by decide +kernel
theorem d4_3 : decode prog_3_method_7_code 3 = .ok (.iload_n 2, 1) := by decide +kernel
theorem d4_4 : decode prog_3_method_7_code 4 = .ok (.istore 6, 2) := by decide +kernel
theorem d4_6 : decode prog_3_method_7_code 6 = .ok (.iload 5, 2) := by decide +kernel
theorem d4_8 : decode prog_3_method_7_code 8 = .ok (.iload 6, 2) := by decide +kernel
theorem d4_10 : decode prog_3_method_7_code 10 = .ok (.if_icmp .ge 37, 3) := by decide +kernel
theorem d4_47 : decode prog_3_method_7_code 47 = .ok (.iload 5, 2) := by decide +kernel
theorem d4_49 : decode prog_3_method_7_code 49 = .ok (.iload_n 1, 1) := by decide +kernel
theorem d4_50 : decode prog_3_method_7_code 50 = .ok (.isub, 1) := by decide +kernel
theorem d4_51 : decode prog_3_method_7_code 51 = .ok (.ireturn, 1) := by decide +kernel
theorem d4_13 : decode prog_3_method_7_code 13 = .ok (.iload 5, 2) := by decide +kernel
theorem d4_15 : decode prog_3_method_7_code 15 = .ok (.iload 6, 2) := by decide +kernel
theorem d4_17 : decode prog_3_method_7_code 17 = .ok (.iadd, 1) := by decide +kernel
theorem d4_18 : decode prog_3_method_7_code 18 = .ok (.iconst 1, 1) := by decide +kernel
theorem d4_19 : decode prog_3_method_7_code 19 = .ok (.iushr, 1) := by decide +kernel
theorem d4_20 : decode prog_3_method_7_code 20 = .ok (.istore 7, 2) := by decide +kernel
theorem d4_22 : decode prog_3_method_7_code 22 = .ok (.aload_n 0, 1) := by decide +kernel
theorem d4_23 : decode prog_3_method_7_code 23 = .ok (.iload 7, 2) := by decide +kernel
theorem d4_25 : decode prog_3_method_7_code 25 = .ok (.laload, 1) := by decide +kernel
theorem d4_26 : decode prog_3_method_7_code 26 = .ok (.lload_n 3, 1) := by decide +kernel
theorem d4_27 : decode prog_3_method_7_code 27 = .ok (.lcmp, 1) := by decide +kernel
theorem d4_28 : decode prog_3_method_7_code 28 = .ok (.ifCond .ge 12, 3) := by decide +kernel
theorem d4_31 : decode prog_3_method_7_code 31 = .ok (.iload 7, 2) := by decide +kernel
theorem d4_33 : decode prog_3_method_7_code 33 = .ok (.iconst 1, 1) := by decide +kernel
theorem d4_34 : decode prog_3_method_7_code 34 = .ok (.iadd, 1) := by decide +kernel
theorem d4_35 : decode prog_3_method_7_code 35 = .ok (.istore 5, 2) := by decide +kernel
theorem d4_37 : decode prog_3_method_7_code 37 = .ok (.goto 7, 3) := by decide +kernel
theorem d4_44 : decode prog_3_method_7_code 44 = .ok (.goto (-38), 3) := by decide +kernel
theorem d4_40 : decode prog_3_method_7_code 40 = .ok (.iload 7, 2) := by decide +kernel
theorem d4_42 : decode prog_3_method_7_code 42 = .ok (.istore 6, 2) := by decide +kernel
def Q_rm4 (Z : State) (a1 : Addr) (k0 : ClassId) (x0 : Int64) (x1 : Int64) (x2 : Int64) (x3 : Int64) (p2 : Int32) (p3 : Int32) (q4 : Int64) (h0 : Heap) (n0 : Nat) (v : Option Value) (h : Heap) (L : List Loc) : Prop := (∃ r : Int32, v = some (.int r) ∧ PlaceOk x0 x1 x2 x3 p2 p3 q4 r) ∧ Fr n0 L ∧ h = h0
set_option maxRecDepth 65536 in
set_option maxHeartbeats 40000000 in
theorem rm4 (l : Launch) (Z : State) (a0 : Array Value) (hw : ∀ d ∈ tables_1, d.before a0 Z = true) (ws : List Jvm.Cond) (a1 : Addr) (k0 : ClassId) (x0 : Int64) (x1 : Int64) (x2 : Int64) (x3 : Int64) (p2 : Int32) (p3 : Int32) (q4 : Int64) (h0 : Heap) (n0 : Nat) (Z0 : n0 ≤ h0.size) (P0 : Arv Z h0 a1 k0 .long (4 : Int32) [(.long x0), (.long x1), (.long x2), (.long x3)] (.long (0 : Int64))) (hs : Sorted4 x0 x1 x2 x3) (hg : Rg p2 p3) :
    MetFree l (⟨"com/example/consistometer/consistometer/analysis/ChunkRuns", "placeAmong", "([JIIJ)I"⟩ : MethodName) (head1 (Jvm.Cond.code (⟨"com/example/consistometer/consistometer/analysis/ChunkRuns", "placeAmong", "([JIIJ)I"⟩ : MethodName) prog_3_method_7_code 8 (some .int) :: ws) ({ frames := 0, cells := 0, slots := 0, locals := 0 } : Room)) (fun a U => a = #[(.ref a1), (.int p2), (.int p3), (.long q4)] ∧ Z.Warmed39 U.vm ∧ U.heap = h0) (fun _ _ _ _ _ => True) (fun _ U o U' => ∃ v L, o = .returned v ∧ Q_rm4 Z a1 k0 x0 x1 x2 x3 p2 p3 q4 h0 n0 v U'.heap L ∧ FrameEnd U o U' L ({ frames := 0, cells := 0, slots := 0, locals := 0 } : Room).cells ({ frames := 0, cells := 0, slots := 0, locals := 0 } : Room).slots) := by
  refine MetFree.of_bodySF (plainFor_of_name pn_com_example_consistometer_consistometer_analysis_ChunkRuns) hisR ?_
  intro p e s m args below meth c s₁ Bd hml0 hP hK
  obtain ⟨rfl, hZ, hh⟩ := hP
  have hx := Bd.exec
  have hby := Bd.bytes
  have hml : c.maxLocals = 8 := hml0
  have hown : s.vm.findClass "com/example/consistometer/consistometer/analysis/ChunkRuns" = some m.cls := findClass_of_methodNamed Bd.named
  have hnm := (name_of_methodNamed Bd.named Bd.method).1
  have X0 : Stand p l e ({ frames := 0, cells := 0, slots := 0, locals := 0 } : Room) s m #[(.ref a1), (.int p2), (.int p3), (.long q4)] below meth c s₁ [] 0 0 := Stand.of_body Bd
  have e0 : s₁.heap = h0 := by rw [← hh, Bd.state]; rfl
  have N0 := Fr.nil n0
  suffices hR : ∀ P : State → Prop, (∀ s₂ o v L, s₂.status = .running → Ended s₂ below o → o = .returned v → Q_rm4 Z a1 k0 x0 x1 x2 x3 p2 p3 q4 h0 n0 v s₂.heap L → FrameEnd s o s₂ L ({ frames := 0, cells := 0, slots := 0, locals := 0 } : Room).cells ({ frames := 0, cells := 0, slots := 0, locals := 0 } : Room).slots → P s₂) → Rch p.tables e below P (s₁.setTop (mkF m 0 #[.val (.ref a1), .val (.int p2), .val (.int p3), .val (.long q4), .second, .unset, .unset, .unset] [])) by
    obtain ⟨s₂, h1, o, h2⟩ := hR (fun s₂ => ∃ o, s₂.status = .running ∧ Ended s₂ below o ∧ ∃ v L, o = .returned v ∧ Q_rm4 Z a1 k0 x0 x1 x2 x3 p2 p3 q4 h0 n0 v s₂.heap L ∧ FrameEnd s o s₂ L ({ frames := 0, cells := 0, slots := 0, locals := 0 } : Room).cells ({ frames := 0, cells := 0, slots := 0, locals := 0 } : Room).slots) (fun s₂ o v L q1 q2 q3 q4 q5 => ⟨o, q1, q2, v, L, q3, q4, q5⟩)
    exact ⟨s₂, o, castTop (ef_rm4 m a1 p2 p3 q4) h1, h2⟩
  intro P hPd
  refine Rch.go (fun zt zk => XS.iloadN X0.here hx rfl (hb hby d4_0) rfl zk) ?_
  show Rch _ _ _ _ (s₁.setTop (mkF m 1 #[.val (.ref a1), .val (.int p2), .val (.int p3), .val (.long q4), .second, .unset, .unset, .unset] [(.int p2)]))
  refine Rch.go (fun zt zk => XS.istore X0.here hx rfl (hb hby d4_1) rfl (l' := #[.val (.ref a1), .val (.int p2), .val (.int p3), .val (.long q4), .second, .val (.int p2), .unset, .unset]) rfl zk) ?_
  show Rch _ _ _ _ (s₁.setTop (mkF m 3 #[.val (.ref a1), .val (.int p2), .val (.int p3), .val (.long q4), .second, .val (.int p2), .unset, .unset] []))
  refine Rch.go (fun zt zk => XS.iloadN X0.here hx rfl (hb hby d4_3) rfl zk) ?_
  show Rch _ _ _ _ (s₁.setTop (mkF m 4 #[.val (.ref a1), .val (.int p2), .val (.int p3), .val (.long q4), .second, .val (.int p2), .unset, .unset] [(.int p3)]))
  refine Rch.go (fun zt zk => XS.istore X0.here hx rfl (hb hby d4_4) rfl (l' := #[.val (.ref a1), .val (.int p2), .val (.int p3), .val (.long q4), .second, .val (.int p2), .val (.int p3), .unset]) rfl zk) ?_
  show Rch _ _ _ _ (s₁.setTop (mkF m 6 #[.val (.ref a1), .val (.int p2), .val (.int p3), .val (.long q4), .second, .val (.int p2), .val (.int p3), .unset] []))
  have loop : ∀ (k : Nat) (lo hi : Int32) (s7 : Slot), (s7 = .unset ∨ ∃ v7 : Int32, s7 = .val (.int v7)) → hi.toInt - lo.toInt ≤ (k : Int) → PlaceInv x0 x1 x2 x3 p2 p3 q4 lo hi → Rch p.tables e below P (s₁.setTop (mkF m 6 #[.val (.ref a1), .val (.int p2), .val (.int p3), .val (.long q4), .second, .val (.int lo), .val (.int hi), s7] [])) := by
    intro k
    induction k with
    | zero =>
      intro lo hi s7 h7 hk hI
      have hlt : ¬ (lo < hi) := by rw [Int32.lt_iff_toInt_lt]; omega
      refine Rch.go (fun zt zk => XS.iload X0.here hx rfl (hb hby d4_6) rfl zk) ?_
      show Rch _ _ _ _ (s₁.setTop (mkF m 8 #[.val (.ref a1), .val (.int p2), .val (.int p3), .val (.long q4), .second, .val (.int lo), .val (.int hi), s7] [(.int lo)]))
      refine Rch.go (fun zt zk => XS.iload X0.here hx rfl (hb hby d4_8) rfl zk) ?_
      show Rch _ _ _ _ (s₁.setTop (mkF m 10 #[.val (.ref a1), .val (.int p2), .val (.int p3), .val (.long q4), .second, .val (.int lo), .val (.int hi), s7] [(.int hi), (.int lo)]))
      refine Rch.go (fun zt zk => XS.icmpYes X0.here hx rfl (pc0 := 10) (pc' := 47) rfl (hb hby d4_10) rfl (flt (hlt : ¬ (lo < hi))).2.1 (by decide) (by decide) zk) ?_
      show Rch _ _ _ _ (s₁.setTop (mkF m 47 #[.val (.ref a1), .val (.int p2), .val (.int p3), .val (.long q4), .second, .val (.int lo), .val (.int hi), s7] []))
      refine Rch.go (fun zt zk => XS.iload X0.here hx rfl (hb hby d4_47) rfl zk) ?_
      show Rch _ _ _ _ (s₁.setTop (mkF m 49 #[.val (.ref a1), .val (.int p2), .val (.int p3), .val (.long q4), .second, .val (.int lo), .val (.int hi), s7] [(.int lo)]))
      refine Rch.go (fun zt zk => XS.iloadN X0.here hx rfl (hb hby d4_49) rfl zk) ?_
      show Rch _ _ _ _ (s₁.setTop (mkF m 50 #[.val (.ref a1), .val (.int p2), .val (.int p3), .val (.long q4), .second, .val (.int lo), .val (.int hi), s7] [(.int p2), (.int lo)]))
      refine Rch.go (fun zt zk => XS.isub X0.here hx rfl (hb hby d4_50) rfl zk) ?_
      show Rch _ _ _ _ (s₁.setTop (mkF m 51 #[.val (.ref a1), .val (.int p2), .val (.int p3), .val (.long q4), .second, .val (.int lo), .val (.int hi), s7] [(.int (lo - p2))]))
      obtain ⟨fs, hr, hrun, hended, hW, hsame⟩ := X0.leave (v := some (.int (lo - p2))) (fun h => by rw [Bd.returns] at h; cases h)
      refine Rch.mk (retI X0 hx Bd.returns (hb hby d4_51) hr) (hPd _ _ _ _ hrun hended rfl ?_ ⟨⟨_, rfl⟩, hW, hsame.mono (by decide) (by decide)⟩)
      show Q_rm4 Z a1 k0 x0 x1 x2 x3 p2 p3 q4 h0 n0 _ s₁.heap _
      rw [e0]
      exact ⟨⟨_, rfl, own_out hg hI hlt⟩, N0, rfl⟩
    | succ k ih =>
      intro lo hi s7 h7 hk hI
      have hr := own_rng hg hI
      by_cases hlt : lo < hi
      · have hlt2 := hlt; rw [Int32.lt_iff_toInt_lt] at hlt2
        have j22 : ∀ (md : Int32), (md.toInt = (lo.toInt + hi.toInt) / 2) → Rch p.tables e below P (s₁.setTop (mkF m 22 #[.val (.ref a1), .val (.int p2), .val (.int p3), .val (.long q4), .second, .val (.int lo), .val (.int hi), .val (.int md)] [])) := by
          intro md hmd
          refine Rch.go (fun zt zk => XS.aloadN X0.here hx rfl (hb hby d4_22) rfl rfl zk) ?_
          show Rch _ _ _ _ (s₁.setTop (mkF m 23 #[.val (.ref a1), .val (.int p2), .val (.int p3), .val (.long q4), .second, .val (.int lo), .val (.int hi), .val (.int md)] [(.ref a1)]))
          refine Rch.go (fun zt zk => XS.iload X0.here hx rfl (hb hby d4_23) rfl zk) ?_
          show Rch _ _ _ _ (s₁.setTop (mkF m 25 #[.val (.ref a1), .val (.int p2), .val (.int p3), .val (.long q4), .second, .val (.int lo), .val (.int hi), .val (.int md)] [(.int md), (.ref a1)]))
          obtain ⟨cl101, Ar101, q101, S101, M101, H101, G101⟩ := P0
          have hin101 := inb_of (j := md) S101 (own_inb (by omega) (by omega))
          refine Rch.go (X0.laload hx (j := md) (v := (.long (xAt x0 x1 x2 x3 md.toInt))) (by rw [e0]; exact Ar101.1) (State.isArrayOf_alike hZ.alike Ar101.2.1) Ar101.2.2 hin101 (Has.at H101 hin101 (own_get (by omega) (by omega))) (g := (mkF m 25 #[.val (.ref a1), .val (.int p2), .val (.int p3), .val (.long q4), .second, .val (.int lo), .val (.int hi), .val (.int md)] [(.int md), (.ref a1)])) rfl rfl (hb hby d4_25)) ?_
          show Rch _ _ _ _ (s₁.setTop (mkF m 26 #[.val (.ref a1), .val (.int p2), .val (.int p3), .val (.long q4), .second, .val (.int lo), .val (.int hi), .val (.int md)] [(.long (xAt x0 x1 x2 x3 md.toInt))]))
          refine Rch.go (fun zt zk => XS.lloadN X0.here hx rfl (hb hby d4_26) rfl zk) ?_
          show Rch _ _ _ _ (s₁.setTop (mkF m 27 #[.val (.ref a1), .val (.int p2), .val (.int p3), .val (.long q4), .second, .val (.int lo), .val (.int hi), .val (.int md)] [(.long q4), (.long (xAt x0 x1 x2 x3 md.toInt))]))
          refine Rch.go (fun zt zk => XS.lcmp X0.here hx rfl (hb hby d4_27) rfl zk) ?_
          show Rch _ _ _ _ (s₁.setTop (mkF m 28 #[.val (.ref a1), .val (.int p2), .val (.int p3), .val (.long q4), .second, .val (.int lo), .val (.int hi), .val (.int md)] [(.int (lcmpW (xAt x0 x1 x2 x3 md.toInt) q4))]))
          by_cases hc28_102 : (lcmpW (xAt x0 x1 x2 x3 md.toInt) q4) < (0 : Int32)
          · skip
            refine Rch.go (fun zt zk => XS.ifNo X0.here hx rfl (hb hby d4_28) rfl ((if0 _ _).trans (tlt hc28_102).2.1) zk) ?_
            show Rch _ _ _ _ (s₁.setTop (mkF m 31 #[.val (.ref a1), .val (.int p2), .val (.int p3), .val (.long q4), .second, .val (.int lo), .val (.int hi), .val (.int md)] []))
            refine Rch.go (fun zt zk => XS.iload X0.here hx rfl (hb hby d4_31) rfl zk) ?_
            show Rch _ _ _ _ (s₁.setTop (mkF m 33 #[.val (.ref a1), .val (.int p2), .val (.int p3), .val (.long q4), .second, .val (.int lo), .val (.int hi), .val (.int md)] [(.int md)]))
            refine Rch.go (fun zt zk => XS.iconst X0.here hx rfl (hb hby d4_33) zk) ?_
            show Rch _ _ _ _ (s₁.setTop (mkF m 34 #[.val (.ref a1), .val (.int p2), .val (.int p3), .val (.long q4), .second, .val (.int lo), .val (.int hi), .val (.int md)] [(.int (1 : Int32)), (.int md)]))
            refine Rch.go (fun zt zk => XS.iadd X0.here hx rfl (hb hby d4_34) rfl zk) ?_
            show Rch _ _ _ _ (s₁.setTop (mkF m 35 #[.val (.ref a1), .val (.int p2), .val (.int p3), .val (.long q4), .second, .val (.int lo), .val (.int hi), .val (.int md)] [(.int (md + (1 : Int32)))]))
            refine Rch.go (fun zt zk => XS.istore X0.here hx rfl (hb hby d4_35) rfl (l' := #[.val (.ref a1), .val (.int p2), .val (.int p3), .val (.long q4), .second, .val (.int (md + (1 : Int32))), .val (.int hi), .val (.int md)]) rfl zk) ?_
            show Rch _ _ _ _ (s₁.setTop (mkF m 37 #[.val (.ref a1), .val (.int p2), .val (.int p3), .val (.long q4), .second, .val (.int (md + (1 : Int32))), .val (.int hi), .val (.int md)] []))
            refine Rch.go (fun zt zk => XS.goto X0.here hx rfl (pc0 := 37) (pc' := 44) rfl (hb hby d4_37) (by decide) (by decide) zk) ?_
            show Rch _ _ _ _ (s₁.setTop (mkF m 44 #[.val (.ref a1), .val (.int p2), .val (.int p3), .val (.long q4), .second, .val (.int (md + (1 : Int32))), .val (.int hi), .val (.int md)] []))
            refine Rch.go (fun zt zk => XS.goto X0.here hx rfl (pc0 := 44) (pc' := 6) rfl (hb hby d4_44) (by decide) (by decide) zk) ?_
            show Rch _ _ _ _ (s₁.setTop (mkF m 6 #[.val (.ref a1), .val (.int p2), .val (.int p3), .val (.long q4), .second, .val (.int (md + (1 : Int32))), .val (.int hi), .val (.int md)] []))
            have hu := own_up hs hg hI hlt hmd hc28_102
            exact ih _ _ _ (Or.inr ⟨_, rfl⟩) (by omega) hu.1
          · skip
            refine Rch.go (fun zt zk => XS.ifYes X0.here hx rfl (pc0 := 28) (pc' := 40) rfl (hb hby d4_28) rfl ((if0 _ _).trans (flt hc28_102).2.1) (by decide) (by decide) zk) ?_
            show Rch _ _ _ _ (s₁.setTop (mkF m 40 #[.val (.ref a1), .val (.int p2), .val (.int p3), .val (.long q4), .second, .val (.int lo), .val (.int hi), .val (.int md)] []))
            refine Rch.go (fun zt zk => XS.iload X0.here hx rfl (hb hby d4_40) rfl zk) ?_
            show Rch _ _ _ _ (s₁.setTop (mkF m 42 #[.val (.ref a1), .val (.int p2), .val (.int p3), .val (.long q4), .second, .val (.int lo), .val (.int hi), .val (.int md)] [(.int md)]))
            refine Rch.go (fun zt zk => XS.istore X0.here hx rfl (hb hby d4_42) rfl (l' := #[.val (.ref a1), .val (.int p2), .val (.int p3), .val (.long q4), .second, .val (.int lo), .val (.int md), .val (.int md)]) rfl zk) ?_
            show Rch _ _ _ _ (s₁.setTop (mkF m 44 #[.val (.ref a1), .val (.int p2), .val (.int p3), .val (.long q4), .second, .val (.int lo), .val (.int md), .val (.int md)] []))
            refine Rch.go (fun zt zk => XS.goto X0.here hx rfl (pc0 := 44) (pc' := 6) rfl (hb hby d4_44) (by decide) (by decide) zk) ?_
            show Rch _ _ _ _ (s₁.setTop (mkF m 6 #[.val (.ref a1), .val (.int p2), .val (.int p3), .val (.long q4), .second, .val (.int lo), .val (.int md), .val (.int md)] []))
            exact ih _ _ _ (Or.inr ⟨_, rfl⟩) (by omega) (own_dn hs hg hI hlt hmd hc28_102)
        rcases h7 with rfl | ⟨v7, rfl⟩
        · skip
          refine Rch.go (fun zt zk => XS.iload X0.here hx rfl (hb hby d4_6) rfl zk) ?_
          show Rch _ _ _ _ (s₁.setTop (mkF m 8 #[.val (.ref a1), .val (.int p2), .val (.int p3), .val (.long q4), .second, .val (.int lo), .val (.int hi), .unset] [(.int lo)]))
          refine Rch.go (fun zt zk => XS.iload X0.here hx rfl (hb hby d4_8) rfl zk) ?_
          show Rch _ _ _ _ (s₁.setTop (mkF m 10 #[.val (.ref a1), .val (.int p2), .val (.int p3), .val (.long q4), .second, .val (.int lo), .val (.int hi), .unset] [(.int hi), (.int lo)]))
          refine Rch.go (fun zt zk => XS.icmpNo X0.here hx rfl (hb hby d4_10) rfl (tlt (hlt : lo < hi)).2.1 zk) ?_
          show Rch _ _ _ _ (s₁.setTop (mkF m 13 #[.val (.ref a1), .val (.int p2), .val (.int p3), .val (.long q4), .second, .val (.int lo), .val (.int hi), .unset] []))
          refine Rch.go (fun zt zk => XS.iload X0.here hx rfl (hb hby d4_13) rfl zk) ?_
          show Rch _ _ _ _ (s₁.setTop (mkF m 15 #[.val (.ref a1), .val (.int p2), .val (.int p3), .val (.long q4), .second, .val (.int lo), .val (.int hi), .unset] [(.int lo)]))
          refine Rch.go (fun zt zk => XS.iload X0.here hx rfl (hb hby d4_15) rfl zk) ?_
          show Rch _ _ _ _ (s₁.setTop (mkF m 17 #[.val (.ref a1), .val (.int p2), .val (.int p3), .val (.long q4), .second, .val (.int lo), .val (.int hi), .unset] [(.int hi), (.int lo)]))
          refine Rch.go (fun zt zk => XS.iadd X0.here hx rfl (hb hby d4_17) rfl zk) ?_
          show Rch _ _ _ _ (s₁.setTop (mkF m 18 #[.val (.ref a1), .val (.int p2), .val (.int p3), .val (.long q4), .second, .val (.int lo), .val (.int hi), .unset] [(.int (lo + hi))]))
          refine Rch.go (fun zt zk => XS.iconst X0.here hx rfl (hb hby d4_18) zk) ?_
          show Rch _ _ _ _ (s₁.setTop (mkF m 19 #[.val (.ref a1), .val (.int p2), .val (.int p3), .val (.long q4), .second, .val (.int lo), .val (.int hi), .unset] [(.int (1 : Int32)), (.int (lo + hi))]))
          refine Rch.go (fun zt zk => XS.iushr X0.here hx rfl (hb hby d4_19) rfl zk) ?_
          show Rch _ _ _ _ (s₁.setTop (mkF m 20 #[.val (.ref a1), .val (.int p2), .val (.int p3), .val (.long q4), .second, .val (.int lo), .val (.int hi), .unset] [(.int (((lo + hi).toUInt32 >>> ((1 : Int32) &&& 31).toUInt32).toInt32))]))
          refine Rch.go (fun zt zk => XS.istore X0.here hx rfl (hb hby d4_20) rfl (l' := #[.val (.ref a1), .val (.int p2), .val (.int p3), .val (.long q4), .second, .val (.int lo), .val (.int hi), .val (.int (((lo + hi).toUInt32 >>> ((1 : Int32) &&& 31).toUInt32).toInt32))]) rfl zk) ?_
          show Rch _ _ _ _ (s₁.setTop (mkF m 22 #[.val (.ref a1), .val (.int p2), .val (.int p3), .val (.long q4), .second, .val (.int lo), .val (.int hi), .val (.int (((lo + hi).toUInt32 >>> ((1 : Int32) &&& 31).toUInt32).toInt32))] []))
          exact j22 _ (own_mid hr.1 hr.2.2.1 hr.2.1 hr.2.2.2)
        · skip
          refine Rch.go (fun zt zk => XS.iload X0.here hx rfl (hb hby d4_6) rfl zk) ?_
          show Rch _ _ _ _ (s₁.setTop (mkF m 8 #[.val (.ref a1), .val (.int p2), .val (.int p3), .val (.long q4), .second, .val (.int lo), .val (.int hi), .val (.int v7)] [(.int lo)]))
          refine Rch.go (fun zt zk => XS.iload X0.here hx rfl (hb hby d4_8) rfl zk) ?_
          show Rch _ _ _ _ (s₁.setTop (mkF m 10 #[.val (.ref a1), .val (.int p2), .val (.int p3), .val (.long q4), .second, .val (.int lo), .val (.int hi), .val (.int v7)] [(.int hi), (.int lo)]))
          refine Rch.go (fun zt zk => XS.icmpNo X0.here hx rfl (hb hby d4_10) rfl (tlt (hlt : lo < hi)).2.1 zk) ?_
          show Rch _ _ _ _ (s₁.setTop (mkF m 13 #[.val (.ref a1), .val (.int p2), .val (.int p3), .val (.long q4), .second, .val (.int lo), .val (.int hi), .val (.int v7)] []))
          refine Rch.go (fun zt zk => XS.iload X0.here hx rfl (hb hby d4_13) rfl zk) ?_
          show Rch _ _ _ _ (s₁.setTop (mkF m 15 #[.val (.ref a1), .val (.int p2), .val (.int p3), .val (.long q4), .second, .val (.int lo), .val (.int hi), .val (.int v7)] [(.int lo)]))
          refine Rch.go (fun zt zk => XS.iload X0.here hx rfl (hb hby d4_15) rfl zk) ?_
          show Rch _ _ _ _ (s₁.setTop (mkF m 17 #[.val (.ref a1), .val (.int p2), .val (.int p3), .val (.long q4), .second, .val (.int lo), .val (.int hi), .val (.int v7)] [(.int hi), (.int lo)]))
          refine Rch.go (fun zt zk => XS.iadd X0.here hx rfl (hb hby d4_17) rfl zk) ?_
          show Rch _ _ _ _ (s₁.setTop (mkF m 18 #[.val (.ref a1), .val (.int p2), .val (.int p3), .val (.long q4), .second, .val (.int lo), .val (.int hi), .val (.int v7)] [(.int (lo + hi))]))
          refine Rch.go (fun zt zk => XS.iconst X0.here hx rfl (hb hby d4_18) zk) ?_
          show Rch _ _ _ _ (s₁.setTop (mkF m 19 #[.val (.ref a1), .val (.int p2), .val (.int p3), .val (.long q4), .second, .val (.int lo), .val (.int hi), .val (.int v7)] [(.int (1 : Int32)), (.int (lo + hi))]))
          refine Rch.go (fun zt zk => XS.iushr X0.here hx rfl (hb hby d4_19) rfl zk) ?_
          show Rch _ _ _ _ (s₁.setTop (mkF m 20 #[.val (.ref a1), .val (.int p2), .val (.int p3), .val (.long q4), .second, .val (.int lo), .val (.int hi), .val (.int v7)] [(.int (((lo + hi).toUInt32 >>> ((1 : Int32) &&& 31).toUInt32).toInt32))]))
          refine Rch.go (fun zt zk => XS.istore X0.here hx rfl (hb hby d4_20) rfl (l' := #[.val (.ref a1), .val (.int p2), .val (.int p3), .val (.long q4), .second, .val (.int lo), .val (.int hi), .val (.int (((lo + hi).toUInt32 >>> ((1 : Int32) &&& 31).toUInt32).toInt32))]) rfl zk) ?_
          show Rch _ _ _ _ (s₁.setTop (mkF m 22 #[.val (.ref a1), .val (.int p2), .val (.int p3), .val (.long q4), .second, .val (.int lo), .val (.int hi), .val (.int (((lo + hi).toUInt32 >>> ((1 : Int32) &&& 31).toUInt32).toInt32))] []))
          exact j22 _ (own_mid hr.1 hr.2.2.1 hr.2.1 hr.2.2.2)
      · skip
        refine Rch.go (fun zt zk => XS.iload X0.here hx rfl (hb hby d4_6) rfl zk) ?_
        show Rch _ _ _ _ (s₁.setTop (mkF m 8 #[.val (.ref a1), .val (.int p2), .val (.int p3), .val (.long q4), .second, .val (.int lo), .val (.int hi), s7] [(.int lo)]))
        refine Rch.go (fun zt zk => XS.iload X0.here hx rfl (hb hby d4_8) rfl zk) ?_
        show Rch _ _ _ _ (s₁.setTop (mkF m 10 #[.val (.ref a1), .val (.int p2), .val (.int p3), .val (.long q4), .second, .val (.int lo), .val (.int hi), s7] [(.int hi), (.int lo)]))
        refine Rch.go (fun zt zk => XS.icmpYes X0.here hx rfl (pc0 := 10) (pc' := 47) rfl (hb hby d4_10) rfl (flt (hlt : ¬ (lo < hi))).2.1 (by decide) (by decide) zk) ?_
        show Rch _ _ _ _ (s₁.setTop (mkF m 47 #[.val (.ref a1), .val (.int p2), .val (.int p3), .val (.long q4), .second, .val (.int lo), .val (.int hi), s7] []))
        refine Rch.go (fun zt zk => XS.iload X0.here hx rfl (hb hby d4_47) rfl zk) ?_
        show Rch _ _ _ _ (s₁.setTop (mkF m 49 #[.val (.ref a1), .val (.int p2), .val (.int p3), .val (.long q4), .second, .val (.int lo), .val (.int hi), s7] [(.int lo)]))
        refine Rch.go (fun zt zk => XS.iloadN X0.here hx rfl (hb hby d4_49) rfl zk) ?_
        show Rch _ _ _ _ (s₁.setTop (mkF m 50 #[.val (.ref a1), .val (.int p2), .val (.int p3), .val (.long q4), .second, .val (.int lo), .val (.int hi), s7] [(.int p2), (.int lo)]))
        refine Rch.go (fun zt zk => XS.isub X0.here hx rfl (hb hby d4_50) rfl zk) ?_
        show Rch _ _ _ _ (s₁.setTop (mkF m 51 #[.val (.ref a1), .val (.int p2), .val (.int p3), .val (.long q4), .second, .val (.int lo), .val (.int hi), s7] [(.int (lo - p2))]))
        obtain ⟨fs, hr, hrun, hended, hW, hsame⟩ := X0.leave (v := some (.int (lo - p2))) (fun h => by rw [Bd.returns] at h; cases h)
        refine Rch.mk (retI X0 hx Bd.returns (hb hby d4_51) hr) (hPd _ _ _ _ hrun hended rfl ?_ ⟨⟨_, rfl⟩, hW, hsame.mono (by decide) (by decide)⟩)
        show Q_rm4 Z a1 k0 x0 x1 x2 x3 p2 p3 q4 h0 n0 _ s₁.heap _
        rw [e0]
        exact ⟨⟨_, rfl, own_out hg hI hlt⟩, N0, rfl⟩
  exact loop 4 _ _ _ (Or.inl rfl) (by have := hg.1; have := hg.2.2; omega) ⟨Int.le_refl _, hg.2.1, Int.le_refl _, fun i h1 h2 => by omega, fun i h1 h2 => by omega⟩
theorem own_mn (a b : Int64) : (fMin a b).toInt ≤ a.toInt ∧ (fMin a b).toInt ≤ b.toInt ∧ ((fMin a b).toInt = a.toInt ∨ (fMin a b).toInt = b.toInt) := by
  unfold fMin; simp only [lw_gt, Int64.lt_iff_toInt_lt]; split <;> omega
theorem own_mx (a b : Int64) : a.toInt ≤ (fMax a b).toInt ∧ b.toInt ≤ (fMax a b).toInt ∧ ((fMax a b).toInt = a.toInt ∨ (fMax a b).toInt = b.toInt) := by
  unfold fMax; simp only [lw_lt, Int64.lt_iff_toInt_lt]; split <;> omega
theorem own_sort (a b c d : Int64) : Sorted4 (fMin (fMin a b) (fMin c d)) (fMin (fMin (fMax a b) (fMax c d)) (fMax (fMin a b) (fMin c d))) (fMax (fMin (fMax a b) (fMax c d)) (fMax (fMin a b) (fMin c d))) (fMax (fMax a b) (fMax c d)) := by
  have h1 := own_mn a b; have h2 := own_mx a b; have h3 := own_mn c d; have h4 := own_mx c d
  have g1 : (fMin a b).toInt ≤ (fMax a b).toInt := by omega
  have g2 : (fMin c d).toInt ≤ (fMax c d).toInt := by omega
  clear h1 h2 h3 h4
  generalize fMin a b = x0 at *
  generalize fMax a b = x1 at *
  generalize fMin c d = x2 at *
  generalize fMax c d = x3 at *
  have h5 := own_mn x0 x2; have h6 := own_mx x0 x2; have h7 := own_mn x1 x3; have h8 := own_mx x1 x3
  have k1 : (fMin x0 x2).toInt ≤ (fMin x1 x3).toInt := by omega
  have k2 : (fMin x0 x2).toInt ≤ (fMax x0 x2).toInt := by omega
  have k3 : (fMax x0 x2).toInt ≤ (fMax x1 x3).toInt := by omega
  have k4 : (fMin x1 x3).toInt ≤ (fMax x1 x3).toInt := by omega
  clear h5 h6 h7 h8
  generalize fMin x0 x2 = y0 at *
  generalize fMax x0 x2 = y2 at *
  generalize fMin x1 x3 = y1 at *
  generalize fMax x1 x3 = y3 at *
  have h9 := own_mn y1 y2; have h10 := own_mx y1 y2
  exact ⟨by omega, by omega, by omega⟩
theorem own_from (x : Int32) : 0 ≤ ((x &&& (7 : Int32)) % (5 : Int32)).toInt ∧ ((x &&& (7 : Int32)) % (5 : Int32)).toInt ≤ 4 := by
  have h := c_mask x (7 : Int32) 3 (by decide) (by decide)
  have h2 := (c_irem (x &&& (7 : Int32)) (5 : Int32) 5 (by decide)).1 (by rw [h]; omega)
  omega
theorem own_5 {f : Int32} (h : 0 ≤ f.toInt ∧ f.toInt ≤ 4) : ((5 : Int32) - f).toInt = 5 - f.toInt := by
  have h1 := c_isub (5 : Int32) f; have h2 := rng32 ((5 : Int32) - f); have e5 : (5 : Int32).toInt = 5 := by decide
  omega
theorem own_50 {f : Int32} (h : 0 ≤ f.toInt ∧ f.toInt ≤ 4) : ¬ (((5 : Int32) - f) = (0 : Int32)) := fun q => by
  have := own_5 h; rw [q] at this; have e0 : (0 : Int32).toInt = 0 := by decide
  omega
theorem own_to {f : Int32} (y : Int32) (h : 0 ≤ f.toInt ∧ f.toInt ≤ 4) : Rg f (f + ((y &&& (7 : Int32)) % ((5 : Int32) - f))) := by
  have h5 := own_5 h
  have hm := c_mask y (7 : Int32) 3 (by decide) (by decide)
  have h2 := (c_irem (y &&& (7 : Int32)) ((5 : Int32) - f) _ h5).1 (by rw [hm]; omega)
  have h3 := c_iadd f ((y &&& (7 : Int32)) % ((5 : Int32) - f)); have h4 := rng32 (f + ((y &&& (7 : Int32)) % ((5 : Int32) - f)))
  have h6 : 0 ≤ (y &&& (7 : Int32)).toInt % (5 - f.toInt) := Int.emod_nonneg _ (by omega)
  have h7 : (y &&& (7 : Int32)).toInt % (5 - f.toInt) < 5 - f.toInt := Int.emod_lt_of_pos _ (by omega)
  exact ⟨h.1, by omega, by omega⟩
theorem own_and7 (y : Int32) : 0 ≤ (y &&& (7 : Int32)).toInt := by
  have hm := c_mask y (7 : Int32) 3 (by decide) (by decide)
  rw [hm]; omega
theorem own_one0 (x : Int64) (fr to : Int32) (tm : Int64) : (fOne0 x fr to tm).toInt = if fr.toInt ≤ 0 ∧ (0 : Int) < to.toInt ∧ x < tm then 1 else 0 := by
  have ei : (0 : Int32).toInt = 0 := by decide
  have e1 : (1 : Int32).toInt = 1 := by decide
  have e0 : (0 : Int32).toInt = 0 := by decide
  unfold fOne0
  simp only [Int32.lt_iff_toInt_lt (x := (0 : Int32)), ei]
  by_cases h1 : (0 : Int) < fr.toInt
  · rw [if_pos h1, if_neg (fun q => by omega)]; exact e0
  · rw [if_neg h1]
    by_cases h2 : (0 : Int) < to.toInt
    · rw [if_pos h2]
      by_cases h3 : x < tm
      · rw [if_pos ((lw_lt _ _).mpr h3), if_pos ⟨by omega, h2, h3⟩]; exact e1
      · rw [if_neg (fun q => h3 ((lw_lt _ _).mp q)), if_neg (fun q => h3 q.2.2)]; exact e0
    · rw [if_neg h2, if_neg (fun q => h2 q.2.1)]; exact e0
theorem own_one1 (x : Int64) (fr to : Int32) (tm : Int64) : (fOne1 x fr to tm).toInt = if fr.toInt ≤ 1 ∧ (1 : Int) < to.toInt ∧ x < tm then 1 else 0 := by
  have ei : (1 : Int32).toInt = 1 := by decide
  have e1 : (1 : Int32).toInt = 1 := by decide
  have e0 : (0 : Int32).toInt = 0 := by decide
  unfold fOne1
  simp only [Int32.lt_iff_toInt_lt (x := (1 : Int32)), ei]
  by_cases h1 : (1 : Int) < fr.toInt
  · rw [if_pos h1, if_neg (fun q => by omega)]; exact e0
  · rw [if_neg h1]
    by_cases h2 : (1 : Int) < to.toInt
    · rw [if_pos h2]
      by_cases h3 : x < tm
      · rw [if_pos ((lw_lt _ _).mpr h3), if_pos ⟨by omega, h2, h3⟩]; exact e1
      · rw [if_neg (fun q => h3 ((lw_lt _ _).mp q)), if_neg (fun q => h3 q.2.2)]; exact e0
    · rw [if_neg h2, if_neg (fun q => h2 q.2.1)]; exact e0
theorem own_one2 (x : Int64) (fr to : Int32) (tm : Int64) : (fOne2 x fr to tm).toInt = if fr.toInt ≤ 2 ∧ (2 : Int) < to.toInt ∧ x < tm then 1 else 0 := by
  have ei : (2 : Int32).toInt = 2 := by decide
  have e1 : (1 : Int32).toInt = 1 := by decide
  have e0 : (0 : Int32).toInt = 0 := by decide
  unfold fOne2
  simp only [Int32.lt_iff_toInt_lt (x := (2 : Int32)), ei]
  by_cases h1 : (2 : Int) < fr.toInt
  · rw [if_pos h1, if_neg (fun q => by omega)]; exact e0
  · rw [if_neg h1]
    by_cases h2 : (2 : Int) < to.toInt
    · rw [if_pos h2]
      by_cases h3 : x < tm
      · rw [if_pos ((lw_lt _ _).mpr h3), if_pos ⟨by omega, h2, h3⟩]; exact e1
      · rw [if_neg (fun q => h3 ((lw_lt _ _).mp q)), if_neg (fun q => h3 q.2.2)]; exact e0
    · rw [if_neg h2, if_neg (fun q => h2 q.2.1)]; exact e0
theorem own_one3 (x : Int64) (fr to : Int32) (tm : Int64) : (fOne3 x fr to tm).toInt = if fr.toInt ≤ 3 ∧ (3 : Int) < to.toInt ∧ x < tm then 1 else 0 := by
  have ei : (3 : Int32).toInt = 3 := by decide
  have e1 : (1 : Int32).toInt = 1 := by decide
  have e0 : (0 : Int32).toInt = 0 := by decide
  unfold fOne3
  simp only [Int32.lt_iff_toInt_lt (x := (3 : Int32)), ei]
  by_cases h1 : (3 : Int) < fr.toInt
  · rw [if_pos h1, if_neg (fun q => by omega)]; exact e0
  · rw [if_neg h1]
    by_cases h2 : (3 : Int) < to.toInt
    · rw [if_pos h2]
      by_cases h3 : x < tm
      · rw [if_pos ((lw_lt _ _).mpr h3), if_pos ⟨by omega, h2, h3⟩]; exact e1
      · rw [if_neg (fun q => h3 ((lw_lt _ _).mp q)), if_neg (fun q => h3 q.2.2)]; exact e0
    · rw [if_neg h2, if_neg (fun q => h2 q.2.1)]; exact e0
theorem own_cnt {x : Int64} {fr to : Int32} {tm : Int64} {n : Int} {i : Int} {f : Int} (hf : f = if fr.toInt ≤ i ∧ i < to.toInt ∧ x < tm then 1 else 0) (h1 : fr.toInt ≤ i → i < n → x < tm) (h2 : n ≤ i → i < to.toInt → ¬ (x < tm)) (hn : n ≤ to.toInt) : f = if fr.toInt ≤ i ∧ i < n then 1 else 0 := by
  rw [hf]
  by_cases ha : fr.toInt ≤ i ∧ i < n
  · rw [if_pos ha, if_pos ⟨ha.1, by omega, h1 ha.1 ha.2⟩]
  · rw [if_neg ha, if_neg (fun q => h2 (by omega) q.2.1 q.2.2)]
theorem own_final {x0 x1 x2 x3 : Int64} {fr to : Int32} {tm : Int64} {r : Int32} (hg : Rg fr to) (h : PlaceOk x0 x1 x2 x3 fr to tm r) : r = (((fOne0 x0 fr to tm + fOne1 x1 fr to tm) + fOne2 x2 fr to tm) + fOne3 x3 fr to tm) := by
  obtain ⟨g1, g2, g3⟩ := hg
  obtain ⟨n, n1, n2, n3, n4, n5⟩ := h
  have c0 := own_cnt (i := 0) (own_one0 x0 fr to tm) (n4 0) (n5 0) n2
  have c1 := own_cnt (i := 1) (own_one1 x1 fr to tm) (n4 1) (n5 1) n2
  have c2 := own_cnt (i := 2) (own_one2 x2 fr to tm) (n4 2) (n5 2) n2
  have c3 := own_cnt (i := 3) (own_one3 x3 fr to tm) (n4 3) (n5 3) n2
  generalize fOne0 x0 fr to tm = f0 at *
  generalize fOne1 x1 fr to tm = f1 at *
  generalize fOne2 x2 fr to tm = f2 at *
  generalize fOne3 x3 fr to tm = f3 at *
  have a1 := c_iadd f0 f1; have b1 := rng32 (f0 + f1)
  have a2 := c_iadd (f0 + f1) f2; have b2 := rng32 (f0 + f1 + f2)
  have a3 := c_iadd (f0 + f1 + f2) f3; have b3 := rng32 (f0 + f1 + f2 + f3)
  rw [← Int32.toInt_inj]
  omega
theorem ef_rm0 (m : MethodId) (q1 : Int64) (q2 : Int64) (q3 : Int64) (q4 : Int64) (q5 : Int64) (p6 : Int32) : entryFrame m #[(.long q1), (.long q2), (.long q3), (.long q4), (.long q5), (.int p6)] maxLocals = mkF m 0 #[.val (.long q1), .second, .val (.long q2), .second, .val (.long q3), .second, .val (.long q4), .second, .val (.long q5), .second, .val (.int p6), .unset, .unset, .unset, .unset, .unset, .unset, .unset, .unset, .unset, .unset, .unset, .unset, .unset, .unset, .unset, .unset, .unset, .unset, .unset, .unset, .unset, .unset, .unset, .unset, .unset, .unset, .unset] [] := by first | (simp [entryFrame, mkF, argsToLocals, Value.category, maxLocals]; done) | rfl
theorem pd__JJ_J : parseMethodDescriptor "(JJ)J" = some ⟨[.long, .long], some .long⟩ := by decide +kernel
theorem pd___JIIIJ_I : parseMethodDescriptor "([JIIIJ)I" = some ⟨[(.array .long), .int, .int, .int, .long], some .int⟩ := by decide +kernel
theorem pd___JIIJ_I : parseMethodDescriptor "([JIIJ)I" = some ⟨[(.array .long), .int, .int, .long], some .int⟩ := by decide +kernel
def Q_rm0 (Z : State) (q1 : Int64) (q2 : Int64) (q3 : Int64) (q4 : Int64) (q5 : Int64) (p6 : Int32) (h0 : Heap) (n0 : Nat) (v : Option Value) (h : Heap) (L : List Loc) : Prop := v = some (.int (1 : Int32)) ∧ Fr n0 L
set_option maxRecDepth 65536 in
set_option maxHeartbeats 40000000 in
theorem rm0 (l : Launch) (Z : State) (a0 : Array Value) (hw : ∀ d ∈ tables_1, d.before a0 Z = true) (ws : List Jvm.Cond) (q1 : Int64) (q2 : Int64) (q3 : Int64) (q4 : Int64) (q5 : Int64) (p6 : Int32) (h0 : Heap) (n0 : Nat) (Z0 : n0 ≤ h0.size) :
    MetFree l x (head1 (Jvm.Cond.code x code maxLocals ret :: ws) room_1) (fun a U => a = #[(.long q1), (.long q2), (.long q3), (.long q4), (.long q5), (.int p6)] ∧ Z.Warmed39 U.vm ∧ U.heap = h0) (fun _ _ _ _ _ => True) (fun _ U o U' => ∃ v L, o = .returned v ∧ Q_rm0 Z q1 q2 q3 q4 q5 p6 h0 n0 v U'.heap L ∧ FrameEnd U o U' L room_1.cells room_1.slots) := by
  refine MetFree.of_bodySF (plainFor_of_name pn_com_example_consistometer_consistometer_analysis_ChunkRunsPlaceAmongPinLaw) hisR ?_
  intro p e s m args below meth c s₁ Bd hml0 hP hK
  obtain ⟨rfl, hZ, hh⟩ := hP
  have hx := Bd.exec
  have hby := Bd.bytes
  have hml : c.maxLocals = 38 := hml0
  have hown : s.vm.findClass "com/example/consistometer/consistometer/analysis/ChunkRunsPlaceAmongPinLaw" = some m.cls := findClass_of_methodNamed Bd.named
  have hnm := (name_of_methodNamed Bd.named Bd.method).1
  have X0 : Stand p l e room_1 s m #[(.long q1), (.long q2), (.long q3), (.long q4), (.long q5), (.int p6)] below meth c s₁ [] 0 0 := Stand.of_body Bd
  have e0 : s₁.heap = h0 := by rw [← hh, Bd.state]; rfl
  have N0 := Fr.nil n0
  suffices hR : ∀ P : State → Prop, (∀ s₂ o v L, s₂.status = .running → Ended s₂ below o → o = .returned v → Q_rm0 Z q1 q2 q3 q4 q5 p6 h0 n0 v s₂.heap L → FrameEnd s o s₂ L room_1.cells room_1.slots → P s₂) → Rch p.tables e below P (s₁.setTop (mkF m 0 #[.val (.long q1), .second, .val (.long q2), .second, .val (.long q3), .second, .val (.long q4), .second, .val (.long q5), .second, .val (.int p6), .unset, .unset, .unset, .unset, .unset, .unset, .unset, .unset, .unset, .unset, .unset, .unset, .unset, .unset, .unset, .unset, .unset, .unset, .unset, .unset, .unset, .unset, .unset, .unset, .unset, .unset, .unset] [])) by
    obtain ⟨s₂, h1, o, h2⟩ := hR (fun s₂ => ∃ o, s₂.status = .running ∧ Ended s₂ below o ∧ ∃ v L, o = .returned v ∧ Q_rm0 Z q1 q2 q3 q4 q5 p6 h0 n0 v s₂.heap L ∧ FrameEnd s o s₂ L room_1.cells room_1.slots) (fun s₂ o v L q1 q2 q3 q4 q5 => ⟨o, q1, q2, v, L, q3, q4, q5⟩)
    exact ⟨s₂, o, castTop (ef_rm0 m q1 q2 q3 q4 q5 p6) h1, h2⟩
  intro P hPd
  have j12 : ∀ (bb : Int64), Rch p.tables e below P (s₁.setTop (mkF m 12 #[.val (.long q1), .second, .val (.long bb), .second, .val (.long q3), .second, .val (.long q4), .second, .val (.long q5), .second, .val (.int p6), .unset, .unset, .unset, .unset, .unset, .unset, .unset, .unset, .unset, .unset, .unset, .unset, .unset, .unset, .unset, .unset, .unset, .unset, .unset, .unset, .unset, .unset, .unset, .unset, .unset, .unset, .unset] [])) := by
    intro bb
    have j98 : ∀ (Tj98 : State) (Lj98 : List Loc) (_ : Stand p l e room_1 s m #[(.long q1), (.long q2), (.long q3), (.long q4), (.long q5), (.int p6)] below meth c Tj98 Lj98 0 0) (_ : Tj98.heap = h0) (_ : Fr n0 Lj98) (t0 : Int64) (t1 : Int64) (t2 : Int64) (t3 : Int64) (y0 : Int64) (y2 : Int64) (y1 : Int64) (y3 : Int64) (z1 : Int64) (z2 : Int64), (Sorted4 y0 z1 z2 y3) → Rch p.tables e below P (Tj98.setTop (mkF m 98 #[.val (.long q1), .second, .val (.long bb), .second, .val (.long q3), .second, .val (.long q4), .second, .val (.long q5), .second, .val (.int p6), .val (.long t0), .second, .val (.long t1), .second, .val (.long t2), .second, .val (.long t3), .second, .val (.long y0), .second, .val (.long y2), .second, .val (.long y1), .second, .val (.long y3), .second, .val (.long z1), .second, .val (.long z2), .second, .unset, .unset, .unset, .unset, .unset, .unset, .unset] [])) := by
      intro Tj98 Lj98 Xj98 ej98 Nj98 t0 t1 t2 t3 y0 y2 y1 y3 z1 z2 hs
      refine Rch.go (fun zt zk => XS.iconst Xj98.here hx rfl (hb hby at_98) zk) ?_
      show Rch _ _ _ _ (Tj98.setTop (mkF m 99 #[.val (.long q1), .second, .val (.long bb), .second, .val (.long q3), .second, .val (.long q4), .second, .val (.long q5), .second, .val (.int p6), .val (.long t0), .second, .val (.long t1), .second, .val (.long t2), .second, .val (.long t3), .second, .val (.long y0), .second, .val (.long y2), .second, .val (.long y1), .second, .val (.long y3), .second, .val (.long z1), .second, .val (.long z2), .second, .unset, .unset, .unset, .unset, .unset, .unset, .unset] [(.int (4 : Int32))]))
      obtain ⟨T101, h101, k101, X101, e101, E101, A101, st101⟩ := newP Xj98 hx hZ (aty := .long) (ow7 hw) ej98 (g := (mkF m 99 #[.val (.long q1), .second, .val (.long bb), .second, .val (.long q3), .second, .val (.long q4), .second, .val (.long q5), .second, .val (.int p6), .val (.long t0), .second, .val (.long t1), .second, .val (.long t2), .second, .val (.long t3), .second, .val (.long y0), .second, .val (.long y2), .second, .val (.long y1), .second, .val (.long y3), .second, .val (.long z1), .second, .val (.long z2), .second, .unset, .unset, .unset, .unset, .unset, .unset, .unset] [(.int (4 : Int32))])) rfl (hb hby at_99) rfl (by decide) (cap := 4) (by decide) (by decide) (by decide) (by decide)
      obtain ⟨b101, g101⟩ : ∃ z, z = h0.size := ⟨_, rfl⟩
      rw [← g101] at A101 st101
      refine Rch.go st101 ?_
      have ge101 : n0 ≤ b101 := by rw [g101]; exact Z0
      have gk101 : h0.size ≤ b101 := by rw [g101]; exact (Keep.refl h0 []).1
      have K101 := (Keep.refl h0 []).ext E101
      have V101 : Arv Z h101 b101 k101 .long (4 : Int32) [(.long (0 : Int64)), (.long (0 : Int64)), (.long (0 : Int64)), (.long (0 : Int64))] (.long (0 : Int64)) := (Arv.new A101 (by decide)).pad (pad_rep [] (.long (0 : Int64)) 4)
      show Rch _ _ _ _ (T101.setTop (mkF m 101 #[.val (.long q1), .second, .val (.long bb), .second, .val (.long q3), .second, .val (.long q4), .second, .val (.long q5), .second, .val (.int p6), .val (.long t0), .second, .val (.long t1), .second, .val (.long t2), .second, .val (.long t3), .second, .val (.long y0), .second, .val (.long y2), .second, .val (.long y1), .second, .val (.long y3), .second, .val (.long z1), .second, .val (.long z2), .second, .unset, .unset, .unset, .unset, .unset, .unset, .unset] [(.ref b101)]))
      refine Rch.go (fun zt zk => XS.astore X101.here hx rfl (hb hby at_101) rfl rfl (l' := #[.val (.long q1), .second, .val (.long bb), .second, .val (.long q3), .second, .val (.long q4), .second, .val (.long q5), .second, .val (.int p6), .val (.long t0), .second, .val (.long t1), .second, .val (.long t2), .second, .val (.long t3), .second, .val (.long y0), .second, .val (.long y2), .second, .val (.long y1), .second, .val (.long y3), .second, .val (.long z1), .second, .val (.long z2), .second, .val (.ref b101), .unset, .unset, .unset, .unset, .unset, .unset]) rfl zk) ?_
      show Rch _ _ _ _ (T101.setTop (mkF m 103 #[.val (.long q1), .second, .val (.long bb), .second, .val (.long q3), .second, .val (.long q4), .second, .val (.long q5), .second, .val (.int p6), .val (.long t0), .second, .val (.long t1), .second, .val (.long t2), .second, .val (.long t3), .second, .val (.long y0), .second, .val (.long y2), .second, .val (.long y1), .second, .val (.long y3), .second, .val (.long z1), .second, .val (.long z2), .second, .val (.ref b101), .unset, .unset, .unset, .unset, .unset, .unset] []))
      refine Rch.go (fun zt zk => XS.aload X101.here hx rfl (hb hby at_103) rfl rfl zk) ?_
      show Rch _ _ _ _ (T101.setTop (mkF m 105 #[.val (.long q1), .second, .val (.long bb), .second, .val (.long q3), .second, .val (.long q4), .second, .val (.long q5), .second, .val (.int p6), .val (.long t0), .second, .val (.long t1), .second, .val (.long t2), .second, .val (.long t3), .second, .val (.long y0), .second, .val (.long y2), .second, .val (.long y1), .second, .val (.long y3), .second, .val (.long z1), .second, .val (.long z2), .second, .val (.ref b101), .unset, .unset, .unset, .unset, .unset, .unset] [(.ref b101)]))
      refine Rch.go (fun zt zk => XS.iconst X101.here hx rfl (hb hby at_105) zk) ?_
      show Rch _ _ _ _ (T101.setTop (mkF m 106 #[.val (.long q1), .second, .val (.long bb), .second, .val (.long q3), .second, .val (.long q4), .second, .val (.long q5), .second, .val (.int p6), .val (.long t0), .second, .val (.long t1), .second, .val (.long t2), .second, .val (.long t3), .second, .val (.long y0), .second, .val (.long y2), .second, .val (.long y1), .second, .val (.long y3), .second, .val (.long z1), .second, .val (.long z2), .second, .val (.ref b101), .unset, .unset, .unset, .unset, .unset, .unset] [(.int (0 : Int32)), (.ref b101)]))
      refine Rch.go (fun zt zk => XS.lload X101.here hx rfl (hb hby at_106) rfl zk) ?_
      show Rch _ _ _ _ (T101.setTop (mkF m 108 #[.val (.long q1), .second, .val (.long bb), .second, .val (.long q3), .second, .val (.long q4), .second, .val (.long q5), .second, .val (.int p6), .val (.long t0), .second, .val (.long t1), .second, .val (.long t2), .second, .val (.long t3), .second, .val (.long y0), .second, .val (.long y2), .second, .val (.long y1), .second, .val (.long y3), .second, .val (.long z1), .second, .val (.long z2), .second, .val (.ref b101), .unset, .unset, .unset, .unset, .unset, .unset] [(.long y0), (.int (0 : Int32)), (.ref b101)]))
      obtain ⟨cl102, Ar102, q102, S102, M102, H102, G102⟩ := V101
      obtain ⟨T102, h102, X102, e102, W102, st102⟩ := stJ X101 hx hZ e101 Ar102 (j := (0 : Int32)) (inb_of S102 ⟨by decide, by decide⟩) (g := (mkF m 108 #[.val (.long q1), .second, .val (.long bb), .second, .val (.long q3), .second, .val (.long q4), .second, .val (.long q5), .second, .val (.int p6), .val (.long t0), .second, .val (.long t1), .second, .val (.long t2), .second, .val (.long t3), .second, .val (.long y0), .second, .val (.long y2), .second, .val (.long y1), .second, .val (.long y3), .second, .val (.long z1), .second, .val (.long z2), .second, .val (.ref b101), .unset, .unset, .unset, .unset, .unset, .unset] [(.long y0), (.int (0 : Int32)), (.ref b101)])) rfl rfl (hb hby at_108)
      refine Rch.go st102 ?_
      have V102 : Arv Z h102 b101 k101 .long (4 : Int32) [(.long y0), (.long (0 : Int64)), (.long (0 : Int64)), (.long (0 : Int64))] (.long (0 : Int64)) := Arv.set Ar102 q102 S102 M102 H102 G102 rfl W102 0 rfl (Nat.le_of_ble_eq_true rfl)
      have N102 := Fr.snoc X102 Nj98 ge101
      have K102 := K101.wr W102 (Or.inr gk101)
      show Rch _ _ _ _ (T102.setTop (mkF m 109 #[.val (.long q1), .second, .val (.long bb), .second, .val (.long q3), .second, .val (.long q4), .second, .val (.long q5), .second, .val (.int p6), .val (.long t0), .second, .val (.long t1), .second, .val (.long t2), .second, .val (.long t3), .second, .val (.long y0), .second, .val (.long y2), .second, .val (.long y1), .second, .val (.long y3), .second, .val (.long z1), .second, .val (.long z2), .second, .val (.ref b101), .unset, .unset, .unset, .unset, .unset, .unset] []))
      refine Rch.go (fun zt zk => XS.aload X102.here hx rfl (hb hby at_109) rfl rfl zk) ?_
      show Rch _ _ _ _ (T102.setTop (mkF m 111 #[.val (.long q1), .second, .val (.long bb), .second, .val (.long q3), .second, .val (.long q4), .second, .val (.long q5), .second, .val (.int p6), .val (.long t0), .second, .val (.long t1), .second, .val (.long t2), .second, .val (.long t3), .second, .val (.long y0), .second, .val (.long y2), .second, .val (.long y1), .second, .val (.long y3), .second, .val (.long z1), .second, .val (.long z2), .second, .val (.ref b101), .unset, .unset, .unset, .unset, .unset, .unset] [(.ref b101)]))
      refine Rch.go (fun zt zk => XS.iconst X102.here hx rfl (hb hby at_111) zk) ?_
      show Rch _ _ _ _ (T102.setTop (mkF m 112 #[.val (.long q1), .second, .val (.long bb), .second, .val (.long q3), .second, .val (.long q4), .second, .val (.long q5), .second, .val (.int p6), .val (.long t0), .second, .val (.long t1), .second, .val (.long t2), .second, .val (.long t3), .second, .val (.long y0), .second, .val (.long y2), .second, .val (.long y1), .second, .val (.long y3), .second, .val (.long z1), .second, .val (.long z2), .second, .val (.ref b101), .unset, .unset, .unset, .unset, .unset, .unset] [(.int (1 : Int32)), (.ref b101)]))
      refine Rch.go (fun zt zk => XS.lload X102.here hx rfl (hb hby at_112) rfl zk) ?_
      show Rch _ _ _ _ (T102.setTop (mkF m 114 #[.val (.long q1), .second, .val (.long bb), .second, .val (.long q3), .second, .val (.long q4), .second, .val (.long q5), .second, .val (.int p6), .val (.long t0), .second, .val (.long t1), .second, .val (.long t2), .second, .val (.long t3), .second, .val (.long y0), .second, .val (.long y2), .second, .val (.long y1), .second, .val (.long y3), .second, .val (.long z1), .second, .val (.long z2), .second, .val (.ref b101), .unset, .unset, .unset, .unset, .unset, .unset] [(.long z1), (.int (1 : Int32)), (.ref b101)]))
      obtain ⟨cl103, Ar103, q103, S103, M103, H103, G103⟩ := V102
      obtain ⟨T103, h103, X103, e103, W103, st103⟩ := stJ X102 hx hZ e102 Ar103 (j := (1 : Int32)) (inb_of S103 ⟨by decide, by decide⟩) (g := (mkF m 114 #[.val (.long q1), .second, .val (.long bb), .second, .val (.long q3), .second, .val (.long q4), .second, .val (.long q5), .second, .val (.int p6), .val (.long t0), .second, .val (.long t1), .second, .val (.long t2), .second, .val (.long t3), .second, .val (.long y0), .second, .val (.long y2), .second, .val (.long y1), .second, .val (.long y3), .second, .val (.long z1), .second, .val (.long z2), .second, .val (.ref b101), .unset, .unset, .unset, .unset, .unset, .unset] [(.long z1), (.int (1 : Int32)), (.ref b101)])) rfl rfl (hb hby at_114)
      refine Rch.go st103 ?_
      have V103 : Arv Z h103 b101 k101 .long (4 : Int32) [(.long y0), (.long z1), (.long (0 : Int64)), (.long (0 : Int64))] (.long (0 : Int64)) := Arv.set Ar103 q103 S103 M103 H103 G103 rfl W103 1 rfl (Nat.le_of_ble_eq_true rfl)
      have N103 := Fr.snoc X103 N102 ge101
      have K103 := K102.wr W103 (Or.inr gk101)
      show Rch _ _ _ _ (T103.setTop (mkF m 115 #[.val (.long q1), .second, .val (.long bb), .second, .val (.long q3), .second, .val (.long q4), .second, .val (.long q5), .second, .val (.int p6), .val (.long t0), .second, .val (.long t1), .second, .val (.long t2), .second, .val (.long t3), .second, .val (.long y0), .second, .val (.long y2), .second, .val (.long y1), .second, .val (.long y3), .second, .val (.long z1), .second, .val (.long z2), .second, .val (.ref b101), .unset, .unset, .unset, .unset, .unset, .unset] []))
      refine Rch.go (fun zt zk => XS.aload X103.here hx rfl (hb hby at_115) rfl rfl zk) ?_
      show Rch _ _ _ _ (T103.setTop (mkF m 117 #[.val (.long q1), .second, .val (.long bb), .second, .val (.long q3), .second, .val (.long q4), .second, .val (.long q5), .second, .val (.int p6), .val (.long t0), .second, .val (.long t1), .second, .val (.long t2), .second, .val (.long t3), .second, .val (.long y0), .second, .val (.long y2), .second, .val (.long y1), .second, .val (.long y3), .second, .val (.long z1), .second, .val (.long z2), .second, .val (.ref b101), .unset, .unset, .unset, .unset, .unset, .unset] [(.ref b101)]))
      refine Rch.go (fun zt zk => XS.iconst X103.here hx rfl (hb hby at_117) zk) ?_
      show Rch _ _ _ _ (T103.setTop (mkF m 118 #[.val (.long q1), .second, .val (.long bb), .second, .val (.long q3), .second, .val (.long q4), .second, .val (.long q5), .second, .val (.int p6), .val (.long t0), .second, .val (.long t1), .second, .val (.long t2), .second, .val (.long t3), .second, .val (.long y0), .second, .val (.long y2), .second, .val (.long y1), .second, .val (.long y3), .second, .val (.long z1), .second, .val (.long z2), .second, .val (.ref b101), .unset, .unset, .unset, .unset, .unset, .unset] [(.int (2 : Int32)), (.ref b101)]))
      refine Rch.go (fun zt zk => XS.lload X103.here hx rfl (hb hby at_118) rfl zk) ?_
      show Rch _ _ _ _ (T103.setTop (mkF m 120 #[.val (.long q1), .second, .val (.long bb), .second, .val (.long q3), .second, .val (.long q4), .second, .val (.long q5), .second, .val (.int p6), .val (.long t0), .second, .val (.long t1), .second, .val (.long t2), .second, .val (.long t3), .second, .val (.long y0), .second, .val (.long y2), .second, .val (.long y1), .second, .val (.long y3), .second, .val (.long z1), .second, .val (.long z2), .second, .val (.ref b101), .unset, .unset, .unset, .unset, .unset, .unset] [(.long z2), (.int (2 : Int32)), (.ref b101)]))
      obtain ⟨cl104, Ar104, q104, S104, M104, H104, G104⟩ := V103
      obtain ⟨T104, h104, X104, e104, W104, st104⟩ := stJ X103 hx hZ e103 Ar104 (j := (2 : Int32)) (inb_of S104 ⟨by decide, by decide⟩) (g := (mkF m 120 #[.val (.long q1), .second, .val (.long bb), .second, .val (.long q3), .second, .val (.long q4), .second, .val (.long q5), .second, .val (.int p6), .val (.long t0), .second, .val (.long t1), .second, .val (.long t2), .second, .val (.long t3), .second, .val (.long y0), .second, .val (.long y2), .second, .val (.long y1), .second, .val (.long y3), .second, .val (.long z1), .second, .val (.long z2), .second, .val (.ref b101), .unset, .unset, .unset, .unset, .unset, .unset] [(.long z2), (.int (2 : Int32)), (.ref b101)])) rfl rfl (hb hby at_120)
      refine Rch.go st104 ?_
      have V104 : Arv Z h104 b101 k101 .long (4 : Int32) [(.long y0), (.long z1), (.long z2), (.long (0 : Int64))] (.long (0 : Int64)) := Arv.set Ar104 q104 S104 M104 H104 G104 rfl W104 2 rfl (Nat.le_of_ble_eq_true rfl)
      have N104 := Fr.snoc X104 N103 ge101
      have K104 := K103.wr W104 (Or.inr gk101)
      show Rch _ _ _ _ (T104.setTop (mkF m 121 #[.val (.long q1), .second, .val (.long bb), .second, .val (.long q3), .second, .val (.long q4), .second, .val (.long q5), .second, .val (.int p6), .val (.long t0), .second, .val (.long t1), .second, .val (.long t2), .second, .val (.long t3), .second, .val (.long y0), .second, .val (.long y2), .second, .val (.long y1), .second, .val (.long y3), .second, .val (.long z1), .second, .val (.long z2), .second, .val (.ref b101), .unset, .unset, .unset, .unset, .unset, .unset] []))
      refine Rch.go (fun zt zk => XS.aload X104.here hx rfl (hb hby at_121) rfl rfl zk) ?_
      show Rch _ _ _ _ (T104.setTop (mkF m 123 #[.val (.long q1), .second, .val (.long bb), .second, .val (.long q3), .second, .val (.long q4), .second, .val (.long q5), .second, .val (.int p6), .val (.long t0), .second, .val (.long t1), .second, .val (.long t2), .second, .val (.long t3), .second, .val (.long y0), .second, .val (.long y2), .second, .val (.long y1), .second, .val (.long y3), .second, .val (.long z1), .second, .val (.long z2), .second, .val (.ref b101), .unset, .unset, .unset, .unset, .unset, .unset] [(.ref b101)]))
      refine Rch.go (fun zt zk => XS.iconst X104.here hx rfl (hb hby at_123) zk) ?_
      show Rch _ _ _ _ (T104.setTop (mkF m 124 #[.val (.long q1), .second, .val (.long bb), .second, .val (.long q3), .second, .val (.long q4), .second, .val (.long q5), .second, .val (.int p6), .val (.long t0), .second, .val (.long t1), .second, .val (.long t2), .second, .val (.long t3), .second, .val (.long y0), .second, .val (.long y2), .second, .val (.long y1), .second, .val (.long y3), .second, .val (.long z1), .second, .val (.long z2), .second, .val (.ref b101), .unset, .unset, .unset, .unset, .unset, .unset] [(.int (3 : Int32)), (.ref b101)]))
      refine Rch.go (fun zt zk => XS.lload X104.here hx rfl (hb hby at_124) rfl zk) ?_
      show Rch _ _ _ _ (T104.setTop (mkF m 126 #[.val (.long q1), .second, .val (.long bb), .second, .val (.long q3), .second, .val (.long q4), .second, .val (.long q5), .second, .val (.int p6), .val (.long t0), .second, .val (.long t1), .second, .val (.long t2), .second, .val (.long t3), .second, .val (.long y0), .second, .val (.long y2), .second, .val (.long y1), .second, .val (.long y3), .second, .val (.long z1), .second, .val (.long z2), .second, .val (.ref b101), .unset, .unset, .unset, .unset, .unset, .unset] [(.long y3), (.int (3 : Int32)), (.ref b101)]))
      obtain ⟨cl105, Ar105, q105, S105, M105, H105, G105⟩ := V104
      obtain ⟨T105, h105, X105, e105, W105, st105⟩ := stJ X104 hx hZ e104 Ar105 (j := (3 : Int32)) (inb_of S105 ⟨by decide, by decide⟩) (g := (mkF m 126 #[.val (.long q1), .second, .val (.long bb), .second, .val (.long q3), .second, .val (.long q4), .second, .val (.long q5), .second, .val (.int p6), .val (.long t0), .second, .val (.long t1), .second, .val (.long t2), .second, .val (.long t3), .second, .val (.long y0), .second, .val (.long y2), .second, .val (.long y1), .second, .val (.long y3), .second, .val (.long z1), .second, .val (.long z2), .second, .val (.ref b101), .unset, .unset, .unset, .unset, .unset, .unset] [(.long y3), (.int (3 : Int32)), (.ref b101)])) rfl rfl (hb hby at_126)
      refine Rch.go st105 ?_
      have V105 : Arv Z h105 b101 k101 .long (4 : Int32) [(.long y0), (.long z1), (.long z2), (.long y3)] (.long (0 : Int64)) := Arv.set Ar105 q105 S105 M105 H105 G105 rfl W105 3 rfl (Nat.le_of_ble_eq_true rfl)
      have N105 := Fr.snoc X105 N104 ge101
      have K105 := K104.wr W105 (Or.inr gk101)
      show Rch _ _ _ _ (T105.setTop (mkF m 127 #[.val (.long q1), .second, .val (.long bb), .second, .val (.long q3), .second, .val (.long q4), .second, .val (.long q5), .second, .val (.int p6), .val (.long t0), .second, .val (.long t1), .second, .val (.long t2), .second, .val (.long t3), .second, .val (.long y0), .second, .val (.long y2), .second, .val (.long y1), .second, .val (.long y3), .second, .val (.long z1), .second, .val (.long z2), .second, .val (.ref b101), .unset, .unset, .unset, .unset, .unset, .unset] []))
      have j163 : ∀ (fr : Int32) (to : Int32) (mo : Int32), (Rg fr to) → (0 ≤ mo.toInt) → Rch p.tables e below P (T105.setTop (mkF m 163 #[.val (.long q1), .second, .val (.long bb), .second, .val (.long q3), .second, .val (.long q4), .second, .val (.long q5), .second, .val (.int p6), .val (.long t0), .second, .val (.long t1), .second, .val (.long t2), .second, .val (.long t3), .second, .val (.long y0), .second, .val (.long y2), .second, .val (.long y1), .second, .val (.long y3), .second, .val (.long z1), .second, .val (.long z2), .second, .val (.ref b101), .val (.int fr), .val (.int to), .val (.int mo), .unset, .unset, .unset] [])) := by
        intro fr to mo hg hmo
        have j180 : ∀ (tm : Int64), Rch p.tables e below P (T105.setTop (mkF m 180 #[.val (.long q1), .second, .val (.long bb), .second, .val (.long q3), .second, .val (.long q4), .second, .val (.long q5), .second, .val (.int p6), .val (.long t0), .second, .val (.long t1), .second, .val (.long t2), .second, .val (.long t3), .second, .val (.long y0), .second, .val (.long y2), .second, .val (.long y1), .second, .val (.long y3), .second, .val (.long z1), .second, .val (.long z2), .second, .val (.ref b101), .val (.int fr), .val (.int to), .val (.int mo), .val (.long tm), .second, .unset] [])) := by
          intro tm
          refine Rch.go (fun zt zk => XS.aload X105.here hx rfl (hb hby at_180) rfl rfl zk) ?_
          show Rch _ _ _ _ (T105.setTop (mkF m 182 #[.val (.long q1), .second, .val (.long bb), .second, .val (.long q3), .second, .val (.long q4), .second, .val (.long q5), .second, .val (.int p6), .val (.long t0), .second, .val (.long t1), .second, .val (.long t2), .second, .val (.long t3), .second, .val (.long y0), .second, .val (.long y2), .second, .val (.long y1), .second, .val (.long y3), .second, .val (.long z1), .second, .val (.long z2), .second, .val (.ref b101), .val (.int fr), .val (.int to), .val (.int mo), .val (.long tm), .second, .unset] [(.ref b101)]))
          refine Rch.go (fun zt zk => XS.iconst X105.here hx rfl (hb hby at_182) zk) ?_
          show Rch _ _ _ _ (T105.setTop (mkF m 183 #[.val (.long q1), .second, .val (.long bb), .second, .val (.long q3), .second, .val (.long q4), .second, .val (.long q5), .second, .val (.int p6), .val (.long t0), .second, .val (.long t1), .second, .val (.long t2), .second, .val (.long t3), .second, .val (.long y0), .second, .val (.long y2), .second, .val (.long y1), .second, .val (.long y3), .second, .val (.long z1), .second, .val (.long z2), .second, .val (.ref b101), .val (.int fr), .val (.int to), .val (.int mo), .val (.long tm), .second, .unset] [(.int (0 : Int32)), (.ref b101)]))
          refine Rch.go (fun zt zk => XS.iload X105.here hx rfl (hb hby at_183) rfl zk) ?_
          show Rch _ _ _ _ (T105.setTop (mkF m 185 #[.val (.long q1), .second, .val (.long bb), .second, .val (.long q3), .second, .val (.long q4), .second, .val (.long q5), .second, .val (.int p6), .val (.long t0), .second, .val (.long t1), .second, .val (.long t2), .second, .val (.long t3), .second, .val (.long y0), .second, .val (.long y2), .second, .val (.long y1), .second, .val (.long y3), .second, .val (.long z1), .second, .val (.long z2), .second, .val (.ref b101), .val (.int fr), .val (.int to), .val (.int mo), .val (.long tm), .second, .unset] [(.int fr), (.int (0 : Int32)), (.ref b101)]))
          refine Rch.go (fun zt zk => XS.iload X105.here hx rfl (hb hby at_185) rfl zk) ?_
          show Rch _ _ _ _ (T105.setTop (mkF m 187 #[.val (.long q1), .second, .val (.long bb), .second, .val (.long q3), .second, .val (.long q4), .second, .val (.long q5), .second, .val (.int p6), .val (.long t0), .second, .val (.long t1), .second, .val (.long t2), .second, .val (.long t3), .second, .val (.long y0), .second, .val (.long y2), .second, .val (.long y1), .second, .val (.long y3), .second, .val (.long z1), .second, .val (.long z2), .second, .val (.ref b101), .val (.int fr), .val (.int to), .val (.int mo), .val (.long tm), .second, .unset] [(.int to), (.int fr), (.int (0 : Int32)), (.ref b101)]))
          refine Rch.go (fun zt zk => XS.lload X105.here hx rfl (hb hby at_187) rfl zk) ?_
          show Rch _ _ _ _ (T105.setTop (mkF m 189 #[.val (.long q1), .second, .val (.long bb), .second, .val (.long q3), .second, .val (.long q4), .second, .val (.long q5), .second, .val (.int p6), .val (.long t0), .second, .val (.long t1), .second, .val (.long t2), .second, .val (.long t3), .second, .val (.long y0), .second, .val (.long y2), .second, .val (.long y1), .second, .val (.long y3), .second, .val (.long z1), .second, .val (.long z2), .second, .val (.ref b101), .val (.int fr), .val (.int to), .val (.int mo), .val (.long tm), .second, .unset] [(.long tm), (.int to), (.int fr), (.int (0 : Int32)), (.ref b101)]))
          have f107 := (Nat.le_trans (Nat.le_trans (Nat.le_trans (Nat.le_trans (Nat.le_trans Z0 E101.1) (Keep.of_wr W102).1) (Keep.of_wr W103).1) (Keep.of_wr W104).1) (Keep.of_wr W105).1)
          obtain ⟨_, _, ⟨T106, L106, k106, n106⟩, -, X106, ⟨Lc106, hQ106, l106, y106, z106⟩, st106⟩ := Jvm.LawKit.callS X105 hx (y := (⟨"com/example/consistometer/consistometer/analysis/ChunkRunsPlaceAmongPinLaw", "one", "([JIIIJ)I"⟩ : MethodName)) hown (mvT hZ (ow8 hw)) (mvT hZ (ow9 hw)) (mvT hZ (ow10 hw)) (mvT hZ (ow11 hw)) (by decide) (backOf (W := 0) (rmOne0 l Z a0 hw [] (b101) (k101) (y0) (z1) (z2) (y3) (fr) (to) (tm) h105 n0 f107 (V105)) hZ (ow11 hw) (ow10 hw) (by decide) (by decide)) (g := (mkF m 189 #[.val (.long q1), .second, .val (.long bb), .second, .val (.long q3), .second, .val (.long q4), .second, .val (.long q5), .second, .val (.int p6), .val (.long t0), .second, .val (.long t1), .second, .val (.long t2), .second, .val (.long t3), .second, .val (.long y0), .second, .val (.long y2), .second, .val (.long y1), .second, .val (.long y3), .second, .val (.long z1), .second, .val (.long z2), .second, .val (.ref b101), .val (.int fr), .val (.int to), .val (.int mo), .val (.long tm), .second, .unset] [(.long tm), (.int to), (.int fr), (.int (0 : Int32)), (.ref b101)])) rfl (by rw [hml]; rfl) (argsL := [(.ref b101), (.int (0 : Int32)), (.int fr), (.int to), (.long tm)]) (rest := []) (lenOf pd___JIIIJ_I rfl) rfl (by show 2 * 0 + _ ≤ _; exact Nat.le_of_eq rfl) (hb hby at_189) (fun _ _ => ⟨rfl, e105, (by decide : 1 + 0 ≤ _), (by decide : 4 + 0 ≤ _)⟩)
          dsimp only [Pt.U, Pt.locs, Pt.cells, Pt.slots] at X106 l106 y106 z106 st106 hQ106
          subst l106 y106 z106
          obtain ⟨rfl, N106q, eq106⟩ := hQ106
          have N106 := Fr.app N105 N106q
          refine Rch.go st106 ?_
          show Rch _ _ _ _ (T106.setTop (mkF m 192 #[.val (.long q1), .second, .val (.long bb), .second, .val (.long q3), .second, .val (.long q4), .second, .val (.long q5), .second, .val (.int p6), .val (.long t0), .second, .val (.long t1), .second, .val (.long t2), .second, .val (.long t3), .second, .val (.long y0), .second, .val (.long y2), .second, .val (.long y1), .second, .val (.long y3), .second, .val (.long z1), .second, .val (.long z2), .second, .val (.ref b101), .val (.int fr), .val (.int to), .val (.int mo), .val (.long tm), .second, .unset] [(.int (fOne0 y0 fr to tm))]))
          refine Rch.go (fun zt zk => XS.aload X106.here hx rfl (hb hby at_192) rfl rfl zk) ?_
          show Rch _ _ _ _ (T106.setTop (mkF m 194 #[.val (.long q1), .second, .val (.long bb), .second, .val (.long q3), .second, .val (.long q4), .second, .val (.long q5), .second, .val (.int p6), .val (.long t0), .second, .val (.long t1), .second, .val (.long t2), .second, .val (.long t3), .second, .val (.long y0), .second, .val (.long y2), .second, .val (.long y1), .second, .val (.long y3), .second, .val (.long z1), .second, .val (.long z2), .second, .val (.ref b101), .val (.int fr), .val (.int to), .val (.int mo), .val (.long tm), .second, .unset] [(.ref b101), (.int (fOne0 y0 fr to tm))]))
          refine Rch.go (fun zt zk => XS.iconst X106.here hx rfl (hb hby at_194) zk) ?_
          show Rch _ _ _ _ (T106.setTop (mkF m 195 #[.val (.long q1), .second, .val (.long bb), .second, .val (.long q3), .second, .val (.long q4), .second, .val (.long q5), .second, .val (.int p6), .val (.long t0), .second, .val (.long t1), .second, .val (.long t2), .second, .val (.long t3), .second, .val (.long y0), .second, .val (.long y2), .second, .val (.long y1), .second, .val (.long y3), .second, .val (.long z1), .second, .val (.long z2), .second, .val (.ref b101), .val (.int fr), .val (.int to), .val (.int mo), .val (.long tm), .second, .unset] [(.int (1 : Int32)), (.ref b101), (.int (fOne0 y0 fr to tm))]))
          refine Rch.go (fun zt zk => XS.iload X106.here hx rfl (hb hby at_195) rfl zk) ?_
          show Rch _ _ _ _ (T106.setTop (mkF m 197 #[.val (.long q1), .second, .val (.long bb), .second, .val (.long q3), .second, .val (.long q4), .second, .val (.long q5), .second, .val (.int p6), .val (.long t0), .second, .val (.long t1), .second, .val (.long t2), .second, .val (.long t3), .second, .val (.long y0), .second, .val (.long y2), .second, .val (.long y1), .second, .val (.long y3), .second, .val (.long z1), .second, .val (.long z2), .second, .val (.ref b101), .val (.int fr), .val (.int to), .val (.int mo), .val (.long tm), .second, .unset] [(.int fr), (.int (1 : Int32)), (.ref b101), (.int (fOne0 y0 fr to tm))]))
          refine Rch.go (fun zt zk => XS.iload X106.here hx rfl (hb hby at_197) rfl zk) ?_
          show Rch _ _ _ _ (T106.setTop (mkF m 199 #[.val (.long q1), .second, .val (.long bb), .second, .val (.long q3), .second, .val (.long q4), .second, .val (.long q5), .second, .val (.int p6), .val (.long t0), .second, .val (.long t1), .second, .val (.long t2), .second, .val (.long t3), .second, .val (.long y0), .second, .val (.long y2), .second, .val (.long y1), .second, .val (.long y3), .second, .val (.long z1), .second, .val (.long z2), .second, .val (.ref b101), .val (.int fr), .val (.int to), .val (.int mo), .val (.long tm), .second, .unset] [(.int to), (.int fr), (.int (1 : Int32)), (.ref b101), (.int (fOne0 y0 fr to tm))]))
          refine Rch.go (fun zt zk => XS.lload X106.here hx rfl (hb hby at_199) rfl zk) ?_
          show Rch _ _ _ _ (T106.setTop (mkF m 201 #[.val (.long q1), .second, .val (.long bb), .second, .val (.long q3), .second, .val (.long q4), .second, .val (.long q5), .second, .val (.int p6), .val (.long t0), .second, .val (.long t1), .second, .val (.long t2), .second, .val (.long t3), .second, .val (.long y0), .second, .val (.long y2), .second, .val (.long y1), .second, .val (.long y3), .second, .val (.long z1), .second, .val (.long z2), .second, .val (.ref b101), .val (.int fr), .val (.int to), .val (.int mo), .val (.long tm), .second, .unset] [(.long tm), (.int to), (.int fr), (.int (1 : Int32)), (.ref b101), (.int (fOne0 y0 fr to tm))]))
          obtain ⟨_, _, ⟨T108, L108, k108, n108⟩, -, X108, ⟨Lc108, hQ108, l108, y108, z108⟩, st108⟩ := Jvm.LawKit.callS X106 hx (y := (⟨"com/example/consistometer/consistometer/analysis/ChunkRunsPlaceAmongPinLaw", "one", "([JIIIJ)I"⟩ : MethodName)) hown (mvT hZ (ow8 hw)) (mvT hZ (ow9 hw)) (mvT hZ (ow10 hw)) (mvT hZ (ow11 hw)) (by decide) (backOf (W := 1) (rmOne1 l Z a0 hw [] (b101) (k101) (y0) (z1) (z2) (y3) (fr) (to) (tm) h105 n0 f107 (V105)) hZ (ow11 hw) (ow10 hw) (by decide) (by decide)) (g := (mkF m 201 #[.val (.long q1), .second, .val (.long bb), .second, .val (.long q3), .second, .val (.long q4), .second, .val (.long q5), .second, .val (.int p6), .val (.long t0), .second, .val (.long t1), .second, .val (.long t2), .second, .val (.long t3), .second, .val (.long y0), .second, .val (.long y2), .second, .val (.long y1), .second, .val (.long y3), .second, .val (.long z1), .second, .val (.long z2), .second, .val (.ref b101), .val (.int fr), .val (.int to), .val (.int mo), .val (.long tm), .second, .unset] [(.long tm), (.int to), (.int fr), (.int (1 : Int32)), (.ref b101), (.int (fOne0 y0 fr to tm))])) rfl (by rw [hml]; rfl) (argsL := [(.ref b101), (.int (1 : Int32)), (.int fr), (.int to), (.long tm)]) (rest := [(.int (fOne0 y0 fr to tm))]) (lenOf pd___JIIIJ_I rfl) rfl (by show 2 * 0 + _ ≤ _; exact Nat.le_of_eq rfl) (hb hby at_201) (fun _ _ => ⟨rfl, eq106, (by decide : 1 + 0 ≤ _), (by decide : 4 + 0 ≤ _)⟩)
          dsimp only [Pt.U, Pt.locs, Pt.cells, Pt.slots] at X108 l108 y108 z108 st108 hQ108
          subst l108 y108 z108
          obtain ⟨rfl, N108q, eq108⟩ := hQ108
          have N108 := Fr.app N106 N108q
          refine Rch.go st108 ?_
          show Rch _ _ _ _ (T108.setTop (mkF m 204 #[.val (.long q1), .second, .val (.long bb), .second, .val (.long q3), .second, .val (.long q4), .second, .val (.long q5), .second, .val (.int p6), .val (.long t0), .second, .val (.long t1), .second, .val (.long t2), .second, .val (.long t3), .second, .val (.long y0), .second, .val (.long y2), .second, .val (.long y1), .second, .val (.long y3), .second, .val (.long z1), .second, .val (.long z2), .second, .val (.ref b101), .val (.int fr), .val (.int to), .val (.int mo), .val (.long tm), .second, .unset] [(.int (fOne1 z1 fr to tm)), (.int (fOne0 y0 fr to tm))]))
          refine Rch.go (fun zt zk => XS.iadd X108.here hx rfl (hb hby at_204) rfl zk) ?_
          show Rch _ _ _ _ (T108.setTop (mkF m 205 #[.val (.long q1), .second, .val (.long bb), .second, .val (.long q3), .second, .val (.long q4), .second, .val (.long q5), .second, .val (.int p6), .val (.long t0), .second, .val (.long t1), .second, .val (.long t2), .second, .val (.long t3), .second, .val (.long y0), .second, .val (.long y2), .second, .val (.long y1), .second, .val (.long y3), .second, .val (.long z1), .second, .val (.long z2), .second, .val (.ref b101), .val (.int fr), .val (.int to), .val (.int mo), .val (.long tm), .second, .unset] [(.int ((fOne0 y0 fr to tm) + (fOne1 z1 fr to tm)))]))
          refine Rch.go (fun zt zk => XS.aload X108.here hx rfl (hb hby at_205) rfl rfl zk) ?_
          show Rch _ _ _ _ (T108.setTop (mkF m 207 #[.val (.long q1), .second, .val (.long bb), .second, .val (.long q3), .second, .val (.long q4), .second, .val (.long q5), .second, .val (.int p6), .val (.long t0), .second, .val (.long t1), .second, .val (.long t2), .second, .val (.long t3), .second, .val (.long y0), .second, .val (.long y2), .second, .val (.long y1), .second, .val (.long y3), .second, .val (.long z1), .second, .val (.long z2), .second, .val (.ref b101), .val (.int fr), .val (.int to), .val (.int mo), .val (.long tm), .second, .unset] [(.ref b101), (.int ((fOne0 y0 fr to tm) + (fOne1 z1 fr to tm)))]))
          refine Rch.go (fun zt zk => XS.iconst X108.here hx rfl (hb hby at_207) zk) ?_
          show Rch _ _ _ _ (T108.setTop (mkF m 208 #[.val (.long q1), .second, .val (.long bb), .second, .val (.long q3), .second, .val (.long q4), .second, .val (.long q5), .second, .val (.int p6), .val (.long t0), .second, .val (.long t1), .second, .val (.long t2), .second, .val (.long t3), .second, .val (.long y0), .second, .val (.long y2), .second, .val (.long y1), .second, .val (.long y3), .second, .val (.long z1), .second, .val (.long z2), .second, .val (.ref b101), .val (.int fr), .val (.int to), .val (.int mo), .val (.long tm), .second, .unset] [(.int (2 : Int32)), (.ref b101), (.int ((fOne0 y0 fr to tm) + (fOne1 z1 fr to tm)))]))
          refine Rch.go (fun zt zk => XS.iload X108.here hx rfl (hb hby at_208) rfl zk) ?_
          show Rch _ _ _ _ (T108.setTop (mkF m 210 #[.val (.long q1), .second, .val (.long bb), .second, .val (.long q3), .second, .val (.long q4), .second, .val (.long q5), .second, .val (.int p6), .val (.long t0), .second, .val (.long t1), .second, .val (.long t2), .second, .val (.long t3), .second, .val (.long y0), .second, .val (.long y2), .second, .val (.long y1), .second, .val (.long y3), .second, .val (.long z1), .second, .val (.long z2), .second, .val (.ref b101), .val (.int fr), .val (.int to), .val (.int mo), .val (.long tm), .second, .unset] [(.int fr), (.int (2 : Int32)), (.ref b101), (.int ((fOne0 y0 fr to tm) + (fOne1 z1 fr to tm)))]))
          refine Rch.go (fun zt zk => XS.iload X108.here hx rfl (hb hby at_210) rfl zk) ?_
          show Rch _ _ _ _ (T108.setTop (mkF m 212 #[.val (.long q1), .second, .val (.long bb), .second, .val (.long q3), .second, .val (.long q4), .second, .val (.long q5), .second, .val (.int p6), .val (.long t0), .second, .val (.long t1), .second, .val (.long t2), .second, .val (.long t3), .second, .val (.long y0), .second, .val (.long y2), .second, .val (.long y1), .second, .val (.long y3), .second, .val (.long z1), .second, .val (.long z2), .second, .val (.ref b101), .val (.int fr), .val (.int to), .val (.int mo), .val (.long tm), .second, .unset] [(.int to), (.int fr), (.int (2 : Int32)), (.ref b101), (.int ((fOne0 y0 fr to tm) + (fOne1 z1 fr to tm)))]))
          refine Rch.go (fun zt zk => XS.lload X108.here hx rfl (hb hby at_212) rfl zk) ?_
          show Rch _ _ _ _ (T108.setTop (mkF m 214 #[.val (.long q1), .second, .val (.long bb), .second, .val (.long q3), .second, .val (.long q4), .second, .val (.long q5), .second, .val (.int p6), .val (.long t0), .second, .val (.long t1), .second, .val (.long t2), .second, .val (.long t3), .second, .val (.long y0), .second, .val (.long y2), .second, .val (.long y1), .second, .val (.long y3), .second, .val (.long z1), .second, .val (.long z2), .second, .val (.ref b101), .val (.int fr), .val (.int to), .val (.int mo), .val (.long tm), .second, .unset] [(.long tm), (.int to), (.int fr), (.int (2 : Int32)), (.ref b101), (.int ((fOne0 y0 fr to tm) + (fOne1 z1 fr to tm)))]))
          obtain ⟨_, _, ⟨T109, L109, k109, n109⟩, -, X109, ⟨Lc109, hQ109, l109, y109, z109⟩, st109⟩ := Jvm.LawKit.callS X108 hx (y := (⟨"com/example/consistometer/consistometer/analysis/ChunkRunsPlaceAmongPinLaw", "one", "([JIIIJ)I"⟩ : MethodName)) hown (mvT hZ (ow8 hw)) (mvT hZ (ow9 hw)) (mvT hZ (ow10 hw)) (mvT hZ (ow11 hw)) (by decide) (backOf (W := 1) (rmOne2 l Z a0 hw [] (b101) (k101) (y0) (z1) (z2) (y3) (fr) (to) (tm) h105 n0 f107 (V105)) hZ (ow11 hw) (ow10 hw) (by decide) (by decide)) (g := (mkF m 214 #[.val (.long q1), .second, .val (.long bb), .second, .val (.long q3), .second, .val (.long q4), .second, .val (.long q5), .second, .val (.int p6), .val (.long t0), .second, .val (.long t1), .second, .val (.long t2), .second, .val (.long t3), .second, .val (.long y0), .second, .val (.long y2), .second, .val (.long y1), .second, .val (.long y3), .second, .val (.long z1), .second, .val (.long z2), .second, .val (.ref b101), .val (.int fr), .val (.int to), .val (.int mo), .val (.long tm), .second, .unset] [(.long tm), (.int to), (.int fr), (.int (2 : Int32)), (.ref b101), (.int ((fOne0 y0 fr to tm) + (fOne1 z1 fr to tm)))])) rfl (by rw [hml]; rfl) (argsL := [(.ref b101), (.int (2 : Int32)), (.int fr), (.int to), (.long tm)]) (rest := [(.int ((fOne0 y0 fr to tm) + (fOne1 z1 fr to tm)))]) (lenOf pd___JIIIJ_I rfl) rfl (by show 2 * 0 + _ ≤ _; exact Nat.le_of_eq rfl) (hb hby at_214) (fun _ _ => ⟨rfl, eq108, (by decide : 1 + 0 ≤ _), (by decide : 4 + 0 ≤ _)⟩)
          dsimp only [Pt.U, Pt.locs, Pt.cells, Pt.slots] at X109 l109 y109 z109 st109 hQ109
          subst l109 y109 z109
          obtain ⟨rfl, N109q, eq109⟩ := hQ109
          have N109 := Fr.app N108 N109q
          refine Rch.go st109 ?_
          show Rch _ _ _ _ (T109.setTop (mkF m 217 #[.val (.long q1), .second, .val (.long bb), .second, .val (.long q3), .second, .val (.long q4), .second, .val (.long q5), .second, .val (.int p6), .val (.long t0), .second, .val (.long t1), .second, .val (.long t2), .second, .val (.long t3), .second, .val (.long y0), .second, .val (.long y2), .second, .val (.long y1), .second, .val (.long y3), .second, .val (.long z1), .second, .val (.long z2), .second, .val (.ref b101), .val (.int fr), .val (.int to), .val (.int mo), .val (.long tm), .second, .unset] [(.int (fOne2 z2 fr to tm)), (.int ((fOne0 y0 fr to tm) + (fOne1 z1 fr to tm)))]))
          refine Rch.go (fun zt zk => XS.iadd X109.here hx rfl (hb hby at_217) rfl zk) ?_
          show Rch _ _ _ _ (T109.setTop (mkF m 218 #[.val (.long q1), .second, .val (.long bb), .second, .val (.long q3), .second, .val (.long q4), .second, .val (.long q5), .second, .val (.int p6), .val (.long t0), .second, .val (.long t1), .second, .val (.long t2), .second, .val (.long t3), .second, .val (.long y0), .second, .val (.long y2), .second, .val (.long y1), .second, .val (.long y3), .second, .val (.long z1), .second, .val (.long z2), .second, .val (.ref b101), .val (.int fr), .val (.int to), .val (.int mo), .val (.long tm), .second, .unset] [(.int (((fOne0 y0 fr to tm) + (fOne1 z1 fr to tm)) + (fOne2 z2 fr to tm)))]))
          refine Rch.go (fun zt zk => XS.aload X109.here hx rfl (hb hby at_218) rfl rfl zk) ?_
          show Rch _ _ _ _ (T109.setTop (mkF m 220 #[.val (.long q1), .second, .val (.long bb), .second, .val (.long q3), .second, .val (.long q4), .second, .val (.long q5), .second, .val (.int p6), .val (.long t0), .second, .val (.long t1), .second, .val (.long t2), .second, .val (.long t3), .second, .val (.long y0), .second, .val (.long y2), .second, .val (.long y1), .second, .val (.long y3), .second, .val (.long z1), .second, .val (.long z2), .second, .val (.ref b101), .val (.int fr), .val (.int to), .val (.int mo), .val (.long tm), .second, .unset] [(.ref b101), (.int (((fOne0 y0 fr to tm) + (fOne1 z1 fr to tm)) + (fOne2 z2 fr to tm)))]))
          refine Rch.go (fun zt zk => XS.iconst X109.here hx rfl (hb hby at_220) zk) ?_
          show Rch _ _ _ _ (T109.setTop (mkF m 221 #[.val (.long q1), .second, .val (.long bb), .second, .val (.long q3), .second, .val (.long q4), .second, .val (.long q5), .second, .val (.int p6), .val (.long t0), .second, .val (.long t1), .second, .val (.long t2), .second, .val (.long t3), .second, .val (.long y0), .second, .val (.long y2), .second, .val (.long y1), .second, .val (.long y3), .second, .val (.long z1), .second, .val (.long z2), .second, .val (.ref b101), .val (.int fr), .val (.int to), .val (.int mo), .val (.long tm), .second, .unset] [(.int (3 : Int32)), (.ref b101), (.int (((fOne0 y0 fr to tm) + (fOne1 z1 fr to tm)) + (fOne2 z2 fr to tm)))]))
          refine Rch.go (fun zt zk => XS.iload X109.here hx rfl (hb hby at_221) rfl zk) ?_
          show Rch _ _ _ _ (T109.setTop (mkF m 223 #[.val (.long q1), .second, .val (.long bb), .second, .val (.long q3), .second, .val (.long q4), .second, .val (.long q5), .second, .val (.int p6), .val (.long t0), .second, .val (.long t1), .second, .val (.long t2), .second, .val (.long t3), .second, .val (.long y0), .second, .val (.long y2), .second, .val (.long y1), .second, .val (.long y3), .second, .val (.long z1), .second, .val (.long z2), .second, .val (.ref b101), .val (.int fr), .val (.int to), .val (.int mo), .val (.long tm), .second, .unset] [(.int fr), (.int (3 : Int32)), (.ref b101), (.int (((fOne0 y0 fr to tm) + (fOne1 z1 fr to tm)) + (fOne2 z2 fr to tm)))]))
          refine Rch.go (fun zt zk => XS.iload X109.here hx rfl (hb hby at_223) rfl zk) ?_
          show Rch _ _ _ _ (T109.setTop (mkF m 225 #[.val (.long q1), .second, .val (.long bb), .second, .val (.long q3), .second, .val (.long q4), .second, .val (.long q5), .second, .val (.int p6), .val (.long t0), .second, .val (.long t1), .second, .val (.long t2), .second, .val (.long t3), .second, .val (.long y0), .second, .val (.long y2), .second, .val (.long y1), .second, .val (.long y3), .second, .val (.long z1), .second, .val (.long z2), .second, .val (.ref b101), .val (.int fr), .val (.int to), .val (.int mo), .val (.long tm), .second, .unset] [(.int to), (.int fr), (.int (3 : Int32)), (.ref b101), (.int (((fOne0 y0 fr to tm) + (fOne1 z1 fr to tm)) + (fOne2 z2 fr to tm)))]))
          refine Rch.go (fun zt zk => XS.lload X109.here hx rfl (hb hby at_225) rfl zk) ?_
          show Rch _ _ _ _ (T109.setTop (mkF m 227 #[.val (.long q1), .second, .val (.long bb), .second, .val (.long q3), .second, .val (.long q4), .second, .val (.long q5), .second, .val (.int p6), .val (.long t0), .second, .val (.long t1), .second, .val (.long t2), .second, .val (.long t3), .second, .val (.long y0), .second, .val (.long y2), .second, .val (.long y1), .second, .val (.long y3), .second, .val (.long z1), .second, .val (.long z2), .second, .val (.ref b101), .val (.int fr), .val (.int to), .val (.int mo), .val (.long tm), .second, .unset] [(.long tm), (.int to), (.int fr), (.int (3 : Int32)), (.ref b101), (.int (((fOne0 y0 fr to tm) + (fOne1 z1 fr to tm)) + (fOne2 z2 fr to tm)))]))
          obtain ⟨_, _, ⟨T110, L110, k110, n110⟩, -, X110, ⟨Lc110, hQ110, l110, y110, z110⟩, st110⟩ := Jvm.LawKit.callS X109 hx (y := (⟨"com/example/consistometer/consistometer/analysis/ChunkRunsPlaceAmongPinLaw", "one", "([JIIIJ)I"⟩ : MethodName)) hown (mvT hZ (ow8 hw)) (mvT hZ (ow9 hw)) (mvT hZ (ow10 hw)) (mvT hZ (ow11 hw)) (by decide) (backOf (W := 1) (rmOne3 l Z a0 hw [] (b101) (k101) (y0) (z1) (z2) (y3) (fr) (to) (tm) h105 n0 f107 (V105)) hZ (ow11 hw) (ow10 hw) (by decide) (by decide)) (g := (mkF m 227 #[.val (.long q1), .second, .val (.long bb), .second, .val (.long q3), .second, .val (.long q4), .second, .val (.long q5), .second, .val (.int p6), .val (.long t0), .second, .val (.long t1), .second, .val (.long t2), .second, .val (.long t3), .second, .val (.long y0), .second, .val (.long y2), .second, .val (.long y1), .second, .val (.long y3), .second, .val (.long z1), .second, .val (.long z2), .second, .val (.ref b101), .val (.int fr), .val (.int to), .val (.int mo), .val (.long tm), .second, .unset] [(.long tm), (.int to), (.int fr), (.int (3 : Int32)), (.ref b101), (.int (((fOne0 y0 fr to tm) + (fOne1 z1 fr to tm)) + (fOne2 z2 fr to tm)))])) rfl (by rw [hml]; rfl) (argsL := [(.ref b101), (.int (3 : Int32)), (.int fr), (.int to), (.long tm)]) (rest := [(.int (((fOne0 y0 fr to tm) + (fOne1 z1 fr to tm)) + (fOne2 z2 fr to tm)))]) (lenOf pd___JIIIJ_I rfl) rfl (by show 2 * 0 + _ ≤ _; exact Nat.le_of_eq rfl) (hb hby at_227) (fun _ _ => ⟨rfl, eq109, (by decide : 1 + 0 ≤ _), (by decide : 4 + 0 ≤ _)⟩)
          dsimp only [Pt.U, Pt.locs, Pt.cells, Pt.slots] at X110 l110 y110 z110 st110 hQ110
          subst l110 y110 z110
          obtain ⟨rfl, N110q, eq110⟩ := hQ110
          have N110 := Fr.app N109 N110q
          refine Rch.go st110 ?_
          show Rch _ _ _ _ (T110.setTop (mkF m 230 #[.val (.long q1), .second, .val (.long bb), .second, .val (.long q3), .second, .val (.long q4), .second, .val (.long q5), .second, .val (.int p6), .val (.long t0), .second, .val (.long t1), .second, .val (.long t2), .second, .val (.long t3), .second, .val (.long y0), .second, .val (.long y2), .second, .val (.long y1), .second, .val (.long y3), .second, .val (.long z1), .second, .val (.long z2), .second, .val (.ref b101), .val (.int fr), .val (.int to), .val (.int mo), .val (.long tm), .second, .unset] [(.int (fOne3 y3 fr to tm)), (.int (((fOne0 y0 fr to tm) + (fOne1 z1 fr to tm)) + (fOne2 z2 fr to tm)))]))
          refine Rch.go (fun zt zk => XS.iadd X110.here hx rfl (hb hby at_230) rfl zk) ?_
          show Rch _ _ _ _ (T110.setTop (mkF m 231 #[.val (.long q1), .second, .val (.long bb), .second, .val (.long q3), .second, .val (.long q4), .second, .val (.long q5), .second, .val (.int p6), .val (.long t0), .second, .val (.long t1), .second, .val (.long t2), .second, .val (.long t3), .second, .val (.long y0), .second, .val (.long y2), .second, .val (.long y1), .second, .val (.long y3), .second, .val (.long z1), .second, .val (.long z2), .second, .val (.ref b101), .val (.int fr), .val (.int to), .val (.int mo), .val (.long tm), .second, .unset] [(.int ((((fOne0 y0 fr to tm) + (fOne1 z1 fr to tm)) + (fOne2 z2 fr to tm)) + (fOne3 y3 fr to tm)))]))
          refine Rch.go (fun zt zk => XS.istore X110.here hx rfl (hb hby at_231) rfl (l' := #[.val (.long q1), .second, .val (.long bb), .second, .val (.long q3), .second, .val (.long q4), .second, .val (.long q5), .second, .val (.int p6), .val (.long t0), .second, .val (.long t1), .second, .val (.long t2), .second, .val (.long t3), .second, .val (.long y0), .second, .val (.long y2), .second, .val (.long y1), .second, .val (.long y3), .second, .val (.long z1), .second, .val (.long z2), .second, .val (.ref b101), .val (.int fr), .val (.int to), .val (.int mo), .val (.long tm), .second, .val (.int ((((fOne0 y0 fr to tm) + (fOne1 z1 fr to tm)) + (fOne2 z2 fr to tm)) + (fOne3 y3 fr to tm)))]) rfl zk) ?_
          show Rch _ _ _ _ (T110.setTop (mkF m 233 #[.val (.long q1), .second, .val (.long bb), .second, .val (.long q3), .second, .val (.long q4), .second, .val (.long q5), .second, .val (.int p6), .val (.long t0), .second, .val (.long t1), .second, .val (.long t2), .second, .val (.long t3), .second, .val (.long y0), .second, .val (.long y2), .second, .val (.long y1), .second, .val (.long y3), .second, .val (.long z1), .second, .val (.long z2), .second, .val (.ref b101), .val (.int fr), .val (.int to), .val (.int mo), .val (.long tm), .second, .val (.int ((((fOne0 y0 fr to tm) + (fOne1 z1 fr to tm)) + (fOne2 z2 fr to tm)) + (fOne3 y3 fr to tm)))] []))
          refine Rch.go (fun zt zk => XS.aload X110.here hx rfl (hb hby at_233) rfl rfl zk) ?_
          show Rch _ _ _ _ (T110.setTop (mkF m 235 #[.val (.long q1), .second, .val (.long bb), .second, .val (.long q3), .second, .val (.long q4), .second, .val (.long q5), .second, .val (.int p6), .val (.long t0), .second, .val (.long t1), .second, .val (.long t2), .second, .val (.long t3), .second, .val (.long y0), .second, .val (.long y2), .second, .val (.long y1), .second, .val (.long y3), .second, .val (.long z1), .second, .val (.long z2), .second, .val (.ref b101), .val (.int fr), .val (.int to), .val (.int mo), .val (.long tm), .second, .val (.int ((((fOne0 y0 fr to tm) + (fOne1 z1 fr to tm)) + (fOne2 z2 fr to tm)) + (fOne3 y3 fr to tm)))] [(.ref b101)]))
          refine Rch.go (fun zt zk => XS.iload X110.here hx rfl (hb hby at_235) rfl zk) ?_
          show Rch _ _ _ _ (T110.setTop (mkF m 237 #[.val (.long q1), .second, .val (.long bb), .second, .val (.long q3), .second, .val (.long q4), .second, .val (.long q5), .second, .val (.int p6), .val (.long t0), .second, .val (.long t1), .second, .val (.long t2), .second, .val (.long t3), .second, .val (.long y0), .second, .val (.long y2), .second, .val (.long y1), .second, .val (.long y3), .second, .val (.long z1), .second, .val (.long z2), .second, .val (.ref b101), .val (.int fr), .val (.int to), .val (.int mo), .val (.long tm), .second, .val (.int ((((fOne0 y0 fr to tm) + (fOne1 z1 fr to tm)) + (fOne2 z2 fr to tm)) + (fOne3 y3 fr to tm)))] [(.int fr), (.ref b101)]))
          refine Rch.go (fun zt zk => XS.iload X110.here hx rfl (hb hby at_237) rfl zk) ?_
          show Rch _ _ _ _ (T110.setTop (mkF m 239 #[.val (.long q1), .second, .val (.long bb), .second, .val (.long q3), .second, .val (.long q4), .second, .val (.long q5), .second, .val (.int p6), .val (.long t0), .second, .val (.long t1), .second, .val (.long t2), .second, .val (.long t3), .second, .val (.long y0), .second, .val (.long y2), .second, .val (.long y1), .second, .val (.long y3), .second, .val (.long z1), .second, .val (.long z2), .second, .val (.ref b101), .val (.int fr), .val (.int to), .val (.int mo), .val (.long tm), .second, .val (.int ((((fOne0 y0 fr to tm) + (fOne1 z1 fr to tm)) + (fOne2 z2 fr to tm)) + (fOne3 y3 fr to tm)))] [(.int to), (.int fr), (.ref b101)]))
          refine Rch.go (fun zt zk => XS.lload X110.here hx rfl (hb hby at_239) rfl zk) ?_
          show Rch _ _ _ _ (T110.setTop (mkF m 241 #[.val (.long q1), .second, .val (.long bb), .second, .val (.long q3), .second, .val (.long q4), .second, .val (.long q5), .second, .val (.int p6), .val (.long t0), .second, .val (.long t1), .second, .val (.long t2), .second, .val (.long t3), .second, .val (.long y0), .second, .val (.long y2), .second, .val (.long y1), .second, .val (.long y3), .second, .val (.long z1), .second, .val (.long z2), .second, .val (.ref b101), .val (.int fr), .val (.int to), .val (.int mo), .val (.long tm), .second, .val (.int ((((fOne0 y0 fr to tm) + (fOne1 z1 fr to tm)) + (fOne2 z2 fr to tm)) + (fOne3 y3 fr to tm)))] [(.long tm), (.int to), (.int fr), (.ref b101)]))
          obtain ⟨_, _, ⟨T111, L111, k111, n111⟩, -, X111, ⟨Lc111, hQ111, l111, y111, z111⟩, st111⟩ := Jvm.LawKit.callS X110 hx (y := (⟨"com/example/consistometer/consistometer/analysis/ChunkRuns", "placeAmong", "([JIIJ)I"⟩ : MethodName)) hown (mvT hZ (ow12 hw)) (mvT hZ (ow13 hw)) (mvT hZ (ow14 hw)) (mvT hZ (ow15 hw)) (by decide) (backOf (W := 0) (rm4 l Z a0 hw [] b101 k101 y0 z1 z2 y3 fr to tm h105 n0 f107 V105 hs hg) hZ (ow15 hw) (ow14 hw) (by decide) (by decide)) (g := (mkF m 241 #[.val (.long q1), .second, .val (.long bb), .second, .val (.long q3), .second, .val (.long q4), .second, .val (.long q5), .second, .val (.int p6), .val (.long t0), .second, .val (.long t1), .second, .val (.long t2), .second, .val (.long t3), .second, .val (.long y0), .second, .val (.long y2), .second, .val (.long y1), .second, .val (.long y3), .second, .val (.long z1), .second, .val (.long z2), .second, .val (.ref b101), .val (.int fr), .val (.int to), .val (.int mo), .val (.long tm), .second, .val (.int ((((fOne0 y0 fr to tm) + (fOne1 z1 fr to tm)) + (fOne2 z2 fr to tm)) + (fOne3 y3 fr to tm)))] [(.long tm), (.int to), (.int fr), (.ref b101)])) rfl (by rw [hml]; rfl) (argsL := [(.ref b101), (.int fr), (.int to), (.long tm)]) (rest := []) (lenOf pd___JIIJ_I rfl) rfl (by show 2 * 0 + _ ≤ _; exact Nat.le_of_eq rfl) (hb hby at_241) (fun _ _ => ⟨rfl, eq110, (by decide : 1 + 0 ≤ _), (by decide : 4 + 0 ≤ _)⟩)
          dsimp only [Pt.U, Pt.locs, Pt.cells, Pt.slots] at X111 l111 y111 z111 st111 hQ111
          subst l111 y111 z111
          obtain ⟨⟨r111, rfl, hr111⟩, N111q, eq111⟩ := hQ111
          have N111 := Fr.app N110 N111q
          refine Rch.go st111 ?_
          show Rch _ _ _ _ (T111.setTop (mkF m 244 #[.val (.long q1), .second, .val (.long bb), .second, .val (.long q3), .second, .val (.long q4), .second, .val (.long q5), .second, .val (.int p6), .val (.long t0), .second, .val (.long t1), .second, .val (.long t2), .second, .val (.long t3), .second, .val (.long y0), .second, .val (.long y2), .second, .val (.long y1), .second, .val (.long y3), .second, .val (.long z1), .second, .val (.long z2), .second, .val (.ref b101), .val (.int fr), .val (.int to), .val (.int mo), .val (.long tm), .second, .val (.int ((((fOne0 y0 fr to tm) + (fOne1 z1 fr to tm)) + (fOne2 z2 fr to tm)) + (fOne3 y3 fr to tm)))] [(.int r111)]))
          refine Rch.go (fun zt zk => XS.iload X111.here hx rfl (hb hby at_244) rfl zk) ?_
          show Rch _ _ _ _ (T111.setTop (mkF m 246 #[.val (.long q1), .second, .val (.long bb), .second, .val (.long q3), .second, .val (.long q4), .second, .val (.long q5), .second, .val (.int p6), .val (.long t0), .second, .val (.long t1), .second, .val (.long t2), .second, .val (.long t3), .second, .val (.long y0), .second, .val (.long y2), .second, .val (.long y1), .second, .val (.long y3), .second, .val (.long z1), .second, .val (.long z2), .second, .val (.ref b101), .val (.int fr), .val (.int to), .val (.int mo), .val (.long tm), .second, .val (.int ((((fOne0 y0 fr to tm) + (fOne1 z1 fr to tm)) + (fOne2 z2 fr to tm)) + (fOne3 y3 fr to tm)))] [(.int ((((fOne0 y0 fr to tm) + (fOne1 z1 fr to tm)) + (fOne2 z2 fr to tm)) + (fOne3 y3 fr to tm))), (.int r111)]))
          refine Rch.go (fun zt zk => XS.icmpNo X111.here hx rfl (hb hby at_246) rfl (teq (own_final hg hr111 : r111 = ((((fOne0 y0 fr to tm) + (fOne1 z1 fr to tm)) + (fOne2 z2 fr to tm)) + (fOne3 y3 fr to tm)))).2 zk) ?_
          show Rch _ _ _ _ (T111.setTop (mkF m 249 #[.val (.long q1), .second, .val (.long bb), .second, .val (.long q3), .second, .val (.long q4), .second, .val (.long q5), .second, .val (.int p6), .val (.long t0), .second, .val (.long t1), .second, .val (.long t2), .second, .val (.long t3), .second, .val (.long y0), .second, .val (.long y2), .second, .val (.long y1), .second, .val (.long y3), .second, .val (.long z1), .second, .val (.long z2), .second, .val (.ref b101), .val (.int fr), .val (.int to), .val (.int mo), .val (.long tm), .second, .val (.int ((((fOne0 y0 fr to tm) + (fOne1 z1 fr to tm)) + (fOne2 z2 fr to tm)) + (fOne3 y3 fr to tm)))] []))
          refine Rch.go (fun zt zk => XS.iconst X111.here hx rfl (hb hby at_249) zk) ?_
          show Rch _ _ _ _ (T111.setTop (mkF m 250 #[.val (.long q1), .second, .val (.long bb), .second, .val (.long q3), .second, .val (.long q4), .second, .val (.long q5), .second, .val (.int p6), .val (.long t0), .second, .val (.long t1), .second, .val (.long t2), .second, .val (.long t3), .second, .val (.long y0), .second, .val (.long y2), .second, .val (.long y1), .second, .val (.long y3), .second, .val (.long z1), .second, .val (.long z2), .second, .val (.ref b101), .val (.int fr), .val (.int to), .val (.int mo), .val (.long tm), .second, .val (.int ((((fOne0 y0 fr to tm) + (fOne1 z1 fr to tm)) + (fOne2 z2 fr to tm)) + (fOne3 y3 fr to tm)))] [(.int (1 : Int32))]))
          refine Rch.go (fun zt zk => XS.goto X111.here hx rfl (pc0 := 250) (pc' := 254) rfl (hb hby at_250) (by decide) (by decide) zk) ?_
          show Rch _ _ _ _ (T111.setTop (mkF m 254 #[.val (.long q1), .second, .val (.long bb), .second, .val (.long q3), .second, .val (.long q4), .second, .val (.long q5), .second, .val (.int p6), .val (.long t0), .second, .val (.long t1), .second, .val (.long t2), .second, .val (.long t3), .second, .val (.long y0), .second, .val (.long y2), .second, .val (.long y1), .second, .val (.long y3), .second, .val (.long z1), .second, .val (.long z2), .second, .val (.ref b101), .val (.int fr), .val (.int to), .val (.int mo), .val (.long tm), .second, .val (.int ((((fOne0 y0 fr to tm) + (fOne1 z1 fr to tm)) + (fOne2 z2 fr to tm)) + (fOne3 y3 fr to tm)))] [(.int (1 : Int32))]))
          obtain ⟨fs, hr, hrun, hended, hW, hsame⟩ := X111.leave (v := some (.int (1 : Int32))) (fun h => by rw [Bd.returns] at h; cases h)
          refine Rch.mk (retN X111 hx (t := .boolean) Bd.returns (by simp) (hb hby at_254) hr) (hPd _ _ _ _ hrun hended rfl ?_ ⟨⟨_, rfl⟩, hW, hsame.mono (by decide) (by decide)⟩)
          show Q_rm0 Z q1 q2 q3 q4 q5 p6 h0 n0 _ T111.heap _
          exact ⟨rfl, N111⟩
        refine Rch.go (fun zt zk => XS.lload X105.here hx rfl (hb hby at_163) rfl zk) ?_
        show Rch _ _ _ _ (T105.setTop (mkF m 165 #[.val (.long q1), .second, .val (.long bb), .second, .val (.long q3), .second, .val (.long q4), .second, .val (.long q5), .second, .val (.int p6), .val (.long t0), .second, .val (.long t1), .second, .val (.long t2), .second, .val (.long t3), .second, .val (.long y0), .second, .val (.long y2), .second, .val (.long y1), .second, .val (.long y3), .second, .val (.long z1), .second, .val (.long z2), .second, .val (.ref b101), .val (.int fr), .val (.int to), .val (.int mo), .unset, .unset, .unset] [(.long q5)]))
        refine Rch.go (fun zt zk => XS.lstore X105.here hx rfl (hb hby at_165) rfl (l' := #[.val (.long q1), .second, .val (.long bb), .second, .val (.long q3), .second, .val (.long q4), .second, .val (.long q5), .second, .val (.int p6), .val (.long t0), .second, .val (.long t1), .second, .val (.long t2), .second, .val (.long t3), .second, .val (.long y0), .second, .val (.long y2), .second, .val (.long y1), .second, .val (.long y3), .second, .val (.long z1), .second, .val (.long z2), .second, .val (.ref b101), .val (.int fr), .val (.int to), .val (.int mo), .val (.long q5), .second, .unset]) rfl zk) ?_
        show Rch _ _ _ _ (T105.setTop (mkF m 167 #[.val (.long q1), .second, .val (.long bb), .second, .val (.long q3), .second, .val (.long q4), .second, .val (.long q5), .second, .val (.int p6), .val (.long t0), .second, .val (.long t1), .second, .val (.long t2), .second, .val (.long t3), .second, .val (.long y0), .second, .val (.long y2), .second, .val (.long y1), .second, .val (.long y3), .second, .val (.long z1), .second, .val (.long z2), .second, .val (.ref b101), .val (.int fr), .val (.int to), .val (.int mo), .val (.long q5), .second, .unset] []))
        refine Rch.go (fun zt zk => XS.iload X105.here hx rfl (hb hby at_167) rfl zk) ?_
        show Rch _ _ _ _ (T105.setTop (mkF m 169 #[.val (.long q1), .second, .val (.long bb), .second, .val (.long q3), .second, .val (.long q4), .second, .val (.long q5), .second, .val (.int p6), .val (.long t0), .second, .val (.long t1), .second, .val (.long t2), .second, .val (.long t3), .second, .val (.long y0), .second, .val (.long y2), .second, .val (.long y1), .second, .val (.long y3), .second, .val (.long z1), .second, .val (.long z2), .second, .val (.ref b101), .val (.int fr), .val (.int to), .val (.int mo), .val (.long q5), .second, .unset] [(.int mo)]))
        refine Rch.go (fun zt zk => XS.iconst X105.here hx rfl (hb hby at_169) zk) ?_
        show Rch _ _ _ _ (T105.setTop (mkF m 170 #[.val (.long q1), .second, .val (.long bb), .second, .val (.long q3), .second, .val (.long q4), .second, .val (.long q5), .second, .val (.int p6), .val (.long t0), .second, .val (.long t1), .second, .val (.long t2), .second, .val (.long t3), .second, .val (.long y0), .second, .val (.long y2), .second, .val (.long y1), .second, .val (.long y3), .second, .val (.long z1), .second, .val (.long z2), .second, .val (.ref b101), .val (.int fr), .val (.int to), .val (.int mo), .val (.long q5), .second, .unset] [(.int (4 : Int32)), (.int mo)]))
        by_cases hc170_112 : mo < (4 : Int32)
        · skip
          refine Rch.go (fun zt zk => XS.icmpNo X105.here hx rfl (hb hby at_170) rfl (tlt hc170_112).2.1 zk) ?_
          show Rch _ _ _ _ (T105.setTop (mkF m 173 #[.val (.long q1), .second, .val (.long bb), .second, .val (.long q3), .second, .val (.long q4), .second, .val (.long q5), .second, .val (.int p6), .val (.long t0), .second, .val (.long t1), .second, .val (.long t2), .second, .val (.long t3), .second, .val (.long y0), .second, .val (.long y2), .second, .val (.long y1), .second, .val (.long y3), .second, .val (.long z1), .second, .val (.long z2), .second, .val (.ref b101), .val (.int fr), .val (.int to), .val (.int mo), .val (.long q5), .second, .unset] []))
          have hm4 : mo.toInt < 4 := by have q := hc170_112; rw [Int32.lt_iff_toInt_lt] at q; exact q
          refine Rch.go (fun zt zk => XS.aload X105.here hx rfl (hb hby at_173) rfl rfl zk) ?_
          show Rch _ _ _ _ (T105.setTop (mkF m 175 #[.val (.long q1), .second, .val (.long bb), .second, .val (.long q3), .second, .val (.long q4), .second, .val (.long q5), .second, .val (.int p6), .val (.long t0), .second, .val (.long t1), .second, .val (.long t2), .second, .val (.long t3), .second, .val (.long y0), .second, .val (.long y2), .second, .val (.long y1), .second, .val (.long y3), .second, .val (.long z1), .second, .val (.long z2), .second, .val (.ref b101), .val (.int fr), .val (.int to), .val (.int mo), .val (.long q5), .second, .unset] [(.ref b101)]))
          refine Rch.go (fun zt zk => XS.iload X105.here hx rfl (hb hby at_175) rfl zk) ?_
          show Rch _ _ _ _ (T105.setTop (mkF m 177 #[.val (.long q1), .second, .val (.long bb), .second, .val (.long q3), .second, .val (.long q4), .second, .val (.long q5), .second, .val (.int p6), .val (.long t0), .second, .val (.long t1), .second, .val (.long t2), .second, .val (.long t3), .second, .val (.long y0), .second, .val (.long y2), .second, .val (.long y1), .second, .val (.long y3), .second, .val (.long z1), .second, .val (.long z2), .second, .val (.ref b101), .val (.int fr), .val (.int to), .val (.int mo), .val (.long q5), .second, .unset] [(.int mo), (.ref b101)]))
          obtain ⟨cl113, Ar113, q113, S113, M113, H113, G113⟩ := V105
          have hin113 := inb_of (j := mo) S113 (own_inb hmo hm4)
          refine Rch.go (X105.laload hx (j := mo) (v := (.long (xAt y0 z1 z2 y3 mo.toInt))) (by rw [e105]; exact Ar113.1) (State.isArrayOf_alike hZ.alike Ar113.2.1) Ar113.2.2 hin113 (Has.at H113 hin113 (own_get hmo hm4)) (g := (mkF m 177 #[.val (.long q1), .second, .val (.long bb), .second, .val (.long q3), .second, .val (.long q4), .second, .val (.long q5), .second, .val (.int p6), .val (.long t0), .second, .val (.long t1), .second, .val (.long t2), .second, .val (.long t3), .second, .val (.long y0), .second, .val (.long y2), .second, .val (.long y1), .second, .val (.long y3), .second, .val (.long z1), .second, .val (.long z2), .second, .val (.ref b101), .val (.int fr), .val (.int to), .val (.int mo), .val (.long q5), .second, .unset] [(.int mo), (.ref b101)])) rfl rfl (hb hby at_177)) ?_
          show Rch _ _ _ _ (T105.setTop (mkF m 178 #[.val (.long q1), .second, .val (.long bb), .second, .val (.long q3), .second, .val (.long q4), .second, .val (.long q5), .second, .val (.int p6), .val (.long t0), .second, .val (.long t1), .second, .val (.long t2), .second, .val (.long t3), .second, .val (.long y0), .second, .val (.long y2), .second, .val (.long y1), .second, .val (.long y3), .second, .val (.long z1), .second, .val (.long z2), .second, .val (.ref b101), .val (.int fr), .val (.int to), .val (.int mo), .val (.long q5), .second, .unset] [(.long (xAt y0 z1 z2 y3 mo.toInt))]))
          refine Rch.go (fun zt zk => XS.lstore X105.here hx rfl (hb hby at_178) rfl (l' := #[.val (.long q1), .second, .val (.long bb), .second, .val (.long q3), .second, .val (.long q4), .second, .val (.long q5), .second, .val (.int p6), .val (.long t0), .second, .val (.long t1), .second, .val (.long t2), .second, .val (.long t3), .second, .val (.long y0), .second, .val (.long y2), .second, .val (.long y1), .second, .val (.long y3), .second, .val (.long z1), .second, .val (.long z2), .second, .val (.ref b101), .val (.int fr), .val (.int to), .val (.int mo), .val (.long (xAt y0 z1 z2 y3 mo.toInt)), .second, .unset]) rfl zk) ?_
          show Rch _ _ _ _ (T105.setTop (mkF m 180 #[.val (.long q1), .second, .val (.long bb), .second, .val (.long q3), .second, .val (.long q4), .second, .val (.long q5), .second, .val (.int p6), .val (.long t0), .second, .val (.long t1), .second, .val (.long t2), .second, .val (.long t3), .second, .val (.long y0), .second, .val (.long y2), .second, .val (.long y1), .second, .val (.long y3), .second, .val (.long z1), .second, .val (.long z2), .second, .val (.ref b101), .val (.int fr), .val (.int to), .val (.int mo), .val (.long (xAt y0 z1 z2 y3 mo.toInt)), .second, .unset] []))
          exact j180 _ 
        · skip
          refine Rch.go (fun zt zk => XS.icmpYes X105.here hx rfl (pc0 := 170) (pc' := 180) rfl (hb hby at_170) rfl (flt hc170_112).2.1 (by decide) (by decide) zk) ?_
          show Rch _ _ _ _ (T105.setTop (mkF m 180 #[.val (.long q1), .second, .val (.long bb), .second, .val (.long q3), .second, .val (.long q4), .second, .val (.long q5), .second, .val (.int p6), .val (.long t0), .second, .val (.long t1), .second, .val (.long t2), .second, .val (.long t3), .second, .val (.long y0), .second, .val (.long y2), .second, .val (.long y1), .second, .val (.long y3), .second, .val (.long z1), .second, .val (.long z2), .second, .val (.ref b101), .val (.int fr), .val (.int to), .val (.int mo), .val (.long q5), .second, .unset] []))
          exact j180 _ 
      refine Rch.go (fun zt zk => XS.iload X105.here hx rfl (hb hby at_127) rfl zk) ?_
      show Rch _ _ _ _ (T105.setTop (mkF m 129 #[.val (.long q1), .second, .val (.long bb), .second, .val (.long q3), .second, .val (.long q4), .second, .val (.long q5), .second, .val (.int p6), .val (.long t0), .second, .val (.long t1), .second, .val (.long t2), .second, .val (.long t3), .second, .val (.long y0), .second, .val (.long y2), .second, .val (.long y1), .second, .val (.long y3), .second, .val (.long z1), .second, .val (.long z2), .second, .val (.ref b101), .unset, .unset, .unset, .unset, .unset, .unset] [(.int p6)]))
      refine Rch.go (fun zt zk => XS.bipush X105.here hx rfl (hb hby at_129) zk) ?_
      show Rch _ _ _ _ (T105.setTop (mkF m 131 #[.val (.long q1), .second, .val (.long bb), .second, .val (.long q3), .second, .val (.long q4), .second, .val (.long q5), .second, .val (.int p6), .val (.long t0), .second, .val (.long t1), .second, .val (.long t2), .second, .val (.long t3), .second, .val (.long y0), .second, .val (.long y2), .second, .val (.long y1), .second, .val (.long y3), .second, .val (.long z1), .second, .val (.long z2), .second, .val (.ref b101), .unset, .unset, .unset, .unset, .unset, .unset] [(.int (7 : Int32)), (.int p6)]))
      refine Rch.go (fun zt zk => XS.iand X105.here hx rfl (hb hby at_131) rfl zk) ?_
      show Rch _ _ _ _ (T105.setTop (mkF m 132 #[.val (.long q1), .second, .val (.long bb), .second, .val (.long q3), .second, .val (.long q4), .second, .val (.long q5), .second, .val (.int p6), .val (.long t0), .second, .val (.long t1), .second, .val (.long t2), .second, .val (.long t3), .second, .val (.long y0), .second, .val (.long y2), .second, .val (.long y1), .second, .val (.long y3), .second, .val (.long z1), .second, .val (.long z2), .second, .val (.ref b101), .unset, .unset, .unset, .unset, .unset, .unset] [(.int (p6 &&& (7 : Int32)))]))
      refine Rch.go (fun zt zk => XS.iconst X105.here hx rfl (hb hby at_132) zk) ?_
      show Rch _ _ _ _ (T105.setTop (mkF m 133 #[.val (.long q1), .second, .val (.long bb), .second, .val (.long q3), .second, .val (.long q4), .second, .val (.long q5), .second, .val (.int p6), .val (.long t0), .second, .val (.long t1), .second, .val (.long t2), .second, .val (.long t3), .second, .val (.long y0), .second, .val (.long y2), .second, .val (.long y1), .second, .val (.long y3), .second, .val (.long z1), .second, .val (.long z2), .second, .val (.ref b101), .unset, .unset, .unset, .unset, .unset, .unset] [(.int (5 : Int32)), (.int (p6 &&& (7 : Int32)))]))
      refine Rch.go (fun zt zk => iremM X105 hx rfl (hb hby at_133) rfl (by decide : ¬ ((5 : Int32) = (0 : Int32))) zk) ?_
      show Rch _ _ _ _ (T105.setTop (mkF m 134 #[.val (.long q1), .second, .val (.long bb), .second, .val (.long q3), .second, .val (.long q4), .second, .val (.long q5), .second, .val (.int p6), .val (.long t0), .second, .val (.long t1), .second, .val (.long t2), .second, .val (.long t3), .second, .val (.long y0), .second, .val (.long y2), .second, .val (.long y1), .second, .val (.long y3), .second, .val (.long z1), .second, .val (.long z2), .second, .val (.ref b101), .unset, .unset, .unset, .unset, .unset, .unset] [(.int ((p6 &&& (7 : Int32)) % (5 : Int32)))]))
      refine Rch.go (fun zt zk => XS.istore X105.here hx rfl (hb hby at_134) rfl (l' := #[.val (.long q1), .second, .val (.long bb), .second, .val (.long q3), .second, .val (.long q4), .second, .val (.long q5), .second, .val (.int p6), .val (.long t0), .second, .val (.long t1), .second, .val (.long t2), .second, .val (.long t3), .second, .val (.long y0), .second, .val (.long y2), .second, .val (.long y1), .second, .val (.long y3), .second, .val (.long z1), .second, .val (.long z2), .second, .val (.ref b101), .val (.int ((p6 &&& (7 : Int32)) % (5 : Int32))), .unset, .unset, .unset, .unset, .unset]) rfl zk) ?_
      show Rch _ _ _ _ (T105.setTop (mkF m 136 #[.val (.long q1), .second, .val (.long bb), .second, .val (.long q3), .second, .val (.long q4), .second, .val (.long q5), .second, .val (.int p6), .val (.long t0), .second, .val (.long t1), .second, .val (.long t2), .second, .val (.long t3), .second, .val (.long y0), .second, .val (.long y2), .second, .val (.long y1), .second, .val (.long y3), .second, .val (.long z1), .second, .val (.long z2), .second, .val (.ref b101), .val (.int ((p6 &&& (7 : Int32)) % (5 : Int32))), .unset, .unset, .unset, .unset, .unset] []))
      refine Rch.go (fun zt zk => XS.iload X105.here hx rfl (hb hby at_136) rfl zk) ?_
      show Rch _ _ _ _ (T105.setTop (mkF m 138 #[.val (.long q1), .second, .val (.long bb), .second, .val (.long q3), .second, .val (.long q4), .second, .val (.long q5), .second, .val (.int p6), .val (.long t0), .second, .val (.long t1), .second, .val (.long t2), .second, .val (.long t3), .second, .val (.long y0), .second, .val (.long y2), .second, .val (.long y1), .second, .val (.long y3), .second, .val (.long z1), .second, .val (.long z2), .second, .val (.ref b101), .val (.int ((p6 &&& (7 : Int32)) % (5 : Int32))), .unset, .unset, .unset, .unset, .unset] [(.int ((p6 &&& (7 : Int32)) % (5 : Int32)))]))
      refine Rch.go (fun zt zk => XS.iload X105.here hx rfl (hb hby at_138) rfl zk) ?_
      show Rch _ _ _ _ (T105.setTop (mkF m 140 #[.val (.long q1), .second, .val (.long bb), .second, .val (.long q3), .second, .val (.long q4), .second, .val (.long q5), .second, .val (.int p6), .val (.long t0), .second, .val (.long t1), .second, .val (.long t2), .second, .val (.long t3), .second, .val (.long y0), .second, .val (.long y2), .second, .val (.long y1), .second, .val (.long y3), .second, .val (.long z1), .second, .val (.long z2), .second, .val (.ref b101), .val (.int ((p6 &&& (7 : Int32)) % (5 : Int32))), .unset, .unset, .unset, .unset, .unset] [(.int p6), (.int ((p6 &&& (7 : Int32)) % (5 : Int32)))]))
      refine Rch.go (fun zt zk => XS.iconst X105.here hx rfl (hb hby at_140) zk) ?_
      show Rch _ _ _ _ (T105.setTop (mkF m 141 #[.val (.long q1), .second, .val (.long bb), .second, .val (.long q3), .second, .val (.long q4), .second, .val (.long q5), .second, .val (.int p6), .val (.long t0), .second, .val (.long t1), .second, .val (.long t2), .second, .val (.long t3), .second, .val (.long y0), .second, .val (.long y2), .second, .val (.long y1), .second, .val (.long y3), .second, .val (.long z1), .second, .val (.long z2), .second, .val (.ref b101), .val (.int ((p6 &&& (7 : Int32)) % (5 : Int32))), .unset, .unset, .unset, .unset, .unset] [(.int (3 : Int32)), (.int p6), (.int ((p6 &&& (7 : Int32)) % (5 : Int32)))]))
      refine Rch.go (fun zt zk => XS.iushr X105.here hx rfl (hb hby at_141) rfl zk) ?_
      show Rch _ _ _ _ (T105.setTop (mkF m 142 #[.val (.long q1), .second, .val (.long bb), .second, .val (.long q3), .second, .val (.long q4), .second, .val (.long q5), .second, .val (.int p6), .val (.long t0), .second, .val (.long t1), .second, .val (.long t2), .second, .val (.long t3), .second, .val (.long y0), .second, .val (.long y2), .second, .val (.long y1), .second, .val (.long y3), .second, .val (.long z1), .second, .val (.long z2), .second, .val (.ref b101), .val (.int ((p6 &&& (7 : Int32)) % (5 : Int32))), .unset, .unset, .unset, .unset, .unset] [(.int ((p6.toUInt32 >>> ((3 : Int32) &&& 31).toUInt32).toInt32)), (.int ((p6 &&& (7 : Int32)) % (5 : Int32)))]))
      refine Rch.go (fun zt zk => XS.bipush X105.here hx rfl (hb hby at_142) zk) ?_
      show Rch _ _ _ _ (T105.setTop (mkF m 144 #[.val (.long q1), .second, .val (.long bb), .second, .val (.long q3), .second, .val (.long q4), .second, .val (.long q5), .second, .val (.int p6), .val (.long t0), .second, .val (.long t1), .second, .val (.long t2), .second, .val (.long t3), .second, .val (.long y0), .second, .val (.long y2), .second, .val (.long y1), .second, .val (.long y3), .second, .val (.long z1), .second, .val (.long z2), .second, .val (.ref b101), .val (.int ((p6 &&& (7 : Int32)) % (5 : Int32))), .unset, .unset, .unset, .unset, .unset] [(.int (7 : Int32)), (.int ((p6.toUInt32 >>> ((3 : Int32) &&& 31).toUInt32).toInt32)), (.int ((p6 &&& (7 : Int32)) % (5 : Int32)))]))
      refine Rch.go (fun zt zk => XS.iand X105.here hx rfl (hb hby at_144) rfl zk) ?_
      show Rch _ _ _ _ (T105.setTop (mkF m 145 #[.val (.long q1), .second, .val (.long bb), .second, .val (.long q3), .second, .val (.long q4), .second, .val (.long q5), .second, .val (.int p6), .val (.long t0), .second, .val (.long t1), .second, .val (.long t2), .second, .val (.long t3), .second, .val (.long y0), .second, .val (.long y2), .second, .val (.long y1), .second, .val (.long y3), .second, .val (.long z1), .second, .val (.long z2), .second, .val (.ref b101), .val (.int ((p6 &&& (7 : Int32)) % (5 : Int32))), .unset, .unset, .unset, .unset, .unset] [(.int (((p6.toUInt32 >>> ((3 : Int32) &&& 31).toUInt32).toInt32) &&& (7 : Int32))), (.int ((p6 &&& (7 : Int32)) % (5 : Int32)))]))
      refine Rch.go (fun zt zk => XS.iconst X105.here hx rfl (hb hby at_145) zk) ?_
      show Rch _ _ _ _ (T105.setTop (mkF m 146 #[.val (.long q1), .second, .val (.long bb), .second, .val (.long q3), .second, .val (.long q4), .second, .val (.long q5), .second, .val (.int p6), .val (.long t0), .second, .val (.long t1), .second, .val (.long t2), .second, .val (.long t3), .second, .val (.long y0), .second, .val (.long y2), .second, .val (.long y1), .second, .val (.long y3), .second, .val (.long z1), .second, .val (.long z2), .second, .val (.ref b101), .val (.int ((p6 &&& (7 : Int32)) % (5 : Int32))), .unset, .unset, .unset, .unset, .unset] [(.int (5 : Int32)), (.int (((p6.toUInt32 >>> ((3 : Int32) &&& 31).toUInt32).toInt32) &&& (7 : Int32))), (.int ((p6 &&& (7 : Int32)) % (5 : Int32)))]))
      refine Rch.go (fun zt zk => XS.iload X105.here hx rfl (hb hby at_146) rfl zk) ?_
      show Rch _ _ _ _ (T105.setTop (mkF m 148 #[.val (.long q1), .second, .val (.long bb), .second, .val (.long q3), .second, .val (.long q4), .second, .val (.long q5), .second, .val (.int p6), .val (.long t0), .second, .val (.long t1), .second, .val (.long t2), .second, .val (.long t3), .second, .val (.long y0), .second, .val (.long y2), .second, .val (.long y1), .second, .val (.long y3), .second, .val (.long z1), .second, .val (.long z2), .second, .val (.ref b101), .val (.int ((p6 &&& (7 : Int32)) % (5 : Int32))), .unset, .unset, .unset, .unset, .unset] [(.int ((p6 &&& (7 : Int32)) % (5 : Int32))), (.int (5 : Int32)), (.int (((p6.toUInt32 >>> ((3 : Int32) &&& 31).toUInt32).toInt32) &&& (7 : Int32))), (.int ((p6 &&& (7 : Int32)) % (5 : Int32)))]))
      refine Rch.go (fun zt zk => XS.isub X105.here hx rfl (hb hby at_148) rfl zk) ?_
      show Rch _ _ _ _ (T105.setTop (mkF m 149 #[.val (.long q1), .second, .val (.long bb), .second, .val (.long q3), .second, .val (.long q4), .second, .val (.long q5), .second, .val (.int p6), .val (.long t0), .second, .val (.long t1), .second, .val (.long t2), .second, .val (.long t3), .second, .val (.long y0), .second, .val (.long y2), .second, .val (.long y1), .second, .val (.long y3), .second, .val (.long z1), .second, .val (.long z2), .second, .val (.ref b101), .val (.int ((p6 &&& (7 : Int32)) % (5 : Int32))), .unset, .unset, .unset, .unset, .unset] [(.int ((5 : Int32) - ((p6 &&& (7 : Int32)) % (5 : Int32)))), (.int (((p6.toUInt32 >>> ((3 : Int32) &&& 31).toUInt32).toInt32) &&& (7 : Int32))), (.int ((p6 &&& (7 : Int32)) % (5 : Int32)))]))
      refine Rch.go (fun zt zk => iremM X105 hx rfl (hb hby at_149) rfl (own_50 (own_from p6)) zk) ?_
      show Rch _ _ _ _ (T105.setTop (mkF m 150 #[.val (.long q1), .second, .val (.long bb), .second, .val (.long q3), .second, .val (.long q4), .second, .val (.long q5), .second, .val (.int p6), .val (.long t0), .second, .val (.long t1), .second, .val (.long t2), .second, .val (.long t3), .second, .val (.long y0), .second, .val (.long y2), .second, .val (.long y1), .second, .val (.long y3), .second, .val (.long z1), .second, .val (.long z2), .second, .val (.ref b101), .val (.int ((p6 &&& (7 : Int32)) % (5 : Int32))), .unset, .unset, .unset, .unset, .unset] [(.int ((((p6.toUInt32 >>> ((3 : Int32) &&& 31).toUInt32).toInt32) &&& (7 : Int32)) % ((5 : Int32) - ((p6 &&& (7 : Int32)) % (5 : Int32))))), (.int ((p6 &&& (7 : Int32)) % (5 : Int32)))]))
      refine Rch.go (fun zt zk => XS.iadd X105.here hx rfl (hb hby at_150) rfl zk) ?_
      show Rch _ _ _ _ (T105.setTop (mkF m 151 #[.val (.long q1), .second, .val (.long bb), .second, .val (.long q3), .second, .val (.long q4), .second, .val (.long q5), .second, .val (.int p6), .val (.long t0), .second, .val (.long t1), .second, .val (.long t2), .second, .val (.long t3), .second, .val (.long y0), .second, .val (.long y2), .second, .val (.long y1), .second, .val (.long y3), .second, .val (.long z1), .second, .val (.long z2), .second, .val (.ref b101), .val (.int ((p6 &&& (7 : Int32)) % (5 : Int32))), .unset, .unset, .unset, .unset, .unset] [(.int (((p6 &&& (7 : Int32)) % (5 : Int32)) + ((((p6.toUInt32 >>> ((3 : Int32) &&& 31).toUInt32).toInt32) &&& (7 : Int32)) % ((5 : Int32) - ((p6 &&& (7 : Int32)) % (5 : Int32))))))]))
      refine Rch.go (fun zt zk => XS.istore X105.here hx rfl (hb hby at_151) rfl (l' := #[.val (.long q1), .second, .val (.long bb), .second, .val (.long q3), .second, .val (.long q4), .second, .val (.long q5), .second, .val (.int p6), .val (.long t0), .second, .val (.long t1), .second, .val (.long t2), .second, .val (.long t3), .second, .val (.long y0), .second, .val (.long y2), .second, .val (.long y1), .second, .val (.long y3), .second, .val (.long z1), .second, .val (.long z2), .second, .val (.ref b101), .val (.int ((p6 &&& (7 : Int32)) % (5 : Int32))), .val (.int (((p6 &&& (7 : Int32)) % (5 : Int32)) + ((((p6.toUInt32 >>> ((3 : Int32) &&& 31).toUInt32).toInt32) &&& (7 : Int32)) % ((5 : Int32) - ((p6 &&& (7 : Int32)) % (5 : Int32)))))), .unset, .unset, .unset, .unset]) rfl zk) ?_
      show Rch _ _ _ _ (T105.setTop (mkF m 153 #[.val (.long q1), .second, .val (.long bb), .second, .val (.long q3), .second, .val (.long q4), .second, .val (.long q5), .second, .val (.int p6), .val (.long t0), .second, .val (.long t1), .second, .val (.long t2), .second, .val (.long t3), .second, .val (.long y0), .second, .val (.long y2), .second, .val (.long y1), .second, .val (.long y3), .second, .val (.long z1), .second, .val (.long z2), .second, .val (.ref b101), .val (.int ((p6 &&& (7 : Int32)) % (5 : Int32))), .val (.int (((p6 &&& (7 : Int32)) % (5 : Int32)) + ((((p6.toUInt32 >>> ((3 : Int32) &&& 31).toUInt32).toInt32) &&& (7 : Int32)) % ((5 : Int32) - ((p6 &&& (7 : Int32)) % (5 : Int32)))))), .unset, .unset, .unset, .unset] []))
      refine Rch.go (fun zt zk => XS.iload X105.here hx rfl (hb hby at_153) rfl zk) ?_
      show Rch _ _ _ _ (T105.setTop (mkF m 155 #[.val (.long q1), .second, .val (.long bb), .second, .val (.long q3), .second, .val (.long q4), .second, .val (.long q5), .second, .val (.int p6), .val (.long t0), .second, .val (.long t1), .second, .val (.long t2), .second, .val (.long t3), .second, .val (.long y0), .second, .val (.long y2), .second, .val (.long y1), .second, .val (.long y3), .second, .val (.long z1), .second, .val (.long z2), .second, .val (.ref b101), .val (.int ((p6 &&& (7 : Int32)) % (5 : Int32))), .val (.int (((p6 &&& (7 : Int32)) % (5 : Int32)) + ((((p6.toUInt32 >>> ((3 : Int32) &&& 31).toUInt32).toInt32) &&& (7 : Int32)) % ((5 : Int32) - ((p6 &&& (7 : Int32)) % (5 : Int32)))))), .unset, .unset, .unset, .unset] [(.int p6)]))
      refine Rch.go (fun zt zk => XS.bipush X105.here hx rfl (hb hby at_155) zk) ?_
      show Rch _ _ _ _ (T105.setTop (mkF m 157 #[.val (.long q1), .second, .val (.long bb), .second, .val (.long q3), .second, .val (.long q4), .second, .val (.long q5), .second, .val (.int p6), .val (.long t0), .second, .val (.long t1), .second, .val (.long t2), .second, .val (.long t3), .second, .val (.long y0), .second, .val (.long y2), .second, .val (.long y1), .second, .val (.long y3), .second, .val (.long z1), .second, .val (.long z2), .second, .val (.ref b101), .val (.int ((p6 &&& (7 : Int32)) % (5 : Int32))), .val (.int (((p6 &&& (7 : Int32)) % (5 : Int32)) + ((((p6.toUInt32 >>> ((3 : Int32) &&& 31).toUInt32).toInt32) &&& (7 : Int32)) % ((5 : Int32) - ((p6 &&& (7 : Int32)) % (5 : Int32)))))), .unset, .unset, .unset, .unset] [(.int (6 : Int32)), (.int p6)]))
      refine Rch.go (fun zt zk => XS.iushr X105.here hx rfl (hb hby at_157) rfl zk) ?_
      show Rch _ _ _ _ (T105.setTop (mkF m 158 #[.val (.long q1), .second, .val (.long bb), .second, .val (.long q3), .second, .val (.long q4), .second, .val (.long q5), .second, .val (.int p6), .val (.long t0), .second, .val (.long t1), .second, .val (.long t2), .second, .val (.long t3), .second, .val (.long y0), .second, .val (.long y2), .second, .val (.long y1), .second, .val (.long y3), .second, .val (.long z1), .second, .val (.long z2), .second, .val (.ref b101), .val (.int ((p6 &&& (7 : Int32)) % (5 : Int32))), .val (.int (((p6 &&& (7 : Int32)) % (5 : Int32)) + ((((p6.toUInt32 >>> ((3 : Int32) &&& 31).toUInt32).toInt32) &&& (7 : Int32)) % ((5 : Int32) - ((p6 &&& (7 : Int32)) % (5 : Int32)))))), .unset, .unset, .unset, .unset] [(.int ((p6.toUInt32 >>> ((6 : Int32) &&& 31).toUInt32).toInt32))]))
      refine Rch.go (fun zt zk => XS.bipush X105.here hx rfl (hb hby at_158) zk) ?_
      show Rch _ _ _ _ (T105.setTop (mkF m 160 #[.val (.long q1), .second, .val (.long bb), .second, .val (.long q3), .second, .val (.long q4), .second, .val (.long q5), .second, .val (.int p6), .val (.long t0), .second, .val (.long t1), .second, .val (.long t2), .second, .val (.long t3), .second, .val (.long y0), .second, .val (.long y2), .second, .val (.long y1), .second, .val (.long y3), .second, .val (.long z1), .second, .val (.long z2), .second, .val (.ref b101), .val (.int ((p6 &&& (7 : Int32)) % (5 : Int32))), .val (.int (((p6 &&& (7 : Int32)) % (5 : Int32)) + ((((p6.toUInt32 >>> ((3 : Int32) &&& 31).toUInt32).toInt32) &&& (7 : Int32)) % ((5 : Int32) - ((p6 &&& (7 : Int32)) % (5 : Int32)))))), .unset, .unset, .unset, .unset] [(.int (7 : Int32)), (.int ((p6.toUInt32 >>> ((6 : Int32) &&& 31).toUInt32).toInt32))]))
      refine Rch.go (fun zt zk => XS.iand X105.here hx rfl (hb hby at_160) rfl zk) ?_
      show Rch _ _ _ _ (T105.setTop (mkF m 161 #[.val (.long q1), .second, .val (.long bb), .second, .val (.long q3), .second, .val (.long q4), .second, .val (.long q5), .second, .val (.int p6), .val (.long t0), .second, .val (.long t1), .second, .val (.long t2), .second, .val (.long t3), .second, .val (.long y0), .second, .val (.long y2), .second, .val (.long y1), .second, .val (.long y3), .second, .val (.long z1), .second, .val (.long z2), .second, .val (.ref b101), .val (.int ((p6 &&& (7 : Int32)) % (5 : Int32))), .val (.int (((p6 &&& (7 : Int32)) % (5 : Int32)) + ((((p6.toUInt32 >>> ((3 : Int32) &&& 31).toUInt32).toInt32) &&& (7 : Int32)) % ((5 : Int32) - ((p6 &&& (7 : Int32)) % (5 : Int32)))))), .unset, .unset, .unset, .unset] [(.int (((p6.toUInt32 >>> ((6 : Int32) &&& 31).toUInt32).toInt32) &&& (7 : Int32)))]))
      refine Rch.go (fun zt zk => XS.istore X105.here hx rfl (hb hby at_161) rfl (l' := #[.val (.long q1), .second, .val (.long bb), .second, .val (.long q3), .second, .val (.long q4), .second, .val (.long q5), .second, .val (.int p6), .val (.long t0), .second, .val (.long t1), .second, .val (.long t2), .second, .val (.long t3), .second, .val (.long y0), .second, .val (.long y2), .second, .val (.long y1), .second, .val (.long y3), .second, .val (.long z1), .second, .val (.long z2), .second, .val (.ref b101), .val (.int ((p6 &&& (7 : Int32)) % (5 : Int32))), .val (.int (((p6 &&& (7 : Int32)) % (5 : Int32)) + ((((p6.toUInt32 >>> ((3 : Int32) &&& 31).toUInt32).toInt32) &&& (7 : Int32)) % ((5 : Int32) - ((p6 &&& (7 : Int32)) % (5 : Int32)))))), .val (.int (((p6.toUInt32 >>> ((6 : Int32) &&& 31).toUInt32).toInt32) &&& (7 : Int32))), .unset, .unset, .unset]) rfl zk) ?_
      show Rch _ _ _ _ (T105.setTop (mkF m 163 #[.val (.long q1), .second, .val (.long bb), .second, .val (.long q3), .second, .val (.long q4), .second, .val (.long q5), .second, .val (.int p6), .val (.long t0), .second, .val (.long t1), .second, .val (.long t2), .second, .val (.long t3), .second, .val (.long y0), .second, .val (.long y2), .second, .val (.long y1), .second, .val (.long y3), .second, .val (.long z1), .second, .val (.long z2), .second, .val (.ref b101), .val (.int ((p6 &&& (7 : Int32)) % (5 : Int32))), .val (.int (((p6 &&& (7 : Int32)) % (5 : Int32)) + ((((p6.toUInt32 >>> ((3 : Int32) &&& 31).toUInt32).toInt32) &&& (7 : Int32)) % ((5 : Int32) - ((p6 &&& (7 : Int32)) % (5 : Int32)))))), .val (.int (((p6.toUInt32 >>> ((6 : Int32) &&& 31).toUInt32).toInt32) &&& (7 : Int32))), .unset, .unset, .unset] []))
      exact j163 _ _ _ (own_to _ (own_from p6)) (own_and7 _)
    refine Rch.go (fun zt zk => XS.lloadN X0.here hx rfl (hb hby at_12) rfl zk) ?_
    show Rch _ _ _ _ (s₁.setTop (mkF m 13 #[.val (.long q1), .second, .val (.long bb), .second, .val (.long q3), .second, .val (.long q4), .second, .val (.long q5), .second, .val (.int p6), .unset, .unset, .unset, .unset, .unset, .unset, .unset, .unset, .unset, .unset, .unset, .unset, .unset, .unset, .unset, .unset, .unset, .unset, .unset, .unset, .unset, .unset, .unset, .unset, .unset, .unset, .unset] [(.long q1)]))
    refine Rch.go (fun zt zk => XS.lloadN X0.here hx rfl (hb hby at_13) rfl zk) ?_
    show Rch _ _ _ _ (s₁.setTop (mkF m 14 #[.val (.long q1), .second, .val (.long bb), .second, .val (.long q3), .second, .val (.long q4), .second, .val (.long q5), .second, .val (.int p6), .unset, .unset, .unset, .unset, .unset, .unset, .unset, .unset, .unset, .unset, .unset, .unset, .unset, .unset, .unset, .unset, .unset, .unset, .unset, .unset, .unset, .unset, .unset, .unset, .unset, .unset, .unset] [(.long bb), (.long q1)]))
    obtain ⟨_, _, ⟨T114, L114, k114, n114⟩, -, X114, ⟨Lc114, hQ114, l114, y114, z114⟩, st114⟩ := Jvm.LawKit.callS X0 hx (y := (⟨"java/lang/Math", "min", "(JJ)J"⟩ : MethodName)) hown (mvT hZ (ow0 hw)) (mvT hZ (ow1 hw)) (mvT hZ (ow2 hw)) (mvT hZ (ow3 hw)) (by decide) (backOf (W := 0) (rm1 l Z a0 hw [] q1 bb h0 n0 Z0 ) hZ (ow3 hw) (ow2 hw) (by decide) (by decide)) (g := (mkF m 14 #[.val (.long q1), .second, .val (.long bb), .second, .val (.long q3), .second, .val (.long q4), .second, .val (.long q5), .second, .val (.int p6), .unset, .unset, .unset, .unset, .unset, .unset, .unset, .unset, .unset, .unset, .unset, .unset, .unset, .unset, .unset, .unset, .unset, .unset, .unset, .unset, .unset, .unset, .unset, .unset, .unset, .unset, .unset] [(.long bb), (.long q1)])) rfl (by rw [hml]; rfl) (argsL := [(.long q1), (.long bb)]) (rest := []) (lenOf pd__JJ_J rfl) rfl (by show 2 * 0 + _ ≤ _; exact Nat.le_of_eq rfl) (hb hby at_14) (fun _ _ => ⟨rfl, e0, (by decide : 0 + 0 ≤ _), (by decide : 0 + 0 ≤ _)⟩)
    dsimp only [Pt.U, Pt.locs, Pt.cells, Pt.slots] at X114 l114 y114 z114 st114 hQ114
    subst l114 y114 z114
    obtain ⟨rfl, N114q, eq114⟩ := hQ114
    have N114 := Fr.app N0 N114q
    refine Rch.go st114 ?_
    show Rch _ _ _ _ (T114.setTop (mkF m 17 #[.val (.long q1), .second, .val (.long bb), .second, .val (.long q3), .second, .val (.long q4), .second, .val (.long q5), .second, .val (.int p6), .unset, .unset, .unset, .unset, .unset, .unset, .unset, .unset, .unset, .unset, .unset, .unset, .unset, .unset, .unset, .unset, .unset, .unset, .unset, .unset, .unset, .unset, .unset, .unset, .unset, .unset, .unset] [(.long (fMin q1 bb))]))
    refine Rch.go (fun zt zk => XS.lstore X114.here hx rfl (hb hby at_17) rfl (l' := #[.val (.long q1), .second, .val (.long bb), .second, .val (.long q3), .second, .val (.long q4), .second, .val (.long q5), .second, .val (.int p6), .val (.long (fMin q1 bb)), .second, .unset, .unset, .unset, .unset, .unset, .unset, .unset, .unset, .unset, .unset, .unset, .unset, .unset, .unset, .unset, .unset, .unset, .unset, .unset, .unset, .unset, .unset, .unset, .unset, .unset]) rfl zk) ?_
    show Rch _ _ _ _ (T114.setTop (mkF m 19 #[.val (.long q1), .second, .val (.long bb), .second, .val (.long q3), .second, .val (.long q4), .second, .val (.long q5), .second, .val (.int p6), .val (.long (fMin q1 bb)), .second, .unset, .unset, .unset, .unset, .unset, .unset, .unset, .unset, .unset, .unset, .unset, .unset, .unset, .unset, .unset, .unset, .unset, .unset, .unset, .unset, .unset, .unset, .unset, .unset, .unset] []))
    refine Rch.go (fun zt zk => XS.lloadN X114.here hx rfl (hb hby at_19) rfl zk) ?_
    show Rch _ _ _ _ (T114.setTop (mkF m 20 #[.val (.long q1), .second, .val (.long bb), .second, .val (.long q3), .second, .val (.long q4), .second, .val (.long q5), .second, .val (.int p6), .val (.long (fMin q1 bb)), .second, .unset, .unset, .unset, .unset, .unset, .unset, .unset, .unset, .unset, .unset, .unset, .unset, .unset, .unset, .unset, .unset, .unset, .unset, .unset, .unset, .unset, .unset, .unset, .unset, .unset] [(.long q1)]))
    refine Rch.go (fun zt zk => XS.lloadN X114.here hx rfl (hb hby at_20) rfl zk) ?_
    show Rch _ _ _ _ (T114.setTop (mkF m 21 #[.val (.long q1), .second, .val (.long bb), .second, .val (.long q3), .second, .val (.long q4), .second, .val (.long q5), .second, .val (.int p6), .val (.long (fMin q1 bb)), .second, .unset, .unset, .unset, .unset, .unset, .unset, .unset, .unset, .unset, .unset, .unset, .unset, .unset, .unset, .unset, .unset, .unset, .unset, .unset, .unset, .unset, .unset, .unset, .unset, .unset] [(.long bb), (.long q1)]))
    obtain ⟨_, _, ⟨T115, L115, k115, n115⟩, -, X115, ⟨Lc115, hQ115, l115, y115, z115⟩, st115⟩ := Jvm.LawKit.callS X114 hx (y := (⟨"java/lang/Math", "max", "(JJ)J"⟩ : MethodName)) hown (mvT hZ (ow4 hw)) (mvT hZ (ow5 hw)) (mvT hZ (ow2 hw)) (mvT hZ (ow6 hw)) (by decide) (backOf (W := 0) (rm2 l Z a0 hw [] q1 bb h0 n0 Z0 ) hZ (ow6 hw) (ow2 hw) (by decide) (by decide)) (g := (mkF m 21 #[.val (.long q1), .second, .val (.long bb), .second, .val (.long q3), .second, .val (.long q4), .second, .val (.long q5), .second, .val (.int p6), .val (.long (fMin q1 bb)), .second, .unset, .unset, .unset, .unset, .unset, .unset, .unset, .unset, .unset, .unset, .unset, .unset, .unset, .unset, .unset, .unset, .unset, .unset, .unset, .unset, .unset, .unset, .unset, .unset, .unset] [(.long bb), (.long q1)])) rfl (by rw [hml]; rfl) (argsL := [(.long q1), (.long bb)]) (rest := []) (lenOf pd__JJ_J rfl) rfl (by show 2 * 0 + _ ≤ _; exact Nat.le_of_eq rfl) (hb hby at_21) (fun _ _ => ⟨rfl, eq114, (by decide : 0 + 0 ≤ _), (by decide : 0 + 0 ≤ _)⟩)
    dsimp only [Pt.U, Pt.locs, Pt.cells, Pt.slots] at X115 l115 y115 z115 st115 hQ115
    subst l115 y115 z115
    obtain ⟨rfl, N115q, eq115⟩ := hQ115
    have N115 := Fr.app N114 N115q
    refine Rch.go st115 ?_
    show Rch _ _ _ _ (T115.setTop (mkF m 24 #[.val (.long q1), .second, .val (.long bb), .second, .val (.long q3), .second, .val (.long q4), .second, .val (.long q5), .second, .val (.int p6), .val (.long (fMin q1 bb)), .second, .unset, .unset, .unset, .unset, .unset, .unset, .unset, .unset, .unset, .unset, .unset, .unset, .unset, .unset, .unset, .unset, .unset, .unset, .unset, .unset, .unset, .unset, .unset, .unset, .unset] [(.long (fMax q1 bb))]))
    refine Rch.go (fun zt zk => XS.lstore X115.here hx rfl (hb hby at_24) rfl (l' := #[.val (.long q1), .second, .val (.long bb), .second, .val (.long q3), .second, .val (.long q4), .second, .val (.long q5), .second, .val (.int p6), .val (.long (fMin q1 bb)), .second, .val (.long (fMax q1 bb)), .second, .unset, .unset, .unset, .unset, .unset, .unset, .unset, .unset, .unset, .unset, .unset, .unset, .unset, .unset, .unset, .unset, .unset, .unset, .unset, .unset, .unset, .unset, .unset]) rfl zk) ?_
    show Rch _ _ _ _ (T115.setTop (mkF m 26 #[.val (.long q1), .second, .val (.long bb), .second, .val (.long q3), .second, .val (.long q4), .second, .val (.long q5), .second, .val (.int p6), .val (.long (fMin q1 bb)), .second, .val (.long (fMax q1 bb)), .second, .unset, .unset, .unset, .unset, .unset, .unset, .unset, .unset, .unset, .unset, .unset, .unset, .unset, .unset, .unset, .unset, .unset, .unset, .unset, .unset, .unset, .unset, .unset] []))
    refine Rch.go (fun zt zk => XS.lload X115.here hx rfl (hb hby at_26) rfl zk) ?_
    show Rch _ _ _ _ (T115.setTop (mkF m 28 #[.val (.long q1), .second, .val (.long bb), .second, .val (.long q3), .second, .val (.long q4), .second, .val (.long q5), .second, .val (.int p6), .val (.long (fMin q1 bb)), .second, .val (.long (fMax q1 bb)), .second, .unset, .unset, .unset, .unset, .unset, .unset, .unset, .unset, .unset, .unset, .unset, .unset, .unset, .unset, .unset, .unset, .unset, .unset, .unset, .unset, .unset, .unset, .unset] [(.long q3)]))
    refine Rch.go (fun zt zk => XS.lload X115.here hx rfl (hb hby at_28) rfl zk) ?_
    show Rch _ _ _ _ (T115.setTop (mkF m 30 #[.val (.long q1), .second, .val (.long bb), .second, .val (.long q3), .second, .val (.long q4), .second, .val (.long q5), .second, .val (.int p6), .val (.long (fMin q1 bb)), .second, .val (.long (fMax q1 bb)), .second, .unset, .unset, .unset, .unset, .unset, .unset, .unset, .unset, .unset, .unset, .unset, .unset, .unset, .unset, .unset, .unset, .unset, .unset, .unset, .unset, .unset, .unset, .unset] [(.long q4), (.long q3)]))
    obtain ⟨_, _, ⟨T116, L116, k116, n116⟩, -, X116, ⟨Lc116, hQ116, l116, y116, z116⟩, st116⟩ := Jvm.LawKit.callS X115 hx (y := (⟨"java/lang/Math", "min", "(JJ)J"⟩ : MethodName)) hown (mvT hZ (ow0 hw)) (mvT hZ (ow1 hw)) (mvT hZ (ow2 hw)) (mvT hZ (ow3 hw)) (by decide) (backOf (W := 0) (rm1 l Z a0 hw [] q3 q4 h0 n0 Z0 ) hZ (ow3 hw) (ow2 hw) (by decide) (by decide)) (g := (mkF m 30 #[.val (.long q1), .second, .val (.long bb), .second, .val (.long q3), .second, .val (.long q4), .second, .val (.long q5), .second, .val (.int p6), .val (.long (fMin q1 bb)), .second, .val (.long (fMax q1 bb)), .second, .unset, .unset, .unset, .unset, .unset, .unset, .unset, .unset, .unset, .unset, .unset, .unset, .unset, .unset, .unset, .unset, .unset, .unset, .unset, .unset, .unset, .unset, .unset] [(.long q4), (.long q3)])) rfl (by rw [hml]; rfl) (argsL := [(.long q3), (.long q4)]) (rest := []) (lenOf pd__JJ_J rfl) rfl (by show 2 * 0 + _ ≤ _; exact Nat.le_of_eq rfl) (hb hby at_30) (fun _ _ => ⟨rfl, eq115, (by decide : 0 + 0 ≤ _), (by decide : 0 + 0 ≤ _)⟩)
    dsimp only [Pt.U, Pt.locs, Pt.cells, Pt.slots] at X116 l116 y116 z116 st116 hQ116
    subst l116 y116 z116
    obtain ⟨rfl, N116q, eq116⟩ := hQ116
    have N116 := Fr.app N115 N116q
    refine Rch.go st116 ?_
    show Rch _ _ _ _ (T116.setTop (mkF m 33 #[.val (.long q1), .second, .val (.long bb), .second, .val (.long q3), .second, .val (.long q4), .second, .val (.long q5), .second, .val (.int p6), .val (.long (fMin q1 bb)), .second, .val (.long (fMax q1 bb)), .second, .unset, .unset, .unset, .unset, .unset, .unset, .unset, .unset, .unset, .unset, .unset, .unset, .unset, .unset, .unset, .unset, .unset, .unset, .unset, .unset, .unset, .unset, .unset] [(.long (fMin q3 q4))]))
    refine Rch.go (fun zt zk => XS.lstore X116.here hx rfl (hb hby at_33) rfl (l' := #[.val (.long q1), .second, .val (.long bb), .second, .val (.long q3), .second, .val (.long q4), .second, .val (.long q5), .second, .val (.int p6), .val (.long (fMin q1 bb)), .second, .val (.long (fMax q1 bb)), .second, .val (.long (fMin q3 q4)), .second, .unset, .unset, .unset, .unset, .unset, .unset, .unset, .unset, .unset, .unset, .unset, .unset, .unset, .unset, .unset, .unset, .unset, .unset, .unset, .unset, .unset]) rfl zk) ?_
    show Rch _ _ _ _ (T116.setTop (mkF m 35 #[.val (.long q1), .second, .val (.long bb), .second, .val (.long q3), .second, .val (.long q4), .second, .val (.long q5), .second, .val (.int p6), .val (.long (fMin q1 bb)), .second, .val (.long (fMax q1 bb)), .second, .val (.long (fMin q3 q4)), .second, .unset, .unset, .unset, .unset, .unset, .unset, .unset, .unset, .unset, .unset, .unset, .unset, .unset, .unset, .unset, .unset, .unset, .unset, .unset, .unset, .unset] []))
    refine Rch.go (fun zt zk => XS.lload X116.here hx rfl (hb hby at_35) rfl zk) ?_
    show Rch _ _ _ _ (T116.setTop (mkF m 37 #[.val (.long q1), .second, .val (.long bb), .second, .val (.long q3), .second, .val (.long q4), .second, .val (.long q5), .second, .val (.int p6), .val (.long (fMin q1 bb)), .second, .val (.long (fMax q1 bb)), .second, .val (.long (fMin q3 q4)), .second, .unset, .unset, .unset, .unset, .unset, .unset, .unset, .unset, .unset, .unset, .unset, .unset, .unset, .unset, .unset, .unset, .unset, .unset, .unset, .unset, .unset] [(.long q3)]))
    refine Rch.go (fun zt zk => XS.lload X116.here hx rfl (hb hby at_37) rfl zk) ?_
    show Rch _ _ _ _ (T116.setTop (mkF m 39 #[.val (.long q1), .second, .val (.long bb), .second, .val (.long q3), .second, .val (.long q4), .second, .val (.long q5), .second, .val (.int p6), .val (.long (fMin q1 bb)), .second, .val (.long (fMax q1 bb)), .second, .val (.long (fMin q3 q4)), .second, .unset, .unset, .unset, .unset, .unset, .unset, .unset, .unset, .unset, .unset, .unset, .unset, .unset, .unset, .unset, .unset, .unset, .unset, .unset, .unset, .unset] [(.long q4), (.long q3)]))
    obtain ⟨_, _, ⟨T117, L117, k117, n117⟩, -, X117, ⟨Lc117, hQ117, l117, y117, z117⟩, st117⟩ := Jvm.LawKit.callS X116 hx (y := (⟨"java/lang/Math", "max", "(JJ)J"⟩ : MethodName)) hown (mvT hZ (ow4 hw)) (mvT hZ (ow5 hw)) (mvT hZ (ow2 hw)) (mvT hZ (ow6 hw)) (by decide) (backOf (W := 0) (rm2 l Z a0 hw [] q3 q4 h0 n0 Z0 ) hZ (ow6 hw) (ow2 hw) (by decide) (by decide)) (g := (mkF m 39 #[.val (.long q1), .second, .val (.long bb), .second, .val (.long q3), .second, .val (.long q4), .second, .val (.long q5), .second, .val (.int p6), .val (.long (fMin q1 bb)), .second, .val (.long (fMax q1 bb)), .second, .val (.long (fMin q3 q4)), .second, .unset, .unset, .unset, .unset, .unset, .unset, .unset, .unset, .unset, .unset, .unset, .unset, .unset, .unset, .unset, .unset, .unset, .unset, .unset, .unset, .unset] [(.long q4), (.long q3)])) rfl (by rw [hml]; rfl) (argsL := [(.long q3), (.long q4)]) (rest := []) (lenOf pd__JJ_J rfl) rfl (by show 2 * 0 + _ ≤ _; exact Nat.le_of_eq rfl) (hb hby at_39) (fun _ _ => ⟨rfl, eq116, (by decide : 0 + 0 ≤ _), (by decide : 0 + 0 ≤ _)⟩)
    dsimp only [Pt.U, Pt.locs, Pt.cells, Pt.slots] at X117 l117 y117 z117 st117 hQ117
    subst l117 y117 z117
    obtain ⟨rfl, N117q, eq117⟩ := hQ117
    have N117 := Fr.app N116 N117q
    refine Rch.go st117 ?_
    show Rch _ _ _ _ (T117.setTop (mkF m 42 #[.val (.long q1), .second, .val (.long bb), .second, .val (.long q3), .second, .val (.long q4), .second, .val (.long q5), .second, .val (.int p6), .val (.long (fMin q1 bb)), .second, .val (.long (fMax q1 bb)), .second, .val (.long (fMin q3 q4)), .second, .unset, .unset, .unset, .unset, .unset, .unset, .unset, .unset, .unset, .unset, .unset, .unset, .unset, .unset, .unset, .unset, .unset, .unset, .unset, .unset, .unset] [(.long (fMax q3 q4))]))
    refine Rch.go (fun zt zk => XS.lstore X117.here hx rfl (hb hby at_42) rfl (l' := #[.val (.long q1), .second, .val (.long bb), .second, .val (.long q3), .second, .val (.long q4), .second, .val (.long q5), .second, .val (.int p6), .val (.long (fMin q1 bb)), .second, .val (.long (fMax q1 bb)), .second, .val (.long (fMin q3 q4)), .second, .val (.long (fMax q3 q4)), .second, .unset, .unset, .unset, .unset, .unset, .unset, .unset, .unset, .unset, .unset, .unset, .unset, .unset, .unset, .unset, .unset, .unset, .unset, .unset]) rfl zk) ?_
    show Rch _ _ _ _ (T117.setTop (mkF m 44 #[.val (.long q1), .second, .val (.long bb), .second, .val (.long q3), .second, .val (.long q4), .second, .val (.long q5), .second, .val (.int p6), .val (.long (fMin q1 bb)), .second, .val (.long (fMax q1 bb)), .second, .val (.long (fMin q3 q4)), .second, .val (.long (fMax q3 q4)), .second, .unset, .unset, .unset, .unset, .unset, .unset, .unset, .unset, .unset, .unset, .unset, .unset, .unset, .unset, .unset, .unset, .unset, .unset, .unset] []))
    refine Rch.go (fun zt zk => XS.lload X117.here hx rfl (hb hby at_44) rfl zk) ?_
    show Rch _ _ _ _ (T117.setTop (mkF m 46 #[.val (.long q1), .second, .val (.long bb), .second, .val (.long q3), .second, .val (.long q4), .second, .val (.long q5), .second, .val (.int p6), .val (.long (fMin q1 bb)), .second, .val (.long (fMax q1 bb)), .second, .val (.long (fMin q3 q4)), .second, .val (.long (fMax q3 q4)), .second, .unset, .unset, .unset, .unset, .unset, .unset, .unset, .unset, .unset, .unset, .unset, .unset, .unset, .unset, .unset, .unset, .unset, .unset, .unset] [(.long (fMin q1 bb))]))
    refine Rch.go (fun zt zk => XS.lload X117.here hx rfl (hb hby at_46) rfl zk) ?_
    show Rch _ _ _ _ (T117.setTop (mkF m 48 #[.val (.long q1), .second, .val (.long bb), .second, .val (.long q3), .second, .val (.long q4), .second, .val (.long q5), .second, .val (.int p6), .val (.long (fMin q1 bb)), .second, .val (.long (fMax q1 bb)), .second, .val (.long (fMin q3 q4)), .second, .val (.long (fMax q3 q4)), .second, .unset, .unset, .unset, .unset, .unset, .unset, .unset, .unset, .unset, .unset, .unset, .unset, .unset, .unset, .unset, .unset, .unset, .unset, .unset] [(.long (fMin q3 q4)), (.long (fMin q1 bb))]))
    obtain ⟨_, _, ⟨T118, L118, k118, n118⟩, -, X118, ⟨Lc118, hQ118, l118, y118, z118⟩, st118⟩ := Jvm.LawKit.callS X117 hx (y := (⟨"java/lang/Math", "min", "(JJ)J"⟩ : MethodName)) hown (mvT hZ (ow0 hw)) (mvT hZ (ow1 hw)) (mvT hZ (ow2 hw)) (mvT hZ (ow3 hw)) (by decide) (backOf (W := 0) (rm1 l Z a0 hw [] (fMin q1 bb) (fMin q3 q4) h0 n0 Z0 ) hZ (ow3 hw) (ow2 hw) (by decide) (by decide)) (g := (mkF m 48 #[.val (.long q1), .second, .val (.long bb), .second, .val (.long q3), .second, .val (.long q4), .second, .val (.long q5), .second, .val (.int p6), .val (.long (fMin q1 bb)), .second, .val (.long (fMax q1 bb)), .second, .val (.long (fMin q3 q4)), .second, .val (.long (fMax q3 q4)), .second, .unset, .unset, .unset, .unset, .unset, .unset, .unset, .unset, .unset, .unset, .unset, .unset, .unset, .unset, .unset, .unset, .unset, .unset, .unset] [(.long (fMin q3 q4)), (.long (fMin q1 bb))])) rfl (by rw [hml]; rfl) (argsL := [(.long (fMin q1 bb)), (.long (fMin q3 q4))]) (rest := []) (lenOf pd__JJ_J rfl) rfl (by show 2 * 0 + _ ≤ _; exact Nat.le_of_eq rfl) (hb hby at_48) (fun _ _ => ⟨rfl, eq117, (by decide : 0 + 0 ≤ _), (by decide : 0 + 0 ≤ _)⟩)
    dsimp only [Pt.U, Pt.locs, Pt.cells, Pt.slots] at X118 l118 y118 z118 st118 hQ118
    subst l118 y118 z118
    obtain ⟨rfl, N118q, eq118⟩ := hQ118
    have N118 := Fr.app N117 N118q
    refine Rch.go st118 ?_
    show Rch _ _ _ _ (T118.setTop (mkF m 51 #[.val (.long q1), .second, .val (.long bb), .second, .val (.long q3), .second, .val (.long q4), .second, .val (.long q5), .second, .val (.int p6), .val (.long (fMin q1 bb)), .second, .val (.long (fMax q1 bb)), .second, .val (.long (fMin q3 q4)), .second, .val (.long (fMax q3 q4)), .second, .unset, .unset, .unset, .unset, .unset, .unset, .unset, .unset, .unset, .unset, .unset, .unset, .unset, .unset, .unset, .unset, .unset, .unset, .unset] [(.long (fMin (fMin q1 bb) (fMin q3 q4)))]))
    refine Rch.go (fun zt zk => XS.lstore X118.here hx rfl (hb hby at_51) rfl (l' := #[.val (.long q1), .second, .val (.long bb), .second, .val (.long q3), .second, .val (.long q4), .second, .val (.long q5), .second, .val (.int p6), .val (.long (fMin q1 bb)), .second, .val (.long (fMax q1 bb)), .second, .val (.long (fMin q3 q4)), .second, .val (.long (fMax q3 q4)), .second, .val (.long (fMin (fMin q1 bb) (fMin q3 q4))), .second, .unset, .unset, .unset, .unset, .unset, .unset, .unset, .unset, .unset, .unset, .unset, .unset, .unset, .unset, .unset, .unset, .unset]) rfl zk) ?_
    show Rch _ _ _ _ (T118.setTop (mkF m 53 #[.val (.long q1), .second, .val (.long bb), .second, .val (.long q3), .second, .val (.long q4), .second, .val (.long q5), .second, .val (.int p6), .val (.long (fMin q1 bb)), .second, .val (.long (fMax q1 bb)), .second, .val (.long (fMin q3 q4)), .second, .val (.long (fMax q3 q4)), .second, .val (.long (fMin (fMin q1 bb) (fMin q3 q4))), .second, .unset, .unset, .unset, .unset, .unset, .unset, .unset, .unset, .unset, .unset, .unset, .unset, .unset, .unset, .unset, .unset, .unset] []))
    refine Rch.go (fun zt zk => XS.lload X118.here hx rfl (hb hby at_53) rfl zk) ?_
    show Rch _ _ _ _ (T118.setTop (mkF m 55 #[.val (.long q1), .second, .val (.long bb), .second, .val (.long q3), .second, .val (.long q4), .second, .val (.long q5), .second, .val (.int p6), .val (.long (fMin q1 bb)), .second, .val (.long (fMax q1 bb)), .second, .val (.long (fMin q3 q4)), .second, .val (.long (fMax q3 q4)), .second, .val (.long (fMin (fMin q1 bb) (fMin q3 q4))), .second, .unset, .unset, .unset, .unset, .unset, .unset, .unset, .unset, .unset, .unset, .unset, .unset, .unset, .unset, .unset, .unset, .unset] [(.long (fMin q1 bb))]))
    refine Rch.go (fun zt zk => XS.lload X118.here hx rfl (hb hby at_55) rfl zk) ?_
    show Rch _ _ _ _ (T118.setTop (mkF m 57 #[.val (.long q1), .second, .val (.long bb), .second, .val (.long q3), .second, .val (.long q4), .second, .val (.long q5), .second, .val (.int p6), .val (.long (fMin q1 bb)), .second, .val (.long (fMax q1 bb)), .second, .val (.long (fMin q3 q4)), .second, .val (.long (fMax q3 q4)), .second, .val (.long (fMin (fMin q1 bb) (fMin q3 q4))), .second, .unset, .unset, .unset, .unset, .unset, .unset, .unset, .unset, .unset, .unset, .unset, .unset, .unset, .unset, .unset, .unset, .unset] [(.long (fMin q3 q4)), (.long (fMin q1 bb))]))
    obtain ⟨_, _, ⟨T119, L119, k119, n119⟩, -, X119, ⟨Lc119, hQ119, l119, y119, z119⟩, st119⟩ := Jvm.LawKit.callS X118 hx (y := (⟨"java/lang/Math", "max", "(JJ)J"⟩ : MethodName)) hown (mvT hZ (ow4 hw)) (mvT hZ (ow5 hw)) (mvT hZ (ow2 hw)) (mvT hZ (ow6 hw)) (by decide) (backOf (W := 0) (rm2 l Z a0 hw [] (fMin q1 bb) (fMin q3 q4) h0 n0 Z0 ) hZ (ow6 hw) (ow2 hw) (by decide) (by decide)) (g := (mkF m 57 #[.val (.long q1), .second, .val (.long bb), .second, .val (.long q3), .second, .val (.long q4), .second, .val (.long q5), .second, .val (.int p6), .val (.long (fMin q1 bb)), .second, .val (.long (fMax q1 bb)), .second, .val (.long (fMin q3 q4)), .second, .val (.long (fMax q3 q4)), .second, .val (.long (fMin (fMin q1 bb) (fMin q3 q4))), .second, .unset, .unset, .unset, .unset, .unset, .unset, .unset, .unset, .unset, .unset, .unset, .unset, .unset, .unset, .unset, .unset, .unset] [(.long (fMin q3 q4)), (.long (fMin q1 bb))])) rfl (by rw [hml]; rfl) (argsL := [(.long (fMin q1 bb)), (.long (fMin q3 q4))]) (rest := []) (lenOf pd__JJ_J rfl) rfl (by show 2 * 0 + _ ≤ _; exact Nat.le_of_eq rfl) (hb hby at_57) (fun _ _ => ⟨rfl, eq118, (by decide : 0 + 0 ≤ _), (by decide : 0 + 0 ≤ _)⟩)
    dsimp only [Pt.U, Pt.locs, Pt.cells, Pt.slots] at X119 l119 y119 z119 st119 hQ119
    subst l119 y119 z119
    obtain ⟨rfl, N119q, eq119⟩ := hQ119
    have N119 := Fr.app N118 N119q
    refine Rch.go st119 ?_
    show Rch _ _ _ _ (T119.setTop (mkF m 60 #[.val (.long q1), .second, .val (.long bb), .second, .val (.long q3), .second, .val (.long q4), .second, .val (.long q5), .second, .val (.int p6), .val (.long (fMin q1 bb)), .second, .val (.long (fMax q1 bb)), .second, .val (.long (fMin q3 q4)), .second, .val (.long (fMax q3 q4)), .second, .val (.long (fMin (fMin q1 bb) (fMin q3 q4))), .second, .unset, .unset, .unset, .unset, .unset, .unset, .unset, .unset, .unset, .unset, .unset, .unset, .unset, .unset, .unset, .unset, .unset] [(.long (fMax (fMin q1 bb) (fMin q3 q4)))]))
    refine Rch.go (fun zt zk => XS.lstore X119.here hx rfl (hb hby at_60) rfl (l' := #[.val (.long q1), .second, .val (.long bb), .second, .val (.long q3), .second, .val (.long q4), .second, .val (.long q5), .second, .val (.int p6), .val (.long (fMin q1 bb)), .second, .val (.long (fMax q1 bb)), .second, .val (.long (fMin q3 q4)), .second, .val (.long (fMax q3 q4)), .second, .val (.long (fMin (fMin q1 bb) (fMin q3 q4))), .second, .val (.long (fMax (fMin q1 bb) (fMin q3 q4))), .second, .unset, .unset, .unset, .unset, .unset, .unset, .unset, .unset, .unset, .unset, .unset, .unset, .unset, .unset, .unset]) rfl zk) ?_
    show Rch _ _ _ _ (T119.setTop (mkF m 62 #[.val (.long q1), .second, .val (.long bb), .second, .val (.long q3), .second, .val (.long q4), .second, .val (.long q5), .second, .val (.int p6), .val (.long (fMin q1 bb)), .second, .val (.long (fMax q1 bb)), .second, .val (.long (fMin q3 q4)), .second, .val (.long (fMax q3 q4)), .second, .val (.long (fMin (fMin q1 bb) (fMin q3 q4))), .second, .val (.long (fMax (fMin q1 bb) (fMin q3 q4))), .second, .unset, .unset, .unset, .unset, .unset, .unset, .unset, .unset, .unset, .unset, .unset, .unset, .unset, .unset, .unset] []))
    refine Rch.go (fun zt zk => XS.lload X119.here hx rfl (hb hby at_62) rfl zk) ?_
    show Rch _ _ _ _ (T119.setTop (mkF m 64 #[.val (.long q1), .second, .val (.long bb), .second, .val (.long q3), .second, .val (.long q4), .second, .val (.long q5), .second, .val (.int p6), .val (.long (fMin q1 bb)), .second, .val (.long (fMax q1 bb)), .second, .val (.long (fMin q3 q4)), .second, .val (.long (fMax q3 q4)), .second, .val (.long (fMin (fMin q1 bb) (fMin q3 q4))), .second, .val (.long (fMax (fMin q1 bb) (fMin q3 q4))), .second, .unset, .unset, .unset, .unset, .unset, .unset, .unset, .unset, .unset, .unset, .unset, .unset, .unset, .unset, .unset] [(.long (fMax q1 bb))]))
    refine Rch.go (fun zt zk => XS.lload X119.here hx rfl (hb hby at_64) rfl zk) ?_
    show Rch _ _ _ _ (T119.setTop (mkF m 66 #[.val (.long q1), .second, .val (.long bb), .second, .val (.long q3), .second, .val (.long q4), .second, .val (.long q5), .second, .val (.int p6), .val (.long (fMin q1 bb)), .second, .val (.long (fMax q1 bb)), .second, .val (.long (fMin q3 q4)), .second, .val (.long (fMax q3 q4)), .second, .val (.long (fMin (fMin q1 bb) (fMin q3 q4))), .second, .val (.long (fMax (fMin q1 bb) (fMin q3 q4))), .second, .unset, .unset, .unset, .unset, .unset, .unset, .unset, .unset, .unset, .unset, .unset, .unset, .unset, .unset, .unset] [(.long (fMax q3 q4)), (.long (fMax q1 bb))]))
    obtain ⟨_, _, ⟨T120, L120, k120, n120⟩, -, X120, ⟨Lc120, hQ120, l120, y120, z120⟩, st120⟩ := Jvm.LawKit.callS X119 hx (y := (⟨"java/lang/Math", "min", "(JJ)J"⟩ : MethodName)) hown (mvT hZ (ow0 hw)) (mvT hZ (ow1 hw)) (mvT hZ (ow2 hw)) (mvT hZ (ow3 hw)) (by decide) (backOf (W := 0) (rm1 l Z a0 hw [] (fMax q1 bb) (fMax q3 q4) h0 n0 Z0 ) hZ (ow3 hw) (ow2 hw) (by decide) (by decide)) (g := (mkF m 66 #[.val (.long q1), .second, .val (.long bb), .second, .val (.long q3), .second, .val (.long q4), .second, .val (.long q5), .second, .val (.int p6), .val (.long (fMin q1 bb)), .second, .val (.long (fMax q1 bb)), .second, .val (.long (fMin q3 q4)), .second, .val (.long (fMax q3 q4)), .second, .val (.long (fMin (fMin q1 bb) (fMin q3 q4))), .second, .val (.long (fMax (fMin q1 bb) (fMin q3 q4))), .second, .unset, .unset, .unset, .unset, .unset, .unset, .unset, .unset, .unset, .unset, .unset, .unset, .unset, .unset, .unset] [(.long (fMax q3 q4)), (.long (fMax q1 bb))])) rfl (by rw [hml]; rfl) (argsL := [(.long (fMax q1 bb)), (.long (fMax q3 q4))]) (rest := []) (lenOf pd__JJ_J rfl) rfl (by show 2 * 0 + _ ≤ _; exact Nat.le_of_eq rfl) (hb hby at_66) (fun _ _ => ⟨rfl, eq119, (by decide : 0 + 0 ≤ _), (by decide : 0 + 0 ≤ _)⟩)
    dsimp only [Pt.U, Pt.locs, Pt.cells, Pt.slots] at X120 l120 y120 z120 st120 hQ120
    subst l120 y120 z120
    obtain ⟨rfl, N120q, eq120⟩ := hQ120
    have N120 := Fr.app N119 N120q
    refine Rch.go st120 ?_
    show Rch _ _ _ _ (T120.setTop (mkF m 69 #[.val (.long q1), .second, .val (.long bb), .second, .val (.long q3), .second, .val (.long q4), .second, .val (.long q5), .second, .val (.int p6), .val (.long (fMin q1 bb)), .second, .val (.long (fMax q1 bb)), .second, .val (.long (fMin q3 q4)), .second, .val (.long (fMax q3 q4)), .second, .val (.long (fMin (fMin q1 bb) (fMin q3 q4))), .second, .val (.long (fMax (fMin q1 bb) (fMin q3 q4))), .second, .unset, .unset, .unset, .unset, .unset, .unset, .unset, .unset, .unset, .unset, .unset, .unset, .unset, .unset, .unset] [(.long (fMin (fMax q1 bb) (fMax q3 q4)))]))
    refine Rch.go (fun zt zk => XS.lstore X120.here hx rfl (hb hby at_69) rfl (l' := #[.val (.long q1), .second, .val (.long bb), .second, .val (.long q3), .second, .val (.long q4), .second, .val (.long q5), .second, .val (.int p6), .val (.long (fMin q1 bb)), .second, .val (.long (fMax q1 bb)), .second, .val (.long (fMin q3 q4)), .second, .val (.long (fMax q3 q4)), .second, .val (.long (fMin (fMin q1 bb) (fMin q3 q4))), .second, .val (.long (fMax (fMin q1 bb) (fMin q3 q4))), .second, .val (.long (fMin (fMax q1 bb) (fMax q3 q4))), .second, .unset, .unset, .unset, .unset, .unset, .unset, .unset, .unset, .unset, .unset, .unset, .unset, .unset]) rfl zk) ?_
    show Rch _ _ _ _ (T120.setTop (mkF m 71 #[.val (.long q1), .second, .val (.long bb), .second, .val (.long q3), .second, .val (.long q4), .second, .val (.long q5), .second, .val (.int p6), .val (.long (fMin q1 bb)), .second, .val (.long (fMax q1 bb)), .second, .val (.long (fMin q3 q4)), .second, .val (.long (fMax q3 q4)), .second, .val (.long (fMin (fMin q1 bb) (fMin q3 q4))), .second, .val (.long (fMax (fMin q1 bb) (fMin q3 q4))), .second, .val (.long (fMin (fMax q1 bb) (fMax q3 q4))), .second, .unset, .unset, .unset, .unset, .unset, .unset, .unset, .unset, .unset, .unset, .unset, .unset, .unset] []))
    refine Rch.go (fun zt zk => XS.lload X120.here hx rfl (hb hby at_71) rfl zk) ?_
    show Rch _ _ _ _ (T120.setTop (mkF m 73 #[.val (.long q1), .second, .val (.long bb), .second, .val (.long q3), .second, .val (.long q4), .second, .val (.long q5), .second, .val (.int p6), .val (.long (fMin q1 bb)), .second, .val (.long (fMax q1 bb)), .second, .val (.long (fMin q3 q4)), .second, .val (.long (fMax q3 q4)), .second, .val (.long (fMin (fMin q1 bb) (fMin q3 q4))), .second, .val (.long (fMax (fMin q1 bb) (fMin q3 q4))), .second, .val (.long (fMin (fMax q1 bb) (fMax q3 q4))), .second, .unset, .unset, .unset, .unset, .unset, .unset, .unset, .unset, .unset, .unset, .unset, .unset, .unset] [(.long (fMax q1 bb))]))
    refine Rch.go (fun zt zk => XS.lload X120.here hx rfl (hb hby at_73) rfl zk) ?_
    show Rch _ _ _ _ (T120.setTop (mkF m 75 #[.val (.long q1), .second, .val (.long bb), .second, .val (.long q3), .second, .val (.long q4), .second, .val (.long q5), .second, .val (.int p6), .val (.long (fMin q1 bb)), .second, .val (.long (fMax q1 bb)), .second, .val (.long (fMin q3 q4)), .second, .val (.long (fMax q3 q4)), .second, .val (.long (fMin (fMin q1 bb) (fMin q3 q4))), .second, .val (.long (fMax (fMin q1 bb) (fMin q3 q4))), .second, .val (.long (fMin (fMax q1 bb) (fMax q3 q4))), .second, .unset, .unset, .unset, .unset, .unset, .unset, .unset, .unset, .unset, .unset, .unset, .unset, .unset] [(.long (fMax q3 q4)), (.long (fMax q1 bb))]))
    obtain ⟨_, _, ⟨T121, L121, k121, n121⟩, -, X121, ⟨Lc121, hQ121, l121, y121, z121⟩, st121⟩ := Jvm.LawKit.callS X120 hx (y := (⟨"java/lang/Math", "max", "(JJ)J"⟩ : MethodName)) hown (mvT hZ (ow4 hw)) (mvT hZ (ow5 hw)) (mvT hZ (ow2 hw)) (mvT hZ (ow6 hw)) (by decide) (backOf (W := 0) (rm2 l Z a0 hw [] (fMax q1 bb) (fMax q3 q4) h0 n0 Z0 ) hZ (ow6 hw) (ow2 hw) (by decide) (by decide)) (g := (mkF m 75 #[.val (.long q1), .second, .val (.long bb), .second, .val (.long q3), .second, .val (.long q4), .second, .val (.long q5), .second, .val (.int p6), .val (.long (fMin q1 bb)), .second, .val (.long (fMax q1 bb)), .second, .val (.long (fMin q3 q4)), .second, .val (.long (fMax q3 q4)), .second, .val (.long (fMin (fMin q1 bb) (fMin q3 q4))), .second, .val (.long (fMax (fMin q1 bb) (fMin q3 q4))), .second, .val (.long (fMin (fMax q1 bb) (fMax q3 q4))), .second, .unset, .unset, .unset, .unset, .unset, .unset, .unset, .unset, .unset, .unset, .unset, .unset, .unset] [(.long (fMax q3 q4)), (.long (fMax q1 bb))])) rfl (by rw [hml]; rfl) (argsL := [(.long (fMax q1 bb)), (.long (fMax q3 q4))]) (rest := []) (lenOf pd__JJ_J rfl) rfl (by show 2 * 0 + _ ≤ _; exact Nat.le_of_eq rfl) (hb hby at_75) (fun _ _ => ⟨rfl, eq120, (by decide : 0 + 0 ≤ _), (by decide : 0 + 0 ≤ _)⟩)
    dsimp only [Pt.U, Pt.locs, Pt.cells, Pt.slots] at X121 l121 y121 z121 st121 hQ121
    subst l121 y121 z121
    obtain ⟨rfl, N121q, eq121⟩ := hQ121
    have N121 := Fr.app N120 N121q
    refine Rch.go st121 ?_
    show Rch _ _ _ _ (T121.setTop (mkF m 78 #[.val (.long q1), .second, .val (.long bb), .second, .val (.long q3), .second, .val (.long q4), .second, .val (.long q5), .second, .val (.int p6), .val (.long (fMin q1 bb)), .second, .val (.long (fMax q1 bb)), .second, .val (.long (fMin q3 q4)), .second, .val (.long (fMax q3 q4)), .second, .val (.long (fMin (fMin q1 bb) (fMin q3 q4))), .second, .val (.long (fMax (fMin q1 bb) (fMin q3 q4))), .second, .val (.long (fMin (fMax q1 bb) (fMax q3 q4))), .second, .unset, .unset, .unset, .unset, .unset, .unset, .unset, .unset, .unset, .unset, .unset, .unset, .unset] [(.long (fMax (fMax q1 bb) (fMax q3 q4)))]))
    refine Rch.go (fun zt zk => XS.lstore X121.here hx rfl (hb hby at_78) rfl (l' := #[.val (.long q1), .second, .val (.long bb), .second, .val (.long q3), .second, .val (.long q4), .second, .val (.long q5), .second, .val (.int p6), .val (.long (fMin q1 bb)), .second, .val (.long (fMax q1 bb)), .second, .val (.long (fMin q3 q4)), .second, .val (.long (fMax q3 q4)), .second, .val (.long (fMin (fMin q1 bb) (fMin q3 q4))), .second, .val (.long (fMax (fMin q1 bb) (fMin q3 q4))), .second, .val (.long (fMin (fMax q1 bb) (fMax q3 q4))), .second, .val (.long (fMax (fMax q1 bb) (fMax q3 q4))), .second, .unset, .unset, .unset, .unset, .unset, .unset, .unset, .unset, .unset, .unset, .unset]) rfl zk) ?_
    show Rch _ _ _ _ (T121.setTop (mkF m 80 #[.val (.long q1), .second, .val (.long bb), .second, .val (.long q3), .second, .val (.long q4), .second, .val (.long q5), .second, .val (.int p6), .val (.long (fMin q1 bb)), .second, .val (.long (fMax q1 bb)), .second, .val (.long (fMin q3 q4)), .second, .val (.long (fMax q3 q4)), .second, .val (.long (fMin (fMin q1 bb) (fMin q3 q4))), .second, .val (.long (fMax (fMin q1 bb) (fMin q3 q4))), .second, .val (.long (fMin (fMax q1 bb) (fMax q3 q4))), .second, .val (.long (fMax (fMax q1 bb) (fMax q3 q4))), .second, .unset, .unset, .unset, .unset, .unset, .unset, .unset, .unset, .unset, .unset, .unset] []))
    refine Rch.go (fun zt zk => XS.lload X121.here hx rfl (hb hby at_80) rfl zk) ?_
    show Rch _ _ _ _ (T121.setTop (mkF m 82 #[.val (.long q1), .second, .val (.long bb), .second, .val (.long q3), .second, .val (.long q4), .second, .val (.long q5), .second, .val (.int p6), .val (.long (fMin q1 bb)), .second, .val (.long (fMax q1 bb)), .second, .val (.long (fMin q3 q4)), .second, .val (.long (fMax q3 q4)), .second, .val (.long (fMin (fMin q1 bb) (fMin q3 q4))), .second, .val (.long (fMax (fMin q1 bb) (fMin q3 q4))), .second, .val (.long (fMin (fMax q1 bb) (fMax q3 q4))), .second, .val (.long (fMax (fMax q1 bb) (fMax q3 q4))), .second, .unset, .unset, .unset, .unset, .unset, .unset, .unset, .unset, .unset, .unset, .unset] [(.long (fMin (fMax q1 bb) (fMax q3 q4)))]))
    refine Rch.go (fun zt zk => XS.lload X121.here hx rfl (hb hby at_82) rfl zk) ?_
    show Rch _ _ _ _ (T121.setTop (mkF m 84 #[.val (.long q1), .second, .val (.long bb), .second, .val (.long q3), .second, .val (.long q4), .second, .val (.long q5), .second, .val (.int p6), .val (.long (fMin q1 bb)), .second, .val (.long (fMax q1 bb)), .second, .val (.long (fMin q3 q4)), .second, .val (.long (fMax q3 q4)), .second, .val (.long (fMin (fMin q1 bb) (fMin q3 q4))), .second, .val (.long (fMax (fMin q1 bb) (fMin q3 q4))), .second, .val (.long (fMin (fMax q1 bb) (fMax q3 q4))), .second, .val (.long (fMax (fMax q1 bb) (fMax q3 q4))), .second, .unset, .unset, .unset, .unset, .unset, .unset, .unset, .unset, .unset, .unset, .unset] [(.long (fMax (fMin q1 bb) (fMin q3 q4))), (.long (fMin (fMax q1 bb) (fMax q3 q4)))]))
    obtain ⟨_, _, ⟨T122, L122, k122, n122⟩, -, X122, ⟨Lc122, hQ122, l122, y122, z122⟩, st122⟩ := Jvm.LawKit.callS X121 hx (y := (⟨"java/lang/Math", "min", "(JJ)J"⟩ : MethodName)) hown (mvT hZ (ow0 hw)) (mvT hZ (ow1 hw)) (mvT hZ (ow2 hw)) (mvT hZ (ow3 hw)) (by decide) (backOf (W := 0) (rm1 l Z a0 hw [] (fMin (fMax q1 bb) (fMax q3 q4)) (fMax (fMin q1 bb) (fMin q3 q4)) h0 n0 Z0 ) hZ (ow3 hw) (ow2 hw) (by decide) (by decide)) (g := (mkF m 84 #[.val (.long q1), .second, .val (.long bb), .second, .val (.long q3), .second, .val (.long q4), .second, .val (.long q5), .second, .val (.int p6), .val (.long (fMin q1 bb)), .second, .val (.long (fMax q1 bb)), .second, .val (.long (fMin q3 q4)), .second, .val (.long (fMax q3 q4)), .second, .val (.long (fMin (fMin q1 bb) (fMin q3 q4))), .second, .val (.long (fMax (fMin q1 bb) (fMin q3 q4))), .second, .val (.long (fMin (fMax q1 bb) (fMax q3 q4))), .second, .val (.long (fMax (fMax q1 bb) (fMax q3 q4))), .second, .unset, .unset, .unset, .unset, .unset, .unset, .unset, .unset, .unset, .unset, .unset] [(.long (fMax (fMin q1 bb) (fMin q3 q4))), (.long (fMin (fMax q1 bb) (fMax q3 q4)))])) rfl (by rw [hml]; rfl) (argsL := [(.long (fMin (fMax q1 bb) (fMax q3 q4))), (.long (fMax (fMin q1 bb) (fMin q3 q4)))]) (rest := []) (lenOf pd__JJ_J rfl) rfl (by show 2 * 0 + _ ≤ _; exact Nat.le_of_eq rfl) (hb hby at_84) (fun _ _ => ⟨rfl, eq121, (by decide : 0 + 0 ≤ _), (by decide : 0 + 0 ≤ _)⟩)
    dsimp only [Pt.U, Pt.locs, Pt.cells, Pt.slots] at X122 l122 y122 z122 st122 hQ122
    subst l122 y122 z122
    obtain ⟨rfl, N122q, eq122⟩ := hQ122
    have N122 := Fr.app N121 N122q
    refine Rch.go st122 ?_
    show Rch _ _ _ _ (T122.setTop (mkF m 87 #[.val (.long q1), .second, .val (.long bb), .second, .val (.long q3), .second, .val (.long q4), .second, .val (.long q5), .second, .val (.int p6), .val (.long (fMin q1 bb)), .second, .val (.long (fMax q1 bb)), .second, .val (.long (fMin q3 q4)), .second, .val (.long (fMax q3 q4)), .second, .val (.long (fMin (fMin q1 bb) (fMin q3 q4))), .second, .val (.long (fMax (fMin q1 bb) (fMin q3 q4))), .second, .val (.long (fMin (fMax q1 bb) (fMax q3 q4))), .second, .val (.long (fMax (fMax q1 bb) (fMax q3 q4))), .second, .unset, .unset, .unset, .unset, .unset, .unset, .unset, .unset, .unset, .unset, .unset] [(.long (fMin (fMin (fMax q1 bb) (fMax q3 q4)) (fMax (fMin q1 bb) (fMin q3 q4))))]))
    refine Rch.go (fun zt zk => XS.lstore X122.here hx rfl (hb hby at_87) rfl (l' := #[.val (.long q1), .second, .val (.long bb), .second, .val (.long q3), .second, .val (.long q4), .second, .val (.long q5), .second, .val (.int p6), .val (.long (fMin q1 bb)), .second, .val (.long (fMax q1 bb)), .second, .val (.long (fMin q3 q4)), .second, .val (.long (fMax q3 q4)), .second, .val (.long (fMin (fMin q1 bb) (fMin q3 q4))), .second, .val (.long (fMax (fMin q1 bb) (fMin q3 q4))), .second, .val (.long (fMin (fMax q1 bb) (fMax q3 q4))), .second, .val (.long (fMax (fMax q1 bb) (fMax q3 q4))), .second, .val (.long (fMin (fMin (fMax q1 bb) (fMax q3 q4)) (fMax (fMin q1 bb) (fMin q3 q4)))), .second, .unset, .unset, .unset, .unset, .unset, .unset, .unset, .unset, .unset]) rfl zk) ?_
    show Rch _ _ _ _ (T122.setTop (mkF m 89 #[.val (.long q1), .second, .val (.long bb), .second, .val (.long q3), .second, .val (.long q4), .second, .val (.long q5), .second, .val (.int p6), .val (.long (fMin q1 bb)), .second, .val (.long (fMax q1 bb)), .second, .val (.long (fMin q3 q4)), .second, .val (.long (fMax q3 q4)), .second, .val (.long (fMin (fMin q1 bb) (fMin q3 q4))), .second, .val (.long (fMax (fMin q1 bb) (fMin q3 q4))), .second, .val (.long (fMin (fMax q1 bb) (fMax q3 q4))), .second, .val (.long (fMax (fMax q1 bb) (fMax q3 q4))), .second, .val (.long (fMin (fMin (fMax q1 bb) (fMax q3 q4)) (fMax (fMin q1 bb) (fMin q3 q4)))), .second, .unset, .unset, .unset, .unset, .unset, .unset, .unset, .unset, .unset] []))
    refine Rch.go (fun zt zk => XS.lload X122.here hx rfl (hb hby at_89) rfl zk) ?_
    show Rch _ _ _ _ (T122.setTop (mkF m 91 #[.val (.long q1), .second, .val (.long bb), .second, .val (.long q3), .second, .val (.long q4), .second, .val (.long q5), .second, .val (.int p6), .val (.long (fMin q1 bb)), .second, .val (.long (fMax q1 bb)), .second, .val (.long (fMin q3 q4)), .second, .val (.long (fMax q3 q4)), .second, .val (.long (fMin (fMin q1 bb) (fMin q3 q4))), .second, .val (.long (fMax (fMin q1 bb) (fMin q3 q4))), .second, .val (.long (fMin (fMax q1 bb) (fMax q3 q4))), .second, .val (.long (fMax (fMax q1 bb) (fMax q3 q4))), .second, .val (.long (fMin (fMin (fMax q1 bb) (fMax q3 q4)) (fMax (fMin q1 bb) (fMin q3 q4)))), .second, .unset, .unset, .unset, .unset, .unset, .unset, .unset, .unset, .unset] [(.long (fMin (fMax q1 bb) (fMax q3 q4)))]))
    refine Rch.go (fun zt zk => XS.lload X122.here hx rfl (hb hby at_91) rfl zk) ?_
    show Rch _ _ _ _ (T122.setTop (mkF m 93 #[.val (.long q1), .second, .val (.long bb), .second, .val (.long q3), .second, .val (.long q4), .second, .val (.long q5), .second, .val (.int p6), .val (.long (fMin q1 bb)), .second, .val (.long (fMax q1 bb)), .second, .val (.long (fMin q3 q4)), .second, .val (.long (fMax q3 q4)), .second, .val (.long (fMin (fMin q1 bb) (fMin q3 q4))), .second, .val (.long (fMax (fMin q1 bb) (fMin q3 q4))), .second, .val (.long (fMin (fMax q1 bb) (fMax q3 q4))), .second, .val (.long (fMax (fMax q1 bb) (fMax q3 q4))), .second, .val (.long (fMin (fMin (fMax q1 bb) (fMax q3 q4)) (fMax (fMin q1 bb) (fMin q3 q4)))), .second, .unset, .unset, .unset, .unset, .unset, .unset, .unset, .unset, .unset] [(.long (fMax (fMin q1 bb) (fMin q3 q4))), (.long (fMin (fMax q1 bb) (fMax q3 q4)))]))
    obtain ⟨_, _, ⟨T123, L123, k123, n123⟩, -, X123, ⟨Lc123, hQ123, l123, y123, z123⟩, st123⟩ := Jvm.LawKit.callS X122 hx (y := (⟨"java/lang/Math", "max", "(JJ)J"⟩ : MethodName)) hown (mvT hZ (ow4 hw)) (mvT hZ (ow5 hw)) (mvT hZ (ow2 hw)) (mvT hZ (ow6 hw)) (by decide) (backOf (W := 0) (rm2 l Z a0 hw [] (fMin (fMax q1 bb) (fMax q3 q4)) (fMax (fMin q1 bb) (fMin q3 q4)) h0 n0 Z0 ) hZ (ow6 hw) (ow2 hw) (by decide) (by decide)) (g := (mkF m 93 #[.val (.long q1), .second, .val (.long bb), .second, .val (.long q3), .second, .val (.long q4), .second, .val (.long q5), .second, .val (.int p6), .val (.long (fMin q1 bb)), .second, .val (.long (fMax q1 bb)), .second, .val (.long (fMin q3 q4)), .second, .val (.long (fMax q3 q4)), .second, .val (.long (fMin (fMin q1 bb) (fMin q3 q4))), .second, .val (.long (fMax (fMin q1 bb) (fMin q3 q4))), .second, .val (.long (fMin (fMax q1 bb) (fMax q3 q4))), .second, .val (.long (fMax (fMax q1 bb) (fMax q3 q4))), .second, .val (.long (fMin (fMin (fMax q1 bb) (fMax q3 q4)) (fMax (fMin q1 bb) (fMin q3 q4)))), .second, .unset, .unset, .unset, .unset, .unset, .unset, .unset, .unset, .unset] [(.long (fMax (fMin q1 bb) (fMin q3 q4))), (.long (fMin (fMax q1 bb) (fMax q3 q4)))])) rfl (by rw [hml]; rfl) (argsL := [(.long (fMin (fMax q1 bb) (fMax q3 q4))), (.long (fMax (fMin q1 bb) (fMin q3 q4)))]) (rest := []) (lenOf pd__JJ_J rfl) rfl (by show 2 * 0 + _ ≤ _; exact Nat.le_of_eq rfl) (hb hby at_93) (fun _ _ => ⟨rfl, eq122, (by decide : 0 + 0 ≤ _), (by decide : 0 + 0 ≤ _)⟩)
    dsimp only [Pt.U, Pt.locs, Pt.cells, Pt.slots] at X123 l123 y123 z123 st123 hQ123
    subst l123 y123 z123
    obtain ⟨rfl, N123q, eq123⟩ := hQ123
    have N123 := Fr.app N122 N123q
    refine Rch.go st123 ?_
    show Rch _ _ _ _ (T123.setTop (mkF m 96 #[.val (.long q1), .second, .val (.long bb), .second, .val (.long q3), .second, .val (.long q4), .second, .val (.long q5), .second, .val (.int p6), .val (.long (fMin q1 bb)), .second, .val (.long (fMax q1 bb)), .second, .val (.long (fMin q3 q4)), .second, .val (.long (fMax q3 q4)), .second, .val (.long (fMin (fMin q1 bb) (fMin q3 q4))), .second, .val (.long (fMax (fMin q1 bb) (fMin q3 q4))), .second, .val (.long (fMin (fMax q1 bb) (fMax q3 q4))), .second, .val (.long (fMax (fMax q1 bb) (fMax q3 q4))), .second, .val (.long (fMin (fMin (fMax q1 bb) (fMax q3 q4)) (fMax (fMin q1 bb) (fMin q3 q4)))), .second, .unset, .unset, .unset, .unset, .unset, .unset, .unset, .unset, .unset] [(.long (fMax (fMin (fMax q1 bb) (fMax q3 q4)) (fMax (fMin q1 bb) (fMin q3 q4))))]))
    refine Rch.go (fun zt zk => XS.lstore X123.here hx rfl (hb hby at_96) rfl (l' := #[.val (.long q1), .second, .val (.long bb), .second, .val (.long q3), .second, .val (.long q4), .second, .val (.long q5), .second, .val (.int p6), .val (.long (fMin q1 bb)), .second, .val (.long (fMax q1 bb)), .second, .val (.long (fMin q3 q4)), .second, .val (.long (fMax q3 q4)), .second, .val (.long (fMin (fMin q1 bb) (fMin q3 q4))), .second, .val (.long (fMax (fMin q1 bb) (fMin q3 q4))), .second, .val (.long (fMin (fMax q1 bb) (fMax q3 q4))), .second, .val (.long (fMax (fMax q1 bb) (fMax q3 q4))), .second, .val (.long (fMin (fMin (fMax q1 bb) (fMax q3 q4)) (fMax (fMin q1 bb) (fMin q3 q4)))), .second, .val (.long (fMax (fMin (fMax q1 bb) (fMax q3 q4)) (fMax (fMin q1 bb) (fMin q3 q4)))), .second, .unset, .unset, .unset, .unset, .unset, .unset, .unset]) rfl zk) ?_
    show Rch _ _ _ _ (T123.setTop (mkF m 98 #[.val (.long q1), .second, .val (.long bb), .second, .val (.long q3), .second, .val (.long q4), .second, .val (.long q5), .second, .val (.int p6), .val (.long (fMin q1 bb)), .second, .val (.long (fMax q1 bb)), .second, .val (.long (fMin q3 q4)), .second, .val (.long (fMax q3 q4)), .second, .val (.long (fMin (fMin q1 bb) (fMin q3 q4))), .second, .val (.long (fMax (fMin q1 bb) (fMin q3 q4))), .second, .val (.long (fMin (fMax q1 bb) (fMax q3 q4))), .second, .val (.long (fMax (fMax q1 bb) (fMax q3 q4))), .second, .val (.long (fMin (fMin (fMax q1 bb) (fMax q3 q4)) (fMax (fMin q1 bb) (fMin q3 q4)))), .second, .val (.long (fMax (fMin (fMax q1 bb) (fMax q3 q4)) (fMax (fMin q1 bb) (fMin q3 q4)))), .second, .unset, .unset, .unset, .unset, .unset, .unset, .unset] []))
    exact j98 _ _ X123 eq123 N123 _ _ _ _ _ _ _ _ _ _ (own_sort _ _ _ _)
  refine Rch.go (fun zt zk => XS.iload X0.here hx rfl (hb hby at_0) rfl zk) ?_
  show Rch _ _ _ _ (s₁.setTop (mkF m 2 #[.val (.long q1), .second, .val (.long q2), .second, .val (.long q3), .second, .val (.long q4), .second, .val (.long q5), .second, .val (.int p6), .unset, .unset, .unset, .unset, .unset, .unset, .unset, .unset, .unset, .unset, .unset, .unset, .unset, .unset, .unset, .unset, .unset, .unset, .unset, .unset, .unset, .unset, .unset, .unset, .unset, .unset, .unset] [(.int p6)]))
  refine Rch.go (fun zt zk => XS.bipush X0.here hx rfl (hb hby at_2) zk) ?_
  show Rch _ _ _ _ (s₁.setTop (mkF m 4 #[.val (.long q1), .second, .val (.long q2), .second, .val (.long q3), .second, .val (.long q4), .second, .val (.long q5), .second, .val (.int p6), .unset, .unset, .unset, .unset, .unset, .unset, .unset, .unset, .unset, .unset, .unset, .unset, .unset, .unset, .unset, .unset, .unset, .unset, .unset, .unset, .unset, .unset, .unset, .unset, .unset, .unset, .unset] [(.int (9 : Int32)), (.int p6)]))
  refine Rch.go (fun zt zk => XS.iushr X0.here hx rfl (hb hby at_4) rfl zk) ?_
  show Rch _ _ _ _ (s₁.setTop (mkF m 5 #[.val (.long q1), .second, .val (.long q2), .second, .val (.long q3), .second, .val (.long q4), .second, .val (.long q5), .second, .val (.int p6), .unset, .unset, .unset, .unset, .unset, .unset, .unset, .unset, .unset, .unset, .unset, .unset, .unset, .unset, .unset, .unset, .unset, .unset, .unset, .unset, .unset, .unset, .unset, .unset, .unset, .unset, .unset] [(.int ((p6.toUInt32 >>> ((9 : Int32) &&& 31).toUInt32).toInt32))]))
  refine Rch.go (fun zt zk => XS.iconst X0.here hx rfl (hb hby at_5) zk) ?_
  show Rch _ _ _ _ (s₁.setTop (mkF m 6 #[.val (.long q1), .second, .val (.long q2), .second, .val (.long q3), .second, .val (.long q4), .second, .val (.long q5), .second, .val (.int p6), .unset, .unset, .unset, .unset, .unset, .unset, .unset, .unset, .unset, .unset, .unset, .unset, .unset, .unset, .unset, .unset, .unset, .unset, .unset, .unset, .unset, .unset, .unset, .unset, .unset, .unset, .unset] [(.int (1 : Int32)), (.int ((p6.toUInt32 >>> ((9 : Int32) &&& 31).toUInt32).toInt32))]))
  refine Rch.go (fun zt zk => XS.iand X0.here hx rfl (hb hby at_6) rfl zk) ?_
  show Rch _ _ _ _ (s₁.setTop (mkF m 7 #[.val (.long q1), .second, .val (.long q2), .second, .val (.long q3), .second, .val (.long q4), .second, .val (.long q5), .second, .val (.int p6), .unset, .unset, .unset, .unset, .unset, .unset, .unset, .unset, .unset, .unset, .unset, .unset, .unset, .unset, .unset, .unset, .unset, .unset, .unset, .unset, .unset, .unset, .unset, .unset, .unset, .unset, .unset] [(.int (((p6.toUInt32 >>> ((9 : Int32) &&& 31).toUInt32).toInt32) &&& (1 : Int32)))]))
  by_cases hc7_124 : (((p6.toUInt32 >>> ((9 : Int32) &&& 31).toUInt32).toInt32) &&& (1 : Int32)) = (0 : Int32)
  · skip
    refine Rch.go (fun zt zk => XS.ifYes X0.here hx rfl (pc0 := 7) (pc' := 12) rfl (hb hby at_7) rfl ((if0 _ _).trans (teq hc7_124).1) (by decide) (by decide) zk) ?_
    show Rch _ _ _ _ (s₁.setTop (mkF m 12 #[.val (.long q1), .second, .val (.long q2), .second, .val (.long q3), .second, .val (.long q4), .second, .val (.long q5), .second, .val (.int p6), .unset, .unset, .unset, .unset, .unset, .unset, .unset, .unset, .unset, .unset, .unset, .unset, .unset, .unset, .unset, .unset, .unset, .unset, .unset, .unset, .unset, .unset, .unset, .unset, .unset, .unset, .unset] []))
    exact j12 _ 
  · skip
    refine Rch.go (fun zt zk => XS.ifNo X0.here hx rfl (hb hby at_7) rfl ((if0 _ _).trans (feq hc7_124).1) zk) ?_
    show Rch _ _ _ _ (s₁.setTop (mkF m 10 #[.val (.long q1), .second, .val (.long q2), .second, .val (.long q3), .second, .val (.long q4), .second, .val (.long q5), .second, .val (.int p6), .unset, .unset, .unset, .unset, .unset, .unset, .unset, .unset, .unset, .unset, .unset, .unset, .unset, .unset, .unset, .unset, .unset, .unset, .unset, .unset, .unset, .unset, .unset, .unset, .unset, .unset, .unset] []))
    refine Rch.go (fun zt zk => XS.lloadN X0.here hx rfl (hb hby at_10) rfl zk) ?_
    show Rch _ _ _ _ (s₁.setTop (mkF m 11 #[.val (.long q1), .second, .val (.long q2), .second, .val (.long q3), .second, .val (.long q4), .second, .val (.long q5), .second, .val (.int p6), .unset, .unset, .unset, .unset, .unset, .unset, .unset, .unset, .unset, .unset, .unset, .unset, .unset, .unset, .unset, .unset, .unset, .unset, .unset, .unset, .unset, .unset, .unset, .unset, .unset, .unset, .unset] [(.long q1)]))
    refine Rch.go (fun zt zk => XS.lstoreN X0.here hx rfl (hb hby at_11) rfl (l' := #[.val (.long q1), .second, .val (.long q1), .second, .val (.long q3), .second, .val (.long q4), .second, .val (.long q5), .second, .val (.int p6), .unset, .unset, .unset, .unset, .unset, .unset, .unset, .unset, .unset, .unset, .unset, .unset, .unset, .unset, .unset, .unset, .unset, .unset, .unset, .unset, .unset, .unset, .unset, .unset, .unset, .unset, .unset]) rfl zk) ?_
    show Rch _ _ _ _ (s₁.setTop (mkF m 12 #[.val (.long q1), .second, .val (.long q1), .second, .val (.long q3), .second, .val (.long q4), .second, .val (.long q5), .second, .val (.int p6), .unset, .unset, .unset, .unset, .unset, .unset, .unset, .unset, .unset, .unset, .unset, .unset, .unset, .unset, .unset, .unset, .unset, .unset, .unset, .unset, .unset, .unset, .unset, .unset, .unset, .unset, .unset] []))
    exact j12 _ 
set_option maxRecDepth 65536 in
set_option maxHeartbeats 40000000 in
theorem comes_1 {Post : Tables → Env → Array Value → State → Outcome → State → Prop} (hpost : ∀ tb e args s v u, (limb_1_1.after args s (.returned v) u = true ∧ limb_1_2.after args s (.returned v) u = true ∧ True) → FrameEnd s (.returned v) u (Jvm.fieldLocs frame_1_writes args s ++ Jvm.arrayLocs frame_1_arrays args s ++ Jvm.staticLocs frame_1_statics s) 16 128 → Post tb e args s (.returned v) u) :
    ArmFor flags0 classFile x code maxLocals ret World_1 tables_1 room_1 Calls_1 rest_1 Pre_1 Post := by
  intro l hfl _ _ p e ha hc hk s m args below hf hA hF happ hP
  obtain ⟨hcalls, hrest, hpre⟩ := hP
  obtain ⟨-, -, -, hnamed, -, -, -, hat⟩ := (Spec.applies_iff hf).mp happ
  obtain ⟨hg, hn⟩ := and_e (Cond.before_iff.mp (show (Jvm.Cond.and given_1 narrow_1).before args s = true from hpre))
  obtain ⟨g1, g2⟩ := and_e hg
  obtain ⟨ga0, gb0⟩ := and_e g2
  obtain ⟨ga1, gb1⟩ := and_e gb0
  obtain ⟨ga2, gb2⟩ := and_e gb1
  obtain ⟨ga3, gb3⟩ := and_e gb2
  obtain ⟨ga4, gb4⟩ := and_e gb3
  obtain ⟨w0, w1, w2, w3, w4, w5, rfl⟩ : ∃ w0 w1 w2 w3 w4 w5 : Value, args = #[w0, w1, w2, w3, w4, w5] := by
    have hs : args.size = 6 := by simpa [Cond.value, given_1] using g1
    obtain ⟨L⟩ := args
    match L, hs with
    | [w0, w1, w2, w3, w4, w5], _ => exact ⟨w0, w1, w2, w3, w4, w5, rfl⟩
  have hw := fun d (hd : d ∈ tables_1) => atoms_spec (ws := Jvm.Cond.code x code maxLocals ret :: tables_1) hat d (List.mem_cons_of_mem _ hd)
  have hfit : Fit s := fun {y c} hc i hi => by
    obtain ⟨ha, rfl⟩ := Array.getElem?_eq_some_iff.mp hc
    have q := List.all_eq_true.mp ((Array.all_eq_true_iff_forall_mem.mp hF) _ (Array.getElem_mem ha)) i (List.mem_range.mpr hi)
    simpa [Array.getElem?_eq_getElem hi] using q
  obtain ⟨i0, ei0⟩ := isL_v ga0
  obtain rfl : w0 = (.long i0) := Option.some.inj ei0
  obtain ⟨i1, ei1⟩ := isL_v ga1
  obtain rfl : w1 = (.long i1) := Option.some.inj ei1
  obtain ⟨i2, ei2⟩ := isL_v ga2
  obtain rfl : w2 = (.long i2) := Option.some.inj ei2
  obtain ⟨i3, ei3⟩ := isL_v ga3
  obtain rfl : w3 = (.long i3) := Option.some.inj ei3
  obtain ⟨i4, ei4⟩ := isL_v ga4
  obtain rfl : w4 = (.long i4) := Option.some.inj ei4
  obtain ⟨i5, ei5⟩ := is_v gb4
  obtain rfl : w5 = (.int i5) := Option.some.inj ei5
  obtain ⟨n, o, h1, h2, h3, _, L, rfl, ⟨rfl, N⟩, hq⟩ := rm0 l s _ hw tables_1 i0 i1 i2 i3 i4 i5  s.heap s.heap.size (Nat.le_refl _)  p e ha hc hk s m _ below hf ((Spec.applies_iff_loose hf).mp happ).1 ⟨rfl, State.Warmed39.refl s, rfl⟩ trivial
  refine ⟨n, _, h1, h2, h3, hpost _ _ _ _ _ _ ⟨Cond.after_iff.mpr rfl, Cond.after_iff.mpr (eq_i res_at (Term.int_eval (1)) rfl), trivial⟩ ⟨hq.1, hq.2.1, (hq.2.2.sift fun y hy => Or.inr (N y hy)).mono (by decide) (by decide)⟩⟩
theorem main_1_1 : Claimed_1_1 := comes_1 fun _ _ _ _ _ _ h hF => ⟨h.1, hF⟩
theorem main_1_2 : Claimed_1_2 := comes_1 fun _ _ _ _ _ _ h hF => ⟨h.2.1, hF⟩
end Jvm.Pilot.@@N@@
namespace Jvm.Pilot.@@N@@
open Jvm Jvm.ClassFile Sem Op Lib Jvm.Free Jvm.Stand Jvm.Pilot.@@N@@.Jvm.D
/-! MADE BY PROGRAM (witnessworld.py) out of the Statement's table words and the real class files: 12 classes; the members and pool entries that the words name. The judged class is class 1, her method 1. -/
namespace start1
open Jvm.ClassFile
def u (s : String) : CpInfo := .utf8 (stringToUtf16 s)
/-- a pool by its gaps: so many unusable entries, then the entry; so many at the end -/
def gap : Nat → List CpInfo → List CpInfo
  | 0, r => r
  | n + 1, r => .unusable :: gap n r
def poolList (es : List (Nat × CpInfo)) (last : Nat) : List CpInfo := es.foldr (fun e r => gap e.1 (e.2 :: r)) (gap last [])
def pool (es : List (Nat × CpInfo)) (last : Nat) : Array CpInfo := ⟨poolList es last⟩
def fileOf (pool : Array CpInfo) (this : Nat) (attrs : Array Attribute := #[]) (ms : Array MethodInfo := #[]) (fl : Nat := 33) (sup : Nat := 0) (ifs : Array Nat := #[]) (fds : Array FieldInfo := #[]) : ClassFile where
  minorVersion := 0
  majorVersion := 65
  constantPool := pool
  accessFlags := fl
  thisClass := this
  superClass := sup
  interfaces := ifs
  fields := fds
  methods := ms
  attributes := attrs
def plain (name : String) (sup : Option ClassId) : Class where
  name := name
  kind := .ordinary
  loader := none
  accessFlags := 33
  super := sup
  interfaces := #[]
  cf := none
  fields := #[]
  methods := #[]
  instanceTypes := #[]
  staticTypes := #[]
  resolved := #[]
  callSites := []
  init := .initialized
  statics := none
  mirror := none

def pool0 : Array CpInfo := pool [(5, u "<init>"), (0, u "()V"), (1, .class_ 10), (1, u "java/lang/Object")] 113

def k0m0 : Method := { name := "<init>", desc := "()V", sig := { parameters := [], returnType := none }, accessFlags := 1, code := none }
/-- java/lang/Object -/
def k0 : Class := { plain "java/lang/Object" none with
  accessFlags := 33
  interfaces := #[]
  cf := some (fileOf pool0 8 #[] #[{ accessFlags := 1, nameIndex := 5, descriptorIndex := 6, attributes := #[] }] 33 0 #[] #[])
  fields := #[]
  methods := #[k0m0]
  instanceTypes := #[]
  staticTypes := #[]
  resolved := Array.replicate 124 none
  statics := none }

def pool1 : Array CpInfo := pool [(2, .class_ 4), (1, u "java/lang/Object"), (0, u "<init>"), (0, u "()V"), (0, .methodref 8 9), (0, .class_ 10), (0, .nameAndType 11 12), (0, u "java/lang/Math"), (0, u "min"), (0, u "(JJ)J"), (0, .methodref 8 14), (0, .nameAndType 15 12), (0, u "max"), (0, .methodref 17 18), (0, .class_ 19), (0, .nameAndType 20 21), (0, u "com/example/consistometer/consistometer/analysis/ChunkRunsPlaceAmongPinLaw"), (0, u "one"), (0, u "([JIIIJ)I"), (0, .methodref 23 24), (0, .class_ 25), (0, .nameAndType 26 27), (0, u "com/example/consistometer/consistometer/analysis/ChunkRuns"), (0, u "placeAmong"), (0, u "([JIIJ)I"), (2, u "law"), (0, u "(JJJJJI)Z")] 5

def k1m0 : Method := { name := "<init>", desc := "()V", sig := { parameters := [], returnType := none }, accessFlags := 1, code := none }
def k1c1 : Code := { maxStack := 7, maxLocals := 38, code := code, exceptionTable := #[], attributes := #[] }
def k1m1 : Method := { name := "law", desc := "(JJJJJI)Z", sig := { parameters := [.long, .long, .long, .long, .long, .int], returnType := some .boolean }, accessFlags := 9, code := some k1c1 }
def k1c2 : Code := { maxStack := 4, maxLocals := 6, code := method_3_code, exceptionTable := #[], attributes := #[] }
def k1m2 : Method := { name := "one", desc := "([JIIIJ)I", sig := { parameters := [(.array .long), .int, .int, .int, .long], returnType := some .int }, accessFlags := 10, code := some k1c2 }
/-- com/example/consistometer/consistometer/analysis/ChunkRunsPlaceAmongPinLaw -/
def k1 : Class := { plain "com/example/consistometer/consistometer/analysis/ChunkRunsPlaceAmongPinLaw" (some 0) with
  accessFlags := 49
  interfaces := #[]
  cf := some (fileOf pool1 17 #[] #[{ accessFlags := 1, nameIndex := 5, descriptorIndex := 6, attributes := #[] }, { accessFlags := 9, nameIndex := 30, descriptorIndex := 31, attributes := #[] }, { accessFlags := 10, nameIndex := 20, descriptorIndex := 21, attributes := #[] }] 49 2 #[] #[])
  fields := #[]
  methods := #[k1m0, k1m1, k1m2]
  instanceTypes := #[]
  staticTypes := #[]
  resolved := Array.replicate 37 none
  statics := none }

def pool2 : Array CpInfo := pool [(1, .class_ 2), (0, u "java/lang/Math"), (1, .class_ 6), (1, u "java/lang/Object"), (0, u "<init>"), (0, u "()V"), (89, .class_ 100), (1, u "java/lang/Math$RandomNumberGeneratorHolder"), (20, u "(JJ)J"), (50, u "negativeZeroFloatBits"), (0, u "J"), (2, u "negativeZeroDoubleBits"), (21, u "max"), (2, u "min"), (43, u "$assertionsDisabled"), (0, u "Z"), (91, u "twoToTheDoubleScaleDown"), (0, u "D"), (4, u "twoToTheDoubleScaleUp"), (9, u "E"), (3, u "PI"), (2, u "TAU"), (2, u "DEGREES_TO_RADIANS"), (0, u "RADIANS_TO_DEGREES")] 94

def k2m0 : Method := { name := "<init>", desc := "()V", sig := { parameters := [], returnType := none }, accessFlags := 2, code := none }
def k2c1 : Code := { maxStack := 4, maxLocals := 4, code := jdk_29_method_66_code, exceptionTable := #[], attributes := #[] }
def k2m1 : Method := { name := "max", desc := "(JJ)J", sig := { parameters := [.long, .long], returnType := some .long }, accessFlags := 9, code := some k2c1 }
def k2c2 : Code := { maxStack := 4, maxLocals := 4, code := jdk_29_method_70_code, exceptionTable := #[], attributes := #[] }
def k2m2 : Method := { name := "min", desc := "(JJ)J", sig := { parameters := [.long, .long], returnType := some .long }, accessFlags := 9, code := some k2c2 }
/-- java/lang/Math -/
def k2 : Class := { plain "java/lang/Math" (some 0) with
  accessFlags := 49
  interfaces := #[]
  cf := some (fileOf pool2 1 #[.nestMembers #[98]] #[{ accessFlags := 2, nameIndex := 7, descriptorIndex := 8, attributes := #[] }, { accessFlags := 9, nameIndex := 198, descriptorIndex := 121, attributes := #[] }, { accessFlags := 9, nameIndex := 201, descriptorIndex := 121, attributes := #[] }] 49 4 #[] #[{ accessFlags := 25, nameIndex := 354, descriptorIndex := 339, attributes := #[] }, { accessFlags := 25, nameIndex := 358, descriptorIndex := 339, attributes := #[] }, { accessFlags := 25, nameIndex := 361, descriptorIndex := 339, attributes := #[] }, { accessFlags := 26, nameIndex := 364, descriptorIndex := 339, attributes := #[] }, { accessFlags := 26, nameIndex := 365, descriptorIndex := 339, attributes := #[] }, { accessFlags := 26, nameIndex := 172, descriptorIndex := 173, attributes := #[] }, { accessFlags := 26, nameIndex := 176, descriptorIndex := 173, attributes := #[] }, { accessFlags := 8, nameIndex := 344, descriptorIndex := 339, attributes := #[] }, { accessFlags := 8, nameIndex := 338, descriptorIndex := 339, attributes := #[] }, { accessFlags := 4120, nameIndex := 245, descriptorIndex := 246, attributes := #[] }])
  fields := #[{ name := "E", type := .double, accessFlags := 25, slot := 0, constantValue := 0 }, { name := "PI", type := .double, accessFlags := 25, slot := 1, constantValue := 0 }, { name := "TAU", type := .double, accessFlags := 25, slot := 2, constantValue := 0 }, { name := "DEGREES_TO_RADIANS", type := .double, accessFlags := 26, slot := 3, constantValue := 0 }, { name := "RADIANS_TO_DEGREES", type := .double, accessFlags := 26, slot := 4, constantValue := 0 }, { name := "negativeZeroFloatBits", type := .long, accessFlags := 26, slot := 5, constantValue := 0 }, { name := "negativeZeroDoubleBits", type := .long, accessFlags := 26, slot := 6, constantValue := 0 }, { name := "twoToTheDoubleScaleUp", type := .double, accessFlags := 8, slot := 7, constantValue := 0 }, { name := "twoToTheDoubleScaleDown", type := .double, accessFlags := 8, slot := 8, constantValue := 0 }, { name := "$assertionsDisabled", type := .boolean, accessFlags := 4120, slot := 9, constantValue := 0 }]
  methods := #[k2m0, k2m1, k2m2]
  instanceTypes := #[]
  staticTypes := #[.double, .double, .double, .double, .double, .long, .long, .double, .double, .boolean]
  resolved := Array.replicate 460 none
  statics := none }

def pool3 : Array CpInfo := pool [(2, .class_ 4), (1, u "java/lang/Object"), (6, u "size"), (2, .class_ 16), (1, u "com/example/consistometer/consistometer/analysis/ChunkRuns"), (0, u "runs"), (0, u "I"), (2, u "firstOfRun"), (0, u "[I"), (15, u "initial"), (2, u "starts"), (0, u "[J"), (2, u "finishes"), (2, u "runOf"), (62, u "byFinish"), (3, u "byStart"), (6, u "finishRank"), (2, u "startRank"), (6, u "sortedStarts"), (7, u "runStarts"), (2, u "runFinishes"), (2, u "latestStart"), (2, u "earliestFinish"), (5, u "startsNotAfterFinish"), (2, u "finishesBeforeStart"), (2, u "ownPreceding"), (2, u "ownInversions"), (3, u "([JIIJ)I"), (10, u "byLatestStart"), (2, u "latestStartRank"), (61, .class_ 245), (0, u "com/example/consistometer/consistometer/analysis/ChunkRuns$Placement"), (22, u "placeAmong")] 59

def k3c0 : Code := { maxStack := 4, maxLocals := 8, code := prog_3_method_7_code, exceptionTable := #[], attributes := #[] }
def k3m0 : Method := { name := "placeAmong", desc := "([JIIJ)I", sig := { parameters := [(.array .long), .int, .int, .long], returnType := some .int }, accessFlags := 8, code := some k3c0 }
/-- com/example/consistometer/consistometer/analysis/ChunkRuns -/
def k3 : Class := { plain "com/example/consistometer/consistometer/analysis/ChunkRuns" (some 0) with
  accessFlags := 48
  interfaces := #[]
  cf := some (fileOf pool3 14 #[.nestMembers #[244]] #[{ accessFlags := 8, nameIndex := 268, descriptorIndex := 168, attributes := #[] }] 48 2 #[] #[{ accessFlags := 18, nameIndex := 11, descriptorIndex := 18, attributes := #[] }, { accessFlags := 18, nameIndex := 17, descriptorIndex := 18, attributes := #[] }, { accessFlags := 18, nameIndex := 41, descriptorIndex := 42, attributes := #[] }, { accessFlags := 18, nameIndex := 45, descriptorIndex := 42, attributes := #[] }, { accessFlags := 18, nameIndex := 48, descriptorIndex := 22, attributes := #[] }, { accessFlags := 18, nameIndex := 21, descriptorIndex := 22, attributes := #[] }, { accessFlags := 18, nameIndex := 38, descriptorIndex := 18, attributes := #[] }, { accessFlags := 18, nameIndex := 111, descriptorIndex := 22, attributes := #[] }, { accessFlags := 18, nameIndex := 115, descriptorIndex := 22, attributes := #[] }, { accessFlags := 18, nameIndex := 122, descriptorIndex := 22, attributes := #[] }, { accessFlags := 18, nameIndex := 125, descriptorIndex := 22, attributes := #[] }, { accessFlags := 18, nameIndex := 132, descriptorIndex := 42, attributes := #[] }, { accessFlags := 18, nameIndex := 155, descriptorIndex := 22, attributes := #[] }, { accessFlags := 18, nameIndex := 158, descriptorIndex := 22, attributes := #[] }, { accessFlags := 18, nameIndex := 161, descriptorIndex := 22, attributes := #[] }, { accessFlags := 18, nameIndex := 164, descriptorIndex := 22, attributes := #[] }, { accessFlags := 18, nameIndex := 140, descriptorIndex := 42, attributes := #[] }, { accessFlags := 18, nameIndex := 143, descriptorIndex := 42, attributes := #[] }, { accessFlags := 18, nameIndex := 146, descriptorIndex := 42, attributes := #[] }, { accessFlags := 18, nameIndex := 149, descriptorIndex := 42, attributes := #[] }, { accessFlags := 18, nameIndex := 179, descriptorIndex := 22, attributes := #[] }, { accessFlags := 18, nameIndex := 182, descriptorIndex := 22, attributes := #[] }])
  fields := #[{ name := "size", type := .int, accessFlags := 18, slot := 0, constantValue := 0 }, { name := "runs", type := .int, accessFlags := 18, slot := 1, constantValue := 0 }, { name := "starts", type := (.array .long), accessFlags := 18, slot := 2, constantValue := 0 }, { name := "finishes", type := (.array .long), accessFlags := 18, slot := 3, constantValue := 0 }, { name := "runOf", type := (.array .int), accessFlags := 18, slot := 4, constantValue := 0 }, { name := "firstOfRun", type := (.array .int), accessFlags := 18, slot := 5, constantValue := 0 }, { name := "initial", type := .int, accessFlags := 18, slot := 6, constantValue := 0 }, { name := "byFinish", type := (.array .int), accessFlags := 18, slot := 7, constantValue := 0 }, { name := "byStart", type := (.array .int), accessFlags := 18, slot := 8, constantValue := 0 }, { name := "finishRank", type := (.array .int), accessFlags := 18, slot := 9, constantValue := 0 }, { name := "startRank", type := (.array .int), accessFlags := 18, slot := 10, constantValue := 0 }, { name := "sortedStarts", type := (.array .long), accessFlags := 18, slot := 11, constantValue := 0 }, { name := "startsNotAfterFinish", type := (.array .int), accessFlags := 18, slot := 12, constantValue := 0 }, { name := "finishesBeforeStart", type := (.array .int), accessFlags := 18, slot := 13, constantValue := 0 }, { name := "ownPreceding", type := (.array .int), accessFlags := 18, slot := 14, constantValue := 0 }, { name := "ownInversions", type := (.array .int), accessFlags := 18, slot := 15, constantValue := 0 }, { name := "runStarts", type := (.array .long), accessFlags := 18, slot := 16, constantValue := 0 }, { name := "runFinishes", type := (.array .long), accessFlags := 18, slot := 17, constantValue := 0 }, { name := "latestStart", type := (.array .long), accessFlags := 18, slot := 18, constantValue := 0 }, { name := "earliestFinish", type := (.array .long), accessFlags := 18, slot := 19, constantValue := 0 }, { name := "byLatestStart", type := (.array .int), accessFlags := 18, slot := 20, constantValue := 0 }, { name := "latestStartRank", type := (.array .int), accessFlags := 18, slot := 21, constantValue := 0 }]
  methods := #[k3m0]
  instanceTypes := #[.int, .int, (.array .long), (.array .long), (.array .int), (.array .int), .int, (.array .int), (.array .int), (.array .int), (.array .int), (.array .long), (.array .int), (.array .int), (.array .int), (.array .int), (.array .long), (.array .long), (.array .long), (.array .long), (.array .int), (.array .int)]
  staticTypes := #[]
  resolved := Array.replicate 328 none
  statics := none }

def pool4 : Array CpInfo := pool [(1, u "java/lang/Cloneable"), (0, .class_ 1), (0, u "java/lang/Object"), (0, .class_ 3)] 3

/-- java/lang/Cloneable -/
def k4 : Class := { plain "java/lang/Cloneable" (some 0) with
  accessFlags := 1537
  interfaces := #[]
  cf := some (fileOf pool4 2 #[] #[] 1537 4 #[] #[])
  fields := #[]
  methods := #[]
  instanceTypes := #[]
  staticTypes := #[]
  resolved := Array.replicate 8 none
  statics := none }

def pool5 : Array CpInfo := pool [(1, u "java/io/Serializable"), (0, .class_ 1), (0, u "java/lang/Object"), (0, .class_ 3)] 3

/-- java/io/Serializable -/
def k5 : Class := { plain "java/io/Serializable" (some 0) with
  accessFlags := 1537
  interfaces := #[]
  cf := some (fileOf pool5 2 #[] #[] 1537 4 #[] #[])
  fields := #[]
  methods := #[]
  instanceTypes := #[]
  staticTypes := #[]
  resolved := Array.replicate 8 none
  statics := none }

/-- the primitive byte -/
def k6 : Class := { plain "byte" none with kind := .primitive 'B', accessFlags := 0x411 }
/-- [B -/
def k7 : Class := { plain "[B" (some 0) with kind := .array 6 .byte, interfaces := #[4, 5], accessFlags := 1041 }

/-- the primitive int -/
def k8 : Class := { plain "int" none with kind := .primitive 'I', accessFlags := 0x411 }
/-- [I -/
def k9 : Class := { plain "[I" (some 0) with kind := .array 8 .int, interfaces := #[4, 5], accessFlags := 1041 }

/-- the primitive long -/
def k10 : Class := { plain "long" none with kind := .primitive 'J', accessFlags := 0x411 }
/-- [J -/
def k11 : Class := { plain "[J" (some 0) with kind := .array 10 .long, interfaces := #[4, 5], accessFlags := 1041 }

def heap : Heap := #[]
def classes : Array Class := #[k0, k1, k2, k3, k4, k5, k6, k7, k8, k9, k10, k11]
def interned : List (Array UInt16 × Addr) := []
def slotsUsed : Nat := 0
def theMethod : MethodId := ⟨1, 1⟩
def args0 : Array Value := #[.long 5, .long 3, .long 1, .long 2, .long 3, .int 0]
def aboutOver (below : List Frame) : State where
  vm := { classes := classes, interned := interned.toArray }
  heap := heap
  slotsUsed := slotsUsed
  threads := #[{ frames := .invoking theMethod args0 :: below }]
def below0 : List Frame := [.native { method := ⟨0, 0⟩, args := #[] }]
def about1 : State := aboutOver below0
def p0 : Program := .bare "" "" ""
def e0 : Env := launch0.env 0 0 0
theorem w_frames : about1.frames = Frame.invoking theMethod args0 :: below0 := rfl
set_option maxRecDepth 65536 in
theorem w_args : argsFit about1.vm theMethod args0 = true := by decide +kernel
set_option maxRecDepth 65536 in
theorem w_heap : heapFits about1 = true := by decide +kernel
set_option maxRecDepth 65536 in
theorem w_runnable : about1.curStatus? = some .runnable := by decide +kernel
set_option maxRecDepth 65536 in
theorem w_alone : about1.alone = true := by decide +kernel
set_option maxRecDepth 65536 in
theorem w_named : about1.methodNamed? x = some theMethod := by decide +kernel
set_option maxRecDepth 65536 in
theorem w_hears : about1.hears theMethod below0 = true := by decide +kernel
set_option maxRecDepth 65536 in
theorem w_ripe : about1.ripe theMethod args0 below0 = true := by decide +kernel
theorem w_running : about1.status = .running := rfl
set_option maxRecDepth 65536 in
theorem w_room : about1.hasRoom e0.platform room_1 = true :=
  launch0.hasRoom_least _ room_1 (by decide +kernel) (by decide +kernel) (by decide +kernel) (by decide +kernel) (by decide +kernel) (by decide +kernel)
theorem allAtoms_all (ts : List Jvm.Cond) (a : Array Jvm.Value) (st : Jvm.State) : (allAtoms ts).before a st = ts.all (fun c => c.before a st) := by
  induction ts with
  | nil => rfl
  | cons c t ih =>
    show (Jvm.Cond.and c (allAtoms t)).before a st = _
    rw [Jvm.Cond.before_and, ih, List.all_cons]
def words1 : List Jvm.Cond := Jvm.Cond.code x code maxLocals ret :: tables_1
/-- a 'code' word, met by the world's own term for the bytes: nothing is compared byte by byte -/
theorem code_word {y : MethodName} {bytes : ByteArray} {mx : Nat} {rt : Option FieldType} {a : Array Value} {s : State} {m : MethodId} {meth : Method} {c : Code} (h1 : s.methodNamed? y = some m) (h2 : s.vm.method? m = some meth) (h3 : meth.code = some c) (h4 : c.code = bytes)
    (h5 : (c.maxLocals == mx && c.exceptionTable.isEmpty && decide (c.maxStack ≤ mostOperands) && decide (meth.sig.returnType = rt) && !meth.locks && decide (parseMethodDescriptor y.desc = some meth.sig)) = true) : (Jvm.Cond.code y bytes mx rt).before a s = true := by
  simp only [Bool.and_eq_true, beq_iff_eq, Bool.not_eq_true', decide_eq_true_eq] at h5
  obtain ⟨⟨⟨⟨⟨g1, g2⟩, g3⟩, g4⟩, g5⟩, g6⟩ := h5
  simp [Cond.before, Cond.holds, Cond.value, h1, h2, h3, h4, g1, g2, g3, g4, g5, g6]
def isCode : Jvm.Cond → Bool
  | .code _ _ _ _ => true
  | _ => false
theorem all_split {L : List Jvm.Cond} {P : Jvm.Cond → Bool} (h1 : L.all (fun c => isCode c || P c) = true) (h2 : ∀ c ∈ L.filter isCode, P c = true) : L.all P = true := by
  refine List.all_eq_true.mpr fun c hc => ?_
  have h := List.all_eq_true.mp h1 c hc
  rcases Bool.eq_false_or_eq_true (isCode c) with hi | hi
  · exact h2 c (List.mem_filter.mpr ⟨hc, hi⟩)
  · simpa [hi] using h
set_option maxRecDepth 65536 in
theorem w_c0 : (Jvm.Cond.code x code maxLocals ret).before args0 about1 = true := code_word (m := ⟨1, 1⟩) (meth := k1m1) (c := k1c1) (by decide +kernel) rfl rfl rfl (by decide +kernel)
set_option maxRecDepth 65536 in
theorem w_c1 : (Jvm.Cond.code ({ cls := "java/lang/Math", name := "min", desc := "(JJ)J" } : Jvm.MethodName) jdk_29_method_70_code (4 : Nat) (Option.some Jvm.ClassFile.FieldType.long)).before args0 about1 = true := code_word (m := ⟨2, 2⟩) (meth := k2m2) (c := k2c2) (by decide +kernel) rfl rfl rfl (by decide +kernel)
set_option maxRecDepth 65536 in
theorem w_c2 : (Jvm.Cond.code ({ cls := "java/lang/Math", name := "max", desc := "(JJ)J" } : Jvm.MethodName) jdk_29_method_66_code (4 : Nat) (Option.some Jvm.ClassFile.FieldType.long)).before args0 about1 = true := code_word (m := ⟨2, 1⟩) (meth := k2m1) (c := k2c1) (by decide +kernel) rfl rfl rfl (by decide +kernel)
set_option maxRecDepth 65536 in
theorem w_c3 : (Jvm.Cond.code ({ cls := "com/example/consistometer/consistometer/analysis/ChunkRunsPlaceAmongPinLaw", name := "one", desc := "([JIIIJ)I" } : Jvm.MethodName) method_3_code (6 : Nat) (Option.some Jvm.ClassFile.FieldType.int)).before args0 about1 = true := code_word (m := ⟨1, 2⟩) (meth := k1m2) (c := k1c2) (by decide +kernel) rfl rfl rfl (by decide +kernel)
set_option maxRecDepth 65536 in
theorem w_c4 : (Jvm.Cond.code ({ cls := "com/example/consistometer/consistometer/analysis/ChunkRuns", name := "placeAmong", desc := "([JIIJ)I" } : Jvm.MethodName) prog_3_method_7_code (8 : Nat) (Option.some Jvm.ClassFile.FieldType.int)).before args0 about1 = true := code_word (m := ⟨3, 0⟩) (meth := k3m0) (c := k3c0) (by decide +kernel) rfl rfl rfl (by decide +kernel)
def codes1 : List Jvm.Cond := [Jvm.Cond.code x code maxLocals ret, Jvm.Cond.code ({ cls := "java/lang/Math", name := "min", desc := "(JJ)J" } : Jvm.MethodName) jdk_29_method_70_code (4 : Nat) (Option.some Jvm.ClassFile.FieldType.long), Jvm.Cond.code ({ cls := "java/lang/Math", name := "max", desc := "(JJ)J" } : Jvm.MethodName) jdk_29_method_66_code (4 : Nat) (Option.some Jvm.ClassFile.FieldType.long), Jvm.Cond.code ({ cls := "com/example/consistometer/consistometer/analysis/ChunkRunsPlaceAmongPinLaw", name := "one", desc := "([JIIIJ)I" } : Jvm.MethodName) method_3_code (6 : Nat) (Option.some Jvm.ClassFile.FieldType.int), Jvm.Cond.code ({ cls := "com/example/consistometer/consistometer/analysis/ChunkRuns", name := "placeAmong", desc := "([JIIJ)I" } : Jvm.MethodName) prog_3_method_7_code (8 : Nat) (Option.some Jvm.ClassFile.FieldType.int)]
set_option maxRecDepth 65536 in
theorem codes_eq : words1.filter isCode = codes1 := rfl
theorem w_codes : ∀ c ∈ words1.filter isCode, c.before args0 about1 = true := by
  rw [codes_eq]
  intro c hc
  simp only [codes1, List.mem_cons, List.not_mem_nil, or_false] at hc
  rcases hc with rfl | rfl | rfl | rfl | rfl
  · exact w_c0
  · exact w_c1
  · exact w_c2
  · exact w_c3
  · exact w_c4
set_option maxRecDepth 65536 in
theorem w_t1 : words1.all (fun c => isCode c || c.before args0 about1) = true := by decide +kernel
theorem w_tables : (allAtoms (Jvm.Cond.code x code maxLocals ret :: tables_1)).before args0 about1 = true := by
  rw [allAtoms_all]
  show words1.all (fun c => c.before args0 about1) = true
  refine all_split ?_ w_codes
  rw [w_t1]
set_option maxRecDepth 65536 in
theorem w_case : (Jvm.Cond.and given_1 narrow_1).before args0 about1 = true := by decide +kernel
theorem w_applies : (headSpec (Jvm.Cond.code x code maxLocals ret :: tables_1) room_1).applies x e0.platform about1 = true :=
  (Spec.applies_iff w_frames).mpr ⟨w_running, w_runnable, w_alone, w_named, w_hears, w_ripe, w_room, w_tables⟩
theorem atStart : AtStart classFile x code maxLocals ret World_1 tables_1 room_1 Calls_1 rest_1 Pre_1 launch0 p0 e0 about1 theMethod args0 below0 :=
  ⟨lists_1, trivial, launch0.admits_env _ _ _, launch0.least_env, fairChoices_fair.cas, fairChoices_fair.clock, w_frames, w_args, w_heap, w_applies, trivial, trivial, w_case⟩
end start1
theorem witness_1 : WitnessClaimed_1 := ⟨start1.p0, start1.e0, start1.about1, start1.theMethod, start1.args0, start1.below0, start1.atStart⟩
end Jvm.Pilot.@@N@@
