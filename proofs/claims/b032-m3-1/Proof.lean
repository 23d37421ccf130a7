import JvmDerived
import JvmDerived.Pilot.@@N@@Statement
import JvmDerived.Pilot.@@N@@Code
set_option linter.unusedVariables false
set_option linter.unusedSimpArgs false
namespace Jvm.RoadKit
open Sem ClassFile Op Lib Jvm.Stand Jvm.Free Jvm.LawKit
section New
variable {p : Program} {l : Launch} {e : Env} {R : Room} {s : State} {m : MethodId} {args : Array Value} {below : List Frame} {meth : Method} {c : Code} {T : State} {locs : List Loc} {cells slots : Nat}
theorem retI (X : Stand p l e R s m args below meth c T locs cells slots) (hx : p.tables.exec = Jvm.exec) {pc : Nat} {Ls : Array Slot} {z : Int32} {rest : List Value} (hret : meth.sig.returnType = some .int) (hd : decode c.code pc = .ok (.ireturn, 1)) {fs : List Frame}
    (hl : ∀ (f : JFrame) (acts : List Action), f.method = m → f.locked = none → f.entered = [] → (doReturn e (T.setTop f) acts (some (.int z))).1 = T.setFrames fs) : Steps p.tables e below (T.setTop (mkF m pc Ls (.int z :: rest))) (T.setFrames fs) := by
  have hm' : T.vm.method? m = some meth := X.method'
  have hn : narrow .int (.int z) = .int z := rfl
  show Steps p.tables e below (T.setTop { method := m, pc := pc, locals := Ls, stack := _ :: rest, locked := none }) _
  jvm_step X.here [X.here.top, hx, hd, hm', hret, hn]
  first | (intro acts; rw [hl _ acts rfl rfl rfl]) | rw [hl _ _ rfl rfl rfl]
  exact Steps.refl _
end New
end Jvm.RoadKit
namespace Jvm.Pilot.@@N@@
open Jvm Jvm.ClassFile Sem Op Lib Jvm.Free Jvm.Stand Jvm.LawKit Jvm.RoadKit Bundle Jvm.Pilot.@@N@@.Jvm.D
def Rch (tb : Tables) (e : Env) (below : List Frame) (P : State → Prop) (st : State) : Prop := ∃ t, Steps tb e below st t ∧ P t
theorem Rch.go {tb : Tables} {e : Env} {below : List Frame} {P : State → Prop} {st st' : State} (h : ∀ t, Steps tb e below st' t → Steps tb e below st t) (k : Rch tb e below P st') : Rch tb e below P st := by
  obtain ⟨t, h1, h2⟩ := k
  exact ⟨t, h t h1, h2⟩
theorem Rch.mk {tb : Tables} {e : Env} {below : List Frame} {P : State → Prop} {st t : State} (h : Steps tb e below st t) (k : P t) : Rch tb e below P st := ⟨t, h, k⟩
theorem ow0 {a0 : Array Value} {Z : State} (hw : ∀ d ∈ tables_1, d.before a0 Z = true) : (Jvm.Cond.constant "com/example/consistometer/consistometer/analysis/VerdictAndPinLaw" (7 : Nat) (2147483647 : Int32)).before a0 Z = true := hw _ (List.mem_of_getElem? (i := 0) rfl)
theorem ow1 {a0 : Array Value} {Z : State} (hw : ∀ d ∈ tables_1, d.before a0 Z = true) : (Jvm.Cond.methodLink "com/example/consistometer/consistometer/analysis/VerdictAndPinLaw" (8 : Nat) ({ cls := "com/example/consistometer/consistometer/analysis/VerdictAndPinLaw", name := "ofRank", desc := "(I)Lcom/example/consistometer/consistometer/analysis/Property$Verdict;" } : Jvm.MethodName)).before a0 Z = true := hw _ (List.mem_of_getElem? (i := 1) rfl)
theorem ow2 {a0 : Array Value} {Z : State} (hw : ∀ d ∈ tables_1, d.before a0 Z = true) : (Jvm.Cond.static ({ cls := "com/example/consistometer/consistometer/analysis/VerdictAndPinLaw", name := "ofRank", desc := "(I)Lcom/example/consistometer/consistometer/analysis/Property$Verdict;" } : Jvm.MethodName)).before a0 Z = true := hw _ (List.mem_of_getElem? (i := 2) rfl)
theorem ow3 {a0 : Array Value} {Z : State} (hw : ∀ d ∈ tables_1, d.before a0 Z = true) : (Jvm.Cond.initialized "com/example/consistometer/consistometer/analysis/VerdictAndPinLaw").before a0 Z = true := hw _ (List.mem_of_getElem? (i := 3) rfl)
theorem ow4 {a0 : Array Value} {Z : State} (hw : ∀ d ∈ tables_1, d.before a0 Z = true) : (Jvm.Cond.code ({ cls := "com/example/consistometer/consistometer/analysis/VerdictAndPinLaw", name := "ofRank", desc := "(I)Lcom/example/consistometer/consistometer/analysis/Property$Verdict;" } : Jvm.MethodName) method_3_code (1 : Nat) (Option.some (Jvm.ClassFile.FieldType.object "com/example/consistometer/consistometer/analysis/Property$Verdict"))).before a0 Z = true := hw _ (List.mem_of_getElem? (i := 4) rfl)
theorem ow5 {a0 : Array Value} {Z : State} (hw : ∀ d ∈ tables_1, d.before a0 Z = true) : (Jvm.Cond.fieldLink "com/example/consistometer/consistometer/analysis/VerdictAndPinLaw" (26 : Nat) "com/example/consistometer/consistometer/analysis/Property$Verdict" "HOLDS" "Lcom/example/consistometer/consistometer/analysis/Property$Verdict;").before a0 Z = true := hw _ (List.mem_of_getElem? (i := 5) rfl)
theorem ow6 {a0 : Array Value} {Z : State} (hw : ∀ d ∈ tables_1, d.before a0 Z = true) : (Jvm.Cond.initialized "com/example/consistometer/consistometer/analysis/Property$Verdict").before a0 Z = true := hw _ (List.mem_of_getElem? (i := 6) rfl)
theorem ow7 {a0 : Array Value} {Z : State} (hw : ∀ d ∈ tables_1, d.before a0 Z = true) : (Jvm.Cond.laysStatic "com/example/consistometer/consistometer/analysis/Property$Verdict" "HOLDS" "Lcom/example/consistometer/consistometer/analysis/Property$Verdict;").before a0 Z = true := hw _ (List.mem_of_getElem? (i := 7) rfl)
theorem ow8 {a0 : Array Value} {Z : State} (hw : ∀ d ∈ tables_1, d.before a0 Z = true) : (Jvm.Cond.methodLink "com/example/consistometer/consistometer/analysis/VerdictAndPinLaw" (14 : Nat) ({ cls := "java/lang/Math", name := "max", desc := "(II)I" } : Jvm.MethodName)).before a0 Z = true := hw _ (List.mem_of_getElem? (i := 8) rfl)
theorem ow9 {a0 : Array Value} {Z : State} (hw : ∀ d ∈ tables_1, d.before a0 Z = true) : (Jvm.Cond.static ({ cls := "java/lang/Math", name := "max", desc := "(II)I" } : Jvm.MethodName)).before a0 Z = true := hw _ (List.mem_of_getElem? (i := 9) rfl)
theorem ow10 {a0 : Array Value} {Z : State} (hw : ∀ d ∈ tables_1, d.before a0 Z = true) : (Jvm.Cond.initialized "java/lang/Math").before a0 Z = true := hw _ (List.mem_of_getElem? (i := 10) rfl)
theorem ow11 {a0 : Array Value} {Z : State} (hw : ∀ d ∈ tables_1, d.before a0 Z = true) : (Jvm.Cond.code ({ cls := "java/lang/Math", name := "max", desc := "(II)I" } : Jvm.MethodName) jdk_29_method_65_code (2 : Nat) (Option.some Jvm.ClassFile.FieldType.int)).before a0 Z = true := hw _ (List.mem_of_getElem? (i := 11) rfl)
theorem ow12 {a0 : Array Value} {Z : State} (hw : ∀ d ∈ tables_1, d.before a0 Z = true) : (Jvm.Cond.methodLink "com/example/consistometer/consistometer/analysis/VerdictAndPinLaw" (20 : Nat) ({ cls := "com/example/consistometer/consistometer/analysis/Property$Verdict", name := "and", desc := "(Lcom/example/consistometer/consistometer/analysis/Property$Verdict;)Lcom/example/consistometer/consistometer/analysis/Property$Verdict;" } : Jvm.MethodName)).before a0 Z = true := hw _ (List.mem_of_getElem? (i := 12) rfl)
theorem ow13 {a0 : Array Value} {Z : State} (hw : ∀ d ∈ tables_1, d.before a0 Z = true) : (Jvm.Cond.declares ({ cls := "com/example/consistometer/consistometer/analysis/Property$Verdict", name := "and", desc := "(Lcom/example/consistometer/consistometer/analysis/Property$Verdict;)Lcom/example/consistometer/consistometer/analysis/Property$Verdict;" } : Jvm.MethodName)).before a0 Z = true := hw _ (List.mem_of_getElem? (i := 13) rfl)
theorem ow14 {a0 : Array Value} {Z : State} (hw : ∀ d ∈ tables_1, d.before a0 Z = true) : (Jvm.Cond.instanceMethod ({ cls := "com/example/consistometer/consistometer/analysis/Property$Verdict", name := "and", desc := "(Lcom/example/consistometer/consistometer/analysis/Property$Verdict;)Lcom/example/consistometer/consistometer/analysis/Property$Verdict;" } : Jvm.MethodName)).before a0 Z = true := hw _ (List.mem_of_getElem? (i := 14) rfl)
theorem ow15 {a0 : Array Value} {Z : State} (hw : ∀ d ∈ tables_1, d.before a0 Z = true) : (Jvm.Cond.selects "com/example/consistometer/consistometer/analysis/Property$Verdict" ({ cls := "com/example/consistometer/consistometer/analysis/Property$Verdict", name := "and", desc := "(Lcom/example/consistometer/consistometer/analysis/Property$Verdict;)Lcom/example/consistometer/consistometer/analysis/Property$Verdict;" } : Jvm.MethodName) ({ cls := "com/example/consistometer/consistometer/analysis/Property$Verdict", name := "and", desc := "(Lcom/example/consistometer/consistometer/analysis/Property$Verdict;)Lcom/example/consistometer/consistometer/analysis/Property$Verdict;" } : Jvm.MethodName)).before a0 Z = true := hw _ (List.mem_of_getElem? (i := 15) rfl)
theorem ow16 {a0 : Array Value} {Z : State} (hw : ∀ d ∈ tables_1, d.before a0 Z = true) : (Jvm.Cond.code ({ cls := "com/example/consistometer/consistometer/analysis/Property$Verdict", name := "and", desc := "(Lcom/example/consistometer/consistometer/analysis/Property$Verdict;)Lcom/example/consistometer/consistometer/analysis/Property$Verdict;" } : Jvm.MethodName) prog_83_method_5_code (3 : Nat) (Option.some (Jvm.ClassFile.FieldType.object "com/example/consistometer/consistometer/analysis/Property$Verdict"))).before a0 Z = true := hw _ (List.mem_of_getElem? (i := 16) rfl)
theorem ow17 {a0 : Array Value} {Z : State} (hw : ∀ d ∈ tables_1, d.before a0 Z = true) : (Jvm.Cond.fieldLink "com/example/consistometer/consistometer/analysis/Property$Verdict" (7 : Nat) "com/example/consistometer/consistometer/analysis/Property$Verdict" "VIOLATED" "Lcom/example/consistometer/consistometer/analysis/Property$Verdict;").before a0 Z = true := hw _ (List.mem_of_getElem? (i := 17) rfl)
theorem ow18 {a0 : Array Value} {Z : State} (hw : ∀ d ∈ tables_1, d.before a0 Z = true) : (Jvm.Cond.laysStatic "com/example/consistometer/consistometer/analysis/Property$Verdict" "VIOLATED" "Lcom/example/consistometer/consistometer/analysis/Property$Verdict;").before a0 Z = true := hw _ (List.mem_of_getElem? (i := 18) rfl)
theorem ow19 {a0 : Array Value} {Z : State} (hw : ∀ d ∈ tables_1, d.before a0 Z = true) : (Jvm.Cond.fieldLink "com/example/consistometer/consistometer/analysis/Property$Verdict" (10 : Nat) "com/example/consistometer/consistometer/analysis/Property$Verdict" "UNDECIDED" "Lcom/example/consistometer/consistometer/analysis/Property$Verdict;").before a0 Z = true := hw _ (List.mem_of_getElem? (i := 19) rfl)
theorem ow20 {a0 : Array Value} {Z : State} (hw : ∀ d ∈ tables_1, d.before a0 Z = true) : (Jvm.Cond.laysStatic "com/example/consistometer/consistometer/analysis/Property$Verdict" "UNDECIDED" "Lcom/example/consistometer/consistometer/analysis/Property$Verdict;").before a0 Z = true := hw _ (List.mem_of_getElem? (i := 20) rfl)
theorem ow21 {a0 : Array Value} {Z : State} (hw : ∀ d ∈ tables_1, d.before a0 Z = true) : (Jvm.Cond.fieldLink "com/example/consistometer/consistometer/analysis/Property$Verdict" (3 : Nat) "com/example/consistometer/consistometer/analysis/Property$Verdict" "HOLDS" "Lcom/example/consistometer/consistometer/analysis/Property$Verdict;").before a0 Z = true := hw _ (List.mem_of_getElem? (i := 21) rfl)
theorem ow22 {a0 : Array Value} {Z : State} (hw : ∀ d ∈ tables_1, d.before a0 Z = true) : (Jvm.Cond.fieldLink "com/example/consistometer/consistometer/analysis/VerdictAndPinLaw" (33 : Nat) "com/example/consistometer/consistometer/analysis/Property$Verdict" "VIOLATED" "Lcom/example/consistometer/consistometer/analysis/Property$Verdict;").before a0 Z = true := hw _ (List.mem_of_getElem? (i := 22) rfl)
theorem ow23 {a0 : Array Value} {Z : State} (hw : ∀ d ∈ tables_1, d.before a0 Z = true) : (Jvm.Cond.fieldLink "com/example/consistometer/consistometer/analysis/VerdictAndPinLaw" (30 : Nat) "com/example/consistometer/consistometer/analysis/Property$Verdict" "UNDECIDED" "Lcom/example/consistometer/consistometer/analysis/Property$Verdict;").before a0 Z = true := hw _ (List.mem_of_getElem? (i := 23) rfl)
def fMax (p1 : Int32) (p2 : Int32) : Int32 := (if p1 < p2 then p2 else p1)
theorem ef_rm2 (m : MethodId) (p1 : Int32) (p2 : Int32) : entryFrame m #[(.int p1), (.int p2)] 2 = mkF m 0 #[.val (.int p1), .val (.int p2)] [] := by first | (simp [entryFrame, mkF, argsToLocals, Value.category]; done) | rfl
theorem d2_0 : decode jdk_29_method_65_code 0 = .ok (.iload_n 0, 1) := by decide +kernel
theorem d2_1 : decode jdk_29_method_65_code 1 = .ok (.iload_n 1, 1) := by decide +kernel
theorem d2_2 : decode jdk_29_method_65_code 2 = .ok (.if_icmp .lt 7, 3) := by decide +kernel
theorem d2_9 : decode jdk_29_method_65_code 9 = .ok (.iload_n 1, 1) := by decide +kernel
theorem d2_10 : decode jdk_29_method_65_code 10 = .ok (.ireturn, 1) := by decide +kernel
theorem d2_5 : decode jdk_29_method_65_code 5 = .ok (.iload_n 0, 1) := by decide +kernel
theorem d2_6 : decode jdk_29_method_65_code 6 = .ok (.goto 4, 3) := by decide +kernel
def Q_rm2 (Z : State) (p1 : Int32) (p2 : Int32) (h0 : Heap) (n0 : Nat) (v : Option Value) (h : Heap) (L : List Loc) : Prop := v = some (.int (fMax p1 p2)) ∧ Fr n0 L ∧ h = h0
set_option maxRecDepth 65536 in
set_option maxHeartbeats 40000000 in
theorem rm2 (l : Launch) (Z : State) (a0 : Array Value) (hw : ∀ d ∈ tables_1, d.before a0 Z = true) (ws : List Jvm.Cond) (p1 : Int32) (p2 : Int32) (h0 : Heap) (n0 : Nat) (Z0 : n0 ≤ h0.size) :
    MetFree l (⟨"java/lang/Math", "max", "(II)I"⟩ : MethodName) (head1 (Jvm.Cond.code (⟨"java/lang/Math", "max", "(II)I"⟩ : MethodName) jdk_29_method_65_code 2 (some .int) :: ws) ({ frames := 0, cells := 0, slots := 0, locals := 0 } : Room)) (fun a U => a = #[(.int p1), (.int p2)] ∧ Z.Warmed39 U.vm ∧ U.heap = h0) (fun _ _ _ _ _ => True) (fun _ U o U' => ∃ v L, o = .returned v ∧ Q_rm2 Z p1 p2 h0 n0 v U'.heap L ∧ FrameEnd U o U' L ({ frames := 0, cells := 0, slots := 0, locals := 0 } : Room).cells ({ frames := 0, cells := 0, slots := 0, locals := 0 } : Room).slots) := by
  refine MetFree.of_bodySF (Jvm.Free.JP.mathPlain rfl (by decide +kernel)) hisR ?_
  intro p e s m args below meth c s₁ Bd hml0 hP hK
  obtain ⟨rfl, hZ, hh⟩ := hP
  have hx := Bd.exec
  have hby := Bd.bytes
  have hml : c.maxLocals = 2 := hml0
  have hown : s.vm.findClass "java/lang/Math" = some m.cls := findClass_of_methodNamed Bd.named
  have hnm := (name_of_methodNamed Bd.named Bd.method).1
  have X0 : Stand p l e ({ frames := 0, cells := 0, slots := 0, locals := 0 } : Room) s m #[(.int p1), (.int p2)] below meth c s₁ [] 0 0 := Stand.of_body Bd
  have e0 : s₁.heap = h0 := by rw [← hh, Bd.state]; rfl
  have N0 := Fr.nil n0
  suffices hR : ∀ P : State → Prop, (∀ s₂ o v L, s₂.status = .running → Ended s₂ below o → o = .returned v → Q_rm2 Z p1 p2 h0 n0 v s₂.heap L → FrameEnd s o s₂ L ({ frames := 0, cells := 0, slots := 0, locals := 0 } : Room).cells ({ frames := 0, cells := 0, slots := 0, locals := 0 } : Room).slots → P s₂) → Rch p.tables e below P (s₁.setTop (mkF m 0 #[.val (.int p1), .val (.int p2)] [])) by
    obtain ⟨s₂, h1, o, h2⟩ := hR (fun s₂ => ∃ o, s₂.status = .running ∧ Ended s₂ below o ∧ ∃ v L, o = .returned v ∧ Q_rm2 Z p1 p2 h0 n0 v s₂.heap L ∧ FrameEnd s o s₂ L ({ frames := 0, cells := 0, slots := 0, locals := 0 } : Room).cells ({ frames := 0, cells := 0, slots := 0, locals := 0 } : Room).slots) (fun s₂ o v L q1 q2 q3 q4 q5 => ⟨o, q1, q2, v, L, q3, q4, q5⟩)
    exact ⟨s₂, o, castTop (ef_rm2 m p1 p2) h1, h2⟩
  intro P hPd
  refine Rch.go (fun zt zk => XS.iloadN X0.here hx rfl (hb hby d2_0) rfl zk) ?_
  show Rch _ _ _ _ (s₁.setTop (mkF m 1 #[.val (.int p1), .val (.int p2)] [(.int p1)]))
  refine Rch.go (fun zt zk => XS.iloadN X0.here hx rfl (hb hby d2_1) rfl zk) ?_
  show Rch _ _ _ _ (s₁.setTop (mkF m 2 #[.val (.int p1), .val (.int p2)] [(.int p2), (.int p1)]))
  by_cases hc2_1 : p1 < p2
  · skip
    refine Rch.go (fun zt zk => XS.icmpYes X0.here hx rfl (pc0 := 2) (pc' := 9) rfl (hb hby d2_2) rfl (tlt hc2_1).1 (by decide) (by decide) zk) ?_
    show Rch _ _ _ _ (s₁.setTop (mkF m 9 #[.val (.int p1), .val (.int p2)] []))
    refine Rch.go (fun zt zk => XS.iloadN X0.here hx rfl (hb hby d2_9) rfl zk) ?_
    show Rch _ _ _ _ (s₁.setTop (mkF m 10 #[.val (.int p1), .val (.int p2)] [(.int p2)]))
    obtain ⟨fs, hr, hrun, hended, hW, hsame⟩ := X0.leave (v := some (.int p2)) (fun h => by rw [Bd.returns] at h; cases h)
    refine Rch.mk (retI X0 hx Bd.returns (hb hby d2_10) hr) (hPd _ _ _ _ hrun hended rfl ?_ ⟨⟨_, rfl⟩, hW, hsame.mono (by decide) (by decide)⟩)
    show Q_rm2 Z p1 p2 h0 n0 _ s₁.heap _
    have hF : fMax p1 p2 = p2 := ((if_pos hc2_1).trans rfl)
    rw [e0]
    exact ⟨by rw [hF], N0, rfl⟩
  · skip
    refine Rch.go (fun zt zk => XS.icmpNo X0.here hx rfl (hb hby d2_2) rfl (flt hc2_1).1 zk) ?_
    show Rch _ _ _ _ (s₁.setTop (mkF m 5 #[.val (.int p1), .val (.int p2)] []))
    refine Rch.go (fun zt zk => XS.iloadN X0.here hx rfl (hb hby d2_5) rfl zk) ?_
    show Rch _ _ _ _ (s₁.setTop (mkF m 6 #[.val (.int p1), .val (.int p2)] [(.int p1)]))
    refine Rch.go (fun zt zk => XS.goto X0.here hx rfl (pc0 := 6) (pc' := 10) rfl (hb hby d2_6) (by decide) (by decide) zk) ?_
    show Rch _ _ _ _ (s₁.setTop (mkF m 10 #[.val (.int p1), .val (.int p2)] [(.int p1)]))
    obtain ⟨fs, hr, hrun, hended, hW, hsame⟩ := X0.leave (v := some (.int p1)) (fun h => by rw [Bd.returns] at h; cases h)
    refine Rch.mk (retI X0 hx Bd.returns (hb hby d2_10) hr) (hPd _ _ _ _ hrun hended rfl ?_ ⟨⟨_, rfl⟩, hW, hsame.mono (by decide) (by decide)⟩)
    show Q_rm2 Z p1 p2 h0 n0 _ s₁.heap _
    have hF : fMax p1 p2 = p1 := ((if_neg hc2_1).trans rfl)
    rw [e0]
    exact ⟨by rw [hF], N0, rfl⟩
def fPick (p1 : Int32) (w1 : Addr) (w2 : Addr) (w3 : Addr) : Addr := (if p1 = (0 : Int32) then w1 else (if p1 = (1 : Int32) then w2 else w3))
theorem ef_rm1 (m : MethodId) (p1 : Int32) : entryFrame m #[(.int p1)] 1 = mkF m 0 #[.val (.int p1)] [] := by first | (simp [entryFrame, mkF, argsToLocals, Value.category]; done) | rfl
theorem pn_com_example_consistometer_consistometer_analysis_VerdictAndPinLaw : plainName "com/example/consistometer/consistometer/analysis/VerdictAndPinLaw" = true := by first | (simp [plainName, overriddenIn]; done) | decide +kernel
theorem d1_0 : decode method_3_code 0 = .ok (.iload_n 0, 1) := by decide +kernel
theorem d1_1 : decode method_3_code 1 = .ok (.ifCond .ne 7, 3) := by decide +kernel
theorem d1_4 : decode method_3_code 4 = .ok (.getstatic 26, 3) := by decide +kernel
theorem d1_7 : decode method_3_code 7 = .ok (.areturn, 1) := by decide +kernel
theorem d1_8 : decode method_3_code 8 = .ok (.iload_n 0, 1) := by decide +kernel
theorem d1_9 : decode method_3_code 9 = .ok (.iconst 1, 1) := by decide +kernel
theorem d1_10 : decode method_3_code 10 = .ok (.if_icmp .ne 7, 3) := by decide +kernel
theorem d1_13 : decode method_3_code 13 = .ok (.getstatic 30, 3) := by decide +kernel
theorem d1_16 : decode method_3_code 16 = .ok (.areturn, 1) := by decide +kernel
theorem d1_17 : decode method_3_code 17 = .ok (.getstatic 33, 3) := by decide +kernel
theorem d1_20 : decode method_3_code 20 = .ok (.areturn, 1) := by decide +kernel
def Q_rm1 (Z : State) (p1 : Int32) (w1 : Addr) (w2 : Addr) (w3 : Addr) (h0 : Heap) (n0 : Nat) (v : Option Value) (h : Heap) (L : List Loc) : Prop := v = some (.ref (fPick p1 w1 w2 w3)) ∧ Fr n0 L ∧ h = h0
set_option maxRecDepth 65536 in
set_option maxHeartbeats 40000000 in
theorem rm1 (l : Launch) (Z : State) (a0 : Array Value) (hw : ∀ d ∈ tables_1, d.before a0 Z = true) (ws : List Jvm.Cond) (p1 : Int32) (w1 : Addr) (w2 : Addr) (w3 : Addr) (h0 : Heap) (n0 : Nat) (Z0 : n0 ≤ h0.size) (P0 : Sta Z h0 "com/example/consistometer/consistometer/analysis/Property$Verdict" "HOLDS" "Lcom/example/consistometer/consistometer/analysis/Property$Verdict;" (.ref w1)) (P1 : Sta Z h0 "com/example/consistometer/consistometer/analysis/Property$Verdict" "UNDECIDED" "Lcom/example/consistometer/consistometer/analysis/Property$Verdict;" (.ref w2)) (P2 : Sta Z h0 "com/example/consistometer/consistometer/analysis/Property$Verdict" "VIOLATED" "Lcom/example/consistometer/consistometer/analysis/Property$Verdict;" (.ref w3)) :
    MetFree l (⟨"com/example/consistometer/consistometer/analysis/VerdictAndPinLaw", "ofRank", "(I)Lcom/example/consistometer/consistometer/analysis/Property$Verdict;"⟩ : MethodName) (head1 (Jvm.Cond.code (⟨"com/example/consistometer/consistometer/analysis/VerdictAndPinLaw", "ofRank", "(I)Lcom/example/consistometer/consistometer/analysis/Property$Verdict;"⟩ : MethodName) method_3_code 1 (some (.object "com/example/consistometer/consistometer/analysis/Property$Verdict")) :: ws) ({ frames := 0, cells := 0, slots := 0, locals := 0 } : Room)) (fun a U => a = #[(.int p1)] ∧ Z.Warmed39 U.vm ∧ U.heap = h0) (fun _ _ _ _ _ => True) (fun _ U o U' => ∃ v L, o = .returned v ∧ Q_rm1 Z p1 w1 w2 w3 h0 n0 v U'.heap L ∧ FrameEnd U o U' L ({ frames := 0, cells := 0, slots := 0, locals := 0 } : Room).cells ({ frames := 0, cells := 0, slots := 0, locals := 0 } : Room).slots) := by
  refine MetFree.of_bodySF (plainFor_of_name pn_com_example_consistometer_consistometer_analysis_VerdictAndPinLaw) hisR ?_
  intro p e s m args below meth c s₁ Bd hml0 hP hK
  obtain ⟨rfl, hZ, hh⟩ := hP
  have hx := Bd.exec
  have hby := Bd.bytes
  have hml : c.maxLocals = 1 := hml0
  have hown : s.vm.findClass "com/example/consistometer/consistometer/analysis/VerdictAndPinLaw" = some m.cls := findClass_of_methodNamed Bd.named
  have hnm := (name_of_methodNamed Bd.named Bd.method).1
  have X0 : Stand p l e ({ frames := 0, cells := 0, slots := 0, locals := 0 } : Room) s m #[(.int p1)] below meth c s₁ [] 0 0 := Stand.of_body Bd
  have e0 : s₁.heap = h0 := by rw [← hh, Bd.state]; rfl
  have N0 := Fr.nil n0
  suffices hR : ∀ P : State → Prop, (∀ s₂ o v L, s₂.status = .running → Ended s₂ below o → o = .returned v → Q_rm1 Z p1 w1 w2 w3 h0 n0 v s₂.heap L → FrameEnd s o s₂ L ({ frames := 0, cells := 0, slots := 0, locals := 0 } : Room).cells ({ frames := 0, cells := 0, slots := 0, locals := 0 } : Room).slots → P s₂) → Rch p.tables e below P (s₁.setTop (mkF m 0 #[.val (.int p1)] [])) by
    obtain ⟨s₂, h1, o, h2⟩ := hR (fun s₂ => ∃ o, s₂.status = .running ∧ Ended s₂ below o ∧ ∃ v L, o = .returned v ∧ Q_rm1 Z p1 w1 w2 w3 h0 n0 v s₂.heap L ∧ FrameEnd s o s₂ L ({ frames := 0, cells := 0, slots := 0, locals := 0 } : Room).cells ({ frames := 0, cells := 0, slots := 0, locals := 0 } : Room).slots) (fun s₂ o v L q1 q2 q3 q4 q5 => ⟨o, q1, q2, v, L, q3, q4, q5⟩)
    exact ⟨s₂, o, castTop (ef_rm1 m p1) h1, h2⟩
  intro P hPd
  refine Rch.go (fun zt zk => XS.iloadN X0.here hx rfl (hb hby d1_0) rfl zk) ?_
  show Rch _ _ _ _ (s₁.setTop (mkF m 1 #[.val (.int p1)] [(.int p1)]))
  by_cases hc1_1 : p1 = (0 : Int32)
  · skip
    refine Rch.go (fun zt zk => XS.ifNo X0.here hx rfl (hb hby d1_1) rfl ((if0 _ _).trans (teq hc1_1).2) zk) ?_
    show Rch _ _ _ _ (s₁.setTop (mkF m 4 #[.val (.int p1)] []))
    obtain ⟨T2, X2, e2, st2⟩ := getS2 X0 hx hZ hown (host := "") (Or.inl (ow5 hw)) Via.refl e0 P0 (g := (mkF m 4 #[.val (.int p1)] [])) rfl (hb hby d1_4)
    refine Rch.go st2 ?_
    show Rch _ _ _ _ (T2.setTop (mkF m 7 #[.val (.int p1)] [(.ref w1)]))
    obtain ⟨fs, hr, hrun, hended, hW, hsame⟩ := X2.leave (v := some (.ref w1)) (fun h => by rw [Bd.returns] at h; cases h)
    have hend : Steps p.tables e below (T2.setTop (mkF m 7 #[.val (.int p1)] [(.ref w1)])) (T2.setFrames fs) := by
      jvm_step X2.here [X2.here.top, hx, (hb hby d1_7), X2.method', Bd.returns, Value.isRef, FieldType.isReference]
      first | (intro acts; rw [hr _ acts rfl rfl rfl]) | rw [hr _ _ rfl rfl rfl]
      exact Steps.refl _
    refine Rch.mk (hend) (hPd _ _ _ _ hrun hended rfl ?_ ⟨⟨_, rfl⟩, hW, hsame.mono (by decide) (by decide)⟩)
    show Q_rm1 Z p1 w1 w2 w3 h0 n0 _ T2.heap _
    have hF : fPick p1 w1 w2 w3 = w1 := ((if_pos hc1_1).trans rfl)
    rw [e2]
    exact ⟨by rw [hF], N0, rfl⟩
  · skip
    refine Rch.go (fun zt zk => XS.ifYes X0.here hx rfl (pc0 := 1) (pc' := 8) rfl (hb hby d1_1) rfl ((if0 _ _).trans (feq hc1_1).2) (by decide) (by decide) zk) ?_
    show Rch _ _ _ _ (s₁.setTop (mkF m 8 #[.val (.int p1)] []))
    refine Rch.go (fun zt zk => XS.iloadN X0.here hx rfl (hb hby d1_8) rfl zk) ?_
    show Rch _ _ _ _ (s₁.setTop (mkF m 9 #[.val (.int p1)] [(.int p1)]))
    refine Rch.go (fun zt zk => XS.iconst X0.here hx rfl (hb hby d1_9) zk) ?_
    show Rch _ _ _ _ (s₁.setTop (mkF m 10 #[.val (.int p1)] [(.int (1 : Int32)), (.int p1)]))
    by_cases hc10_3 : p1 = (1 : Int32)
    · skip
      refine Rch.go (fun zt zk => XS.icmpNo X0.here hx rfl (hb hby d1_10) rfl (teq hc10_3).2 zk) ?_
      show Rch _ _ _ _ (s₁.setTop (mkF m 13 #[.val (.int p1)] []))
      obtain ⟨T4, X4, e4, st4⟩ := getS2 X0 hx hZ hown (host := "") (Or.inl (ow23 hw)) Via.refl e0 P1 (g := (mkF m 13 #[.val (.int p1)] [])) rfl (hb hby d1_13)
      refine Rch.go st4 ?_
      show Rch _ _ _ _ (T4.setTop (mkF m 16 #[.val (.int p1)] [(.ref w2)]))
      obtain ⟨fs, hr, hrun, hended, hW, hsame⟩ := X4.leave (v := some (.ref w2)) (fun h => by rw [Bd.returns] at h; cases h)
      have hend : Steps p.tables e below (T4.setTop (mkF m 16 #[.val (.int p1)] [(.ref w2)])) (T4.setFrames fs) := by
        jvm_step X4.here [X4.here.top, hx, (hb hby d1_16), X4.method', Bd.returns, Value.isRef, FieldType.isReference]
        first | (intro acts; rw [hr _ acts rfl rfl rfl]) | rw [hr _ _ rfl rfl rfl]
        exact Steps.refl _
      refine Rch.mk (hend) (hPd _ _ _ _ hrun hended rfl ?_ ⟨⟨_, rfl⟩, hW, hsame.mono (by decide) (by decide)⟩)
      show Q_rm1 Z p1 w1 w2 w3 h0 n0 _ T4.heap _
      have hF : fPick p1 w1 w2 w3 = w2 := ((if_neg hc1_1).trans ((if_pos hc10_3).trans rfl))
      rw [e4]
      exact ⟨by rw [hF], N0, rfl⟩
    · skip
      refine Rch.go (fun zt zk => XS.icmpYes X0.here hx rfl (pc0 := 10) (pc' := 17) rfl (hb hby d1_10) rfl (feq hc10_3).2 (by decide) (by decide) zk) ?_
      show Rch _ _ _ _ (s₁.setTop (mkF m 17 #[.val (.int p1)] []))
      obtain ⟨T5, X5, e5, st5⟩ := getS2 X0 hx hZ hown (host := "") (Or.inl (ow22 hw)) Via.refl e0 P2 (g := (mkF m 17 #[.val (.int p1)] [])) rfl (hb hby d1_17)
      refine Rch.go st5 ?_
      show Rch _ _ _ _ (T5.setTop (mkF m 20 #[.val (.int p1)] [(.ref w3)]))
      obtain ⟨fs, hr, hrun, hended, hW, hsame⟩ := X5.leave (v := some (.ref w3)) (fun h => by rw [Bd.returns] at h; cases h)
      have hend : Steps p.tables e below (T5.setTop (mkF m 20 #[.val (.int p1)] [(.ref w3)])) (T5.setFrames fs) := by
        jvm_step X5.here [X5.here.top, hx, (hb hby d1_20), X5.method', Bd.returns, Value.isRef, FieldType.isReference]
        first | (intro acts; rw [hr _ acts rfl rfl rfl]) | rw [hr _ _ rfl rfl rfl]
        exact Steps.refl _
      refine Rch.mk (hend) (hPd _ _ _ _ hrun hended rfl ?_ ⟨⟨_, rfl⟩, hW, hsame.mono (by decide) (by decide)⟩)
      show Q_rm1 Z p1 w1 w2 w3 h0 n0 _ T5.heap _
      have hF : fPick p1 w1 w2 w3 = w3 := ((if_neg hc1_1).trans ((if_neg hc10_3).trans rfl))
      rw [e5]
      exact ⟨by rw [hF], N0, rfl⟩
def fOp (a1 : Addr) (a2 : Addr) (w1 : Addr) (w2 : Addr) (w3 : Addr) : Addr := (if a1 = w3 then w3 else (if a2 = w3 then w3 else (if a1 = w2 then w2 else (if a2 = w2 then w2 else w1))))
theorem ef_rm3 (m : MethodId) (a1 : Addr) (a2 : Addr) : entryFrame m #[(.ref a1), (.ref a2)] 3 = mkF m 0 #[.val (.ref a1), .val (.ref a2), .unset] [] := by first | (simp [entryFrame, mkF, argsToLocals, Value.category]; done) | rfl
theorem pn_com_example_consistometer_consistometer_analysis_Property_Verdict : plainName "com/example/consistometer/consistometer/analysis/Property$Verdict" = true := by first | (simp [plainName, overriddenIn]; done) | decide +kernel
theorem d3_0 : decode prog_83_method_5_code 0 = .ok (.aload_n 0, 1) := by decide +kernel
theorem d3_1 : decode prog_83_method_5_code 1 = .ok (.getstatic 7, 3) := by decide +kernel
theorem d3_4 : decode prog_83_method_5_code 4 = .ok (.if_acmp .eq 10, 3) := by decide +kernel
theorem d3_14 : decode prog_83_method_5_code 14 = .ok (.getstatic 7, 3) := by decide +kernel
theorem d3_17 : decode prog_83_method_5_code 17 = .ok (.astore_n 2, 1) := by decide +kernel
theorem d3_18 : decode prog_83_method_5_code 18 = .ok (.goto 28, 3) := by decide +kernel
theorem d3_46 : decode prog_83_method_5_code 46 = .ok (.aload_n 2, 1) := by decide +kernel
theorem d3_47 : decode prog_83_method_5_code 47 = .ok (.areturn, 1) := by decide +kernel
theorem d3_7 : decode prog_83_method_5_code 7 = .ok (.aload_n 1, 1) := by decide +kernel
theorem d3_8 : decode prog_83_method_5_code 8 = .ok (.getstatic 7, 3) := by decide +kernel
theorem d3_11 : decode prog_83_method_5_code 11 = .ok (.if_acmp .ne 10, 3) := by decide +kernel
theorem d3_21 : decode prog_83_method_5_code 21 = .ok (.aload_n 0, 1) := by decide +kernel
theorem d3_22 : decode prog_83_method_5_code 22 = .ok (.getstatic 10, 3) := by decide +kernel
theorem d3_25 : decode prog_83_method_5_code 25 = .ok (.if_acmp .eq 10, 3) := by decide +kernel
theorem d3_35 : decode prog_83_method_5_code 35 = .ok (.getstatic 10, 3) := by decide +kernel
theorem d3_38 : decode prog_83_method_5_code 38 = .ok (.astore_n 2, 1) := by decide +kernel
theorem d3_39 : decode prog_83_method_5_code 39 = .ok (.goto 7, 3) := by decide +kernel
theorem d3_28 : decode prog_83_method_5_code 28 = .ok (.aload_n 1, 1) := by decide +kernel
theorem d3_29 : decode prog_83_method_5_code 29 = .ok (.getstatic 10, 3) := by decide +kernel
theorem d3_32 : decode prog_83_method_5_code 32 = .ok (.if_acmp .ne 10, 3) := by decide +kernel
theorem d3_42 : decode prog_83_method_5_code 42 = .ok (.getstatic 3, 3) := by decide +kernel
theorem d3_45 : decode prog_83_method_5_code 45 = .ok (.astore_n 2, 1) := by decide +kernel
def Q_rm3 (Z : State) (a1 : Addr) (a2 : Addr) (w1 : Addr) (w2 : Addr) (w3 : Addr) (h0 : Heap) (n0 : Nat) (v : Option Value) (h : Heap) (L : List Loc) : Prop := v = some (.ref (fOp a1 a2 w1 w2 w3)) ∧ Fr n0 L ∧ h = h0
set_option maxRecDepth 65536 in
set_option maxHeartbeats 40000000 in
theorem rm3 (l : Launch) (Z : State) (a0 : Array Value) (hw : ∀ d ∈ tables_1, d.before a0 Z = true) (ws : List Jvm.Cond) (a1 : Addr) (a2 : Addr) (w1 : Addr) (w2 : Addr) (w3 : Addr) (h0 : Heap) (n0 : Nat) (Z0 : n0 ≤ h0.size) (P0 : Sta Z h0 "com/example/consistometer/consistometer/analysis/Property$Verdict" "HOLDS" "Lcom/example/consistometer/consistometer/analysis/Property$Verdict;" (.ref w1)) (P1 : Sta Z h0 "com/example/consistometer/consistometer/analysis/Property$Verdict" "UNDECIDED" "Lcom/example/consistometer/consistometer/analysis/Property$Verdict;" (.ref w2)) (P2 : Sta Z h0 "com/example/consistometer/consistometer/analysis/Property$Verdict" "VIOLATED" "Lcom/example/consistometer/consistometer/analysis/Property$Verdict;" (.ref w3)) :
    MetFree l (⟨"com/example/consistometer/consistometer/analysis/Property$Verdict", "and", "(Lcom/example/consistometer/consistometer/analysis/Property$Verdict;)Lcom/example/consistometer/consistometer/analysis/Property$Verdict;"⟩ : MethodName) (head1 (Jvm.Cond.code (⟨"com/example/consistometer/consistometer/analysis/Property$Verdict", "and", "(Lcom/example/consistometer/consistometer/analysis/Property$Verdict;)Lcom/example/consistometer/consistometer/analysis/Property$Verdict;"⟩ : MethodName) prog_83_method_5_code 3 (some (.object "com/example/consistometer/consistometer/analysis/Property$Verdict")) :: ws) ({ frames := 0, cells := 0, slots := 0, locals := 0 } : Room)) (fun a U => a = #[(.ref a1), (.ref a2)] ∧ Z.Warmed39 U.vm ∧ U.heap = h0) (fun _ _ _ _ _ => True) (fun _ U o U' => ∃ v L, o = .returned v ∧ Q_rm3 Z a1 a2 w1 w2 w3 h0 n0 v U'.heap L ∧ FrameEnd U o U' L ({ frames := 0, cells := 0, slots := 0, locals := 0 } : Room).cells ({ frames := 0, cells := 0, slots := 0, locals := 0 } : Room).slots) := by
  refine MetFree.of_bodySF (plainFor_of_name pn_com_example_consistometer_consistometer_analysis_Property_Verdict) hisR ?_
  intro p e s m args below meth c s₁ Bd hml0 hP hK
  obtain ⟨rfl, hZ, hh⟩ := hP
  have hx := Bd.exec
  have hby := Bd.bytes
  have hml : c.maxLocals = 3 := hml0
  have hown : s.vm.findClass "com/example/consistometer/consistometer/analysis/Property$Verdict" = some m.cls := findClass_of_methodNamed Bd.named
  have hnm := (name_of_methodNamed Bd.named Bd.method).1
  have X0 : Stand p l e ({ frames := 0, cells := 0, slots := 0, locals := 0 } : Room) s m #[(.ref a1), (.ref a2)] below meth c s₁ [] 0 0 := Stand.of_body Bd
  have e0 : s₁.heap = h0 := by rw [← hh, Bd.state]; rfl
  have N0 := Fr.nil n0
  suffices hR : ∀ P : State → Prop, (∀ s₂ o v L, s₂.status = .running → Ended s₂ below o → o = .returned v → Q_rm3 Z a1 a2 w1 w2 w3 h0 n0 v s₂.heap L → FrameEnd s o s₂ L ({ frames := 0, cells := 0, slots := 0, locals := 0 } : Room).cells ({ frames := 0, cells := 0, slots := 0, locals := 0 } : Room).slots → P s₂) → Rch p.tables e below P (s₁.setTop (mkF m 0 #[.val (.ref a1), .val (.ref a2), .unset] [])) by
    obtain ⟨s₂, h1, o, h2⟩ := hR (fun s₂ => ∃ o, s₂.status = .running ∧ Ended s₂ below o ∧ ∃ v L, o = .returned v ∧ Q_rm3 Z a1 a2 w1 w2 w3 h0 n0 v s₂.heap L ∧ FrameEnd s o s₂ L ({ frames := 0, cells := 0, slots := 0, locals := 0 } : Room).cells ({ frames := 0, cells := 0, slots := 0, locals := 0 } : Room).slots) (fun s₂ o v L q1 q2 q3 q4 q5 => ⟨o, q1, q2, v, L, q3, q4, q5⟩)
    exact ⟨s₂, o, castTop (ef_rm3 m a1 a2) h1, h2⟩
  intro P hPd
  refine Rch.go (fun zt zk => XS.aloadN X0.here hx rfl (hb hby d3_0) rfl rfl zk) ?_
  show Rch _ _ _ _ (s₁.setTop (mkF m 1 #[.val (.ref a1), .val (.ref a2), .unset] [(.ref a1)]))
  obtain ⟨T1, X1, e1, st1⟩ := getS2 X0 hx hZ hown (host := "") (Or.inl (ow17 hw)) Via.refl e0 P2 (g := (mkF m 1 #[.val (.ref a1), .val (.ref a2), .unset] [(.ref a1)])) rfl (hb hby d3_1)
  refine Rch.go st1 ?_
  show Rch _ _ _ _ (T1.setTop (mkF m 4 #[.val (.ref a1), .val (.ref a2), .unset] [(.ref w3), (.ref a1)]))
  by_cases ha4_2 : a1 = w3
  · skip
    refine Rch.go (fun zt zk => Jvm.RoadKit.acmp (g := (mkF m 4 #[.val (.ref a1), .val (.ref a2), .unset] [(.ref w3), (.ref a1)])) X1 hx rfl rfl rfl (pc0 := 4) (pc' := 14) (same := true) rfl (hb hby d3_4) rfl (decide_eq_true (congrArg Value.ref ha4_2)) (by decide) (by decide) zk) ?_
    show Rch _ _ _ _ (T1.setTop (mkF m 14 #[.val (.ref a1), .val (.ref a2), .unset] []))
    obtain ⟨T3, X3, e3, st3⟩ := getS2 X1 hx hZ hown (host := "") (Or.inl (ow17 hw)) Via.refl e1 P2 (g := (mkF m 14 #[.val (.ref a1), .val (.ref a2), .unset] [])) rfl (hb hby d3_14)
    refine Rch.go st3 ?_
    show Rch _ _ _ _ (T3.setTop (mkF m 17 #[.val (.ref a1), .val (.ref a2), .unset] [(.ref w3)]))
    refine Rch.go (fun zt zk => XS.astoreN X3.here hx rfl (hb hby d3_17) rfl rfl (l' := #[.val (.ref a1), .val (.ref a2), .val (.ref w3)]) rfl zk) ?_
    show Rch _ _ _ _ (T3.setTop (mkF m 18 #[.val (.ref a1), .val (.ref a2), .val (.ref w3)] []))
    refine Rch.go (fun zt zk => XS.goto X3.here hx rfl (pc0 := 18) (pc' := 46) rfl (hb hby d3_18) (by decide) (by decide) zk) ?_
    show Rch _ _ _ _ (T3.setTop (mkF m 46 #[.val (.ref a1), .val (.ref a2), .val (.ref w3)] []))
    refine Rch.go (fun zt zk => XS.aloadN X3.here hx rfl (hb hby d3_46) rfl rfl zk) ?_
    show Rch _ _ _ _ (T3.setTop (mkF m 47 #[.val (.ref a1), .val (.ref a2), .val (.ref w3)] [(.ref w3)]))
    obtain ⟨fs, hr, hrun, hended, hW, hsame⟩ := X3.leave (v := some (.ref w3)) (fun h => by rw [Bd.returns] at h; cases h)
    have hend : Steps p.tables e below (T3.setTop (mkF m 47 #[.val (.ref a1), .val (.ref a2), .val (.ref w3)] [(.ref w3)])) (T3.setFrames fs) := by
      jvm_step X3.here [X3.here.top, hx, (hb hby d3_47), X3.method', Bd.returns, Value.isRef, FieldType.isReference]
      first | (intro acts; rw [hr _ acts rfl rfl rfl]) | rw [hr _ _ rfl rfl rfl]
      exact Steps.refl _
    refine Rch.mk (hend) (hPd _ _ _ _ hrun hended rfl ?_ ⟨⟨_, rfl⟩, hW, hsame.mono (by decide) (by decide)⟩)
    show Q_rm3 Z a1 a2 w1 w2 w3 h0 n0 _ T3.heap _
    have hF : fOp a1 a2 w1 w2 w3 = w3 := ((if_pos ha4_2).trans rfl)
    rw [e3]
    exact ⟨by rw [hF], N0, rfl⟩
  · skip
    refine Rch.go (fun zt zk => Jvm.RoadKit.acmp (g := (mkF m 4 #[.val (.ref a1), .val (.ref a2), .unset] [(.ref w3), (.ref a1)])) X1 hx rfl rfl rfl (pc0 := 4) (pc' := 7) (same := false) rfl (hb hby d3_4) rfl (decide_eq_false fun q => ha4_2 (Value.ref.inj q)) (by decide) (by decide) zk) ?_
    show Rch _ _ _ _ (T1.setTop (mkF m 7 #[.val (.ref a1), .val (.ref a2), .unset] []))
    refine Rch.go (fun zt zk => XS.aloadN X1.here hx rfl (hb hby d3_7) rfl rfl zk) ?_
    show Rch _ _ _ _ (T1.setTop (mkF m 8 #[.val (.ref a1), .val (.ref a2), .unset] [(.ref a2)]))
    obtain ⟨T4, X4, e4, st4⟩ := getS2 X1 hx hZ hown (host := "") (Or.inl (ow17 hw)) Via.refl e1 P2 (g := (mkF m 8 #[.val (.ref a1), .val (.ref a2), .unset] [(.ref a2)])) rfl (hb hby d3_8)
    refine Rch.go st4 ?_
    show Rch _ _ _ _ (T4.setTop (mkF m 11 #[.val (.ref a1), .val (.ref a2), .unset] [(.ref w3), (.ref a2)]))
    by_cases ha11_5 : a2 = w3
    · skip
      refine Rch.go (fun zt zk => Jvm.RoadKit.acmp (g := (mkF m 11 #[.val (.ref a1), .val (.ref a2), .unset] [(.ref w3), (.ref a2)])) X4 hx rfl rfl rfl (pc0 := 11) (pc' := 14) (same := true) rfl (hb hby d3_11) rfl (decide_eq_true (congrArg Value.ref ha11_5)) (by decide) (by decide) zk) ?_
      show Rch _ _ _ _ (T4.setTop (mkF m 14 #[.val (.ref a1), .val (.ref a2), .unset] []))
      obtain ⟨T6, X6, e6, st6⟩ := getS2 X4 hx hZ hown (host := "") (Or.inl (ow17 hw)) Via.refl e4 P2 (g := (mkF m 14 #[.val (.ref a1), .val (.ref a2), .unset] [])) rfl (hb hby d3_14)
      refine Rch.go st6 ?_
      show Rch _ _ _ _ (T6.setTop (mkF m 17 #[.val (.ref a1), .val (.ref a2), .unset] [(.ref w3)]))
      refine Rch.go (fun zt zk => XS.astoreN X6.here hx rfl (hb hby d3_17) rfl rfl (l' := #[.val (.ref a1), .val (.ref a2), .val (.ref w3)]) rfl zk) ?_
      show Rch _ _ _ _ (T6.setTop (mkF m 18 #[.val (.ref a1), .val (.ref a2), .val (.ref w3)] []))
      refine Rch.go (fun zt zk => XS.goto X6.here hx rfl (pc0 := 18) (pc' := 46) rfl (hb hby d3_18) (by decide) (by decide) zk) ?_
      show Rch _ _ _ _ (T6.setTop (mkF m 46 #[.val (.ref a1), .val (.ref a2), .val (.ref w3)] []))
      refine Rch.go (fun zt zk => XS.aloadN X6.here hx rfl (hb hby d3_46) rfl rfl zk) ?_
      show Rch _ _ _ _ (T6.setTop (mkF m 47 #[.val (.ref a1), .val (.ref a2), .val (.ref w3)] [(.ref w3)]))
      obtain ⟨fs, hr, hrun, hended, hW, hsame⟩ := X6.leave (v := some (.ref w3)) (fun h => by rw [Bd.returns] at h; cases h)
      have hend : Steps p.tables e below (T6.setTop (mkF m 47 #[.val (.ref a1), .val (.ref a2), .val (.ref w3)] [(.ref w3)])) (T6.setFrames fs) := by
        jvm_step X6.here [X6.here.top, hx, (hb hby d3_47), X6.method', Bd.returns, Value.isRef, FieldType.isReference]
        first | (intro acts; rw [hr _ acts rfl rfl rfl]) | rw [hr _ _ rfl rfl rfl]
        exact Steps.refl _
      refine Rch.mk (hend) (hPd _ _ _ _ hrun hended rfl ?_ ⟨⟨_, rfl⟩, hW, hsame.mono (by decide) (by decide)⟩)
      show Q_rm3 Z a1 a2 w1 w2 w3 h0 n0 _ T6.heap _
      have hF : fOp a1 a2 w1 w2 w3 = w3 := ((if_neg ha4_2).trans ((if_pos ha11_5).trans rfl))
      rw [e6]
      exact ⟨by rw [hF], N0, rfl⟩
    · skip
      refine Rch.go (fun zt zk => Jvm.RoadKit.acmp (g := (mkF m 11 #[.val (.ref a1), .val (.ref a2), .unset] [(.ref w3), (.ref a2)])) X4 hx rfl rfl rfl (pc0 := 11) (pc' := 21) (same := false) rfl (hb hby d3_11) rfl (decide_eq_false fun q => ha11_5 (Value.ref.inj q)) (by decide) (by decide) zk) ?_
      show Rch _ _ _ _ (T4.setTop (mkF m 21 #[.val (.ref a1), .val (.ref a2), .unset] []))
      refine Rch.go (fun zt zk => XS.aloadN X4.here hx rfl (hb hby d3_21) rfl rfl zk) ?_
      show Rch _ _ _ _ (T4.setTop (mkF m 22 #[.val (.ref a1), .val (.ref a2), .unset] [(.ref a1)]))
      obtain ⟨T7, X7, e7, st7⟩ := getS2 X4 hx hZ hown (host := "") (Or.inl (ow19 hw)) Via.refl e4 P1 (g := (mkF m 22 #[.val (.ref a1), .val (.ref a2), .unset] [(.ref a1)])) rfl (hb hby d3_22)
      refine Rch.go st7 ?_
      show Rch _ _ _ _ (T7.setTop (mkF m 25 #[.val (.ref a1), .val (.ref a2), .unset] [(.ref w2), (.ref a1)]))
      by_cases ha25_8 : a1 = w2
      · skip
        refine Rch.go (fun zt zk => Jvm.RoadKit.acmp (g := (mkF m 25 #[.val (.ref a1), .val (.ref a2), .unset] [(.ref w2), (.ref a1)])) X7 hx rfl rfl rfl (pc0 := 25) (pc' := 35) (same := true) rfl (hb hby d3_25) rfl (decide_eq_true (congrArg Value.ref ha25_8)) (by decide) (by decide) zk) ?_
        show Rch _ _ _ _ (T7.setTop (mkF m 35 #[.val (.ref a1), .val (.ref a2), .unset] []))
        obtain ⟨T9, X9, e9, st9⟩ := getS2 X7 hx hZ hown (host := "") (Or.inl (ow19 hw)) Via.refl e7 P1 (g := (mkF m 35 #[.val (.ref a1), .val (.ref a2), .unset] [])) rfl (hb hby d3_35)
        refine Rch.go st9 ?_
        show Rch _ _ _ _ (T9.setTop (mkF m 38 #[.val (.ref a1), .val (.ref a2), .unset] [(.ref w2)]))
        refine Rch.go (fun zt zk => XS.astoreN X9.here hx rfl (hb hby d3_38) rfl rfl (l' := #[.val (.ref a1), .val (.ref a2), .val (.ref w2)]) rfl zk) ?_
        show Rch _ _ _ _ (T9.setTop (mkF m 39 #[.val (.ref a1), .val (.ref a2), .val (.ref w2)] []))
        refine Rch.go (fun zt zk => XS.goto X9.here hx rfl (pc0 := 39) (pc' := 46) rfl (hb hby d3_39) (by decide) (by decide) zk) ?_
        show Rch _ _ _ _ (T9.setTop (mkF m 46 #[.val (.ref a1), .val (.ref a2), .val (.ref w2)] []))
        refine Rch.go (fun zt zk => XS.aloadN X9.here hx rfl (hb hby d3_46) rfl rfl zk) ?_
        show Rch _ _ _ _ (T9.setTop (mkF m 47 #[.val (.ref a1), .val (.ref a2), .val (.ref w2)] [(.ref w2)]))
        obtain ⟨fs, hr, hrun, hended, hW, hsame⟩ := X9.leave (v := some (.ref w2)) (fun h => by rw [Bd.returns] at h; cases h)
        have hend : Steps p.tables e below (T9.setTop (mkF m 47 #[.val (.ref a1), .val (.ref a2), .val (.ref w2)] [(.ref w2)])) (T9.setFrames fs) := by
          jvm_step X9.here [X9.here.top, hx, (hb hby d3_47), X9.method', Bd.returns, Value.isRef, FieldType.isReference]
          first | (intro acts; rw [hr _ acts rfl rfl rfl]) | rw [hr _ _ rfl rfl rfl]
          exact Steps.refl _
        refine Rch.mk (hend) (hPd _ _ _ _ hrun hended rfl ?_ ⟨⟨_, rfl⟩, hW, hsame.mono (by decide) (by decide)⟩)
        show Q_rm3 Z a1 a2 w1 w2 w3 h0 n0 _ T9.heap _
        have hF : fOp a1 a2 w1 w2 w3 = w2 := ((if_neg ha4_2).trans ((if_neg ha11_5).trans ((if_pos ha25_8).trans rfl)))
        rw [e9]
        exact ⟨by rw [hF], N0, rfl⟩
      · skip
        refine Rch.go (fun zt zk => Jvm.RoadKit.acmp (g := (mkF m 25 #[.val (.ref a1), .val (.ref a2), .unset] [(.ref w2), (.ref a1)])) X7 hx rfl rfl rfl (pc0 := 25) (pc' := 28) (same := false) rfl (hb hby d3_25) rfl (decide_eq_false fun q => ha25_8 (Value.ref.inj q)) (by decide) (by decide) zk) ?_
        show Rch _ _ _ _ (T7.setTop (mkF m 28 #[.val (.ref a1), .val (.ref a2), .unset] []))
        refine Rch.go (fun zt zk => XS.aloadN X7.here hx rfl (hb hby d3_28) rfl rfl zk) ?_
        show Rch _ _ _ _ (T7.setTop (mkF m 29 #[.val (.ref a1), .val (.ref a2), .unset] [(.ref a2)]))
        obtain ⟨T10, X10, e10, st10⟩ := getS2 X7 hx hZ hown (host := "") (Or.inl (ow19 hw)) Via.refl e7 P1 (g := (mkF m 29 #[.val (.ref a1), .val (.ref a2), .unset] [(.ref a2)])) rfl (hb hby d3_29)
        refine Rch.go st10 ?_
        show Rch _ _ _ _ (T10.setTop (mkF m 32 #[.val (.ref a1), .val (.ref a2), .unset] [(.ref w2), (.ref a2)]))
        by_cases ha32_11 : a2 = w2
        · skip
          refine Rch.go (fun zt zk => Jvm.RoadKit.acmp (g := (mkF m 32 #[.val (.ref a1), .val (.ref a2), .unset] [(.ref w2), (.ref a2)])) X10 hx rfl rfl rfl (pc0 := 32) (pc' := 35) (same := true) rfl (hb hby d3_32) rfl (decide_eq_true (congrArg Value.ref ha32_11)) (by decide) (by decide) zk) ?_
          show Rch _ _ _ _ (T10.setTop (mkF m 35 #[.val (.ref a1), .val (.ref a2), .unset] []))
          obtain ⟨T12, X12, e12, st12⟩ := getS2 X10 hx hZ hown (host := "") (Or.inl (ow19 hw)) Via.refl e10 P1 (g := (mkF m 35 #[.val (.ref a1), .val (.ref a2), .unset] [])) rfl (hb hby d3_35)
          refine Rch.go st12 ?_
          show Rch _ _ _ _ (T12.setTop (mkF m 38 #[.val (.ref a1), .val (.ref a2), .unset] [(.ref w2)]))
          refine Rch.go (fun zt zk => XS.astoreN X12.here hx rfl (hb hby d3_38) rfl rfl (l' := #[.val (.ref a1), .val (.ref a2), .val (.ref w2)]) rfl zk) ?_
          show Rch _ _ _ _ (T12.setTop (mkF m 39 #[.val (.ref a1), .val (.ref a2), .val (.ref w2)] []))
          refine Rch.go (fun zt zk => XS.goto X12.here hx rfl (pc0 := 39) (pc' := 46) rfl (hb hby d3_39) (by decide) (by decide) zk) ?_
          show Rch _ _ _ _ (T12.setTop (mkF m 46 #[.val (.ref a1), .val (.ref a2), .val (.ref w2)] []))
          refine Rch.go (fun zt zk => XS.aloadN X12.here hx rfl (hb hby d3_46) rfl rfl zk) ?_
          show Rch _ _ _ _ (T12.setTop (mkF m 47 #[.val (.ref a1), .val (.ref a2), .val (.ref w2)] [(.ref w2)]))
          obtain ⟨fs, hr, hrun, hended, hW, hsame⟩ := X12.leave (v := some (.ref w2)) (fun h => by rw [Bd.returns] at h; cases h)
          have hend : Steps p.tables e below (T12.setTop (mkF m 47 #[.val (.ref a1), .val (.ref a2), .val (.ref w2)] [(.ref w2)])) (T12.setFrames fs) := by
            jvm_step X12.here [X12.here.top, hx, (hb hby d3_47), X12.method', Bd.returns, Value.isRef, FieldType.isReference]
            first | (intro acts; rw [hr _ acts rfl rfl rfl]) | rw [hr _ _ rfl rfl rfl]
            exact Steps.refl _
          refine Rch.mk (hend) (hPd _ _ _ _ hrun hended rfl ?_ ⟨⟨_, rfl⟩, hW, hsame.mono (by decide) (by decide)⟩)
          show Q_rm3 Z a1 a2 w1 w2 w3 h0 n0 _ T12.heap _
          have hF : fOp a1 a2 w1 w2 w3 = w2 := ((if_neg ha4_2).trans ((if_neg ha11_5).trans ((if_neg ha25_8).trans ((if_pos ha32_11).trans rfl))))
          rw [e12]
          exact ⟨by rw [hF], N0, rfl⟩
        · skip
          refine Rch.go (fun zt zk => Jvm.RoadKit.acmp (g := (mkF m 32 #[.val (.ref a1), .val (.ref a2), .unset] [(.ref w2), (.ref a2)])) X10 hx rfl rfl rfl (pc0 := 32) (pc' := 42) (same := false) rfl (hb hby d3_32) rfl (decide_eq_false fun q => ha32_11 (Value.ref.inj q)) (by decide) (by decide) zk) ?_
          show Rch _ _ _ _ (T10.setTop (mkF m 42 #[.val (.ref a1), .val (.ref a2), .unset] []))
          obtain ⟨T13, X13, e13, st13⟩ := getS2 X10 hx hZ hown (host := "") (Or.inl (ow21 hw)) Via.refl e10 P0 (g := (mkF m 42 #[.val (.ref a1), .val (.ref a2), .unset] [])) rfl (hb hby d3_42)
          refine Rch.go st13 ?_
          show Rch _ _ _ _ (T13.setTop (mkF m 45 #[.val (.ref a1), .val (.ref a2), .unset] [(.ref w1)]))
          refine Rch.go (fun zt zk => XS.astoreN X13.here hx rfl (hb hby d3_45) rfl rfl (l' := #[.val (.ref a1), .val (.ref a2), .val (.ref w1)]) rfl zk) ?_
          show Rch _ _ _ _ (T13.setTop (mkF m 46 #[.val (.ref a1), .val (.ref a2), .val (.ref w1)] []))
          refine Rch.go (fun zt zk => XS.aloadN X13.here hx rfl (hb hby d3_46) rfl rfl zk) ?_
          show Rch _ _ _ _ (T13.setTop (mkF m 47 #[.val (.ref a1), .val (.ref a2), .val (.ref w1)] [(.ref w1)]))
          obtain ⟨fs, hr, hrun, hended, hW, hsame⟩ := X13.leave (v := some (.ref w1)) (fun h => by rw [Bd.returns] at h; cases h)
          have hend : Steps p.tables e below (T13.setTop (mkF m 47 #[.val (.ref a1), .val (.ref a2), .val (.ref w1)] [(.ref w1)])) (T13.setFrames fs) := by
            jvm_step X13.here [X13.here.top, hx, (hb hby d3_47), X13.method', Bd.returns, Value.isRef, FieldType.isReference]
            first | (intro acts; rw [hr _ acts rfl rfl rfl]) | rw [hr _ _ rfl rfl rfl]
            exact Steps.refl _
          refine Rch.mk (hend) (hPd _ _ _ _ hrun hended rfl ?_ ⟨⟨_, rfl⟩, hW, hsame.mono (by decide) (by decide)⟩)
          show Q_rm3 Z a1 a2 w1 w2 w3 h0 n0 _ T13.heap _
          have hF : fOp a1 a2 w1 w2 w3 = w1 := ((if_neg ha4_2).trans ((if_neg ha11_5).trans ((if_neg ha25_8).trans ((if_neg ha32_11).trans rfl))))
          rw [e13]
          exact ⟨by rw [hF], N0, rfl⟩
theorem own_three (x : Int32) : (x &&& (2147483647 : Int32)) % (3 : Int32) = (0 : Int32) ∨ (x &&& (2147483647 : Int32)) % (3 : Int32) = (1 : Int32) ∨ (x &&& (2147483647 : Int32)) % (3 : Int32) = (2 : Int32) := by
  have h := c_mask x (2147483647 : Int32) 31 (by decide) (by decide)
  have h2 := (c_irem (x &&& (2147483647 : Int32)) (3 : Int32) 3 (by decide)).1 (by rw [h]; omega)
  simp only [← Int32.toInt_inj, h2, show (0 : Int32).toInt = 0 from rfl, show (1 : Int32).toInt = 1 from rfl, show (2 : Int32).toInt = 2 from rfl]
  omega
theorem own_fld {s : State} {args : Array Value} {t : Term} {a : Addr} {C n d : String} {k : Int32} (ev : t.eval args s none [] s = some (.ref a)) (h : (Cond.eq (.field t C n d) (.int k)).value args s none s [] = some true) : Fld s s.heap a C n d (.int k) := by
  refine Fld.start ?_
  have e1 := fld_at (C := C) (n := n) (dd := d) ev
  obtain ⟨u, w, h1, h2, k1, k2⟩ := cmp_v (Or.inl h)
  have h2' : w = .int k := (Option.some.inj ((Term.int_eval k).symm.trans h2)).symm
  subst h2'
  obtain ⟨z, rfl⟩ := k2
  rw [← e1, h1]
  have h3 := h
  simp only [Cond.value, h1, h2] at h3
  simpa using h3
theorem ef_rm0 (m : MethodId) (p1 : Int32) (p2 : Int32) : entryFrame m #[(.int p1), (.int p2)] maxLocals = mkF m 0 #[.val (.int p1), .val (.int p2), .unset, .unset, .unset, .unset, .unset, .unset] [] := by first | (simp [entryFrame, mkF, argsToLocals, Value.category, maxLocals]; done) | rfl
theorem pd__I_Lcom_example_consistometer_consistometer_analysis_Property_Verdict_ : parseMethodDescriptor "(I)Lcom/example/consistometer/consistometer/analysis/Property$Verdict;" = some ⟨[.int], some (.object "com/example/consistometer/consistometer/analysis/Property$Verdict")⟩ := by decide +kernel
theorem pd__II_I : parseMethodDescriptor "(II)I" = some ⟨[.int, .int], some .int⟩ := by decide +kernel
theorem pd__Lcom_example_consistometer_consistometer_analysis_Property_Verdict__Lcom_example_consistometer_consistometer_analysis_Property_Verdict_ : parseMethodDescriptor "(Lcom/example/consistometer/consistometer/analysis/Property$Verdict;)Lcom/example/consistometer/consistometer/analysis/Property$Verdict;" = some ⟨[(.object "com/example/consistometer/consistometer/analysis/Property$Verdict")], some (.object "com/example/consistometer/consistometer/analysis/Property$Verdict")⟩ := by decide +kernel
def Q_rm0 (Z : State) (p1 : Int32) (p2 : Int32) (w1 : Addr) (w2 : Addr) (w3 : Addr) (h0 : Heap) (n0 : Nat) (v : Option Value) (h : Heap) (L : List Loc) : Prop := v = some (.int (1 : Int32)) ∧ Fr n0 L
set_option maxRecDepth 65536 in
set_option maxHeartbeats 40000000 in
theorem rm0 (l : Launch) (Z : State) (a0 : Array Value) (hw : ∀ d ∈ tables_1, d.before a0 Z = true) (ws : List Jvm.Cond) (p1 : Int32) (p2 : Int32) (w1 : Addr) (w2 : Addr) (w3 : Addr) (h0 : Heap) (n0 : Nat) (Z0 : n0 ≤ h0.size) (S0 : Sta Z h0 "com/example/consistometer/consistometer/analysis/Property$Verdict" "HOLDS" "Lcom/example/consistometer/consistometer/analysis/Property$Verdict;" (.ref w1)) (S1 : Sta Z h0 "com/example/consistometer/consistometer/analysis/Property$Verdict" "UNDECIDED" "Lcom/example/consistometer/consistometer/analysis/Property$Verdict;" (.ref w2)) (S2 : Sta Z h0 "com/example/consistometer/consistometer/analysis/Property$Verdict" "VIOLATED" "Lcom/example/consistometer/consistometer/analysis/Property$Verdict;" (.ref w3)) (E0 : Exa Z h0 w1 "com/example/consistometer/consistometer/analysis/Property$Verdict") (E1 : Exa Z h0 w2 "com/example/consistometer/consistometer/analysis/Property$Verdict") (E2 : Exa Z h0 w3 "com/example/consistometer/consistometer/analysis/Property$Verdict") (F0 : Fld Z h0 w1 "java/lang/Enum" "ordinal" "I" (.int (0 : Int32))) (F1 : Fld Z h0 w2 "java/lang/Enum" "ordinal" "I" (.int (2 : Int32))) (F2 : Fld Z h0 w3 "java/lang/Enum" "ordinal" "I" (.int (1 : Int32))) :
    MetFree l x (head1 (Jvm.Cond.code x code maxLocals ret :: ws) room_1) (fun a U => a = #[(.int p1), (.int p2)] ∧ Z.Warmed39 U.vm ∧ U.heap = h0) (fun _ _ _ _ _ => True) (fun _ U o U' => ∃ v L, o = .returned v ∧ Q_rm0 Z p1 p2 w1 w2 w3 h0 n0 v U'.heap L ∧ FrameEnd U o U' L room_1.cells room_1.slots) := by
  refine MetFree.of_bodySF (plainFor_of_name pn_com_example_consistometer_consistometer_analysis_VerdictAndPinLaw) hisR ?_
  intro p e s m args below meth c s₁ Bd hml0 hP hK
  obtain ⟨rfl, hZ, hh⟩ := hP
  have hx := Bd.exec
  have hby := Bd.bytes
  have hml : c.maxLocals = 8 := hml0
  have hown : s.vm.findClass "com/example/consistometer/consistometer/analysis/VerdictAndPinLaw" = some m.cls := findClass_of_methodNamed Bd.named
  have hnm := (name_of_methodNamed Bd.named Bd.method).1
  have X0 : Stand p l e room_1 s m #[(.int p1), (.int p2)] below meth c s₁ [] 0 0 := Stand.of_body Bd
  have e0 : s₁.heap = h0 := by rw [← hh, Bd.state]; rfl
  have N0 := Fr.nil n0
  suffices hR : ∀ P : State → Prop, (∀ s₂ o v L, s₂.status = .running → Ended s₂ below o → o = .returned v → Q_rm0 Z p1 p2 w1 w2 w3 h0 n0 v s₂.heap L → FrameEnd s o s₂ L room_1.cells room_1.slots → P s₂) → Rch p.tables e below P (s₁.setTop (mkF m 0 #[.val (.int p1), .val (.int p2), .unset, .unset, .unset, .unset, .unset, .unset] [])) by
    obtain ⟨s₂, h1, o, h2⟩ := hR (fun s₂ => ∃ o, s₂.status = .running ∧ Ended s₂ below o ∧ ∃ v L, o = .returned v ∧ Q_rm0 Z p1 p2 w1 w2 w3 h0 n0 v s₂.heap L ∧ FrameEnd s o s₂ L room_1.cells room_1.slots) (fun s₂ o v L q1 q2 q3 q4 q5 => ⟨o, q1, q2, v, L, q3, q4, q5⟩)
    exact ⟨s₂, o, castTop (ef_rm0 m p1 p2) h1, h2⟩
  intro P hPd
  have n12 : w1 ≠ w2 := Fld.ne F0 F1 (by decide)
  have n13 : w1 ≠ w3 := Fld.ne F0 F2 (by decide)
  have n23 : w2 ≠ w3 := Fld.ne F1 F2 (by decide)
  have j14 : ∀ (i : Int32) (j : Int32), (i = (0 : Int32) ∨ i = (1 : Int32) ∨ i = (2 : Int32)) → (j = (0 : Int32) ∨ j = (1 : Int32) ∨ j = (2 : Int32)) → Rch p.tables e below P (s₁.setTop (mkF m 14 #[.val (.int p1), .val (.int p2), .val (.int i), .val (.int j), .unset, .unset, .unset, .unset] [])) := by
    intro i j hi hj
    rcases hi with rfl | rfl | rfl
    · rcases hj with rfl | rfl | rfl
      · skip
        show Rch _ _ _ _ (s₁.setTop (mkF m 14 #[.val (.int p1), .val (.int p2), .val (.int (0 : Int32)), .val (.int (0 : Int32)), .unset, .unset, .unset, .unset] []))
        refine Rch.go (fun zt zk => XS.iloadN X0.here hx rfl (hb hby at_14) rfl zk) ?_
        show Rch _ _ _ _ (s₁.setTop (mkF m 15 #[.val (.int p1), .val (.int p2), .val (.int (0 : Int32)), .val (.int (0 : Int32)), .unset, .unset, .unset, .unset] [(.int (0 : Int32))]))
        obtain ⟨_, _, ⟨T1, L1, k1, n1⟩, -, X1, ⟨Lc1, hQ1, l1, y1, z1⟩, st1⟩ := Jvm.LawKit.callS X0 hx (y := (⟨"com/example/consistometer/consistometer/analysis/VerdictAndPinLaw", "ofRank", "(I)Lcom/example/consistometer/consistometer/analysis/Property$Verdict;"⟩ : MethodName)) hown (mvT hZ (ow1 hw)) (mvT hZ (ow2 hw)) (mvT hZ (ow3 hw)) (mvT hZ (ow4 hw)) (by decide) (backOf (W := 0) (rm1 l Z a0 hw [] ((0 : Int32)) (w1) (w2) (w3) h0 n0 Z0 (S0) (S1) (S2)) hZ (ow4 hw) (ow3 hw) (by decide) (by decide)) (g := (mkF m 15 #[.val (.int p1), .val (.int p2), .val (.int (0 : Int32)), .val (.int (0 : Int32)), .unset, .unset, .unset, .unset] [(.int (0 : Int32))])) rfl (by rw [hml]; rfl) (argsL := [(.int (0 : Int32))]) (rest := []) (lenOf pd__I_Lcom_example_consistometer_consistometer_analysis_Property_Verdict_ rfl) rfl (by show 2 * 0 + _ ≤ _; exact Nat.le_of_eq rfl) (hb hby at_15) (fun _ _ => ⟨rfl, e0, (by decide : 0 + 0 ≤ _), (by decide : 0 + 0 ≤ _)⟩)
        dsimp only [Pt.U, Pt.locs, Pt.cells, Pt.slots] at X1 l1 y1 z1 st1 hQ1
        subst l1 y1 z1
        obtain ⟨rfl, N1q, eq1⟩ := hQ1
        have N1 := Fr.app N0 N1q
        rw [show (fPick (0 : Int32) w1 w2 w3) = w1 from (by first | rfl | simp [fPick])] at st1
        refine Rch.go st1 ?_
        show Rch _ _ _ _ (T1.setTop (mkF m 18 #[.val (.int p1), .val (.int p2), .val (.int (0 : Int32)), .val (.int (0 : Int32)), .unset, .unset, .unset, .unset] [(.ref w1)]))
        refine Rch.go (fun zt zk => XS.astore X1.here hx rfl (hb hby at_18) rfl rfl (l' := #[.val (.int p1), .val (.int p2), .val (.int (0 : Int32)), .val (.int (0 : Int32)), .val (.ref w1), .unset, .unset, .unset]) rfl zk) ?_
        show Rch _ _ _ _ (T1.setTop (mkF m 20 #[.val (.int p1), .val (.int p2), .val (.int (0 : Int32)), .val (.int (0 : Int32)), .val (.ref w1), .unset, .unset, .unset] []))
        refine Rch.go (fun zt zk => XS.iloadN X1.here hx rfl (hb hby at_20) rfl zk) ?_
        show Rch _ _ _ _ (T1.setTop (mkF m 21 #[.val (.int p1), .val (.int p2), .val (.int (0 : Int32)), .val (.int (0 : Int32)), .val (.ref w1), .unset, .unset, .unset] [(.int (0 : Int32))]))
        obtain ⟨_, _, ⟨T2, L2, k2, n2⟩, -, X2, ⟨Lc2, hQ2, l2, y2, z2⟩, st2⟩ := Jvm.LawKit.callS X1 hx (y := (⟨"com/example/consistometer/consistometer/analysis/VerdictAndPinLaw", "ofRank", "(I)Lcom/example/consistometer/consistometer/analysis/Property$Verdict;"⟩ : MethodName)) hown (mvT hZ (ow1 hw)) (mvT hZ (ow2 hw)) (mvT hZ (ow3 hw)) (mvT hZ (ow4 hw)) (by decide) (backOf (W := 0) (rm1 l Z a0 hw [] ((0 : Int32)) (w1) (w2) (w3) h0 n0 Z0 (S0) (S1) (S2)) hZ (ow4 hw) (ow3 hw) (by decide) (by decide)) (g := (mkF m 21 #[.val (.int p1), .val (.int p2), .val (.int (0 : Int32)), .val (.int (0 : Int32)), .val (.ref w1), .unset, .unset, .unset] [(.int (0 : Int32))])) rfl (by rw [hml]; rfl) (argsL := [(.int (0 : Int32))]) (rest := []) (lenOf pd__I_Lcom_example_consistometer_consistometer_analysis_Property_Verdict_ rfl) rfl (by show 2 * 0 + _ ≤ _; exact Nat.le_of_eq rfl) (hb hby at_21) (fun _ _ => ⟨rfl, eq1, (by decide : 0 + 0 ≤ _), (by decide : 0 + 0 ≤ _)⟩)
        dsimp only [Pt.U, Pt.locs, Pt.cells, Pt.slots] at X2 l2 y2 z2 st2 hQ2
        subst l2 y2 z2
        obtain ⟨rfl, N2q, eq2⟩ := hQ2
        have N2 := Fr.app N1 N2q
        rw [show (fPick (0 : Int32) w1 w2 w3) = w1 from (by first | rfl | simp [fPick])] at st2
        refine Rch.go st2 ?_
        show Rch _ _ _ _ (T2.setTop (mkF m 24 #[.val (.int p1), .val (.int p2), .val (.int (0 : Int32)), .val (.int (0 : Int32)), .val (.ref w1), .unset, .unset, .unset] [(.ref w1)]))
        refine Rch.go (fun zt zk => XS.astore X2.here hx rfl (hb hby at_24) rfl rfl (l' := #[.val (.int p1), .val (.int p2), .val (.int (0 : Int32)), .val (.int (0 : Int32)), .val (.ref w1), .val (.ref w1), .unset, .unset]) rfl zk) ?_
        show Rch _ _ _ _ (T2.setTop (mkF m 26 #[.val (.int p1), .val (.int p2), .val (.int (0 : Int32)), .val (.int (0 : Int32)), .val (.ref w1), .val (.ref w1), .unset, .unset] []))
        refine Rch.go (fun zt zk => XS.iloadN X2.here hx rfl (hb hby at_26) rfl zk) ?_
        show Rch _ _ _ _ (T2.setTop (mkF m 27 #[.val (.int p1), .val (.int p2), .val (.int (0 : Int32)), .val (.int (0 : Int32)), .val (.ref w1), .val (.ref w1), .unset, .unset] [(.int (0 : Int32))]))
        refine Rch.go (fun zt zk => XS.iloadN X2.here hx rfl (hb hby at_27) rfl zk) ?_
        show Rch _ _ _ _ (T2.setTop (mkF m 28 #[.val (.int p1), .val (.int p2), .val (.int (0 : Int32)), .val (.int (0 : Int32)), .val (.ref w1), .val (.ref w1), .unset, .unset] [(.int (0 : Int32)), (.int (0 : Int32))]))
        obtain ⟨_, _, ⟨T3, L3, k3, n3⟩, -, X3, ⟨Lc3, hQ3, l3, y3, z3⟩, st3⟩ := Jvm.LawKit.callS X2 hx (y := (⟨"java/lang/Math", "max", "(II)I"⟩ : MethodName)) hown (mvT hZ (ow8 hw)) (mvT hZ (ow9 hw)) (mvT hZ (ow10 hw)) (mvT hZ (ow11 hw)) (by decide) (backOf (W := 0) (rm2 l Z a0 hw [] (0 : Int32) (0 : Int32) h0 n0 Z0 ) hZ (ow11 hw) (ow10 hw) (by decide) (by decide)) (g := (mkF m 28 #[.val (.int p1), .val (.int p2), .val (.int (0 : Int32)), .val (.int (0 : Int32)), .val (.ref w1), .val (.ref w1), .unset, .unset] [(.int (0 : Int32)), (.int (0 : Int32))])) rfl (by rw [hml]; rfl) (argsL := [(.int (0 : Int32)), (.int (0 : Int32))]) (rest := []) (lenOf pd__II_I rfl) rfl (by show 2 * 0 + _ ≤ _; exact Nat.le_of_eq rfl) (hb hby at_28) (fun _ _ => ⟨rfl, eq2, (by decide : 0 + 0 ≤ _), (by decide : 0 + 0 ≤ _)⟩)
        dsimp only [Pt.U, Pt.locs, Pt.cells, Pt.slots] at X3 l3 y3 z3 st3 hQ3
        subst l3 y3 z3
        obtain ⟨rfl, N3q, eq3⟩ := hQ3
        have N3 := Fr.app N2 N3q
        rw [show (fMax (0 : Int32) (0 : Int32)) = (0 : Int32) from (by decide)] at st3
        refine Rch.go st3 ?_
        show Rch _ _ _ _ (T3.setTop (mkF m 31 #[.val (.int p1), .val (.int p2), .val (.int (0 : Int32)), .val (.int (0 : Int32)), .val (.ref w1), .val (.ref w1), .unset, .unset] [(.int (0 : Int32))]))
        obtain ⟨_, _, ⟨T4, L4, k4, n4⟩, -, X4, ⟨Lc4, hQ4, l4, y4, z4⟩, st4⟩ := Jvm.LawKit.callS X3 hx (y := (⟨"com/example/consistometer/consistometer/analysis/VerdictAndPinLaw", "ofRank", "(I)Lcom/example/consistometer/consistometer/analysis/Property$Verdict;"⟩ : MethodName)) hown (mvT hZ (ow1 hw)) (mvT hZ (ow2 hw)) (mvT hZ (ow3 hw)) (mvT hZ (ow4 hw)) (by decide) (backOf (W := 0) (rm1 l Z a0 hw [] ((0 : Int32)) (w1) (w2) (w3) h0 n0 Z0 (S0) (S1) (S2)) hZ (ow4 hw) (ow3 hw) (by decide) (by decide)) (g := (mkF m 31 #[.val (.int p1), .val (.int p2), .val (.int (0 : Int32)), .val (.int (0 : Int32)), .val (.ref w1), .val (.ref w1), .unset, .unset] [(.int (0 : Int32))])) rfl (by rw [hml]; rfl) (argsL := [(.int (0 : Int32))]) (rest := []) (lenOf pd__I_Lcom_example_consistometer_consistometer_analysis_Property_Verdict_ rfl) rfl (by show 2 * 0 + _ ≤ _; exact Nat.le_of_eq rfl) (hb hby at_31) (fun _ _ => ⟨rfl, eq3, (by decide : 0 + 0 ≤ _), (by decide : 0 + 0 ≤ _)⟩)
        dsimp only [Pt.U, Pt.locs, Pt.cells, Pt.slots] at X4 l4 y4 z4 st4 hQ4
        subst l4 y4 z4
        obtain ⟨rfl, N4q, eq4⟩ := hQ4
        have N4 := Fr.app N3 N4q
        rw [show (fPick (0 : Int32) w1 w2 w3) = w1 from (by first | rfl | simp [fPick])] at st4
        refine Rch.go st4 ?_
        show Rch _ _ _ _ (T4.setTop (mkF m 34 #[.val (.int p1), .val (.int p2), .val (.int (0 : Int32)), .val (.int (0 : Int32)), .val (.ref w1), .val (.ref w1), .unset, .unset] [(.ref w1)]))
        refine Rch.go (fun zt zk => XS.astore X4.here hx rfl (hb hby at_34) rfl rfl (l' := #[.val (.int p1), .val (.int p2), .val (.int (0 : Int32)), .val (.int (0 : Int32)), .val (.ref w1), .val (.ref w1), .val (.ref w1), .unset]) rfl zk) ?_
        show Rch _ _ _ _ (T4.setTop (mkF m 36 #[.val (.int p1), .val (.int p2), .val (.int (0 : Int32)), .val (.int (0 : Int32)), .val (.ref w1), .val (.ref w1), .val (.ref w1), .unset] []))
        refine Rch.go (fun zt zk => XS.aload X4.here hx rfl (hb hby at_36) rfl rfl zk) ?_
        show Rch _ _ _ _ (T4.setTop (mkF m 38 #[.val (.int p1), .val (.int p2), .val (.int (0 : Int32)), .val (.int (0 : Int32)), .val (.ref w1), .val (.ref w1), .val (.ref w1), .unset] [(.ref w1)]))
        refine Rch.go (fun zt zk => XS.aload X4.here hx rfl (hb hby at_38) rfl rfl zk) ?_
        show Rch _ _ _ _ (T4.setTop (mkF m 40 #[.val (.int p1), .val (.int p2), .val (.int (0 : Int32)), .val (.int (0 : Int32)), .val (.ref w1), .val (.ref w1), .val (.ref w1), .unset] [(.ref w1), (.ref w1)]))
        obtain ⟨cq5, kq5, q5a, q5b, q5c⟩ := isOf hZ eq4 E0
        obtain ⟨_, _, ⟨T5, L5, k5, n5⟩, -, X5, ⟨Lc5, hQ5, l5, y5, z5⟩, st5⟩ := X4.virtualBack hx (y := (⟨"com/example/consistometer/consistometer/analysis/Property$Verdict", "and", "(Lcom/example/consistometer/consistometer/analysis/Property$Verdict;)Lcom/example/consistometer/consistometer/analysis/Property$Verdict;"⟩ : MethodName)) (z := (⟨"com/example/consistometer/consistometer/analysis/Property$Verdict", "and", "(Lcom/example/consistometer/consistometer/analysis/Property$Verdict;)Lcom/example/consistometer/consistometer/analysis/Property$Verdict;"⟩ : MethodName)) hown (mvT hZ (ow12 hw)) (mvT hZ (ow13 hw)) (notFace_of_selects (args := #[]) (mvT hZ (ow15 hw))) (mvT hZ (ow15 hw)) (mvT hZ (ow14 hw)) (by decide) (backOf (W := 0) (rm3 l Z a0 hw [] (w1) (w1) (w1) (w2) (w3) h0 n0 Z0 (S0) (S1) (S2)) hZ (ow16 hw) (ow6 hw) (by decide) (by decide)) q5a q5c (g := (mkF m 40 #[.val (.int p1), .val (.int p2), .val (.int (0 : Int32)), .val (.int (0 : Int32)), .val (.ref w1), .val (.ref w1), .val (.ref w1), .unset] [(.ref w1), (.ref w1)])) rfl (by rw [hml]; rfl) (Steps.refl _) (argsL := [(.ref w1)]) (rest := []) (lenOf pd__Lcom_example_consistometer_consistometer_analysis_Property_Verdict__Lcom_example_consistometer_consistometer_analysis_Property_Verdict_ rfl) rfl (by show 2 * 0 + _ ≤ _; exact Nat.le_of_eq rfl) (hb hby at_40) (fun _ _ => ⟨rfl, eq4, (by decide : 0 + 0 ≤ _), (by decide : 0 + 0 ≤ _)⟩)
        dsimp only [Pt.U, Pt.locs, Pt.cells, Pt.slots] at X5 l5 y5 z5 st5 hQ5
        subst l5 y5 z5
        obtain ⟨rfl, N5q, eq5⟩ := hQ5
        have N5 := Fr.app N4 N5q
        rw [show (fOp w1 w1 w1 w2 w3) = w1 from (by simp [fOp, n12, n13, n23, n12.symm, n13.symm, n23.symm])] at st5
        refine Rch.go (fun zt zk => st5.trans zk) ?_
        show Rch _ _ _ _ (T5.setTop (mkF m 43 #[.val (.int p1), .val (.int p2), .val (.int (0 : Int32)), .val (.int (0 : Int32)), .val (.ref w1), .val (.ref w1), .val (.ref w1), .unset] [(.ref w1)]))
        refine Rch.go (fun zt zk => XS.astore X5.here hx rfl (hb hby at_43) rfl rfl (l' := #[.val (.int p1), .val (.int p2), .val (.int (0 : Int32)), .val (.int (0 : Int32)), .val (.ref w1), .val (.ref w1), .val (.ref w1), .val (.ref w1)]) rfl zk) ?_
        show Rch _ _ _ _ (T5.setTop (mkF m 45 #[.val (.int p1), .val (.int p2), .val (.int (0 : Int32)), .val (.int (0 : Int32)), .val (.ref w1), .val (.ref w1), .val (.ref w1), .val (.ref w1)] []))
        refine Rch.go (fun zt zk => XS.aload X5.here hx rfl (hb hby at_45) rfl rfl zk) ?_
        show Rch _ _ _ _ (T5.setTop (mkF m 47 #[.val (.int p1), .val (.int p2), .val (.int (0 : Int32)), .val (.int (0 : Int32)), .val (.ref w1), .val (.ref w1), .val (.ref w1), .val (.ref w1)] [(.ref w1)]))
        refine Rch.go (fun zt zk => XS.aload X5.here hx rfl (hb hby at_47) rfl rfl zk) ?_
        show Rch _ _ _ _ (T5.setTop (mkF m 49 #[.val (.int p1), .val (.int p2), .val (.int (0 : Int32)), .val (.int (0 : Int32)), .val (.ref w1), .val (.ref w1), .val (.ref w1), .val (.ref w1)] [(.ref w1), (.ref w1)]))
        refine Rch.go (fun zt zk => Jvm.RoadKit.acmp (g := (mkF m 49 #[.val (.int p1), .val (.int p2), .val (.int (0 : Int32)), .val (.int (0 : Int32)), .val (.ref w1), .val (.ref w1), .val (.ref w1), .val (.ref w1)] [(.ref w1), (.ref w1)])) X5 hx rfl rfl rfl (pc0 := 49) (pc' := 52) (same := true) rfl (hb hby at_49) rfl (decide_eq_true rfl) (by decide) (by decide) zk) ?_
        show Rch _ _ _ _ (T5.setTop (mkF m 52 #[.val (.int p1), .val (.int p2), .val (.int (0 : Int32)), .val (.int (0 : Int32)), .val (.ref w1), .val (.ref w1), .val (.ref w1), .val (.ref w1)] []))
        refine Rch.go (fun zt zk => XS.iconst X5.here hx rfl (hb hby at_52) zk) ?_
        show Rch _ _ _ _ (T5.setTop (mkF m 53 #[.val (.int p1), .val (.int p2), .val (.int (0 : Int32)), .val (.int (0 : Int32)), .val (.ref w1), .val (.ref w1), .val (.ref w1), .val (.ref w1)] [(.int (1 : Int32))]))
        refine Rch.go (fun zt zk => XS.goto X5.here hx rfl (pc0 := 53) (pc' := 57) rfl (hb hby at_53) (by decide) (by decide) zk) ?_
        show Rch _ _ _ _ (T5.setTop (mkF m 57 #[.val (.int p1), .val (.int p2), .val (.int (0 : Int32)), .val (.int (0 : Int32)), .val (.ref w1), .val (.ref w1), .val (.ref w1), .val (.ref w1)] [(.int (1 : Int32))]))
        obtain ⟨fs, hr, hrun, hended, hW, hsame⟩ := X5.leave (v := some (.int (1 : Int32))) (fun h => by rw [Bd.returns] at h; cases h)
        refine Rch.mk (retN X5 hx (t := .boolean) Bd.returns (by simp) (hb hby at_57) hr) (hPd _ _ _ _ hrun hended rfl ?_ ⟨⟨_, rfl⟩, hW, hsame.mono (by decide) (by decide)⟩)
        show Q_rm0 Z p1 p2 w1 w2 w3 h0 n0 _ T5.heap _
        exact ⟨rfl, N5⟩
      · skip
        show Rch _ _ _ _ (s₁.setTop (mkF m 14 #[.val (.int p1), .val (.int p2), .val (.int (0 : Int32)), .val (.int (1 : Int32)), .unset, .unset, .unset, .unset] []))
        refine Rch.go (fun zt zk => XS.iloadN X0.here hx rfl (hb hby at_14) rfl zk) ?_
        show Rch _ _ _ _ (s₁.setTop (mkF m 15 #[.val (.int p1), .val (.int p2), .val (.int (0 : Int32)), .val (.int (1 : Int32)), .unset, .unset, .unset, .unset] [(.int (0 : Int32))]))
        obtain ⟨_, _, ⟨T6, L6, k6, n6⟩, -, X6, ⟨Lc6, hQ6, l6, y6, z6⟩, st6⟩ := Jvm.LawKit.callS X0 hx (y := (⟨"com/example/consistometer/consistometer/analysis/VerdictAndPinLaw", "ofRank", "(I)Lcom/example/consistometer/consistometer/analysis/Property$Verdict;"⟩ : MethodName)) hown (mvT hZ (ow1 hw)) (mvT hZ (ow2 hw)) (mvT hZ (ow3 hw)) (mvT hZ (ow4 hw)) (by decide) (backOf (W := 0) (rm1 l Z a0 hw [] ((0 : Int32)) (w1) (w2) (w3) h0 n0 Z0 (S0) (S1) (S2)) hZ (ow4 hw) (ow3 hw) (by decide) (by decide)) (g := (mkF m 15 #[.val (.int p1), .val (.int p2), .val (.int (0 : Int32)), .val (.int (1 : Int32)), .unset, .unset, .unset, .unset] [(.int (0 : Int32))])) rfl (by rw [hml]; rfl) (argsL := [(.int (0 : Int32))]) (rest := []) (lenOf pd__I_Lcom_example_consistometer_consistometer_analysis_Property_Verdict_ rfl) rfl (by show 2 * 0 + _ ≤ _; exact Nat.le_of_eq rfl) (hb hby at_15) (fun _ _ => ⟨rfl, e0, (by decide : 0 + 0 ≤ _), (by decide : 0 + 0 ≤ _)⟩)
        dsimp only [Pt.U, Pt.locs, Pt.cells, Pt.slots] at X6 l6 y6 z6 st6 hQ6
        subst l6 y6 z6
        obtain ⟨rfl, N6q, eq6⟩ := hQ6
        have N6 := Fr.app N0 N6q
        rw [show (fPick (0 : Int32) w1 w2 w3) = w1 from (by first | rfl | simp [fPick])] at st6
        refine Rch.go st6 ?_
        show Rch _ _ _ _ (T6.setTop (mkF m 18 #[.val (.int p1), .val (.int p2), .val (.int (0 : Int32)), .val (.int (1 : Int32)), .unset, .unset, .unset, .unset] [(.ref w1)]))
        refine Rch.go (fun zt zk => XS.astore X6.here hx rfl (hb hby at_18) rfl rfl (l' := #[.val (.int p1), .val (.int p2), .val (.int (0 : Int32)), .val (.int (1 : Int32)), .val (.ref w1), .unset, .unset, .unset]) rfl zk) ?_
        show Rch _ _ _ _ (T6.setTop (mkF m 20 #[.val (.int p1), .val (.int p2), .val (.int (0 : Int32)), .val (.int (1 : Int32)), .val (.ref w1), .unset, .unset, .unset] []))
        refine Rch.go (fun zt zk => XS.iloadN X6.here hx rfl (hb hby at_20) rfl zk) ?_
        show Rch _ _ _ _ (T6.setTop (mkF m 21 #[.val (.int p1), .val (.int p2), .val (.int (0 : Int32)), .val (.int (1 : Int32)), .val (.ref w1), .unset, .unset, .unset] [(.int (1 : Int32))]))
        obtain ⟨_, _, ⟨T7, L7, k7, n7⟩, -, X7, ⟨Lc7, hQ7, l7, y7, z7⟩, st7⟩ := Jvm.LawKit.callS X6 hx (y := (⟨"com/example/consistometer/consistometer/analysis/VerdictAndPinLaw", "ofRank", "(I)Lcom/example/consistometer/consistometer/analysis/Property$Verdict;"⟩ : MethodName)) hown (mvT hZ (ow1 hw)) (mvT hZ (ow2 hw)) (mvT hZ (ow3 hw)) (mvT hZ (ow4 hw)) (by decide) (backOf (W := 0) (rm1 l Z a0 hw [] ((1 : Int32)) (w1) (w2) (w3) h0 n0 Z0 (S0) (S1) (S2)) hZ (ow4 hw) (ow3 hw) (by decide) (by decide)) (g := (mkF m 21 #[.val (.int p1), .val (.int p2), .val (.int (0 : Int32)), .val (.int (1 : Int32)), .val (.ref w1), .unset, .unset, .unset] [(.int (1 : Int32))])) rfl (by rw [hml]; rfl) (argsL := [(.int (1 : Int32))]) (rest := []) (lenOf pd__I_Lcom_example_consistometer_consistometer_analysis_Property_Verdict_ rfl) rfl (by show 2 * 0 + _ ≤ _; exact Nat.le_of_eq rfl) (hb hby at_21) (fun _ _ => ⟨rfl, eq6, (by decide : 0 + 0 ≤ _), (by decide : 0 + 0 ≤ _)⟩)
        dsimp only [Pt.U, Pt.locs, Pt.cells, Pt.slots] at X7 l7 y7 z7 st7 hQ7
        subst l7 y7 z7
        obtain ⟨rfl, N7q, eq7⟩ := hQ7
        have N7 := Fr.app N6 N7q
        rw [show (fPick (1 : Int32) w1 w2 w3) = w2 from (by first | rfl | simp [fPick])] at st7
        refine Rch.go st7 ?_
        show Rch _ _ _ _ (T7.setTop (mkF m 24 #[.val (.int p1), .val (.int p2), .val (.int (0 : Int32)), .val (.int (1 : Int32)), .val (.ref w1), .unset, .unset, .unset] [(.ref w2)]))
        refine Rch.go (fun zt zk => XS.astore X7.here hx rfl (hb hby at_24) rfl rfl (l' := #[.val (.int p1), .val (.int p2), .val (.int (0 : Int32)), .val (.int (1 : Int32)), .val (.ref w1), .val (.ref w2), .unset, .unset]) rfl zk) ?_
        show Rch _ _ _ _ (T7.setTop (mkF m 26 #[.val (.int p1), .val (.int p2), .val (.int (0 : Int32)), .val (.int (1 : Int32)), .val (.ref w1), .val (.ref w2), .unset, .unset] []))
        refine Rch.go (fun zt zk => XS.iloadN X7.here hx rfl (hb hby at_26) rfl zk) ?_
        show Rch _ _ _ _ (T7.setTop (mkF m 27 #[.val (.int p1), .val (.int p2), .val (.int (0 : Int32)), .val (.int (1 : Int32)), .val (.ref w1), .val (.ref w2), .unset, .unset] [(.int (0 : Int32))]))
        refine Rch.go (fun zt zk => XS.iloadN X7.here hx rfl (hb hby at_27) rfl zk) ?_
        show Rch _ _ _ _ (T7.setTop (mkF m 28 #[.val (.int p1), .val (.int p2), .val (.int (0 : Int32)), .val (.int (1 : Int32)), .val (.ref w1), .val (.ref w2), .unset, .unset] [(.int (1 : Int32)), (.int (0 : Int32))]))
        obtain ⟨_, _, ⟨T8, L8, k8, n8⟩, -, X8, ⟨Lc8, hQ8, l8, y8, z8⟩, st8⟩ := Jvm.LawKit.callS X7 hx (y := (⟨"java/lang/Math", "max", "(II)I"⟩ : MethodName)) hown (mvT hZ (ow8 hw)) (mvT hZ (ow9 hw)) (mvT hZ (ow10 hw)) (mvT hZ (ow11 hw)) (by decide) (backOf (W := 0) (rm2 l Z a0 hw [] (0 : Int32) (1 : Int32) h0 n0 Z0 ) hZ (ow11 hw) (ow10 hw) (by decide) (by decide)) (g := (mkF m 28 #[.val (.int p1), .val (.int p2), .val (.int (0 : Int32)), .val (.int (1 : Int32)), .val (.ref w1), .val (.ref w2), .unset, .unset] [(.int (1 : Int32)), (.int (0 : Int32))])) rfl (by rw [hml]; rfl) (argsL := [(.int (0 : Int32)), (.int (1 : Int32))]) (rest := []) (lenOf pd__II_I rfl) rfl (by show 2 * 0 + _ ≤ _; exact Nat.le_of_eq rfl) (hb hby at_28) (fun _ _ => ⟨rfl, eq7, (by decide : 0 + 0 ≤ _), (by decide : 0 + 0 ≤ _)⟩)
        dsimp only [Pt.U, Pt.locs, Pt.cells, Pt.slots] at X8 l8 y8 z8 st8 hQ8
        subst l8 y8 z8
        obtain ⟨rfl, N8q, eq8⟩ := hQ8
        have N8 := Fr.app N7 N8q
        rw [show (fMax (0 : Int32) (1 : Int32)) = (1 : Int32) from (by decide)] at st8
        refine Rch.go st8 ?_
        show Rch _ _ _ _ (T8.setTop (mkF m 31 #[.val (.int p1), .val (.int p2), .val (.int (0 : Int32)), .val (.int (1 : Int32)), .val (.ref w1), .val (.ref w2), .unset, .unset] [(.int (1 : Int32))]))
        obtain ⟨_, _, ⟨T9, L9, k9, n9⟩, -, X9, ⟨Lc9, hQ9, l9, y9, z9⟩, st9⟩ := Jvm.LawKit.callS X8 hx (y := (⟨"com/example/consistometer/consistometer/analysis/VerdictAndPinLaw", "ofRank", "(I)Lcom/example/consistometer/consistometer/analysis/Property$Verdict;"⟩ : MethodName)) hown (mvT hZ (ow1 hw)) (mvT hZ (ow2 hw)) (mvT hZ (ow3 hw)) (mvT hZ (ow4 hw)) (by decide) (backOf (W := 0) (rm1 l Z a0 hw [] ((1 : Int32)) (w1) (w2) (w3) h0 n0 Z0 (S0) (S1) (S2)) hZ (ow4 hw) (ow3 hw) (by decide) (by decide)) (g := (mkF m 31 #[.val (.int p1), .val (.int p2), .val (.int (0 : Int32)), .val (.int (1 : Int32)), .val (.ref w1), .val (.ref w2), .unset, .unset] [(.int (1 : Int32))])) rfl (by rw [hml]; rfl) (argsL := [(.int (1 : Int32))]) (rest := []) (lenOf pd__I_Lcom_example_consistometer_consistometer_analysis_Property_Verdict_ rfl) rfl (by show 2 * 0 + _ ≤ _; exact Nat.le_of_eq rfl) (hb hby at_31) (fun _ _ => ⟨rfl, eq8, (by decide : 0 + 0 ≤ _), (by decide : 0 + 0 ≤ _)⟩)
        dsimp only [Pt.U, Pt.locs, Pt.cells, Pt.slots] at X9 l9 y9 z9 st9 hQ9
        subst l9 y9 z9
        obtain ⟨rfl, N9q, eq9⟩ := hQ9
        have N9 := Fr.app N8 N9q
        rw [show (fPick (1 : Int32) w1 w2 w3) = w2 from (by first | rfl | simp [fPick])] at st9
        refine Rch.go st9 ?_
        show Rch _ _ _ _ (T9.setTop (mkF m 34 #[.val (.int p1), .val (.int p2), .val (.int (0 : Int32)), .val (.int (1 : Int32)), .val (.ref w1), .val (.ref w2), .unset, .unset] [(.ref w2)]))
        refine Rch.go (fun zt zk => XS.astore X9.here hx rfl (hb hby at_34) rfl rfl (l' := #[.val (.int p1), .val (.int p2), .val (.int (0 : Int32)), .val (.int (1 : Int32)), .val (.ref w1), .val (.ref w2), .val (.ref w2), .unset]) rfl zk) ?_
        show Rch _ _ _ _ (T9.setTop (mkF m 36 #[.val (.int p1), .val (.int p2), .val (.int (0 : Int32)), .val (.int (1 : Int32)), .val (.ref w1), .val (.ref w2), .val (.ref w2), .unset] []))
        refine Rch.go (fun zt zk => XS.aload X9.here hx rfl (hb hby at_36) rfl rfl zk) ?_
        show Rch _ _ _ _ (T9.setTop (mkF m 38 #[.val (.int p1), .val (.int p2), .val (.int (0 : Int32)), .val (.int (1 : Int32)), .val (.ref w1), .val (.ref w2), .val (.ref w2), .unset] [(.ref w1)]))
        refine Rch.go (fun zt zk => XS.aload X9.here hx rfl (hb hby at_38) rfl rfl zk) ?_
        show Rch _ _ _ _ (T9.setTop (mkF m 40 #[.val (.int p1), .val (.int p2), .val (.int (0 : Int32)), .val (.int (1 : Int32)), .val (.ref w1), .val (.ref w2), .val (.ref w2), .unset] [(.ref w2), (.ref w1)]))
        obtain ⟨cq10, kq10, q10a, q10b, q10c⟩ := isOf hZ eq9 E0
        obtain ⟨_, _, ⟨T10, L10, k10, n10⟩, -, X10, ⟨Lc10, hQ10, l10, y10, z10⟩, st10⟩ := X9.virtualBack hx (y := (⟨"com/example/consistometer/consistometer/analysis/Property$Verdict", "and", "(Lcom/example/consistometer/consistometer/analysis/Property$Verdict;)Lcom/example/consistometer/consistometer/analysis/Property$Verdict;"⟩ : MethodName)) (z := (⟨"com/example/consistometer/consistometer/analysis/Property$Verdict", "and", "(Lcom/example/consistometer/consistometer/analysis/Property$Verdict;)Lcom/example/consistometer/consistometer/analysis/Property$Verdict;"⟩ : MethodName)) hown (mvT hZ (ow12 hw)) (mvT hZ (ow13 hw)) (notFace_of_selects (args := #[]) (mvT hZ (ow15 hw))) (mvT hZ (ow15 hw)) (mvT hZ (ow14 hw)) (by decide) (backOf (W := 0) (rm3 l Z a0 hw [] (w1) (w2) (w1) (w2) (w3) h0 n0 Z0 (S0) (S1) (S2)) hZ (ow16 hw) (ow6 hw) (by decide) (by decide)) q10a q10c (g := (mkF m 40 #[.val (.int p1), .val (.int p2), .val (.int (0 : Int32)), .val (.int (1 : Int32)), .val (.ref w1), .val (.ref w2), .val (.ref w2), .unset] [(.ref w2), (.ref w1)])) rfl (by rw [hml]; rfl) (Steps.refl _) (argsL := [(.ref w2)]) (rest := []) (lenOf pd__Lcom_example_consistometer_consistometer_analysis_Property_Verdict__Lcom_example_consistometer_consistometer_analysis_Property_Verdict_ rfl) rfl (by show 2 * 0 + _ ≤ _; exact Nat.le_of_eq rfl) (hb hby at_40) (fun _ _ => ⟨rfl, eq9, (by decide : 0 + 0 ≤ _), (by decide : 0 + 0 ≤ _)⟩)
        dsimp only [Pt.U, Pt.locs, Pt.cells, Pt.slots] at X10 l10 y10 z10 st10 hQ10
        subst l10 y10 z10
        obtain ⟨rfl, N10q, eq10⟩ := hQ10
        have N10 := Fr.app N9 N10q
        rw [show (fOp w1 w2 w1 w2 w3) = w2 from (by simp [fOp, n12, n13, n23, n12.symm, n13.symm, n23.symm])] at st10
        refine Rch.go (fun zt zk => st10.trans zk) ?_
        show Rch _ _ _ _ (T10.setTop (mkF m 43 #[.val (.int p1), .val (.int p2), .val (.int (0 : Int32)), .val (.int (1 : Int32)), .val (.ref w1), .val (.ref w2), .val (.ref w2), .unset] [(.ref w2)]))
        refine Rch.go (fun zt zk => XS.astore X10.here hx rfl (hb hby at_43) rfl rfl (l' := #[.val (.int p1), .val (.int p2), .val (.int (0 : Int32)), .val (.int (1 : Int32)), .val (.ref w1), .val (.ref w2), .val (.ref w2), .val (.ref w2)]) rfl zk) ?_
        show Rch _ _ _ _ (T10.setTop (mkF m 45 #[.val (.int p1), .val (.int p2), .val (.int (0 : Int32)), .val (.int (1 : Int32)), .val (.ref w1), .val (.ref w2), .val (.ref w2), .val (.ref w2)] []))
        refine Rch.go (fun zt zk => XS.aload X10.here hx rfl (hb hby at_45) rfl rfl zk) ?_
        show Rch _ _ _ _ (T10.setTop (mkF m 47 #[.val (.int p1), .val (.int p2), .val (.int (0 : Int32)), .val (.int (1 : Int32)), .val (.ref w1), .val (.ref w2), .val (.ref w2), .val (.ref w2)] [(.ref w2)]))
        refine Rch.go (fun zt zk => XS.aload X10.here hx rfl (hb hby at_47) rfl rfl zk) ?_
        show Rch _ _ _ _ (T10.setTop (mkF m 49 #[.val (.int p1), .val (.int p2), .val (.int (0 : Int32)), .val (.int (1 : Int32)), .val (.ref w1), .val (.ref w2), .val (.ref w2), .val (.ref w2)] [(.ref w2), (.ref w2)]))
        refine Rch.go (fun zt zk => Jvm.RoadKit.acmp (g := (mkF m 49 #[.val (.int p1), .val (.int p2), .val (.int (0 : Int32)), .val (.int (1 : Int32)), .val (.ref w1), .val (.ref w2), .val (.ref w2), .val (.ref w2)] [(.ref w2), (.ref w2)])) X10 hx rfl rfl rfl (pc0 := 49) (pc' := 52) (same := true) rfl (hb hby at_49) rfl (decide_eq_true rfl) (by decide) (by decide) zk) ?_
        show Rch _ _ _ _ (T10.setTop (mkF m 52 #[.val (.int p1), .val (.int p2), .val (.int (0 : Int32)), .val (.int (1 : Int32)), .val (.ref w1), .val (.ref w2), .val (.ref w2), .val (.ref w2)] []))
        refine Rch.go (fun zt zk => XS.iconst X10.here hx rfl (hb hby at_52) zk) ?_
        show Rch _ _ _ _ (T10.setTop (mkF m 53 #[.val (.int p1), .val (.int p2), .val (.int (0 : Int32)), .val (.int (1 : Int32)), .val (.ref w1), .val (.ref w2), .val (.ref w2), .val (.ref w2)] [(.int (1 : Int32))]))
        refine Rch.go (fun zt zk => XS.goto X10.here hx rfl (pc0 := 53) (pc' := 57) rfl (hb hby at_53) (by decide) (by decide) zk) ?_
        show Rch _ _ _ _ (T10.setTop (mkF m 57 #[.val (.int p1), .val (.int p2), .val (.int (0 : Int32)), .val (.int (1 : Int32)), .val (.ref w1), .val (.ref w2), .val (.ref w2), .val (.ref w2)] [(.int (1 : Int32))]))
        obtain ⟨fs, hr, hrun, hended, hW, hsame⟩ := X10.leave (v := some (.int (1 : Int32))) (fun h => by rw [Bd.returns] at h; cases h)
        refine Rch.mk (retN X10 hx (t := .boolean) Bd.returns (by simp) (hb hby at_57) hr) (hPd _ _ _ _ hrun hended rfl ?_ ⟨⟨_, rfl⟩, hW, hsame.mono (by decide) (by decide)⟩)
        show Q_rm0 Z p1 p2 w1 w2 w3 h0 n0 _ T10.heap _
        exact ⟨rfl, N10⟩
      · skip
        show Rch _ _ _ _ (s₁.setTop (mkF m 14 #[.val (.int p1), .val (.int p2), .val (.int (0 : Int32)), .val (.int (2 : Int32)), .unset, .unset, .unset, .unset] []))
        refine Rch.go (fun zt zk => XS.iloadN X0.here hx rfl (hb hby at_14) rfl zk) ?_
        show Rch _ _ _ _ (s₁.setTop (mkF m 15 #[.val (.int p1), .val (.int p2), .val (.int (0 : Int32)), .val (.int (2 : Int32)), .unset, .unset, .unset, .unset] [(.int (0 : Int32))]))
        obtain ⟨_, _, ⟨T11, L11, k11, n11⟩, -, X11, ⟨Lc11, hQ11, l11, y11, z11⟩, st11⟩ := Jvm.LawKit.callS X0 hx (y := (⟨"com/example/consistometer/consistometer/analysis/VerdictAndPinLaw", "ofRank", "(I)Lcom/example/consistometer/consistometer/analysis/Property$Verdict;"⟩ : MethodName)) hown (mvT hZ (ow1 hw)) (mvT hZ (ow2 hw)) (mvT hZ (ow3 hw)) (mvT hZ (ow4 hw)) (by decide) (backOf (W := 0) (rm1 l Z a0 hw [] ((0 : Int32)) (w1) (w2) (w3) h0 n0 Z0 (S0) (S1) (S2)) hZ (ow4 hw) (ow3 hw) (by decide) (by decide)) (g := (mkF m 15 #[.val (.int p1), .val (.int p2), .val (.int (0 : Int32)), .val (.int (2 : Int32)), .unset, .unset, .unset, .unset] [(.int (0 : Int32))])) rfl (by rw [hml]; rfl) (argsL := [(.int (0 : Int32))]) (rest := []) (lenOf pd__I_Lcom_example_consistometer_consistometer_analysis_Property_Verdict_ rfl) rfl (by show 2 * 0 + _ ≤ _; exact Nat.le_of_eq rfl) (hb hby at_15) (fun _ _ => ⟨rfl, e0, (by decide : 0 + 0 ≤ _), (by decide : 0 + 0 ≤ _)⟩)
        dsimp only [Pt.U, Pt.locs, Pt.cells, Pt.slots] at X11 l11 y11 z11 st11 hQ11
        subst l11 y11 z11
        obtain ⟨rfl, N11q, eq11⟩ := hQ11
        have N11 := Fr.app N0 N11q
        rw [show (fPick (0 : Int32) w1 w2 w3) = w1 from (by first | rfl | simp [fPick])] at st11
        refine Rch.go st11 ?_
        show Rch _ _ _ _ (T11.setTop (mkF m 18 #[.val (.int p1), .val (.int p2), .val (.int (0 : Int32)), .val (.int (2 : Int32)), .unset, .unset, .unset, .unset] [(.ref w1)]))
        refine Rch.go (fun zt zk => XS.astore X11.here hx rfl (hb hby at_18) rfl rfl (l' := #[.val (.int p1), .val (.int p2), .val (.int (0 : Int32)), .val (.int (2 : Int32)), .val (.ref w1), .unset, .unset, .unset]) rfl zk) ?_
        show Rch _ _ _ _ (T11.setTop (mkF m 20 #[.val (.int p1), .val (.int p2), .val (.int (0 : Int32)), .val (.int (2 : Int32)), .val (.ref w1), .unset, .unset, .unset] []))
        refine Rch.go (fun zt zk => XS.iloadN X11.here hx rfl (hb hby at_20) rfl zk) ?_
        show Rch _ _ _ _ (T11.setTop (mkF m 21 #[.val (.int p1), .val (.int p2), .val (.int (0 : Int32)), .val (.int (2 : Int32)), .val (.ref w1), .unset, .unset, .unset] [(.int (2 : Int32))]))
        obtain ⟨_, _, ⟨T12, L12, k12, n12⟩, -, X12, ⟨Lc12, hQ12, l12, y12, z12⟩, st12⟩ := Jvm.LawKit.callS X11 hx (y := (⟨"com/example/consistometer/consistometer/analysis/VerdictAndPinLaw", "ofRank", "(I)Lcom/example/consistometer/consistometer/analysis/Property$Verdict;"⟩ : MethodName)) hown (mvT hZ (ow1 hw)) (mvT hZ (ow2 hw)) (mvT hZ (ow3 hw)) (mvT hZ (ow4 hw)) (by decide) (backOf (W := 0) (rm1 l Z a0 hw [] ((2 : Int32)) (w1) (w2) (w3) h0 n0 Z0 (S0) (S1) (S2)) hZ (ow4 hw) (ow3 hw) (by decide) (by decide)) (g := (mkF m 21 #[.val (.int p1), .val (.int p2), .val (.int (0 : Int32)), .val (.int (2 : Int32)), .val (.ref w1), .unset, .unset, .unset] [(.int (2 : Int32))])) rfl (by rw [hml]; rfl) (argsL := [(.int (2 : Int32))]) (rest := []) (lenOf pd__I_Lcom_example_consistometer_consistometer_analysis_Property_Verdict_ rfl) rfl (by show 2 * 0 + _ ≤ _; exact Nat.le_of_eq rfl) (hb hby at_21) (fun _ _ => ⟨rfl, eq11, (by decide : 0 + 0 ≤ _), (by decide : 0 + 0 ≤ _)⟩)
        dsimp only [Pt.U, Pt.locs, Pt.cells, Pt.slots] at X12 l12 y12 z12 st12 hQ12
        subst l12 y12 z12
        obtain ⟨rfl, N12q, eq12⟩ := hQ12
        have N12 := Fr.app N11 N12q
        rw [show (fPick (2 : Int32) w1 w2 w3) = w3 from (by first | rfl | simp [fPick])] at st12
        refine Rch.go st12 ?_
        show Rch _ _ _ _ (T12.setTop (mkF m 24 #[.val (.int p1), .val (.int p2), .val (.int (0 : Int32)), .val (.int (2 : Int32)), .val (.ref w1), .unset, .unset, .unset] [(.ref w3)]))
        refine Rch.go (fun zt zk => XS.astore X12.here hx rfl (hb hby at_24) rfl rfl (l' := #[.val (.int p1), .val (.int p2), .val (.int (0 : Int32)), .val (.int (2 : Int32)), .val (.ref w1), .val (.ref w3), .unset, .unset]) rfl zk) ?_
        show Rch _ _ _ _ (T12.setTop (mkF m 26 #[.val (.int p1), .val (.int p2), .val (.int (0 : Int32)), .val (.int (2 : Int32)), .val (.ref w1), .val (.ref w3), .unset, .unset] []))
        refine Rch.go (fun zt zk => XS.iloadN X12.here hx rfl (hb hby at_26) rfl zk) ?_
        show Rch _ _ _ _ (T12.setTop (mkF m 27 #[.val (.int p1), .val (.int p2), .val (.int (0 : Int32)), .val (.int (2 : Int32)), .val (.ref w1), .val (.ref w3), .unset, .unset] [(.int (0 : Int32))]))
        refine Rch.go (fun zt zk => XS.iloadN X12.here hx rfl (hb hby at_27) rfl zk) ?_
        show Rch _ _ _ _ (T12.setTop (mkF m 28 #[.val (.int p1), .val (.int p2), .val (.int (0 : Int32)), .val (.int (2 : Int32)), .val (.ref w1), .val (.ref w3), .unset, .unset] [(.int (2 : Int32)), (.int (0 : Int32))]))
        obtain ⟨_, _, ⟨T13, L13, k13, n13⟩, -, X13, ⟨Lc13, hQ13, l13, y13, z13⟩, st13⟩ := Jvm.LawKit.callS X12 hx (y := (⟨"java/lang/Math", "max", "(II)I"⟩ : MethodName)) hown (mvT hZ (ow8 hw)) (mvT hZ (ow9 hw)) (mvT hZ (ow10 hw)) (mvT hZ (ow11 hw)) (by decide) (backOf (W := 0) (rm2 l Z a0 hw [] (0 : Int32) (2 : Int32) h0 n0 Z0 ) hZ (ow11 hw) (ow10 hw) (by decide) (by decide)) (g := (mkF m 28 #[.val (.int p1), .val (.int p2), .val (.int (0 : Int32)), .val (.int (2 : Int32)), .val (.ref w1), .val (.ref w3), .unset, .unset] [(.int (2 : Int32)), (.int (0 : Int32))])) rfl (by rw [hml]; rfl) (argsL := [(.int (0 : Int32)), (.int (2 : Int32))]) (rest := []) (lenOf pd__II_I rfl) rfl (by show 2 * 0 + _ ≤ _; exact Nat.le_of_eq rfl) (hb hby at_28) (fun _ _ => ⟨rfl, eq12, (by decide : 0 + 0 ≤ _), (by decide : 0 + 0 ≤ _)⟩)
        dsimp only [Pt.U, Pt.locs, Pt.cells, Pt.slots] at X13 l13 y13 z13 st13 hQ13
        subst l13 y13 z13
        obtain ⟨rfl, N13q, eq13⟩ := hQ13
        have N13 := Fr.app N12 N13q
        rw [show (fMax (0 : Int32) (2 : Int32)) = (2 : Int32) from (by decide)] at st13
        refine Rch.go st13 ?_
        show Rch _ _ _ _ (T13.setTop (mkF m 31 #[.val (.int p1), .val (.int p2), .val (.int (0 : Int32)), .val (.int (2 : Int32)), .val (.ref w1), .val (.ref w3), .unset, .unset] [(.int (2 : Int32))]))
        obtain ⟨_, _, ⟨T14, L14, k14, n14⟩, -, X14, ⟨Lc14, hQ14, l14, y14, z14⟩, st14⟩ := Jvm.LawKit.callS X13 hx (y := (⟨"com/example/consistometer/consistometer/analysis/VerdictAndPinLaw", "ofRank", "(I)Lcom/example/consistometer/consistometer/analysis/Property$Verdict;"⟩ : MethodName)) hown (mvT hZ (ow1 hw)) (mvT hZ (ow2 hw)) (mvT hZ (ow3 hw)) (mvT hZ (ow4 hw)) (by decide) (backOf (W := 0) (rm1 l Z a0 hw [] ((2 : Int32)) (w1) (w2) (w3) h0 n0 Z0 (S0) (S1) (S2)) hZ (ow4 hw) (ow3 hw) (by decide) (by decide)) (g := (mkF m 31 #[.val (.int p1), .val (.int p2), .val (.int (0 : Int32)), .val (.int (2 : Int32)), .val (.ref w1), .val (.ref w3), .unset, .unset] [(.int (2 : Int32))])) rfl (by rw [hml]; rfl) (argsL := [(.int (2 : Int32))]) (rest := []) (lenOf pd__I_Lcom_example_consistometer_consistometer_analysis_Property_Verdict_ rfl) rfl (by show 2 * 0 + _ ≤ _; exact Nat.le_of_eq rfl) (hb hby at_31) (fun _ _ => ⟨rfl, eq13, (by decide : 0 + 0 ≤ _), (by decide : 0 + 0 ≤ _)⟩)
        dsimp only [Pt.U, Pt.locs, Pt.cells, Pt.slots] at X14 l14 y14 z14 st14 hQ14
        subst l14 y14 z14
        obtain ⟨rfl, N14q, eq14⟩ := hQ14
        have N14 := Fr.app N13 N14q
        rw [show (fPick (2 : Int32) w1 w2 w3) = w3 from (by first | rfl | simp [fPick])] at st14
        refine Rch.go st14 ?_
        show Rch _ _ _ _ (T14.setTop (mkF m 34 #[.val (.int p1), .val (.int p2), .val (.int (0 : Int32)), .val (.int (2 : Int32)), .val (.ref w1), .val (.ref w3), .unset, .unset] [(.ref w3)]))
        refine Rch.go (fun zt zk => XS.astore X14.here hx rfl (hb hby at_34) rfl rfl (l' := #[.val (.int p1), .val (.int p2), .val (.int (0 : Int32)), .val (.int (2 : Int32)), .val (.ref w1), .val (.ref w3), .val (.ref w3), .unset]) rfl zk) ?_
        show Rch _ _ _ _ (T14.setTop (mkF m 36 #[.val (.int p1), .val (.int p2), .val (.int (0 : Int32)), .val (.int (2 : Int32)), .val (.ref w1), .val (.ref w3), .val (.ref w3), .unset] []))
        refine Rch.go (fun zt zk => XS.aload X14.here hx rfl (hb hby at_36) rfl rfl zk) ?_
        show Rch _ _ _ _ (T14.setTop (mkF m 38 #[.val (.int p1), .val (.int p2), .val (.int (0 : Int32)), .val (.int (2 : Int32)), .val (.ref w1), .val (.ref w3), .val (.ref w3), .unset] [(.ref w1)]))
        refine Rch.go (fun zt zk => XS.aload X14.here hx rfl (hb hby at_38) rfl rfl zk) ?_
        show Rch _ _ _ _ (T14.setTop (mkF m 40 #[.val (.int p1), .val (.int p2), .val (.int (0 : Int32)), .val (.int (2 : Int32)), .val (.ref w1), .val (.ref w3), .val (.ref w3), .unset] [(.ref w3), (.ref w1)]))
        obtain ⟨cq15, kq15, q15a, q15b, q15c⟩ := isOf hZ eq14 E0
        obtain ⟨_, _, ⟨T15, L15, k15, n15⟩, -, X15, ⟨Lc15, hQ15, l15, y15, z15⟩, st15⟩ := X14.virtualBack hx (y := (⟨"com/example/consistometer/consistometer/analysis/Property$Verdict", "and", "(Lcom/example/consistometer/consistometer/analysis/Property$Verdict;)Lcom/example/consistometer/consistometer/analysis/Property$Verdict;"⟩ : MethodName)) (z := (⟨"com/example/consistometer/consistometer/analysis/Property$Verdict", "and", "(Lcom/example/consistometer/consistometer/analysis/Property$Verdict;)Lcom/example/consistometer/consistometer/analysis/Property$Verdict;"⟩ : MethodName)) hown (mvT hZ (ow12 hw)) (mvT hZ (ow13 hw)) (notFace_of_selects (args := #[]) (mvT hZ (ow15 hw))) (mvT hZ (ow15 hw)) (mvT hZ (ow14 hw)) (by decide) (backOf (W := 0) (rm3 l Z a0 hw [] (w1) (w3) (w1) (w2) (w3) h0 n0 Z0 (S0) (S1) (S2)) hZ (ow16 hw) (ow6 hw) (by decide) (by decide)) q15a q15c (g := (mkF m 40 #[.val (.int p1), .val (.int p2), .val (.int (0 : Int32)), .val (.int (2 : Int32)), .val (.ref w1), .val (.ref w3), .val (.ref w3), .unset] [(.ref w3), (.ref w1)])) rfl (by rw [hml]; rfl) (Steps.refl _) (argsL := [(.ref w3)]) (rest := []) (lenOf pd__Lcom_example_consistometer_consistometer_analysis_Property_Verdict__Lcom_example_consistometer_consistometer_analysis_Property_Verdict_ rfl) rfl (by show 2 * 0 + _ ≤ _; exact Nat.le_of_eq rfl) (hb hby at_40) (fun _ _ => ⟨rfl, eq14, (by decide : 0 + 0 ≤ _), (by decide : 0 + 0 ≤ _)⟩)
        dsimp only [Pt.U, Pt.locs, Pt.cells, Pt.slots] at X15 l15 y15 z15 st15 hQ15
        subst l15 y15 z15
        obtain ⟨rfl, N15q, eq15⟩ := hQ15
        have N15 := Fr.app N14 N15q
        rw [show (fOp w1 w3 w1 w2 w3) = w3 from (by simp [fOp, n12, n13, n23, n12.symm, n13.symm, n23.symm])] at st15
        refine Rch.go (fun zt zk => st15.trans zk) ?_
        show Rch _ _ _ _ (T15.setTop (mkF m 43 #[.val (.int p1), .val (.int p2), .val (.int (0 : Int32)), .val (.int (2 : Int32)), .val (.ref w1), .val (.ref w3), .val (.ref w3), .unset] [(.ref w3)]))
        refine Rch.go (fun zt zk => XS.astore X15.here hx rfl (hb hby at_43) rfl rfl (l' := #[.val (.int p1), .val (.int p2), .val (.int (0 : Int32)), .val (.int (2 : Int32)), .val (.ref w1), .val (.ref w3), .val (.ref w3), .val (.ref w3)]) rfl zk) ?_
        show Rch _ _ _ _ (T15.setTop (mkF m 45 #[.val (.int p1), .val (.int p2), .val (.int (0 : Int32)), .val (.int (2 : Int32)), .val (.ref w1), .val (.ref w3), .val (.ref w3), .val (.ref w3)] []))
        refine Rch.go (fun zt zk => XS.aload X15.here hx rfl (hb hby at_45) rfl rfl zk) ?_
        show Rch _ _ _ _ (T15.setTop (mkF m 47 #[.val (.int p1), .val (.int p2), .val (.int (0 : Int32)), .val (.int (2 : Int32)), .val (.ref w1), .val (.ref w3), .val (.ref w3), .val (.ref w3)] [(.ref w3)]))
        refine Rch.go (fun zt zk => XS.aload X15.here hx rfl (hb hby at_47) rfl rfl zk) ?_
        show Rch _ _ _ _ (T15.setTop (mkF m 49 #[.val (.int p1), .val (.int p2), .val (.int (0 : Int32)), .val (.int (2 : Int32)), .val (.ref w1), .val (.ref w3), .val (.ref w3), .val (.ref w3)] [(.ref w3), (.ref w3)]))
        refine Rch.go (fun zt zk => Jvm.RoadKit.acmp (g := (mkF m 49 #[.val (.int p1), .val (.int p2), .val (.int (0 : Int32)), .val (.int (2 : Int32)), .val (.ref w1), .val (.ref w3), .val (.ref w3), .val (.ref w3)] [(.ref w3), (.ref w3)])) X15 hx rfl rfl rfl (pc0 := 49) (pc' := 52) (same := true) rfl (hb hby at_49) rfl (decide_eq_true rfl) (by decide) (by decide) zk) ?_
        show Rch _ _ _ _ (T15.setTop (mkF m 52 #[.val (.int p1), .val (.int p2), .val (.int (0 : Int32)), .val (.int (2 : Int32)), .val (.ref w1), .val (.ref w3), .val (.ref w3), .val (.ref w3)] []))
        refine Rch.go (fun zt zk => XS.iconst X15.here hx rfl (hb hby at_52) zk) ?_
        show Rch _ _ _ _ (T15.setTop (mkF m 53 #[.val (.int p1), .val (.int p2), .val (.int (0 : Int32)), .val (.int (2 : Int32)), .val (.ref w1), .val (.ref w3), .val (.ref w3), .val (.ref w3)] [(.int (1 : Int32))]))
        refine Rch.go (fun zt zk => XS.goto X15.here hx rfl (pc0 := 53) (pc' := 57) rfl (hb hby at_53) (by decide) (by decide) zk) ?_
        show Rch _ _ _ _ (T15.setTop (mkF m 57 #[.val (.int p1), .val (.int p2), .val (.int (0 : Int32)), .val (.int (2 : Int32)), .val (.ref w1), .val (.ref w3), .val (.ref w3), .val (.ref w3)] [(.int (1 : Int32))]))
        obtain ⟨fs, hr, hrun, hended, hW, hsame⟩ := X15.leave (v := some (.int (1 : Int32))) (fun h => by rw [Bd.returns] at h; cases h)
        refine Rch.mk (retN X15 hx (t := .boolean) Bd.returns (by simp) (hb hby at_57) hr) (hPd _ _ _ _ hrun hended rfl ?_ ⟨⟨_, rfl⟩, hW, hsame.mono (by decide) (by decide)⟩)
        show Q_rm0 Z p1 p2 w1 w2 w3 h0 n0 _ T15.heap _
        exact ⟨rfl, N15⟩
    · rcases hj with rfl | rfl | rfl
      · skip
        show Rch _ _ _ _ (s₁.setTop (mkF m 14 #[.val (.int p1), .val (.int p2), .val (.int (1 : Int32)), .val (.int (0 : Int32)), .unset, .unset, .unset, .unset] []))
        refine Rch.go (fun zt zk => XS.iloadN X0.here hx rfl (hb hby at_14) rfl zk) ?_
        show Rch _ _ _ _ (s₁.setTop (mkF m 15 #[.val (.int p1), .val (.int p2), .val (.int (1 : Int32)), .val (.int (0 : Int32)), .unset, .unset, .unset, .unset] [(.int (1 : Int32))]))
        obtain ⟨_, _, ⟨T16, L16, k16, n16⟩, -, X16, ⟨Lc16, hQ16, l16, y16, z16⟩, st16⟩ := Jvm.LawKit.callS X0 hx (y := (⟨"com/example/consistometer/consistometer/analysis/VerdictAndPinLaw", "ofRank", "(I)Lcom/example/consistometer/consistometer/analysis/Property$Verdict;"⟩ : MethodName)) hown (mvT hZ (ow1 hw)) (mvT hZ (ow2 hw)) (mvT hZ (ow3 hw)) (mvT hZ (ow4 hw)) (by decide) (backOf (W := 0) (rm1 l Z a0 hw [] ((1 : Int32)) (w1) (w2) (w3) h0 n0 Z0 (S0) (S1) (S2)) hZ (ow4 hw) (ow3 hw) (by decide) (by decide)) (g := (mkF m 15 #[.val (.int p1), .val (.int p2), .val (.int (1 : Int32)), .val (.int (0 : Int32)), .unset, .unset, .unset, .unset] [(.int (1 : Int32))])) rfl (by rw [hml]; rfl) (argsL := [(.int (1 : Int32))]) (rest := []) (lenOf pd__I_Lcom_example_consistometer_consistometer_analysis_Property_Verdict_ rfl) rfl (by show 2 * 0 + _ ≤ _; exact Nat.le_of_eq rfl) (hb hby at_15) (fun _ _ => ⟨rfl, e0, (by decide : 0 + 0 ≤ _), (by decide : 0 + 0 ≤ _)⟩)
        dsimp only [Pt.U, Pt.locs, Pt.cells, Pt.slots] at X16 l16 y16 z16 st16 hQ16
        subst l16 y16 z16
        obtain ⟨rfl, N16q, eq16⟩ := hQ16
        have N16 := Fr.app N0 N16q
        rw [show (fPick (1 : Int32) w1 w2 w3) = w2 from (by first | rfl | simp [fPick])] at st16
        refine Rch.go st16 ?_
        show Rch _ _ _ _ (T16.setTop (mkF m 18 #[.val (.int p1), .val (.int p2), .val (.int (1 : Int32)), .val (.int (0 : Int32)), .unset, .unset, .unset, .unset] [(.ref w2)]))
        refine Rch.go (fun zt zk => XS.astore X16.here hx rfl (hb hby at_18) rfl rfl (l' := #[.val (.int p1), .val (.int p2), .val (.int (1 : Int32)), .val (.int (0 : Int32)), .val (.ref w2), .unset, .unset, .unset]) rfl zk) ?_
        show Rch _ _ _ _ (T16.setTop (mkF m 20 #[.val (.int p1), .val (.int p2), .val (.int (1 : Int32)), .val (.int (0 : Int32)), .val (.ref w2), .unset, .unset, .unset] []))
        refine Rch.go (fun zt zk => XS.iloadN X16.here hx rfl (hb hby at_20) rfl zk) ?_
        show Rch _ _ _ _ (T16.setTop (mkF m 21 #[.val (.int p1), .val (.int p2), .val (.int (1 : Int32)), .val (.int (0 : Int32)), .val (.ref w2), .unset, .unset, .unset] [(.int (0 : Int32))]))
        obtain ⟨_, _, ⟨T17, L17, k17, n17⟩, -, X17, ⟨Lc17, hQ17, l17, y17, z17⟩, st17⟩ := Jvm.LawKit.callS X16 hx (y := (⟨"com/example/consistometer/consistometer/analysis/VerdictAndPinLaw", "ofRank", "(I)Lcom/example/consistometer/consistometer/analysis/Property$Verdict;"⟩ : MethodName)) hown (mvT hZ (ow1 hw)) (mvT hZ (ow2 hw)) (mvT hZ (ow3 hw)) (mvT hZ (ow4 hw)) (by decide) (backOf (W := 0) (rm1 l Z a0 hw [] ((0 : Int32)) (w1) (w2) (w3) h0 n0 Z0 (S0) (S1) (S2)) hZ (ow4 hw) (ow3 hw) (by decide) (by decide)) (g := (mkF m 21 #[.val (.int p1), .val (.int p2), .val (.int (1 : Int32)), .val (.int (0 : Int32)), .val (.ref w2), .unset, .unset, .unset] [(.int (0 : Int32))])) rfl (by rw [hml]; rfl) (argsL := [(.int (0 : Int32))]) (rest := []) (lenOf pd__I_Lcom_example_consistometer_consistometer_analysis_Property_Verdict_ rfl) rfl (by show 2 * 0 + _ ≤ _; exact Nat.le_of_eq rfl) (hb hby at_21) (fun _ _ => ⟨rfl, eq16, (by decide : 0 + 0 ≤ _), (by decide : 0 + 0 ≤ _)⟩)
        dsimp only [Pt.U, Pt.locs, Pt.cells, Pt.slots] at X17 l17 y17 z17 st17 hQ17
        subst l17 y17 z17
        obtain ⟨rfl, N17q, eq17⟩ := hQ17
        have N17 := Fr.app N16 N17q
        rw [show (fPick (0 : Int32) w1 w2 w3) = w1 from (by first | rfl | simp [fPick])] at st17
        refine Rch.go st17 ?_
        show Rch _ _ _ _ (T17.setTop (mkF m 24 #[.val (.int p1), .val (.int p2), .val (.int (1 : Int32)), .val (.int (0 : Int32)), .val (.ref w2), .unset, .unset, .unset] [(.ref w1)]))
        refine Rch.go (fun zt zk => XS.astore X17.here hx rfl (hb hby at_24) rfl rfl (l' := #[.val (.int p1), .val (.int p2), .val (.int (1 : Int32)), .val (.int (0 : Int32)), .val (.ref w2), .val (.ref w1), .unset, .unset]) rfl zk) ?_
        show Rch _ _ _ _ (T17.setTop (mkF m 26 #[.val (.int p1), .val (.int p2), .val (.int (1 : Int32)), .val (.int (0 : Int32)), .val (.ref w2), .val (.ref w1), .unset, .unset] []))
        refine Rch.go (fun zt zk => XS.iloadN X17.here hx rfl (hb hby at_26) rfl zk) ?_
        show Rch _ _ _ _ (T17.setTop (mkF m 27 #[.val (.int p1), .val (.int p2), .val (.int (1 : Int32)), .val (.int (0 : Int32)), .val (.ref w2), .val (.ref w1), .unset, .unset] [(.int (1 : Int32))]))
        refine Rch.go (fun zt zk => XS.iloadN X17.here hx rfl (hb hby at_27) rfl zk) ?_
        show Rch _ _ _ _ (T17.setTop (mkF m 28 #[.val (.int p1), .val (.int p2), .val (.int (1 : Int32)), .val (.int (0 : Int32)), .val (.ref w2), .val (.ref w1), .unset, .unset] [(.int (0 : Int32)), (.int (1 : Int32))]))
        obtain ⟨_, _, ⟨T18, L18, k18, n18⟩, -, X18, ⟨Lc18, hQ18, l18, y18, z18⟩, st18⟩ := Jvm.LawKit.callS X17 hx (y := (⟨"java/lang/Math", "max", "(II)I"⟩ : MethodName)) hown (mvT hZ (ow8 hw)) (mvT hZ (ow9 hw)) (mvT hZ (ow10 hw)) (mvT hZ (ow11 hw)) (by decide) (backOf (W := 0) (rm2 l Z a0 hw [] (1 : Int32) (0 : Int32) h0 n0 Z0 ) hZ (ow11 hw) (ow10 hw) (by decide) (by decide)) (g := (mkF m 28 #[.val (.int p1), .val (.int p2), .val (.int (1 : Int32)), .val (.int (0 : Int32)), .val (.ref w2), .val (.ref w1), .unset, .unset] [(.int (0 : Int32)), (.int (1 : Int32))])) rfl (by rw [hml]; rfl) (argsL := [(.int (1 : Int32)), (.int (0 : Int32))]) (rest := []) (lenOf pd__II_I rfl) rfl (by show 2 * 0 + _ ≤ _; exact Nat.le_of_eq rfl) (hb hby at_28) (fun _ _ => ⟨rfl, eq17, (by decide : 0 + 0 ≤ _), (by decide : 0 + 0 ≤ _)⟩)
        dsimp only [Pt.U, Pt.locs, Pt.cells, Pt.slots] at X18 l18 y18 z18 st18 hQ18
        subst l18 y18 z18
        obtain ⟨rfl, N18q, eq18⟩ := hQ18
        have N18 := Fr.app N17 N18q
        rw [show (fMax (1 : Int32) (0 : Int32)) = (1 : Int32) from (by decide)] at st18
        refine Rch.go st18 ?_
        show Rch _ _ _ _ (T18.setTop (mkF m 31 #[.val (.int p1), .val (.int p2), .val (.int (1 : Int32)), .val (.int (0 : Int32)), .val (.ref w2), .val (.ref w1), .unset, .unset] [(.int (1 : Int32))]))
        obtain ⟨_, _, ⟨T19, L19, k19, n19⟩, -, X19, ⟨Lc19, hQ19, l19, y19, z19⟩, st19⟩ := Jvm.LawKit.callS X18 hx (y := (⟨"com/example/consistometer/consistometer/analysis/VerdictAndPinLaw", "ofRank", "(I)Lcom/example/consistometer/consistometer/analysis/Property$Verdict;"⟩ : MethodName)) hown (mvT hZ (ow1 hw)) (mvT hZ (ow2 hw)) (mvT hZ (ow3 hw)) (mvT hZ (ow4 hw)) (by decide) (backOf (W := 0) (rm1 l Z a0 hw [] ((1 : Int32)) (w1) (w2) (w3) h0 n0 Z0 (S0) (S1) (S2)) hZ (ow4 hw) (ow3 hw) (by decide) (by decide)) (g := (mkF m 31 #[.val (.int p1), .val (.int p2), .val (.int (1 : Int32)), .val (.int (0 : Int32)), .val (.ref w2), .val (.ref w1), .unset, .unset] [(.int (1 : Int32))])) rfl (by rw [hml]; rfl) (argsL := [(.int (1 : Int32))]) (rest := []) (lenOf pd__I_Lcom_example_consistometer_consistometer_analysis_Property_Verdict_ rfl) rfl (by show 2 * 0 + _ ≤ _; exact Nat.le_of_eq rfl) (hb hby at_31) (fun _ _ => ⟨rfl, eq18, (by decide : 0 + 0 ≤ _), (by decide : 0 + 0 ≤ _)⟩)
        dsimp only [Pt.U, Pt.locs, Pt.cells, Pt.slots] at X19 l19 y19 z19 st19 hQ19
        subst l19 y19 z19
        obtain ⟨rfl, N19q, eq19⟩ := hQ19
        have N19 := Fr.app N18 N19q
        rw [show (fPick (1 : Int32) w1 w2 w3) = w2 from (by first | rfl | simp [fPick])] at st19
        refine Rch.go st19 ?_
        show Rch _ _ _ _ (T19.setTop (mkF m 34 #[.val (.int p1), .val (.int p2), .val (.int (1 : Int32)), .val (.int (0 : Int32)), .val (.ref w2), .val (.ref w1), .unset, .unset] [(.ref w2)]))
        refine Rch.go (fun zt zk => XS.astore X19.here hx rfl (hb hby at_34) rfl rfl (l' := #[.val (.int p1), .val (.int p2), .val (.int (1 : Int32)), .val (.int (0 : Int32)), .val (.ref w2), .val (.ref w1), .val (.ref w2), .unset]) rfl zk) ?_
        show Rch _ _ _ _ (T19.setTop (mkF m 36 #[.val (.int p1), .val (.int p2), .val (.int (1 : Int32)), .val (.int (0 : Int32)), .val (.ref w2), .val (.ref w1), .val (.ref w2), .unset] []))
        refine Rch.go (fun zt zk => XS.aload X19.here hx rfl (hb hby at_36) rfl rfl zk) ?_
        show Rch _ _ _ _ (T19.setTop (mkF m 38 #[.val (.int p1), .val (.int p2), .val (.int (1 : Int32)), .val (.int (0 : Int32)), .val (.ref w2), .val (.ref w1), .val (.ref w2), .unset] [(.ref w2)]))
        refine Rch.go (fun zt zk => XS.aload X19.here hx rfl (hb hby at_38) rfl rfl zk) ?_
        show Rch _ _ _ _ (T19.setTop (mkF m 40 #[.val (.int p1), .val (.int p2), .val (.int (1 : Int32)), .val (.int (0 : Int32)), .val (.ref w2), .val (.ref w1), .val (.ref w2), .unset] [(.ref w1), (.ref w2)]))
        obtain ⟨cq20, kq20, q20a, q20b, q20c⟩ := isOf hZ eq19 E1
        obtain ⟨_, _, ⟨T20, L20, k20, n20⟩, -, X20, ⟨Lc20, hQ20, l20, y20, z20⟩, st20⟩ := X19.virtualBack hx (y := (⟨"com/example/consistometer/consistometer/analysis/Property$Verdict", "and", "(Lcom/example/consistometer/consistometer/analysis/Property$Verdict;)Lcom/example/consistometer/consistometer/analysis/Property$Verdict;"⟩ : MethodName)) (z := (⟨"com/example/consistometer/consistometer/analysis/Property$Verdict", "and", "(Lcom/example/consistometer/consistometer/analysis/Property$Verdict;)Lcom/example/consistometer/consistometer/analysis/Property$Verdict;"⟩ : MethodName)) hown (mvT hZ (ow12 hw)) (mvT hZ (ow13 hw)) (notFace_of_selects (args := #[]) (mvT hZ (ow15 hw))) (mvT hZ (ow15 hw)) (mvT hZ (ow14 hw)) (by decide) (backOf (W := 0) (rm3 l Z a0 hw [] (w2) (w1) (w1) (w2) (w3) h0 n0 Z0 (S0) (S1) (S2)) hZ (ow16 hw) (ow6 hw) (by decide) (by decide)) q20a q20c (g := (mkF m 40 #[.val (.int p1), .val (.int p2), .val (.int (1 : Int32)), .val (.int (0 : Int32)), .val (.ref w2), .val (.ref w1), .val (.ref w2), .unset] [(.ref w1), (.ref w2)])) rfl (by rw [hml]; rfl) (Steps.refl _) (argsL := [(.ref w1)]) (rest := []) (lenOf pd__Lcom_example_consistometer_consistometer_analysis_Property_Verdict__Lcom_example_consistometer_consistometer_analysis_Property_Verdict_ rfl) rfl (by show 2 * 0 + _ ≤ _; exact Nat.le_of_eq rfl) (hb hby at_40) (fun _ _ => ⟨rfl, eq19, (by decide : 0 + 0 ≤ _), (by decide : 0 + 0 ≤ _)⟩)
        dsimp only [Pt.U, Pt.locs, Pt.cells, Pt.slots] at X20 l20 y20 z20 st20 hQ20
        subst l20 y20 z20
        obtain ⟨rfl, N20q, eq20⟩ := hQ20
        have N20 := Fr.app N19 N20q
        rw [show (fOp w2 w1 w1 w2 w3) = w2 from (by simp [fOp, n12, n13, n23, n12.symm, n13.symm, n23.symm])] at st20
        refine Rch.go (fun zt zk => st20.trans zk) ?_
        show Rch _ _ _ _ (T20.setTop (mkF m 43 #[.val (.int p1), .val (.int p2), .val (.int (1 : Int32)), .val (.int (0 : Int32)), .val (.ref w2), .val (.ref w1), .val (.ref w2), .unset] [(.ref w2)]))
        refine Rch.go (fun zt zk => XS.astore X20.here hx rfl (hb hby at_43) rfl rfl (l' := #[.val (.int p1), .val (.int p2), .val (.int (1 : Int32)), .val (.int (0 : Int32)), .val (.ref w2), .val (.ref w1), .val (.ref w2), .val (.ref w2)]) rfl zk) ?_
        show Rch _ _ _ _ (T20.setTop (mkF m 45 #[.val (.int p1), .val (.int p2), .val (.int (1 : Int32)), .val (.int (0 : Int32)), .val (.ref w2), .val (.ref w1), .val (.ref w2), .val (.ref w2)] []))
        refine Rch.go (fun zt zk => XS.aload X20.here hx rfl (hb hby at_45) rfl rfl zk) ?_
        show Rch _ _ _ _ (T20.setTop (mkF m 47 #[.val (.int p1), .val (.int p2), .val (.int (1 : Int32)), .val (.int (0 : Int32)), .val (.ref w2), .val (.ref w1), .val (.ref w2), .val (.ref w2)] [(.ref w2)]))
        refine Rch.go (fun zt zk => XS.aload X20.here hx rfl (hb hby at_47) rfl rfl zk) ?_
        show Rch _ _ _ _ (T20.setTop (mkF m 49 #[.val (.int p1), .val (.int p2), .val (.int (1 : Int32)), .val (.int (0 : Int32)), .val (.ref w2), .val (.ref w1), .val (.ref w2), .val (.ref w2)] [(.ref w2), (.ref w2)]))
        refine Rch.go (fun zt zk => Jvm.RoadKit.acmp (g := (mkF m 49 #[.val (.int p1), .val (.int p2), .val (.int (1 : Int32)), .val (.int (0 : Int32)), .val (.ref w2), .val (.ref w1), .val (.ref w2), .val (.ref w2)] [(.ref w2), (.ref w2)])) X20 hx rfl rfl rfl (pc0 := 49) (pc' := 52) (same := true) rfl (hb hby at_49) rfl (decide_eq_true rfl) (by decide) (by decide) zk) ?_
        show Rch _ _ _ _ (T20.setTop (mkF m 52 #[.val (.int p1), .val (.int p2), .val (.int (1 : Int32)), .val (.int (0 : Int32)), .val (.ref w2), .val (.ref w1), .val (.ref w2), .val (.ref w2)] []))
        refine Rch.go (fun zt zk => XS.iconst X20.here hx rfl (hb hby at_52) zk) ?_
        show Rch _ _ _ _ (T20.setTop (mkF m 53 #[.val (.int p1), .val (.int p2), .val (.int (1 : Int32)), .val (.int (0 : Int32)), .val (.ref w2), .val (.ref w1), .val (.ref w2), .val (.ref w2)] [(.int (1 : Int32))]))
        refine Rch.go (fun zt zk => XS.goto X20.here hx rfl (pc0 := 53) (pc' := 57) rfl (hb hby at_53) (by decide) (by decide) zk) ?_
        show Rch _ _ _ _ (T20.setTop (mkF m 57 #[.val (.int p1), .val (.int p2), .val (.int (1 : Int32)), .val (.int (0 : Int32)), .val (.ref w2), .val (.ref w1), .val (.ref w2), .val (.ref w2)] [(.int (1 : Int32))]))
        obtain ⟨fs, hr, hrun, hended, hW, hsame⟩ := X20.leave (v := some (.int (1 : Int32))) (fun h => by rw [Bd.returns] at h; cases h)
        refine Rch.mk (retN X20 hx (t := .boolean) Bd.returns (by simp) (hb hby at_57) hr) (hPd _ _ _ _ hrun hended rfl ?_ ⟨⟨_, rfl⟩, hW, hsame.mono (by decide) (by decide)⟩)
        show Q_rm0 Z p1 p2 w1 w2 w3 h0 n0 _ T20.heap _
        exact ⟨rfl, N20⟩
      · skip
        show Rch _ _ _ _ (s₁.setTop (mkF m 14 #[.val (.int p1), .val (.int p2), .val (.int (1 : Int32)), .val (.int (1 : Int32)), .unset, .unset, .unset, .unset] []))
        refine Rch.go (fun zt zk => XS.iloadN X0.here hx rfl (hb hby at_14) rfl zk) ?_
        show Rch _ _ _ _ (s₁.setTop (mkF m 15 #[.val (.int p1), .val (.int p2), .val (.int (1 : Int32)), .val (.int (1 : Int32)), .unset, .unset, .unset, .unset] [(.int (1 : Int32))]))
        obtain ⟨_, _, ⟨T21, L21, k21, n21⟩, -, X21, ⟨Lc21, hQ21, l21, y21, z21⟩, st21⟩ := Jvm.LawKit.callS X0 hx (y := (⟨"com/example/consistometer/consistometer/analysis/VerdictAndPinLaw", "ofRank", "(I)Lcom/example/consistometer/consistometer/analysis/Property$Verdict;"⟩ : MethodName)) hown (mvT hZ (ow1 hw)) (mvT hZ (ow2 hw)) (mvT hZ (ow3 hw)) (mvT hZ (ow4 hw)) (by decide) (backOf (W := 0) (rm1 l Z a0 hw [] ((1 : Int32)) (w1) (w2) (w3) h0 n0 Z0 (S0) (S1) (S2)) hZ (ow4 hw) (ow3 hw) (by decide) (by decide)) (g := (mkF m 15 #[.val (.int p1), .val (.int p2), .val (.int (1 : Int32)), .val (.int (1 : Int32)), .unset, .unset, .unset, .unset] [(.int (1 : Int32))])) rfl (by rw [hml]; rfl) (argsL := [(.int (1 : Int32))]) (rest := []) (lenOf pd__I_Lcom_example_consistometer_consistometer_analysis_Property_Verdict_ rfl) rfl (by show 2 * 0 + _ ≤ _; exact Nat.le_of_eq rfl) (hb hby at_15) (fun _ _ => ⟨rfl, e0, (by decide : 0 + 0 ≤ _), (by decide : 0 + 0 ≤ _)⟩)
        dsimp only [Pt.U, Pt.locs, Pt.cells, Pt.slots] at X21 l21 y21 z21 st21 hQ21
        subst l21 y21 z21
        obtain ⟨rfl, N21q, eq21⟩ := hQ21
        have N21 := Fr.app N0 N21q
        rw [show (fPick (1 : Int32) w1 w2 w3) = w2 from (by first | rfl | simp [fPick])] at st21
        refine Rch.go st21 ?_
        show Rch _ _ _ _ (T21.setTop (mkF m 18 #[.val (.int p1), .val (.int p2), .val (.int (1 : Int32)), .val (.int (1 : Int32)), .unset, .unset, .unset, .unset] [(.ref w2)]))
        refine Rch.go (fun zt zk => XS.astore X21.here hx rfl (hb hby at_18) rfl rfl (l' := #[.val (.int p1), .val (.int p2), .val (.int (1 : Int32)), .val (.int (1 : Int32)), .val (.ref w2), .unset, .unset, .unset]) rfl zk) ?_
        show Rch _ _ _ _ (T21.setTop (mkF m 20 #[.val (.int p1), .val (.int p2), .val (.int (1 : Int32)), .val (.int (1 : Int32)), .val (.ref w2), .unset, .unset, .unset] []))
        refine Rch.go (fun zt zk => XS.iloadN X21.here hx rfl (hb hby at_20) rfl zk) ?_
        show Rch _ _ _ _ (T21.setTop (mkF m 21 #[.val (.int p1), .val (.int p2), .val (.int (1 : Int32)), .val (.int (1 : Int32)), .val (.ref w2), .unset, .unset, .unset] [(.int (1 : Int32))]))
        obtain ⟨_, _, ⟨T22, L22, k22, n22⟩, -, X22, ⟨Lc22, hQ22, l22, y22, z22⟩, st22⟩ := Jvm.LawKit.callS X21 hx (y := (⟨"com/example/consistometer/consistometer/analysis/VerdictAndPinLaw", "ofRank", "(I)Lcom/example/consistometer/consistometer/analysis/Property$Verdict;"⟩ : MethodName)) hown (mvT hZ (ow1 hw)) (mvT hZ (ow2 hw)) (mvT hZ (ow3 hw)) (mvT hZ (ow4 hw)) (by decide) (backOf (W := 0) (rm1 l Z a0 hw [] ((1 : Int32)) (w1) (w2) (w3) h0 n0 Z0 (S0) (S1) (S2)) hZ (ow4 hw) (ow3 hw) (by decide) (by decide)) (g := (mkF m 21 #[.val (.int p1), .val (.int p2), .val (.int (1 : Int32)), .val (.int (1 : Int32)), .val (.ref w2), .unset, .unset, .unset] [(.int (1 : Int32))])) rfl (by rw [hml]; rfl) (argsL := [(.int (1 : Int32))]) (rest := []) (lenOf pd__I_Lcom_example_consistometer_consistometer_analysis_Property_Verdict_ rfl) rfl (by show 2 * 0 + _ ≤ _; exact Nat.le_of_eq rfl) (hb hby at_21) (fun _ _ => ⟨rfl, eq21, (by decide : 0 + 0 ≤ _), (by decide : 0 + 0 ≤ _)⟩)
        dsimp only [Pt.U, Pt.locs, Pt.cells, Pt.slots] at X22 l22 y22 z22 st22 hQ22
        subst l22 y22 z22
        obtain ⟨rfl, N22q, eq22⟩ := hQ22
        have N22 := Fr.app N21 N22q
        rw [show (fPick (1 : Int32) w1 w2 w3) = w2 from (by first | rfl | simp [fPick])] at st22
        refine Rch.go st22 ?_
        show Rch _ _ _ _ (T22.setTop (mkF m 24 #[.val (.int p1), .val (.int p2), .val (.int (1 : Int32)), .val (.int (1 : Int32)), .val (.ref w2), .unset, .unset, .unset] [(.ref w2)]))
        refine Rch.go (fun zt zk => XS.astore X22.here hx rfl (hb hby at_24) rfl rfl (l' := #[.val (.int p1), .val (.int p2), .val (.int (1 : Int32)), .val (.int (1 : Int32)), .val (.ref w2), .val (.ref w2), .unset, .unset]) rfl zk) ?_
        show Rch _ _ _ _ (T22.setTop (mkF m 26 #[.val (.int p1), .val (.int p2), .val (.int (1 : Int32)), .val (.int (1 : Int32)), .val (.ref w2), .val (.ref w2), .unset, .unset] []))
        refine Rch.go (fun zt zk => XS.iloadN X22.here hx rfl (hb hby at_26) rfl zk) ?_
        show Rch _ _ _ _ (T22.setTop (mkF m 27 #[.val (.int p1), .val (.int p2), .val (.int (1 : Int32)), .val (.int (1 : Int32)), .val (.ref w2), .val (.ref w2), .unset, .unset] [(.int (1 : Int32))]))
        refine Rch.go (fun zt zk => XS.iloadN X22.here hx rfl (hb hby at_27) rfl zk) ?_
        show Rch _ _ _ _ (T22.setTop (mkF m 28 #[.val (.int p1), .val (.int p2), .val (.int (1 : Int32)), .val (.int (1 : Int32)), .val (.ref w2), .val (.ref w2), .unset, .unset] [(.int (1 : Int32)), (.int (1 : Int32))]))
        obtain ⟨_, _, ⟨T23, L23, k23, n23⟩, -, X23, ⟨Lc23, hQ23, l23, y23, z23⟩, st23⟩ := Jvm.LawKit.callS X22 hx (y := (⟨"java/lang/Math", "max", "(II)I"⟩ : MethodName)) hown (mvT hZ (ow8 hw)) (mvT hZ (ow9 hw)) (mvT hZ (ow10 hw)) (mvT hZ (ow11 hw)) (by decide) (backOf (W := 0) (rm2 l Z a0 hw [] (1 : Int32) (1 : Int32) h0 n0 Z0 ) hZ (ow11 hw) (ow10 hw) (by decide) (by decide)) (g := (mkF m 28 #[.val (.int p1), .val (.int p2), .val (.int (1 : Int32)), .val (.int (1 : Int32)), .val (.ref w2), .val (.ref w2), .unset, .unset] [(.int (1 : Int32)), (.int (1 : Int32))])) rfl (by rw [hml]; rfl) (argsL := [(.int (1 : Int32)), (.int (1 : Int32))]) (rest := []) (lenOf pd__II_I rfl) rfl (by show 2 * 0 + _ ≤ _; exact Nat.le_of_eq rfl) (hb hby at_28) (fun _ _ => ⟨rfl, eq22, (by decide : 0 + 0 ≤ _), (by decide : 0 + 0 ≤ _)⟩)
        dsimp only [Pt.U, Pt.locs, Pt.cells, Pt.slots] at X23 l23 y23 z23 st23 hQ23
        subst l23 y23 z23
        obtain ⟨rfl, N23q, eq23⟩ := hQ23
        have N23 := Fr.app N22 N23q
        rw [show (fMax (1 : Int32) (1 : Int32)) = (1 : Int32) from (by decide)] at st23
        refine Rch.go st23 ?_
        show Rch _ _ _ _ (T23.setTop (mkF m 31 #[.val (.int p1), .val (.int p2), .val (.int (1 : Int32)), .val (.int (1 : Int32)), .val (.ref w2), .val (.ref w2), .unset, .unset] [(.int (1 : Int32))]))
        obtain ⟨_, _, ⟨T24, L24, k24, n24⟩, -, X24, ⟨Lc24, hQ24, l24, y24, z24⟩, st24⟩ := Jvm.LawKit.callS X23 hx (y := (⟨"com/example/consistometer/consistometer/analysis/VerdictAndPinLaw", "ofRank", "(I)Lcom/example/consistometer/consistometer/analysis/Property$Verdict;"⟩ : MethodName)) hown (mvT hZ (ow1 hw)) (mvT hZ (ow2 hw)) (mvT hZ (ow3 hw)) (mvT hZ (ow4 hw)) (by decide) (backOf (W := 0) (rm1 l Z a0 hw [] ((1 : Int32)) (w1) (w2) (w3) h0 n0 Z0 (S0) (S1) (S2)) hZ (ow4 hw) (ow3 hw) (by decide) (by decide)) (g := (mkF m 31 #[.val (.int p1), .val (.int p2), .val (.int (1 : Int32)), .val (.int (1 : Int32)), .val (.ref w2), .val (.ref w2), .unset, .unset] [(.int (1 : Int32))])) rfl (by rw [hml]; rfl) (argsL := [(.int (1 : Int32))]) (rest := []) (lenOf pd__I_Lcom_example_consistometer_consistometer_analysis_Property_Verdict_ rfl) rfl (by show 2 * 0 + _ ≤ _; exact Nat.le_of_eq rfl) (hb hby at_31) (fun _ _ => ⟨rfl, eq23, (by decide : 0 + 0 ≤ _), (by decide : 0 + 0 ≤ _)⟩)
        dsimp only [Pt.U, Pt.locs, Pt.cells, Pt.slots] at X24 l24 y24 z24 st24 hQ24
        subst l24 y24 z24
        obtain ⟨rfl, N24q, eq24⟩ := hQ24
        have N24 := Fr.app N23 N24q
        rw [show (fPick (1 : Int32) w1 w2 w3) = w2 from (by first | rfl | simp [fPick])] at st24
        refine Rch.go st24 ?_
        show Rch _ _ _ _ (T24.setTop (mkF m 34 #[.val (.int p1), .val (.int p2), .val (.int (1 : Int32)), .val (.int (1 : Int32)), .val (.ref w2), .val (.ref w2), .unset, .unset] [(.ref w2)]))
        refine Rch.go (fun zt zk => XS.astore X24.here hx rfl (hb hby at_34) rfl rfl (l' := #[.val (.int p1), .val (.int p2), .val (.int (1 : Int32)), .val (.int (1 : Int32)), .val (.ref w2), .val (.ref w2), .val (.ref w2), .unset]) rfl zk) ?_
        show Rch _ _ _ _ (T24.setTop (mkF m 36 #[.val (.int p1), .val (.int p2), .val (.int (1 : Int32)), .val (.int (1 : Int32)), .val (.ref w2), .val (.ref w2), .val (.ref w2), .unset] []))
        refine Rch.go (fun zt zk => XS.aload X24.here hx rfl (hb hby at_36) rfl rfl zk) ?_
        show Rch _ _ _ _ (T24.setTop (mkF m 38 #[.val (.int p1), .val (.int p2), .val (.int (1 : Int32)), .val (.int (1 : Int32)), .val (.ref w2), .val (.ref w2), .val (.ref w2), .unset] [(.ref w2)]))
        refine Rch.go (fun zt zk => XS.aload X24.here hx rfl (hb hby at_38) rfl rfl zk) ?_
        show Rch _ _ _ _ (T24.setTop (mkF m 40 #[.val (.int p1), .val (.int p2), .val (.int (1 : Int32)), .val (.int (1 : Int32)), .val (.ref w2), .val (.ref w2), .val (.ref w2), .unset] [(.ref w2), (.ref w2)]))
        obtain ⟨cq25, kq25, q25a, q25b, q25c⟩ := isOf hZ eq24 E1
        obtain ⟨_, _, ⟨T25, L25, k25, n25⟩, -, X25, ⟨Lc25, hQ25, l25, y25, z25⟩, st25⟩ := X24.virtualBack hx (y := (⟨"com/example/consistometer/consistometer/analysis/Property$Verdict", "and", "(Lcom/example/consistometer/consistometer/analysis/Property$Verdict;)Lcom/example/consistometer/consistometer/analysis/Property$Verdict;"⟩ : MethodName)) (z := (⟨"com/example/consistometer/consistometer/analysis/Property$Verdict", "and", "(Lcom/example/consistometer/consistometer/analysis/Property$Verdict;)Lcom/example/consistometer/consistometer/analysis/Property$Verdict;"⟩ : MethodName)) hown (mvT hZ (ow12 hw)) (mvT hZ (ow13 hw)) (notFace_of_selects (args := #[]) (mvT hZ (ow15 hw))) (mvT hZ (ow15 hw)) (mvT hZ (ow14 hw)) (by decide) (backOf (W := 0) (rm3 l Z a0 hw [] (w2) (w2) (w1) (w2) (w3) h0 n0 Z0 (S0) (S1) (S2)) hZ (ow16 hw) (ow6 hw) (by decide) (by decide)) q25a q25c (g := (mkF m 40 #[.val (.int p1), .val (.int p2), .val (.int (1 : Int32)), .val (.int (1 : Int32)), .val (.ref w2), .val (.ref w2), .val (.ref w2), .unset] [(.ref w2), (.ref w2)])) rfl (by rw [hml]; rfl) (Steps.refl _) (argsL := [(.ref w2)]) (rest := []) (lenOf pd__Lcom_example_consistometer_consistometer_analysis_Property_Verdict__Lcom_example_consistometer_consistometer_analysis_Property_Verdict_ rfl) rfl (by show 2 * 0 + _ ≤ _; exact Nat.le_of_eq rfl) (hb hby at_40) (fun _ _ => ⟨rfl, eq24, (by decide : 0 + 0 ≤ _), (by decide : 0 + 0 ≤ _)⟩)
        dsimp only [Pt.U, Pt.locs, Pt.cells, Pt.slots] at X25 l25 y25 z25 st25 hQ25
        subst l25 y25 z25
        obtain ⟨rfl, N25q, eq25⟩ := hQ25
        have N25 := Fr.app N24 N25q
        rw [show (fOp w2 w2 w1 w2 w3) = w2 from (by simp [fOp, n12, n13, n23, n12.symm, n13.symm, n23.symm])] at st25
        refine Rch.go (fun zt zk => st25.trans zk) ?_
        show Rch _ _ _ _ (T25.setTop (mkF m 43 #[.val (.int p1), .val (.int p2), .val (.int (1 : Int32)), .val (.int (1 : Int32)), .val (.ref w2), .val (.ref w2), .val (.ref w2), .unset] [(.ref w2)]))
        refine Rch.go (fun zt zk => XS.astore X25.here hx rfl (hb hby at_43) rfl rfl (l' := #[.val (.int p1), .val (.int p2), .val (.int (1 : Int32)), .val (.int (1 : Int32)), .val (.ref w2), .val (.ref w2), .val (.ref w2), .val (.ref w2)]) rfl zk) ?_
        show Rch _ _ _ _ (T25.setTop (mkF m 45 #[.val (.int p1), .val (.int p2), .val (.int (1 : Int32)), .val (.int (1 : Int32)), .val (.ref w2), .val (.ref w2), .val (.ref w2), .val (.ref w2)] []))
        refine Rch.go (fun zt zk => XS.aload X25.here hx rfl (hb hby at_45) rfl rfl zk) ?_
        show Rch _ _ _ _ (T25.setTop (mkF m 47 #[.val (.int p1), .val (.int p2), .val (.int (1 : Int32)), .val (.int (1 : Int32)), .val (.ref w2), .val (.ref w2), .val (.ref w2), .val (.ref w2)] [(.ref w2)]))
        refine Rch.go (fun zt zk => XS.aload X25.here hx rfl (hb hby at_47) rfl rfl zk) ?_
        show Rch _ _ _ _ (T25.setTop (mkF m 49 #[.val (.int p1), .val (.int p2), .val (.int (1 : Int32)), .val (.int (1 : Int32)), .val (.ref w2), .val (.ref w2), .val (.ref w2), .val (.ref w2)] [(.ref w2), (.ref w2)]))
        refine Rch.go (fun zt zk => Jvm.RoadKit.acmp (g := (mkF m 49 #[.val (.int p1), .val (.int p2), .val (.int (1 : Int32)), .val (.int (1 : Int32)), .val (.ref w2), .val (.ref w2), .val (.ref w2), .val (.ref w2)] [(.ref w2), (.ref w2)])) X25 hx rfl rfl rfl (pc0 := 49) (pc' := 52) (same := true) rfl (hb hby at_49) rfl (decide_eq_true rfl) (by decide) (by decide) zk) ?_
        show Rch _ _ _ _ (T25.setTop (mkF m 52 #[.val (.int p1), .val (.int p2), .val (.int (1 : Int32)), .val (.int (1 : Int32)), .val (.ref w2), .val (.ref w2), .val (.ref w2), .val (.ref w2)] []))
        refine Rch.go (fun zt zk => XS.iconst X25.here hx rfl (hb hby at_52) zk) ?_
        show Rch _ _ _ _ (T25.setTop (mkF m 53 #[.val (.int p1), .val (.int p2), .val (.int (1 : Int32)), .val (.int (1 : Int32)), .val (.ref w2), .val (.ref w2), .val (.ref w2), .val (.ref w2)] [(.int (1 : Int32))]))
        refine Rch.go (fun zt zk => XS.goto X25.here hx rfl (pc0 := 53) (pc' := 57) rfl (hb hby at_53) (by decide) (by decide) zk) ?_
        show Rch _ _ _ _ (T25.setTop (mkF m 57 #[.val (.int p1), .val (.int p2), .val (.int (1 : Int32)), .val (.int (1 : Int32)), .val (.ref w2), .val (.ref w2), .val (.ref w2), .val (.ref w2)] [(.int (1 : Int32))]))
        obtain ⟨fs, hr, hrun, hended, hW, hsame⟩ := X25.leave (v := some (.int (1 : Int32))) (fun h => by rw [Bd.returns] at h; cases h)
        refine Rch.mk (retN X25 hx (t := .boolean) Bd.returns (by simp) (hb hby at_57) hr) (hPd _ _ _ _ hrun hended rfl ?_ ⟨⟨_, rfl⟩, hW, hsame.mono (by decide) (by decide)⟩)
        show Q_rm0 Z p1 p2 w1 w2 w3 h0 n0 _ T25.heap _
        exact ⟨rfl, N25⟩
      · skip
        show Rch _ _ _ _ (s₁.setTop (mkF m 14 #[.val (.int p1), .val (.int p2), .val (.int (1 : Int32)), .val (.int (2 : Int32)), .unset, .unset, .unset, .unset] []))
        refine Rch.go (fun zt zk => XS.iloadN X0.here hx rfl (hb hby at_14) rfl zk) ?_
        show Rch _ _ _ _ (s₁.setTop (mkF m 15 #[.val (.int p1), .val (.int p2), .val (.int (1 : Int32)), .val (.int (2 : Int32)), .unset, .unset, .unset, .unset] [(.int (1 : Int32))]))
        obtain ⟨_, _, ⟨T26, L26, k26, n26⟩, -, X26, ⟨Lc26, hQ26, l26, y26, z26⟩, st26⟩ := Jvm.LawKit.callS X0 hx (y := (⟨"com/example/consistometer/consistometer/analysis/VerdictAndPinLaw", "ofRank", "(I)Lcom/example/consistometer/consistometer/analysis/Property$Verdict;"⟩ : MethodName)) hown (mvT hZ (ow1 hw)) (mvT hZ (ow2 hw)) (mvT hZ (ow3 hw)) (mvT hZ (ow4 hw)) (by decide) (backOf (W := 0) (rm1 l Z a0 hw [] ((1 : Int32)) (w1) (w2) (w3) h0 n0 Z0 (S0) (S1) (S2)) hZ (ow4 hw) (ow3 hw) (by decide) (by decide)) (g := (mkF m 15 #[.val (.int p1), .val (.int p2), .val (.int (1 : Int32)), .val (.int (2 : Int32)), .unset, .unset, .unset, .unset] [(.int (1 : Int32))])) rfl (by rw [hml]; rfl) (argsL := [(.int (1 : Int32))]) (rest := []) (lenOf pd__I_Lcom_example_consistometer_consistometer_analysis_Property_Verdict_ rfl) rfl (by show 2 * 0 + _ ≤ _; exact Nat.le_of_eq rfl) (hb hby at_15) (fun _ _ => ⟨rfl, e0, (by decide : 0 + 0 ≤ _), (by decide : 0 + 0 ≤ _)⟩)
        dsimp only [Pt.U, Pt.locs, Pt.cells, Pt.slots] at X26 l26 y26 z26 st26 hQ26
        subst l26 y26 z26
        obtain ⟨rfl, N26q, eq26⟩ := hQ26
        have N26 := Fr.app N0 N26q
        rw [show (fPick (1 : Int32) w1 w2 w3) = w2 from (by first | rfl | simp [fPick])] at st26
        refine Rch.go st26 ?_
        show Rch _ _ _ _ (T26.setTop (mkF m 18 #[.val (.int p1), .val (.int p2), .val (.int (1 : Int32)), .val (.int (2 : Int32)), .unset, .unset, .unset, .unset] [(.ref w2)]))
        refine Rch.go (fun zt zk => XS.astore X26.here hx rfl (hb hby at_18) rfl rfl (l' := #[.val (.int p1), .val (.int p2), .val (.int (1 : Int32)), .val (.int (2 : Int32)), .val (.ref w2), .unset, .unset, .unset]) rfl zk) ?_
        show Rch _ _ _ _ (T26.setTop (mkF m 20 #[.val (.int p1), .val (.int p2), .val (.int (1 : Int32)), .val (.int (2 : Int32)), .val (.ref w2), .unset, .unset, .unset] []))
        refine Rch.go (fun zt zk => XS.iloadN X26.here hx rfl (hb hby at_20) rfl zk) ?_
        show Rch _ _ _ _ (T26.setTop (mkF m 21 #[.val (.int p1), .val (.int p2), .val (.int (1 : Int32)), .val (.int (2 : Int32)), .val (.ref w2), .unset, .unset, .unset] [(.int (2 : Int32))]))
        obtain ⟨_, _, ⟨T27, L27, k27, n27⟩, -, X27, ⟨Lc27, hQ27, l27, y27, z27⟩, st27⟩ := Jvm.LawKit.callS X26 hx (y := (⟨"com/example/consistometer/consistometer/analysis/VerdictAndPinLaw", "ofRank", "(I)Lcom/example/consistometer/consistometer/analysis/Property$Verdict;"⟩ : MethodName)) hown (mvT hZ (ow1 hw)) (mvT hZ (ow2 hw)) (mvT hZ (ow3 hw)) (mvT hZ (ow4 hw)) (by decide) (backOf (W := 0) (rm1 l Z a0 hw [] ((2 : Int32)) (w1) (w2) (w3) h0 n0 Z0 (S0) (S1) (S2)) hZ (ow4 hw) (ow3 hw) (by decide) (by decide)) (g := (mkF m 21 #[.val (.int p1), .val (.int p2), .val (.int (1 : Int32)), .val (.int (2 : Int32)), .val (.ref w2), .unset, .unset, .unset] [(.int (2 : Int32))])) rfl (by rw [hml]; rfl) (argsL := [(.int (2 : Int32))]) (rest := []) (lenOf pd__I_Lcom_example_consistometer_consistometer_analysis_Property_Verdict_ rfl) rfl (by show 2 * 0 + _ ≤ _; exact Nat.le_of_eq rfl) (hb hby at_21) (fun _ _ => ⟨rfl, eq26, (by decide : 0 + 0 ≤ _), (by decide : 0 + 0 ≤ _)⟩)
        dsimp only [Pt.U, Pt.locs, Pt.cells, Pt.slots] at X27 l27 y27 z27 st27 hQ27
        subst l27 y27 z27
        obtain ⟨rfl, N27q, eq27⟩ := hQ27
        have N27 := Fr.app N26 N27q
        rw [show (fPick (2 : Int32) w1 w2 w3) = w3 from (by first | rfl | simp [fPick])] at st27
        refine Rch.go st27 ?_
        show Rch _ _ _ _ (T27.setTop (mkF m 24 #[.val (.int p1), .val (.int p2), .val (.int (1 : Int32)), .val (.int (2 : Int32)), .val (.ref w2), .unset, .unset, .unset] [(.ref w3)]))
        refine Rch.go (fun zt zk => XS.astore X27.here hx rfl (hb hby at_24) rfl rfl (l' := #[.val (.int p1), .val (.int p2), .val (.int (1 : Int32)), .val (.int (2 : Int32)), .val (.ref w2), .val (.ref w3), .unset, .unset]) rfl zk) ?_
        show Rch _ _ _ _ (T27.setTop (mkF m 26 #[.val (.int p1), .val (.int p2), .val (.int (1 : Int32)), .val (.int (2 : Int32)), .val (.ref w2), .val (.ref w3), .unset, .unset] []))
        refine Rch.go (fun zt zk => XS.iloadN X27.here hx rfl (hb hby at_26) rfl zk) ?_
        show Rch _ _ _ _ (T27.setTop (mkF m 27 #[.val (.int p1), .val (.int p2), .val (.int (1 : Int32)), .val (.int (2 : Int32)), .val (.ref w2), .val (.ref w3), .unset, .unset] [(.int (1 : Int32))]))
        refine Rch.go (fun zt zk => XS.iloadN X27.here hx rfl (hb hby at_27) rfl zk) ?_
        show Rch _ _ _ _ (T27.setTop (mkF m 28 #[.val (.int p1), .val (.int p2), .val (.int (1 : Int32)), .val (.int (2 : Int32)), .val (.ref w2), .val (.ref w3), .unset, .unset] [(.int (2 : Int32)), (.int (1 : Int32))]))
        obtain ⟨_, _, ⟨T28, L28, k28, n28⟩, -, X28, ⟨Lc28, hQ28, l28, y28, z28⟩, st28⟩ := Jvm.LawKit.callS X27 hx (y := (⟨"java/lang/Math", "max", "(II)I"⟩ : MethodName)) hown (mvT hZ (ow8 hw)) (mvT hZ (ow9 hw)) (mvT hZ (ow10 hw)) (mvT hZ (ow11 hw)) (by decide) (backOf (W := 0) (rm2 l Z a0 hw [] (1 : Int32) (2 : Int32) h0 n0 Z0 ) hZ (ow11 hw) (ow10 hw) (by decide) (by decide)) (g := (mkF m 28 #[.val (.int p1), .val (.int p2), .val (.int (1 : Int32)), .val (.int (2 : Int32)), .val (.ref w2), .val (.ref w3), .unset, .unset] [(.int (2 : Int32)), (.int (1 : Int32))])) rfl (by rw [hml]; rfl) (argsL := [(.int (1 : Int32)), (.int (2 : Int32))]) (rest := []) (lenOf pd__II_I rfl) rfl (by show 2 * 0 + _ ≤ _; exact Nat.le_of_eq rfl) (hb hby at_28) (fun _ _ => ⟨rfl, eq27, (by decide : 0 + 0 ≤ _), (by decide : 0 + 0 ≤ _)⟩)
        dsimp only [Pt.U, Pt.locs, Pt.cells, Pt.slots] at X28 l28 y28 z28 st28 hQ28
        subst l28 y28 z28
        obtain ⟨rfl, N28q, eq28⟩ := hQ28
        have N28 := Fr.app N27 N28q
        rw [show (fMax (1 : Int32) (2 : Int32)) = (2 : Int32) from (by decide)] at st28
        refine Rch.go st28 ?_
        show Rch _ _ _ _ (T28.setTop (mkF m 31 #[.val (.int p1), .val (.int p2), .val (.int (1 : Int32)), .val (.int (2 : Int32)), .val (.ref w2), .val (.ref w3), .unset, .unset] [(.int (2 : Int32))]))
        obtain ⟨_, _, ⟨T29, L29, k29, n29⟩, -, X29, ⟨Lc29, hQ29, l29, y29, z29⟩, st29⟩ := Jvm.LawKit.callS X28 hx (y := (⟨"com/example/consistometer/consistometer/analysis/VerdictAndPinLaw", "ofRank", "(I)Lcom/example/consistometer/consistometer/analysis/Property$Verdict;"⟩ : MethodName)) hown (mvT hZ (ow1 hw)) (mvT hZ (ow2 hw)) (mvT hZ (ow3 hw)) (mvT hZ (ow4 hw)) (by decide) (backOf (W := 0) (rm1 l Z a0 hw [] ((2 : Int32)) (w1) (w2) (w3) h0 n0 Z0 (S0) (S1) (S2)) hZ (ow4 hw) (ow3 hw) (by decide) (by decide)) (g := (mkF m 31 #[.val (.int p1), .val (.int p2), .val (.int (1 : Int32)), .val (.int (2 : Int32)), .val (.ref w2), .val (.ref w3), .unset, .unset] [(.int (2 : Int32))])) rfl (by rw [hml]; rfl) (argsL := [(.int (2 : Int32))]) (rest := []) (lenOf pd__I_Lcom_example_consistometer_consistometer_analysis_Property_Verdict_ rfl) rfl (by show 2 * 0 + _ ≤ _; exact Nat.le_of_eq rfl) (hb hby at_31) (fun _ _ => ⟨rfl, eq28, (by decide : 0 + 0 ≤ _), (by decide : 0 + 0 ≤ _)⟩)
        dsimp only [Pt.U, Pt.locs, Pt.cells, Pt.slots] at X29 l29 y29 z29 st29 hQ29
        subst l29 y29 z29
        obtain ⟨rfl, N29q, eq29⟩ := hQ29
        have N29 := Fr.app N28 N29q
        rw [show (fPick (2 : Int32) w1 w2 w3) = w3 from (by first | rfl | simp [fPick])] at st29
        refine Rch.go st29 ?_
        show Rch _ _ _ _ (T29.setTop (mkF m 34 #[.val (.int p1), .val (.int p2), .val (.int (1 : Int32)), .val (.int (2 : Int32)), .val (.ref w2), .val (.ref w3), .unset, .unset] [(.ref w3)]))
        refine Rch.go (fun zt zk => XS.astore X29.here hx rfl (hb hby at_34) rfl rfl (l' := #[.val (.int p1), .val (.int p2), .val (.int (1 : Int32)), .val (.int (2 : Int32)), .val (.ref w2), .val (.ref w3), .val (.ref w3), .unset]) rfl zk) ?_
        show Rch _ _ _ _ (T29.setTop (mkF m 36 #[.val (.int p1), .val (.int p2), .val (.int (1 : Int32)), .val (.int (2 : Int32)), .val (.ref w2), .val (.ref w3), .val (.ref w3), .unset] []))
        refine Rch.go (fun zt zk => XS.aload X29.here hx rfl (hb hby at_36) rfl rfl zk) ?_
        show Rch _ _ _ _ (T29.setTop (mkF m 38 #[.val (.int p1), .val (.int p2), .val (.int (1 : Int32)), .val (.int (2 : Int32)), .val (.ref w2), .val (.ref w3), .val (.ref w3), .unset] [(.ref w2)]))
        refine Rch.go (fun zt zk => XS.aload X29.here hx rfl (hb hby at_38) rfl rfl zk) ?_
        show Rch _ _ _ _ (T29.setTop (mkF m 40 #[.val (.int p1), .val (.int p2), .val (.int (1 : Int32)), .val (.int (2 : Int32)), .val (.ref w2), .val (.ref w3), .val (.ref w3), .unset] [(.ref w3), (.ref w2)]))
        obtain ⟨cq30, kq30, q30a, q30b, q30c⟩ := isOf hZ eq29 E1
        obtain ⟨_, _, ⟨T30, L30, k30, n30⟩, -, X30, ⟨Lc30, hQ30, l30, y30, z30⟩, st30⟩ := X29.virtualBack hx (y := (⟨"com/example/consistometer/consistometer/analysis/Property$Verdict", "and", "(Lcom/example/consistometer/consistometer/analysis/Property$Verdict;)Lcom/example/consistometer/consistometer/analysis/Property$Verdict;"⟩ : MethodName)) (z := (⟨"com/example/consistometer/consistometer/analysis/Property$Verdict", "and", "(Lcom/example/consistometer/consistometer/analysis/Property$Verdict;)Lcom/example/consistometer/consistometer/analysis/Property$Verdict;"⟩ : MethodName)) hown (mvT hZ (ow12 hw)) (mvT hZ (ow13 hw)) (notFace_of_selects (args := #[]) (mvT hZ (ow15 hw))) (mvT hZ (ow15 hw)) (mvT hZ (ow14 hw)) (by decide) (backOf (W := 0) (rm3 l Z a0 hw [] (w2) (w3) (w1) (w2) (w3) h0 n0 Z0 (S0) (S1) (S2)) hZ (ow16 hw) (ow6 hw) (by decide) (by decide)) q30a q30c (g := (mkF m 40 #[.val (.int p1), .val (.int p2), .val (.int (1 : Int32)), .val (.int (2 : Int32)), .val (.ref w2), .val (.ref w3), .val (.ref w3), .unset] [(.ref w3), (.ref w2)])) rfl (by rw [hml]; rfl) (Steps.refl _) (argsL := [(.ref w3)]) (rest := []) (lenOf pd__Lcom_example_consistometer_consistometer_analysis_Property_Verdict__Lcom_example_consistometer_consistometer_analysis_Property_Verdict_ rfl) rfl (by show 2 * 0 + _ ≤ _; exact Nat.le_of_eq rfl) (hb hby at_40) (fun _ _ => ⟨rfl, eq29, (by decide : 0 + 0 ≤ _), (by decide : 0 + 0 ≤ _)⟩)
        dsimp only [Pt.U, Pt.locs, Pt.cells, Pt.slots] at X30 l30 y30 z30 st30 hQ30
        subst l30 y30 z30
        obtain ⟨rfl, N30q, eq30⟩ := hQ30
        have N30 := Fr.app N29 N30q
        rw [show (fOp w2 w3 w1 w2 w3) = w3 from (by simp [fOp, n12, n13, n23, n12.symm, n13.symm, n23.symm])] at st30
        refine Rch.go (fun zt zk => st30.trans zk) ?_
        show Rch _ _ _ _ (T30.setTop (mkF m 43 #[.val (.int p1), .val (.int p2), .val (.int (1 : Int32)), .val (.int (2 : Int32)), .val (.ref w2), .val (.ref w3), .val (.ref w3), .unset] [(.ref w3)]))
        refine Rch.go (fun zt zk => XS.astore X30.here hx rfl (hb hby at_43) rfl rfl (l' := #[.val (.int p1), .val (.int p2), .val (.int (1 : Int32)), .val (.int (2 : Int32)), .val (.ref w2), .val (.ref w3), .val (.ref w3), .val (.ref w3)]) rfl zk) ?_
        show Rch _ _ _ _ (T30.setTop (mkF m 45 #[.val (.int p1), .val (.int p2), .val (.int (1 : Int32)), .val (.int (2 : Int32)), .val (.ref w2), .val (.ref w3), .val (.ref w3), .val (.ref w3)] []))
        refine Rch.go (fun zt zk => XS.aload X30.here hx rfl (hb hby at_45) rfl rfl zk) ?_
        show Rch _ _ _ _ (T30.setTop (mkF m 47 #[.val (.int p1), .val (.int p2), .val (.int (1 : Int32)), .val (.int (2 : Int32)), .val (.ref w2), .val (.ref w3), .val (.ref w3), .val (.ref w3)] [(.ref w3)]))
        refine Rch.go (fun zt zk => XS.aload X30.here hx rfl (hb hby at_47) rfl rfl zk) ?_
        show Rch _ _ _ _ (T30.setTop (mkF m 49 #[.val (.int p1), .val (.int p2), .val (.int (1 : Int32)), .val (.int (2 : Int32)), .val (.ref w2), .val (.ref w3), .val (.ref w3), .val (.ref w3)] [(.ref w3), (.ref w3)]))
        refine Rch.go (fun zt zk => Jvm.RoadKit.acmp (g := (mkF m 49 #[.val (.int p1), .val (.int p2), .val (.int (1 : Int32)), .val (.int (2 : Int32)), .val (.ref w2), .val (.ref w3), .val (.ref w3), .val (.ref w3)] [(.ref w3), (.ref w3)])) X30 hx rfl rfl rfl (pc0 := 49) (pc' := 52) (same := true) rfl (hb hby at_49) rfl (decide_eq_true rfl) (by decide) (by decide) zk) ?_
        show Rch _ _ _ _ (T30.setTop (mkF m 52 #[.val (.int p1), .val (.int p2), .val (.int (1 : Int32)), .val (.int (2 : Int32)), .val (.ref w2), .val (.ref w3), .val (.ref w3), .val (.ref w3)] []))
        refine Rch.go (fun zt zk => XS.iconst X30.here hx rfl (hb hby at_52) zk) ?_
        show Rch _ _ _ _ (T30.setTop (mkF m 53 #[.val (.int p1), .val (.int p2), .val (.int (1 : Int32)), .val (.int (2 : Int32)), .val (.ref w2), .val (.ref w3), .val (.ref w3), .val (.ref w3)] [(.int (1 : Int32))]))
        refine Rch.go (fun zt zk => XS.goto X30.here hx rfl (pc0 := 53) (pc' := 57) rfl (hb hby at_53) (by decide) (by decide) zk) ?_
        show Rch _ _ _ _ (T30.setTop (mkF m 57 #[.val (.int p1), .val (.int p2), .val (.int (1 : Int32)), .val (.int (2 : Int32)), .val (.ref w2), .val (.ref w3), .val (.ref w3), .val (.ref w3)] [(.int (1 : Int32))]))
        obtain ⟨fs, hr, hrun, hended, hW, hsame⟩ := X30.leave (v := some (.int (1 : Int32))) (fun h => by rw [Bd.returns] at h; cases h)
        refine Rch.mk (retN X30 hx (t := .boolean) Bd.returns (by simp) (hb hby at_57) hr) (hPd _ _ _ _ hrun hended rfl ?_ ⟨⟨_, rfl⟩, hW, hsame.mono (by decide) (by decide)⟩)
        show Q_rm0 Z p1 p2 w1 w2 w3 h0 n0 _ T30.heap _
        exact ⟨rfl, N30⟩
    · rcases hj with rfl | rfl | rfl
      · skip
        show Rch _ _ _ _ (s₁.setTop (mkF m 14 #[.val (.int p1), .val (.int p2), .val (.int (2 : Int32)), .val (.int (0 : Int32)), .unset, .unset, .unset, .unset] []))
        refine Rch.go (fun zt zk => XS.iloadN X0.here hx rfl (hb hby at_14) rfl zk) ?_
        show Rch _ _ _ _ (s₁.setTop (mkF m 15 #[.val (.int p1), .val (.int p2), .val (.int (2 : Int32)), .val (.int (0 : Int32)), .unset, .unset, .unset, .unset] [(.int (2 : Int32))]))
        obtain ⟨_, _, ⟨T31, L31, k31, n31⟩, -, X31, ⟨Lc31, hQ31, l31, y31, z31⟩, st31⟩ := Jvm.LawKit.callS X0 hx (y := (⟨"com/example/consistometer/consistometer/analysis/VerdictAndPinLaw", "ofRank", "(I)Lcom/example/consistometer/consistometer/analysis/Property$Verdict;"⟩ : MethodName)) hown (mvT hZ (ow1 hw)) (mvT hZ (ow2 hw)) (mvT hZ (ow3 hw)) (mvT hZ (ow4 hw)) (by decide) (backOf (W := 0) (rm1 l Z a0 hw [] ((2 : Int32)) (w1) (w2) (w3) h0 n0 Z0 (S0) (S1) (S2)) hZ (ow4 hw) (ow3 hw) (by decide) (by decide)) (g := (mkF m 15 #[.val (.int p1), .val (.int p2), .val (.int (2 : Int32)), .val (.int (0 : Int32)), .unset, .unset, .unset, .unset] [(.int (2 : Int32))])) rfl (by rw [hml]; rfl) (argsL := [(.int (2 : Int32))]) (rest := []) (lenOf pd__I_Lcom_example_consistometer_consistometer_analysis_Property_Verdict_ rfl) rfl (by show 2 * 0 + _ ≤ _; exact Nat.le_of_eq rfl) (hb hby at_15) (fun _ _ => ⟨rfl, e0, (by decide : 0 + 0 ≤ _), (by decide : 0 + 0 ≤ _)⟩)
        dsimp only [Pt.U, Pt.locs, Pt.cells, Pt.slots] at X31 l31 y31 z31 st31 hQ31
        subst l31 y31 z31
        obtain ⟨rfl, N31q, eq31⟩ := hQ31
        have N31 := Fr.app N0 N31q
        rw [show (fPick (2 : Int32) w1 w2 w3) = w3 from (by first | rfl | simp [fPick])] at st31
        refine Rch.go st31 ?_
        show Rch _ _ _ _ (T31.setTop (mkF m 18 #[.val (.int p1), .val (.int p2), .val (.int (2 : Int32)), .val (.int (0 : Int32)), .unset, .unset, .unset, .unset] [(.ref w3)]))
        refine Rch.go (fun zt zk => XS.astore X31.here hx rfl (hb hby at_18) rfl rfl (l' := #[.val (.int p1), .val (.int p2), .val (.int (2 : Int32)), .val (.int (0 : Int32)), .val (.ref w3), .unset, .unset, .unset]) rfl zk) ?_
        show Rch _ _ _ _ (T31.setTop (mkF m 20 #[.val (.int p1), .val (.int p2), .val (.int (2 : Int32)), .val (.int (0 : Int32)), .val (.ref w3), .unset, .unset, .unset] []))
        refine Rch.go (fun zt zk => XS.iloadN X31.here hx rfl (hb hby at_20) rfl zk) ?_
        show Rch _ _ _ _ (T31.setTop (mkF m 21 #[.val (.int p1), .val (.int p2), .val (.int (2 : Int32)), .val (.int (0 : Int32)), .val (.ref w3), .unset, .unset, .unset] [(.int (0 : Int32))]))
        obtain ⟨_, _, ⟨T32, L32, k32, n32⟩, -, X32, ⟨Lc32, hQ32, l32, y32, z32⟩, st32⟩ := Jvm.LawKit.callS X31 hx (y := (⟨"com/example/consistometer/consistometer/analysis/VerdictAndPinLaw", "ofRank", "(I)Lcom/example/consistometer/consistometer/analysis/Property$Verdict;"⟩ : MethodName)) hown (mvT hZ (ow1 hw)) (mvT hZ (ow2 hw)) (mvT hZ (ow3 hw)) (mvT hZ (ow4 hw)) (by decide) (backOf (W := 0) (rm1 l Z a0 hw [] ((0 : Int32)) (w1) (w2) (w3) h0 n0 Z0 (S0) (S1) (S2)) hZ (ow4 hw) (ow3 hw) (by decide) (by decide)) (g := (mkF m 21 #[.val (.int p1), .val (.int p2), .val (.int (2 : Int32)), .val (.int (0 : Int32)), .val (.ref w3), .unset, .unset, .unset] [(.int (0 : Int32))])) rfl (by rw [hml]; rfl) (argsL := [(.int (0 : Int32))]) (rest := []) (lenOf pd__I_Lcom_example_consistometer_consistometer_analysis_Property_Verdict_ rfl) rfl (by show 2 * 0 + _ ≤ _; exact Nat.le_of_eq rfl) (hb hby at_21) (fun _ _ => ⟨rfl, eq31, (by decide : 0 + 0 ≤ _), (by decide : 0 + 0 ≤ _)⟩)
        dsimp only [Pt.U, Pt.locs, Pt.cells, Pt.slots] at X32 l32 y32 z32 st32 hQ32
        subst l32 y32 z32
        obtain ⟨rfl, N32q, eq32⟩ := hQ32
        have N32 := Fr.app N31 N32q
        rw [show (fPick (0 : Int32) w1 w2 w3) = w1 from (by first | rfl | simp [fPick])] at st32
        refine Rch.go st32 ?_
        show Rch _ _ _ _ (T32.setTop (mkF m 24 #[.val (.int p1), .val (.int p2), .val (.int (2 : Int32)), .val (.int (0 : Int32)), .val (.ref w3), .unset, .unset, .unset] [(.ref w1)]))
        refine Rch.go (fun zt zk => XS.astore X32.here hx rfl (hb hby at_24) rfl rfl (l' := #[.val (.int p1), .val (.int p2), .val (.int (2 : Int32)), .val (.int (0 : Int32)), .val (.ref w3), .val (.ref w1), .unset, .unset]) rfl zk) ?_
        show Rch _ _ _ _ (T32.setTop (mkF m 26 #[.val (.int p1), .val (.int p2), .val (.int (2 : Int32)), .val (.int (0 : Int32)), .val (.ref w3), .val (.ref w1), .unset, .unset] []))
        refine Rch.go (fun zt zk => XS.iloadN X32.here hx rfl (hb hby at_26) rfl zk) ?_
        show Rch _ _ _ _ (T32.setTop (mkF m 27 #[.val (.int p1), .val (.int p2), .val (.int (2 : Int32)), .val (.int (0 : Int32)), .val (.ref w3), .val (.ref w1), .unset, .unset] [(.int (2 : Int32))]))
        refine Rch.go (fun zt zk => XS.iloadN X32.here hx rfl (hb hby at_27) rfl zk) ?_
        show Rch _ _ _ _ (T32.setTop (mkF m 28 #[.val (.int p1), .val (.int p2), .val (.int (2 : Int32)), .val (.int (0 : Int32)), .val (.ref w3), .val (.ref w1), .unset, .unset] [(.int (0 : Int32)), (.int (2 : Int32))]))
        obtain ⟨_, _, ⟨T33, L33, k33, n33⟩, -, X33, ⟨Lc33, hQ33, l33, y33, z33⟩, st33⟩ := Jvm.LawKit.callS X32 hx (y := (⟨"java/lang/Math", "max", "(II)I"⟩ : MethodName)) hown (mvT hZ (ow8 hw)) (mvT hZ (ow9 hw)) (mvT hZ (ow10 hw)) (mvT hZ (ow11 hw)) (by decide) (backOf (W := 0) (rm2 l Z a0 hw [] (2 : Int32) (0 : Int32) h0 n0 Z0 ) hZ (ow11 hw) (ow10 hw) (by decide) (by decide)) (g := (mkF m 28 #[.val (.int p1), .val (.int p2), .val (.int (2 : Int32)), .val (.int (0 : Int32)), .val (.ref w3), .val (.ref w1), .unset, .unset] [(.int (0 : Int32)), (.int (2 : Int32))])) rfl (by rw [hml]; rfl) (argsL := [(.int (2 : Int32)), (.int (0 : Int32))]) (rest := []) (lenOf pd__II_I rfl) rfl (by show 2 * 0 + _ ≤ _; exact Nat.le_of_eq rfl) (hb hby at_28) (fun _ _ => ⟨rfl, eq32, (by decide : 0 + 0 ≤ _), (by decide : 0 + 0 ≤ _)⟩)
        dsimp only [Pt.U, Pt.locs, Pt.cells, Pt.slots] at X33 l33 y33 z33 st33 hQ33
        subst l33 y33 z33
        obtain ⟨rfl, N33q, eq33⟩ := hQ33
        have N33 := Fr.app N32 N33q
        rw [show (fMax (2 : Int32) (0 : Int32)) = (2 : Int32) from (by decide)] at st33
        refine Rch.go st33 ?_
        show Rch _ _ _ _ (T33.setTop (mkF m 31 #[.val (.int p1), .val (.int p2), .val (.int (2 : Int32)), .val (.int (0 : Int32)), .val (.ref w3), .val (.ref w1), .unset, .unset] [(.int (2 : Int32))]))
        obtain ⟨_, _, ⟨T34, L34, k34, n34⟩, -, X34, ⟨Lc34, hQ34, l34, y34, z34⟩, st34⟩ := Jvm.LawKit.callS X33 hx (y := (⟨"com/example/consistometer/consistometer/analysis/VerdictAndPinLaw", "ofRank", "(I)Lcom/example/consistometer/consistometer/analysis/Property$Verdict;"⟩ : MethodName)) hown (mvT hZ (ow1 hw)) (mvT hZ (ow2 hw)) (mvT hZ (ow3 hw)) (mvT hZ (ow4 hw)) (by decide) (backOf (W := 0) (rm1 l Z a0 hw [] ((2 : Int32)) (w1) (w2) (w3) h0 n0 Z0 (S0) (S1) (S2)) hZ (ow4 hw) (ow3 hw) (by decide) (by decide)) (g := (mkF m 31 #[.val (.int p1), .val (.int p2), .val (.int (2 : Int32)), .val (.int (0 : Int32)), .val (.ref w3), .val (.ref w1), .unset, .unset] [(.int (2 : Int32))])) rfl (by rw [hml]; rfl) (argsL := [(.int (2 : Int32))]) (rest := []) (lenOf pd__I_Lcom_example_consistometer_consistometer_analysis_Property_Verdict_ rfl) rfl (by show 2 * 0 + _ ≤ _; exact Nat.le_of_eq rfl) (hb hby at_31) (fun _ _ => ⟨rfl, eq33, (by decide : 0 + 0 ≤ _), (by decide : 0 + 0 ≤ _)⟩)
        dsimp only [Pt.U, Pt.locs, Pt.cells, Pt.slots] at X34 l34 y34 z34 st34 hQ34
        subst l34 y34 z34
        obtain ⟨rfl, N34q, eq34⟩ := hQ34
        have N34 := Fr.app N33 N34q
        rw [show (fPick (2 : Int32) w1 w2 w3) = w3 from (by first | rfl | simp [fPick])] at st34
        refine Rch.go st34 ?_
        show Rch _ _ _ _ (T34.setTop (mkF m 34 #[.val (.int p1), .val (.int p2), .val (.int (2 : Int32)), .val (.int (0 : Int32)), .val (.ref w3), .val (.ref w1), .unset, .unset] [(.ref w3)]))
        refine Rch.go (fun zt zk => XS.astore X34.here hx rfl (hb hby at_34) rfl rfl (l' := #[.val (.int p1), .val (.int p2), .val (.int (2 : Int32)), .val (.int (0 : Int32)), .val (.ref w3), .val (.ref w1), .val (.ref w3), .unset]) rfl zk) ?_
        show Rch _ _ _ _ (T34.setTop (mkF m 36 #[.val (.int p1), .val (.int p2), .val (.int (2 : Int32)), .val (.int (0 : Int32)), .val (.ref w3), .val (.ref w1), .val (.ref w3), .unset] []))
        refine Rch.go (fun zt zk => XS.aload X34.here hx rfl (hb hby at_36) rfl rfl zk) ?_
        show Rch _ _ _ _ (T34.setTop (mkF m 38 #[.val (.int p1), .val (.int p2), .val (.int (2 : Int32)), .val (.int (0 : Int32)), .val (.ref w3), .val (.ref w1), .val (.ref w3), .unset] [(.ref w3)]))
        refine Rch.go (fun zt zk => XS.aload X34.here hx rfl (hb hby at_38) rfl rfl zk) ?_
        show Rch _ _ _ _ (T34.setTop (mkF m 40 #[.val (.int p1), .val (.int p2), .val (.int (2 : Int32)), .val (.int (0 : Int32)), .val (.ref w3), .val (.ref w1), .val (.ref w3), .unset] [(.ref w1), (.ref w3)]))
        obtain ⟨cq35, kq35, q35a, q35b, q35c⟩ := isOf hZ eq34 E2
        obtain ⟨_, _, ⟨T35, L35, k35, n35⟩, -, X35, ⟨Lc35, hQ35, l35, y35, z35⟩, st35⟩ := X34.virtualBack hx (y := (⟨"com/example/consistometer/consistometer/analysis/Property$Verdict", "and", "(Lcom/example/consistometer/consistometer/analysis/Property$Verdict;)Lcom/example/consistometer/consistometer/analysis/Property$Verdict;"⟩ : MethodName)) (z := (⟨"com/example/consistometer/consistometer/analysis/Property$Verdict", "and", "(Lcom/example/consistometer/consistometer/analysis/Property$Verdict;)Lcom/example/consistometer/consistometer/analysis/Property$Verdict;"⟩ : MethodName)) hown (mvT hZ (ow12 hw)) (mvT hZ (ow13 hw)) (notFace_of_selects (args := #[]) (mvT hZ (ow15 hw))) (mvT hZ (ow15 hw)) (mvT hZ (ow14 hw)) (by decide) (backOf (W := 0) (rm3 l Z a0 hw [] (w3) (w1) (w1) (w2) (w3) h0 n0 Z0 (S0) (S1) (S2)) hZ (ow16 hw) (ow6 hw) (by decide) (by decide)) q35a q35c (g := (mkF m 40 #[.val (.int p1), .val (.int p2), .val (.int (2 : Int32)), .val (.int (0 : Int32)), .val (.ref w3), .val (.ref w1), .val (.ref w3), .unset] [(.ref w1), (.ref w3)])) rfl (by rw [hml]; rfl) (Steps.refl _) (argsL := [(.ref w1)]) (rest := []) (lenOf pd__Lcom_example_consistometer_consistometer_analysis_Property_Verdict__Lcom_example_consistometer_consistometer_analysis_Property_Verdict_ rfl) rfl (by show 2 * 0 + _ ≤ _; exact Nat.le_of_eq rfl) (hb hby at_40) (fun _ _ => ⟨rfl, eq34, (by decide : 0 + 0 ≤ _), (by decide : 0 + 0 ≤ _)⟩)
        dsimp only [Pt.U, Pt.locs, Pt.cells, Pt.slots] at X35 l35 y35 z35 st35 hQ35
        subst l35 y35 z35
        obtain ⟨rfl, N35q, eq35⟩ := hQ35
        have N35 := Fr.app N34 N35q
        rw [show (fOp w3 w1 w1 w2 w3) = w3 from (by simp [fOp, n12, n13, n23, n12.symm, n13.symm, n23.symm])] at st35
        refine Rch.go (fun zt zk => st35.trans zk) ?_
        show Rch _ _ _ _ (T35.setTop (mkF m 43 #[.val (.int p1), .val (.int p2), .val (.int (2 : Int32)), .val (.int (0 : Int32)), .val (.ref w3), .val (.ref w1), .val (.ref w3), .unset] [(.ref w3)]))
        refine Rch.go (fun zt zk => XS.astore X35.here hx rfl (hb hby at_43) rfl rfl (l' := #[.val (.int p1), .val (.int p2), .val (.int (2 : Int32)), .val (.int (0 : Int32)), .val (.ref w3), .val (.ref w1), .val (.ref w3), .val (.ref w3)]) rfl zk) ?_
        show Rch _ _ _ _ (T35.setTop (mkF m 45 #[.val (.int p1), .val (.int p2), .val (.int (2 : Int32)), .val (.int (0 : Int32)), .val (.ref w3), .val (.ref w1), .val (.ref w3), .val (.ref w3)] []))
        refine Rch.go (fun zt zk => XS.aload X35.here hx rfl (hb hby at_45) rfl rfl zk) ?_
        show Rch _ _ _ _ (T35.setTop (mkF m 47 #[.val (.int p1), .val (.int p2), .val (.int (2 : Int32)), .val (.int (0 : Int32)), .val (.ref w3), .val (.ref w1), .val (.ref w3), .val (.ref w3)] [(.ref w3)]))
        refine Rch.go (fun zt zk => XS.aload X35.here hx rfl (hb hby at_47) rfl rfl zk) ?_
        show Rch _ _ _ _ (T35.setTop (mkF m 49 #[.val (.int p1), .val (.int p2), .val (.int (2 : Int32)), .val (.int (0 : Int32)), .val (.ref w3), .val (.ref w1), .val (.ref w3), .val (.ref w3)] [(.ref w3), (.ref w3)]))
        refine Rch.go (fun zt zk => Jvm.RoadKit.acmp (g := (mkF m 49 #[.val (.int p1), .val (.int p2), .val (.int (2 : Int32)), .val (.int (0 : Int32)), .val (.ref w3), .val (.ref w1), .val (.ref w3), .val (.ref w3)] [(.ref w3), (.ref w3)])) X35 hx rfl rfl rfl (pc0 := 49) (pc' := 52) (same := true) rfl (hb hby at_49) rfl (decide_eq_true rfl) (by decide) (by decide) zk) ?_
        show Rch _ _ _ _ (T35.setTop (mkF m 52 #[.val (.int p1), .val (.int p2), .val (.int (2 : Int32)), .val (.int (0 : Int32)), .val (.ref w3), .val (.ref w1), .val (.ref w3), .val (.ref w3)] []))
        refine Rch.go (fun zt zk => XS.iconst X35.here hx rfl (hb hby at_52) zk) ?_
        show Rch _ _ _ _ (T35.setTop (mkF m 53 #[.val (.int p1), .val (.int p2), .val (.int (2 : Int32)), .val (.int (0 : Int32)), .val (.ref w3), .val (.ref w1), .val (.ref w3), .val (.ref w3)] [(.int (1 : Int32))]))
        refine Rch.go (fun zt zk => XS.goto X35.here hx rfl (pc0 := 53) (pc' := 57) rfl (hb hby at_53) (by decide) (by decide) zk) ?_
        show Rch _ _ _ _ (T35.setTop (mkF m 57 #[.val (.int p1), .val (.int p2), .val (.int (2 : Int32)), .val (.int (0 : Int32)), .val (.ref w3), .val (.ref w1), .val (.ref w3), .val (.ref w3)] [(.int (1 : Int32))]))
        obtain ⟨fs, hr, hrun, hended, hW, hsame⟩ := X35.leave (v := some (.int (1 : Int32))) (fun h => by rw [Bd.returns] at h; cases h)
        refine Rch.mk (retN X35 hx (t := .boolean) Bd.returns (by simp) (hb hby at_57) hr) (hPd _ _ _ _ hrun hended rfl ?_ ⟨⟨_, rfl⟩, hW, hsame.mono (by decide) (by decide)⟩)
        show Q_rm0 Z p1 p2 w1 w2 w3 h0 n0 _ T35.heap _
        exact ⟨rfl, N35⟩
      · skip
        show Rch _ _ _ _ (s₁.setTop (mkF m 14 #[.val (.int p1), .val (.int p2), .val (.int (2 : Int32)), .val (.int (1 : Int32)), .unset, .unset, .unset, .unset] []))
        refine Rch.go (fun zt zk => XS.iloadN X0.here hx rfl (hb hby at_14) rfl zk) ?_
        show Rch _ _ _ _ (s₁.setTop (mkF m 15 #[.val (.int p1), .val (.int p2), .val (.int (2 : Int32)), .val (.int (1 : Int32)), .unset, .unset, .unset, .unset] [(.int (2 : Int32))]))
        obtain ⟨_, _, ⟨T36, L36, k36, n36⟩, -, X36, ⟨Lc36, hQ36, l36, y36, z36⟩, st36⟩ := Jvm.LawKit.callS X0 hx (y := (⟨"com/example/consistometer/consistometer/analysis/VerdictAndPinLaw", "ofRank", "(I)Lcom/example/consistometer/consistometer/analysis/Property$Verdict;"⟩ : MethodName)) hown (mvT hZ (ow1 hw)) (mvT hZ (ow2 hw)) (mvT hZ (ow3 hw)) (mvT hZ (ow4 hw)) (by decide) (backOf (W := 0) (rm1 l Z a0 hw [] ((2 : Int32)) (w1) (w2) (w3) h0 n0 Z0 (S0) (S1) (S2)) hZ (ow4 hw) (ow3 hw) (by decide) (by decide)) (g := (mkF m 15 #[.val (.int p1), .val (.int p2), .val (.int (2 : Int32)), .val (.int (1 : Int32)), .unset, .unset, .unset, .unset] [(.int (2 : Int32))])) rfl (by rw [hml]; rfl) (argsL := [(.int (2 : Int32))]) (rest := []) (lenOf pd__I_Lcom_example_consistometer_consistometer_analysis_Property_Verdict_ rfl) rfl (by show 2 * 0 + _ ≤ _; exact Nat.le_of_eq rfl) (hb hby at_15) (fun _ _ => ⟨rfl, e0, (by decide : 0 + 0 ≤ _), (by decide : 0 + 0 ≤ _)⟩)
        dsimp only [Pt.U, Pt.locs, Pt.cells, Pt.slots] at X36 l36 y36 z36 st36 hQ36
        subst l36 y36 z36
        obtain ⟨rfl, N36q, eq36⟩ := hQ36
        have N36 := Fr.app N0 N36q
        rw [show (fPick (2 : Int32) w1 w2 w3) = w3 from (by first | rfl | simp [fPick])] at st36
        refine Rch.go st36 ?_
        show Rch _ _ _ _ (T36.setTop (mkF m 18 #[.val (.int p1), .val (.int p2), .val (.int (2 : Int32)), .val (.int (1 : Int32)), .unset, .unset, .unset, .unset] [(.ref w3)]))
        refine Rch.go (fun zt zk => XS.astore X36.here hx rfl (hb hby at_18) rfl rfl (l' := #[.val (.int p1), .val (.int p2), .val (.int (2 : Int32)), .val (.int (1 : Int32)), .val (.ref w3), .unset, .unset, .unset]) rfl zk) ?_
        show Rch _ _ _ _ (T36.setTop (mkF m 20 #[.val (.int p1), .val (.int p2), .val (.int (2 : Int32)), .val (.int (1 : Int32)), .val (.ref w3), .unset, .unset, .unset] []))
        refine Rch.go (fun zt zk => XS.iloadN X36.here hx rfl (hb hby at_20) rfl zk) ?_
        show Rch _ _ _ _ (T36.setTop (mkF m 21 #[.val (.int p1), .val (.int p2), .val (.int (2 : Int32)), .val (.int (1 : Int32)), .val (.ref w3), .unset, .unset, .unset] [(.int (1 : Int32))]))
        obtain ⟨_, _, ⟨T37, L37, k37, n37⟩, -, X37, ⟨Lc37, hQ37, l37, y37, z37⟩, st37⟩ := Jvm.LawKit.callS X36 hx (y := (⟨"com/example/consistometer/consistometer/analysis/VerdictAndPinLaw", "ofRank", "(I)Lcom/example/consistometer/consistometer/analysis/Property$Verdict;"⟩ : MethodName)) hown (mvT hZ (ow1 hw)) (mvT hZ (ow2 hw)) (mvT hZ (ow3 hw)) (mvT hZ (ow4 hw)) (by decide) (backOf (W := 0) (rm1 l Z a0 hw [] ((1 : Int32)) (w1) (w2) (w3) h0 n0 Z0 (S0) (S1) (S2)) hZ (ow4 hw) (ow3 hw) (by decide) (by decide)) (g := (mkF m 21 #[.val (.int p1), .val (.int p2), .val (.int (2 : Int32)), .val (.int (1 : Int32)), .val (.ref w3), .unset, .unset, .unset] [(.int (1 : Int32))])) rfl (by rw [hml]; rfl) (argsL := [(.int (1 : Int32))]) (rest := []) (lenOf pd__I_Lcom_example_consistometer_consistometer_analysis_Property_Verdict_ rfl) rfl (by show 2 * 0 + _ ≤ _; exact Nat.le_of_eq rfl) (hb hby at_21) (fun _ _ => ⟨rfl, eq36, (by decide : 0 + 0 ≤ _), (by decide : 0 + 0 ≤ _)⟩)
        dsimp only [Pt.U, Pt.locs, Pt.cells, Pt.slots] at X37 l37 y37 z37 st37 hQ37
        subst l37 y37 z37
        obtain ⟨rfl, N37q, eq37⟩ := hQ37
        have N37 := Fr.app N36 N37q
        rw [show (fPick (1 : Int32) w1 w2 w3) = w2 from (by first | rfl | simp [fPick])] at st37
        refine Rch.go st37 ?_
        show Rch _ _ _ _ (T37.setTop (mkF m 24 #[.val (.int p1), .val (.int p2), .val (.int (2 : Int32)), .val (.int (1 : Int32)), .val (.ref w3), .unset, .unset, .unset] [(.ref w2)]))
        refine Rch.go (fun zt zk => XS.astore X37.here hx rfl (hb hby at_24) rfl rfl (l' := #[.val (.int p1), .val (.int p2), .val (.int (2 : Int32)), .val (.int (1 : Int32)), .val (.ref w3), .val (.ref w2), .unset, .unset]) rfl zk) ?_
        show Rch _ _ _ _ (T37.setTop (mkF m 26 #[.val (.int p1), .val (.int p2), .val (.int (2 : Int32)), .val (.int (1 : Int32)), .val (.ref w3), .val (.ref w2), .unset, .unset] []))
        refine Rch.go (fun zt zk => XS.iloadN X37.here hx rfl (hb hby at_26) rfl zk) ?_
        show Rch _ _ _ _ (T37.setTop (mkF m 27 #[.val (.int p1), .val (.int p2), .val (.int (2 : Int32)), .val (.int (1 : Int32)), .val (.ref w3), .val (.ref w2), .unset, .unset] [(.int (2 : Int32))]))
        refine Rch.go (fun zt zk => XS.iloadN X37.here hx rfl (hb hby at_27) rfl zk) ?_
        show Rch _ _ _ _ (T37.setTop (mkF m 28 #[.val (.int p1), .val (.int p2), .val (.int (2 : Int32)), .val (.int (1 : Int32)), .val (.ref w3), .val (.ref w2), .unset, .unset] [(.int (1 : Int32)), (.int (2 : Int32))]))
        obtain ⟨_, _, ⟨T38, L38, k38, n38⟩, -, X38, ⟨Lc38, hQ38, l38, y38, z38⟩, st38⟩ := Jvm.LawKit.callS X37 hx (y := (⟨"java/lang/Math", "max", "(II)I"⟩ : MethodName)) hown (mvT hZ (ow8 hw)) (mvT hZ (ow9 hw)) (mvT hZ (ow10 hw)) (mvT hZ (ow11 hw)) (by decide) (backOf (W := 0) (rm2 l Z a0 hw [] (2 : Int32) (1 : Int32) h0 n0 Z0 ) hZ (ow11 hw) (ow10 hw) (by decide) (by decide)) (g := (mkF m 28 #[.val (.int p1), .val (.int p2), .val (.int (2 : Int32)), .val (.int (1 : Int32)), .val (.ref w3), .val (.ref w2), .unset, .unset] [(.int (1 : Int32)), (.int (2 : Int32))])) rfl (by rw [hml]; rfl) (argsL := [(.int (2 : Int32)), (.int (1 : Int32))]) (rest := []) (lenOf pd__II_I rfl) rfl (by show 2 * 0 + _ ≤ _; exact Nat.le_of_eq rfl) (hb hby at_28) (fun _ _ => ⟨rfl, eq37, (by decide : 0 + 0 ≤ _), (by decide : 0 + 0 ≤ _)⟩)
        dsimp only [Pt.U, Pt.locs, Pt.cells, Pt.slots] at X38 l38 y38 z38 st38 hQ38
        subst l38 y38 z38
        obtain ⟨rfl, N38q, eq38⟩ := hQ38
        have N38 := Fr.app N37 N38q
        rw [show (fMax (2 : Int32) (1 : Int32)) = (2 : Int32) from (by decide)] at st38
        refine Rch.go st38 ?_
        show Rch _ _ _ _ (T38.setTop (mkF m 31 #[.val (.int p1), .val (.int p2), .val (.int (2 : Int32)), .val (.int (1 : Int32)), .val (.ref w3), .val (.ref w2), .unset, .unset] [(.int (2 : Int32))]))
        obtain ⟨_, _, ⟨T39, L39, k39, n39⟩, -, X39, ⟨Lc39, hQ39, l39, y39, z39⟩, st39⟩ := Jvm.LawKit.callS X38 hx (y := (⟨"com/example/consistometer/consistometer/analysis/VerdictAndPinLaw", "ofRank", "(I)Lcom/example/consistometer/consistometer/analysis/Property$Verdict;"⟩ : MethodName)) hown (mvT hZ (ow1 hw)) (mvT hZ (ow2 hw)) (mvT hZ (ow3 hw)) (mvT hZ (ow4 hw)) (by decide) (backOf (W := 0) (rm1 l Z a0 hw [] ((2 : Int32)) (w1) (w2) (w3) h0 n0 Z0 (S0) (S1) (S2)) hZ (ow4 hw) (ow3 hw) (by decide) (by decide)) (g := (mkF m 31 #[.val (.int p1), .val (.int p2), .val (.int (2 : Int32)), .val (.int (1 : Int32)), .val (.ref w3), .val (.ref w2), .unset, .unset] [(.int (2 : Int32))])) rfl (by rw [hml]; rfl) (argsL := [(.int (2 : Int32))]) (rest := []) (lenOf pd__I_Lcom_example_consistometer_consistometer_analysis_Property_Verdict_ rfl) rfl (by show 2 * 0 + _ ≤ _; exact Nat.le_of_eq rfl) (hb hby at_31) (fun _ _ => ⟨rfl, eq38, (by decide : 0 + 0 ≤ _), (by decide : 0 + 0 ≤ _)⟩)
        dsimp only [Pt.U, Pt.locs, Pt.cells, Pt.slots] at X39 l39 y39 z39 st39 hQ39
        subst l39 y39 z39
        obtain ⟨rfl, N39q, eq39⟩ := hQ39
        have N39 := Fr.app N38 N39q
        rw [show (fPick (2 : Int32) w1 w2 w3) = w3 from (by first | rfl | simp [fPick])] at st39
        refine Rch.go st39 ?_
        show Rch _ _ _ _ (T39.setTop (mkF m 34 #[.val (.int p1), .val (.int p2), .val (.int (2 : Int32)), .val (.int (1 : Int32)), .val (.ref w3), .val (.ref w2), .unset, .unset] [(.ref w3)]))
        refine Rch.go (fun zt zk => XS.astore X39.here hx rfl (hb hby at_34) rfl rfl (l' := #[.val (.int p1), .val (.int p2), .val (.int (2 : Int32)), .val (.int (1 : Int32)), .val (.ref w3), .val (.ref w2), .val (.ref w3), .unset]) rfl zk) ?_
        show Rch _ _ _ _ (T39.setTop (mkF m 36 #[.val (.int p1), .val (.int p2), .val (.int (2 : Int32)), .val (.int (1 : Int32)), .val (.ref w3), .val (.ref w2), .val (.ref w3), .unset] []))
        refine Rch.go (fun zt zk => XS.aload X39.here hx rfl (hb hby at_36) rfl rfl zk) ?_
        show Rch _ _ _ _ (T39.setTop (mkF m 38 #[.val (.int p1), .val (.int p2), .val (.int (2 : Int32)), .val (.int (1 : Int32)), .val (.ref w3), .val (.ref w2), .val (.ref w3), .unset] [(.ref w3)]))
        refine Rch.go (fun zt zk => XS.aload X39.here hx rfl (hb hby at_38) rfl rfl zk) ?_
        show Rch _ _ _ _ (T39.setTop (mkF m 40 #[.val (.int p1), .val (.int p2), .val (.int (2 : Int32)), .val (.int (1 : Int32)), .val (.ref w3), .val (.ref w2), .val (.ref w3), .unset] [(.ref w2), (.ref w3)]))
        obtain ⟨cq40, kq40, q40a, q40b, q40c⟩ := isOf hZ eq39 E2
        obtain ⟨_, _, ⟨T40, L40, k40, n40⟩, -, X40, ⟨Lc40, hQ40, l40, y40, z40⟩, st40⟩ := X39.virtualBack hx (y := (⟨"com/example/consistometer/consistometer/analysis/Property$Verdict", "and", "(Lcom/example/consistometer/consistometer/analysis/Property$Verdict;)Lcom/example/consistometer/consistometer/analysis/Property$Verdict;"⟩ : MethodName)) (z := (⟨"com/example/consistometer/consistometer/analysis/Property$Verdict", "and", "(Lcom/example/consistometer/consistometer/analysis/Property$Verdict;)Lcom/example/consistometer/consistometer/analysis/Property$Verdict;"⟩ : MethodName)) hown (mvT hZ (ow12 hw)) (mvT hZ (ow13 hw)) (notFace_of_selects (args := #[]) (mvT hZ (ow15 hw))) (mvT hZ (ow15 hw)) (mvT hZ (ow14 hw)) (by decide) (backOf (W := 0) (rm3 l Z a0 hw [] (w3) (w2) (w1) (w2) (w3) h0 n0 Z0 (S0) (S1) (S2)) hZ (ow16 hw) (ow6 hw) (by decide) (by decide)) q40a q40c (g := (mkF m 40 #[.val (.int p1), .val (.int p2), .val (.int (2 : Int32)), .val (.int (1 : Int32)), .val (.ref w3), .val (.ref w2), .val (.ref w3), .unset] [(.ref w2), (.ref w3)])) rfl (by rw [hml]; rfl) (Steps.refl _) (argsL := [(.ref w2)]) (rest := []) (lenOf pd__Lcom_example_consistometer_consistometer_analysis_Property_Verdict__Lcom_example_consistometer_consistometer_analysis_Property_Verdict_ rfl) rfl (by show 2 * 0 + _ ≤ _; exact Nat.le_of_eq rfl) (hb hby at_40) (fun _ _ => ⟨rfl, eq39, (by decide : 0 + 0 ≤ _), (by decide : 0 + 0 ≤ _)⟩)
        dsimp only [Pt.U, Pt.locs, Pt.cells, Pt.slots] at X40 l40 y40 z40 st40 hQ40
        subst l40 y40 z40
        obtain ⟨rfl, N40q, eq40⟩ := hQ40
        have N40 := Fr.app N39 N40q
        rw [show (fOp w3 w2 w1 w2 w3) = w3 from (by simp [fOp, n12, n13, n23, n12.symm, n13.symm, n23.symm])] at st40
        refine Rch.go (fun zt zk => st40.trans zk) ?_
        show Rch _ _ _ _ (T40.setTop (mkF m 43 #[.val (.int p1), .val (.int p2), .val (.int (2 : Int32)), .val (.int (1 : Int32)), .val (.ref w3), .val (.ref w2), .val (.ref w3), .unset] [(.ref w3)]))
        refine Rch.go (fun zt zk => XS.astore X40.here hx rfl (hb hby at_43) rfl rfl (l' := #[.val (.int p1), .val (.int p2), .val (.int (2 : Int32)), .val (.int (1 : Int32)), .val (.ref w3), .val (.ref w2), .val (.ref w3), .val (.ref w3)]) rfl zk) ?_
        show Rch _ _ _ _ (T40.setTop (mkF m 45 #[.val (.int p1), .val (.int p2), .val (.int (2 : Int32)), .val (.int (1 : Int32)), .val (.ref w3), .val (.ref w2), .val (.ref w3), .val (.ref w3)] []))
        refine Rch.go (fun zt zk => XS.aload X40.here hx rfl (hb hby at_45) rfl rfl zk) ?_
        show Rch _ _ _ _ (T40.setTop (mkF m 47 #[.val (.int p1), .val (.int p2), .val (.int (2 : Int32)), .val (.int (1 : Int32)), .val (.ref w3), .val (.ref w2), .val (.ref w3), .val (.ref w3)] [(.ref w3)]))
        refine Rch.go (fun zt zk => XS.aload X40.here hx rfl (hb hby at_47) rfl rfl zk) ?_
        show Rch _ _ _ _ (T40.setTop (mkF m 49 #[.val (.int p1), .val (.int p2), .val (.int (2 : Int32)), .val (.int (1 : Int32)), .val (.ref w3), .val (.ref w2), .val (.ref w3), .val (.ref w3)] [(.ref w3), (.ref w3)]))
        refine Rch.go (fun zt zk => Jvm.RoadKit.acmp (g := (mkF m 49 #[.val (.int p1), .val (.int p2), .val (.int (2 : Int32)), .val (.int (1 : Int32)), .val (.ref w3), .val (.ref w2), .val (.ref w3), .val (.ref w3)] [(.ref w3), (.ref w3)])) X40 hx rfl rfl rfl (pc0 := 49) (pc' := 52) (same := true) rfl (hb hby at_49) rfl (decide_eq_true rfl) (by decide) (by decide) zk) ?_
        show Rch _ _ _ _ (T40.setTop (mkF m 52 #[.val (.int p1), .val (.int p2), .val (.int (2 : Int32)), .val (.int (1 : Int32)), .val (.ref w3), .val (.ref w2), .val (.ref w3), .val (.ref w3)] []))
        refine Rch.go (fun zt zk => XS.iconst X40.here hx rfl (hb hby at_52) zk) ?_
        show Rch _ _ _ _ (T40.setTop (mkF m 53 #[.val (.int p1), .val (.int p2), .val (.int (2 : Int32)), .val (.int (1 : Int32)), .val (.ref w3), .val (.ref w2), .val (.ref w3), .val (.ref w3)] [(.int (1 : Int32))]))
        refine Rch.go (fun zt zk => XS.goto X40.here hx rfl (pc0 := 53) (pc' := 57) rfl (hb hby at_53) (by decide) (by decide) zk) ?_
        show Rch _ _ _ _ (T40.setTop (mkF m 57 #[.val (.int p1), .val (.int p2), .val (.int (2 : Int32)), .val (.int (1 : Int32)), .val (.ref w3), .val (.ref w2), .val (.ref w3), .val (.ref w3)] [(.int (1 : Int32))]))
        obtain ⟨fs, hr, hrun, hended, hW, hsame⟩ := X40.leave (v := some (.int (1 : Int32))) (fun h => by rw [Bd.returns] at h; cases h)
        refine Rch.mk (retN X40 hx (t := .boolean) Bd.returns (by simp) (hb hby at_57) hr) (hPd _ _ _ _ hrun hended rfl ?_ ⟨⟨_, rfl⟩, hW, hsame.mono (by decide) (by decide)⟩)
        show Q_rm0 Z p1 p2 w1 w2 w3 h0 n0 _ T40.heap _
        exact ⟨rfl, N40⟩
      · skip
        show Rch _ _ _ _ (s₁.setTop (mkF m 14 #[.val (.int p1), .val (.int p2), .val (.int (2 : Int32)), .val (.int (2 : Int32)), .unset, .unset, .unset, .unset] []))
        refine Rch.go (fun zt zk => XS.iloadN X0.here hx rfl (hb hby at_14) rfl zk) ?_
        show Rch _ _ _ _ (s₁.setTop (mkF m 15 #[.val (.int p1), .val (.int p2), .val (.int (2 : Int32)), .val (.int (2 : Int32)), .unset, .unset, .unset, .unset] [(.int (2 : Int32))]))
        obtain ⟨_, _, ⟨T41, L41, k41, n41⟩, -, X41, ⟨Lc41, hQ41, l41, y41, z41⟩, st41⟩ := Jvm.LawKit.callS X0 hx (y := (⟨"com/example/consistometer/consistometer/analysis/VerdictAndPinLaw", "ofRank", "(I)Lcom/example/consistometer/consistometer/analysis/Property$Verdict;"⟩ : MethodName)) hown (mvT hZ (ow1 hw)) (mvT hZ (ow2 hw)) (mvT hZ (ow3 hw)) (mvT hZ (ow4 hw)) (by decide) (backOf (W := 0) (rm1 l Z a0 hw [] ((2 : Int32)) (w1) (w2) (w3) h0 n0 Z0 (S0) (S1) (S2)) hZ (ow4 hw) (ow3 hw) (by decide) (by decide)) (g := (mkF m 15 #[.val (.int p1), .val (.int p2), .val (.int (2 : Int32)), .val (.int (2 : Int32)), .unset, .unset, .unset, .unset] [(.int (2 : Int32))])) rfl (by rw [hml]; rfl) (argsL := [(.int (2 : Int32))]) (rest := []) (lenOf pd__I_Lcom_example_consistometer_consistometer_analysis_Property_Verdict_ rfl) rfl (by show 2 * 0 + _ ≤ _; exact Nat.le_of_eq rfl) (hb hby at_15) (fun _ _ => ⟨rfl, e0, (by decide : 0 + 0 ≤ _), (by decide : 0 + 0 ≤ _)⟩)
        dsimp only [Pt.U, Pt.locs, Pt.cells, Pt.slots] at X41 l41 y41 z41 st41 hQ41
        subst l41 y41 z41
        obtain ⟨rfl, N41q, eq41⟩ := hQ41
        have N41 := Fr.app N0 N41q
        rw [show (fPick (2 : Int32) w1 w2 w3) = w3 from (by first | rfl | simp [fPick])] at st41
        refine Rch.go st41 ?_
        show Rch _ _ _ _ (T41.setTop (mkF m 18 #[.val (.int p1), .val (.int p2), .val (.int (2 : Int32)), .val (.int (2 : Int32)), .unset, .unset, .unset, .unset] [(.ref w3)]))
        refine Rch.go (fun zt zk => XS.astore X41.here hx rfl (hb hby at_18) rfl rfl (l' := #[.val (.int p1), .val (.int p2), .val (.int (2 : Int32)), .val (.int (2 : Int32)), .val (.ref w3), .unset, .unset, .unset]) rfl zk) ?_
        show Rch _ _ _ _ (T41.setTop (mkF m 20 #[.val (.int p1), .val (.int p2), .val (.int (2 : Int32)), .val (.int (2 : Int32)), .val (.ref w3), .unset, .unset, .unset] []))
        refine Rch.go (fun zt zk => XS.iloadN X41.here hx rfl (hb hby at_20) rfl zk) ?_
        show Rch _ _ _ _ (T41.setTop (mkF m 21 #[.val (.int p1), .val (.int p2), .val (.int (2 : Int32)), .val (.int (2 : Int32)), .val (.ref w3), .unset, .unset, .unset] [(.int (2 : Int32))]))
        obtain ⟨_, _, ⟨T42, L42, k42, n42⟩, -, X42, ⟨Lc42, hQ42, l42, y42, z42⟩, st42⟩ := Jvm.LawKit.callS X41 hx (y := (⟨"com/example/consistometer/consistometer/analysis/VerdictAndPinLaw", "ofRank", "(I)Lcom/example/consistometer/consistometer/analysis/Property$Verdict;"⟩ : MethodName)) hown (mvT hZ (ow1 hw)) (mvT hZ (ow2 hw)) (mvT hZ (ow3 hw)) (mvT hZ (ow4 hw)) (by decide) (backOf (W := 0) (rm1 l Z a0 hw [] ((2 : Int32)) (w1) (w2) (w3) h0 n0 Z0 (S0) (S1) (S2)) hZ (ow4 hw) (ow3 hw) (by decide) (by decide)) (g := (mkF m 21 #[.val (.int p1), .val (.int p2), .val (.int (2 : Int32)), .val (.int (2 : Int32)), .val (.ref w3), .unset, .unset, .unset] [(.int (2 : Int32))])) rfl (by rw [hml]; rfl) (argsL := [(.int (2 : Int32))]) (rest := []) (lenOf pd__I_Lcom_example_consistometer_consistometer_analysis_Property_Verdict_ rfl) rfl (by show 2 * 0 + _ ≤ _; exact Nat.le_of_eq rfl) (hb hby at_21) (fun _ _ => ⟨rfl, eq41, (by decide : 0 + 0 ≤ _), (by decide : 0 + 0 ≤ _)⟩)
        dsimp only [Pt.U, Pt.locs, Pt.cells, Pt.slots] at X42 l42 y42 z42 st42 hQ42
        subst l42 y42 z42
        obtain ⟨rfl, N42q, eq42⟩ := hQ42
        have N42 := Fr.app N41 N42q
        rw [show (fPick (2 : Int32) w1 w2 w3) = w3 from (by first | rfl | simp [fPick])] at st42
        refine Rch.go st42 ?_
        show Rch _ _ _ _ (T42.setTop (mkF m 24 #[.val (.int p1), .val (.int p2), .val (.int (2 : Int32)), .val (.int (2 : Int32)), .val (.ref w3), .unset, .unset, .unset] [(.ref w3)]))
        refine Rch.go (fun zt zk => XS.astore X42.here hx rfl (hb hby at_24) rfl rfl (l' := #[.val (.int p1), .val (.int p2), .val (.int (2 : Int32)), .val (.int (2 : Int32)), .val (.ref w3), .val (.ref w3), .unset, .unset]) rfl zk) ?_
        show Rch _ _ _ _ (T42.setTop (mkF m 26 #[.val (.int p1), .val (.int p2), .val (.int (2 : Int32)), .val (.int (2 : Int32)), .val (.ref w3), .val (.ref w3), .unset, .unset] []))
        refine Rch.go (fun zt zk => XS.iloadN X42.here hx rfl (hb hby at_26) rfl zk) ?_
        show Rch _ _ _ _ (T42.setTop (mkF m 27 #[.val (.int p1), .val (.int p2), .val (.int (2 : Int32)), .val (.int (2 : Int32)), .val (.ref w3), .val (.ref w3), .unset, .unset] [(.int (2 : Int32))]))
        refine Rch.go (fun zt zk => XS.iloadN X42.here hx rfl (hb hby at_27) rfl zk) ?_
        show Rch _ _ _ _ (T42.setTop (mkF m 28 #[.val (.int p1), .val (.int p2), .val (.int (2 : Int32)), .val (.int (2 : Int32)), .val (.ref w3), .val (.ref w3), .unset, .unset] [(.int (2 : Int32)), (.int (2 : Int32))]))
        obtain ⟨_, _, ⟨T43, L43, k43, n43⟩, -, X43, ⟨Lc43, hQ43, l43, y43, z43⟩, st43⟩ := Jvm.LawKit.callS X42 hx (y := (⟨"java/lang/Math", "max", "(II)I"⟩ : MethodName)) hown (mvT hZ (ow8 hw)) (mvT hZ (ow9 hw)) (mvT hZ (ow10 hw)) (mvT hZ (ow11 hw)) (by decide) (backOf (W := 0) (rm2 l Z a0 hw [] (2 : Int32) (2 : Int32) h0 n0 Z0 ) hZ (ow11 hw) (ow10 hw) (by decide) (by decide)) (g := (mkF m 28 #[.val (.int p1), .val (.int p2), .val (.int (2 : Int32)), .val (.int (2 : Int32)), .val (.ref w3), .val (.ref w3), .unset, .unset] [(.int (2 : Int32)), (.int (2 : Int32))])) rfl (by rw [hml]; rfl) (argsL := [(.int (2 : Int32)), (.int (2 : Int32))]) (rest := []) (lenOf pd__II_I rfl) rfl (by show 2 * 0 + _ ≤ _; exact Nat.le_of_eq rfl) (hb hby at_28) (fun _ _ => ⟨rfl, eq42, (by decide : 0 + 0 ≤ _), (by decide : 0 + 0 ≤ _)⟩)
        dsimp only [Pt.U, Pt.locs, Pt.cells, Pt.slots] at X43 l43 y43 z43 st43 hQ43
        subst l43 y43 z43
        obtain ⟨rfl, N43q, eq43⟩ := hQ43
        have N43 := Fr.app N42 N43q
        rw [show (fMax (2 : Int32) (2 : Int32)) = (2 : Int32) from (by decide)] at st43
        refine Rch.go st43 ?_
        show Rch _ _ _ _ (T43.setTop (mkF m 31 #[.val (.int p1), .val (.int p2), .val (.int (2 : Int32)), .val (.int (2 : Int32)), .val (.ref w3), .val (.ref w3), .unset, .unset] [(.int (2 : Int32))]))
        obtain ⟨_, _, ⟨T44, L44, k44, n44⟩, -, X44, ⟨Lc44, hQ44, l44, y44, z44⟩, st44⟩ := Jvm.LawKit.callS X43 hx (y := (⟨"com/example/consistometer/consistometer/analysis/VerdictAndPinLaw", "ofRank", "(I)Lcom/example/consistometer/consistometer/analysis/Property$Verdict;"⟩ : MethodName)) hown (mvT hZ (ow1 hw)) (mvT hZ (ow2 hw)) (mvT hZ (ow3 hw)) (mvT hZ (ow4 hw)) (by decide) (backOf (W := 0) (rm1 l Z a0 hw [] ((2 : Int32)) (w1) (w2) (w3) h0 n0 Z0 (S0) (S1) (S2)) hZ (ow4 hw) (ow3 hw) (by decide) (by decide)) (g := (mkF m 31 #[.val (.int p1), .val (.int p2), .val (.int (2 : Int32)), .val (.int (2 : Int32)), .val (.ref w3), .val (.ref w3), .unset, .unset] [(.int (2 : Int32))])) rfl (by rw [hml]; rfl) (argsL := [(.int (2 : Int32))]) (rest := []) (lenOf pd__I_Lcom_example_consistometer_consistometer_analysis_Property_Verdict_ rfl) rfl (by show 2 * 0 + _ ≤ _; exact Nat.le_of_eq rfl) (hb hby at_31) (fun _ _ => ⟨rfl, eq43, (by decide : 0 + 0 ≤ _), (by decide : 0 + 0 ≤ _)⟩)
        dsimp only [Pt.U, Pt.locs, Pt.cells, Pt.slots] at X44 l44 y44 z44 st44 hQ44
        subst l44 y44 z44
        obtain ⟨rfl, N44q, eq44⟩ := hQ44
        have N44 := Fr.app N43 N44q
        rw [show (fPick (2 : Int32) w1 w2 w3) = w3 from (by first | rfl | simp [fPick])] at st44
        refine Rch.go st44 ?_
        show Rch _ _ _ _ (T44.setTop (mkF m 34 #[.val (.int p1), .val (.int p2), .val (.int (2 : Int32)), .val (.int (2 : Int32)), .val (.ref w3), .val (.ref w3), .unset, .unset] [(.ref w3)]))
        refine Rch.go (fun zt zk => XS.astore X44.here hx rfl (hb hby at_34) rfl rfl (l' := #[.val (.int p1), .val (.int p2), .val (.int (2 : Int32)), .val (.int (2 : Int32)), .val (.ref w3), .val (.ref w3), .val (.ref w3), .unset]) rfl zk) ?_
        show Rch _ _ _ _ (T44.setTop (mkF m 36 #[.val (.int p1), .val (.int p2), .val (.int (2 : Int32)), .val (.int (2 : Int32)), .val (.ref w3), .val (.ref w3), .val (.ref w3), .unset] []))
        refine Rch.go (fun zt zk => XS.aload X44.here hx rfl (hb hby at_36) rfl rfl zk) ?_
        show Rch _ _ _ _ (T44.setTop (mkF m 38 #[.val (.int p1), .val (.int p2), .val (.int (2 : Int32)), .val (.int (2 : Int32)), .val (.ref w3), .val (.ref w3), .val (.ref w3), .unset] [(.ref w3)]))
        refine Rch.go (fun zt zk => XS.aload X44.here hx rfl (hb hby at_38) rfl rfl zk) ?_
        show Rch _ _ _ _ (T44.setTop (mkF m 40 #[.val (.int p1), .val (.int p2), .val (.int (2 : Int32)), .val (.int (2 : Int32)), .val (.ref w3), .val (.ref w3), .val (.ref w3), .unset] [(.ref w3), (.ref w3)]))
        obtain ⟨cq45, kq45, q45a, q45b, q45c⟩ := isOf hZ eq44 E2
        obtain ⟨_, _, ⟨T45, L45, k45, n45⟩, -, X45, ⟨Lc45, hQ45, l45, y45, z45⟩, st45⟩ := X44.virtualBack hx (y := (⟨"com/example/consistometer/consistometer/analysis/Property$Verdict", "and", "(Lcom/example/consistometer/consistometer/analysis/Property$Verdict;)Lcom/example/consistometer/consistometer/analysis/Property$Verdict;"⟩ : MethodName)) (z := (⟨"com/example/consistometer/consistometer/analysis/Property$Verdict", "and", "(Lcom/example/consistometer/consistometer/analysis/Property$Verdict;)Lcom/example/consistometer/consistometer/analysis/Property$Verdict;"⟩ : MethodName)) hown (mvT hZ (ow12 hw)) (mvT hZ (ow13 hw)) (notFace_of_selects (args := #[]) (mvT hZ (ow15 hw))) (mvT hZ (ow15 hw)) (mvT hZ (ow14 hw)) (by decide) (backOf (W := 0) (rm3 l Z a0 hw [] (w3) (w3) (w1) (w2) (w3) h0 n0 Z0 (S0) (S1) (S2)) hZ (ow16 hw) (ow6 hw) (by decide) (by decide)) q45a q45c (g := (mkF m 40 #[.val (.int p1), .val (.int p2), .val (.int (2 : Int32)), .val (.int (2 : Int32)), .val (.ref w3), .val (.ref w3), .val (.ref w3), .unset] [(.ref w3), (.ref w3)])) rfl (by rw [hml]; rfl) (Steps.refl _) (argsL := [(.ref w3)]) (rest := []) (lenOf pd__Lcom_example_consistometer_consistometer_analysis_Property_Verdict__Lcom_example_consistometer_consistometer_analysis_Property_Verdict_ rfl) rfl (by show 2 * 0 + _ ≤ _; exact Nat.le_of_eq rfl) (hb hby at_40) (fun _ _ => ⟨rfl, eq44, (by decide : 0 + 0 ≤ _), (by decide : 0 + 0 ≤ _)⟩)
        dsimp only [Pt.U, Pt.locs, Pt.cells, Pt.slots] at X45 l45 y45 z45 st45 hQ45
        subst l45 y45 z45
        obtain ⟨rfl, N45q, eq45⟩ := hQ45
        have N45 := Fr.app N44 N45q
        rw [show (fOp w3 w3 w1 w2 w3) = w3 from (by simp [fOp, n12, n13, n23, n12.symm, n13.symm, n23.symm])] at st45
        refine Rch.go (fun zt zk => st45.trans zk) ?_
        show Rch _ _ _ _ (T45.setTop (mkF m 43 #[.val (.int p1), .val (.int p2), .val (.int (2 : Int32)), .val (.int (2 : Int32)), .val (.ref w3), .val (.ref w3), .val (.ref w3), .unset] [(.ref w3)]))
        refine Rch.go (fun zt zk => XS.astore X45.here hx rfl (hb hby at_43) rfl rfl (l' := #[.val (.int p1), .val (.int p2), .val (.int (2 : Int32)), .val (.int (2 : Int32)), .val (.ref w3), .val (.ref w3), .val (.ref w3), .val (.ref w3)]) rfl zk) ?_
        show Rch _ _ _ _ (T45.setTop (mkF m 45 #[.val (.int p1), .val (.int p2), .val (.int (2 : Int32)), .val (.int (2 : Int32)), .val (.ref w3), .val (.ref w3), .val (.ref w3), .val (.ref w3)] []))
        refine Rch.go (fun zt zk => XS.aload X45.here hx rfl (hb hby at_45) rfl rfl zk) ?_
        show Rch _ _ _ _ (T45.setTop (mkF m 47 #[.val (.int p1), .val (.int p2), .val (.int (2 : Int32)), .val (.int (2 : Int32)), .val (.ref w3), .val (.ref w3), .val (.ref w3), .val (.ref w3)] [(.ref w3)]))
        refine Rch.go (fun zt zk => XS.aload X45.here hx rfl (hb hby at_47) rfl rfl zk) ?_
        show Rch _ _ _ _ (T45.setTop (mkF m 49 #[.val (.int p1), .val (.int p2), .val (.int (2 : Int32)), .val (.int (2 : Int32)), .val (.ref w3), .val (.ref w3), .val (.ref w3), .val (.ref w3)] [(.ref w3), (.ref w3)]))
        refine Rch.go (fun zt zk => Jvm.RoadKit.acmp (g := (mkF m 49 #[.val (.int p1), .val (.int p2), .val (.int (2 : Int32)), .val (.int (2 : Int32)), .val (.ref w3), .val (.ref w3), .val (.ref w3), .val (.ref w3)] [(.ref w3), (.ref w3)])) X45 hx rfl rfl rfl (pc0 := 49) (pc' := 52) (same := true) rfl (hb hby at_49) rfl (decide_eq_true rfl) (by decide) (by decide) zk) ?_
        show Rch _ _ _ _ (T45.setTop (mkF m 52 #[.val (.int p1), .val (.int p2), .val (.int (2 : Int32)), .val (.int (2 : Int32)), .val (.ref w3), .val (.ref w3), .val (.ref w3), .val (.ref w3)] []))
        refine Rch.go (fun zt zk => XS.iconst X45.here hx rfl (hb hby at_52) zk) ?_
        show Rch _ _ _ _ (T45.setTop (mkF m 53 #[.val (.int p1), .val (.int p2), .val (.int (2 : Int32)), .val (.int (2 : Int32)), .val (.ref w3), .val (.ref w3), .val (.ref w3), .val (.ref w3)] [(.int (1 : Int32))]))
        refine Rch.go (fun zt zk => XS.goto X45.here hx rfl (pc0 := 53) (pc' := 57) rfl (hb hby at_53) (by decide) (by decide) zk) ?_
        show Rch _ _ _ _ (T45.setTop (mkF m 57 #[.val (.int p1), .val (.int p2), .val (.int (2 : Int32)), .val (.int (2 : Int32)), .val (.ref w3), .val (.ref w3), .val (.ref w3), .val (.ref w3)] [(.int (1 : Int32))]))
        obtain ⟨fs, hr, hrun, hended, hW, hsame⟩ := X45.leave (v := some (.int (1 : Int32))) (fun h => by rw [Bd.returns] at h; cases h)
        refine Rch.mk (retN X45 hx (t := .boolean) Bd.returns (by simp) (hb hby at_57) hr) (hPd _ _ _ _ hrun hended rfl ?_ ⟨⟨_, rfl⟩, hW, hsame.mono (by decide) (by decide)⟩)
        show Q_rm0 Z p1 p2 w1 w2 w3 h0 n0 _ T45.heap _
        exact ⟨rfl, N45⟩
  refine Rch.go (fun zt zk => XS.iloadN X0.here hx rfl (hb hby at_0) rfl zk) ?_
  show Rch _ _ _ _ (s₁.setTop (mkF m 1 #[.val (.int p1), .val (.int p2), .unset, .unset, .unset, .unset, .unset, .unset] [(.int p1)]))
  refine Rch.go (X0.ldcInt hx hown (mvT hZ (ow0 hw)) (g := (mkF m 1 #[.val (.int p1), .val (.int p2), .unset, .unset, .unset, .unset, .unset, .unset] [(.int p1)])) rfl (hb hby at_1)) ?_
  show Rch _ _ _ _ (s₁.setTop (mkF m 3 #[.val (.int p1), .val (.int p2), .unset, .unset, .unset, .unset, .unset, .unset] [(.int (2147483647 : Int32)), (.int p1)]))
  refine Rch.go (fun zt zk => XS.iand X0.here hx rfl (hb hby at_3) rfl zk) ?_
  show Rch _ _ _ _ (s₁.setTop (mkF m 4 #[.val (.int p1), .val (.int p2), .unset, .unset, .unset, .unset, .unset, .unset] [(.int (p1 &&& (2147483647 : Int32)))]))
  refine Rch.go (fun zt zk => XS.iconst X0.here hx rfl (hb hby at_4) zk) ?_
  show Rch _ _ _ _ (s₁.setTop (mkF m 5 #[.val (.int p1), .val (.int p2), .unset, .unset, .unset, .unset, .unset, .unset] [(.int (3 : Int32)), (.int (p1 &&& (2147483647 : Int32)))]))
  refine Rch.go (fun zt zk => iremM X0 hx rfl (hb hby at_5) rfl (by decide : ¬ ((3 : Int32) = (0 : Int32))) zk) ?_
  show Rch _ _ _ _ (s₁.setTop (mkF m 6 #[.val (.int p1), .val (.int p2), .unset, .unset, .unset, .unset, .unset, .unset] [(.int ((p1 &&& (2147483647 : Int32)) % (3 : Int32)))]))
  refine Rch.go (fun zt zk => XS.istoreN X0.here hx rfl (hb hby at_6) rfl (l' := #[.val (.int p1), .val (.int p2), .val (.int ((p1 &&& (2147483647 : Int32)) % (3 : Int32))), .unset, .unset, .unset, .unset, .unset]) rfl zk) ?_
  show Rch _ _ _ _ (s₁.setTop (mkF m 7 #[.val (.int p1), .val (.int p2), .val (.int ((p1 &&& (2147483647 : Int32)) % (3 : Int32))), .unset, .unset, .unset, .unset, .unset] []))
  refine Rch.go (fun zt zk => XS.iloadN X0.here hx rfl (hb hby at_7) rfl zk) ?_
  show Rch _ _ _ _ (s₁.setTop (mkF m 8 #[.val (.int p1), .val (.int p2), .val (.int ((p1 &&& (2147483647 : Int32)) % (3 : Int32))), .unset, .unset, .unset, .unset, .unset] [(.int p2)]))
  refine Rch.go (X0.ldcInt hx hown (mvT hZ (ow0 hw)) (g := (mkF m 8 #[.val (.int p1), .val (.int p2), .val (.int ((p1 &&& (2147483647 : Int32)) % (3 : Int32))), .unset, .unset, .unset, .unset, .unset] [(.int p2)])) rfl (hb hby at_8)) ?_
  show Rch _ _ _ _ (s₁.setTop (mkF m 10 #[.val (.int p1), .val (.int p2), .val (.int ((p1 &&& (2147483647 : Int32)) % (3 : Int32))), .unset, .unset, .unset, .unset, .unset] [(.int (2147483647 : Int32)), (.int p2)]))
  refine Rch.go (fun zt zk => XS.iand X0.here hx rfl (hb hby at_10) rfl zk) ?_
  show Rch _ _ _ _ (s₁.setTop (mkF m 11 #[.val (.int p1), .val (.int p2), .val (.int ((p1 &&& (2147483647 : Int32)) % (3 : Int32))), .unset, .unset, .unset, .unset, .unset] [(.int (p2 &&& (2147483647 : Int32)))]))
  refine Rch.go (fun zt zk => XS.iconst X0.here hx rfl (hb hby at_11) zk) ?_
  show Rch _ _ _ _ (s₁.setTop (mkF m 12 #[.val (.int p1), .val (.int p2), .val (.int ((p1 &&& (2147483647 : Int32)) % (3 : Int32))), .unset, .unset, .unset, .unset, .unset] [(.int (3 : Int32)), (.int (p2 &&& (2147483647 : Int32)))]))
  refine Rch.go (fun zt zk => iremM X0 hx rfl (hb hby at_12) rfl (by decide : ¬ ((3 : Int32) = (0 : Int32))) zk) ?_
  show Rch _ _ _ _ (s₁.setTop (mkF m 13 #[.val (.int p1), .val (.int p2), .val (.int ((p1 &&& (2147483647 : Int32)) % (3 : Int32))), .unset, .unset, .unset, .unset, .unset] [(.int ((p2 &&& (2147483647 : Int32)) % (3 : Int32)))]))
  refine Rch.go (fun zt zk => XS.istoreN X0.here hx rfl (hb hby at_13) rfl (l' := #[.val (.int p1), .val (.int p2), .val (.int ((p1 &&& (2147483647 : Int32)) % (3 : Int32))), .val (.int ((p2 &&& (2147483647 : Int32)) % (3 : Int32))), .unset, .unset, .unset, .unset]) rfl zk) ?_
  show Rch _ _ _ _ (s₁.setTop (mkF m 14 #[.val (.int p1), .val (.int p2), .val (.int ((p1 &&& (2147483647 : Int32)) % (3 : Int32))), .val (.int ((p2 &&& (2147483647 : Int32)) % (3 : Int32))), .unset, .unset, .unset, .unset] []))
  exact j14 _ _ (own_three _) (own_three _)
set_option maxRecDepth 65536 in
set_option maxHeartbeats 40000000 in
theorem comes_1 {Post : Tables → Env → Array Value → State → Outcome → State → Prop} (hpost : ∀ tb e args s v u, (limb_1_1.after args s (.returned v) u = true ∧ limb_1_2.after args s (.returned v) u = true ∧ True) → FrameEnd s (.returned v) u (Jvm.fieldLocs frame_1_writes args s ++ Jvm.arrayLocs frame_1_arrays args s ++ Jvm.staticLocs frame_1_statics s) 0 0 → Post tb e args s (.returned v) u) :
    ArmFor flags0 classFile x code maxLocals ret World_1 tables_1 room_1 Calls_1 rest_1 Pre_1 Post := by
  intro l hfl _ _ p e ha hc hk s m args below hf hA hF happ hP
  obtain ⟨hcalls, hrest, hpre⟩ := hP
  obtain ⟨-, -, -, hnamed, -, -, -, hat⟩ := (Spec.applies_iff hf).mp happ
  obtain ⟨hg, hn⟩ := and_e (Cond.before_iff.mp (show (Jvm.Cond.and given_1 narrow_1).before args s = true from hpre))
  obtain ⟨g1, g2⟩ := and_e hg
  obtain ⟨ga0, gb0⟩ := and_e g2
  obtain ⟨w0, w1, rfl⟩ : ∃ w0 w1 : Value, args = #[w0, w1] := by
    have hs : args.size = 2 := by simpa [Cond.value, given_1] using g1
    obtain ⟨L⟩ := args
    match L, hs with
    | [w0, w1], _ => exact ⟨w0, w1, rfl⟩
  have hw := fun d (hd : d ∈ tables_1) => atoms_spec (ws := Jvm.Cond.code x code maxLocals ret :: tables_1) hat d (List.mem_cons_of_mem _ hd)
  have hfit : Fit s := fun {y c} hc i hi => by
    obtain ⟨ha, rfl⟩ := Array.getElem?_eq_some_iff.mp hc
    have q := List.all_eq_true.mp ((Array.all_eq_true_iff_forall_mem.mp hF) _ (Array.getElem_mem ha)) i (List.mem_range.mpr hi)
    simpa [Array.getElem?_eq_getElem hi] using q
  obtain ⟨i0, ei0⟩ := is_v ga0
  obtain rfl : w0 = (.int i0) := Option.some.inj ei0
  obtain ⟨i1, ei1⟩ := is_v gb0
  obtain rfl : w1 = (.int i1) := Option.some.inj ei1
  obtain ⟨hna, hnb⟩ := and_e hn
  obtain ⟨hnba, hnbb⟩ := and_e hnb
  obtain ⟨hnbba, hnbbb⟩ := and_e hnbb
  obtain ⟨hnbbba, hnbbbb⟩ := and_e hnbbb
  obtain ⟨hnbbbba, hnbbbbb⟩ := and_e hnbbbb
  obtain ⟨b0, ev0⟩ := exa_v hna
  have T0 := Sta.start ev0 (Or.inr ⟨(ow6 hw), (ow7 hw)⟩)
  have U0 := Exa.start ev0 hna
  have G0 := own_fld ev0 hnbba
  obtain ⟨b1, ev1⟩ := exa_v hnbbbba
  have T1 := Sta.start ev1 (Or.inr ⟨(ow6 hw), (ow20 hw)⟩)
  have U1 := Exa.start ev1 hnbbbba
  have G1 := own_fld ev1 hnbbbbb
  obtain ⟨b2, ev2⟩ := exa_v hnba
  have T2 := Sta.start ev2 (Or.inr ⟨(ow6 hw), (ow18 hw)⟩)
  have U2 := Exa.start ev2 hnba
  have G2 := own_fld ev2 hnbbba
  obtain ⟨n, o, h1, h2, h3, _, L, rfl, ⟨rfl, N⟩, hq⟩ := rm0 l s _ hw tables_1 i0 i1 b0 b1 b2 s.heap s.heap.size (Nat.le_refl _) T0 T1 T2 U0 U1 U2 G0 G1 G2 p e ha hc hk s m _ below hf ((Spec.applies_iff_loose hf).mp happ).1 ⟨rfl, State.Warmed39.refl s, rfl⟩ trivial
  refine ⟨n, _, h1, h2, h3, hpost _ _ _ _ _ _ ⟨Cond.after_iff.mpr rfl, Cond.after_iff.mpr (eq_i res_at (Term.int_eval (1)) rfl), trivial⟩ ⟨hq.1, hq.2.1, (hq.2.2.sift fun y hy => Or.inr (N y hy)).mono (by decide) (by decide)⟩⟩
theorem main_1_1 : Claimed_1_1 := comes_1 fun _ _ _ _ _ _ h hF => ⟨h.1, hF⟩
theorem main_1_2 : Claimed_1_2 := comes_1 fun _ _ _ _ _ _ h hF => ⟨h.2.1, hF⟩
end Jvm.Pilot.@@N@@
namespace Jvm.Pilot.@@N@@
open Jvm Jvm.ClassFile Sem Op Lib Jvm.Free Jvm.Stand Jvm.Pilot.@@N@@.Jvm.D
/-! MADE BY PROGRAM (witnessworld.py) out of the Statement's table words and the real class files: 13 classes; the members and pool entries that the words name. The judged class is class 1, her method 1. -/
namespace start1
open Jvm.ClassFile
def u (s : String) : CpInfo := .utf8 (stringToUtf16 s)
/-- a pool by its gaps: so many unusable entries, then the entry; so many at the end -/
def gap : Nat → List CpInfo → List CpInfo
  | 0, r => r
  | n + 1, r => .unusable :: gap n r
def poolList (es : List (Nat × CpInfo)) (last : Nat) : List CpInfo := es.foldr (fun e r => gap e.1 (e.2 :: r)) (gap last [])
def pool (es : List (Nat × CpInfo)) (last : Nat) : Array CpInfo := ⟨poolList es last⟩
def fileOf (pool : Array CpInfo) (this : Nat) (attrs : Array Attribute := #[]) (ms : Array MethodInfo := #[]) (fl : Nat := 33) (sup : Nat := 0) (ifs : Array Nat := #[]) (fds : Array FieldInfo := #[]) : ClassFile where
  minorVersion := 0
  majorVersion := 65
  constantPool := pool
  accessFlags := fl
  thisClass := this
  superClass := sup
  interfaces := ifs
  fields := fds
  methods := ms
  attributes := attrs
def plain (name : String) (sup : Option ClassId) : Class where
  name := name
  kind := .ordinary
  loader := none
  accessFlags := 33
  super := sup
  interfaces := #[]
  cf := none
  fields := #[]
  methods := #[]
  instanceTypes := #[]
  staticTypes := #[]
  resolved := #[]
  callSites := []
  init := .initialized
  statics := none
  mirror := none

def pool0 : Array CpInfo := pool [(5, u "<init>"), (0, u "()V"), (1, .class_ 10), (1, u "java/lang/Object")] 113

def k0m0 : Method := { name := "<init>", desc := "()V", sig := { parameters := [], returnType := none }, accessFlags := 1, code := none }
/-- java/lang/Object -/
def k0 : Class := { plain "java/lang/Object" none with
  accessFlags := 33
  interfaces := #[]
  cf := some (fileOf pool0 8 #[] #[{ accessFlags := 1, nameIndex := 5, descriptorIndex := 6, attributes := #[] }] 33 0 #[] #[])
  fields := #[]
  methods := #[k0m0]
  instanceTypes := #[]
  staticTypes := #[]
  resolved := Array.replicate 124 none
  statics := none }

def pool1 : Array CpInfo := pool [(2, .class_ 4), (1, u "java/lang/Object"), (0, u "<init>"), (0, u "()V"), (0, .integer 2147483647), (0, .methodref 9 10), (0, .class_ 11), (0, .nameAndType 12 13), (0, u "com/example/consistometer/consistometer/analysis/VerdictAndPinLaw"), (0, u "ofRank"), (0, u "(I)Lcom/example/consistometer/consistometer/analysis/Property$Verdict;"), (0, .methodref 15 16), (0, .class_ 17), (0, .nameAndType 18 19), (0, u "java/lang/Math"), (0, u "max"), (0, u "(II)I"), (0, .methodref 21 22), (0, .class_ 23), (0, .nameAndType 24 25), (0, u "com/example/consistometer/consistometer/analysis/Property$Verdict"), (0, u "and"), (0, u "(Lcom/example/consistometer/consistometer/analysis/Property$Verdict;)Lcom/example/consistometer/consistometer/analysis/Property$Verdict;"), (0, .fieldref 21 27), (0, .nameAndType 28 29), (0, u "HOLDS"), (0, u "Lcom/example/consistometer/consistometer/analysis/Property$Verdict;"), (0, .fieldref 21 31), (0, .nameAndType 32 29), (0, u "UNDECIDED"), (0, .fieldref 21 34), (0, .nameAndType 35 29), (0, u "VIOLATED"), (2, u "law"), (0, u "(II)Z")] 7

def k1m0 : Method := { name := "<init>", desc := "()V", sig := { parameters := [], returnType := none }, accessFlags := 1, code := none }
def k1c1 : Code := { maxStack := 2, maxLocals := 8, code := code, exceptionTable := #[], attributes := #[] }
def k1m1 : Method := { name := "law", desc := "(II)Z", sig := { parameters := [.int, .int], returnType := some .boolean }, accessFlags := 9, code := some k1c1 }
def k1c2 : Code := { maxStack := 2, maxLocals := 1, code := method_3_code, exceptionTable := #[], attributes := #[] }
def k1m2 : Method := { name := "ofRank", desc := "(I)Lcom/example/consistometer/consistometer/analysis/Property$Verdict;", sig := { parameters := [.int], returnType := some (.object "com/example/consistometer/consistometer/analysis/Property$Verdict") }, accessFlags := 10, code := some k1c2 }
/-- com/example/consistometer/consistometer/analysis/VerdictAndPinLaw -/
def k1 : Class := { plain "com/example/consistometer/consistometer/analysis/VerdictAndPinLaw" (some 0) with
  accessFlags := 49
  interfaces := #[]
  cf := some (fileOf pool1 9 #[] #[{ accessFlags := 1, nameIndex := 5, descriptorIndex := 6, attributes := #[] }, { accessFlags := 9, nameIndex := 38, descriptorIndex := 39, attributes := #[] }, { accessFlags := 10, nameIndex := 12, descriptorIndex := 13, attributes := #[] }] 49 2 #[] #[])
  fields := #[]
  methods := #[k1m0, k1m1, k1m2]
  instanceTypes := #[]
  staticTypes := #[]
  resolved := Array.replicate 47 none
  statics := none }

def pool2 : Array CpInfo := pool [(1, .class_ 2), (0, u "java/lang/constant/Constable"), (0, .class_ 4), (0, u "java/lang/Object")] 6

/-- java/lang/constant/Constable -/
def k2 : Class := { plain "java/lang/constant/Constable" (some 0) with
  accessFlags := 1537
  interfaces := #[]
  cf := some (fileOf pool2 1 #[] #[] 1537 3 #[] #[])
  fields := #[]
  methods := #[]
  instanceTypes := #[]
  staticTypes := #[]
  resolved := Array.replicate 11 none
  statics := none }

def pool3 : Array CpInfo := pool [(1, .class_ 2), (0, u "java/lang/Comparable"), (0, .class_ 4), (0, u "java/lang/Object")] 7

/-- java/lang/Comparable -/
def k3 : Class := { plain "java/lang/Comparable" (some 0) with
  accessFlags := 1537
  interfaces := #[]
  cf := some (fileOf pool3 1 #[] #[] 1537 3 #[] #[])
  fields := #[]
  methods := #[]
  instanceTypes := #[]
  staticTypes := #[]
  resolved := Array.replicate 12 none
  statics := none }

def pool4 : Array CpInfo := pool [(1, .class_ 2), (0, u "java/io/Serializable"), (0, .class_ 4), (0, u "java/lang/Object")] 2

/-- java/io/Serializable -/
def k4 : Class := { plain "java/io/Serializable" (some 0) with
  accessFlags := 1537
  interfaces := #[]
  cf := some (fileOf pool4 1 #[] #[] 1537 3 #[] #[])
  fields := #[]
  methods := #[]
  instanceTypes := #[]
  staticTypes := #[]
  resolved := Array.replicate 7 none
  statics := none }

def pool5 : Array CpInfo := pool [(2, .class_ 4), (1, u "java/lang/Enum"), (0, u "name"), (0, u "Ljava/lang/String;"), (2, u "ordinal"), (0, u "I"), (1, .class_ 14), (1, u "java/lang/Object"), (4, u "hash"), (86, .class_ 108), (1, u "java/lang/Enum$EnumDesc"), (2, .class_ 112), (0, u "java/lang/constant/Constable"), (0, .class_ 114), (0, u "java/lang/Comparable"), (0, .class_ 116), (0, u "java/io/Serializable")] 87

/-- java/lang/Enum -/
def k5 : Class := { plain "java/lang/Enum" (some 0) with
  accessFlags := 1057
  interfaces := #[2, 3, 4]
  cf := some (fileOf pool5 2 #[.nestMembers #[106]] #[] 1057 12 #[111, 113, 115] #[{ accessFlags := 18, nameIndex := 5, descriptorIndex := 6, attributes := #[] }, { accessFlags := 18, nameIndex := 9, descriptorIndex := 10, attributes := #[] }, { accessFlags := 2, nameIndex := 19, descriptorIndex := 10, attributes := #[] }])
  fields := #[{ name := "name", type := (.object "java/lang/String"), accessFlags := 18, slot := 0, constantValue := 0 }, { name := "ordinal", type := .int, accessFlags := 18, slot := 1, constantValue := 0 }, { name := "hash", type := .int, accessFlags := 2, slot := 2, constantValue := 0 }]
  methods := #[]
  instanceTypes := #[(.object "java/lang/String"), .int, .int]
  staticTypes := #[]
  resolved := Array.replicate 204 none
  statics := none }

def pool6 : Array CpInfo := pool [(1, .class_ 2), (0, u "com/example/consistometer/consistometer/analysis/Property$Verdict"), (0, .fieldref 1 4), (0, .nameAndType 5 6), (0, u "HOLDS"), (0, u "Lcom/example/consistometer/consistometer/analysis/Property$Verdict;"), (0, .fieldref 1 8), (0, .nameAndType 9 6), (0, u "VIOLATED"), (0, .fieldref 1 11), (0, .nameAndType 12 6), (0, u "UNDECIDED"), (2, u "$VALUES"), (0, u "[Lcom/example/consistometer/consistometer/analysis/Property$Verdict;"), (6, .class_ 25), (1, u "java/lang/Enum"), (24, u "and"), (0, u "(Lcom/example/consistometer/consistometer/analysis/Property$Verdict;)Lcom/example/consistometer/consistometer/analysis/Property$Verdict;"), (5, .class_ 58), (0, u "com/example/consistometer/consistometer/analysis/Property")] 2

def k6c0 : Code := { maxStack := 2, maxLocals := 3, code := prog_83_method_5_code, exceptionTable := #[], attributes := #[] }
def k6m0 : Method := { name := "and", desc := "(Lcom/example/consistometer/consistometer/analysis/Property$Verdict;)Lcom/example/consistometer/consistometer/analysis/Property$Verdict;", sig := { parameters := [(.object "com/example/consistometer/consistometer/analysis/Property$Verdict")], returnType := some (.object "com/example/consistometer/consistometer/analysis/Property$Verdict") }, accessFlags := 1, code := some k6c0 }
/-- com/example/consistometer/consistometer/analysis/Property$Verdict -/
def k6 : Class := { plain "com/example/consistometer/consistometer/analysis/Property$Verdict" (some 5) with
  accessFlags := 16433
  interfaces := #[]
  cf := some (fileOf pool6 1 #[.nestHost 57] #[{ accessFlags := 1, nameIndex := 50, descriptorIndex := 51, attributes := #[] }] 16433 23 #[] #[{ accessFlags := 16409, nameIndex := 5, descriptorIndex := 6, attributes := #[] }, { accessFlags := 16409, nameIndex := 9, descriptorIndex := 6, attributes := #[] }, { accessFlags := 16409, nameIndex := 12, descriptorIndex := 6, attributes := #[] }, { accessFlags := 4122, nameIndex := 15, descriptorIndex := 16, attributes := #[] }])
  fields := #[{ name := "HOLDS", type := (.object "com/example/consistometer/consistometer/analysis/Property$Verdict"), accessFlags := 16409, slot := 0, constantValue := 0 }, { name := "VIOLATED", type := (.object "com/example/consistometer/consistometer/analysis/Property$Verdict"), accessFlags := 16409, slot := 1, constantValue := 0 }, { name := "UNDECIDED", type := (.object "com/example/consistometer/consistometer/analysis/Property$Verdict"), accessFlags := 16409, slot := 2, constantValue := 0 }, { name := "$VALUES", type := (.array (.object "com/example/consistometer/consistometer/analysis/Property$Verdict")), accessFlags := 4122, slot := 3, constantValue := 0 }]
  methods := #[k6m0]
  instanceTypes := #[(.object "java/lang/String"), .int, .int]
  staticTypes := #[(.object "com/example/consistometer/consistometer/analysis/Property$Verdict"), (.object "com/example/consistometer/consistometer/analysis/Property$Verdict"), (.object "com/example/consistometer/consistometer/analysis/Property$Verdict"), (.array (.object "com/example/consistometer/consistometer/analysis/Property$Verdict"))]
  resolved := Array.replicate 61 none
  statics := some 0 }

def pool7 : Array CpInfo := pool [(1, .class_ 2), (0, u "java/lang/Math"), (1, .class_ 6), (1, u "java/lang/Object"), (0, u "<init>"), (0, u "()V"), (89, .class_ 100), (1, u "java/lang/Math$RandomNumberGeneratorHolder"), (71, u "negativeZeroFloatBits"), (0, u "J"), (2, u "negativeZeroDoubleBits"), (21, u "max"), (46, u "$assertionsDisabled"), (0, u "Z"), (88, u "(II)I"), (2, u "twoToTheDoubleScaleDown"), (0, u "D"), (4, u "twoToTheDoubleScaleUp"), (9, u "E"), (3, u "PI"), (2, u "TAU"), (2, u "DEGREES_TO_RADIANS"), (0, u "RADIANS_TO_DEGREES")] 94

def k7m0 : Method := { name := "<init>", desc := "()V", sig := { parameters := [], returnType := none }, accessFlags := 2, code := none }
def k7c1 : Code := { maxStack := 2, maxLocals := 2, code := jdk_29_method_65_code, exceptionTable := #[], attributes := #[] }
def k7m1 : Method := { name := "max", desc := "(II)I", sig := { parameters := [.int, .int], returnType := some .int }, accessFlags := 9, code := some k7c1 }
/-- java/lang/Math -/
def k7 : Class := { plain "java/lang/Math" (some 0) with
  accessFlags := 49
  interfaces := #[]
  cf := some (fileOf pool7 1 #[.nestMembers #[98]] #[{ accessFlags := 2, nameIndex := 7, descriptorIndex := 8, attributes := #[] }, { accessFlags := 9, nameIndex := 198, descriptorIndex := 335, attributes := #[] }] 49 4 #[] #[{ accessFlags := 25, nameIndex := 354, descriptorIndex := 339, attributes := #[] }, { accessFlags := 25, nameIndex := 358, descriptorIndex := 339, attributes := #[] }, { accessFlags := 25, nameIndex := 361, descriptorIndex := 339, attributes := #[] }, { accessFlags := 26, nameIndex := 364, descriptorIndex := 339, attributes := #[] }, { accessFlags := 26, nameIndex := 365, descriptorIndex := 339, attributes := #[] }, { accessFlags := 26, nameIndex := 172, descriptorIndex := 173, attributes := #[] }, { accessFlags := 26, nameIndex := 176, descriptorIndex := 173, attributes := #[] }, { accessFlags := 8, nameIndex := 344, descriptorIndex := 339, attributes := #[] }, { accessFlags := 8, nameIndex := 338, descriptorIndex := 339, attributes := #[] }, { accessFlags := 4120, nameIndex := 245, descriptorIndex := 246, attributes := #[] }])
  fields := #[{ name := "E", type := .double, accessFlags := 25, slot := 0, constantValue := 0 }, { name := "PI", type := .double, accessFlags := 25, slot := 1, constantValue := 0 }, { name := "TAU", type := .double, accessFlags := 25, slot := 2, constantValue := 0 }, { name := "DEGREES_TO_RADIANS", type := .double, accessFlags := 26, slot := 3, constantValue := 0 }, { name := "RADIANS_TO_DEGREES", type := .double, accessFlags := 26, slot := 4, constantValue := 0 }, { name := "negativeZeroFloatBits", type := .long, accessFlags := 26, slot := 5, constantValue := 0 }, { name := "negativeZeroDoubleBits", type := .long, accessFlags := 26, slot := 6, constantValue := 0 }, { name := "twoToTheDoubleScaleUp", type := .double, accessFlags := 8, slot := 7, constantValue := 0 }, { name := "twoToTheDoubleScaleDown", type := .double, accessFlags := 8, slot := 8, constantValue := 0 }, { name := "$assertionsDisabled", type := .boolean, accessFlags := 4120, slot := 9, constantValue := 0 }]
  methods := #[k7m0, k7m1]
  instanceTypes := #[]
  staticTypes := #[.double, .double, .double, .double, .double, .long, .long, .double, .double, .boolean]
  resolved := Array.replicate 460 none
  statics := none }

def pool8 : Array CpInfo := pool [(1, u "java/lang/Cloneable"), (0, .class_ 1), (0, u "java/lang/Object"), (0, .class_ 3)] 3

/-- java/lang/Cloneable -/
def k8 : Class := { plain "java/lang/Cloneable" (some 0) with
  accessFlags := 1537
  interfaces := #[]
  cf := some (fileOf pool8 2 #[] #[] 1537 4 #[] #[])
  fields := #[]
  methods := #[]
  instanceTypes := #[]
  staticTypes := #[]
  resolved := Array.replicate 8 none
  statics := none }

/-- the primitive byte -/
def k9 : Class := { plain "byte" none with kind := .primitive 'B', accessFlags := 0x411 }
/-- [B -/
def k10 : Class := { plain "[B" (some 0) with kind := .array 9 .byte, interfaces := #[8, 4], accessFlags := 1041 }

/-- the primitive int -/
def k11 : Class := { plain "int" none with kind := .primitive 'I', accessFlags := 0x411 }
/-- [I -/
def k12 : Class := { plain "[I" (some 0) with kind := .array 11 .int, interfaces := #[8, 4], accessFlags := 1041 }

def heap : Heap := #[{ cls := 6, slots := #[.ref 1, .ref 2, .ref 3, .null], vm := .statics 6 },
  { cls := 6, slots := #[.null, .int 0, .int 0], vm := .none },
  { cls := 6, slots := #[.null, .int 1, .int 0], vm := .none },
  { cls := 6, slots := #[.null, .int 2, .int 0], vm := .none }]
def classes : Array Class := #[k0, k1, k2, k3, k4, k5, k6, k7, k8, k9, k10, k11, k12]
def interned : List (Array UInt16 × Addr) := []
def slotsUsed : Nat := 13
def theMethod : MethodId := ⟨1, 1⟩
def args0 : Array Value := #[.int 0, .int 1]
def aboutOver (below : List Frame) : State where
  vm := { classes := classes, interned := interned.toArray }
  heap := heap
  slotsUsed := slotsUsed
  threads := #[{ frames := .invoking theMethod args0 :: below }]
def below0 : List Frame := [.native { method := ⟨0, 0⟩, args := #[] }]
def about1 : State := aboutOver below0
def p0 : Program := .bare "" "" ""
def e0 : Env := launch0.env 0 0 0
theorem w_frames : about1.frames = Frame.invoking theMethod args0 :: below0 := rfl
set_option maxRecDepth 65536 in
theorem w_args : argsFit about1.vm theMethod args0 = true := by decide +kernel
set_option maxRecDepth 65536 in
theorem w_heap : heapFits about1 = true := by decide +kernel
set_option maxRecDepth 65536 in
theorem w_runnable : about1.curStatus? = some .runnable := by decide +kernel
set_option maxRecDepth 65536 in
theorem w_alone : about1.alone = true := by decide +kernel
set_option maxRecDepth 65536 in
theorem w_named : about1.methodNamed? x = some theMethod := by decide +kernel
set_option maxRecDepth 65536 in
theorem w_hears : about1.hears theMethod below0 = true := by decide +kernel
set_option maxRecDepth 65536 in
theorem w_ripe : about1.ripe theMethod args0 below0 = true := by decide +kernel
theorem w_running : about1.status = .running := rfl
set_option maxRecDepth 65536 in
theorem w_room : about1.hasRoom e0.platform room_1 = true :=
  launch0.hasRoom_least _ room_1 (by decide +kernel) (by decide +kernel) (by decide +kernel) (by decide +kernel) (by decide +kernel) (by decide +kernel)
theorem allAtoms_all (ts : List Jvm.Cond) (a : Array Jvm.Value) (st : Jvm.State) : (allAtoms ts).before a st = ts.all (fun c => c.before a st) := by
  induction ts with
  | nil => rfl
  | cons c t ih =>
    show (Jvm.Cond.and c (allAtoms t)).before a st = _
    rw [Jvm.Cond.before_and, ih, List.all_cons]
def words1 : List Jvm.Cond := Jvm.Cond.code x code maxLocals ret :: tables_1
/-- a 'code' word, met by the world's own term for the bytes: nothing is compared byte by byte -/
theorem code_word {y : MethodName} {bytes : ByteArray} {mx : Nat} {rt : Option FieldType} {a : Array Value} {s : State} {m : MethodId} {meth : Method} {c : Code} (h1 : s.methodNamed? y = some m) (h2 : s.vm.method? m = some meth) (h3 : meth.code = some c) (h4 : c.code = bytes)
    (h5 : (c.maxLocals == mx && c.exceptionTable.isEmpty && decide (c.maxStack ≤ mostOperands) && decide (meth.sig.returnType = rt) && !meth.locks && decide (parseMethodDescriptor y.desc = some meth.sig)) = true) : (Jvm.Cond.code y bytes mx rt).before a s = true := by
  simp only [Bool.and_eq_true, beq_iff_eq, Bool.not_eq_true', decide_eq_true_eq] at h5
  obtain ⟨⟨⟨⟨⟨g1, g2⟩, g3⟩, g4⟩, g5⟩, g6⟩ := h5
  simp [Cond.before, Cond.holds, Cond.value, h1, h2, h3, h4, g1, g2, g3, g4, g5, g6]
def isCode : Jvm.Cond → Bool
  | .code _ _ _ _ => true
  | _ => false
theorem all_split {L : List Jvm.Cond} {P : Jvm.Cond → Bool} (h1 : L.all (fun c => isCode c || P c) = true) (h2 : ∀ c ∈ L.filter isCode, P c = true) : L.all P = true := by
  refine List.all_eq_true.mpr fun c hc => ?_
  have h := List.all_eq_true.mp h1 c hc
  rcases Bool.eq_false_or_eq_true (isCode c) with hi | hi
  · exact h2 c (List.mem_filter.mpr ⟨hc, hi⟩)
  · simpa [hi] using h
set_option maxRecDepth 65536 in
theorem w_c0 : (Jvm.Cond.code x code maxLocals ret).before args0 about1 = true := code_word (m := ⟨1, 1⟩) (meth := k1m1) (c := k1c1) (by decide +kernel) rfl rfl rfl (by decide +kernel)
set_option maxRecDepth 65536 in
theorem w_c1 : (Jvm.Cond.code ({ cls := "com/example/consistometer/consistometer/analysis/VerdictAndPinLaw", name := "ofRank", desc := "(I)Lcom/example/consistometer/consistometer/analysis/Property$Verdict;" } : Jvm.MethodName) method_3_code (1 : Nat) (Option.some (Jvm.ClassFile.FieldType.object "com/example/consistometer/consistometer/analysis/Property$Verdict"))).before args0 about1 = true := code_word (m := ⟨1, 2⟩) (meth := k1m2) (c := k1c2) (by decide +kernel) rfl rfl rfl (by decide +kernel)
set_option maxRecDepth 65536 in
theorem w_c2 : (Jvm.Cond.code ({ cls := "java/lang/Math", name := "max", desc := "(II)I" } : Jvm.MethodName) jdk_29_method_65_code (2 : Nat) (Option.some Jvm.ClassFile.FieldType.int)).before args0 about1 = true := code_word (m := ⟨7, 1⟩) (meth := k7m1) (c := k7c1) (by decide +kernel) rfl rfl rfl (by decide +kernel)
set_option maxRecDepth 65536 in
theorem w_c3 : (Jvm.Cond.code ({ cls := "com/example/consistometer/consistometer/analysis/Property$Verdict", name := "and", desc := "(Lcom/example/consistometer/consistometer/analysis/Property$Verdict;)Lcom/example/consistometer/consistometer/analysis/Property$Verdict;" } : Jvm.MethodName) prog_83_method_5_code (3 : Nat) (Option.some (Jvm.ClassFile.FieldType.object "com/example/consistometer/consistometer/analysis/Property$Verdict"))).before args0 about1 = true := code_word (m := ⟨6, 0⟩) (meth := k6m0) (c := k6c0) (by decide +kernel) rfl rfl rfl (by decide +kernel)
def codes1 : List Jvm.Cond := [Jvm.Cond.code x code maxLocals ret, Jvm.Cond.code ({ cls := "com/example/consistometer/consistometer/analysis/VerdictAndPinLaw", name := "ofRank", desc := "(I)Lcom/example/consistometer/consistometer/analysis/Property$Verdict;" } : Jvm.MethodName) method_3_code (1 : Nat) (Option.some (Jvm.ClassFile.FieldType.object "com/example/consistometer/consistometer/analysis/Property$Verdict")), Jvm.Cond.code ({ cls := "java/lang/Math", name := "max", desc := "(II)I" } : Jvm.MethodName) jdk_29_method_65_code (2 : Nat) (Option.some Jvm.ClassFile.FieldType.int), Jvm.Cond.code ({ cls := "com/example/consistometer/consistometer/analysis/Property$Verdict", name := "and", desc := "(Lcom/example/consistometer/consistometer/analysis/Property$Verdict;)Lcom/example/consistometer/consistometer/analysis/Property$Verdict;" } : Jvm.MethodName) prog_83_method_5_code (3 : Nat) (Option.some (Jvm.ClassFile.FieldType.object "com/example/consistometer/consistometer/analysis/Property$Verdict"))]
set_option maxRecDepth 65536 in
theorem codes_eq : words1.filter isCode = codes1 := rfl
theorem w_codes : ∀ c ∈ words1.filter isCode, c.before args0 about1 = true := by
  rw [codes_eq]
  intro c hc
  simp only [codes1, List.mem_cons, List.not_mem_nil, or_false] at hc
  rcases hc with rfl | rfl | rfl | rfl
  · exact w_c0
  · exact w_c1
  · exact w_c2
  · exact w_c3
set_option maxRecDepth 65536 in
theorem w_t1 : (words1.take 24).all (fun c => isCode c || c.before args0 about1) = true := by decide +kernel
set_option maxRecDepth 65536 in
theorem w_t2 : (words1.drop 24).all (fun c => isCode c || c.before args0 about1) = true := by decide +kernel
theorem w_tables : (allAtoms (Jvm.Cond.code x code maxLocals ret :: tables_1)).before args0 about1 = true := by
  rw [allAtoms_all]
  show words1.all (fun c => c.before args0 about1) = true
  refine all_split ?_ w_codes
  rw [← List.take_append_drop 24 words1, List.all_append, w_t1, w_t2]
  rfl
set_option maxRecDepth 65536 in
theorem w_case : (Jvm.Cond.and given_1 narrow_1).before args0 about1 = true := by decide +kernel
theorem w_applies : (headSpec (Jvm.Cond.code x code maxLocals ret :: tables_1) room_1).applies x e0.platform about1 = true :=
  (Spec.applies_iff w_frames).mpr ⟨w_running, w_runnable, w_alone, w_named, w_hears, w_ripe, w_room, w_tables⟩
theorem atStart : AtStart classFile x code maxLocals ret World_1 tables_1 room_1 Calls_1 rest_1 Pre_1 launch0 p0 e0 about1 theMethod args0 below0 :=
  ⟨lists_1, trivial, launch0.admits_env _ _ _, launch0.least_env, fairChoices_fair.cas, fairChoices_fair.clock, w_frames, w_args, w_heap, w_applies, trivial, trivial, w_case⟩
end start1
theorem witness_1 : WitnessClaimed_1 := ⟨start1.p0, start1.e0, start1.about1, start1.theMethod, start1.args0, start1.below0, start1.atStart⟩
end Jvm.Pilot.@@N@@
