import JvmDerived
import JvmDerived.Pilot.@@N@@Statement
import JvmDerived.Pilot.@@N@@Code
set_option linter.unusedVariables false
set_option linter.unusedSimpArgs false
namespace Jvm.RoadKit
open Sem ClassFile Op Lib Jvm.Stand Jvm.Free Jvm.LawKit
section New
variable {p : Program} {l : Launch} {e : Env} {R : Room} {s : State} {m : MethodId} {args : Array Value} {below : List Frame} {meth : Method} {c : Code} {T : State} {locs : List Loc} {cells slots : Nat}
theorem retI (X : Stand p l e R s m args below meth c T locs cells slots) (hx : p.tables.exec = Jvm.exec) {pc : Nat} {Ls : Array Slot} {z : Int32} {rest : List Value} (hret : meth.sig.returnType = some .int) (hd : decode c.code pc = .ok (.ireturn, 1)) {fs : List Frame}
    (hl : ∀ (f : JFrame) (acts : List Action), f.method = m → f.locked = none → f.entered = [] → (doReturn e (T.setTop f) acts (some (.int z))).1 = T.setFrames fs) : Steps p.tables e below (T.setTop (mkF m pc Ls (.int z :: rest))) (T.setFrames fs) := by
  have hm' : T.vm.method? m = some meth := X.method'
  have hn : narrow .int (.int z) = .int z := rfl
  show Steps p.tables e below (T.setTop { method := m, pc := pc, locals := Ls, stack := _ :: rest, locked := none }) _
  jvm_step X.here [X.here.top, hx, hd, hm', hret, hn]
  first | (intro acts; rw [hl _ acts rfl rfl rfl]) | rw [hl _ _ rfl rfl rfl]
  exact Steps.refl _
end New
end Jvm.RoadKit
namespace Jvm.Pilot.@@N@@
open Jvm Jvm.ClassFile Sem Op Lib Jvm.Free Jvm.Stand Jvm.LawKit Jvm.RoadKit Bundle Jvm.Pilot.@@N@@.Jvm.D
def Rch (tb : Tables) (e : Env) (below : List Frame) (P : State → Prop) (st : State) : Prop := ∃ t, Steps tb e below st t ∧ P t
theorem Rch.go {tb : Tables} {e : Env} {below : List Frame} {P : State → Prop} {st st' : State} (h : ∀ t, Steps tb e below st' t → Steps tb e below st t) (k : Rch tb e below P st') : Rch tb e below P st := by
  obtain ⟨t, h1, h2⟩ := k
  exact ⟨t, h t h1, h2⟩
theorem Rch.mk {tb : Tables} {e : Env} {below : List Frame} {P : State → Prop} {st t : State} (h : Steps tb e below st t) (k : P t) : Rch tb e below P st := ⟨t, h, k⟩
theorem ow0 {a0 : Array Value} {Z : State} (hw : ∀ d ∈ tables_1, d.before a0 Z = true) : (Jvm.Cond.methodLink "com/example/quotaria/quotaria/ccq/CutoffRelaxationAddPinLaw" (7 : Nat) ({ cls := "com/example/quotaria/quotaria/ccq/CutoffRelaxationAddPinLaw", name := "pick", desc := "(JI)J" } : Jvm.MethodName)).before a0 Z = true := hw _ (List.mem_of_getElem? (i := 0) rfl)
theorem ow1 {a0 : Array Value} {Z : State} (hw : ∀ d ∈ tables_1, d.before a0 Z = true) : (Jvm.Cond.static ({ cls := "com/example/quotaria/quotaria/ccq/CutoffRelaxationAddPinLaw", name := "pick", desc := "(JI)J" } : Jvm.MethodName)).before a0 Z = true := hw _ (List.mem_of_getElem? (i := 1) rfl)
theorem ow2 {a0 : Array Value} {Z : State} (hw : ∀ d ∈ tables_1, d.before a0 Z = true) : (Jvm.Cond.initialized "com/example/quotaria/quotaria/ccq/CutoffRelaxationAddPinLaw").before a0 Z = true := hw _ (List.mem_of_getElem? (i := 2) rfl)
theorem ow3 {a0 : Array Value} {Z : State} (hw : ∀ d ∈ tables_1, d.before a0 Z = true) : (Jvm.Cond.code ({ cls := "com/example/quotaria/quotaria/ccq/CutoffRelaxationAddPinLaw", name := "pick", desc := "(JI)J" } : Jvm.MethodName) method_3_code (3 : Nat) (Option.some Jvm.ClassFile.FieldType.long)).before a0 Z = true := hw _ (List.mem_of_getElem? (i := 3) rfl)
theorem ow4 {a0 : Array Value} {Z : State} (hw : ∀ d ∈ tables_1, d.before a0 Z = true) : (Jvm.Cond.methodLink "com/example/quotaria/quotaria/ccq/CutoffRelaxationAddPinLaw" (13 : Nat) ({ cls := "com/example/quotaria/quotaria/ccq/CutoffRelaxation", name := "add", desc := "(JJ)J" } : Jvm.MethodName)).before a0 Z = true := hw _ (List.mem_of_getElem? (i := 4) rfl)
theorem ow5 {a0 : Array Value} {Z : State} (hw : ∀ d ∈ tables_1, d.before a0 Z = true) : (Jvm.Cond.static ({ cls := "com/example/quotaria/quotaria/ccq/CutoffRelaxation", name := "add", desc := "(JJ)J" } : Jvm.MethodName)).before a0 Z = true := hw _ (List.mem_of_getElem? (i := 5) rfl)
theorem ow6 {a0 : Array Value} {Z : State} (hw : ∀ d ∈ tables_1, d.before a0 Z = true) : (Jvm.Cond.initialized "com/example/quotaria/quotaria/ccq/CutoffRelaxation").before a0 Z = true := hw _ (List.mem_of_getElem? (i := 6) rfl)
theorem ow7 {a0 : Array Value} {Z : State} (hw : ∀ d ∈ tables_1, d.before a0 Z = true) : (Jvm.Cond.code ({ cls := "com/example/quotaria/quotaria/ccq/CutoffRelaxation", name := "add", desc := "(JJ)J" } : Jvm.MethodName) prog_17_method_41_code (6 : Nat) (Option.some Jvm.ClassFile.FieldType.long)).before a0 Z = true := hw _ (List.mem_of_getElem? (i := 7) rfl)
theorem ow8 {a0 : Array Value} {Z : State} (hw : ∀ d ∈ tables_1, d.before a0 Z = true) : (Jvm.Cond.constantLong "com/example/quotaria/quotaria/ccq/CutoffRelaxation" (333 : Nat) (-9223372036854775808 : Int64)).before a0 Z = true := hw _ (List.mem_of_getElem? (i := 8) rfl)
theorem ow9 {a0 : Array Value} {Z : State} (hw : ∀ d ∈ tables_1, d.before a0 Z = true) : (Jvm.Cond.constantLong "com/example/quotaria/quotaria/ccq/CutoffRelaxation" (345 : Nat) (9223372036854775807 : Int64)).before a0 Z = true := hw _ (List.mem_of_getElem? (i := 9) rfl)
theorem ow10 {a0 : Array Value} {Z : State} (hw : ∀ d ∈ tables_1, d.before a0 Z = true) : (Jvm.Cond.methodLink "com/example/quotaria/quotaria/ccq/CutoffRelaxationAddPinLaw" (19 : Nat) ({ cls := "com/example/quotaria/quotaria/ccq/CutoffRelaxationAddPinLaw", name := "reference", desc := "(JJ)J" } : Jvm.MethodName)).before a0 Z = true := hw _ (List.mem_of_getElem? (i := 10) rfl)
theorem ow11 {a0 : Array Value} {Z : State} (hw : ∀ d ∈ tables_1, d.before a0 Z = true) : (Jvm.Cond.static ({ cls := "com/example/quotaria/quotaria/ccq/CutoffRelaxationAddPinLaw", name := "reference", desc := "(JJ)J" } : Jvm.MethodName)).before a0 Z = true := hw _ (List.mem_of_getElem? (i := 11) rfl)
theorem ow12 {a0 : Array Value} {Z : State} (hw : ∀ d ∈ tables_1, d.before a0 Z = true) : (Jvm.Cond.code ({ cls := "com/example/quotaria/quotaria/ccq/CutoffRelaxationAddPinLaw", name := "reference", desc := "(JJ)J" } : Jvm.MethodName) method_4_code (4 : Nat) (Option.some Jvm.ClassFile.FieldType.long)).before a0 Z = true := hw _ (List.mem_of_getElem? (i := 12) rfl)
theorem ow13 {a0 : Array Value} {Z : State} (hw : ∀ d ∈ tables_1, d.before a0 Z = true) : (Jvm.Cond.constantLong "com/example/quotaria/quotaria/ccq/CutoffRelaxationAddPinLaw" (24 : Nat) (-9223372036854775808 : Int64)).before a0 Z = true := hw _ (List.mem_of_getElem? (i := 13) rfl)
theorem ow14 {a0 : Array Value} {Z : State} (hw : ∀ d ∈ tables_1, d.before a0 Z = true) : (Jvm.Cond.constantLong "com/example/quotaria/quotaria/ccq/CutoffRelaxationAddPinLaw" (26 : Nat) (9223372036854775807 : Int64)).before a0 Z = true := hw _ (List.mem_of_getElem? (i := 14) rfl)
theorem ow15 {a0 : Array Value} {Z : State} (hw : ∀ d ∈ tables_1, d.before a0 Z = true) : (Jvm.Cond.constantLong "com/example/quotaria/quotaria/ccq/CutoffRelaxationAddPinLaw" (28 : Nat) (255 : Int64)).before a0 Z = true := hw _ (List.mem_of_getElem? (i := 15) rfl)
theorem ow16 {a0 : Array Value} {Z : State} (hw : ∀ d ∈ tables_1, d.before a0 Z = true) : (Jvm.Cond.constantLong "com/example/quotaria/quotaria/ccq/CutoffRelaxation" (459 : Nat) (9223372036854775806 : Int64)).before a0 Z = true := hw _ (List.mem_of_getElem? (i := 16) rfl)
theorem ow17 {a0 : Array Value} {Z : State} (hw : ∀ d ∈ tables_1, d.before a0 Z = true) : (Jvm.Cond.constantLong "com/example/quotaria/quotaria/ccq/CutoffRelaxationAddPinLaw" (30 : Nat) (9223372036854775806 : Int64)).before a0 Z = true := hw _ (List.mem_of_getElem? (i := 17) rfl)
def fPick (q1 : Int64) (p2 : Int32) : Int64 := (if p2 = (1 : Int32) then (-9223372036854775808 : Int64) else (if p2 = (2 : Int32) then (9223372036854775807 : Int64) else (if p2 = (3 : Int32) then (if (lcmpW q1 (0 : Int64)) < (0 : Int32) then ((-9223372036854775808 : Int64) + (q1 &&& (255 : Int64))) else ((9223372036854775807 : Int64) - (q1 &&& (255 : Int64)))) else q1)))
theorem ef_rm1 (m : MethodId) (q1 : Int64) (p2 : Int32) : entryFrame m #[(.long q1), (.int p2)] 3 = mkF m 0 #[.val (.long q1), .second, .val (.int p2)] [] := by first | (simp [entryFrame, mkF, argsToLocals, Value.category]; done) | rfl
theorem pn_com_example_quotaria_quotaria_ccq_CutoffRelaxationAddPinLaw : plainName "com/example/quotaria/quotaria/ccq/CutoffRelaxationAddPinLaw" = true := by first | (simp [plainName, overriddenIn]; done) | decide +kernel
theorem d1_0 : decode method_3_code 0 = .ok (.iload_n 2, 1) := by decide +kernel
theorem d1_1 : decode method_3_code 1 = .ok (.iconst 1, 1) := by decide +kernel
theorem d1_2 : decode method_3_code 2 = .ok (.if_icmp .ne 7, 3) := by decide +kernel
theorem d1_5 : decode method_3_code 5 = .ok (.ldc2_w 24, 3) := by decide +kernel
theorem d1_8 : decode method_3_code 8 = .ok (.lreturn, 1) := by decide +kernel
theorem d1_9 : decode method_3_code 9 = .ok (.iload_n 2, 1) := by decide +kernel
theorem d1_10 : decode method_3_code 10 = .ok (.iconst 2, 1) := by decide +kernel
theorem d1_11 : decode method_3_code 11 = .ok (.if_icmp .ne 7, 3) := by decide +kernel
theorem d1_14 : decode method_3_code 14 = .ok (.ldc2_w 26, 3) := by decide +kernel
theorem d1_17 : decode method_3_code 17 = .ok (.lreturn, 1) := by decide +kernel
theorem d1_18 : decode method_3_code 18 = .ok (.iload_n 2, 1) := by decide +kernel
theorem d1_19 : decode method_3_code 19 = .ok (.iconst 3, 1) := by decide +kernel
theorem d1_20 : decode method_3_code 20 = .ok (.if_icmp .ne 31, 3) := by decide +kernel
theorem d1_23 : decode method_3_code 23 = .ok (.lload_n 0, 1) := by decide +kernel
theorem d1_24 : decode method_3_code 24 = .ok (.lconst 0, 1) := by decide +kernel
theorem d1_25 : decode method_3_code 25 = .ok (.lcmp, 1) := by decide +kernel
theorem d1_26 : decode method_3_code 26 = .ok (.ifCond .ge 15, 3) := by decide +kernel
theorem d1_29 : decode method_3_code 29 = .ok (.ldc2_w 24, 3) := by decide +kernel
theorem d1_32 : decode method_3_code 32 = .ok (.lload_n 0, 1) := by decide +kernel
theorem d1_33 : decode method_3_code 33 = .ok (.ldc2_w 28, 3) := by decide +kernel
theorem d1_36 : decode method_3_code 36 = .ok (.land, 1) := by decide +kernel
theorem d1_37 : decode method_3_code 37 = .ok (.ladd, 1) := by decide +kernel
theorem d1_38 : decode method_3_code 38 = .ok (.goto 12, 3) := by decide +kernel
theorem d1_50 : decode method_3_code 50 = .ok (.lreturn, 1) := by decide +kernel
theorem d1_41 : decode method_3_code 41 = .ok (.ldc2_w 26, 3) := by decide +kernel
theorem d1_44 : decode method_3_code 44 = .ok (.lload_n 0, 1) := by decide +kernel
theorem d1_45 : decode method_3_code 45 = .ok (.ldc2_w 28, 3) := by decide +kernel
theorem d1_48 : decode method_3_code 48 = .ok (.land, 1) := by decide +kernel
theorem d1_49 : decode method_3_code 49 = .ok (.lsub, 1) := by decide +kernel
theorem d1_51 : decode method_3_code 51 = .ok (.lload_n 0, 1) := by decide +kernel
theorem d1_52 : decode method_3_code 52 = .ok (.lreturn, 1) := by decide +kernel
def Q_rm1 (Z : State) (q1 : Int64) (p2 : Int32) (h0 : Heap) (n0 : Nat) (v : Option Value) (h : Heap) (L : List Loc) : Prop := v = some (.long (fPick q1 p2)) ∧ Fr n0 L ∧ h = h0
set_option maxRecDepth 65536 in
set_option maxHeartbeats 40000000 in
theorem rm1 (l : Launch) (Z : State) (a0 : Array Value) (hw : ∀ d ∈ tables_1, d.before a0 Z = true) (ws : List Jvm.Cond) (q1 : Int64) (p2 : Int32) (h0 : Heap) (n0 : Nat) (Z0 : n0 ≤ h0.size) :
    MetFree l (⟨"com/example/quotaria/quotaria/ccq/CutoffRelaxationAddPinLaw", "pick", "(JI)J"⟩ : MethodName) (head1 (Jvm.Cond.code (⟨"com/example/quotaria/quotaria/ccq/CutoffRelaxationAddPinLaw", "pick", "(JI)J"⟩ : MethodName) method_3_code 3 (some .long) :: ws) ({ frames := 0, cells := 0, slots := 0, locals := 0 } : Room)) (fun a U => a = #[(.long q1), (.int p2)] ∧ Z.Warmed39 U.vm ∧ U.heap = h0) (fun _ _ _ _ _ => True) (fun _ U o U' => ∃ v L, o = .returned v ∧ Q_rm1 Z q1 p2 h0 n0 v U'.heap L ∧ FrameEnd U o U' L ({ frames := 0, cells := 0, slots := 0, locals := 0 } : Room).cells ({ frames := 0, cells := 0, slots := 0, locals := 0 } : Room).slots) := by
  refine MetFree.of_bodySF (plainFor_of_name pn_com_example_quotaria_quotaria_ccq_CutoffRelaxationAddPinLaw) hisR ?_
  intro p e s m args below meth c s₁ Bd hml0 hP hK
  obtain ⟨rfl, hZ, hh⟩ := hP
  have hx := Bd.exec
  have hby := Bd.bytes
  have hml : c.maxLocals = 3 := hml0
  have hown : s.vm.findClass "com/example/quotaria/quotaria/ccq/CutoffRelaxationAddPinLaw" = some m.cls := findClass_of_methodNamed Bd.named
  have hnm := (name_of_methodNamed Bd.named Bd.method).1
  have X0 : Stand p l e ({ frames := 0, cells := 0, slots := 0, locals := 0 } : Room) s m #[(.long q1), (.int p2)] below meth c s₁ [] 0 0 := Stand.of_body Bd
  have e0 : s₁.heap = h0 := by rw [← hh, Bd.state]; rfl
  have N0 := Fr.nil n0
  suffices hR : ∀ P : State → Prop, (∀ s₂ o v L, s₂.status = .running → Ended s₂ below o → o = .returned v → Q_rm1 Z q1 p2 h0 n0 v s₂.heap L → FrameEnd s o s₂ L ({ frames := 0, cells := 0, slots := 0, locals := 0 } : Room).cells ({ frames := 0, cells := 0, slots := 0, locals := 0 } : Room).slots → P s₂) → Rch p.tables e below P (s₁.setTop (mkF m 0 #[.val (.long q1), .second, .val (.int p2)] [])) by
    obtain ⟨s₂, h1, o, h2⟩ := hR (fun s₂ => ∃ o, s₂.status = .running ∧ Ended s₂ below o ∧ ∃ v L, o = .returned v ∧ Q_rm1 Z q1 p2 h0 n0 v s₂.heap L ∧ FrameEnd s o s₂ L ({ frames := 0, cells := 0, slots := 0, locals := 0 } : Room).cells ({ frames := 0, cells := 0, slots := 0, locals := 0 } : Room).slots) (fun s₂ o v L q1 q2 q3 q4 q5 => ⟨o, q1, q2, v, L, q3, q4, q5⟩)
    exact ⟨s₂, o, castTop (ef_rm1 m q1 p2) h1, h2⟩
  intro P hPd
  refine Rch.go (fun zt zk => XS.iloadN X0.here hx rfl (hb hby d1_0) rfl zk) ?_
  show Rch _ _ _ _ (s₁.setTop (mkF m 1 #[.val (.long q1), .second, .val (.int p2)] [(.int p2)]))
  refine Rch.go (fun zt zk => XS.iconst X0.here hx rfl (hb hby d1_1) zk) ?_
  show Rch _ _ _ _ (s₁.setTop (mkF m 2 #[.val (.long q1), .second, .val (.int p2)] [(.int (1 : Int32)), (.int p2)]))
  by_cases hc2_1 : p2 = (1 : Int32)
  · skip
    refine Rch.go (fun zt zk => XS.icmpNo X0.here hx rfl (hb hby d1_2) rfl (teq hc2_1).2 zk) ?_
    show Rch _ _ _ _ (s₁.setTop (mkF m 5 #[.val (.long q1), .second, .val (.int p2)] []))
    refine Rch.go (X0.ldc2Long hx hown (mvT hZ (ow13 hw)) (g := (mkF m 5 #[.val (.long q1), .second, .val (.int p2)] [])) rfl (hb hby d1_5)) ?_
    show Rch _ _ _ _ (s₁.setTop (mkF m 8 #[.val (.long q1), .second, .val (.int p2)] [(.long (-9223372036854775808 : Int64))]))
    obtain ⟨fs, hr, hrun, hended, hW, hsame⟩ := X0.leave (v := some (.long (-9223372036854775808 : Int64))) (fun h => by rw [Bd.returns] at h; cases h)
    have hend : Steps p.tables e below (s₁.setTop (mkF m 8 #[.val (.long q1), .second, .val (.int p2)] [(.long (-9223372036854775808 : Int64))])) (s₁.setFrames fs) := by
      jvm_step X0.here [X0.here.top, hx, (hb hby d1_8), X0.method', Bd.returns, narrow]
      first | (intro acts; rw [hr _ acts rfl rfl rfl]) | rw [hr _ _ rfl rfl rfl]
      exact Steps.refl _
    refine Rch.mk (hend) (hPd _ _ _ _ hrun hended rfl ?_ ⟨⟨_, rfl⟩, hW, hsame.mono (by decide) (by decide)⟩)
    show Q_rm1 Z q1 p2 h0 n0 _ s₁.heap _
    have hF : fPick q1 p2 = (-9223372036854775808 : Int64) := ((if_pos hc2_1).trans rfl)
    rw [e0]
    exact ⟨by rw [hF], N0, rfl⟩
  · skip
    refine Rch.go (fun zt zk => XS.icmpYes X0.here hx rfl (pc0 := 2) (pc' := 9) rfl (hb hby d1_2) rfl (feq hc2_1).2 (by decide) (by decide) zk) ?_
    show Rch _ _ _ _ (s₁.setTop (mkF m 9 #[.val (.long q1), .second, .val (.int p2)] []))
    refine Rch.go (fun zt zk => XS.iloadN X0.here hx rfl (hb hby d1_9) rfl zk) ?_
    show Rch _ _ _ _ (s₁.setTop (mkF m 10 #[.val (.long q1), .second, .val (.int p2)] [(.int p2)]))
    refine Rch.go (fun zt zk => XS.iconst X0.here hx rfl (hb hby d1_10) zk) ?_
    show Rch _ _ _ _ (s₁.setTop (mkF m 11 #[.val (.long q1), .second, .val (.int p2)] [(.int (2 : Int32)), (.int p2)]))
    by_cases hc11_2 : p2 = (2 : Int32)
    · skip
      refine Rch.go (fun zt zk => XS.icmpNo X0.here hx rfl (hb hby d1_11) rfl (teq hc11_2).2 zk) ?_
      show Rch _ _ _ _ (s₁.setTop (mkF m 14 #[.val (.long q1), .second, .val (.int p2)] []))
      refine Rch.go (X0.ldc2Long hx hown (mvT hZ (ow14 hw)) (g := (mkF m 14 #[.val (.long q1), .second, .val (.int p2)] [])) rfl (hb hby d1_14)) ?_
      show Rch _ _ _ _ (s₁.setTop (mkF m 17 #[.val (.long q1), .second, .val (.int p2)] [(.long (9223372036854775807 : Int64))]))
      obtain ⟨fs, hr, hrun, hended, hW, hsame⟩ := X0.leave (v := some (.long (9223372036854775807 : Int64))) (fun h => by rw [Bd.returns] at h; cases h)
      have hend : Steps p.tables e below (s₁.setTop (mkF m 17 #[.val (.long q1), .second, .val (.int p2)] [(.long (9223372036854775807 : Int64))])) (s₁.setFrames fs) := by
        jvm_step X0.here [X0.here.top, hx, (hb hby d1_17), X0.method', Bd.returns, narrow]
        first | (intro acts; rw [hr _ acts rfl rfl rfl]) | rw [hr _ _ rfl rfl rfl]
        exact Steps.refl _
      refine Rch.mk (hend) (hPd _ _ _ _ hrun hended rfl ?_ ⟨⟨_, rfl⟩, hW, hsame.mono (by decide) (by decide)⟩)
      show Q_rm1 Z q1 p2 h0 n0 _ s₁.heap _
      have hF : fPick q1 p2 = (9223372036854775807 : Int64) := ((if_neg hc2_1).trans ((if_pos hc11_2).trans rfl))
      rw [e0]
      exact ⟨by rw [hF], N0, rfl⟩
    · skip
      refine Rch.go (fun zt zk => XS.icmpYes X0.here hx rfl (pc0 := 11) (pc' := 18) rfl (hb hby d1_11) rfl (feq hc11_2).2 (by decide) (by decide) zk) ?_
      show Rch _ _ _ _ (s₁.setTop (mkF m 18 #[.val (.long q1), .second, .val (.int p2)] []))
      refine Rch.go (fun zt zk => XS.iloadN X0.here hx rfl (hb hby d1_18) rfl zk) ?_
      show Rch _ _ _ _ (s₁.setTop (mkF m 19 #[.val (.long q1), .second, .val (.int p2)] [(.int p2)]))
      refine Rch.go (fun zt zk => XS.iconst X0.here hx rfl (hb hby d1_19) zk) ?_
      show Rch _ _ _ _ (s₁.setTop (mkF m 20 #[.val (.long q1), .second, .val (.int p2)] [(.int (3 : Int32)), (.int p2)]))
      by_cases hc20_3 : p2 = (3 : Int32)
      · skip
        refine Rch.go (fun zt zk => XS.icmpNo X0.here hx rfl (hb hby d1_20) rfl (teq hc20_3).2 zk) ?_
        show Rch _ _ _ _ (s₁.setTop (mkF m 23 #[.val (.long q1), .second, .val (.int p2)] []))
        refine Rch.go (fun zt zk => XS.lloadN X0.here hx rfl (hb hby d1_23) rfl zk) ?_
        show Rch _ _ _ _ (s₁.setTop (mkF m 24 #[.val (.long q1), .second, .val (.int p2)] [(.long q1)]))
        refine Rch.go (fun zt zk => XS.lconst X0.here hx rfl (hb hby d1_24) zk) ?_
        show Rch _ _ _ _ (s₁.setTop (mkF m 25 #[.val (.long q1), .second, .val (.int p2)] [(.long (0 : Int64)), (.long q1)]))
        refine Rch.go (fun zt zk => XS.lcmp X0.here hx rfl (hb hby d1_25) rfl zk) ?_
        show Rch _ _ _ _ (s₁.setTop (mkF m 26 #[.val (.long q1), .second, .val (.int p2)] [(.int (lcmpW q1 (0 : Int64)))]))
        by_cases hc26_4 : (lcmpW q1 (0 : Int64)) < (0 : Int32)
        · skip
          refine Rch.go (fun zt zk => XS.ifNo X0.here hx rfl (hb hby d1_26) rfl ((if0 _ _).trans (tlt hc26_4).2.1) zk) ?_
          show Rch _ _ _ _ (s₁.setTop (mkF m 29 #[.val (.long q1), .second, .val (.int p2)] []))
          refine Rch.go (X0.ldc2Long hx hown (mvT hZ (ow13 hw)) (g := (mkF m 29 #[.val (.long q1), .second, .val (.int p2)] [])) rfl (hb hby d1_29)) ?_
          show Rch _ _ _ _ (s₁.setTop (mkF m 32 #[.val (.long q1), .second, .val (.int p2)] [(.long (-9223372036854775808 : Int64))]))
          refine Rch.go (fun zt zk => XS.lloadN X0.here hx rfl (hb hby d1_32) rfl zk) ?_
          show Rch _ _ _ _ (s₁.setTop (mkF m 33 #[.val (.long q1), .second, .val (.int p2)] [(.long q1), (.long (-9223372036854775808 : Int64))]))
          refine Rch.go (X0.ldc2Long hx hown (mvT hZ (ow15 hw)) (g := (mkF m 33 #[.val (.long q1), .second, .val (.int p2)] [(.long q1), (.long (-9223372036854775808 : Int64))])) rfl (hb hby d1_33)) ?_
          show Rch _ _ _ _ (s₁.setTop (mkF m 36 #[.val (.long q1), .second, .val (.int p2)] [(.long (255 : Int64)), (.long q1), (.long (-9223372036854775808 : Int64))]))
          refine Rch.go (fun zt zk => XS.land X0.here hx rfl (hb hby d1_36) rfl zk) ?_
          show Rch _ _ _ _ (s₁.setTop (mkF m 37 #[.val (.long q1), .second, .val (.int p2)] [(.long (q1 &&& (255 : Int64))), (.long (-9223372036854775808 : Int64))]))
          refine Rch.go (fun zt zk => XS.ladd X0.here hx rfl (hb hby d1_37) rfl zk) ?_
          show Rch _ _ _ _ (s₁.setTop (mkF m 38 #[.val (.long q1), .second, .val (.int p2)] [(.long ((-9223372036854775808 : Int64) + (q1 &&& (255 : Int64))))]))
          refine Rch.go (fun zt zk => XS.goto X0.here hx rfl (pc0 := 38) (pc' := 50) rfl (hb hby d1_38) (by decide) (by decide) zk) ?_
          show Rch _ _ _ _ (s₁.setTop (mkF m 50 #[.val (.long q1), .second, .val (.int p2)] [(.long ((-9223372036854775808 : Int64) + (q1 &&& (255 : Int64))))]))
          obtain ⟨fs, hr, hrun, hended, hW, hsame⟩ := X0.leave (v := some (.long ((-9223372036854775808 : Int64) + (q1 &&& (255 : Int64))))) (fun h => by rw [Bd.returns] at h; cases h)
          have hend : Steps p.tables e below (s₁.setTop (mkF m 50 #[.val (.long q1), .second, .val (.int p2)] [(.long ((-9223372036854775808 : Int64) + (q1 &&& (255 : Int64))))])) (s₁.setFrames fs) := by
            jvm_step X0.here [X0.here.top, hx, (hb hby d1_50), X0.method', Bd.returns, narrow]
            first | (intro acts; rw [hr _ acts rfl rfl rfl]) | rw [hr _ _ rfl rfl rfl]
            exact Steps.refl _
          refine Rch.mk (hend) (hPd _ _ _ _ hrun hended rfl ?_ ⟨⟨_, rfl⟩, hW, hsame.mono (by decide) (by decide)⟩)
          show Q_rm1 Z q1 p2 h0 n0 _ s₁.heap _
          have hF : fPick q1 p2 = ((-9223372036854775808 : Int64) + (q1 &&& (255 : Int64))) := ((if_neg hc2_1).trans ((if_neg hc11_2).trans ((if_pos hc20_3).trans ((if_pos hc26_4).trans rfl))))
          rw [e0]
          exact ⟨by rw [hF], N0, rfl⟩
        · skip
          refine Rch.go (fun zt zk => XS.ifYes X0.here hx rfl (pc0 := 26) (pc' := 41) rfl (hb hby d1_26) rfl ((if0 _ _).trans (flt hc26_4).2.1) (by decide) (by decide) zk) ?_
          show Rch _ _ _ _ (s₁.setTop (mkF m 41 #[.val (.long q1), .second, .val (.int p2)] []))
          refine Rch.go (X0.ldc2Long hx hown (mvT hZ (ow14 hw)) (g := (mkF m 41 #[.val (.long q1), .second, .val (.int p2)] [])) rfl (hb hby d1_41)) ?_
          show Rch _ _ _ _ (s₁.setTop (mkF m 44 #[.val (.long q1), .second, .val (.int p2)] [(.long (9223372036854775807 : Int64))]))
          refine Rch.go (fun zt zk => XS.lloadN X0.here hx rfl (hb hby d1_44) rfl zk) ?_
          show Rch _ _ _ _ (s₁.setTop (mkF m 45 #[.val (.long q1), .second, .val (.int p2)] [(.long q1), (.long (9223372036854775807 : Int64))]))
          refine Rch.go (X0.ldc2Long hx hown (mvT hZ (ow15 hw)) (g := (mkF m 45 #[.val (.long q1), .second, .val (.int p2)] [(.long q1), (.long (9223372036854775807 : Int64))])) rfl (hb hby d1_45)) ?_
          show Rch _ _ _ _ (s₁.setTop (mkF m 48 #[.val (.long q1), .second, .val (.int p2)] [(.long (255 : Int64)), (.long q1), (.long (9223372036854775807 : Int64))]))
          refine Rch.go (fun zt zk => XS.land X0.here hx rfl (hb hby d1_48) rfl zk) ?_
          show Rch _ _ _ _ (s₁.setTop (mkF m 49 #[.val (.long q1), .second, .val (.int p2)] [(.long (q1 &&& (255 : Int64))), (.long (9223372036854775807 : Int64))]))
          refine Rch.go (fun zt zk => XS.lsub X0.here hx rfl (hb hby d1_49) rfl zk) ?_
          show Rch _ _ _ _ (s₁.setTop (mkF m 50 #[.val (.long q1), .second, .val (.int p2)] [(.long ((9223372036854775807 : Int64) - (q1 &&& (255 : Int64))))]))
          obtain ⟨fs, hr, hrun, hended, hW, hsame⟩ := X0.leave (v := some (.long ((9223372036854775807 : Int64) - (q1 &&& (255 : Int64))))) (fun h => by rw [Bd.returns] at h; cases h)
          have hend : Steps p.tables e below (s₁.setTop (mkF m 50 #[.val (.long q1), .second, .val (.int p2)] [(.long ((9223372036854775807 : Int64) - (q1 &&& (255 : Int64))))])) (s₁.setFrames fs) := by
            jvm_step X0.here [X0.here.top, hx, (hb hby d1_50), X0.method', Bd.returns, narrow]
            first | (intro acts; rw [hr _ acts rfl rfl rfl]) | rw [hr _ _ rfl rfl rfl]
            exact Steps.refl _
          refine Rch.mk (hend) (hPd _ _ _ _ hrun hended rfl ?_ ⟨⟨_, rfl⟩, hW, hsame.mono (by decide) (by decide)⟩)
          show Q_rm1 Z q1 p2 h0 n0 _ s₁.heap _
          have hF : fPick q1 p2 = ((9223372036854775807 : Int64) - (q1 &&& (255 : Int64))) := ((if_neg hc2_1).trans ((if_neg hc11_2).trans ((if_pos hc20_3).trans ((if_neg hc26_4).trans rfl))))
          rw [e0]
          exact ⟨by rw [hF], N0, rfl⟩
      · skip
        refine Rch.go (fun zt zk => XS.icmpYes X0.here hx rfl (pc0 := 20) (pc' := 51) rfl (hb hby d1_20) rfl (feq hc20_3).2 (by decide) (by decide) zk) ?_
        show Rch _ _ _ _ (s₁.setTop (mkF m 51 #[.val (.long q1), .second, .val (.int p2)] []))
        refine Rch.go (fun zt zk => XS.lloadN X0.here hx rfl (hb hby d1_51) rfl zk) ?_
        show Rch _ _ _ _ (s₁.setTop (mkF m 52 #[.val (.long q1), .second, .val (.int p2)] [(.long q1)]))
        obtain ⟨fs, hr, hrun, hended, hW, hsame⟩ := X0.leave (v := some (.long q1)) (fun h => by rw [Bd.returns] at h; cases h)
        have hend : Steps p.tables e below (s₁.setTop (mkF m 52 #[.val (.long q1), .second, .val (.int p2)] [(.long q1)])) (s₁.setFrames fs) := by
          jvm_step X0.here [X0.here.top, hx, (hb hby d1_52), X0.method', Bd.returns, narrow]
          first | (intro acts; rw [hr _ acts rfl rfl rfl]) | rw [hr _ _ rfl rfl rfl]
          exact Steps.refl _
        refine Rch.mk (hend) (hPd _ _ _ _ hrun hended rfl ?_ ⟨⟨_, rfl⟩, hW, hsame.mono (by decide) (by decide)⟩)
        show Q_rm1 Z q1 p2 h0 n0 _ s₁.heap _
        have hF : fPick q1 p2 = q1 := ((if_neg hc2_1).trans ((if_neg hc11_2).trans ((if_neg hc20_3).trans rfl)))
        rw [e0]
        exact ⟨by rw [hF], N0, rfl⟩
def fAdd (q1 : Int64) (q2 : Int64) : Int64 := (if (lcmpW q1 (-9223372036854775808 : Int64)) = (0 : Int32) then (-9223372036854775808 : Int64) else (if (lcmpW q2 (-9223372036854775808 : Int64)) = (0 : Int32) then (-9223372036854775808 : Int64) else (if (lcmpW q1 (9223372036854775807 : Int64)) = (0 : Int32) then (9223372036854775807 : Int64) else (if (lcmpW q2 (9223372036854775807 : Int64)) = (0 : Int32) then (9223372036854775807 : Int64) else (if (lcmpW ((q1 ^^^ (q1 + q2)) &&& (q2 ^^^ (q1 + q2))) (0 : Int64)) < (0 : Int32) then (if (0 : Int32) < (lcmpW q1 (0 : Int64)) then (9223372036854775806 : Int64) else (-9223372036854775808 : Int64)) else (if (lcmpW (q1 + q2) (9223372036854775807 : Int64)) = (0 : Int32) then (9223372036854775806 : Int64) else (q1 + q2)))))))
theorem ef_rm2 (m : MethodId) (q1 : Int64) (q2 : Int64) : entryFrame m #[(.long q1), (.long q2)] 6 = mkF m 0 #[.val (.long q1), .second, .val (.long q2), .second, .unset, .unset] [] := by first | (simp [entryFrame, mkF, argsToLocals, Value.category]; done) | rfl
theorem pn_com_example_quotaria_quotaria_ccq_CutoffRelaxation : plainName "com/example/quotaria/quotaria/ccq/CutoffRelaxation" = true := by first | (simp [plainName, overriddenIn]; done) | decide +kernel
theorem d2_0 : decode prog_17_method_41_code 0 = .ok (.lload_n 0, 1) := by decide +kernel
theorem d2_1 : decode prog_17_method_41_code 1 = .ok (.lload_n 2, 1) := by decide +kernel
theorem d2_2 : decode prog_17_method_41_code 2 = .ok (.ladd, 1) := by decide +kernel
theorem d2_3 : decode prog_17_method_41_code 3 = .ok (.lstore 4, 2) := by decide +kernel
theorem d2_5 : decode prog_17_method_41_code 5 = .ok (.lload_n 0, 1) := by decide +kernel
theorem d2_6 : decode prog_17_method_41_code 6 = .ok (.ldc2_w 333, 3) := by decide +kernel
theorem d2_9 : decode prog_17_method_41_code 9 = .ok (.lcmp, 1) := by decide +kernel
theorem d2_10 : decode prog_17_method_41_code 10 = .ok (.ifCond .eq 11, 3) := by decide +kernel
theorem d2_21 : decode prog_17_method_41_code 21 = .ok (.ldc2_w 333, 3) := by decide +kernel
theorem d2_24 : decode prog_17_method_41_code 24 = .ok (.lstore 4, 2) := by decide +kernel
theorem d2_26 : decode prog_17_method_41_code 26 = .ok (.goto 75, 3) := by decide +kernel
theorem d2_101 : decode prog_17_method_41_code 101 = .ok (.lload 4, 2) := by decide +kernel
theorem d2_103 : decode prog_17_method_41_code 103 = .ok (.lreturn, 1) := by decide +kernel
theorem d2_13 : decode prog_17_method_41_code 13 = .ok (.lload_n 2, 1) := by decide +kernel
theorem d2_14 : decode prog_17_method_41_code 14 = .ok (.ldc2_w 333, 3) := by decide +kernel
theorem d2_17 : decode prog_17_method_41_code 17 = .ok (.lcmp, 1) := by decide +kernel
theorem d2_18 : decode prog_17_method_41_code 18 = .ok (.ifCond .ne 11, 3) := by decide +kernel
theorem d2_29 : decode prog_17_method_41_code 29 = .ok (.lload_n 0, 1) := by decide +kernel
theorem d2_30 : decode prog_17_method_41_code 30 = .ok (.ldc2_w 345, 3) := by decide +kernel
theorem d2_33 : decode prog_17_method_41_code 33 = .ok (.lcmp, 1) := by decide +kernel
theorem d2_34 : decode prog_17_method_41_code 34 = .ok (.ifCond .eq 11, 3) := by decide +kernel
theorem d2_45 : decode prog_17_method_41_code 45 = .ok (.ldc2_w 345, 3) := by decide +kernel
theorem d2_48 : decode prog_17_method_41_code 48 = .ok (.lstore 4, 2) := by decide +kernel
theorem d2_50 : decode prog_17_method_41_code 50 = .ok (.goto 51, 3) := by decide +kernel
theorem d2_37 : decode prog_17_method_41_code 37 = .ok (.lload_n 2, 1) := by decide +kernel
theorem d2_38 : decode prog_17_method_41_code 38 = .ok (.ldc2_w 345, 3) := by decide +kernel
theorem d2_41 : decode prog_17_method_41_code 41 = .ok (.lcmp, 1) := by decide +kernel
theorem d2_42 : decode prog_17_method_41_code 42 = .ok (.ifCond .ne 11, 3) := by decide +kernel
theorem d2_53 : decode prog_17_method_41_code 53 = .ok (.lload_n 0, 1) := by decide +kernel
theorem d2_54 : decode prog_17_method_41_code 54 = .ok (.lload 4, 2) := by decide +kernel
theorem d2_56 : decode prog_17_method_41_code 56 = .ok (.lxor, 1) := by decide +kernel
theorem d2_57 : decode prog_17_method_41_code 57 = .ok (.lload_n 2, 1) := by decide +kernel
theorem d2_58 : decode prog_17_method_41_code 58 = .ok (.lload 4, 2) := by decide +kernel
theorem d2_60 : decode prog_17_method_41_code 60 = .ok (.lxor, 1) := by decide +kernel
theorem d2_61 : decode prog_17_method_41_code 61 = .ok (.land, 1) := by decide +kernel
theorem d2_62 : decode prog_17_method_41_code 62 = .ok (.lconst 0, 1) := by decide +kernel
theorem d2_63 : decode prog_17_method_41_code 63 = .ok (.lcmp, 1) := by decide +kernel
theorem d2_64 : decode prog_17_method_41_code 64 = .ok (.ifCond .ge 23, 3) := by decide +kernel
theorem d2_67 : decode prog_17_method_41_code 67 = .ok (.lload_n 0, 1) := by decide +kernel
theorem d2_68 : decode prog_17_method_41_code 68 = .ok (.lconst 0, 1) := by decide +kernel
theorem d2_69 : decode prog_17_method_41_code 69 = .ok (.lcmp, 1) := by decide +kernel
theorem d2_70 : decode prog_17_method_41_code 70 = .ok (.ifCond .le 9, 3) := by decide +kernel
theorem d2_73 : decode prog_17_method_41_code 73 = .ok (.ldc2_w 459, 3) := by decide +kernel
theorem d2_76 : decode prog_17_method_41_code 76 = .ok (.goto 6, 3) := by decide +kernel
theorem d2_82 : decode prog_17_method_41_code 82 = .ok (.lstore 4, 2) := by decide +kernel
theorem d2_84 : decode prog_17_method_41_code 84 = .ok (.goto 17, 3) := by decide +kernel
theorem d2_79 : decode prog_17_method_41_code 79 = .ok (.ldc2_w 333, 3) := by decide +kernel
theorem d2_87 : decode prog_17_method_41_code 87 = .ok (.lload 4, 2) := by decide +kernel
theorem d2_89 : decode prog_17_method_41_code 89 = .ok (.ldc2_w 345, 3) := by decide +kernel
theorem d2_92 : decode prog_17_method_41_code 92 = .ok (.lcmp, 1) := by decide +kernel
theorem d2_93 : decode prog_17_method_41_code 93 = .ok (.ifCond .ne 8, 3) := by decide +kernel
theorem d2_96 : decode prog_17_method_41_code 96 = .ok (.ldc2_w 459, 3) := by decide +kernel
theorem d2_99 : decode prog_17_method_41_code 99 = .ok (.lstore 4, 2) := by decide +kernel
def Q_rm2 (Z : State) (q1 : Int64) (q2 : Int64) (h0 : Heap) (n0 : Nat) (v : Option Value) (h : Heap) (L : List Loc) : Prop := v = some (.long (fAdd q1 q2)) ∧ Fr n0 L ∧ h = h0
set_option maxRecDepth 65536 in
set_option maxHeartbeats 40000000 in
theorem rm2 (l : Launch) (Z : State) (a0 : Array Value) (hw : ∀ d ∈ tables_1, d.before a0 Z = true) (ws : List Jvm.Cond) (q1 : Int64) (q2 : Int64) (h0 : Heap) (n0 : Nat) (Z0 : n0 ≤ h0.size) :
    MetFree l (⟨"com/example/quotaria/quotaria/ccq/CutoffRelaxation", "add", "(JJ)J"⟩ : MethodName) (head1 (Jvm.Cond.code (⟨"com/example/quotaria/quotaria/ccq/CutoffRelaxation", "add", "(JJ)J"⟩ : MethodName) prog_17_method_41_code 6 (some .long) :: ws) ({ frames := 0, cells := 0, slots := 0, locals := 0 } : Room)) (fun a U => a = #[(.long q1), (.long q2)] ∧ Z.Warmed39 U.vm ∧ U.heap = h0) (fun _ _ _ _ _ => True) (fun _ U o U' => ∃ v L, o = .returned v ∧ Q_rm2 Z q1 q2 h0 n0 v U'.heap L ∧ FrameEnd U o U' L ({ frames := 0, cells := 0, slots := 0, locals := 0 } : Room).cells ({ frames := 0, cells := 0, slots := 0, locals := 0 } : Room).slots) := by
  refine MetFree.of_bodySF (plainFor_of_name pn_com_example_quotaria_quotaria_ccq_CutoffRelaxation) hisR ?_
  intro p e s m args below meth c s₁ Bd hml0 hP hK
  obtain ⟨rfl, hZ, hh⟩ := hP
  have hx := Bd.exec
  have hby := Bd.bytes
  have hml : c.maxLocals = 6 := hml0
  have hown : s.vm.findClass "com/example/quotaria/quotaria/ccq/CutoffRelaxation" = some m.cls := findClass_of_methodNamed Bd.named
  have hnm := (name_of_methodNamed Bd.named Bd.method).1
  have X0 : Stand p l e ({ frames := 0, cells := 0, slots := 0, locals := 0 } : Room) s m #[(.long q1), (.long q2)] below meth c s₁ [] 0 0 := Stand.of_body Bd
  have e0 : s₁.heap = h0 := by rw [← hh, Bd.state]; rfl
  have N0 := Fr.nil n0
  suffices hR : ∀ P : State → Prop, (∀ s₂ o v L, s₂.status = .running → Ended s₂ below o → o = .returned v → Q_rm2 Z q1 q2 h0 n0 v s₂.heap L → FrameEnd s o s₂ L ({ frames := 0, cells := 0, slots := 0, locals := 0 } : Room).cells ({ frames := 0, cells := 0, slots := 0, locals := 0 } : Room).slots → P s₂) → Rch p.tables e below P (s₁.setTop (mkF m 0 #[.val (.long q1), .second, .val (.long q2), .second, .unset, .unset] [])) by
    obtain ⟨s₂, h1, o, h2⟩ := hR (fun s₂ => ∃ o, s₂.status = .running ∧ Ended s₂ below o ∧ ∃ v L, o = .returned v ∧ Q_rm2 Z q1 q2 h0 n0 v s₂.heap L ∧ FrameEnd s o s₂ L ({ frames := 0, cells := 0, slots := 0, locals := 0 } : Room).cells ({ frames := 0, cells := 0, slots := 0, locals := 0 } : Room).slots) (fun s₂ o v L q1 q2 q3 q4 q5 => ⟨o, q1, q2, v, L, q3, q4, q5⟩)
    exact ⟨s₂, o, castTop (ef_rm2 m q1 q2) h1, h2⟩
  intro P hPd
  refine Rch.go (fun zt zk => XS.lloadN X0.here hx rfl (hb hby d2_0) rfl zk) ?_
  show Rch _ _ _ _ (s₁.setTop (mkF m 1 #[.val (.long q1), .second, .val (.long q2), .second, .unset, .unset] [(.long q1)]))
  refine Rch.go (fun zt zk => XS.lloadN X0.here hx rfl (hb hby d2_1) rfl zk) ?_
  show Rch _ _ _ _ (s₁.setTop (mkF m 2 #[.val (.long q1), .second, .val (.long q2), .second, .unset, .unset] [(.long q2), (.long q1)]))
  refine Rch.go (fun zt zk => XS.ladd X0.here hx rfl (hb hby d2_2) rfl zk) ?_
  show Rch _ _ _ _ (s₁.setTop (mkF m 3 #[.val (.long q1), .second, .val (.long q2), .second, .unset, .unset] [(.long (q1 + q2))]))
  refine Rch.go (fun zt zk => XS.lstore X0.here hx rfl (hb hby d2_3) rfl (l' := #[.val (.long q1), .second, .val (.long q2), .second, .val (.long (q1 + q2)), .second]) rfl zk) ?_
  show Rch _ _ _ _ (s₁.setTop (mkF m 5 #[.val (.long q1), .second, .val (.long q2), .second, .val (.long (q1 + q2)), .second] []))
  refine Rch.go (fun zt zk => XS.lloadN X0.here hx rfl (hb hby d2_5) rfl zk) ?_
  show Rch _ _ _ _ (s₁.setTop (mkF m 6 #[.val (.long q1), .second, .val (.long q2), .second, .val (.long (q1 + q2)), .second] [(.long q1)]))
  refine Rch.go (X0.ldc2Long hx hown (mvT hZ (ow8 hw)) (g := (mkF m 6 #[.val (.long q1), .second, .val (.long q2), .second, .val (.long (q1 + q2)), .second] [(.long q1)])) rfl (hb hby d2_6)) ?_
  show Rch _ _ _ _ (s₁.setTop (mkF m 9 #[.val (.long q1), .second, .val (.long q2), .second, .val (.long (q1 + q2)), .second] [(.long (-9223372036854775808 : Int64)), (.long q1)]))
  refine Rch.go (fun zt zk => XS.lcmp X0.here hx rfl (hb hby d2_9) rfl zk) ?_
  show Rch _ _ _ _ (s₁.setTop (mkF m 10 #[.val (.long q1), .second, .val (.long q2), .second, .val (.long (q1 + q2)), .second] [(.int (lcmpW q1 (-9223372036854775808 : Int64)))]))
  by_cases hc10_1 : (lcmpW q1 (-9223372036854775808 : Int64)) = (0 : Int32)
  · skip
    refine Rch.go (fun zt zk => XS.ifYes X0.here hx rfl (pc0 := 10) (pc' := 21) rfl (hb hby d2_10) rfl ((if0 _ _).trans (teq hc10_1).1) (by decide) (by decide) zk) ?_
    show Rch _ _ _ _ (s₁.setTop (mkF m 21 #[.val (.long q1), .second, .val (.long q2), .second, .val (.long (q1 + q2)), .second] []))
    refine Rch.go (X0.ldc2Long hx hown (mvT hZ (ow8 hw)) (g := (mkF m 21 #[.val (.long q1), .second, .val (.long q2), .second, .val (.long (q1 + q2)), .second] [])) rfl (hb hby d2_21)) ?_
    show Rch _ _ _ _ (s₁.setTop (mkF m 24 #[.val (.long q1), .second, .val (.long q2), .second, .val (.long (q1 + q2)), .second] [(.long (-9223372036854775808 : Int64))]))
    refine Rch.go (fun zt zk => XS.lstore X0.here hx rfl (hb hby d2_24) rfl (l' := #[.val (.long q1), .second, .val (.long q2), .second, .val (.long (-9223372036854775808 : Int64)), .second]) rfl zk) ?_
    show Rch _ _ _ _ (s₁.setTop (mkF m 26 #[.val (.long q1), .second, .val (.long q2), .second, .val (.long (-9223372036854775808 : Int64)), .second] []))
    refine Rch.go (fun zt zk => XS.goto X0.here hx rfl (pc0 := 26) (pc' := 101) rfl (hb hby d2_26) (by decide) (by decide) zk) ?_
    show Rch _ _ _ _ (s₁.setTop (mkF m 101 #[.val (.long q1), .second, .val (.long q2), .second, .val (.long (-9223372036854775808 : Int64)), .second] []))
    refine Rch.go (fun zt zk => XS.lload X0.here hx rfl (hb hby d2_101) rfl zk) ?_
    show Rch _ _ _ _ (s₁.setTop (mkF m 103 #[.val (.long q1), .second, .val (.long q2), .second, .val (.long (-9223372036854775808 : Int64)), .second] [(.long (-9223372036854775808 : Int64))]))
    obtain ⟨fs, hr, hrun, hended, hW, hsame⟩ := X0.leave (v := some (.long (-9223372036854775808 : Int64))) (fun h => by rw [Bd.returns] at h; cases h)
    have hend : Steps p.tables e below (s₁.setTop (mkF m 103 #[.val (.long q1), .second, .val (.long q2), .second, .val (.long (-9223372036854775808 : Int64)), .second] [(.long (-9223372036854775808 : Int64))])) (s₁.setFrames fs) := by
      jvm_step X0.here [X0.here.top, hx, (hb hby d2_103), X0.method', Bd.returns, narrow]
      first | (intro acts; rw [hr _ acts rfl rfl rfl]) | rw [hr _ _ rfl rfl rfl]
      exact Steps.refl _
    refine Rch.mk (hend) (hPd _ _ _ _ hrun hended rfl ?_ ⟨⟨_, rfl⟩, hW, hsame.mono (by decide) (by decide)⟩)
    show Q_rm2 Z q1 q2 h0 n0 _ s₁.heap _
    have hF : fAdd q1 q2 = (-9223372036854775808 : Int64) := ((if_pos hc10_1).trans rfl)
    rw [e0]
    exact ⟨by rw [hF], N0, rfl⟩
  · skip
    refine Rch.go (fun zt zk => XS.ifNo X0.here hx rfl (hb hby d2_10) rfl ((if0 _ _).trans (feq hc10_1).1) zk) ?_
    show Rch _ _ _ _ (s₁.setTop (mkF m 13 #[.val (.long q1), .second, .val (.long q2), .second, .val (.long (q1 + q2)), .second] []))
    refine Rch.go (fun zt zk => XS.lloadN X0.here hx rfl (hb hby d2_13) rfl zk) ?_
    show Rch _ _ _ _ (s₁.setTop (mkF m 14 #[.val (.long q1), .second, .val (.long q2), .second, .val (.long (q1 + q2)), .second] [(.long q2)]))
    refine Rch.go (X0.ldc2Long hx hown (mvT hZ (ow8 hw)) (g := (mkF m 14 #[.val (.long q1), .second, .val (.long q2), .second, .val (.long (q1 + q2)), .second] [(.long q2)])) rfl (hb hby d2_14)) ?_
    show Rch _ _ _ _ (s₁.setTop (mkF m 17 #[.val (.long q1), .second, .val (.long q2), .second, .val (.long (q1 + q2)), .second] [(.long (-9223372036854775808 : Int64)), (.long q2)]))
    refine Rch.go (fun zt zk => XS.lcmp X0.here hx rfl (hb hby d2_17) rfl zk) ?_
    show Rch _ _ _ _ (s₁.setTop (mkF m 18 #[.val (.long q1), .second, .val (.long q2), .second, .val (.long (q1 + q2)), .second] [(.int (lcmpW q2 (-9223372036854775808 : Int64)))]))
    by_cases hc18_2 : (lcmpW q2 (-9223372036854775808 : Int64)) = (0 : Int32)
    · skip
      refine Rch.go (fun zt zk => XS.ifNo X0.here hx rfl (hb hby d2_18) rfl ((if0 _ _).trans (teq hc18_2).2) zk) ?_
      show Rch _ _ _ _ (s₁.setTop (mkF m 21 #[.val (.long q1), .second, .val (.long q2), .second, .val (.long (q1 + q2)), .second] []))
      refine Rch.go (X0.ldc2Long hx hown (mvT hZ (ow8 hw)) (g := (mkF m 21 #[.val (.long q1), .second, .val (.long q2), .second, .val (.long (q1 + q2)), .second] [])) rfl (hb hby d2_21)) ?_
      show Rch _ _ _ _ (s₁.setTop (mkF m 24 #[.val (.long q1), .second, .val (.long q2), .second, .val (.long (q1 + q2)), .second] [(.long (-9223372036854775808 : Int64))]))
      refine Rch.go (fun zt zk => XS.lstore X0.here hx rfl (hb hby d2_24) rfl (l' := #[.val (.long q1), .second, .val (.long q2), .second, .val (.long (-9223372036854775808 : Int64)), .second]) rfl zk) ?_
      show Rch _ _ _ _ (s₁.setTop (mkF m 26 #[.val (.long q1), .second, .val (.long q2), .second, .val (.long (-9223372036854775808 : Int64)), .second] []))
      refine Rch.go (fun zt zk => XS.goto X0.here hx rfl (pc0 := 26) (pc' := 101) rfl (hb hby d2_26) (by decide) (by decide) zk) ?_
      show Rch _ _ _ _ (s₁.setTop (mkF m 101 #[.val (.long q1), .second, .val (.long q2), .second, .val (.long (-9223372036854775808 : Int64)), .second] []))
      refine Rch.go (fun zt zk => XS.lload X0.here hx rfl (hb hby d2_101) rfl zk) ?_
      show Rch _ _ _ _ (s₁.setTop (mkF m 103 #[.val (.long q1), .second, .val (.long q2), .second, .val (.long (-9223372036854775808 : Int64)), .second] [(.long (-9223372036854775808 : Int64))]))
      obtain ⟨fs, hr, hrun, hended, hW, hsame⟩ := X0.leave (v := some (.long (-9223372036854775808 : Int64))) (fun h => by rw [Bd.returns] at h; cases h)
      have hend : Steps p.tables e below (s₁.setTop (mkF m 103 #[.val (.long q1), .second, .val (.long q2), .second, .val (.long (-9223372036854775808 : Int64)), .second] [(.long (-9223372036854775808 : Int64))])) (s₁.setFrames fs) := by
        jvm_step X0.here [X0.here.top, hx, (hb hby d2_103), X0.method', Bd.returns, narrow]
        first | (intro acts; rw [hr _ acts rfl rfl rfl]) | rw [hr _ _ rfl rfl rfl]
        exact Steps.refl _
      refine Rch.mk (hend) (hPd _ _ _ _ hrun hended rfl ?_ ⟨⟨_, rfl⟩, hW, hsame.mono (by decide) (by decide)⟩)
      show Q_rm2 Z q1 q2 h0 n0 _ s₁.heap _
      have hF : fAdd q1 q2 = (-9223372036854775808 : Int64) := ((if_neg hc10_1).trans ((if_pos hc18_2).trans rfl))
      rw [e0]
      exact ⟨by rw [hF], N0, rfl⟩
    · skip
      refine Rch.go (fun zt zk => XS.ifYes X0.here hx rfl (pc0 := 18) (pc' := 29) rfl (hb hby d2_18) rfl ((if0 _ _).trans (feq hc18_2).2) (by decide) (by decide) zk) ?_
      show Rch _ _ _ _ (s₁.setTop (mkF m 29 #[.val (.long q1), .second, .val (.long q2), .second, .val (.long (q1 + q2)), .second] []))
      refine Rch.go (fun zt zk => XS.lloadN X0.here hx rfl (hb hby d2_29) rfl zk) ?_
      show Rch _ _ _ _ (s₁.setTop (mkF m 30 #[.val (.long q1), .second, .val (.long q2), .second, .val (.long (q1 + q2)), .second] [(.long q1)]))
      refine Rch.go (X0.ldc2Long hx hown (mvT hZ (ow9 hw)) (g := (mkF m 30 #[.val (.long q1), .second, .val (.long q2), .second, .val (.long (q1 + q2)), .second] [(.long q1)])) rfl (hb hby d2_30)) ?_
      show Rch _ _ _ _ (s₁.setTop (mkF m 33 #[.val (.long q1), .second, .val (.long q2), .second, .val (.long (q1 + q2)), .second] [(.long (9223372036854775807 : Int64)), (.long q1)]))
      refine Rch.go (fun zt zk => XS.lcmp X0.here hx rfl (hb hby d2_33) rfl zk) ?_
      show Rch _ _ _ _ (s₁.setTop (mkF m 34 #[.val (.long q1), .second, .val (.long q2), .second, .val (.long (q1 + q2)), .second] [(.int (lcmpW q1 (9223372036854775807 : Int64)))]))
      by_cases hc34_3 : (lcmpW q1 (9223372036854775807 : Int64)) = (0 : Int32)
      · skip
        refine Rch.go (fun zt zk => XS.ifYes X0.here hx rfl (pc0 := 34) (pc' := 45) rfl (hb hby d2_34) rfl ((if0 _ _).trans (teq hc34_3).1) (by decide) (by decide) zk) ?_
        show Rch _ _ _ _ (s₁.setTop (mkF m 45 #[.val (.long q1), .second, .val (.long q2), .second, .val (.long (q1 + q2)), .second] []))
        refine Rch.go (X0.ldc2Long hx hown (mvT hZ (ow9 hw)) (g := (mkF m 45 #[.val (.long q1), .second, .val (.long q2), .second, .val (.long (q1 + q2)), .second] [])) rfl (hb hby d2_45)) ?_
        show Rch _ _ _ _ (s₁.setTop (mkF m 48 #[.val (.long q1), .second, .val (.long q2), .second, .val (.long (q1 + q2)), .second] [(.long (9223372036854775807 : Int64))]))
        refine Rch.go (fun zt zk => XS.lstore X0.here hx rfl (hb hby d2_48) rfl (l' := #[.val (.long q1), .second, .val (.long q2), .second, .val (.long (9223372036854775807 : Int64)), .second]) rfl zk) ?_
        show Rch _ _ _ _ (s₁.setTop (mkF m 50 #[.val (.long q1), .second, .val (.long q2), .second, .val (.long (9223372036854775807 : Int64)), .second] []))
        refine Rch.go (fun zt zk => XS.goto X0.here hx rfl (pc0 := 50) (pc' := 101) rfl (hb hby d2_50) (by decide) (by decide) zk) ?_
        show Rch _ _ _ _ (s₁.setTop (mkF m 101 #[.val (.long q1), .second, .val (.long q2), .second, .val (.long (9223372036854775807 : Int64)), .second] []))
        refine Rch.go (fun zt zk => XS.lload X0.here hx rfl (hb hby d2_101) rfl zk) ?_
        show Rch _ _ _ _ (s₁.setTop (mkF m 103 #[.val (.long q1), .second, .val (.long q2), .second, .val (.long (9223372036854775807 : Int64)), .second] [(.long (9223372036854775807 : Int64))]))
        obtain ⟨fs, hr, hrun, hended, hW, hsame⟩ := X0.leave (v := some (.long (9223372036854775807 : Int64))) (fun h => by rw [Bd.returns] at h; cases h)
        have hend : Steps p.tables e below (s₁.setTop (mkF m 103 #[.val (.long q1), .second, .val (.long q2), .second, .val (.long (9223372036854775807 : Int64)), .second] [(.long (9223372036854775807 : Int64))])) (s₁.setFrames fs) := by
          jvm_step X0.here [X0.here.top, hx, (hb hby d2_103), X0.method', Bd.returns, narrow]
          first | (intro acts; rw [hr _ acts rfl rfl rfl]) | rw [hr _ _ rfl rfl rfl]
          exact Steps.refl _
        refine Rch.mk (hend) (hPd _ _ _ _ hrun hended rfl ?_ ⟨⟨_, rfl⟩, hW, hsame.mono (by decide) (by decide)⟩)
        show Q_rm2 Z q1 q2 h0 n0 _ s₁.heap _
        have hF : fAdd q1 q2 = (9223372036854775807 : Int64) := ((if_neg hc10_1).trans ((if_neg hc18_2).trans ((if_pos hc34_3).trans rfl)))
        rw [e0]
        exact ⟨by rw [hF], N0, rfl⟩
      · skip
        refine Rch.go (fun zt zk => XS.ifNo X0.here hx rfl (hb hby d2_34) rfl ((if0 _ _).trans (feq hc34_3).1) zk) ?_
        show Rch _ _ _ _ (s₁.setTop (mkF m 37 #[.val (.long q1), .second, .val (.long q2), .second, .val (.long (q1 + q2)), .second] []))
        refine Rch.go (fun zt zk => XS.lloadN X0.here hx rfl (hb hby d2_37) rfl zk) ?_
        show Rch _ _ _ _ (s₁.setTop (mkF m 38 #[.val (.long q1), .second, .val (.long q2), .second, .val (.long (q1 + q2)), .second] [(.long q2)]))
        refine Rch.go (X0.ldc2Long hx hown (mvT hZ (ow9 hw)) (g := (mkF m 38 #[.val (.long q1), .second, .val (.long q2), .second, .val (.long (q1 + q2)), .second] [(.long q2)])) rfl (hb hby d2_38)) ?_
        show Rch _ _ _ _ (s₁.setTop (mkF m 41 #[.val (.long q1), .second, .val (.long q2), .second, .val (.long (q1 + q2)), .second] [(.long (9223372036854775807 : Int64)), (.long q2)]))
        refine Rch.go (fun zt zk => XS.lcmp X0.here hx rfl (hb hby d2_41) rfl zk) ?_
        show Rch _ _ _ _ (s₁.setTop (mkF m 42 #[.val (.long q1), .second, .val (.long q2), .second, .val (.long (q1 + q2)), .second] [(.int (lcmpW q2 (9223372036854775807 : Int64)))]))
        by_cases hc42_4 : (lcmpW q2 (9223372036854775807 : Int64)) = (0 : Int32)
        · skip
          refine Rch.go (fun zt zk => XS.ifNo X0.here hx rfl (hb hby d2_42) rfl ((if0 _ _).trans (teq hc42_4).2) zk) ?_
          show Rch _ _ _ _ (s₁.setTop (mkF m 45 #[.val (.long q1), .second, .val (.long q2), .second, .val (.long (q1 + q2)), .second] []))
          refine Rch.go (X0.ldc2Long hx hown (mvT hZ (ow9 hw)) (g := (mkF m 45 #[.val (.long q1), .second, .val (.long q2), .second, .val (.long (q1 + q2)), .second] [])) rfl (hb hby d2_45)) ?_
          show Rch _ _ _ _ (s₁.setTop (mkF m 48 #[.val (.long q1), .second, .val (.long q2), .second, .val (.long (q1 + q2)), .second] [(.long (9223372036854775807 : Int64))]))
          refine Rch.go (fun zt zk => XS.lstore X0.here hx rfl (hb hby d2_48) rfl (l' := #[.val (.long q1), .second, .val (.long q2), .second, .val (.long (9223372036854775807 : Int64)), .second]) rfl zk) ?_
          show Rch _ _ _ _ (s₁.setTop (mkF m 50 #[.val (.long q1), .second, .val (.long q2), .second, .val (.long (9223372036854775807 : Int64)), .second] []))
          refine Rch.go (fun zt zk => XS.goto X0.here hx rfl (pc0 := 50) (pc' := 101) rfl (hb hby d2_50) (by decide) (by decide) zk) ?_
          show Rch _ _ _ _ (s₁.setTop (mkF m 101 #[.val (.long q1), .second, .val (.long q2), .second, .val (.long (9223372036854775807 : Int64)), .second] []))
          refine Rch.go (fun zt zk => XS.lload X0.here hx rfl (hb hby d2_101) rfl zk) ?_
          show Rch _ _ _ _ (s₁.setTop (mkF m 103 #[.val (.long q1), .second, .val (.long q2), .second, .val (.long (9223372036854775807 : Int64)), .second] [(.long (9223372036854775807 : Int64))]))
          obtain ⟨fs, hr, hrun, hended, hW, hsame⟩ := X0.leave (v := some (.long (9223372036854775807 : Int64))) (fun h => by rw [Bd.returns] at h; cases h)
          have hend : Steps p.tables e below (s₁.setTop (mkF m 103 #[.val (.long q1), .second, .val (.long q2), .second, .val (.long (9223372036854775807 : Int64)), .second] [(.long (9223372036854775807 : Int64))])) (s₁.setFrames fs) := by
            jvm_step X0.here [X0.here.top, hx, (hb hby d2_103), X0.method', Bd.returns, narrow]
            first | (intro acts; rw [hr _ acts rfl rfl rfl]) | rw [hr _ _ rfl rfl rfl]
            exact Steps.refl _
          refine Rch.mk (hend) (hPd _ _ _ _ hrun hended rfl ?_ ⟨⟨_, rfl⟩, hW, hsame.mono (by decide) (by decide)⟩)
          show Q_rm2 Z q1 q2 h0 n0 _ s₁.heap _
          have hF : fAdd q1 q2 = (9223372036854775807 : Int64) := ((if_neg hc10_1).trans ((if_neg hc18_2).trans ((if_neg hc34_3).trans ((if_pos hc42_4).trans rfl))))
          rw [e0]
          exact ⟨by rw [hF], N0, rfl⟩
        · skip
          refine Rch.go (fun zt zk => XS.ifYes X0.here hx rfl (pc0 := 42) (pc' := 53) rfl (hb hby d2_42) rfl ((if0 _ _).trans (feq hc42_4).2) (by decide) (by decide) zk) ?_
          show Rch _ _ _ _ (s₁.setTop (mkF m 53 #[.val (.long q1), .second, .val (.long q2), .second, .val (.long (q1 + q2)), .second] []))
          refine Rch.go (fun zt zk => XS.lloadN X0.here hx rfl (hb hby d2_53) rfl zk) ?_
          show Rch _ _ _ _ (s₁.setTop (mkF m 54 #[.val (.long q1), .second, .val (.long q2), .second, .val (.long (q1 + q2)), .second] [(.long q1)]))
          refine Rch.go (fun zt zk => XS.lload X0.here hx rfl (hb hby d2_54) rfl zk) ?_
          show Rch _ _ _ _ (s₁.setTop (mkF m 56 #[.val (.long q1), .second, .val (.long q2), .second, .val (.long (q1 + q2)), .second] [(.long (q1 + q2)), (.long q1)]))
          refine Rch.go (fun zt zk => XS.lxor X0.here hx rfl (hb hby d2_56) rfl zk) ?_
          show Rch _ _ _ _ (s₁.setTop (mkF m 57 #[.val (.long q1), .second, .val (.long q2), .second, .val (.long (q1 + q2)), .second] [(.long (q1 ^^^ (q1 + q2)))]))
          refine Rch.go (fun zt zk => XS.lloadN X0.here hx rfl (hb hby d2_57) rfl zk) ?_
          show Rch _ _ _ _ (s₁.setTop (mkF m 58 #[.val (.long q1), .second, .val (.long q2), .second, .val (.long (q1 + q2)), .second] [(.long q2), (.long (q1 ^^^ (q1 + q2)))]))
          refine Rch.go (fun zt zk => XS.lload X0.here hx rfl (hb hby d2_58) rfl zk) ?_
          show Rch _ _ _ _ (s₁.setTop (mkF m 60 #[.val (.long q1), .second, .val (.long q2), .second, .val (.long (q1 + q2)), .second] [(.long (q1 + q2)), (.long q2), (.long (q1 ^^^ (q1 + q2)))]))
          refine Rch.go (fun zt zk => XS.lxor X0.here hx rfl (hb hby d2_60) rfl zk) ?_
          show Rch _ _ _ _ (s₁.setTop (mkF m 61 #[.val (.long q1), .second, .val (.long q2), .second, .val (.long (q1 + q2)), .second] [(.long (q2 ^^^ (q1 + q2))), (.long (q1 ^^^ (q1 + q2)))]))
          refine Rch.go (fun zt zk => XS.land X0.here hx rfl (hb hby d2_61) rfl zk) ?_
          show Rch _ _ _ _ (s₁.setTop (mkF m 62 #[.val (.long q1), .second, .val (.long q2), .second, .val (.long (q1 + q2)), .second] [(.long ((q1 ^^^ (q1 + q2)) &&& (q2 ^^^ (q1 + q2))))]))
          refine Rch.go (fun zt zk => XS.lconst X0.here hx rfl (hb hby d2_62) zk) ?_
          show Rch _ _ _ _ (s₁.setTop (mkF m 63 #[.val (.long q1), .second, .val (.long q2), .second, .val (.long (q1 + q2)), .second] [(.long (0 : Int64)), (.long ((q1 ^^^ (q1 + q2)) &&& (q2 ^^^ (q1 + q2))))]))
          refine Rch.go (fun zt zk => XS.lcmp X0.here hx rfl (hb hby d2_63) rfl zk) ?_
          show Rch _ _ _ _ (s₁.setTop (mkF m 64 #[.val (.long q1), .second, .val (.long q2), .second, .val (.long (q1 + q2)), .second] [(.int (lcmpW ((q1 ^^^ (q1 + q2)) &&& (q2 ^^^ (q1 + q2))) (0 : Int64)))]))
          by_cases hc64_5 : (lcmpW ((q1 ^^^ (q1 + q2)) &&& (q2 ^^^ (q1 + q2))) (0 : Int64)) < (0 : Int32)
          · skip
            refine Rch.go (fun zt zk => XS.ifNo X0.here hx rfl (hb hby d2_64) rfl ((if0 _ _).trans (tlt hc64_5).2.1) zk) ?_
            show Rch _ _ _ _ (s₁.setTop (mkF m 67 #[.val (.long q1), .second, .val (.long q2), .second, .val (.long (q1 + q2)), .second] []))
            refine Rch.go (fun zt zk => XS.lloadN X0.here hx rfl (hb hby d2_67) rfl zk) ?_
            show Rch _ _ _ _ (s₁.setTop (mkF m 68 #[.val (.long q1), .second, .val (.long q2), .second, .val (.long (q1 + q2)), .second] [(.long q1)]))
            refine Rch.go (fun zt zk => XS.lconst X0.here hx rfl (hb hby d2_68) zk) ?_
            show Rch _ _ _ _ (s₁.setTop (mkF m 69 #[.val (.long q1), .second, .val (.long q2), .second, .val (.long (q1 + q2)), .second] [(.long (0 : Int64)), (.long q1)]))
            refine Rch.go (fun zt zk => XS.lcmp X0.here hx rfl (hb hby d2_69) rfl zk) ?_
            show Rch _ _ _ _ (s₁.setTop (mkF m 70 #[.val (.long q1), .second, .val (.long q2), .second, .val (.long (q1 + q2)), .second] [(.int (lcmpW q1 (0 : Int64)))]))
            by_cases hc70_6 : (0 : Int32) < (lcmpW q1 (0 : Int64))
            · skip
              refine Rch.go (fun zt zk => XS.ifNo X0.here hx rfl (hb hby d2_70) rfl ((if0 _ _).trans (tlt hc70_6).2.2.2) zk) ?_
              show Rch _ _ _ _ (s₁.setTop (mkF m 73 #[.val (.long q1), .second, .val (.long q2), .second, .val (.long (q1 + q2)), .second] []))
              refine Rch.go (X0.ldc2Long hx hown (mvT hZ (ow16 hw)) (g := (mkF m 73 #[.val (.long q1), .second, .val (.long q2), .second, .val (.long (q1 + q2)), .second] [])) rfl (hb hby d2_73)) ?_
              show Rch _ _ _ _ (s₁.setTop (mkF m 76 #[.val (.long q1), .second, .val (.long q2), .second, .val (.long (q1 + q2)), .second] [(.long (9223372036854775806 : Int64))]))
              refine Rch.go (fun zt zk => XS.goto X0.here hx rfl (pc0 := 76) (pc' := 82) rfl (hb hby d2_76) (by decide) (by decide) zk) ?_
              show Rch _ _ _ _ (s₁.setTop (mkF m 82 #[.val (.long q1), .second, .val (.long q2), .second, .val (.long (q1 + q2)), .second] [(.long (9223372036854775806 : Int64))]))
              refine Rch.go (fun zt zk => XS.lstore X0.here hx rfl (hb hby d2_82) rfl (l' := #[.val (.long q1), .second, .val (.long q2), .second, .val (.long (9223372036854775806 : Int64)), .second]) rfl zk) ?_
              show Rch _ _ _ _ (s₁.setTop (mkF m 84 #[.val (.long q1), .second, .val (.long q2), .second, .val (.long (9223372036854775806 : Int64)), .second] []))
              refine Rch.go (fun zt zk => XS.goto X0.here hx rfl (pc0 := 84) (pc' := 101) rfl (hb hby d2_84) (by decide) (by decide) zk) ?_
              show Rch _ _ _ _ (s₁.setTop (mkF m 101 #[.val (.long q1), .second, .val (.long q2), .second, .val (.long (9223372036854775806 : Int64)), .second] []))
              refine Rch.go (fun zt zk => XS.lload X0.here hx rfl (hb hby d2_101) rfl zk) ?_
              show Rch _ _ _ _ (s₁.setTop (mkF m 103 #[.val (.long q1), .second, .val (.long q2), .second, .val (.long (9223372036854775806 : Int64)), .second] [(.long (9223372036854775806 : Int64))]))
              obtain ⟨fs, hr, hrun, hended, hW, hsame⟩ := X0.leave (v := some (.long (9223372036854775806 : Int64))) (fun h => by rw [Bd.returns] at h; cases h)
              have hend : Steps p.tables e below (s₁.setTop (mkF m 103 #[.val (.long q1), .second, .val (.long q2), .second, .val (.long (9223372036854775806 : Int64)), .second] [(.long (9223372036854775806 : Int64))])) (s₁.setFrames fs) := by
                jvm_step X0.here [X0.here.top, hx, (hb hby d2_103), X0.method', Bd.returns, narrow]
                first | (intro acts; rw [hr _ acts rfl rfl rfl]) | rw [hr _ _ rfl rfl rfl]
                exact Steps.refl _
              refine Rch.mk (hend) (hPd _ _ _ _ hrun hended rfl ?_ ⟨⟨_, rfl⟩, hW, hsame.mono (by decide) (by decide)⟩)
              show Q_rm2 Z q1 q2 h0 n0 _ s₁.heap _
              have hF : fAdd q1 q2 = (9223372036854775806 : Int64) := ((if_neg hc10_1).trans ((if_neg hc18_2).trans ((if_neg hc34_3).trans ((if_neg hc42_4).trans ((if_pos hc64_5).trans ((if_pos hc70_6).trans rfl))))))
              rw [e0]
              exact ⟨by rw [hF], N0, rfl⟩
            · skip
              refine Rch.go (fun zt zk => XS.ifYes X0.here hx rfl (pc0 := 70) (pc' := 79) rfl (hb hby d2_70) rfl ((if0 _ _).trans (flt hc70_6).2.2.2) (by decide) (by decide) zk) ?_
              show Rch _ _ _ _ (s₁.setTop (mkF m 79 #[.val (.long q1), .second, .val (.long q2), .second, .val (.long (q1 + q2)), .second] []))
              refine Rch.go (X0.ldc2Long hx hown (mvT hZ (ow8 hw)) (g := (mkF m 79 #[.val (.long q1), .second, .val (.long q2), .second, .val (.long (q1 + q2)), .second] [])) rfl (hb hby d2_79)) ?_
              show Rch _ _ _ _ (s₁.setTop (mkF m 82 #[.val (.long q1), .second, .val (.long q2), .second, .val (.long (q1 + q2)), .second] [(.long (-9223372036854775808 : Int64))]))
              refine Rch.go (fun zt zk => XS.lstore X0.here hx rfl (hb hby d2_82) rfl (l' := #[.val (.long q1), .second, .val (.long q2), .second, .val (.long (-9223372036854775808 : Int64)), .second]) rfl zk) ?_
              show Rch _ _ _ _ (s₁.setTop (mkF m 84 #[.val (.long q1), .second, .val (.long q2), .second, .val (.long (-9223372036854775808 : Int64)), .second] []))
              refine Rch.go (fun zt zk => XS.goto X0.here hx rfl (pc0 := 84) (pc' := 101) rfl (hb hby d2_84) (by decide) (by decide) zk) ?_
              show Rch _ _ _ _ (s₁.setTop (mkF m 101 #[.val (.long q1), .second, .val (.long q2), .second, .val (.long (-9223372036854775808 : Int64)), .second] []))
              refine Rch.go (fun zt zk => XS.lload X0.here hx rfl (hb hby d2_101) rfl zk) ?_
              show Rch _ _ _ _ (s₁.setTop (mkF m 103 #[.val (.long q1), .second, .val (.long q2), .second, .val (.long (-9223372036854775808 : Int64)), .second] [(.long (-9223372036854775808 : Int64))]))
              obtain ⟨fs, hr, hrun, hended, hW, hsame⟩ := X0.leave (v := some (.long (-9223372036854775808 : Int64))) (fun h => by rw [Bd.returns] at h; cases h)
              have hend : Steps p.tables e below (s₁.setTop (mkF m 103 #[.val (.long q1), .second, .val (.long q2), .second, .val (.long (-9223372036854775808 : Int64)), .second] [(.long (-9223372036854775808 : Int64))])) (s₁.setFrames fs) := by
                jvm_step X0.here [X0.here.top, hx, (hb hby d2_103), X0.method', Bd.returns, narrow]
                first | (intro acts; rw [hr _ acts rfl rfl rfl]) | rw [hr _ _ rfl rfl rfl]
                exact Steps.refl _
              refine Rch.mk (hend) (hPd _ _ _ _ hrun hended rfl ?_ ⟨⟨_, rfl⟩, hW, hsame.mono (by decide) (by decide)⟩)
              show Q_rm2 Z q1 q2 h0 n0 _ s₁.heap _
              have hF : fAdd q1 q2 = (-9223372036854775808 : Int64) := ((if_neg hc10_1).trans ((if_neg hc18_2).trans ((if_neg hc34_3).trans ((if_neg hc42_4).trans ((if_pos hc64_5).trans ((if_neg hc70_6).trans rfl))))))
              rw [e0]
              exact ⟨by rw [hF], N0, rfl⟩
          · skip
            refine Rch.go (fun zt zk => XS.ifYes X0.here hx rfl (pc0 := 64) (pc' := 87) rfl (hb hby d2_64) rfl ((if0 _ _).trans (flt hc64_5).2.1) (by decide) (by decide) zk) ?_
            show Rch _ _ _ _ (s₁.setTop (mkF m 87 #[.val (.long q1), .second, .val (.long q2), .second, .val (.long (q1 + q2)), .second] []))
            refine Rch.go (fun zt zk => XS.lload X0.here hx rfl (hb hby d2_87) rfl zk) ?_
            show Rch _ _ _ _ (s₁.setTop (mkF m 89 #[.val (.long q1), .second, .val (.long q2), .second, .val (.long (q1 + q2)), .second] [(.long (q1 + q2))]))
            refine Rch.go (X0.ldc2Long hx hown (mvT hZ (ow9 hw)) (g := (mkF m 89 #[.val (.long q1), .second, .val (.long q2), .second, .val (.long (q1 + q2)), .second] [(.long (q1 + q2))])) rfl (hb hby d2_89)) ?_
            show Rch _ _ _ _ (s₁.setTop (mkF m 92 #[.val (.long q1), .second, .val (.long q2), .second, .val (.long (q1 + q2)), .second] [(.long (9223372036854775807 : Int64)), (.long (q1 + q2))]))
            refine Rch.go (fun zt zk => XS.lcmp X0.here hx rfl (hb hby d2_92) rfl zk) ?_
            show Rch _ _ _ _ (s₁.setTop (mkF m 93 #[.val (.long q1), .second, .val (.long q2), .second, .val (.long (q1 + q2)), .second] [(.int (lcmpW (q1 + q2) (9223372036854775807 : Int64)))]))
            by_cases hc93_7 : (lcmpW (q1 + q2) (9223372036854775807 : Int64)) = (0 : Int32)
            · skip
              refine Rch.go (fun zt zk => XS.ifNo X0.here hx rfl (hb hby d2_93) rfl ((if0 _ _).trans (teq hc93_7).2) zk) ?_
              show Rch _ _ _ _ (s₁.setTop (mkF m 96 #[.val (.long q1), .second, .val (.long q2), .second, .val (.long (q1 + q2)), .second] []))
              refine Rch.go (X0.ldc2Long hx hown (mvT hZ (ow16 hw)) (g := (mkF m 96 #[.val (.long q1), .second, .val (.long q2), .second, .val (.long (q1 + q2)), .second] [])) rfl (hb hby d2_96)) ?_
              show Rch _ _ _ _ (s₁.setTop (mkF m 99 #[.val (.long q1), .second, .val (.long q2), .second, .val (.long (q1 + q2)), .second] [(.long (9223372036854775806 : Int64))]))
              refine Rch.go (fun zt zk => XS.lstore X0.here hx rfl (hb hby d2_99) rfl (l' := #[.val (.long q1), .second, .val (.long q2), .second, .val (.long (9223372036854775806 : Int64)), .second]) rfl zk) ?_
              show Rch _ _ _ _ (s₁.setTop (mkF m 101 #[.val (.long q1), .second, .val (.long q2), .second, .val (.long (9223372036854775806 : Int64)), .second] []))
              refine Rch.go (fun zt zk => XS.lload X0.here hx rfl (hb hby d2_101) rfl zk) ?_
              show Rch _ _ _ _ (s₁.setTop (mkF m 103 #[.val (.long q1), .second, .val (.long q2), .second, .val (.long (9223372036854775806 : Int64)), .second] [(.long (9223372036854775806 : Int64))]))
              obtain ⟨fs, hr, hrun, hended, hW, hsame⟩ := X0.leave (v := some (.long (9223372036854775806 : Int64))) (fun h => by rw [Bd.returns] at h; cases h)
              have hend : Steps p.tables e below (s₁.setTop (mkF m 103 #[.val (.long q1), .second, .val (.long q2), .second, .val (.long (9223372036854775806 : Int64)), .second] [(.long (9223372036854775806 : Int64))])) (s₁.setFrames fs) := by
                jvm_step X0.here [X0.here.top, hx, (hb hby d2_103), X0.method', Bd.returns, narrow]
                first | (intro acts; rw [hr _ acts rfl rfl rfl]) | rw [hr _ _ rfl rfl rfl]
                exact Steps.refl _
              refine Rch.mk (hend) (hPd _ _ _ _ hrun hended rfl ?_ ⟨⟨_, rfl⟩, hW, hsame.mono (by decide) (by decide)⟩)
              show Q_rm2 Z q1 q2 h0 n0 _ s₁.heap _
              have hF : fAdd q1 q2 = (9223372036854775806 : Int64) := ((if_neg hc10_1).trans ((if_neg hc18_2).trans ((if_neg hc34_3).trans ((if_neg hc42_4).trans ((if_neg hc64_5).trans ((if_pos hc93_7).trans rfl))))))
              rw [e0]
              exact ⟨by rw [hF], N0, rfl⟩
            · skip
              refine Rch.go (fun zt zk => XS.ifYes X0.here hx rfl (pc0 := 93) (pc' := 101) rfl (hb hby d2_93) rfl ((if0 _ _).trans (feq hc93_7).2) (by decide) (by decide) zk) ?_
              show Rch _ _ _ _ (s₁.setTop (mkF m 101 #[.val (.long q1), .second, .val (.long q2), .second, .val (.long (q1 + q2)), .second] []))
              refine Rch.go (fun zt zk => XS.lload X0.here hx rfl (hb hby d2_101) rfl zk) ?_
              show Rch _ _ _ _ (s₁.setTop (mkF m 103 #[.val (.long q1), .second, .val (.long q2), .second, .val (.long (q1 + q2)), .second] [(.long (q1 + q2))]))
              obtain ⟨fs, hr, hrun, hended, hW, hsame⟩ := X0.leave (v := some (.long (q1 + q2))) (fun h => by rw [Bd.returns] at h; cases h)
              have hend : Steps p.tables e below (s₁.setTop (mkF m 103 #[.val (.long q1), .second, .val (.long q2), .second, .val (.long (q1 + q2)), .second] [(.long (q1 + q2))])) (s₁.setFrames fs) := by
                jvm_step X0.here [X0.here.top, hx, (hb hby d2_103), X0.method', Bd.returns, narrow]
                first | (intro acts; rw [hr _ acts rfl rfl rfl]) | rw [hr _ _ rfl rfl rfl]
                exact Steps.refl _
              refine Rch.mk (hend) (hPd _ _ _ _ hrun hended rfl ?_ ⟨⟨_, rfl⟩, hW, hsame.mono (by decide) (by decide)⟩)
              show Q_rm2 Z q1 q2 h0 n0 _ s₁.heap _
              have hF : fAdd q1 q2 = (q1 + q2) := ((if_neg hc10_1).trans ((if_neg hc18_2).trans ((if_neg hc34_3).trans ((if_neg hc42_4).trans ((if_neg hc64_5).trans ((if_neg hc93_7).trans rfl))))))
              rw [e0]
              exact ⟨by rw [hF], N0, rfl⟩
def fRef (q1 : Int64) (q2 : Int64) : Int64 := (if (lcmpW q1 (-9223372036854775808 : Int64)) = (0 : Int32) then (-9223372036854775808 : Int64) else (if (lcmpW q2 (-9223372036854775808 : Int64)) = (0 : Int32) then (-9223372036854775808 : Int64) else (if (lcmpW q1 (9223372036854775807 : Int64)) = (0 : Int32) then (9223372036854775807 : Int64) else (if (lcmpW q2 (9223372036854775807 : Int64)) = (0 : Int32) then (9223372036854775807 : Int64) else (if (0 : Int32) < (lcmpW q2 (0 : Int64)) then (if (lcmpW q1 ((9223372036854775807 : Int64) - q2)) < (0 : Int32) then (if (lcmpW q2 (0 : Int64)) < (0 : Int32) then (if (lcmpW q1 ((-9223372036854775808 : Int64) - q2)) < (0 : Int32) then (-9223372036854775808 : Int64) else (q1 + q2)) else (q1 + q2)) else (9223372036854775806 : Int64)) else (if (lcmpW q2 (0 : Int64)) < (0 : Int32) then (if (lcmpW q1 ((-9223372036854775808 : Int64) - q2)) < (0 : Int32) then (-9223372036854775808 : Int64) else (q1 + q2)) else (q1 + q2)))))))
theorem ef_rm3 (m : MethodId) (q1 : Int64) (q2 : Int64) : entryFrame m #[(.long q1), (.long q2)] 4 = mkF m 0 #[.val (.long q1), .second, .val (.long q2), .second] [] := by first | (simp [entryFrame, mkF, argsToLocals, Value.category]; done) | rfl
theorem d3_0 : decode method_4_code 0 = .ok (.lload_n 0, 1) := by decide +kernel
theorem d3_1 : decode method_4_code 1 = .ok (.ldc2_w 24, 3) := by decide +kernel
theorem d3_4 : decode method_4_code 4 = .ok (.lcmp, 1) := by decide +kernel
theorem d3_5 : decode method_4_code 5 = .ok (.ifCond .eq 11, 3) := by decide +kernel
theorem d3_16 : decode method_4_code 16 = .ok (.ldc2_w 24, 3) := by decide +kernel
theorem d3_19 : decode method_4_code 19 = .ok (.lreturn, 1) := by decide +kernel
theorem d3_8 : decode method_4_code 8 = .ok (.lload_n 2, 1) := by decide +kernel
theorem d3_9 : decode method_4_code 9 = .ok (.ldc2_w 24, 3) := by decide +kernel
theorem d3_12 : decode method_4_code 12 = .ok (.lcmp, 1) := by decide +kernel
theorem d3_13 : decode method_4_code 13 = .ok (.ifCond .ne 7, 3) := by decide +kernel
theorem d3_20 : decode method_4_code 20 = .ok (.lload_n 0, 1) := by decide +kernel
theorem d3_21 : decode method_4_code 21 = .ok (.ldc2_w 26, 3) := by decide +kernel
theorem d3_24 : decode method_4_code 24 = .ok (.lcmp, 1) := by decide +kernel
theorem d3_25 : decode method_4_code 25 = .ok (.ifCond .eq 11, 3) := by decide +kernel
theorem d3_36 : decode method_4_code 36 = .ok (.ldc2_w 26, 3) := by decide +kernel
theorem d3_39 : decode method_4_code 39 = .ok (.lreturn, 1) := by decide +kernel
theorem d3_28 : decode method_4_code 28 = .ok (.lload_n 2, 1) := by decide +kernel
theorem d3_29 : decode method_4_code 29 = .ok (.ldc2_w 26, 3) := by decide +kernel
theorem d3_32 : decode method_4_code 32 = .ok (.lcmp, 1) := by decide +kernel
theorem d3_33 : decode method_4_code 33 = .ok (.ifCond .ne 7, 3) := by decide +kernel
theorem d3_40 : decode method_4_code 40 = .ok (.lload_n 2, 1) := by decide +kernel
theorem d3_41 : decode method_4_code 41 = .ok (.lconst 0, 1) := by decide +kernel
theorem d3_42 : decode method_4_code 42 = .ok (.lcmp, 1) := by decide +kernel
theorem d3_43 : decode method_4_code 43 = .ok (.ifCond .le 17, 3) := by decide +kernel
theorem d3_46 : decode method_4_code 46 = .ok (.lload_n 0, 1) := by decide +kernel
theorem d3_47 : decode method_4_code 47 = .ok (.ldc2_w 26, 3) := by decide +kernel
theorem d3_50 : decode method_4_code 50 = .ok (.lload_n 2, 1) := by decide +kernel
theorem d3_51 : decode method_4_code 51 = .ok (.lsub, 1) := by decide +kernel
theorem d3_52 : decode method_4_code 52 = .ok (.lcmp, 1) := by decide +kernel
theorem d3_53 : decode method_4_code 53 = .ok (.ifCond .lt 7, 3) := by decide +kernel
theorem d3_60 : decode method_4_code 60 = .ok (.lload_n 2, 1) := by decide +kernel
theorem d3_61 : decode method_4_code 61 = .ok (.lconst 0, 1) := by decide +kernel
theorem d3_62 : decode method_4_code 62 = .ok (.lcmp, 1) := by decide +kernel
theorem d3_63 : decode method_4_code 63 = .ok (.ifCond .ge 17, 3) := by decide +kernel
theorem d3_66 : decode method_4_code 66 = .ok (.lload_n 0, 1) := by decide +kernel
theorem d3_67 : decode method_4_code 67 = .ok (.ldc2_w 24, 3) := by decide +kernel
theorem d3_70 : decode method_4_code 70 = .ok (.lload_n 2, 1) := by decide +kernel
theorem d3_71 : decode method_4_code 71 = .ok (.lsub, 1) := by decide +kernel
theorem d3_72 : decode method_4_code 72 = .ok (.lcmp, 1) := by decide +kernel
theorem d3_73 : decode method_4_code 73 = .ok (.ifCond .ge 7, 3) := by decide +kernel
theorem d3_76 : decode method_4_code 76 = .ok (.ldc2_w 24, 3) := by decide +kernel
theorem d3_79 : decode method_4_code 79 = .ok (.lreturn, 1) := by decide +kernel
theorem d3_80 : decode method_4_code 80 = .ok (.lload_n 0, 1) := by decide +kernel
theorem d3_81 : decode method_4_code 81 = .ok (.lload_n 2, 1) := by decide +kernel
theorem d3_82 : decode method_4_code 82 = .ok (.ladd, 1) := by decide +kernel
theorem d3_83 : decode method_4_code 83 = .ok (.lreturn, 1) := by decide +kernel
theorem d3_56 : decode method_4_code 56 = .ok (.ldc2_w 30, 3) := by decide +kernel
theorem d3_59 : decode method_4_code 59 = .ok (.lreturn, 1) := by decide +kernel
def Q_rm3 (Z : State) (q1 : Int64) (q2 : Int64) (h0 : Heap) (n0 : Nat) (v : Option Value) (h : Heap) (L : List Loc) : Prop := v = some (.long (fRef q1 q2)) ∧ Fr n0 L ∧ h = h0
set_option maxRecDepth 65536 in
set_option maxHeartbeats 40000000 in
theorem rm3 (l : Launch) (Z : State) (a0 : Array Value) (hw : ∀ d ∈ tables_1, d.before a0 Z = true) (ws : List Jvm.Cond) (q1 : Int64) (q2 : Int64) (h0 : Heap) (n0 : Nat) (Z0 : n0 ≤ h0.size) :
    MetFree l (⟨"com/example/quotaria/quotaria/ccq/CutoffRelaxationAddPinLaw", "reference", "(JJ)J"⟩ : MethodName) (head1 (Jvm.Cond.code (⟨"com/example/quotaria/quotaria/ccq/CutoffRelaxationAddPinLaw", "reference", "(JJ)J"⟩ : MethodName) method_4_code 4 (some .long) :: ws) ({ frames := 0, cells := 0, slots := 0, locals := 0 } : Room)) (fun a U => a = #[(.long q1), (.long q2)] ∧ Z.Warmed39 U.vm ∧ U.heap = h0) (fun _ _ _ _ _ => True) (fun _ U o U' => ∃ v L, o = .returned v ∧ Q_rm3 Z q1 q2 h0 n0 v U'.heap L ∧ FrameEnd U o U' L ({ frames := 0, cells := 0, slots := 0, locals := 0 } : Room).cells ({ frames := 0, cells := 0, slots := 0, locals := 0 } : Room).slots) := by
  refine MetFree.of_bodySF (plainFor_of_name pn_com_example_quotaria_quotaria_ccq_CutoffRelaxationAddPinLaw) hisR ?_
  intro p e s m args below meth c s₁ Bd hml0 hP hK
  obtain ⟨rfl, hZ, hh⟩ := hP
  have hx := Bd.exec
  have hby := Bd.bytes
  have hml : c.maxLocals = 4 := hml0
  have hown : s.vm.findClass "com/example/quotaria/quotaria/ccq/CutoffRelaxationAddPinLaw" = some m.cls := findClass_of_methodNamed Bd.named
  have hnm := (name_of_methodNamed Bd.named Bd.method).1
  have X0 : Stand p l e ({ frames := 0, cells := 0, slots := 0, locals := 0 } : Room) s m #[(.long q1), (.long q2)] below meth c s₁ [] 0 0 := Stand.of_body Bd
  have e0 : s₁.heap = h0 := by rw [← hh, Bd.state]; rfl
  have N0 := Fr.nil n0
  suffices hR : ∀ P : State → Prop, (∀ s₂ o v L, s₂.status = .running → Ended s₂ below o → o = .returned v → Q_rm3 Z q1 q2 h0 n0 v s₂.heap L → FrameEnd s o s₂ L ({ frames := 0, cells := 0, slots := 0, locals := 0 } : Room).cells ({ frames := 0, cells := 0, slots := 0, locals := 0 } : Room).slots → P s₂) → Rch p.tables e below P (s₁.setTop (mkF m 0 #[.val (.long q1), .second, .val (.long q2), .second] [])) by
    obtain ⟨s₂, h1, o, h2⟩ := hR (fun s₂ => ∃ o, s₂.status = .running ∧ Ended s₂ below o ∧ ∃ v L, o = .returned v ∧ Q_rm3 Z q1 q2 h0 n0 v s₂.heap L ∧ FrameEnd s o s₂ L ({ frames := 0, cells := 0, slots := 0, locals := 0 } : Room).cells ({ frames := 0, cells := 0, slots := 0, locals := 0 } : Room).slots) (fun s₂ o v L q1 q2 q3 q4 q5 => ⟨o, q1, q2, v, L, q3, q4, q5⟩)
    exact ⟨s₂, o, castTop (ef_rm3 m q1 q2) h1, h2⟩
  intro P hPd
  refine Rch.go (fun zt zk => XS.lloadN X0.here hx rfl (hb hby d3_0) rfl zk) ?_
  show Rch _ _ _ _ (s₁.setTop (mkF m 1 #[.val (.long q1), .second, .val (.long q2), .second] [(.long q1)]))
  refine Rch.go (X0.ldc2Long hx hown (mvT hZ (ow13 hw)) (g := (mkF m 1 #[.val (.long q1), .second, .val (.long q2), .second] [(.long q1)])) rfl (hb hby d3_1)) ?_
  show Rch _ _ _ _ (s₁.setTop (mkF m 4 #[.val (.long q1), .second, .val (.long q2), .second] [(.long (-9223372036854775808 : Int64)), (.long q1)]))
  refine Rch.go (fun zt zk => XS.lcmp X0.here hx rfl (hb hby d3_4) rfl zk) ?_
  show Rch _ _ _ _ (s₁.setTop (mkF m 5 #[.val (.long q1), .second, .val (.long q2), .second] [(.int (lcmpW q1 (-9223372036854775808 : Int64)))]))
  by_cases hc5_1 : (lcmpW q1 (-9223372036854775808 : Int64)) = (0 : Int32)
  · skip
    refine Rch.go (fun zt zk => XS.ifYes X0.here hx rfl (pc0 := 5) (pc' := 16) rfl (hb hby d3_5) rfl ((if0 _ _).trans (teq hc5_1).1) (by decide) (by decide) zk) ?_
    show Rch _ _ _ _ (s₁.setTop (mkF m 16 #[.val (.long q1), .second, .val (.long q2), .second] []))
    refine Rch.go (X0.ldc2Long hx hown (mvT hZ (ow13 hw)) (g := (mkF m 16 #[.val (.long q1), .second, .val (.long q2), .second] [])) rfl (hb hby d3_16)) ?_
    show Rch _ _ _ _ (s₁.setTop (mkF m 19 #[.val (.long q1), .second, .val (.long q2), .second] [(.long (-9223372036854775808 : Int64))]))
    obtain ⟨fs, hr, hrun, hended, hW, hsame⟩ := X0.leave (v := some (.long (-9223372036854775808 : Int64))) (fun h => by rw [Bd.returns] at h; cases h)
    have hend : Steps p.tables e below (s₁.setTop (mkF m 19 #[.val (.long q1), .second, .val (.long q2), .second] [(.long (-9223372036854775808 : Int64))])) (s₁.setFrames fs) := by
      jvm_step X0.here [X0.here.top, hx, (hb hby d3_19), X0.method', Bd.returns, narrow]
      first | (intro acts; rw [hr _ acts rfl rfl rfl]) | rw [hr _ _ rfl rfl rfl]
      exact Steps.refl _
    refine Rch.mk (hend) (hPd _ _ _ _ hrun hended rfl ?_ ⟨⟨_, rfl⟩, hW, hsame.mono (by decide) (by decide)⟩)
    show Q_rm3 Z q1 q2 h0 n0 _ s₁.heap _
    have hF : fRef q1 q2 = (-9223372036854775808 : Int64) := ((if_pos hc5_1).trans rfl)
    rw [e0]
    exact ⟨by rw [hF], N0, rfl⟩
  · skip
    refine Rch.go (fun zt zk => XS.ifNo X0.here hx rfl (hb hby d3_5) rfl ((if0 _ _).trans (feq hc5_1).1) zk) ?_
    show Rch _ _ _ _ (s₁.setTop (mkF m 8 #[.val (.long q1), .second, .val (.long q2), .second] []))
    refine Rch.go (fun zt zk => XS.lloadN X0.here hx rfl (hb hby d3_8) rfl zk) ?_
    show Rch _ _ _ _ (s₁.setTop (mkF m 9 #[.val (.long q1), .second, .val (.long q2), .second] [(.long q2)]))
    refine Rch.go (X0.ldc2Long hx hown (mvT hZ (ow13 hw)) (g := (mkF m 9 #[.val (.long q1), .second, .val (.long q2), .second] [(.long q2)])) rfl (hb hby d3_9)) ?_
    show Rch _ _ _ _ (s₁.setTop (mkF m 12 #[.val (.long q1), .second, .val (.long q2), .second] [(.long (-9223372036854775808 : Int64)), (.long q2)]))
    refine Rch.go (fun zt zk => XS.lcmp X0.here hx rfl (hb hby d3_12) rfl zk) ?_
    show Rch _ _ _ _ (s₁.setTop (mkF m 13 #[.val (.long q1), .second, .val (.long q2), .second] [(.int (lcmpW q2 (-9223372036854775808 : Int64)))]))
    by_cases hc13_2 : (lcmpW q2 (-9223372036854775808 : Int64)) = (0 : Int32)
    · skip
      refine Rch.go (fun zt zk => XS.ifNo X0.here hx rfl (hb hby d3_13) rfl ((if0 _ _).trans (teq hc13_2).2) zk) ?_
      show Rch _ _ _ _ (s₁.setTop (mkF m 16 #[.val (.long q1), .second, .val (.long q2), .second] []))
      refine Rch.go (X0.ldc2Long hx hown (mvT hZ (ow13 hw)) (g := (mkF m 16 #[.val (.long q1), .second, .val (.long q2), .second] [])) rfl (hb hby d3_16)) ?_
      show Rch _ _ _ _ (s₁.setTop (mkF m 19 #[.val (.long q1), .second, .val (.long q2), .second] [(.long (-9223372036854775808 : Int64))]))
      obtain ⟨fs, hr, hrun, hended, hW, hsame⟩ := X0.leave (v := some (.long (-9223372036854775808 : Int64))) (fun h => by rw [Bd.returns] at h; cases h)
      have hend : Steps p.tables e below (s₁.setTop (mkF m 19 #[.val (.long q1), .second, .val (.long q2), .second] [(.long (-9223372036854775808 : Int64))])) (s₁.setFrames fs) := by
        jvm_step X0.here [X0.here.top, hx, (hb hby d3_19), X0.method', Bd.returns, narrow]
        first | (intro acts; rw [hr _ acts rfl rfl rfl]) | rw [hr _ _ rfl rfl rfl]
        exact Steps.refl _
      refine Rch.mk (hend) (hPd _ _ _ _ hrun hended rfl ?_ ⟨⟨_, rfl⟩, hW, hsame.mono (by decide) (by decide)⟩)
      show Q_rm3 Z q1 q2 h0 n0 _ s₁.heap _
      have hF : fRef q1 q2 = (-9223372036854775808 : Int64) := ((if_neg hc5_1).trans ((if_pos hc13_2).trans rfl))
      rw [e0]
      exact ⟨by rw [hF], N0, rfl⟩
    · skip
      refine Rch.go (fun zt zk => XS.ifYes X0.here hx rfl (pc0 := 13) (pc' := 20) rfl (hb hby d3_13) rfl ((if0 _ _).trans (feq hc13_2).2) (by decide) (by decide) zk) ?_
      show Rch _ _ _ _ (s₁.setTop (mkF m 20 #[.val (.long q1), .second, .val (.long q2), .second] []))
      refine Rch.go (fun zt zk => XS.lloadN X0.here hx rfl (hb hby d3_20) rfl zk) ?_
      show Rch _ _ _ _ (s₁.setTop (mkF m 21 #[.val (.long q1), .second, .val (.long q2), .second] [(.long q1)]))
      refine Rch.go (X0.ldc2Long hx hown (mvT hZ (ow14 hw)) (g := (mkF m 21 #[.val (.long q1), .second, .val (.long q2), .second] [(.long q1)])) rfl (hb hby d3_21)) ?_
      show Rch _ _ _ _ (s₁.setTop (mkF m 24 #[.val (.long q1), .second, .val (.long q2), .second] [(.long (9223372036854775807 : Int64)), (.long q1)]))
      refine Rch.go (fun zt zk => XS.lcmp X0.here hx rfl (hb hby d3_24) rfl zk) ?_
      show Rch _ _ _ _ (s₁.setTop (mkF m 25 #[.val (.long q1), .second, .val (.long q2), .second] [(.int (lcmpW q1 (9223372036854775807 : Int64)))]))
      by_cases hc25_3 : (lcmpW q1 (9223372036854775807 : Int64)) = (0 : Int32)
      · skip
        refine Rch.go (fun zt zk => XS.ifYes X0.here hx rfl (pc0 := 25) (pc' := 36) rfl (hb hby d3_25) rfl ((if0 _ _).trans (teq hc25_3).1) (by decide) (by decide) zk) ?_
        show Rch _ _ _ _ (s₁.setTop (mkF m 36 #[.val (.long q1), .second, .val (.long q2), .second] []))
        refine Rch.go (X0.ldc2Long hx hown (mvT hZ (ow14 hw)) (g := (mkF m 36 #[.val (.long q1), .second, .val (.long q2), .second] [])) rfl (hb hby d3_36)) ?_
        show Rch _ _ _ _ (s₁.setTop (mkF m 39 #[.val (.long q1), .second, .val (.long q2), .second] [(.long (9223372036854775807 : Int64))]))
        obtain ⟨fs, hr, hrun, hended, hW, hsame⟩ := X0.leave (v := some (.long (9223372036854775807 : Int64))) (fun h => by rw [Bd.returns] at h; cases h)
        have hend : Steps p.tables e below (s₁.setTop (mkF m 39 #[.val (.long q1), .second, .val (.long q2), .second] [(.long (9223372036854775807 : Int64))])) (s₁.setFrames fs) := by
          jvm_step X0.here [X0.here.top, hx, (hb hby d3_39), X0.method', Bd.returns, narrow]
          first | (intro acts; rw [hr _ acts rfl rfl rfl]) | rw [hr _ _ rfl rfl rfl]
          exact Steps.refl _
        refine Rch.mk (hend) (hPd _ _ _ _ hrun hended rfl ?_ ⟨⟨_, rfl⟩, hW, hsame.mono (by decide) (by decide)⟩)
        show Q_rm3 Z q1 q2 h0 n0 _ s₁.heap _
        have hF : fRef q1 q2 = (9223372036854775807 : Int64) := ((if_neg hc5_1).trans ((if_neg hc13_2).trans ((if_pos hc25_3).trans rfl)))
        rw [e0]
        exact ⟨by rw [hF], N0, rfl⟩
      · skip
        refine Rch.go (fun zt zk => XS.ifNo X0.here hx rfl (hb hby d3_25) rfl ((if0 _ _).trans (feq hc25_3).1) zk) ?_
        show Rch _ _ _ _ (s₁.setTop (mkF m 28 #[.val (.long q1), .second, .val (.long q2), .second] []))
        refine Rch.go (fun zt zk => XS.lloadN X0.here hx rfl (hb hby d3_28) rfl zk) ?_
        show Rch _ _ _ _ (s₁.setTop (mkF m 29 #[.val (.long q1), .second, .val (.long q2), .second] [(.long q2)]))
        refine Rch.go (X0.ldc2Long hx hown (mvT hZ (ow14 hw)) (g := (mkF m 29 #[.val (.long q1), .second, .val (.long q2), .second] [(.long q2)])) rfl (hb hby d3_29)) ?_
        show Rch _ _ _ _ (s₁.setTop (mkF m 32 #[.val (.long q1), .second, .val (.long q2), .second] [(.long (9223372036854775807 : Int64)), (.long q2)]))
        refine Rch.go (fun zt zk => XS.lcmp X0.here hx rfl (hb hby d3_32) rfl zk) ?_
        show Rch _ _ _ _ (s₁.setTop (mkF m 33 #[.val (.long q1), .second, .val (.long q2), .second] [(.int (lcmpW q2 (9223372036854775807 : Int64)))]))
        by_cases hc33_4 : (lcmpW q2 (9223372036854775807 : Int64)) = (0 : Int32)
        · skip
          refine Rch.go (fun zt zk => XS.ifNo X0.here hx rfl (hb hby d3_33) rfl ((if0 _ _).trans (teq hc33_4).2) zk) ?_
          show Rch _ _ _ _ (s₁.setTop (mkF m 36 #[.val (.long q1), .second, .val (.long q2), .second] []))
          refine Rch.go (X0.ldc2Long hx hown (mvT hZ (ow14 hw)) (g := (mkF m 36 #[.val (.long q1), .second, .val (.long q2), .second] [])) rfl (hb hby d3_36)) ?_
          show Rch _ _ _ _ (s₁.setTop (mkF m 39 #[.val (.long q1), .second, .val (.long q2), .second] [(.long (9223372036854775807 : Int64))]))
          obtain ⟨fs, hr, hrun, hended, hW, hsame⟩ := X0.leave (v := some (.long (9223372036854775807 : Int64))) (fun h => by rw [Bd.returns] at h; cases h)
          have hend : Steps p.tables e below (s₁.setTop (mkF m 39 #[.val (.long q1), .second, .val (.long q2), .second] [(.long (9223372036854775807 : Int64))])) (s₁.setFrames fs) := by
            jvm_step X0.here [X0.here.top, hx, (hb hby d3_39), X0.method', Bd.returns, narrow]
            first | (intro acts; rw [hr _ acts rfl rfl rfl]) | rw [hr _ _ rfl rfl rfl]
            exact Steps.refl _
          refine Rch.mk (hend) (hPd _ _ _ _ hrun hended rfl ?_ ⟨⟨_, rfl⟩, hW, hsame.mono (by decide) (by decide)⟩)
          show Q_rm3 Z q1 q2 h0 n0 _ s₁.heap _
          have hF : fRef q1 q2 = (9223372036854775807 : Int64) := ((if_neg hc5_1).trans ((if_neg hc13_2).trans ((if_neg hc25_3).trans ((if_pos hc33_4).trans rfl))))
          rw [e0]
          exact ⟨by rw [hF], N0, rfl⟩
        · skip
          refine Rch.go (fun zt zk => XS.ifYes X0.here hx rfl (pc0 := 33) (pc' := 40) rfl (hb hby d3_33) rfl ((if0 _ _).trans (feq hc33_4).2) (by decide) (by decide) zk) ?_
          show Rch _ _ _ _ (s₁.setTop (mkF m 40 #[.val (.long q1), .second, .val (.long q2), .second] []))
          refine Rch.go (fun zt zk => XS.lloadN X0.here hx rfl (hb hby d3_40) rfl zk) ?_
          show Rch _ _ _ _ (s₁.setTop (mkF m 41 #[.val (.long q1), .second, .val (.long q2), .second] [(.long q2)]))
          refine Rch.go (fun zt zk => XS.lconst X0.here hx rfl (hb hby d3_41) zk) ?_
          show Rch _ _ _ _ (s₁.setTop (mkF m 42 #[.val (.long q1), .second, .val (.long q2), .second] [(.long (0 : Int64)), (.long q2)]))
          refine Rch.go (fun zt zk => XS.lcmp X0.here hx rfl (hb hby d3_42) rfl zk) ?_
          show Rch _ _ _ _ (s₁.setTop (mkF m 43 #[.val (.long q1), .second, .val (.long q2), .second] [(.int (lcmpW q2 (0 : Int64)))]))
          by_cases hc43_5 : (0 : Int32) < (lcmpW q2 (0 : Int64))
          · skip
            refine Rch.go (fun zt zk => XS.ifNo X0.here hx rfl (hb hby d3_43) rfl ((if0 _ _).trans (tlt hc43_5).2.2.2) zk) ?_
            show Rch _ _ _ _ (s₁.setTop (mkF m 46 #[.val (.long q1), .second, .val (.long q2), .second] []))
            refine Rch.go (fun zt zk => XS.lloadN X0.here hx rfl (hb hby d3_46) rfl zk) ?_
            show Rch _ _ _ _ (s₁.setTop (mkF m 47 #[.val (.long q1), .second, .val (.long q2), .second] [(.long q1)]))
            refine Rch.go (X0.ldc2Long hx hown (mvT hZ (ow14 hw)) (g := (mkF m 47 #[.val (.long q1), .second, .val (.long q2), .second] [(.long q1)])) rfl (hb hby d3_47)) ?_
            show Rch _ _ _ _ (s₁.setTop (mkF m 50 #[.val (.long q1), .second, .val (.long q2), .second] [(.long (9223372036854775807 : Int64)), (.long q1)]))
            refine Rch.go (fun zt zk => XS.lloadN X0.here hx rfl (hb hby d3_50) rfl zk) ?_
            show Rch _ _ _ _ (s₁.setTop (mkF m 51 #[.val (.long q1), .second, .val (.long q2), .second] [(.long q2), (.long (9223372036854775807 : Int64)), (.long q1)]))
            refine Rch.go (fun zt zk => XS.lsub X0.here hx rfl (hb hby d3_51) rfl zk) ?_
            show Rch _ _ _ _ (s₁.setTop (mkF m 52 #[.val (.long q1), .second, .val (.long q2), .second] [(.long ((9223372036854775807 : Int64) - q2)), (.long q1)]))
            refine Rch.go (fun zt zk => XS.lcmp X0.here hx rfl (hb hby d3_52) rfl zk) ?_
            show Rch _ _ _ _ (s₁.setTop (mkF m 53 #[.val (.long q1), .second, .val (.long q2), .second] [(.int (lcmpW q1 ((9223372036854775807 : Int64) - q2)))]))
            by_cases hc53_6 : (lcmpW q1 ((9223372036854775807 : Int64) - q2)) < (0 : Int32)
            · skip
              refine Rch.go (fun zt zk => XS.ifYes X0.here hx rfl (pc0 := 53) (pc' := 60) rfl (hb hby d3_53) rfl ((if0 _ _).trans (tlt hc53_6).1) (by decide) (by decide) zk) ?_
              show Rch _ _ _ _ (s₁.setTop (mkF m 60 #[.val (.long q1), .second, .val (.long q2), .second] []))
              refine Rch.go (fun zt zk => XS.lloadN X0.here hx rfl (hb hby d3_60) rfl zk) ?_
              show Rch _ _ _ _ (s₁.setTop (mkF m 61 #[.val (.long q1), .second, .val (.long q2), .second] [(.long q2)]))
              refine Rch.go (fun zt zk => XS.lconst X0.here hx rfl (hb hby d3_61) zk) ?_
              show Rch _ _ _ _ (s₁.setTop (mkF m 62 #[.val (.long q1), .second, .val (.long q2), .second] [(.long (0 : Int64)), (.long q2)]))
              refine Rch.go (fun zt zk => XS.lcmp X0.here hx rfl (hb hby d3_62) rfl zk) ?_
              show Rch _ _ _ _ (s₁.setTop (mkF m 63 #[.val (.long q1), .second, .val (.long q2), .second] [(.int (lcmpW q2 (0 : Int64)))]))
              by_cases hc63_7 : (lcmpW q2 (0 : Int64)) < (0 : Int32)
              · skip
                refine Rch.go (fun zt zk => XS.ifNo X0.here hx rfl (hb hby d3_63) rfl ((if0 _ _).trans (tlt hc63_7).2.1) zk) ?_
                show Rch _ _ _ _ (s₁.setTop (mkF m 66 #[.val (.long q1), .second, .val (.long q2), .second] []))
                refine Rch.go (fun zt zk => XS.lloadN X0.here hx rfl (hb hby d3_66) rfl zk) ?_
                show Rch _ _ _ _ (s₁.setTop (mkF m 67 #[.val (.long q1), .second, .val (.long q2), .second] [(.long q1)]))
                refine Rch.go (X0.ldc2Long hx hown (mvT hZ (ow13 hw)) (g := (mkF m 67 #[.val (.long q1), .second, .val (.long q2), .second] [(.long q1)])) rfl (hb hby d3_67)) ?_
                show Rch _ _ _ _ (s₁.setTop (mkF m 70 #[.val (.long q1), .second, .val (.long q2), .second] [(.long (-9223372036854775808 : Int64)), (.long q1)]))
                refine Rch.go (fun zt zk => XS.lloadN X0.here hx rfl (hb hby d3_70) rfl zk) ?_
                show Rch _ _ _ _ (s₁.setTop (mkF m 71 #[.val (.long q1), .second, .val (.long q2), .second] [(.long q2), (.long (-9223372036854775808 : Int64)), (.long q1)]))
                refine Rch.go (fun zt zk => XS.lsub X0.here hx rfl (hb hby d3_71) rfl zk) ?_
                show Rch _ _ _ _ (s₁.setTop (mkF m 72 #[.val (.long q1), .second, .val (.long q2), .second] [(.long ((-9223372036854775808 : Int64) - q2)), (.long q1)]))
                refine Rch.go (fun zt zk => XS.lcmp X0.here hx rfl (hb hby d3_72) rfl zk) ?_
                show Rch _ _ _ _ (s₁.setTop (mkF m 73 #[.val (.long q1), .second, .val (.long q2), .second] [(.int (lcmpW q1 ((-9223372036854775808 : Int64) - q2)))]))
                by_cases hc73_8 : (lcmpW q1 ((-9223372036854775808 : Int64) - q2)) < (0 : Int32)
                · skip
                  refine Rch.go (fun zt zk => XS.ifNo X0.here hx rfl (hb hby d3_73) rfl ((if0 _ _).trans (tlt hc73_8).2.1) zk) ?_
                  show Rch _ _ _ _ (s₁.setTop (mkF m 76 #[.val (.long q1), .second, .val (.long q2), .second] []))
                  refine Rch.go (X0.ldc2Long hx hown (mvT hZ (ow13 hw)) (g := (mkF m 76 #[.val (.long q1), .second, .val (.long q2), .second] [])) rfl (hb hby d3_76)) ?_
                  show Rch _ _ _ _ (s₁.setTop (mkF m 79 #[.val (.long q1), .second, .val (.long q2), .second] [(.long (-9223372036854775808 : Int64))]))
                  obtain ⟨fs, hr, hrun, hended, hW, hsame⟩ := X0.leave (v := some (.long (-9223372036854775808 : Int64))) (fun h => by rw [Bd.returns] at h; cases h)
                  have hend : Steps p.tables e below (s₁.setTop (mkF m 79 #[.val (.long q1), .second, .val (.long q2), .second] [(.long (-9223372036854775808 : Int64))])) (s₁.setFrames fs) := by
                    jvm_step X0.here [X0.here.top, hx, (hb hby d3_79), X0.method', Bd.returns, narrow]
                    first | (intro acts; rw [hr _ acts rfl rfl rfl]) | rw [hr _ _ rfl rfl rfl]
                    exact Steps.refl _
                  refine Rch.mk (hend) (hPd _ _ _ _ hrun hended rfl ?_ ⟨⟨_, rfl⟩, hW, hsame.mono (by decide) (by decide)⟩)
                  show Q_rm3 Z q1 q2 h0 n0 _ s₁.heap _
                  have hF : fRef q1 q2 = (-9223372036854775808 : Int64) := ((if_neg hc5_1).trans ((if_neg hc13_2).trans ((if_neg hc25_3).trans ((if_neg hc33_4).trans ((if_pos hc43_5).trans ((if_pos hc53_6).trans ((if_pos hc63_7).trans ((if_pos hc73_8).trans rfl))))))))
                  rw [e0]
                  exact ⟨by rw [hF], N0, rfl⟩
                · skip
                  refine Rch.go (fun zt zk => XS.ifYes X0.here hx rfl (pc0 := 73) (pc' := 80) rfl (hb hby d3_73) rfl ((if0 _ _).trans (flt hc73_8).2.1) (by decide) (by decide) zk) ?_
                  show Rch _ _ _ _ (s₁.setTop (mkF m 80 #[.val (.long q1), .second, .val (.long q2), .second] []))
                  refine Rch.go (fun zt zk => XS.lloadN X0.here hx rfl (hb hby d3_80) rfl zk) ?_
                  show Rch _ _ _ _ (s₁.setTop (mkF m 81 #[.val (.long q1), .second, .val (.long q2), .second] [(.long q1)]))
                  refine Rch.go (fun zt zk => XS.lloadN X0.here hx rfl (hb hby d3_81) rfl zk) ?_
                  show Rch _ _ _ _ (s₁.setTop (mkF m 82 #[.val (.long q1), .second, .val (.long q2), .second] [(.long q2), (.long q1)]))
                  refine Rch.go (fun zt zk => XS.ladd X0.here hx rfl (hb hby d3_82) rfl zk) ?_
                  show Rch _ _ _ _ (s₁.setTop (mkF m 83 #[.val (.long q1), .second, .val (.long q2), .second] [(.long (q1 + q2))]))
                  obtain ⟨fs, hr, hrun, hended, hW, hsame⟩ := X0.leave (v := some (.long (q1 + q2))) (fun h => by rw [Bd.returns] at h; cases h)
                  have hend : Steps p.tables e below (s₁.setTop (mkF m 83 #[.val (.long q1), .second, .val (.long q2), .second] [(.long (q1 + q2))])) (s₁.setFrames fs) := by
                    jvm_step X0.here [X0.here.top, hx, (hb hby d3_83), X0.method', Bd.returns, narrow]
                    first | (intro acts; rw [hr _ acts rfl rfl rfl]) | rw [hr _ _ rfl rfl rfl]
                    exact Steps.refl _
                  refine Rch.mk (hend) (hPd _ _ _ _ hrun hended rfl ?_ ⟨⟨_, rfl⟩, hW, hsame.mono (by decide) (by decide)⟩)
                  show Q_rm3 Z q1 q2 h0 n0 _ s₁.heap _
                  have hF : fRef q1 q2 = (q1 + q2) := ((if_neg hc5_1).trans ((if_neg hc13_2).trans ((if_neg hc25_3).trans ((if_neg hc33_4).trans ((if_pos hc43_5).trans ((if_pos hc53_6).trans ((if_pos hc63_7).trans ((if_neg hc73_8).trans rfl))))))))
                  rw [e0]
                  exact ⟨by rw [hF], N0, rfl⟩
              · skip
                refine Rch.go (fun zt zk => XS.ifYes X0.here hx rfl (pc0 := 63) (pc' := 80) rfl (hb hby d3_63) rfl ((if0 _ _).trans (flt hc63_7).2.1) (by decide) (by decide) zk) ?_
                show Rch _ _ _ _ (s₁.setTop (mkF m 80 #[.val (.long q1), .second, .val (.long q2), .second] []))
                refine Rch.go (fun zt zk => XS.lloadN X0.here hx rfl (hb hby d3_80) rfl zk) ?_
                show Rch _ _ _ _ (s₁.setTop (mkF m 81 #[.val (.long q1), .second, .val (.long q2), .second] [(.long q1)]))
                refine Rch.go (fun zt zk => XS.lloadN X0.here hx rfl (hb hby d3_81) rfl zk) ?_
                show Rch _ _ _ _ (s₁.setTop (mkF m 82 #[.val (.long q1), .second, .val (.long q2), .second] [(.long q2), (.long q1)]))
                refine Rch.go (fun zt zk => XS.ladd X0.here hx rfl (hb hby d3_82) rfl zk) ?_
                show Rch _ _ _ _ (s₁.setTop (mkF m 83 #[.val (.long q1), .second, .val (.long q2), .second] [(.long (q1 + q2))]))
                obtain ⟨fs, hr, hrun, hended, hW, hsame⟩ := X0.leave (v := some (.long (q1 + q2))) (fun h => by rw [Bd.returns] at h; cases h)
                have hend : Steps p.tables e below (s₁.setTop (mkF m 83 #[.val (.long q1), .second, .val (.long q2), .second] [(.long (q1 + q2))])) (s₁.setFrames fs) := by
                  jvm_step X0.here [X0.here.top, hx, (hb hby d3_83), X0.method', Bd.returns, narrow]
                  first | (intro acts; rw [hr _ acts rfl rfl rfl]) | rw [hr _ _ rfl rfl rfl]
                  exact Steps.refl _
                refine Rch.mk (hend) (hPd _ _ _ _ hrun hended rfl ?_ ⟨⟨_, rfl⟩, hW, hsame.mono (by decide) (by decide)⟩)
                show Q_rm3 Z q1 q2 h0 n0 _ s₁.heap _
                have hF : fRef q1 q2 = (q1 + q2) := ((if_neg hc5_1).trans ((if_neg hc13_2).trans ((if_neg hc25_3).trans ((if_neg hc33_4).trans ((if_pos hc43_5).trans ((if_pos hc53_6).trans ((if_neg hc63_7).trans rfl)))))))
                rw [e0]
                exact ⟨by rw [hF], N0, rfl⟩
            · skip
              refine Rch.go (fun zt zk => XS.ifNo X0.here hx rfl (hb hby d3_53) rfl ((if0 _ _).trans (flt hc53_6).1) zk) ?_
              show Rch _ _ _ _ (s₁.setTop (mkF m 56 #[.val (.long q1), .second, .val (.long q2), .second] []))
              refine Rch.go (X0.ldc2Long hx hown (mvT hZ (ow17 hw)) (g := (mkF m 56 #[.val (.long q1), .second, .val (.long q2), .second] [])) rfl (hb hby d3_56)) ?_
              show Rch _ _ _ _ (s₁.setTop (mkF m 59 #[.val (.long q1), .second, .val (.long q2), .second] [(.long (9223372036854775806 : Int64))]))
              obtain ⟨fs, hr, hrun, hended, hW, hsame⟩ := X0.leave (v := some (.long (9223372036854775806 : Int64))) (fun h => by rw [Bd.returns] at h; cases h)
              have hend : Steps p.tables e below (s₁.setTop (mkF m 59 #[.val (.long q1), .second, .val (.long q2), .second] [(.long (9223372036854775806 : Int64))])) (s₁.setFrames fs) := by
                jvm_step X0.here [X0.here.top, hx, (hb hby d3_59), X0.method', Bd.returns, narrow]
                first | (intro acts; rw [hr _ acts rfl rfl rfl]) | rw [hr _ _ rfl rfl rfl]
                exact Steps.refl _
              refine Rch.mk (hend) (hPd _ _ _ _ hrun hended rfl ?_ ⟨⟨_, rfl⟩, hW, hsame.mono (by decide) (by decide)⟩)
              show Q_rm3 Z q1 q2 h0 n0 _ s₁.heap _
              have hF : fRef q1 q2 = (9223372036854775806 : Int64) := ((if_neg hc5_1).trans ((if_neg hc13_2).trans ((if_neg hc25_3).trans ((if_neg hc33_4).trans ((if_pos hc43_5).trans ((if_neg hc53_6).trans rfl))))))
              rw [e0]
              exact ⟨by rw [hF], N0, rfl⟩
          · skip
            refine Rch.go (fun zt zk => XS.ifYes X0.here hx rfl (pc0 := 43) (pc' := 60) rfl (hb hby d3_43) rfl ((if0 _ _).trans (flt hc43_5).2.2.2) (by decide) (by decide) zk) ?_
            show Rch _ _ _ _ (s₁.setTop (mkF m 60 #[.val (.long q1), .second, .val (.long q2), .second] []))
            refine Rch.go (fun zt zk => XS.lloadN X0.here hx rfl (hb hby d3_60) rfl zk) ?_
            show Rch _ _ _ _ (s₁.setTop (mkF m 61 #[.val (.long q1), .second, .val (.long q2), .second] [(.long q2)]))
            refine Rch.go (fun zt zk => XS.lconst X0.here hx rfl (hb hby d3_61) zk) ?_
            show Rch _ _ _ _ (s₁.setTop (mkF m 62 #[.val (.long q1), .second, .val (.long q2), .second] [(.long (0 : Int64)), (.long q2)]))
            refine Rch.go (fun zt zk => XS.lcmp X0.here hx rfl (hb hby d3_62) rfl zk) ?_
            show Rch _ _ _ _ (s₁.setTop (mkF m 63 #[.val (.long q1), .second, .val (.long q2), .second] [(.int (lcmpW q2 (0 : Int64)))]))
            by_cases hc63_9 : (lcmpW q2 (0 : Int64)) < (0 : Int32)
            · skip
              refine Rch.go (fun zt zk => XS.ifNo X0.here hx rfl (hb hby d3_63) rfl ((if0 _ _).trans (tlt hc63_9).2.1) zk) ?_
              show Rch _ _ _ _ (s₁.setTop (mkF m 66 #[.val (.long q1), .second, .val (.long q2), .second] []))
              refine Rch.go (fun zt zk => XS.lloadN X0.here hx rfl (hb hby d3_66) rfl zk) ?_
              show Rch _ _ _ _ (s₁.setTop (mkF m 67 #[.val (.long q1), .second, .val (.long q2), .second] [(.long q1)]))
              refine Rch.go (X0.ldc2Long hx hown (mvT hZ (ow13 hw)) (g := (mkF m 67 #[.val (.long q1), .second, .val (.long q2), .second] [(.long q1)])) rfl (hb hby d3_67)) ?_
              show Rch _ _ _ _ (s₁.setTop (mkF m 70 #[.val (.long q1), .second, .val (.long q2), .second] [(.long (-9223372036854775808 : Int64)), (.long q1)]))
              refine Rch.go (fun zt zk => XS.lloadN X0.here hx rfl (hb hby d3_70) rfl zk) ?_
              show Rch _ _ _ _ (s₁.setTop (mkF m 71 #[.val (.long q1), .second, .val (.long q2), .second] [(.long q2), (.long (-9223372036854775808 : Int64)), (.long q1)]))
              refine Rch.go (fun zt zk => XS.lsub X0.here hx rfl (hb hby d3_71) rfl zk) ?_
              show Rch _ _ _ _ (s₁.setTop (mkF m 72 #[.val (.long q1), .second, .val (.long q2), .second] [(.long ((-9223372036854775808 : Int64) - q2)), (.long q1)]))
              refine Rch.go (fun zt zk => XS.lcmp X0.here hx rfl (hb hby d3_72) rfl zk) ?_
              show Rch _ _ _ _ (s₁.setTop (mkF m 73 #[.val (.long q1), .second, .val (.long q2), .second] [(.int (lcmpW q1 ((-9223372036854775808 : Int64) - q2)))]))
              by_cases hc73_10 : (lcmpW q1 ((-9223372036854775808 : Int64) - q2)) < (0 : Int32)
              · skip
                refine Rch.go (fun zt zk => XS.ifNo X0.here hx rfl (hb hby d3_73) rfl ((if0 _ _).trans (tlt hc73_10).2.1) zk) ?_
                show Rch _ _ _ _ (s₁.setTop (mkF m 76 #[.val (.long q1), .second, .val (.long q2), .second] []))
                refine Rch.go (X0.ldc2Long hx hown (mvT hZ (ow13 hw)) (g := (mkF m 76 #[.val (.long q1), .second, .val (.long q2), .second] [])) rfl (hb hby d3_76)) ?_
                show Rch _ _ _ _ (s₁.setTop (mkF m 79 #[.val (.long q1), .second, .val (.long q2), .second] [(.long (-9223372036854775808 : Int64))]))
                obtain ⟨fs, hr, hrun, hended, hW, hsame⟩ := X0.leave (v := some (.long (-9223372036854775808 : Int64))) (fun h => by rw [Bd.returns] at h; cases h)
                have hend : Steps p.tables e below (s₁.setTop (mkF m 79 #[.val (.long q1), .second, .val (.long q2), .second] [(.long (-9223372036854775808 : Int64))])) (s₁.setFrames fs) := by
                  jvm_step X0.here [X0.here.top, hx, (hb hby d3_79), X0.method', Bd.returns, narrow]
                  first | (intro acts; rw [hr _ acts rfl rfl rfl]) | rw [hr _ _ rfl rfl rfl]
                  exact Steps.refl _
                refine Rch.mk (hend) (hPd _ _ _ _ hrun hended rfl ?_ ⟨⟨_, rfl⟩, hW, hsame.mono (by decide) (by decide)⟩)
                show Q_rm3 Z q1 q2 h0 n0 _ s₁.heap _
                have hF : fRef q1 q2 = (-9223372036854775808 : Int64) := ((if_neg hc5_1).trans ((if_neg hc13_2).trans ((if_neg hc25_3).trans ((if_neg hc33_4).trans ((if_neg hc43_5).trans ((if_pos hc63_9).trans ((if_pos hc73_10).trans rfl)))))))
                rw [e0]
                exact ⟨by rw [hF], N0, rfl⟩
              · skip
                refine Rch.go (fun zt zk => XS.ifYes X0.here hx rfl (pc0 := 73) (pc' := 80) rfl (hb hby d3_73) rfl ((if0 _ _).trans (flt hc73_10).2.1) (by decide) (by decide) zk) ?_
                show Rch _ _ _ _ (s₁.setTop (mkF m 80 #[.val (.long q1), .second, .val (.long q2), .second] []))
                refine Rch.go (fun zt zk => XS.lloadN X0.here hx rfl (hb hby d3_80) rfl zk) ?_
                show Rch _ _ _ _ (s₁.setTop (mkF m 81 #[.val (.long q1), .second, .val (.long q2), .second] [(.long q1)]))
                refine Rch.go (fun zt zk => XS.lloadN X0.here hx rfl (hb hby d3_81) rfl zk) ?_
                show Rch _ _ _ _ (s₁.setTop (mkF m 82 #[.val (.long q1), .second, .val (.long q2), .second] [(.long q2), (.long q1)]))
                refine Rch.go (fun zt zk => XS.ladd X0.here hx rfl (hb hby d3_82) rfl zk) ?_
                show Rch _ _ _ _ (s₁.setTop (mkF m 83 #[.val (.long q1), .second, .val (.long q2), .second] [(.long (q1 + q2))]))
                obtain ⟨fs, hr, hrun, hended, hW, hsame⟩ := X0.leave (v := some (.long (q1 + q2))) (fun h => by rw [Bd.returns] at h; cases h)
                have hend : Steps p.tables e below (s₁.setTop (mkF m 83 #[.val (.long q1), .second, .val (.long q2), .second] [(.long (q1 + q2))])) (s₁.setFrames fs) := by
                  jvm_step X0.here [X0.here.top, hx, (hb hby d3_83), X0.method', Bd.returns, narrow]
                  first | (intro acts; rw [hr _ acts rfl rfl rfl]) | rw [hr _ _ rfl rfl rfl]
                  exact Steps.refl _
                refine Rch.mk (hend) (hPd _ _ _ _ hrun hended rfl ?_ ⟨⟨_, rfl⟩, hW, hsame.mono (by decide) (by decide)⟩)
                show Q_rm3 Z q1 q2 h0 n0 _ s₁.heap _
                have hF : fRef q1 q2 = (q1 + q2) := ((if_neg hc5_1).trans ((if_neg hc13_2).trans ((if_neg hc25_3).trans ((if_neg hc33_4).trans ((if_neg hc43_5).trans ((if_pos hc63_9).trans ((if_neg hc73_10).trans rfl)))))))
                rw [e0]
                exact ⟨by rw [hF], N0, rfl⟩
            · skip
              refine Rch.go (fun zt zk => XS.ifYes X0.here hx rfl (pc0 := 63) (pc' := 80) rfl (hb hby d3_63) rfl ((if0 _ _).trans (flt hc63_9).2.1) (by decide) (by decide) zk) ?_
              show Rch _ _ _ _ (s₁.setTop (mkF m 80 #[.val (.long q1), .second, .val (.long q2), .second] []))
              refine Rch.go (fun zt zk => XS.lloadN X0.here hx rfl (hb hby d3_80) rfl zk) ?_
              show Rch _ _ _ _ (s₁.setTop (mkF m 81 #[.val (.long q1), .second, .val (.long q2), .second] [(.long q1)]))
              refine Rch.go (fun zt zk => XS.lloadN X0.here hx rfl (hb hby d3_81) rfl zk) ?_
              show Rch _ _ _ _ (s₁.setTop (mkF m 82 #[.val (.long q1), .second, .val (.long q2), .second] [(.long q2), (.long q1)]))
              refine Rch.go (fun zt zk => XS.ladd X0.here hx rfl (hb hby d3_82) rfl zk) ?_
              show Rch _ _ _ _ (s₁.setTop (mkF m 83 #[.val (.long q1), .second, .val (.long q2), .second] [(.long (q1 + q2))]))
              obtain ⟨fs, hr, hrun, hended, hW, hsame⟩ := X0.leave (v := some (.long (q1 + q2))) (fun h => by rw [Bd.returns] at h; cases h)
              have hend : Steps p.tables e below (s₁.setTop (mkF m 83 #[.val (.long q1), .second, .val (.long q2), .second] [(.long (q1 + q2))])) (s₁.setFrames fs) := by
                jvm_step X0.here [X0.here.top, hx, (hb hby d3_83), X0.method', Bd.returns, narrow]
                first | (intro acts; rw [hr _ acts rfl rfl rfl]) | rw [hr _ _ rfl rfl rfl]
                exact Steps.refl _
              refine Rch.mk (hend) (hPd _ _ _ _ hrun hended rfl ?_ ⟨⟨_, rfl⟩, hW, hsame.mono (by decide) (by decide)⟩)
              show Q_rm3 Z q1 q2 h0 n0 _ s₁.heap _
              have hF : fRef q1 q2 = (q1 + q2) := ((if_neg hc5_1).trans ((if_neg hc13_2).trans ((if_neg hc25_3).trans ((if_neg hc33_4).trans ((if_neg hc43_5).trans ((if_neg hc63_9).trans rfl))))))
              rw [e0]
              exact ⟨by rw [hF], N0, rfl⟩
theorem own_cast {a b : Int64} : a = b ↔ a.toInt = b.toInt := Int64.toInt_inj.symm
theorem own_law (a b : Int64) : lcmpW (fAdd a b) (fRef a b) = (0 : Int32) := by
  rw [lw_eq]
  have h1 := c_ladd a b
  have h2 := rng64 a
  have h3 := rng64 b
  have h4 := rng64 (a + b)
  have h5 := c_lsub (9223372036854775807 : Int64) b
  have h6 := c_lsub (-9223372036854775808 : Int64) b
  have h7 := rng64 ((9223372036854775807 : Int64) - b)
  have h8 := rng64 ((-9223372036854775808 : Int64) - b)
  have e1 : (9223372036854775807 : Int64).toInt = 9223372036854775807 := by decide
  have e2 : (-9223372036854775808 : Int64).toInt = -9223372036854775808 := by decide
  have e3 : (0 : Int64).toInt = 0 := by decide
  have e4 : (9223372036854775806 : Int64).toInt = 9223372036854775806 := by decide
  unfold fAdd fRef
  have hA := c_andSL (a ^^^ (a + b)) (b ^^^ (a + b))
  have hX1 := c_xorSL a (a + b)
  have hX2 := c_xorSL b (a + b)
  simp only [lw_eq, lw_lt, lw_gt, Int64.lt_iff_toInt_lt, own_cast, e1, e2, e3]
  rw [e1] at h5; rw [e2] at h6
  repeat' split
  all_goals first | rfl | omega
theorem ef_rm0 (m : MethodId) (q1 : Int64) (q2 : Int64) (p3 : Int32) : entryFrame m #[(.long q1), (.long q2), (.int p3)] maxLocals = mkF m 0 #[.val (.long q1), .second, .val (.long q2), .second, .val (.int p3), .unset, .unset, .unset, .unset] [] := by first | (simp [entryFrame, mkF, argsToLocals, Value.category, maxLocals]; done) | rfl
theorem pd__JI_J : parseMethodDescriptor "(JI)J" = some ⟨[.long, .int], some .long⟩ := by decide +kernel
theorem pd__JJ_J : parseMethodDescriptor "(JJ)J" = some ⟨[.long, .long], some .long⟩ := by decide +kernel
def Q_rm0 (Z : State) (q1 : Int64) (q2 : Int64) (p3 : Int32) (h0 : Heap) (n0 : Nat) (v : Option Value) (h : Heap) (L : List Loc) : Prop := v = some (.int (1 : Int32)) ∧ Fr n0 L
set_option maxRecDepth 65536 in
set_option maxHeartbeats 40000000 in
theorem rm0 (l : Launch) (Z : State) (a0 : Array Value) (hw : ∀ d ∈ tables_1, d.before a0 Z = true) (ws : List Jvm.Cond) (q1 : Int64) (q2 : Int64) (p3 : Int32) (h0 : Heap) (n0 : Nat) (Z0 : n0 ≤ h0.size) :
    MetFree l x (head1 (Jvm.Cond.code x code maxLocals ret :: ws) room_1) (fun a U => a = #[(.long q1), (.long q2), (.int p3)] ∧ Z.Warmed39 U.vm ∧ U.heap = h0) (fun _ _ _ _ _ => True) (fun _ U o U' => ∃ v L, o = .returned v ∧ Q_rm0 Z q1 q2 p3 h0 n0 v U'.heap L ∧ FrameEnd U o U' L room_1.cells room_1.slots) := by
  refine MetFree.of_bodySF (plainFor_of_name pn_com_example_quotaria_quotaria_ccq_CutoffRelaxationAddPinLaw) hisR ?_
  intro p e s m args below meth c s₁ Bd hml0 hP hK
  obtain ⟨rfl, hZ, hh⟩ := hP
  have hx := Bd.exec
  have hby := Bd.bytes
  have hml : c.maxLocals = 9 := hml0
  have hown : s.vm.findClass "com/example/quotaria/quotaria/ccq/CutoffRelaxationAddPinLaw" = some m.cls := findClass_of_methodNamed Bd.named
  have hnm := (name_of_methodNamed Bd.named Bd.method).1
  have X0 : Stand p l e room_1 s m #[(.long q1), (.long q2), (.int p3)] below meth c s₁ [] 0 0 := Stand.of_body Bd
  have e0 : s₁.heap = h0 := by rw [← hh, Bd.state]; rfl
  have N0 := Fr.nil n0
  suffices hR : ∀ P : State → Prop, (∀ s₂ o v L, s₂.status = .running → Ended s₂ below o → o = .returned v → Q_rm0 Z q1 q2 p3 h0 n0 v s₂.heap L → FrameEnd s o s₂ L room_1.cells room_1.slots → P s₂) → Rch p.tables e below P (s₁.setTop (mkF m 0 #[.val (.long q1), .second, .val (.long q2), .second, .val (.int p3), .unset, .unset, .unset, .unset] [])) by
    obtain ⟨s₂, h1, o, h2⟩ := hR (fun s₂ => ∃ o, s₂.status = .running ∧ Ended s₂ below o ∧ ∃ v L, o = .returned v ∧ Q_rm0 Z q1 q2 p3 h0 n0 v s₂.heap L ∧ FrameEnd s o s₂ L room_1.cells room_1.slots) (fun s₂ o v L q1 q2 q3 q4 q5 => ⟨o, q1, q2, v, L, q3, q4, q5⟩)
    exact ⟨s₂, o, castTop (ef_rm0 m q1 q2 p3) h1, h2⟩
  intro P hPd
  refine Rch.go (fun zt zk => XS.lloadN X0.here hx rfl (hb hby at_0) rfl zk) ?_
  show Rch _ _ _ _ (s₁.setTop (mkF m 1 #[.val (.long q1), .second, .val (.long q2), .second, .val (.int p3), .unset, .unset, .unset, .unset] [(.long q1)]))
  refine Rch.go (fun zt zk => XS.iload X0.here hx rfl (hb hby at_1) rfl zk) ?_
  show Rch _ _ _ _ (s₁.setTop (mkF m 3 #[.val (.long q1), .second, .val (.long q2), .second, .val (.int p3), .unset, .unset, .unset, .unset] [(.int p3), (.long q1)]))
  refine Rch.go (fun zt zk => XS.iconst X0.here hx rfl (hb hby at_3) zk) ?_
  show Rch _ _ _ _ (s₁.setTop (mkF m 4 #[.val (.long q1), .second, .val (.long q2), .second, .val (.int p3), .unset, .unset, .unset, .unset] [(.int (3 : Int32)), (.int p3), (.long q1)]))
  refine Rch.go (fun zt zk => XS.iand X0.here hx rfl (hb hby at_4) rfl zk) ?_
  show Rch _ _ _ _ (s₁.setTop (mkF m 5 #[.val (.long q1), .second, .val (.long q2), .second, .val (.int p3), .unset, .unset, .unset, .unset] [(.int (p3 &&& (3 : Int32))), (.long q1)]))
  obtain ⟨_, _, ⟨T1, L1, k1, n1⟩, -, X1, ⟨Lc1, hQ1, l1, y1, z1⟩, st1⟩ := Jvm.LawKit.callS X0 hx (y := (⟨"com/example/quotaria/quotaria/ccq/CutoffRelaxationAddPinLaw", "pick", "(JI)J"⟩ : MethodName)) hown (mvT hZ (ow0 hw)) (mvT hZ (ow1 hw)) (mvT hZ (ow2 hw)) (mvT hZ (ow3 hw)) (by decide) (backOf (W := 0) (rm1 l Z a0 hw [] q1 (p3 &&& (3 : Int32)) h0 n0 Z0 ) hZ (ow3 hw) (ow2 hw) (by decide) (by decide)) (g := (mkF m 5 #[.val (.long q1), .second, .val (.long q2), .second, .val (.int p3), .unset, .unset, .unset, .unset] [(.int (p3 &&& (3 : Int32))), (.long q1)])) rfl (by rw [hml]; rfl) (argsL := [(.long q1), (.int (p3 &&& (3 : Int32)))]) (rest := []) (lenOf pd__JI_J rfl) rfl (by show 2 * 0 + _ ≤ _; exact Nat.le_of_eq rfl) (hb hby at_5) (fun _ _ => ⟨rfl, e0, (by decide : 0 + 0 ≤ _), (by decide : 0 + 0 ≤ _)⟩)
  dsimp only [Pt.U, Pt.locs, Pt.cells, Pt.slots] at X1 l1 y1 z1 st1 hQ1
  subst l1 y1 z1
  obtain ⟨rfl, N1q, eq1⟩ := hQ1
  have N1 := Fr.app N0 N1q
  refine Rch.go st1 ?_
  show Rch _ _ _ _ (T1.setTop (mkF m 8 #[.val (.long q1), .second, .val (.long q2), .second, .val (.int p3), .unset, .unset, .unset, .unset] [(.long (fPick q1 (p3 &&& (3 : Int32))))]))
  refine Rch.go (fun zt zk => XS.lstore X1.here hx rfl (hb hby at_8) rfl (l' := #[.val (.long q1), .second, .val (.long q2), .second, .val (.int p3), .val (.long (fPick q1 (p3 &&& (3 : Int32)))), .second, .unset, .unset]) rfl zk) ?_
  show Rch _ _ _ _ (T1.setTop (mkF m 10 #[.val (.long q1), .second, .val (.long q2), .second, .val (.int p3), .val (.long (fPick q1 (p3 &&& (3 : Int32)))), .second, .unset, .unset] []))
  refine Rch.go (fun zt zk => XS.lloadN X1.here hx rfl (hb hby at_10) rfl zk) ?_
  show Rch _ _ _ _ (T1.setTop (mkF m 11 #[.val (.long q1), .second, .val (.long q2), .second, .val (.int p3), .val (.long (fPick q1 (p3 &&& (3 : Int32)))), .second, .unset, .unset] [(.long q2)]))
  refine Rch.go (fun zt zk => XS.iload X1.here hx rfl (hb hby at_11) rfl zk) ?_
  show Rch _ _ _ _ (T1.setTop (mkF m 13 #[.val (.long q1), .second, .val (.long q2), .second, .val (.int p3), .val (.long (fPick q1 (p3 &&& (3 : Int32)))), .second, .unset, .unset] [(.int p3), (.long q2)]))
  refine Rch.go (fun zt zk => XS.iconst X1.here hx rfl (hb hby at_13) zk) ?_
  show Rch _ _ _ _ (T1.setTop (mkF m 14 #[.val (.long q1), .second, .val (.long q2), .second, .val (.int p3), .val (.long (fPick q1 (p3 &&& (3 : Int32)))), .second, .unset, .unset] [(.int (2 : Int32)), (.int p3), (.long q2)]))
  refine Rch.go (fun zt zk => XS.iushr X1.here hx rfl (hb hby at_14) rfl zk) ?_
  show Rch _ _ _ _ (T1.setTop (mkF m 15 #[.val (.long q1), .second, .val (.long q2), .second, .val (.int p3), .val (.long (fPick q1 (p3 &&& (3 : Int32)))), .second, .unset, .unset] [(.int ((p3.toUInt32 >>> ((2 : Int32) &&& 31).toUInt32).toInt32)), (.long q2)]))
  refine Rch.go (fun zt zk => XS.iconst X1.here hx rfl (hb hby at_15) zk) ?_
  show Rch _ _ _ _ (T1.setTop (mkF m 16 #[.val (.long q1), .second, .val (.long q2), .second, .val (.int p3), .val (.long (fPick q1 (p3 &&& (3 : Int32)))), .second, .unset, .unset] [(.int (3 : Int32)), (.int ((p3.toUInt32 >>> ((2 : Int32) &&& 31).toUInt32).toInt32)), (.long q2)]))
  refine Rch.go (fun zt zk => XS.iand X1.here hx rfl (hb hby at_16) rfl zk) ?_
  show Rch _ _ _ _ (T1.setTop (mkF m 17 #[.val (.long q1), .second, .val (.long q2), .second, .val (.int p3), .val (.long (fPick q1 (p3 &&& (3 : Int32)))), .second, .unset, .unset] [(.int (((p3.toUInt32 >>> ((2 : Int32) &&& 31).toUInt32).toInt32) &&& (3 : Int32))), (.long q2)]))
  obtain ⟨_, _, ⟨T2, L2, k2, n2⟩, -, X2, ⟨Lc2, hQ2, l2, y2, z2⟩, st2⟩ := Jvm.LawKit.callS X1 hx (y := (⟨"com/example/quotaria/quotaria/ccq/CutoffRelaxationAddPinLaw", "pick", "(JI)J"⟩ : MethodName)) hown (mvT hZ (ow0 hw)) (mvT hZ (ow1 hw)) (mvT hZ (ow2 hw)) (mvT hZ (ow3 hw)) (by decide) (backOf (W := 0) (rm1 l Z a0 hw [] q2 (((p3.toUInt32 >>> ((2 : Int32) &&& 31).toUInt32).toInt32) &&& (3 : Int32)) h0 n0 Z0 ) hZ (ow3 hw) (ow2 hw) (by decide) (by decide)) (g := (mkF m 17 #[.val (.long q1), .second, .val (.long q2), .second, .val (.int p3), .val (.long (fPick q1 (p3 &&& (3 : Int32)))), .second, .unset, .unset] [(.int (((p3.toUInt32 >>> ((2 : Int32) &&& 31).toUInt32).toInt32) &&& (3 : Int32))), (.long q2)])) rfl (by rw [hml]; rfl) (argsL := [(.long q2), (.int (((p3.toUInt32 >>> ((2 : Int32) &&& 31).toUInt32).toInt32) &&& (3 : Int32)))]) (rest := []) (lenOf pd__JI_J rfl) rfl (by show 2 * 0 + _ ≤ _; exact Nat.le_of_eq rfl) (hb hby at_17) (fun _ _ => ⟨rfl, eq1, (by decide : 0 + 0 ≤ _), (by decide : 0 + 0 ≤ _)⟩)
  dsimp only [Pt.U, Pt.locs, Pt.cells, Pt.slots] at X2 l2 y2 z2 st2 hQ2
  subst l2 y2 z2
  obtain ⟨rfl, N2q, eq2⟩ := hQ2
  have N2 := Fr.app N1 N2q
  refine Rch.go st2 ?_
  show Rch _ _ _ _ (T2.setTop (mkF m 20 #[.val (.long q1), .second, .val (.long q2), .second, .val (.int p3), .val (.long (fPick q1 (p3 &&& (3 : Int32)))), .second, .unset, .unset] [(.long (fPick q2 (((p3.toUInt32 >>> ((2 : Int32) &&& 31).toUInt32).toInt32) &&& (3 : Int32))))]))
  refine Rch.go (fun zt zk => XS.lstore X2.here hx rfl (hb hby at_20) rfl (l' := #[.val (.long q1), .second, .val (.long q2), .second, .val (.int p3), .val (.long (fPick q1 (p3 &&& (3 : Int32)))), .second, .val (.long (fPick q2 (((p3.toUInt32 >>> ((2 : Int32) &&& 31).toUInt32).toInt32) &&& (3 : Int32)))), .second]) rfl zk) ?_
  show Rch _ _ _ _ (T2.setTop (mkF m 22 #[.val (.long q1), .second, .val (.long q2), .second, .val (.int p3), .val (.long (fPick q1 (p3 &&& (3 : Int32)))), .second, .val (.long (fPick q2 (((p3.toUInt32 >>> ((2 : Int32) &&& 31).toUInt32).toInt32) &&& (3 : Int32)))), .second] []))
  refine Rch.go (fun zt zk => XS.lload X2.here hx rfl (hb hby at_22) rfl zk) ?_
  show Rch _ _ _ _ (T2.setTop (mkF m 24 #[.val (.long q1), .second, .val (.long q2), .second, .val (.int p3), .val (.long (fPick q1 (p3 &&& (3 : Int32)))), .second, .val (.long (fPick q2 (((p3.toUInt32 >>> ((2 : Int32) &&& 31).toUInt32).toInt32) &&& (3 : Int32)))), .second] [(.long (fPick q1 (p3 &&& (3 : Int32))))]))
  refine Rch.go (fun zt zk => XS.lload X2.here hx rfl (hb hby at_24) rfl zk) ?_
  show Rch _ _ _ _ (T2.setTop (mkF m 26 #[.val (.long q1), .second, .val (.long q2), .second, .val (.int p3), .val (.long (fPick q1 (p3 &&& (3 : Int32)))), .second, .val (.long (fPick q2 (((p3.toUInt32 >>> ((2 : Int32) &&& 31).toUInt32).toInt32) &&& (3 : Int32)))), .second] [(.long (fPick q2 (((p3.toUInt32 >>> ((2 : Int32) &&& 31).toUInt32).toInt32) &&& (3 : Int32)))), (.long (fPick q1 (p3 &&& (3 : Int32))))]))
  obtain ⟨_, _, ⟨T3, L3, k3, n3⟩, -, X3, ⟨Lc3, hQ3, l3, y3, z3⟩, st3⟩ := Jvm.LawKit.callS X2 hx (y := (⟨"com/example/quotaria/quotaria/ccq/CutoffRelaxation", "add", "(JJ)J"⟩ : MethodName)) hown (mvT hZ (ow4 hw)) (mvT hZ (ow5 hw)) (mvT hZ (ow6 hw)) (mvT hZ (ow7 hw)) (by decide) (backOf (W := 0) (rm2 l Z a0 hw [] (fPick q1 (p3 &&& (3 : Int32))) (fPick q2 (((p3.toUInt32 >>> ((2 : Int32) &&& 31).toUInt32).toInt32) &&& (3 : Int32))) h0 n0 Z0 ) hZ (ow7 hw) (ow6 hw) (by decide) (by decide)) (g := (mkF m 26 #[.val (.long q1), .second, .val (.long q2), .second, .val (.int p3), .val (.long (fPick q1 (p3 &&& (3 : Int32)))), .second, .val (.long (fPick q2 (((p3.toUInt32 >>> ((2 : Int32) &&& 31).toUInt32).toInt32) &&& (3 : Int32)))), .second] [(.long (fPick q2 (((p3.toUInt32 >>> ((2 : Int32) &&& 31).toUInt32).toInt32) &&& (3 : Int32)))), (.long (fPick q1 (p3 &&& (3 : Int32))))])) rfl (by rw [hml]; rfl) (argsL := [(.long (fPick q1 (p3 &&& (3 : Int32)))), (.long (fPick q2 (((p3.toUInt32 >>> ((2 : Int32) &&& 31).toUInt32).toInt32) &&& (3 : Int32))))]) (rest := []) (lenOf pd__JJ_J rfl) rfl (by show 2 * 0 + _ ≤ _; exact Nat.le_of_eq rfl) (hb hby at_26) (fun _ _ => ⟨rfl, eq2, (by decide : 0 + 0 ≤ _), (by decide : 0 + 0 ≤ _)⟩)
  dsimp only [Pt.U, Pt.locs, Pt.cells, Pt.slots] at X3 l3 y3 z3 st3 hQ3
  subst l3 y3 z3
  obtain ⟨rfl, N3q, eq3⟩ := hQ3
  have N3 := Fr.app N2 N3q
  refine Rch.go st3 ?_
  show Rch _ _ _ _ (T3.setTop (mkF m 29 #[.val (.long q1), .second, .val (.long q2), .second, .val (.int p3), .val (.long (fPick q1 (p3 &&& (3 : Int32)))), .second, .val (.long (fPick q2 (((p3.toUInt32 >>> ((2 : Int32) &&& 31).toUInt32).toInt32) &&& (3 : Int32)))), .second] [(.long (fAdd (fPick q1 (p3 &&& (3 : Int32))) (fPick q2 (((p3.toUInt32 >>> ((2 : Int32) &&& 31).toUInt32).toInt32) &&& (3 : Int32)))))]))
  refine Rch.go (fun zt zk => XS.lload X3.here hx rfl (hb hby at_29) rfl zk) ?_
  show Rch _ _ _ _ (T3.setTop (mkF m 31 #[.val (.long q1), .second, .val (.long q2), .second, .val (.int p3), .val (.long (fPick q1 (p3 &&& (3 : Int32)))), .second, .val (.long (fPick q2 (((p3.toUInt32 >>> ((2 : Int32) &&& 31).toUInt32).toInt32) &&& (3 : Int32)))), .second] [(.long (fPick q1 (p3 &&& (3 : Int32)))), (.long (fAdd (fPick q1 (p3 &&& (3 : Int32))) (fPick q2 (((p3.toUInt32 >>> ((2 : Int32) &&& 31).toUInt32).toInt32) &&& (3 : Int32)))))]))
  refine Rch.go (fun zt zk => XS.lload X3.here hx rfl (hb hby at_31) rfl zk) ?_
  show Rch _ _ _ _ (T3.setTop (mkF m 33 #[.val (.long q1), .second, .val (.long q2), .second, .val (.int p3), .val (.long (fPick q1 (p3 &&& (3 : Int32)))), .second, .val (.long (fPick q2 (((p3.toUInt32 >>> ((2 : Int32) &&& 31).toUInt32).toInt32) &&& (3 : Int32)))), .second] [(.long (fPick q2 (((p3.toUInt32 >>> ((2 : Int32) &&& 31).toUInt32).toInt32) &&& (3 : Int32)))), (.long (fPick q1 (p3 &&& (3 : Int32)))), (.long (fAdd (fPick q1 (p3 &&& (3 : Int32))) (fPick q2 (((p3.toUInt32 >>> ((2 : Int32) &&& 31).toUInt32).toInt32) &&& (3 : Int32)))))]))
  obtain ⟨_, _, ⟨T4, L4, k4, n4⟩, -, X4, ⟨Lc4, hQ4, l4, y4, z4⟩, st4⟩ := Jvm.LawKit.callS X3 hx (y := (⟨"com/example/quotaria/quotaria/ccq/CutoffRelaxationAddPinLaw", "reference", "(JJ)J"⟩ : MethodName)) hown (mvT hZ (ow10 hw)) (mvT hZ (ow11 hw)) (mvT hZ (ow2 hw)) (mvT hZ (ow12 hw)) (by decide) (backOf (W := 2) (rm3 l Z a0 hw [] (fPick q1 (p3 &&& (3 : Int32))) (fPick q2 (((p3.toUInt32 >>> ((2 : Int32) &&& 31).toUInt32).toInt32) &&& (3 : Int32))) h0 n0 Z0 ) hZ (ow12 hw) (ow2 hw) (by decide) (by decide)) (g := (mkF m 33 #[.val (.long q1), .second, .val (.long q2), .second, .val (.int p3), .val (.long (fPick q1 (p3 &&& (3 : Int32)))), .second, .val (.long (fPick q2 (((p3.toUInt32 >>> ((2 : Int32) &&& 31).toUInt32).toInt32) &&& (3 : Int32)))), .second] [(.long (fPick q2 (((p3.toUInt32 >>> ((2 : Int32) &&& 31).toUInt32).toInt32) &&& (3 : Int32)))), (.long (fPick q1 (p3 &&& (3 : Int32)))), (.long (fAdd (fPick q1 (p3 &&& (3 : Int32))) (fPick q2 (((p3.toUInt32 >>> ((2 : Int32) &&& 31).toUInt32).toInt32) &&& (3 : Int32)))))])) rfl (by rw [hml]; rfl) (argsL := [(.long (fPick q1 (p3 &&& (3 : Int32)))), (.long (fPick q2 (((p3.toUInt32 >>> ((2 : Int32) &&& 31).toUInt32).toInt32) &&& (3 : Int32))))]) (rest := [(.long (fAdd (fPick q1 (p3 &&& (3 : Int32))) (fPick q2 (((p3.toUInt32 >>> ((2 : Int32) &&& 31).toUInt32).toInt32) &&& (3 : Int32)))))]) (lenOf pd__JJ_J rfl) rfl (by show 2 * 0 + _ ≤ _; exact Nat.le_of_eq rfl) (hb hby at_33) (fun _ _ => ⟨rfl, eq3, (by decide : 0 + 0 ≤ _), (by decide : 0 + 0 ≤ _)⟩)
  dsimp only [Pt.U, Pt.locs, Pt.cells, Pt.slots] at X4 l4 y4 z4 st4 hQ4
  subst l4 y4 z4
  obtain ⟨rfl, N4q, eq4⟩ := hQ4
  have N4 := Fr.app N3 N4q
  refine Rch.go st4 ?_
  show Rch _ _ _ _ (T4.setTop (mkF m 36 #[.val (.long q1), .second, .val (.long q2), .second, .val (.int p3), .val (.long (fPick q1 (p3 &&& (3 : Int32)))), .second, .val (.long (fPick q2 (((p3.toUInt32 >>> ((2 : Int32) &&& 31).toUInt32).toInt32) &&& (3 : Int32)))), .second] [(.long (fRef (fPick q1 (p3 &&& (3 : Int32))) (fPick q2 (((p3.toUInt32 >>> ((2 : Int32) &&& 31).toUInt32).toInt32) &&& (3 : Int32))))), (.long (fAdd (fPick q1 (p3 &&& (3 : Int32))) (fPick q2 (((p3.toUInt32 >>> ((2 : Int32) &&& 31).toUInt32).toInt32) &&& (3 : Int32)))))]))
  refine Rch.go (fun zt zk => XS.lcmp X4.here hx rfl (hb hby at_36) rfl zk) ?_
  show Rch _ _ _ _ (T4.setTop (mkF m 37 #[.val (.long q1), .second, .val (.long q2), .second, .val (.int p3), .val (.long (fPick q1 (p3 &&& (3 : Int32)))), .second, .val (.long (fPick q2 (((p3.toUInt32 >>> ((2 : Int32) &&& 31).toUInt32).toInt32) &&& (3 : Int32)))), .second] [(.int (lcmpW (fAdd (fPick q1 (p3 &&& (3 : Int32))) (fPick q2 (((p3.toUInt32 >>> ((2 : Int32) &&& 31).toUInt32).toInt32) &&& (3 : Int32)))) (fRef (fPick q1 (p3 &&& (3 : Int32))) (fPick q2 (((p3.toUInt32 >>> ((2 : Int32) &&& 31).toUInt32).toInt32) &&& (3 : Int32))))))]))
  refine Rch.go (fun zt zk => XS.ifNo X4.here hx rfl (hb hby at_37) rfl ((if0 _ _).trans (teq (own_law _ _ : (lcmpW (fAdd (fPick q1 (p3 &&& (3 : Int32))) (fPick q2 (((p3.toUInt32 >>> ((2 : Int32) &&& 31).toUInt32).toInt32) &&& (3 : Int32)))) (fRef (fPick q1 (p3 &&& (3 : Int32))) (fPick q2 (((p3.toUInt32 >>> ((2 : Int32) &&& 31).toUInt32).toInt32) &&& (3 : Int32))))) = (0 : Int32))).2) zk) ?_
  show Rch _ _ _ _ (T4.setTop (mkF m 40 #[.val (.long q1), .second, .val (.long q2), .second, .val (.int p3), .val (.long (fPick q1 (p3 &&& (3 : Int32)))), .second, .val (.long (fPick q2 (((p3.toUInt32 >>> ((2 : Int32) &&& 31).toUInt32).toInt32) &&& (3 : Int32)))), .second] []))
  refine Rch.go (fun zt zk => XS.iconst X4.here hx rfl (hb hby at_40) zk) ?_
  show Rch _ _ _ _ (T4.setTop (mkF m 41 #[.val (.long q1), .second, .val (.long q2), .second, .val (.int p3), .val (.long (fPick q1 (p3 &&& (3 : Int32)))), .second, .val (.long (fPick q2 (((p3.toUInt32 >>> ((2 : Int32) &&& 31).toUInt32).toInt32) &&& (3 : Int32)))), .second] [(.int (1 : Int32))]))
  refine Rch.go (fun zt zk => XS.goto X4.here hx rfl (pc0 := 41) (pc' := 45) rfl (hb hby at_41) (by decide) (by decide) zk) ?_
  show Rch _ _ _ _ (T4.setTop (mkF m 45 #[.val (.long q1), .second, .val (.long q2), .second, .val (.int p3), .val (.long (fPick q1 (p3 &&& (3 : Int32)))), .second, .val (.long (fPick q2 (((p3.toUInt32 >>> ((2 : Int32) &&& 31).toUInt32).toInt32) &&& (3 : Int32)))), .second] [(.int (1 : Int32))]))
  obtain ⟨fs, hr, hrun, hended, hW, hsame⟩ := X4.leave (v := some (.int (1 : Int32))) (fun h => by rw [Bd.returns] at h; cases h)
  refine Rch.mk (retN X4 hx (t := .boolean) Bd.returns (by simp) (hb hby at_45) hr) (hPd _ _ _ _ hrun hended rfl ?_ ⟨⟨_, rfl⟩, hW, hsame.mono (by decide) (by decide)⟩)
  show Q_rm0 Z q1 q2 p3 h0 n0 _ T4.heap _
  exact ⟨rfl, N4⟩
set_option maxRecDepth 65536 in
set_option maxHeartbeats 40000000 in
theorem comes_1 {Post : Tables → Env → Array Value → State → Outcome → State → Prop} (hpost : ∀ tb e args s v u, (limb_1_1.after args s (.returned v) u = true ∧ limb_1_2.after args s (.returned v) u = true ∧ True) → FrameEnd s (.returned v) u (Jvm.fieldLocs frame_1_writes args s ++ Jvm.arrayLocs frame_1_arrays args s ++ Jvm.staticLocs frame_1_statics s) 0 0 → Post tb e args s (.returned v) u) :
    ArmFor flags0 classFile x code maxLocals ret World_1 tables_1 room_1 Calls_1 rest_1 Pre_1 Post := by
  intro l hfl _ _ p e ha hc hk s m args below hf hA hF happ hP
  obtain ⟨hcalls, hrest, hpre⟩ := hP
  obtain ⟨-, -, -, hnamed, -, -, -, hat⟩ := (Spec.applies_iff hf).mp happ
  obtain ⟨hg, hn⟩ := and_e (Cond.before_iff.mp (show (Jvm.Cond.and given_1 narrow_1).before args s = true from hpre))
  obtain ⟨g1, g2⟩ := and_e hg
  obtain ⟨ga0, gb0⟩ := and_e g2
  obtain ⟨ga1, gb1⟩ := and_e gb0
  obtain ⟨w0, w1, w2, rfl⟩ : ∃ w0 w1 w2 : Value, args = #[w0, w1, w2] := by
    have hs : args.size = 3 := by simpa [Cond.value, given_1] using g1
    obtain ⟨L⟩ := args
    match L, hs with
    | [w0, w1, w2], _ => exact ⟨w0, w1, w2, rfl⟩
  have hw := fun d (hd : d ∈ tables_1) => atoms_spec (ws := Jvm.Cond.code x code maxLocals ret :: tables_1) hat d (List.mem_cons_of_mem _ hd)
  have hfit : Fit s := fun {y c} hc i hi => by
    obtain ⟨ha, rfl⟩ := Array.getElem?_eq_some_iff.mp hc
    have q := List.all_eq_true.mp ((Array.all_eq_true_iff_forall_mem.mp hF) _ (Array.getElem_mem ha)) i (List.mem_range.mpr hi)
    simpa [Array.getElem?_eq_getElem hi] using q
  obtain ⟨i0, ei0⟩ := isL_v ga0
  obtain rfl : w0 = (.long i0) := Option.some.inj ei0
  obtain ⟨i1, ei1⟩ := isL_v ga1
  obtain rfl : w1 = (.long i1) := Option.some.inj ei1
  obtain ⟨i2, ei2⟩ := is_v gb1
  obtain rfl : w2 = (.int i2) := Option.some.inj ei2
  obtain ⟨n, o, h1, h2, h3, _, L, rfl, ⟨rfl, N⟩, hq⟩ := rm0 l s _ hw tables_1 i0 i1 i2  s.heap s.heap.size (Nat.le_refl _)  p e ha hc hk s m _ below hf ((Spec.applies_iff_loose hf).mp happ).1 ⟨rfl, State.Warmed39.refl s, rfl⟩ trivial
  refine ⟨n, _, h1, h2, h3, hpost _ _ _ _ _ _ ⟨Cond.after_iff.mpr rfl, Cond.after_iff.mpr (eq_i res_at (Term.int_eval (1)) rfl), trivial⟩ ⟨hq.1, hq.2.1, (hq.2.2.sift fun y hy => Or.inr (N y hy)).mono (by decide) (by decide)⟩⟩
theorem main_1_1 : Claimed_1_1 := comes_1 fun _ _ _ _ _ _ h hF => ⟨h.1, hF⟩
theorem main_1_2 : Claimed_1_2 := comes_1 fun _ _ _ _ _ _ h hF => ⟨h.2.1, hF⟩
end Jvm.Pilot.@@N@@
namespace Jvm.Pilot.@@N@@
open Jvm Jvm.ClassFile Sem Op Lib Jvm.Free Jvm.Stand Jvm.Pilot.@@N@@.Jvm.D
/-! MADE BY PROGRAM (witnessworld.py) out of the Statement's table words and the real class files: 9 classes; the members and pool entries that the words name. The judged class is class 1, her method 1. -/
namespace start1
open Jvm.ClassFile
def u (s : String) : CpInfo := .utf8 (stringToUtf16 s)
/-- a pool by its gaps: so many unusable entries, then the entry; so many at the end -/
def gap : Nat → List CpInfo → List CpInfo
  | 0, r => r
  | n + 1, r => .unusable :: gap n r
def poolList (es : List (Nat × CpInfo)) (last : Nat) : List CpInfo := es.foldr (fun e r => gap e.1 (e.2 :: r)) (gap last [])
def pool (es : List (Nat × CpInfo)) (last : Nat) : Array CpInfo := ⟨poolList es last⟩
def fileOf (pool : Array CpInfo) (this : Nat) (attrs : Array Attribute := #[]) (ms : Array MethodInfo := #[]) (fl : Nat := 33) (sup : Nat := 0) (ifs : Array Nat := #[]) (fds : Array FieldInfo := #[]) : ClassFile where
  minorVersion := 0
  majorVersion := 65
  constantPool := pool
  accessFlags := fl
  thisClass := this
  superClass := sup
  interfaces := ifs
  fields := fds
  methods := ms
  attributes := attrs
def plain (name : String) (sup : Option ClassId) : Class where
  name := name
  kind := .ordinary
  loader := none
  accessFlags := 33
  super := sup
  interfaces := #[]
  cf := none
  fields := #[]
  methods := #[]
  instanceTypes := #[]
  staticTypes := #[]
  resolved := #[]
  callSites := []
  init := .initialized
  statics := none
  mirror := none

def pool0 : Array CpInfo := pool [(5, u "<init>"), (0, u "()V"), (1, .class_ 10), (1, u "java/lang/Object")] 113

def k0m0 : Method := { name := "<init>", desc := "()V", sig := { parameters := [], returnType := none }, accessFlags := 1, code := none }
/-- java/lang/Object -/
def k0 : Class := { plain "java/lang/Object" none with
  accessFlags := 33
  interfaces := #[]
  cf := some (fileOf pool0 8 #[] #[{ accessFlags := 1, nameIndex := 5, descriptorIndex := 6, attributes := #[] }] 33 0 #[] #[])
  fields := #[]
  methods := #[k0m0]
  instanceTypes := #[]
  staticTypes := #[]
  resolved := Array.replicate 124 none
  statics := none }

def pool1 : Array CpInfo := pool [(2, .class_ 4), (1, u "java/lang/Object"), (0, u "<init>"), (0, u "()V"), (0, .methodref 8 9), (0, .class_ 10), (0, .nameAndType 11 12), (0, u "com/example/quotaria/quotaria/ccq/CutoffRelaxationAddPinLaw"), (0, u "pick"), (0, u "(JI)J"), (0, .methodref 14 15), (0, .class_ 16), (0, .nameAndType 17 18), (0, u "com/example/quotaria/quotaria/ccq/CutoffRelaxation"), (0, u "add"), (0, u "(JJ)J"), (0, .methodref 8 20), (0, .nameAndType 21 18), (0, u "reference"), (2, .long 9223372036854775808), (1, .long 9223372036854775807), (1, .long 255), (1, .long 9223372036854775806), (3, u "law"), (0, u "(JJI)Z")] 3

def k1m0 : Method := { name := "<init>", desc := "()V", sig := { parameters := [], returnType := none }, accessFlags := 1, code := none }
def k1c1 : Code := { maxStack := 6, maxLocals := 9, code := code, exceptionTable := #[], attributes := #[] }
def k1m1 : Method := { name := "law", desc := "(JJI)Z", sig := { parameters := [.long, .long, .int], returnType := some .boolean }, accessFlags := 9, code := some k1c1 }
def k1c2 : Code := { maxStack := 6, maxLocals := 3, code := method_3_code, exceptionTable := #[], attributes := #[] }
def k1m2 : Method := { name := "pick", desc := "(JI)J", sig := { parameters := [.long, .int], returnType := some .long }, accessFlags := 10, code := some k1c2 }
def k1c3 : Code := { maxStack := 6, maxLocals := 4, code := method_4_code, exceptionTable := #[], attributes := #[] }
def k1m3 : Method := { name := "reference", desc := "(JJ)J", sig := { parameters := [.long, .long], returnType := some .long }, accessFlags := 10, code := some k1c3 }
/-- com/example/quotaria/quotaria/ccq/CutoffRelaxationAddPinLaw -/
def k1 : Class := { plain "com/example/quotaria/quotaria/ccq/CutoffRelaxationAddPinLaw" (some 0) with
  accessFlags := 49
  interfaces := #[]
  cf := some (fileOf pool1 8 #[] #[{ accessFlags := 1, nameIndex := 5, descriptorIndex := 6, attributes := #[] }, { accessFlags := 9, nameIndex := 34, descriptorIndex := 35, attributes := #[] }, { accessFlags := 10, nameIndex := 11, descriptorIndex := 12, attributes := #[] }, { accessFlags := 10, nameIndex := 21, descriptorIndex := 18, attributes := #[] }] 49 2 #[] #[])
  fields := #[]
  methods := #[k1m0, k1m1, k1m2, k1m3]
  instanceTypes := #[]
  staticTypes := #[]
  resolved := Array.replicate 39 none
  statics := none }

def pool2 : Array CpInfo := pool [(4, .class_ 6), (1, u "java/lang/Object"), (19, .class_ 28), (1, u "com/example/quotaria/quotaria/ccq/CutoffRelaxation"), (0, u "agents"), (0, u "I"), (5, u "sites"), (7, u "first"), (0, u "[I"), (18, u "siteOf"), (3, u "agentOf"), (3, u "position"), (3, u "lists"), (0, u "[[I"), (35, u "siteCost"), (0, u "[J"), (14, u "cheapestSeats"), (0, u "J"), (5, u "(JJ)J"), (2, u "base"), (11, u "granularity"), (18, u "scale"), (4, u "multiplierRange"), (7, u "cuts"), (0, u "Lcom/example/quotaria/quotaria/ccq/PairCuts;"), (2, u "lo"), (2, u "hi"), (5, u "multiplier"), (2, u "value"), (2, u "free"), (2, u "stale"), (0, u "[Z"), (2, u "admissionOf"), (0, u "[B"), (6, u "prefixMin"), (2, u "suffixMin"), (2, u "withBit"), (2, u "withoutBit"), (2, u "leastOfAgent"), (2, u "prefix"), (2, u "rising"), (2, u "falling"), (2, u "above"), (2, u "below"), (0, .class_ 246), (0, u "com/example/quotaria/quotaria/ccq/CutoffRelaxation$Snapshot"), (86, .long 9223372036854775808), (11, .long 9223372036854775807), (50, u "add"), (35, .class_ 433), (0, u "com/example/quotaria/quotaria/ccq/CutoffRelaxation$Split"), (7, u "NO_SPLIT"), (0, u "Lcom/example/quotaria/quotaria/ccq/CutoffRelaxation$Split;"), (9, u "NARROWED"), (6, .long 9223372036854775806), (19, u "INFINITE"), (1, u "UNKNOWN"), (0, u "SCALED_RANGE"), (0, u "HEADROOM"), (0, u "STALLED_SWEEPS"), (1, u "SWEEPS_PER_SEPARATION"), (1, u "SUBGRADIENT_STEPS"), (1, u "STEPS_PER_HALVING"), (1, u "PAIRS_PER_SLOT")] 72

def k2c0 : Code := { maxStack := 6, maxLocals := 6, code := prog_17_method_41_code, exceptionTable := #[], attributes := #[] }
def k2m0 : Method := { name := "add", desc := "(JJ)J", sig := { parameters := [.long, .long], returnType := some .long }, accessFlags := 8, code := some k2c0 }
/-- com/example/quotaria/quotaria/ccq/CutoffRelaxation -/
def k2 : Class := { plain "com/example/quotaria/quotaria/ccq/CutoffRelaxation" (some 0) with
  accessFlags := 32
  interfaces := #[]
  cf := some (fileOf pool2 26 #[.nestMembers #[432, 245]] #[{ accessFlags := 8, nameIndex := 396, descriptorIndex := 136, attributes := #[] }] 32 4 #[] #[{ accessFlags := 24, nameIndex := 479, descriptorIndex := 130, attributes := #[] }, { accessFlags := 24, nameIndex := 481, descriptorIndex := 130, attributes := #[] }, { accessFlags := 26, nameIndex := 482, descriptorIndex := 130, attributes := #[] }, { accessFlags := 26, nameIndex := 483, descriptorIndex := 130, attributes := #[] }, { accessFlags := 26, nameIndex := 484, descriptorIndex := 30, attributes := #[] }, { accessFlags := 26, nameIndex := 486, descriptorIndex := 30, attributes := #[] }, { accessFlags := 26, nameIndex := 488, descriptorIndex := 30, attributes := #[] }, { accessFlags := 26, nameIndex := 490, descriptorIndex := 30, attributes := #[] }, { accessFlags := 26, nameIndex := 492, descriptorIndex := 130, attributes := #[] }, { accessFlags := 18, nameIndex := 29, descriptorIndex := 30, attributes := #[] }, { accessFlags := 18, nameIndex := 36, descriptorIndex := 30, attributes := #[] }, { accessFlags := 18, nameIndex := 44, descriptorIndex := 45, attributes := #[] }, { accessFlags := 18, nameIndex := 64, descriptorIndex := 45, attributes := #[] }, { accessFlags := 18, nameIndex := 68, descriptorIndex := 45, attributes := #[] }, { accessFlags := 18, nameIndex := 72, descriptorIndex := 45, attributes := #[] }, { accessFlags := 18, nameIndex := 76, descriptorIndex := 77, attributes := #[] }, { accessFlags := 18, nameIndex := 113, descriptorIndex := 114, attributes := #[] }, { accessFlags := 18, nameIndex := 139, descriptorIndex := 114, attributes := #[] }, { accessFlags := 18, nameIndex := 170, descriptorIndex := 130, attributes := #[] }, { accessFlags := 18, nameIndex := 129, descriptorIndex := 130, attributes := #[] }, { accessFlags := 18, nameIndex := 151, descriptorIndex := 130, attributes := #[] }, { accessFlags := 18, nameIndex := 175, descriptorIndex := 130, attributes := #[] }, { accessFlags := 18, nameIndex := 187, descriptorIndex := 45, attributes := #[] }, { accessFlags := 18, nameIndex := 190, descriptorIndex := 45, attributes := #[] }, { accessFlags := 18, nameIndex := 209, descriptorIndex := 210, attributes := #[] }, { accessFlags := 2, nameIndex := 196, descriptorIndex := 114, attributes := #[] }, { accessFlags := 18, nameIndex := 183, descriptorIndex := 184, attributes := #[] }, { accessFlags := 18, nameIndex := 199, descriptorIndex := 114, attributes := #[] }, { accessFlags := 18, nameIndex := 202, descriptorIndex := 114, attributes := #[] }, { accessFlags := 18, nameIndex := 205, descriptorIndex := 206, attributes := #[] }, { accessFlags := 18, nameIndex := 217, descriptorIndex := 114, attributes := #[] }, { accessFlags := 18, nameIndex := 220, descriptorIndex := 114, attributes := #[] }, { accessFlags := 18, nameIndex := 223, descriptorIndex := 114, attributes := #[] }, { accessFlags := 18, nameIndex := 226, descriptorIndex := 114, attributes := #[] }, { accessFlags := 18, nameIndex := 229, descriptorIndex := 114, attributes := #[] }, { accessFlags := 18, nameIndex := 232, descriptorIndex := 114, attributes := #[] }, { accessFlags := 18, nameIndex := 235, descriptorIndex := 114, attributes := #[] }, { accessFlags := 18, nameIndex := 238, descriptorIndex := 114, attributes := #[] }, { accessFlags := 18, nameIndex := 241, descriptorIndex := 114, attributes := #[] }, { accessFlags := 18, nameIndex := 244, descriptorIndex := 114, attributes := #[] }, { accessFlags := 24, nameIndex := 452, descriptorIndex := 442, attributes := #[] }, { accessFlags := 24, nameIndex := 441, descriptorIndex := 442, attributes := #[] }])
  fields := #[{ name := "INFINITE", type := .long, accessFlags := 24, slot := 0, constantValue := 0 }, { name := "UNKNOWN", type := .long, accessFlags := 24, slot := 1, constantValue := 0 }, { name := "SCALED_RANGE", type := .long, accessFlags := 26, slot := 2, constantValue := 0 }, { name := "HEADROOM", type := .long, accessFlags := 26, slot := 3, constantValue := 0 }, { name := "STALLED_SWEEPS", type := .int, accessFlags := 26, slot := 4, constantValue := 0 }, { name := "SWEEPS_PER_SEPARATION", type := .int, accessFlags := 26, slot := 5, constantValue := 0 }, { name := "SUBGRADIENT_STEPS", type := .int, accessFlags := 26, slot := 6, constantValue := 0 }, { name := "STEPS_PER_HALVING", type := .int, accessFlags := 26, slot := 7, constantValue := 0 }, { name := "PAIRS_PER_SLOT", type := .long, accessFlags := 26, slot := 8, constantValue := 0 }, { name := "agents", type := .int, accessFlags := 18, slot := 0, constantValue := 0 }, { name := "sites", type := .int, accessFlags := 18, slot := 1, constantValue := 0 }, { name := "first", type := (.array .int), accessFlags := 18, slot := 2, constantValue := 0 }, { name := "siteOf", type := (.array .int), accessFlags := 18, slot := 3, constantValue := 0 }, { name := "agentOf", type := (.array .int), accessFlags := 18, slot := 4, constantValue := 0 }, { name := "position", type := (.array .int), accessFlags := 18, slot := 5, constantValue := 0 }, { name := "lists", type := (.array (.array .int)), accessFlags := 18, slot := 6, constantValue := 0 }, { name := "siteCost", type := (.array .long), accessFlags := 18, slot := 7, constantValue := 0 }, { name := "base", type := (.array .long), accessFlags := 18, slot := 8, constantValue := 0 }, { name := "scale", type := .long, accessFlags := 18, slot := 9, constantValue := 0 }, { name := "cheapestSeats", type := .long, accessFlags := 18, slot := 10, constantValue := 0 }, { name := "granularity", type := .long, accessFlags := 18, slot := 11, constantValue := 0 }, { name := "multiplierRange", type := .long, accessFlags := 18, slot := 12, constantValue := 0 }, { name := "lo", type := (.array .int), accessFlags := 18, slot := 13, constantValue := 0 }, { name := "hi", type := (.array .int), accessFlags := 18, slot := 14, constantValue := 0 }, { name := "admissionOf", type := (.array .byte), accessFlags := 18, slot := 15, constantValue := 0 }, { name := "multiplier", type := (.array .long), accessFlags := 2, slot := 16, constantValue := 0 }, { name := "cuts", type := (.object "com/example/quotaria/quotaria/ccq/PairCuts"), accessFlags := 18, slot := 17, constantValue := 0 }, { name := "value", type := (.array .long), accessFlags := 18, slot := 18, constantValue := 0 }, { name := "free", type := (.array .long), accessFlags := 18, slot := 19, constantValue := 0 }, { name := "stale", type := (.array .boolean), accessFlags := 18, slot := 20, constantValue := 0 }, { name := "prefixMin", type := (.array .long), accessFlags := 18, slot := 21, constantValue := 0 }, { name := "suffixMin", type := (.array .long), accessFlags := 18, slot := 22, constantValue := 0 }, { name := "withBit", type := (.array .long), accessFlags := 18, slot := 23, constantValue := 0 }, { name := "withoutBit", type := (.array .long), accessFlags := 18, slot := 24, constantValue := 0 }, { name := "leastOfAgent", type := (.array .long), accessFlags := 18, slot := 25, constantValue := 0 }, { name := "prefix", type := (.array .long), accessFlags := 18, slot := 26, constantValue := 0 }, { name := "rising", type := (.array .long), accessFlags := 18, slot := 27, constantValue := 0 }, { name := "falling", type := (.array .long), accessFlags := 18, slot := 28, constantValue := 0 }, { name := "above", type := (.array .long), accessFlags := 18, slot := 29, constantValue := 0 }, { name := "below", type := (.array .long), accessFlags := 18, slot := 30, constantValue := 0 }, { name := "NARROWED", type := (.object "com/example/quotaria/quotaria/ccq/CutoffRelaxation$Split"), accessFlags := 24, slot := 9, constantValue := 0 }, { name := "NO_SPLIT", type := (.object "com/example/quotaria/quotaria/ccq/CutoffRelaxation$Split"), accessFlags := 24, slot := 10, constantValue := 0 }]
  methods := #[k2m0]
  instanceTypes := #[.int, .int, (.array .int), (.array .int), (.array .int), (.array .int), (.array (.array .int)), (.array .long), (.array .long), .long, .long, .long, .long, (.array .int), (.array .int), (.array .byte), (.array .long), (.object "com/example/quotaria/quotaria/ccq/PairCuts"), (.array .long), (.array .long), (.array .boolean), (.array .long), (.array .long), (.array .long), (.array .long), (.array .long), (.array .long), (.array .long), (.array .long), (.array .long), (.array .long)]
  staticTypes := #[.long, .long, .long, .long, .int, .int, .int, .int, .long, (.object "com/example/quotaria/quotaria/ccq/CutoffRelaxation$Split"), (.object "com/example/quotaria/quotaria/ccq/CutoffRelaxation$Split")]
  resolved := Array.replicate 565 none
  statics := none }

def pool3 : Array CpInfo := pool [(1, u "java/lang/Cloneable"), (0, .class_ 1), (0, u "java/lang/Object"), (0, .class_ 3)] 3

/-- java/lang/Cloneable -/
def k3 : Class := { plain "java/lang/Cloneable" (some 0) with
  accessFlags := 1537
  interfaces := #[]
  cf := some (fileOf pool3 2 #[] #[] 1537 4 #[] #[])
  fields := #[]
  methods := #[]
  instanceTypes := #[]
  staticTypes := #[]
  resolved := Array.replicate 8 none
  statics := none }

def pool4 : Array CpInfo := pool [(1, u "java/io/Serializable"), (0, .class_ 1), (0, u "java/lang/Object"), (0, .class_ 3)] 3

/-- java/io/Serializable -/
def k4 : Class := { plain "java/io/Serializable" (some 0) with
  accessFlags := 1537
  interfaces := #[]
  cf := some (fileOf pool4 2 #[] #[] 1537 4 #[] #[])
  fields := #[]
  methods := #[]
  instanceTypes := #[]
  staticTypes := #[]
  resolved := Array.replicate 8 none
  statics := none }

/-- the primitive byte -/
def k5 : Class := { plain "byte" none with kind := .primitive 'B', accessFlags := 0x411 }
/-- [B -/
def k6 : Class := { plain "[B" (some 0) with kind := .array 5 .byte, interfaces := #[3, 4], accessFlags := 1041 }

/-- the primitive int -/
def k7 : Class := { plain "int" none with kind := .primitive 'I', accessFlags := 0x411 }
/-- [I -/
def k8 : Class := { plain "[I" (some 0) with kind := .array 7 .int, interfaces := #[3, 4], accessFlags := 1041 }

def heap : Heap := #[]
def classes : Array Class := #[k0, k1, k2, k3, k4, k5, k6, k7, k8]
def interned : List (Array UInt16 × Addr) := []
def slotsUsed : Nat := 0
def theMethod : MethodId := ⟨1, 1⟩
def args0 : Array Value := #[.long 5, .long 3, .int 0]
def aboutOver (below : List Frame) : State where
  vm := { classes := classes, interned := interned.toArray }
  heap := heap
  slotsUsed := slotsUsed
  threads := #[{ frames := .invoking theMethod args0 :: below }]
def below0 : List Frame := [.native { method := ⟨0, 0⟩, args := #[] }]
def about1 : State := aboutOver below0
def p0 : Program := .bare "" "" ""
def e0 : Env := launch0.env 0 0 0
theorem w_frames : about1.frames = Frame.invoking theMethod args0 :: below0 := rfl
set_option maxRecDepth 65536 in
theorem w_args : argsFit about1.vm theMethod args0 = true := by decide +kernel
set_option maxRecDepth 65536 in
theorem w_heap : heapFits about1 = true := by decide +kernel
set_option maxRecDepth 65536 in
theorem w_runnable : about1.curStatus? = some .runnable := by decide +kernel
set_option maxRecDepth 65536 in
theorem w_alone : about1.alone = true := by decide +kernel
set_option maxRecDepth 65536 in
theorem w_named : about1.methodNamed? x = some theMethod := by decide +kernel
set_option maxRecDepth 65536 in
theorem w_hears : about1.hears theMethod below0 = true := by decide +kernel
set_option maxRecDepth 65536 in
theorem w_ripe : about1.ripe theMethod args0 below0 = true := by decide +kernel
theorem w_running : about1.status = .running := rfl
set_option maxRecDepth 65536 in
theorem w_room : about1.hasRoom e0.platform room_1 = true :=
  launch0.hasRoom_least _ room_1 (by decide +kernel) (by decide +kernel) (by decide +kernel) (by decide +kernel) (by decide +kernel) (by decide +kernel)
theorem allAtoms_all (ts : List Jvm.Cond) (a : Array Jvm.Value) (st : Jvm.State) : (allAtoms ts).before a st = ts.all (fun c => c.before a st) := by
  induction ts with
  | nil => rfl
  | cons c t ih =>
    show (Jvm.Cond.and c (allAtoms t)).before a st = _
    rw [Jvm.Cond.before_and, ih, List.all_cons]
def words1 : List Jvm.Cond := Jvm.Cond.code x code maxLocals ret :: tables_1
/-- a 'code' word, met by the world's own term for the bytes: nothing is compared byte by byte -/
theorem code_word {y : MethodName} {bytes : ByteArray} {mx : Nat} {rt : Option FieldType} {a : Array Value} {s : State} {m : MethodId} {meth : Method} {c : Code} (h1 : s.methodNamed? y = some m) (h2 : s.vm.method? m = some meth) (h3 : meth.code = some c) (h4 : c.code = bytes)
    (h5 : (c.maxLocals == mx && c.exceptionTable.isEmpty && decide (c.maxStack ≤ mostOperands) && decide (meth.sig.returnType = rt) && !meth.locks && decide (parseMethodDescriptor y.desc = some meth.sig)) = true) : (Jvm.Cond.code y bytes mx rt).before a s = true := by
  simp only [Bool.and_eq_true, beq_iff_eq, Bool.not_eq_true', decide_eq_true_eq] at h5
  obtain ⟨⟨⟨⟨⟨g1, g2⟩, g3⟩, g4⟩, g5⟩, g6⟩ := h5
  simp [Cond.before, Cond.holds, Cond.value, h1, h2, h3, h4, g1, g2, g3, g4, g5, g6]
def isCode : Jvm.Cond → Bool
  | .code _ _ _ _ => true
  | _ => false
theorem all_split {L : List Jvm.Cond} {P : Jvm.Cond → Bool} (h1 : L.all (fun c => isCode c || P c) = true) (h2 : ∀ c ∈ L.filter isCode, P c = true) : L.all P = true := by
  refine List.all_eq_true.mpr fun c hc => ?_
  have h := List.all_eq_true.mp h1 c hc
  rcases Bool.eq_false_or_eq_true (isCode c) with hi | hi
  · exact h2 c (List.mem_filter.mpr ⟨hc, hi⟩)
  · simpa [hi] using h
set_option maxRecDepth 65536 in
theorem w_c0 : (Jvm.Cond.code x code maxLocals ret).before args0 about1 = true := code_word (m := ⟨1, 1⟩) (meth := k1m1) (c := k1c1) (by decide +kernel) rfl rfl rfl (by decide +kernel)
set_option maxRecDepth 65536 in
theorem w_c1 : (Jvm.Cond.code ({ cls := "com/example/quotaria/quotaria/ccq/CutoffRelaxationAddPinLaw", name := "pick", desc := "(JI)J" } : Jvm.MethodName) method_3_code (3 : Nat) (Option.some Jvm.ClassFile.FieldType.long)).before args0 about1 = true := code_word (m := ⟨1, 2⟩) (meth := k1m2) (c := k1c2) (by decide +kernel) rfl rfl rfl (by decide +kernel)
set_option maxRecDepth 65536 in
theorem w_c2 : (Jvm.Cond.code ({ cls := "com/example/quotaria/quotaria/ccq/CutoffRelaxation", name := "add", desc := "(JJ)J" } : Jvm.MethodName) prog_17_method_41_code (6 : Nat) (Option.some Jvm.ClassFile.FieldType.long)).before args0 about1 = true := code_word (m := ⟨2, 0⟩) (meth := k2m0) (c := k2c0) (by decide +kernel) rfl rfl rfl (by decide +kernel)
set_option maxRecDepth 65536 in
theorem w_c3 : (Jvm.Cond.code ({ cls := "com/example/quotaria/quotaria/ccq/CutoffRelaxationAddPinLaw", name := "reference", desc := "(JJ)J" } : Jvm.MethodName) method_4_code (4 : Nat) (Option.some Jvm.ClassFile.FieldType.long)).before args0 about1 = true := code_word (m := ⟨1, 3⟩) (meth := k1m3) (c := k1c3) (by decide +kernel) rfl rfl rfl (by decide +kernel)
def codes1 : List Jvm.Cond := [Jvm.Cond.code x code maxLocals ret, Jvm.Cond.code ({ cls := "com/example/quotaria/quotaria/ccq/CutoffRelaxationAddPinLaw", name := "pick", desc := "(JI)J" } : Jvm.MethodName) method_3_code (3 : Nat) (Option.some Jvm.ClassFile.FieldType.long), Jvm.Cond.code ({ cls := "com/example/quotaria/quotaria/ccq/CutoffRelaxation", name := "add", desc := "(JJ)J" } : Jvm.MethodName) prog_17_method_41_code (6 : Nat) (Option.some Jvm.ClassFile.FieldType.long), Jvm.Cond.code ({ cls := "com/example/quotaria/quotaria/ccq/CutoffRelaxationAddPinLaw", name := "reference", desc := "(JJ)J" } : Jvm.MethodName) method_4_code (4 : Nat) (Option.some Jvm.ClassFile.FieldType.long)]
set_option maxRecDepth 65536 in
theorem codes_eq : words1.filter isCode = codes1 := rfl
theorem w_codes : ∀ c ∈ words1.filter isCode, c.before args0 about1 = true := by
  rw [codes_eq]
  intro c hc
  simp only [codes1, List.mem_cons, List.not_mem_nil, or_false] at hc
  rcases hc with rfl | rfl | rfl | rfl
  · exact w_c0
  · exact w_c1
  · exact w_c2
  · exact w_c3
set_option maxRecDepth 65536 in
theorem w_t1 : words1.all (fun c => isCode c || c.before args0 about1) = true := by decide +kernel
theorem w_tables : (allAtoms (Jvm.Cond.code x code maxLocals ret :: tables_1)).before args0 about1 = true := by
  rw [allAtoms_all]
  show words1.all (fun c => c.before args0 about1) = true
  refine all_split ?_ w_codes
  rw [w_t1]
set_option maxRecDepth 65536 in
theorem w_case : (Jvm.Cond.and given_1 narrow_1).before args0 about1 = true := by decide +kernel
theorem w_applies : (headSpec (Jvm.Cond.code x code maxLocals ret :: tables_1) room_1).applies x e0.platform about1 = true :=
  (Spec.applies_iff w_frames).mpr ⟨w_running, w_runnable, w_alone, w_named, w_hears, w_ripe, w_room, w_tables⟩
theorem atStart : AtStart classFile x code maxLocals ret World_1 tables_1 room_1 Calls_1 rest_1 Pre_1 launch0 p0 e0 about1 theMethod args0 below0 :=
  ⟨lists_1, trivial, launch0.admits_env _ _ _, launch0.least_env, fairChoices_fair.cas, fairChoices_fair.clock, w_frames, w_args, w_heap, w_applies, trivial, trivial, w_case⟩
end start1
theorem witness_1 : WitnessClaimed_1 := ⟨start1.p0, start1.e0, start1.about1, start1.theMethod, start1.args0, start1.below0, start1.atStart⟩
end Jvm.Pilot.@@N@@
