import JvmDerived
import JvmDerived.Pilot.@@N@@Statement
import JvmDerived.Pilot.@@N@@Code
set_option linter.unusedVariables false
set_option linter.unusedSimpArgs false
namespace Jvm.RoadKit
open Sem ClassFile Op Lib Jvm.Stand Jvm.Free Jvm.LawKit
section New
variable {p : Program} {l : Launch} {e : Env} {R : Room} {s : State} {m : MethodId} {args : Array Value} {below : List Frame} {meth : Method} {c : Code} {T : State} {locs : List Loc} {cells slots : Nat}
theorem retI (X : Stand p l e R s m args below meth c T locs cells slots) (hx : p.tables.exec = Jvm.exec) {pc : Nat} {Ls : Array Slot} {z : Int32} {rest : List Value} (hret : meth.sig.returnType = some .int) (hd : decode c.code pc = .ok (.ireturn, 1)) {fs : List Frame}
    (hl : ∀ (f : JFrame) (acts : List Action), f.method = m → f.locked = none → f.entered = [] → (doReturn e (T.setTop f) acts (some (.int z))).1 = T.setFrames fs) : Steps p.tables e below (T.setTop (mkF m pc Ls (.int z :: rest))) (T.setFrames fs) := by
  have hm' : T.vm.method? m = some meth := X.method'
  have hn : narrow .int (.int z) = .int z := rfl
  show Steps p.tables e below (T.setTop { method := m, pc := pc, locals := Ls, stack := _ :: rest, locked := none }) _
  jvm_step X.here [X.here.top, hx, hd, hm', hret, hn]
  first | (intro acts; rw [hl _ acts rfl rfl rfl]) | rw [hl _ _ rfl rfl rfl]
  exact Steps.refl _
end New
end Jvm.RoadKit
namespace Jvm.Pilot.@@N@@
open Jvm Jvm.ClassFile Sem Op Lib Jvm.Free Jvm.Stand Jvm.LawKit Jvm.RoadKit Bundle Jvm.Pilot.@@N@@.Jvm.D
def Rch (tb : Tables) (e : Env) (below : List Frame) (P : State → Prop) (st : State) : Prop := ∃ t, Steps tb e below st t ∧ P t
theorem Rch.go {tb : Tables} {e : Env} {below : List Frame} {P : State → Prop} {st st' : State} (h : ∀ t, Steps tb e below st' t → Steps tb e below st t) (k : Rch tb e below P st') : Rch tb e below P st := by
  obtain ⟨t, h1, h2⟩ := k
  exact ⟨t, h t h1, h2⟩
theorem Rch.mk {tb : Tables} {e : Env} {below : List Frame} {P : State → Prop} {st t : State} (h : Steps tb e below st t) (k : P t) : Rch tb e below P st := ⟨t, h, k⟩
theorem ow0 {a0 : Array Value} {Z : State} (hw : ∀ d ∈ tables_1, d.before a0 Z = true) : (Jvm.Cond.constantLong "com/example/weir/TimeoutsLeftPinLaw" (9 : Nat) (9223372036854775807 : Int64)).before a0 Z = true := hw _ (List.mem_of_getElem? (i := 0) rfl)
theorem ow1 {a0 : Array Value} {Z : State} (hw : ∀ d ∈ tables_1, d.before a0 Z = true) : (Jvm.Cond.methodLink "com/example/weir/TimeoutsLeftPinLaw" (11 : Nat) ({ cls := "com/example/weir/Timeouts", name := "left", desc := "(JJ)J" } : Jvm.MethodName)).before a0 Z = true := hw _ (List.mem_of_getElem? (i := 1) rfl)
theorem ow2 {a0 : Array Value} {Z : State} (hw : ∀ d ∈ tables_1, d.before a0 Z = true) : (Jvm.Cond.static ({ cls := "com/example/weir/Timeouts", name := "left", desc := "(JJ)J" } : Jvm.MethodName)).before a0 Z = true := hw _ (List.mem_of_getElem? (i := 2) rfl)
theorem ow3 {a0 : Array Value} {Z : State} (hw : ∀ d ∈ tables_1, d.before a0 Z = true) : (Jvm.Cond.initialized "com/example/weir/Timeouts").before a0 Z = true := hw _ (List.mem_of_getElem? (i := 3) rfl)
theorem ow4 {a0 : Array Value} {Z : State} (hw : ∀ d ∈ tables_1, d.before a0 Z = true) : (Jvm.Cond.code ({ cls := "com/example/weir/Timeouts", name := "left", desc := "(JJ)J" } : Jvm.MethodName) prog_19_method_3_code (4 : Nat) (Option.some Jvm.ClassFile.FieldType.long)).before a0 Z = true := hw _ (List.mem_of_getElem? (i := 4) rfl)
theorem ow5 {a0 : Array Value} {Z : State} (hw : ∀ d ∈ tables_1, d.before a0 Z = true) : (Jvm.Cond.constantLong "com/example/weir/Timeouts" (33 : Nat) (9223372036854775807 : Int64)).before a0 Z = true := hw _ (List.mem_of_getElem? (i := 5) rfl)
def fLeft (q1 : Int64) (q2 : Int64) : Int64 := (if (lcmpW q1 (9223372036854775807 : Int64)) = (0 : Int32) then (9223372036854775807 : Int64) else (q1 - q2))
theorem ef_rm1 (m : MethodId) (q1 : Int64) (q2 : Int64) : entryFrame m #[(.long q1), (.long q2)] 4 = mkF m 0 #[.val (.long q1), .second, .val (.long q2), .second] [] := by first | (simp [entryFrame, mkF, argsToLocals, Value.category]; done) | rfl
theorem pn_com_example_weir_Timeouts : plainName "com/example/weir/Timeouts" = true := by first | (simp [plainName, overriddenIn]; done) | decide +kernel
theorem d1_0 : decode prog_19_method_3_code 0 = .ok (.lload_n 0, 1) := by decide +kernel
theorem d1_1 : decode prog_19_method_3_code 1 = .ok (.ldc2_w 33, 3) := by decide +kernel
theorem d1_4 : decode prog_19_method_3_code 4 = .ok (.lcmp, 1) := by decide +kernel
theorem d1_5 : decode prog_19_method_3_code 5 = .ok (.ifCond .ne 9, 3) := by decide +kernel
theorem d1_8 : decode prog_19_method_3_code 8 = .ok (.ldc2_w 33, 3) := by decide +kernel
theorem d1_11 : decode prog_19_method_3_code 11 = .ok (.goto 6, 3) := by decide +kernel
theorem d1_17 : decode prog_19_method_3_code 17 = .ok (.lreturn, 1) := by decide +kernel
theorem d1_14 : decode prog_19_method_3_code 14 = .ok (.lload_n 0, 1) := by decide +kernel
theorem d1_15 : decode prog_19_method_3_code 15 = .ok (.lload_n 2, 1) := by decide +kernel
theorem d1_16 : decode prog_19_method_3_code 16 = .ok (.lsub, 1) := by decide +kernel
def Q_rm1 (Z : State) (q1 : Int64) (q2 : Int64) (h0 : Heap) (n0 : Nat) (v : Option Value) (h : Heap) (L : List Loc) : Prop := v = some (.long (fLeft q1 q2)) ∧ Fr n0 L ∧ h = h0
set_option maxRecDepth 65536 in
set_option maxHeartbeats 40000000 in
theorem rm1 (l : Launch) (Z : State) (a0 : Array Value) (hw : ∀ d ∈ tables_1, d.before a0 Z = true) (ws : List Jvm.Cond) (q1 : Int64) (q2 : Int64) (h0 : Heap) (n0 : Nat) (Z0 : n0 ≤ h0.size) :
    MetFree l (⟨"com/example/weir/Timeouts", "left", "(JJ)J"⟩ : MethodName) (head1 (Jvm.Cond.code (⟨"com/example/weir/Timeouts", "left", "(JJ)J"⟩ : MethodName) prog_19_method_3_code 4 (some .long) :: ws) ({ frames := 0, cells := 0, slots := 0, locals := 0 } : Room)) (fun a U => a = #[(.long q1), (.long q2)] ∧ Z.Warmed39 U.vm ∧ U.heap = h0) (fun _ _ _ _ _ => True) (fun _ U o U' => ∃ v L, o = .returned v ∧ Q_rm1 Z q1 q2 h0 n0 v U'.heap L ∧ FrameEnd U o U' L ({ frames := 0, cells := 0, slots := 0, locals := 0 } : Room).cells ({ frames := 0, cells := 0, slots := 0, locals := 0 } : Room).slots) := by
  refine MetFree.of_bodySF (plainFor_of_name pn_com_example_weir_Timeouts) hisR ?_
  intro p e s m args below meth c s₁ Bd hml0 hP hK
  obtain ⟨rfl, hZ, hh⟩ := hP
  have hx := Bd.exec
  have hby := Bd.bytes
  have hml : c.maxLocals = 4 := hml0
  have hown : s.vm.findClass "com/example/weir/Timeouts" = some m.cls := findClass_of_methodNamed Bd.named
  have hnm := (name_of_methodNamed Bd.named Bd.method).1
  have X0 : Stand p l e ({ frames := 0, cells := 0, slots := 0, locals := 0 } : Room) s m #[(.long q1), (.long q2)] below meth c s₁ [] 0 0 := Stand.of_body Bd
  have e0 : s₁.heap = h0 := by rw [← hh, Bd.state]; rfl
  have N0 := Fr.nil n0
  suffices hR : ∀ P : State → Prop, (∀ s₂ o v L, s₂.status = .running → Ended s₂ below o → o = .returned v → Q_rm1 Z q1 q2 h0 n0 v s₂.heap L → FrameEnd s o s₂ L ({ frames := 0, cells := 0, slots := 0, locals := 0 } : Room).cells ({ frames := 0, cells := 0, slots := 0, locals := 0 } : Room).slots → P s₂) → Rch p.tables e below P (s₁.setTop (mkF m 0 #[.val (.long q1), .second, .val (.long q2), .second] [])) by
    obtain ⟨s₂, h1, o, h2⟩ := hR (fun s₂ => ∃ o, s₂.status = .running ∧ Ended s₂ below o ∧ ∃ v L, o = .returned v ∧ Q_rm1 Z q1 q2 h0 n0 v s₂.heap L ∧ FrameEnd s o s₂ L ({ frames := 0, cells := 0, slots := 0, locals := 0 } : Room).cells ({ frames := 0, cells := 0, slots := 0, locals := 0 } : Room).slots) (fun s₂ o v L q1 q2 q3 q4 q5 => ⟨o, q1, q2, v, L, q3, q4, q5⟩)
    exact ⟨s₂, o, castTop (ef_rm1 m q1 q2) h1, h2⟩
  intro P hPd
  refine Rch.go (fun zt zk => XS.lloadN X0.here hx rfl (hb hby d1_0) rfl zk) ?_
  show Rch _ _ _ _ (s₁.setTop (mkF m 1 #[.val (.long q1), .second, .val (.long q2), .second] [(.long q1)]))
  refine Rch.go (X0.ldc2Long hx hown (mvT hZ (ow5 hw)) (g := (mkF m 1 #[.val (.long q1), .second, .val (.long q2), .second] [(.long q1)])) rfl (hb hby d1_1)) ?_
  show Rch _ _ _ _ (s₁.setTop (mkF m 4 #[.val (.long q1), .second, .val (.long q2), .second] [(.long (9223372036854775807 : Int64)), (.long q1)]))
  refine Rch.go (fun zt zk => XS.lcmp X0.here hx rfl (hb hby d1_4) rfl zk) ?_
  show Rch _ _ _ _ (s₁.setTop (mkF m 5 #[.val (.long q1), .second, .val (.long q2), .second] [(.int (lcmpW q1 (9223372036854775807 : Int64)))]))
  by_cases hc5_1 : (lcmpW q1 (9223372036854775807 : Int64)) = (0 : Int32)
  · skip
    refine Rch.go (fun zt zk => XS.ifNo X0.here hx rfl (hb hby d1_5) rfl ((if0 _ _).trans (teq hc5_1).2) zk) ?_
    show Rch _ _ _ _ (s₁.setTop (mkF m 8 #[.val (.long q1), .second, .val (.long q2), .second] []))
    refine Rch.go (X0.ldc2Long hx hown (mvT hZ (ow5 hw)) (g := (mkF m 8 #[.val (.long q1), .second, .val (.long q2), .second] [])) rfl (hb hby d1_8)) ?_
    show Rch _ _ _ _ (s₁.setTop (mkF m 11 #[.val (.long q1), .second, .val (.long q2), .second] [(.long (9223372036854775807 : Int64))]))
    refine Rch.go (fun zt zk => XS.goto X0.here hx rfl (pc0 := 11) (pc' := 17) rfl (hb hby d1_11) (by decide) (by decide) zk) ?_
    show Rch _ _ _ _ (s₁.setTop (mkF m 17 #[.val (.long q1), .second, .val (.long q2), .second] [(.long (9223372036854775807 : Int64))]))
    obtain ⟨fs, hr, hrun, hended, hW, hsame⟩ := X0.leave (v := some (.long (9223372036854775807 : Int64))) (fun h => by rw [Bd.returns] at h; cases h)
    have hend : Steps p.tables e below (s₁.setTop (mkF m 17 #[.val (.long q1), .second, .val (.long q2), .second] [(.long (9223372036854775807 : Int64))])) (s₁.setFrames fs) := by
      jvm_step X0.here [X0.here.top, hx, (hb hby d1_17), X0.method', Bd.returns, narrow]
      first | (intro acts; rw [hr _ acts rfl rfl rfl]) | rw [hr _ _ rfl rfl rfl]
      exact Steps.refl _
    refine Rch.mk (hend) (hPd _ _ _ _ hrun hended rfl ?_ ⟨⟨_, rfl⟩, hW, hsame.mono (by decide) (by decide)⟩)
    show Q_rm1 Z q1 q2 h0 n0 _ s₁.heap _
    have hF : fLeft q1 q2 = (9223372036854775807 : Int64) := ((if_pos hc5_1).trans rfl)
    rw [e0]
    exact ⟨by rw [hF], N0, rfl⟩
  · skip
    refine Rch.go (fun zt zk => XS.ifYes X0.here hx rfl (pc0 := 5) (pc' := 14) rfl (hb hby d1_5) rfl ((if0 _ _).trans (feq hc5_1).2) (by decide) (by decide) zk) ?_
    show Rch _ _ _ _ (s₁.setTop (mkF m 14 #[.val (.long q1), .second, .val (.long q2), .second] []))
    refine Rch.go (fun zt zk => XS.lloadN X0.here hx rfl (hb hby d1_14) rfl zk) ?_
    show Rch _ _ _ _ (s₁.setTop (mkF m 15 #[.val (.long q1), .second, .val (.long q2), .second] [(.long q1)]))
    refine Rch.go (fun zt zk => XS.lloadN X0.here hx rfl (hb hby d1_15) rfl zk) ?_
    show Rch _ _ _ _ (s₁.setTop (mkF m 16 #[.val (.long q1), .second, .val (.long q2), .second] [(.long q2), (.long q1)]))
    refine Rch.go (fun zt zk => XS.lsub X0.here hx rfl (hb hby d1_16) rfl zk) ?_
    show Rch _ _ _ _ (s₁.setTop (mkF m 17 #[.val (.long q1), .second, .val (.long q2), .second] [(.long (q1 - q2))]))
    obtain ⟨fs, hr, hrun, hended, hW, hsame⟩ := X0.leave (v := some (.long (q1 - q2))) (fun h => by rw [Bd.returns] at h; cases h)
    have hend : Steps p.tables e below (s₁.setTop (mkF m 17 #[.val (.long q1), .second, .val (.long q2), .second] [(.long (q1 - q2))])) (s₁.setFrames fs) := by
      jvm_step X0.here [X0.here.top, hx, (hb hby d1_17), X0.method', Bd.returns, narrow]
      first | (intro acts; rw [hr _ acts rfl rfl rfl]) | rw [hr _ _ rfl rfl rfl]
      exact Steps.refl _
    refine Rch.mk (hend) (hPd _ _ _ _ hrun hended rfl ?_ ⟨⟨_, rfl⟩, hW, hsame.mono (by decide) (by decide)⟩)
    show Q_rm1 Z q1 q2 h0 n0 _ s₁.heap _
    have hF : fLeft q1 q2 = (q1 - q2) := ((if_neg hc5_1).trans rfl)
    rw [e0]
    exact ⟨by rw [hF], N0, rfl⟩
theorem own_cast {a b : Int64} : a = b ↔ a.toInt = b.toInt := Int64.toInt_inj.symm
theorem own_max : (9223372036854775807 : Int64).toInt = 9223372036854775807 := by decide
theorem own_left (a b : Int64) : fLeft a b = if a = (9223372036854775807 : Int64) then (9223372036854775807 : Int64) else a - b := by
  unfold fLeft
  by_cases h : a = (9223372036854775807 : Int64)
  · rw [if_pos h, if_pos ((lw_eq _ _).mpr h)]
  · rw [if_neg h, if_neg (fun q => h ((lw_eq _ _).mp q))]
theorem own_mask (x : Int64) : 0 ≤ (x &&& (9223372036854775807 : Int64)).toInt := by
  have h := c_maskL x (9223372036854775807 : Int64) 63 (by decide) (by decide)
  rw [h]; omega
/-- the plain law -/
theorem own_sub {a b : Int64} (ha : 0 ≤ a.toInt) (hb : 0 ≤ b.toInt) : (a - b).toInt = a.toInt - b.toInt := by
  have h := c_lsub a b; have h1 := rng64 (a - b); have h2 := rng64 a; have h3 := rng64 b; omega
theorem own_back {a b : Int64} : a - b + b = a := by
  have h := c_lsub a b; have h1 := c_ladd (a - b) b; have h2 := rng64 (a - b + b); have h3 := rng64 a; rw [own_cast]; omega
theorem ef_rm0 (m : MethodId) (q1 : Int64) (q2 : Int64) (p3 : Int32) : entryFrame m #[(.long q1), (.long q2), (.int p3)] maxLocals = mkF m 0 #[.val (.long q1), .second, .val (.long q2), .second, .val (.int p3), .unset, .unset, .unset, .unset, .unset, .unset] [] := by first | (simp [entryFrame, mkF, argsToLocals, Value.category, maxLocals]; done) | rfl
theorem pn_com_example_weir_TimeoutsLeftPinLaw : plainName "com/example/weir/TimeoutsLeftPinLaw" = true := by first | (simp [plainName, overriddenIn]; done) | decide +kernel
theorem pd__JJ_J : parseMethodDescriptor "(JJ)J" = some ⟨[.long, .long], some .long⟩ := by decide +kernel
def Q_rm0 (Z : State) (q1 : Int64) (q2 : Int64) (p3 : Int32) (h0 : Heap) (n0 : Nat) (v : Option Value) (h : Heap) (L : List Loc) : Prop := v = some (.int (1 : Int32)) ∧ Fr n0 L
set_option maxRecDepth 65536 in
set_option maxHeartbeats 40000000 in
theorem rm0 (l : Launch) (Z : State) (a0 : Array Value) (hw : ∀ d ∈ tables_1, d.before a0 Z = true) (ws : List Jvm.Cond) (q1 : Int64) (q2 : Int64) (p3 : Int32) (h0 : Heap) (n0 : Nat) (Z0 : n0 ≤ h0.size) :
    MetFree l x (head1 (Jvm.Cond.code x code maxLocals ret :: ws) room_1) (fun a U => a = #[(.long q1), (.long q2), (.int p3)] ∧ Z.Warmed39 U.vm ∧ U.heap = h0) (fun _ _ _ _ _ => True) (fun _ U o U' => ∃ v L, o = .returned v ∧ Q_rm0 Z q1 q2 p3 h0 n0 v U'.heap L ∧ FrameEnd U o U' L room_1.cells room_1.slots) := by
  refine MetFree.of_bodySF (plainFor_of_name pn_com_example_weir_TimeoutsLeftPinLaw) hisR ?_
  intro p e s m args below meth c s₁ Bd hml0 hP hK
  obtain ⟨rfl, hZ, hh⟩ := hP
  have hx := Bd.exec
  have hby := Bd.bytes
  have hml : c.maxLocals = 11 := hml0
  have hown : s.vm.findClass "com/example/weir/TimeoutsLeftPinLaw" = some m.cls := findClass_of_methodNamed Bd.named
  have hnm := (name_of_methodNamed Bd.named Bd.method).1
  have X0 : Stand p l e room_1 s m #[(.long q1), (.long q2), (.int p3)] below meth c s₁ [] 0 0 := Stand.of_body Bd
  have e0 : s₁.heap = h0 := by rw [← hh, Bd.state]; rfl
  have N0 := Fr.nil n0
  suffices hR : ∀ P : State → Prop, (∀ s₂ o v L, s₂.status = .running → Ended s₂ below o → o = .returned v → Q_rm0 Z q1 q2 p3 h0 n0 v s₂.heap L → FrameEnd s o s₂ L room_1.cells room_1.slots → P s₂) → Rch p.tables e below P (s₁.setTop (mkF m 0 #[.val (.long q1), .second, .val (.long q2), .second, .val (.int p3), .unset, .unset, .unset, .unset, .unset, .unset] [])) by
    obtain ⟨s₂, h1, o, h2⟩ := hR (fun s₂ => ∃ o, s₂.status = .running ∧ Ended s₂ below o ∧ ∃ v L, o = .returned v ∧ Q_rm0 Z q1 q2 p3 h0 n0 v s₂.heap L ∧ FrameEnd s o s₂ L room_1.cells room_1.slots) (fun s₂ o v L q1 q2 q3 q4 q5 => ⟨o, q1, q2, v, L, q3, q4, q5⟩)
    exact ⟨s₂, o, castTop (ef_rm0 m q1 q2 p3) h1, h2⟩
  intro P hPd
  have j18 : ∀ (tm : Int64), (0 ≤ tm.toInt) → Rch p.tables e below P (s₁.setTop (mkF m 18 #[.val (.long q1), .second, .val (.long q2), .second, .val (.int p3), .unset, .unset, .unset, .unset, .unset, .unset] [(.long tm)])) := by
    intro tm htm
    refine Rch.go (fun zt zk => XS.lstore X0.here hx rfl (hb hby at_18) rfl (l' := #[.val (.long q1), .second, .val (.long q2), .second, .val (.int p3), .val (.long tm), .second, .unset, .unset, .unset, .unset]) rfl zk) ?_
    show Rch _ _ _ _ (s₁.setTop (mkF m 20 #[.val (.long q1), .second, .val (.long q2), .second, .val (.int p3), .val (.long tm), .second, .unset, .unset, .unset, .unset] []))
    refine Rch.go (fun zt zk => XS.lloadN X0.here hx rfl (hb hby at_20) rfl zk) ?_
    show Rch _ _ _ _ (s₁.setTop (mkF m 21 #[.val (.long q1), .second, .val (.long q2), .second, .val (.int p3), .val (.long tm), .second, .unset, .unset, .unset, .unset] [(.long q2)]))
    refine Rch.go (X0.ldc2Long hx hown (mvT hZ (ow0 hw)) (g := (mkF m 21 #[.val (.long q1), .second, .val (.long q2), .second, .val (.int p3), .val (.long tm), .second, .unset, .unset, .unset, .unset] [(.long q2)])) rfl (hb hby at_21)) ?_
    show Rch _ _ _ _ (s₁.setTop (mkF m 24 #[.val (.long q1), .second, .val (.long q2), .second, .val (.int p3), .val (.long tm), .second, .unset, .unset, .unset, .unset] [(.long (9223372036854775807 : Int64)), (.long q2)]))
    refine Rch.go (fun zt zk => XS.land X0.here hx rfl (hb hby at_24) rfl zk) ?_
    show Rch _ _ _ _ (s₁.setTop (mkF m 25 #[.val (.long q1), .second, .val (.long q2), .second, .val (.int p3), .val (.long tm), .second, .unset, .unset, .unset, .unset] [(.long (q2 &&& (9223372036854775807 : Int64)))]))
    refine Rch.go (fun zt zk => XS.lstore X0.here hx rfl (hb hby at_25) rfl (l' := #[.val (.long q1), .second, .val (.long q2), .second, .val (.int p3), .val (.long tm), .second, .val (.long (q2 &&& (9223372036854775807 : Int64))), .second, .unset, .unset]) rfl zk) ?_
    show Rch _ _ _ _ (s₁.setTop (mkF m 27 #[.val (.long q1), .second, .val (.long q2), .second, .val (.int p3), .val (.long tm), .second, .val (.long (q2 &&& (9223372036854775807 : Int64))), .second, .unset, .unset] []))
    refine Rch.go (fun zt zk => XS.lload X0.here hx rfl (hb hby at_27) rfl zk) ?_
    show Rch _ _ _ _ (s₁.setTop (mkF m 29 #[.val (.long q1), .second, .val (.long q2), .second, .val (.int p3), .val (.long tm), .second, .val (.long (q2 &&& (9223372036854775807 : Int64))), .second, .unset, .unset] [(.long tm)]))
    refine Rch.go (fun zt zk => XS.lload X0.here hx rfl (hb hby at_29) rfl zk) ?_
    show Rch _ _ _ _ (s₁.setTop (mkF m 31 #[.val (.long q1), .second, .val (.long q2), .second, .val (.int p3), .val (.long tm), .second, .val (.long (q2 &&& (9223372036854775807 : Int64))), .second, .unset, .unset] [(.long (q2 &&& (9223372036854775807 : Int64))), (.long tm)]))
    obtain ⟨_, _, ⟨T1, L1, k1, n1⟩, -, X1, ⟨Lc1, hQ1, l1, y1, z1⟩, st1⟩ := Jvm.LawKit.callS X0 hx (y := (⟨"com/example/weir/Timeouts", "left", "(JJ)J"⟩ : MethodName)) hown (mvT hZ (ow1 hw)) (mvT hZ (ow2 hw)) (mvT hZ (ow3 hw)) (mvT hZ (ow4 hw)) (by decide) (backOf (W := 0) (rm1 l Z a0 hw [] tm (q2 &&& (9223372036854775807 : Int64)) h0 n0 Z0 ) hZ (ow4 hw) (ow3 hw) (by decide) (by decide)) (g := (mkF m 31 #[.val (.long q1), .second, .val (.long q2), .second, .val (.int p3), .val (.long tm), .second, .val (.long (q2 &&& (9223372036854775807 : Int64))), .second, .unset, .unset] [(.long (q2 &&& (9223372036854775807 : Int64))), (.long tm)])) rfl (by rw [hml]; rfl) (argsL := [(.long tm), (.long (q2 &&& (9223372036854775807 : Int64)))]) (rest := []) (lenOf pd__JJ_J rfl) rfl (by show 2 * 0 + _ ≤ _; exact Nat.le_of_eq rfl) (hb hby at_31) (fun _ _ => ⟨rfl, e0, (by decide : 0 + 0 ≤ _), (by decide : 0 + 0 ≤ _)⟩)
    dsimp only [Pt.U, Pt.locs, Pt.cells, Pt.slots] at X1 l1 y1 z1 st1 hQ1
    subst l1 y1 z1
    obtain ⟨rfl, N1q, eq1⟩ := hQ1
    have N1 := Fr.app N0 N1q
    refine Rch.go st1 ?_
    show Rch _ _ _ _ (T1.setTop (mkF m 34 #[.val (.long q1), .second, .val (.long q2), .second, .val (.int p3), .val (.long tm), .second, .val (.long (q2 &&& (9223372036854775807 : Int64))), .second, .unset, .unset] [(.long (fLeft tm (q2 &&& (9223372036854775807 : Int64))))]))
    refine Rch.go (fun zt zk => XS.lstore X1.here hx rfl (hb hby at_34) rfl (l' := #[.val (.long q1), .second, .val (.long q2), .second, .val (.int p3), .val (.long tm), .second, .val (.long (q2 &&& (9223372036854775807 : Int64))), .second, .val (.long (fLeft tm (q2 &&& (9223372036854775807 : Int64)))), .second]) rfl zk) ?_
    show Rch _ _ _ _ (T1.setTop (mkF m 36 #[.val (.long q1), .second, .val (.long q2), .second, .val (.int p3), .val (.long tm), .second, .val (.long (q2 &&& (9223372036854775807 : Int64))), .second, .val (.long (fLeft tm (q2 &&& (9223372036854775807 : Int64)))), .second] []))
    refine Rch.go (fun zt zk => XS.lload X1.here hx rfl (hb hby at_36) rfl zk) ?_
    show Rch _ _ _ _ (T1.setTop (mkF m 38 #[.val (.long q1), .second, .val (.long q2), .second, .val (.int p3), .val (.long tm), .second, .val (.long (q2 &&& (9223372036854775807 : Int64))), .second, .val (.long (fLeft tm (q2 &&& (9223372036854775807 : Int64)))), .second] [(.long tm)]))
    refine Rch.go (X1.ldc2Long hx hown (mvT hZ (ow0 hw)) (g := (mkF m 38 #[.val (.long q1), .second, .val (.long q2), .second, .val (.int p3), .val (.long tm), .second, .val (.long (q2 &&& (9223372036854775807 : Int64))), .second, .val (.long (fLeft tm (q2 &&& (9223372036854775807 : Int64)))), .second] [(.long tm)])) rfl (hb hby at_38)) ?_
    show Rch _ _ _ _ (T1.setTop (mkF m 41 #[.val (.long q1), .second, .val (.long q2), .second, .val (.int p3), .val (.long tm), .second, .val (.long (q2 &&& (9223372036854775807 : Int64))), .second, .val (.long (fLeft tm (q2 &&& (9223372036854775807 : Int64)))), .second] [(.long (9223372036854775807 : Int64)), (.long tm)]))
    refine Rch.go (fun zt zk => XS.lcmp X1.here hx rfl (hb hby at_41) rfl zk) ?_
    show Rch _ _ _ _ (T1.setTop (mkF m 42 #[.val (.long q1), .second, .val (.long q2), .second, .val (.int p3), .val (.long tm), .second, .val (.long (q2 &&& (9223372036854775807 : Int64))), .second, .val (.long (fLeft tm (q2 &&& (9223372036854775807 : Int64)))), .second] [(.int (lcmpW tm (9223372036854775807 : Int64)))]))
    by_cases hc42_2 : (lcmpW tm (9223372036854775807 : Int64)) = (0 : Int32)
    · skip
      refine Rch.go (fun zt zk => XS.ifNo X1.here hx rfl (hb hby at_42) rfl ((if0 _ _).trans (teq hc42_2).2) zk) ?_
      show Rch _ _ _ _ (T1.setTop (mkF m 45 #[.val (.long q1), .second, .val (.long q2), .second, .val (.int p3), .val (.long tm), .second, .val (.long (q2 &&& (9223372036854775807 : Int64))), .second, .val (.long (fLeft tm (q2 &&& (9223372036854775807 : Int64)))), .second] []))
      refine Rch.go (fun zt zk => XS.lload X1.here hx rfl (hb hby at_45) rfl zk) ?_
      show Rch _ _ _ _ (T1.setTop (mkF m 47 #[.val (.long q1), .second, .val (.long q2), .second, .val (.int p3), .val (.long tm), .second, .val (.long (q2 &&& (9223372036854775807 : Int64))), .second, .val (.long (fLeft tm (q2 &&& (9223372036854775807 : Int64)))), .second] [(.long (fLeft tm (q2 &&& (9223372036854775807 : Int64))))]))
      refine Rch.go (X1.ldc2Long hx hown (mvT hZ (ow0 hw)) (g := (mkF m 47 #[.val (.long q1), .second, .val (.long q2), .second, .val (.int p3), .val (.long tm), .second, .val (.long (q2 &&& (9223372036854775807 : Int64))), .second, .val (.long (fLeft tm (q2 &&& (9223372036854775807 : Int64)))), .second] [(.long (fLeft tm (q2 &&& (9223372036854775807 : Int64))))])) rfl (hb hby at_47)) ?_
      show Rch _ _ _ _ (T1.setTop (mkF m 50 #[.val (.long q1), .second, .val (.long q2), .second, .val (.int p3), .val (.long tm), .second, .val (.long (q2 &&& (9223372036854775807 : Int64))), .second, .val (.long (fLeft tm (q2 &&& (9223372036854775807 : Int64)))), .second] [(.long (9223372036854775807 : Int64)), (.long (fLeft tm (q2 &&& (9223372036854775807 : Int64))))]))
      refine Rch.go (fun zt zk => XS.lcmp X1.here hx rfl (hb hby at_50) rfl zk) ?_
      show Rch _ _ _ _ (T1.setTop (mkF m 51 #[.val (.long q1), .second, .val (.long q2), .second, .val (.int p3), .val (.long tm), .second, .val (.long (q2 &&& (9223372036854775807 : Int64))), .second, .val (.long (fLeft tm (q2 &&& (9223372036854775807 : Int64)))), .second] [(.int (lcmpW (fLeft tm (q2 &&& (9223372036854775807 : Int64))) (9223372036854775807 : Int64)))]))
      by_cases hc51_3 : (lcmpW (fLeft tm (q2 &&& (9223372036854775807 : Int64))) (9223372036854775807 : Int64)) = (0 : Int32)
      · skip
        refine Rch.go (fun zt zk => XS.ifNo X1.here hx rfl (hb hby at_51) rfl ((if0 _ _).trans (teq hc51_3).2) zk) ?_
        show Rch _ _ _ _ (T1.setTop (mkF m 54 #[.val (.long q1), .second, .val (.long q2), .second, .val (.int p3), .val (.long tm), .second, .val (.long (q2 &&& (9223372036854775807 : Int64))), .second, .val (.long (fLeft tm (q2 &&& (9223372036854775807 : Int64)))), .second] []))
        refine Rch.go (fun zt zk => XS.iconst X1.here hx rfl (hb hby at_54) zk) ?_
        show Rch _ _ _ _ (T1.setTop (mkF m 55 #[.val (.long q1), .second, .val (.long q2), .second, .val (.int p3), .val (.long tm), .second, .val (.long (q2 &&& (9223372036854775807 : Int64))), .second, .val (.long (fLeft tm (q2 &&& (9223372036854775807 : Int64)))), .second] [(.int (1 : Int32))]))
        refine Rch.go (fun zt zk => XS.goto X1.here hx rfl (pc0 := 55) (pc' := 59) rfl (hb hby at_55) (by decide) (by decide) zk) ?_
        show Rch _ _ _ _ (T1.setTop (mkF m 59 #[.val (.long q1), .second, .val (.long q2), .second, .val (.int p3), .val (.long tm), .second, .val (.long (q2 &&& (9223372036854775807 : Int64))), .second, .val (.long (fLeft tm (q2 &&& (9223372036854775807 : Int64)))), .second] [(.int (1 : Int32))]))
        obtain ⟨fs, hr, hrun, hended, hW, hsame⟩ := X1.leave (v := some (.int (1 : Int32))) (fun h => by rw [Bd.returns] at h; cases h)
        refine Rch.mk (retN X1 hx (t := .boolean) Bd.returns (by simp) (hb hby at_59) hr) (hPd _ _ _ _ hrun hended rfl ?_ ⟨⟨_, rfl⟩, hW, hsame.mono (by decide) (by decide)⟩)
        show Q_rm0 Z q1 q2 p3 h0 n0 _ T1.heap _
        exact ⟨rfl, N1⟩
      · skip
        refine Rch.go (fun zt zk => XS.ifYes X1.here hx rfl (pc0 := 51) (pc' := 58) rfl (hb hby at_51) rfl ((if0 _ _).trans (feq hc51_3).2) (by decide) (by decide) zk) ?_
        show Rch _ _ _ _ (T1.setTop (mkF m 58 #[.val (.long q1), .second, .val (.long q2), .second, .val (.int p3), .val (.long tm), .second, .val (.long (q2 &&& (9223372036854775807 : Int64))), .second, .val (.long (fLeft tm (q2 &&& (9223372036854775807 : Int64)))), .second] []))
        refine Rch.go (fun zt zk => XS.iconst X1.here hx rfl (hb hby at_58) zk) ?_
        show Rch _ _ _ _ (T1.setTop (mkF m 59 #[.val (.long q1), .second, .val (.long q2), .second, .val (.int p3), .val (.long tm), .second, .val (.long (q2 &&& (9223372036854775807 : Int64))), .second, .val (.long (fLeft tm (q2 &&& (9223372036854775807 : Int64)))), .second] [(.int (0 : Int32))]))
        obtain ⟨fs, hr, hrun, hended, hW, hsame⟩ := X1.leave (v := some (.int (0 : Int32))) (fun h => by rw [Bd.returns] at h; cases h)
        refine Rch.mk (retN X1 hx (t := .boolean) Bd.returns (by simp) (hb hby at_59) hr) (hPd _ _ _ _ hrun hended rfl ?_ ⟨⟨_, rfl⟩, hW, hsame.mono (by decide) (by decide)⟩)
        show Q_rm0 Z q1 q2 p3 h0 n0 _ T1.heap _
        exfalso
        have hel := own_mask q2
        generalize (q2 &&& (9223372036854775807 : Int64)) = el at *
        simp only [lw_eq, lw_lt, lw_gt, own_left] at hc42_2 hc51_3
        by_cases hz : tm = (9223372036854775807 : Int64)
        · simp_all
        · simp only [hz, if_false, own_back, Int64.lt_iff_toInt_lt, own_sub htm hel, not_true_eq_false] at hc42_2 hc51_3
          all_goals first | contradiction | (have e0 : (0 : Int64).toInt = 0 := rfl; omega)
    · skip
      refine Rch.go (fun zt zk => XS.ifYes X1.here hx rfl (pc0 := 42) (pc' := 60) rfl (hb hby at_42) rfl ((if0 _ _).trans (feq hc42_2).2) (by decide) (by decide) zk) ?_
      show Rch _ _ _ _ (T1.setTop (mkF m 60 #[.val (.long q1), .second, .val (.long q2), .second, .val (.int p3), .val (.long tm), .second, .val (.long (q2 &&& (9223372036854775807 : Int64))), .second, .val (.long (fLeft tm (q2 &&& (9223372036854775807 : Int64)))), .second] []))
      refine Rch.go (fun zt zk => XS.lload X1.here hx rfl (hb hby at_60) rfl zk) ?_
      show Rch _ _ _ _ (T1.setTop (mkF m 62 #[.val (.long q1), .second, .val (.long q2), .second, .val (.int p3), .val (.long tm), .second, .val (.long (q2 &&& (9223372036854775807 : Int64))), .second, .val (.long (fLeft tm (q2 &&& (9223372036854775807 : Int64)))), .second] [(.long (q2 &&& (9223372036854775807 : Int64)))]))
      refine Rch.go (fun zt zk => XS.lload X1.here hx rfl (hb hby at_62) rfl zk) ?_
      show Rch _ _ _ _ (T1.setTop (mkF m 64 #[.val (.long q1), .second, .val (.long q2), .second, .val (.int p3), .val (.long tm), .second, .val (.long (q2 &&& (9223372036854775807 : Int64))), .second, .val (.long (fLeft tm (q2 &&& (9223372036854775807 : Int64)))), .second] [(.long tm), (.long (q2 &&& (9223372036854775807 : Int64)))]))
      refine Rch.go (fun zt zk => XS.lcmp X1.here hx rfl (hb hby at_64) rfl zk) ?_
      show Rch _ _ _ _ (T1.setTop (mkF m 65 #[.val (.long q1), .second, .val (.long q2), .second, .val (.int p3), .val (.long tm), .second, .val (.long (q2 &&& (9223372036854775807 : Int64))), .second, .val (.long (fLeft tm (q2 &&& (9223372036854775807 : Int64)))), .second] [(.int (lcmpW (q2 &&& (9223372036854775807 : Int64)) tm))]))
      by_cases hc65_4 : (lcmpW (q2 &&& (9223372036854775807 : Int64)) tm) < (0 : Int32)
      · skip
        refine Rch.go (fun zt zk => XS.ifNo X1.here hx rfl (hb hby at_65) rfl ((if0 _ _).trans (tlt hc65_4).2.1) zk) ?_
        show Rch _ _ _ _ (T1.setTop (mkF m 68 #[.val (.long q1), .second, .val (.long q2), .second, .val (.int p3), .val (.long tm), .second, .val (.long (q2 &&& (9223372036854775807 : Int64))), .second, .val (.long (fLeft tm (q2 &&& (9223372036854775807 : Int64)))), .second] []))
        refine Rch.go (fun zt zk => XS.lload X1.here hx rfl (hb hby at_68) rfl zk) ?_
        show Rch _ _ _ _ (T1.setTop (mkF m 70 #[.val (.long q1), .second, .val (.long q2), .second, .val (.int p3), .val (.long tm), .second, .val (.long (q2 &&& (9223372036854775807 : Int64))), .second, .val (.long (fLeft tm (q2 &&& (9223372036854775807 : Int64)))), .second] [(.long (fLeft tm (q2 &&& (9223372036854775807 : Int64))))]))
        refine Rch.go (fun zt zk => XS.lconst X1.here hx rfl (hb hby at_70) zk) ?_
        show Rch _ _ _ _ (T1.setTop (mkF m 71 #[.val (.long q1), .second, .val (.long q2), .second, .val (.int p3), .val (.long tm), .second, .val (.long (q2 &&& (9223372036854775807 : Int64))), .second, .val (.long (fLeft tm (q2 &&& (9223372036854775807 : Int64)))), .second] [(.long (0 : Int64)), (.long (fLeft tm (q2 &&& (9223372036854775807 : Int64))))]))
        refine Rch.go (fun zt zk => XS.lcmp X1.here hx rfl (hb hby at_71) rfl zk) ?_
        show Rch _ _ _ _ (T1.setTop (mkF m 72 #[.val (.long q1), .second, .val (.long q2), .second, .val (.int p3), .val (.long tm), .second, .val (.long (q2 &&& (9223372036854775807 : Int64))), .second, .val (.long (fLeft tm (q2 &&& (9223372036854775807 : Int64)))), .second] [(.int (lcmpW (fLeft tm (q2 &&& (9223372036854775807 : Int64))) (0 : Int64)))]))
        by_cases hc72_5 : (0 : Int32) < (lcmpW (fLeft tm (q2 &&& (9223372036854775807 : Int64))) (0 : Int64))
        · skip
          refine Rch.go (fun zt zk => XS.ifNo X1.here hx rfl (hb hby at_72) rfl ((if0 _ _).trans (tlt hc72_5).2.2.2) zk) ?_
          show Rch _ _ _ _ (T1.setTop (mkF m 75 #[.val (.long q1), .second, .val (.long q2), .second, .val (.int p3), .val (.long tm), .second, .val (.long (q2 &&& (9223372036854775807 : Int64))), .second, .val (.long (fLeft tm (q2 &&& (9223372036854775807 : Int64)))), .second] []))
          refine Rch.go (fun zt zk => XS.lload X1.here hx rfl (hb hby at_75) rfl zk) ?_
          show Rch _ _ _ _ (T1.setTop (mkF m 77 #[.val (.long q1), .second, .val (.long q2), .second, .val (.int p3), .val (.long tm), .second, .val (.long (q2 &&& (9223372036854775807 : Int64))), .second, .val (.long (fLeft tm (q2 &&& (9223372036854775807 : Int64)))), .second] [(.long (fLeft tm (q2 &&& (9223372036854775807 : Int64))))]))
          refine Rch.go (fun zt zk => XS.lload X1.here hx rfl (hb hby at_77) rfl zk) ?_
          show Rch _ _ _ _ (T1.setTop (mkF m 79 #[.val (.long q1), .second, .val (.long q2), .second, .val (.int p3), .val (.long tm), .second, .val (.long (q2 &&& (9223372036854775807 : Int64))), .second, .val (.long (fLeft tm (q2 &&& (9223372036854775807 : Int64)))), .second] [(.long (q2 &&& (9223372036854775807 : Int64))), (.long (fLeft tm (q2 &&& (9223372036854775807 : Int64))))]))
          refine Rch.go (fun zt zk => XS.ladd X1.here hx rfl (hb hby at_79) rfl zk) ?_
          show Rch _ _ _ _ (T1.setTop (mkF m 80 #[.val (.long q1), .second, .val (.long q2), .second, .val (.int p3), .val (.long tm), .second, .val (.long (q2 &&& (9223372036854775807 : Int64))), .second, .val (.long (fLeft tm (q2 &&& (9223372036854775807 : Int64)))), .second] [(.long ((fLeft tm (q2 &&& (9223372036854775807 : Int64))) + (q2 &&& (9223372036854775807 : Int64))))]))
          refine Rch.go (fun zt zk => XS.lload X1.here hx rfl (hb hby at_80) rfl zk) ?_
          show Rch _ _ _ _ (T1.setTop (mkF m 82 #[.val (.long q1), .second, .val (.long q2), .second, .val (.int p3), .val (.long tm), .second, .val (.long (q2 &&& (9223372036854775807 : Int64))), .second, .val (.long (fLeft tm (q2 &&& (9223372036854775807 : Int64)))), .second] [(.long tm), (.long ((fLeft tm (q2 &&& (9223372036854775807 : Int64))) + (q2 &&& (9223372036854775807 : Int64))))]))
          refine Rch.go (fun zt zk => XS.lcmp X1.here hx rfl (hb hby at_82) rfl zk) ?_
          show Rch _ _ _ _ (T1.setTop (mkF m 83 #[.val (.long q1), .second, .val (.long q2), .second, .val (.int p3), .val (.long tm), .second, .val (.long (q2 &&& (9223372036854775807 : Int64))), .second, .val (.long (fLeft tm (q2 &&& (9223372036854775807 : Int64)))), .second] [(.int (lcmpW ((fLeft tm (q2 &&& (9223372036854775807 : Int64))) + (q2 &&& (9223372036854775807 : Int64))) tm))]))
          by_cases hc83_6 : (lcmpW ((fLeft tm (q2 &&& (9223372036854775807 : Int64))) + (q2 &&& (9223372036854775807 : Int64))) tm) = (0 : Int32)
          · skip
            refine Rch.go (fun zt zk => XS.ifNo X1.here hx rfl (hb hby at_83) rfl ((if0 _ _).trans (teq hc83_6).2) zk) ?_
            show Rch _ _ _ _ (T1.setTop (mkF m 86 #[.val (.long q1), .second, .val (.long q2), .second, .val (.int p3), .val (.long tm), .second, .val (.long (q2 &&& (9223372036854775807 : Int64))), .second, .val (.long (fLeft tm (q2 &&& (9223372036854775807 : Int64)))), .second] []))
            refine Rch.go (fun zt zk => XS.iconst X1.here hx rfl (hb hby at_86) zk) ?_
            show Rch _ _ _ _ (T1.setTop (mkF m 87 #[.val (.long q1), .second, .val (.long q2), .second, .val (.int p3), .val (.long tm), .second, .val (.long (q2 &&& (9223372036854775807 : Int64))), .second, .val (.long (fLeft tm (q2 &&& (9223372036854775807 : Int64)))), .second] [(.int (1 : Int32))]))
            refine Rch.go (fun zt zk => XS.goto X1.here hx rfl (pc0 := 87) (pc' := 91) rfl (hb hby at_87) (by decide) (by decide) zk) ?_
            show Rch _ _ _ _ (T1.setTop (mkF m 91 #[.val (.long q1), .second, .val (.long q2), .second, .val (.int p3), .val (.long tm), .second, .val (.long (q2 &&& (9223372036854775807 : Int64))), .second, .val (.long (fLeft tm (q2 &&& (9223372036854775807 : Int64)))), .second] [(.int (1 : Int32))]))
            obtain ⟨fs, hr, hrun, hended, hW, hsame⟩ := X1.leave (v := some (.int (1 : Int32))) (fun h => by rw [Bd.returns] at h; cases h)
            refine Rch.mk (retN X1 hx (t := .boolean) Bd.returns (by simp) (hb hby at_91) hr) (hPd _ _ _ _ hrun hended rfl ?_ ⟨⟨_, rfl⟩, hW, hsame.mono (by decide) (by decide)⟩)
            show Q_rm0 Z q1 q2 p3 h0 n0 _ T1.heap _
            exact ⟨rfl, N1⟩
          · skip
            refine Rch.go (fun zt zk => XS.ifYes X1.here hx rfl (pc0 := 83) (pc' := 90) rfl (hb hby at_83) rfl ((if0 _ _).trans (feq hc83_6).2) (by decide) (by decide) zk) ?_
            show Rch _ _ _ _ (T1.setTop (mkF m 90 #[.val (.long q1), .second, .val (.long q2), .second, .val (.int p3), .val (.long tm), .second, .val (.long (q2 &&& (9223372036854775807 : Int64))), .second, .val (.long (fLeft tm (q2 &&& (9223372036854775807 : Int64)))), .second] []))
            refine Rch.go (fun zt zk => XS.iconst X1.here hx rfl (hb hby at_90) zk) ?_
            show Rch _ _ _ _ (T1.setTop (mkF m 91 #[.val (.long q1), .second, .val (.long q2), .second, .val (.int p3), .val (.long tm), .second, .val (.long (q2 &&& (9223372036854775807 : Int64))), .second, .val (.long (fLeft tm (q2 &&& (9223372036854775807 : Int64)))), .second] [(.int (0 : Int32))]))
            obtain ⟨fs, hr, hrun, hended, hW, hsame⟩ := X1.leave (v := some (.int (0 : Int32))) (fun h => by rw [Bd.returns] at h; cases h)
            refine Rch.mk (retN X1 hx (t := .boolean) Bd.returns (by simp) (hb hby at_91) hr) (hPd _ _ _ _ hrun hended rfl ?_ ⟨⟨_, rfl⟩, hW, hsame.mono (by decide) (by decide)⟩)
            show Q_rm0 Z q1 q2 p3 h0 n0 _ T1.heap _
            exfalso
            have hel := own_mask q2
            generalize (q2 &&& (9223372036854775807 : Int64)) = el at *
            simp only [lw_eq, lw_lt, lw_gt, own_left] at hc42_2 hc65_4 hc72_5 hc83_6
            by_cases hz : tm = (9223372036854775807 : Int64)
            · simp_all
            · simp only [hz, if_false, own_back, Int64.lt_iff_toInt_lt, own_sub htm hel, not_true_eq_false] at hc42_2 hc65_4 hc72_5 hc83_6
              all_goals first | contradiction | (have e0 : (0 : Int64).toInt = 0 := rfl; omega)
        · skip
          refine Rch.go (fun zt zk => XS.ifYes X1.here hx rfl (pc0 := 72) (pc' := 90) rfl (hb hby at_72) rfl ((if0 _ _).trans (flt hc72_5).2.2.2) (by decide) (by decide) zk) ?_
          show Rch _ _ _ _ (T1.setTop (mkF m 90 #[.val (.long q1), .second, .val (.long q2), .second, .val (.int p3), .val (.long tm), .second, .val (.long (q2 &&& (9223372036854775807 : Int64))), .second, .val (.long (fLeft tm (q2 &&& (9223372036854775807 : Int64)))), .second] []))
          refine Rch.go (fun zt zk => XS.iconst X1.here hx rfl (hb hby at_90) zk) ?_
          show Rch _ _ _ _ (T1.setTop (mkF m 91 #[.val (.long q1), .second, .val (.long q2), .second, .val (.int p3), .val (.long tm), .second, .val (.long (q2 &&& (9223372036854775807 : Int64))), .second, .val (.long (fLeft tm (q2 &&& (9223372036854775807 : Int64)))), .second] [(.int (0 : Int32))]))
          obtain ⟨fs, hr, hrun, hended, hW, hsame⟩ := X1.leave (v := some (.int (0 : Int32))) (fun h => by rw [Bd.returns] at h; cases h)
          refine Rch.mk (retN X1 hx (t := .boolean) Bd.returns (by simp) (hb hby at_91) hr) (hPd _ _ _ _ hrun hended rfl ?_ ⟨⟨_, rfl⟩, hW, hsame.mono (by decide) (by decide)⟩)
          show Q_rm0 Z q1 q2 p3 h0 n0 _ T1.heap _
          exfalso
          have hel := own_mask q2
          generalize (q2 &&& (9223372036854775807 : Int64)) = el at *
          simp only [lw_eq, lw_lt, lw_gt, own_left] at hc42_2 hc65_4 hc72_5
          by_cases hz : tm = (9223372036854775807 : Int64)
          · simp_all
          · simp only [hz, if_false, own_back, Int64.lt_iff_toInt_lt, own_sub htm hel, not_true_eq_false] at hc42_2 hc65_4 hc72_5
            all_goals first | contradiction | (have e0 : (0 : Int64).toInt = 0 := rfl; omega)
      · skip
        refine Rch.go (fun zt zk => XS.ifYes X1.here hx rfl (pc0 := 65) (pc' := 92) rfl (hb hby at_65) rfl ((if0 _ _).trans (flt hc65_4).2.1) (by decide) (by decide) zk) ?_
        show Rch _ _ _ _ (T1.setTop (mkF m 92 #[.val (.long q1), .second, .val (.long q2), .second, .val (.int p3), .val (.long tm), .second, .val (.long (q2 &&& (9223372036854775807 : Int64))), .second, .val (.long (fLeft tm (q2 &&& (9223372036854775807 : Int64)))), .second] []))
        refine Rch.go (fun zt zk => XS.lload X1.here hx rfl (hb hby at_92) rfl zk) ?_
        show Rch _ _ _ _ (T1.setTop (mkF m 94 #[.val (.long q1), .second, .val (.long q2), .second, .val (.int p3), .val (.long tm), .second, .val (.long (q2 &&& (9223372036854775807 : Int64))), .second, .val (.long (fLeft tm (q2 &&& (9223372036854775807 : Int64)))), .second] [(.long (fLeft tm (q2 &&& (9223372036854775807 : Int64))))]))
        refine Rch.go (fun zt zk => XS.lconst X1.here hx rfl (hb hby at_94) zk) ?_
        show Rch _ _ _ _ (T1.setTop (mkF m 95 #[.val (.long q1), .second, .val (.long q2), .second, .val (.int p3), .val (.long tm), .second, .val (.long (q2 &&& (9223372036854775807 : Int64))), .second, .val (.long (fLeft tm (q2 &&& (9223372036854775807 : Int64)))), .second] [(.long (0 : Int64)), (.long (fLeft tm (q2 &&& (9223372036854775807 : Int64))))]))
        refine Rch.go (fun zt zk => XS.lcmp X1.here hx rfl (hb hby at_95) rfl zk) ?_
        show Rch _ _ _ _ (T1.setTop (mkF m 96 #[.val (.long q1), .second, .val (.long q2), .second, .val (.int p3), .val (.long tm), .second, .val (.long (q2 &&& (9223372036854775807 : Int64))), .second, .val (.long (fLeft tm (q2 &&& (9223372036854775807 : Int64)))), .second] [(.int (lcmpW (fLeft tm (q2 &&& (9223372036854775807 : Int64))) (0 : Int64)))]))
        by_cases hc96_7 : (0 : Int32) < (lcmpW (fLeft tm (q2 &&& (9223372036854775807 : Int64))) (0 : Int64))
        · skip
          refine Rch.go (fun zt zk => XS.ifYes X1.here hx rfl (pc0 := 96) (pc' := 103) rfl (hb hby at_96) rfl ((if0 _ _).trans (tlt hc96_7).2.2.1) (by decide) (by decide) zk) ?_
          show Rch _ _ _ _ (T1.setTop (mkF m 103 #[.val (.long q1), .second, .val (.long q2), .second, .val (.int p3), .val (.long tm), .second, .val (.long (q2 &&& (9223372036854775807 : Int64))), .second, .val (.long (fLeft tm (q2 &&& (9223372036854775807 : Int64)))), .second] []))
          refine Rch.go (fun zt zk => XS.iconst X1.here hx rfl (hb hby at_103) zk) ?_
          show Rch _ _ _ _ (T1.setTop (mkF m 104 #[.val (.long q1), .second, .val (.long q2), .second, .val (.int p3), .val (.long tm), .second, .val (.long (q2 &&& (9223372036854775807 : Int64))), .second, .val (.long (fLeft tm (q2 &&& (9223372036854775807 : Int64)))), .second] [(.int (0 : Int32))]))
          obtain ⟨fs, hr, hrun, hended, hW, hsame⟩ := X1.leave (v := some (.int (0 : Int32))) (fun h => by rw [Bd.returns] at h; cases h)
          refine Rch.mk (retN X1 hx (t := .boolean) Bd.returns (by simp) (hb hby at_104) hr) (hPd _ _ _ _ hrun hended rfl ?_ ⟨⟨_, rfl⟩, hW, hsame.mono (by decide) (by decide)⟩)
          show Q_rm0 Z q1 q2 p3 h0 n0 _ T1.heap _
          exfalso
          have hel := own_mask q2
          generalize (q2 &&& (9223372036854775807 : Int64)) = el at *
          simp only [lw_eq, lw_lt, lw_gt, own_left] at hc42_2 hc65_4 hc96_7
          by_cases hz : tm = (9223372036854775807 : Int64)
          · simp_all
          · simp only [hz, if_false, own_back, Int64.lt_iff_toInt_lt, own_sub htm hel, not_true_eq_false] at hc42_2 hc65_4 hc96_7
            all_goals first | contradiction | (have e0 : (0 : Int64).toInt = 0 := rfl; omega)
        · skip
          refine Rch.go (fun zt zk => XS.ifNo X1.here hx rfl (hb hby at_96) rfl ((if0 _ _).trans (flt hc96_7).2.2.1) zk) ?_
          show Rch _ _ _ _ (T1.setTop (mkF m 99 #[.val (.long q1), .second, .val (.long q2), .second, .val (.int p3), .val (.long tm), .second, .val (.long (q2 &&& (9223372036854775807 : Int64))), .second, .val (.long (fLeft tm (q2 &&& (9223372036854775807 : Int64)))), .second] []))
          refine Rch.go (fun zt zk => XS.iconst X1.here hx rfl (hb hby at_99) zk) ?_
          show Rch _ _ _ _ (T1.setTop (mkF m 100 #[.val (.long q1), .second, .val (.long q2), .second, .val (.int p3), .val (.long tm), .second, .val (.long (q2 &&& (9223372036854775807 : Int64))), .second, .val (.long (fLeft tm (q2 &&& (9223372036854775807 : Int64)))), .second] [(.int (1 : Int32))]))
          refine Rch.go (fun zt zk => XS.goto X1.here hx rfl (pc0 := 100) (pc' := 104) rfl (hb hby at_100) (by decide) (by decide) zk) ?_
          show Rch _ _ _ _ (T1.setTop (mkF m 104 #[.val (.long q1), .second, .val (.long q2), .second, .val (.int p3), .val (.long tm), .second, .val (.long (q2 &&& (9223372036854775807 : Int64))), .second, .val (.long (fLeft tm (q2 &&& (9223372036854775807 : Int64)))), .second] [(.int (1 : Int32))]))
          obtain ⟨fs, hr, hrun, hended, hW, hsame⟩ := X1.leave (v := some (.int (1 : Int32))) (fun h => by rw [Bd.returns] at h; cases h)
          refine Rch.mk (retN X1 hx (t := .boolean) Bd.returns (by simp) (hb hby at_104) hr) (hPd _ _ _ _ hrun hended rfl ?_ ⟨⟨_, rfl⟩, hW, hsame.mono (by decide) (by decide)⟩)
          show Q_rm0 Z q1 q2 p3 h0 n0 _ T1.heap _
          exact ⟨rfl, N1⟩
  refine Rch.go (fun zt zk => XS.iload X0.here hx rfl (hb hby at_0) rfl zk) ?_
  show Rch _ _ _ _ (s₁.setTop (mkF m 2 #[.val (.long q1), .second, .val (.long q2), .second, .val (.int p3), .unset, .unset, .unset, .unset, .unset, .unset] [(.int p3)]))
  refine Rch.go (fun zt zk => XS.iconst X0.here hx rfl (hb hby at_2) zk) ?_
  show Rch _ _ _ _ (s₁.setTop (mkF m 3 #[.val (.long q1), .second, .val (.long q2), .second, .val (.int p3), .unset, .unset, .unset, .unset, .unset, .unset] [(.int (1 : Int32)), (.int p3)]))
  refine Rch.go (fun zt zk => XS.iand X0.here hx rfl (hb hby at_3) rfl zk) ?_
  show Rch _ _ _ _ (s₁.setTop (mkF m 4 #[.val (.long q1), .second, .val (.long q2), .second, .val (.int p3), .unset, .unset, .unset, .unset, .unset, .unset] [(.int (p3 &&& (1 : Int32)))]))
  by_cases hc4_8 : (p3 &&& (1 : Int32)) = (0 : Int32)
  · skip
    refine Rch.go (fun zt zk => XS.ifYes X0.here hx rfl (pc0 := 4) (pc' := 13) rfl (hb hby at_4) rfl ((if0 _ _).trans (teq hc4_8).1) (by decide) (by decide) zk) ?_
    show Rch _ _ _ _ (s₁.setTop (mkF m 13 #[.val (.long q1), .second, .val (.long q2), .second, .val (.int p3), .unset, .unset, .unset, .unset, .unset, .unset] []))
    refine Rch.go (fun zt zk => XS.lloadN X0.here hx rfl (hb hby at_13) rfl zk) ?_
    show Rch _ _ _ _ (s₁.setTop (mkF m 14 #[.val (.long q1), .second, .val (.long q2), .second, .val (.int p3), .unset, .unset, .unset, .unset, .unset, .unset] [(.long q1)]))
    refine Rch.go (X0.ldc2Long hx hown (mvT hZ (ow0 hw)) (g := (mkF m 14 #[.val (.long q1), .second, .val (.long q2), .second, .val (.int p3), .unset, .unset, .unset, .unset, .unset, .unset] [(.long q1)])) rfl (hb hby at_14)) ?_
    show Rch _ _ _ _ (s₁.setTop (mkF m 17 #[.val (.long q1), .second, .val (.long q2), .second, .val (.int p3), .unset, .unset, .unset, .unset, .unset, .unset] [(.long (9223372036854775807 : Int64)), (.long q1)]))
    refine Rch.go (fun zt zk => XS.land X0.here hx rfl (hb hby at_17) rfl zk) ?_
    show Rch _ _ _ _ (s₁.setTop (mkF m 18 #[.val (.long q1), .second, .val (.long q2), .second, .val (.int p3), .unset, .unset, .unset, .unset, .unset, .unset] [(.long (q1 &&& (9223372036854775807 : Int64)))]))
    exact j18 _ (by first | exact own_mask _ | (show 0 ≤ (9223372036854775807 : Int64).toInt; decide))
  · skip
    refine Rch.go (fun zt zk => XS.ifNo X0.here hx rfl (hb hby at_4) rfl ((if0 _ _).trans (feq hc4_8).1) zk) ?_
    show Rch _ _ _ _ (s₁.setTop (mkF m 7 #[.val (.long q1), .second, .val (.long q2), .second, .val (.int p3), .unset, .unset, .unset, .unset, .unset, .unset] []))
    refine Rch.go (X0.ldc2Long hx hown (mvT hZ (ow0 hw)) (g := (mkF m 7 #[.val (.long q1), .second, .val (.long q2), .second, .val (.int p3), .unset, .unset, .unset, .unset, .unset, .unset] [])) rfl (hb hby at_7)) ?_
    show Rch _ _ _ _ (s₁.setTop (mkF m 10 #[.val (.long q1), .second, .val (.long q2), .second, .val (.int p3), .unset, .unset, .unset, .unset, .unset, .unset] [(.long (9223372036854775807 : Int64))]))
    refine Rch.go (fun zt zk => XS.goto X0.here hx rfl (pc0 := 10) (pc' := 18) rfl (hb hby at_10) (by decide) (by decide) zk) ?_
    show Rch _ _ _ _ (s₁.setTop (mkF m 18 #[.val (.long q1), .second, .val (.long q2), .second, .val (.int p3), .unset, .unset, .unset, .unset, .unset, .unset] [(.long (9223372036854775807 : Int64))]))
    exact j18 _ (by first | exact own_mask _ | (show 0 ≤ (9223372036854775807 : Int64).toInt; decide))
set_option maxRecDepth 65536 in
set_option maxHeartbeats 40000000 in
theorem comes_1 {Post : Tables → Env → Array Value → State → Outcome → State → Prop} (hpost : ∀ tb e args s v u, (limb_1_1.after args s (.returned v) u = true ∧ limb_1_2.after args s (.returned v) u = true ∧ True) → FrameEnd s (.returned v) u (Jvm.fieldLocs frame_1_writes args s ++ Jvm.arrayLocs frame_1_arrays args s ++ Jvm.staticLocs frame_1_statics s) 0 0 → Post tb e args s (.returned v) u) :
    ArmFor flags0 classFile x code maxLocals ret World_1 tables_1 room_1 Calls_1 rest_1 Pre_1 Post := by
  intro l hfl _ _ p e ha hc hk s m args below hf hA hF happ hP
  obtain ⟨hcalls, hrest, hpre⟩ := hP
  obtain ⟨-, -, -, hnamed, -, -, -, hat⟩ := (Spec.applies_iff hf).mp happ
  obtain ⟨hg, hn⟩ := and_e (Cond.before_iff.mp (show (Jvm.Cond.and given_1 narrow_1).before args s = true from hpre))
  obtain ⟨g1, g2⟩ := and_e hg
  obtain ⟨ga0, gb0⟩ := and_e g2
  obtain ⟨ga1, gb1⟩ := and_e gb0
  obtain ⟨w0, w1, w2, rfl⟩ : ∃ w0 w1 w2 : Value, args = #[w0, w1, w2] := by
    have hs : args.size = 3 := by simpa [Cond.value, given_1] using g1
    obtain ⟨L⟩ := args
    match L, hs with
    | [w0, w1, w2], _ => exact ⟨w0, w1, w2, rfl⟩
  have hw := fun d (hd : d ∈ tables_1) => atoms_spec (ws := Jvm.Cond.code x code maxLocals ret :: tables_1) hat d (List.mem_cons_of_mem _ hd)
  have hfit : Fit s := fun {y c} hc i hi => by
    obtain ⟨ha, rfl⟩ := Array.getElem?_eq_some_iff.mp hc
    have q := List.all_eq_true.mp ((Array.all_eq_true_iff_forall_mem.mp hF) _ (Array.getElem_mem ha)) i (List.mem_range.mpr hi)
    simpa [Array.getElem?_eq_getElem hi] using q
  obtain ⟨i0, ei0⟩ := isL_v ga0
  obtain rfl : w0 = (.long i0) := Option.some.inj ei0
  obtain ⟨i1, ei1⟩ := isL_v ga1
  obtain rfl : w1 = (.long i1) := Option.some.inj ei1
  obtain ⟨i2, ei2⟩ := is_v gb1
  obtain rfl : w2 = (.int i2) := Option.some.inj ei2
  obtain ⟨n, o, h1, h2, h3, _, L, rfl, ⟨rfl, N⟩, hq⟩ := rm0 l s _ hw tables_1 i0 i1 i2  s.heap s.heap.size (Nat.le_refl _)  p e ha hc hk s m _ below hf ((Spec.applies_iff_loose hf).mp happ).1 ⟨rfl, State.Warmed39.refl s, rfl⟩ trivial
  refine ⟨n, _, h1, h2, h3, hpost _ _ _ _ _ _ ⟨Cond.after_iff.mpr rfl, Cond.after_iff.mpr (eq_i res_at (Term.int_eval (1)) rfl), trivial⟩ ⟨hq.1, hq.2.1, (hq.2.2.sift fun y hy => Or.inr (N y hy)).mono (by decide) (by decide)⟩⟩
theorem main_1_1 : Claimed_1_1 := comes_1 fun _ _ _ _ _ _ h hF => ⟨h.1, hF⟩
theorem main_1_2 : Claimed_1_2 := comes_1 fun _ _ _ _ _ _ h hF => ⟨h.2.1, hF⟩
end Jvm.Pilot.@@N@@
namespace Jvm.Pilot.@@N@@
open Jvm Jvm.ClassFile Sem Op Lib Jvm.Free Jvm.Stand Jvm.Pilot.@@N@@.Jvm.D
/-! MADE BY PROGRAM (witnessworld.py) out of the Statement's table words and the real class files: 9 classes; the members and pool entries that the words name. The judged class is class 1, her method 1. -/
namespace start1
open Jvm.ClassFile
def u (s : String) : CpInfo := .utf8 (stringToUtf16 s)
/-- a pool by its gaps: so many unusable entries, then the entry; so many at the end -/
def gap : Nat → List CpInfo → List CpInfo
  | 0, r => r
  | n + 1, r => .unusable :: gap n r
def poolList (es : List (Nat × CpInfo)) (last : Nat) : List CpInfo := es.foldr (fun e r => gap e.1 (e.2 :: r)) (gap last [])
def pool (es : List (Nat × CpInfo)) (last : Nat) : Array CpInfo := ⟨poolList es last⟩
def fileOf (pool : Array CpInfo) (this : Nat) (attrs : Array Attribute := #[]) (ms : Array MethodInfo := #[]) (fl : Nat := 33) (sup : Nat := 0) (ifs : Array Nat := #[]) (fds : Array FieldInfo := #[]) : ClassFile where
  minorVersion := 0
  majorVersion := 65
  constantPool := pool
  accessFlags := fl
  thisClass := this
  superClass := sup
  interfaces := ifs
  fields := fds
  methods := ms
  attributes := attrs
def plain (name : String) (sup : Option ClassId) : Class where
  name := name
  kind := .ordinary
  loader := none
  accessFlags := 33
  super := sup
  interfaces := #[]
  cf := none
  fields := #[]
  methods := #[]
  instanceTypes := #[]
  staticTypes := #[]
  resolved := #[]
  callSites := []
  init := .initialized
  statics := none
  mirror := none

def pool0 : Array CpInfo := pool [(5, u "<init>"), (0, u "()V"), (1, .class_ 10), (1, u "java/lang/Object")] 113

def k0m0 : Method := { name := "<init>", desc := "()V", sig := { parameters := [], returnType := none }, accessFlags := 1, code := none }
/-- java/lang/Object -/
def k0 : Class := { plain "java/lang/Object" none with
  accessFlags := 33
  interfaces := #[]
  cf := some (fileOf pool0 8 #[] #[{ accessFlags := 1, nameIndex := 5, descriptorIndex := 6, attributes := #[] }] 33 0 #[] #[])
  fields := #[]
  methods := #[k0m0]
  instanceTypes := #[]
  staticTypes := #[]
  resolved := Array.replicate 124 none
  statics := none }

def pool1 : Array CpInfo := pool [(2, .class_ 4), (1, u "java/lang/Object"), (0, u "<init>"), (0, u "()V"), (2, .long 9223372036854775807), (1, .methodref 12 13), (0, .class_ 14), (0, .nameAndType 15 16), (0, u "com/example/weir/Timeouts"), (0, u "left"), (0, u "(JJ)J"), (0, .class_ 18), (0, u "com/example/weir/TimeoutsLeftPinLaw"), (2, u "law"), (0, u "(JJI)Z")] 3

def k1m0 : Method := { name := "<init>", desc := "()V", sig := { parameters := [], returnType := none }, accessFlags := 2, code := none }
def k1c1 : Code := { maxStack := 4, maxLocals := 11, code := code, exceptionTable := #[], attributes := #[] }
def k1m1 : Method := { name := "law", desc := "(JJI)Z", sig := { parameters := [.long, .long, .int], returnType := some .boolean }, accessFlags := 9, code := some k1c1 }
/-- com/example/weir/TimeoutsLeftPinLaw -/
def k1 : Class := { plain "com/example/weir/TimeoutsLeftPinLaw" (some 0) with
  accessFlags := 49
  interfaces := #[]
  cf := some (fileOf pool1 17 #[] #[{ accessFlags := 2, nameIndex := 5, descriptorIndex := 6, attributes := #[] }, { accessFlags := 9, nameIndex := 21, descriptorIndex := 22, attributes := #[] }] 49 2 #[] #[])
  fields := #[]
  methods := #[k1m0, k1m1]
  instanceTypes := #[]
  staticTypes := #[]
  resolved := Array.replicate 26 none
  statics := none }

def pool2 : Array CpInfo := pool [(4, .class_ 6), (1, u "java/lang/Object"), (0, u "<init>"), (0, u "()V"), (15, .class_ 26), (1, u "com/example/weir/Timeouts"), (0, u "ENDLESS_TIMEOUT"), (0, u "Ljava/time/Duration;"), (4, .long 9223372036854775807), (9, u "ENDLESS"), (0, u "J"), (5, u "left"), (0, u "(JJ)J")] 5

def k2m0 : Method := { name := "<init>", desc := "()V", sig := { parameters := [], returnType := none }, accessFlags := 2, code := none }
def k2c1 : Code := { maxStack := 4, maxLocals := 4, code := prog_19_method_3_code, exceptionTable := #[], attributes := #[] }
def k2m1 : Method := { name := "left", desc := "(JJ)J", sig := { parameters := [.long, .long], returnType := some .long }, accessFlags := 8, code := some k2c1 }
/-- com/example/weir/Timeouts -/
def k2 : Class := { plain "com/example/weir/Timeouts" (some 0) with
  accessFlags := 48
  interfaces := #[]
  cf := some (fileOf pool2 24 #[] #[{ accessFlags := 2, nameIndex := 7, descriptorIndex := 8, attributes := #[] }, { accessFlags := 8, nameIndex := 50, descriptorIndex := 51, attributes := #[] }] 48 4 #[] #[{ accessFlags := 24, nameIndex := 43, descriptorIndex := 44, attributes := #[] }, { accessFlags := 26, nameIndex := 27, descriptorIndex := 28, attributes := #[] }])
  fields := #[{ name := "ENDLESS", type := .long, accessFlags := 24, slot := 0, constantValue := 0 }, { name := "ENDLESS_TIMEOUT", type := (.object "java/time/Duration"), accessFlags := 26, slot := 1, constantValue := 0 }]
  methods := #[k2m0, k2m1]
  instanceTypes := #[]
  staticTypes := #[.long, (.object "java/time/Duration")]
  resolved := Array.replicate 57 none
  statics := none }

def pool3 : Array CpInfo := pool [(1, u "java/lang/Cloneable"), (0, .class_ 1), (0, u "java/lang/Object"), (0, .class_ 3)] 3

/-- java/lang/Cloneable -/
def k3 : Class := { plain "java/lang/Cloneable" (some 0) with
  accessFlags := 1537
  interfaces := #[]
  cf := some (fileOf pool3 2 #[] #[] 1537 4 #[] #[])
  fields := #[]
  methods := #[]
  instanceTypes := #[]
  staticTypes := #[]
  resolved := Array.replicate 8 none
  statics := none }

def pool4 : Array CpInfo := pool [(1, u "java/io/Serializable"), (0, .class_ 1), (0, u "java/lang/Object"), (0, .class_ 3)] 3

/-- java/io/Serializable -/
def k4 : Class := { plain "java/io/Serializable" (some 0) with
  accessFlags := 1537
  interfaces := #[]
  cf := some (fileOf pool4 2 #[] #[] 1537 4 #[] #[])
  fields := #[]
  methods := #[]
  instanceTypes := #[]
  staticTypes := #[]
  resolved := Array.replicate 8 none
  statics := none }

/-- the primitive byte -/
def k5 : Class := { plain "byte" none with kind := .primitive 'B', accessFlags := 0x411 }
/-- [B -/
def k6 : Class := { plain "[B" (some 0) with kind := .array 5 .byte, interfaces := #[3, 4], accessFlags := 1041 }

/-- the primitive int -/
def k7 : Class := { plain "int" none with kind := .primitive 'I', accessFlags := 0x411 }
/-- [I -/
def k8 : Class := { plain "[I" (some 0) with kind := .array 7 .int, interfaces := #[3, 4], accessFlags := 1041 }

def heap : Heap := #[]
def classes : Array Class := #[k0, k1, k2, k3, k4, k5, k6, k7, k8]
def interned : List (Array UInt16 × Addr) := []
def slotsUsed : Nat := 0
def theMethod : MethodId := ⟨1, 1⟩
def args0 : Array Value := #[.long 5, .long 3, .int 0]
def aboutOver (below : List Frame) : State where
  vm := { classes := classes, interned := interned.toArray }
  heap := heap
  slotsUsed := slotsUsed
  threads := #[{ frames := .invoking theMethod args0 :: below }]
def below0 : List Frame := [.native { method := ⟨0, 0⟩, args := #[] }]
def about1 : State := aboutOver below0
def p0 : Program := .bare "" "" ""
def e0 : Env := launch0.env 0 0 0
theorem w_frames : about1.frames = Frame.invoking theMethod args0 :: below0 := rfl
set_option maxRecDepth 65536 in
theorem w_args : argsFit about1.vm theMethod args0 = true := by decide +kernel
set_option maxRecDepth 65536 in
theorem w_heap : heapFits about1 = true := by decide +kernel
set_option maxRecDepth 65536 in
theorem w_runnable : about1.curStatus? = some .runnable := by decide +kernel
set_option maxRecDepth 65536 in
theorem w_alone : about1.alone = true := by decide +kernel
set_option maxRecDepth 65536 in
theorem w_named : about1.methodNamed? x = some theMethod := by decide +kernel
set_option maxRecDepth 65536 in
theorem w_hears : about1.hears theMethod below0 = true := by decide +kernel
set_option maxRecDepth 65536 in
theorem w_ripe : about1.ripe theMethod args0 below0 = true := by decide +kernel
theorem w_running : about1.status = .running := rfl
set_option maxRecDepth 65536 in
theorem w_room : about1.hasRoom e0.platform room_1 = true :=
  launch0.hasRoom_least _ room_1 (by decide +kernel) (by decide +kernel) (by decide +kernel) (by decide +kernel) (by decide +kernel) (by decide +kernel)
theorem allAtoms_all (ts : List Jvm.Cond) (a : Array Jvm.Value) (st : Jvm.State) : (allAtoms ts).before a st = ts.all (fun c => c.before a st) := by
  induction ts with
  | nil => rfl
  | cons c t ih =>
    show (Jvm.Cond.and c (allAtoms t)).before a st = _
    rw [Jvm.Cond.before_and, ih, List.all_cons]
def words1 : List Jvm.Cond := Jvm.Cond.code x code maxLocals ret :: tables_1
/-- a 'code' word, met by the world's own term for the bytes: nothing is compared byte by byte -/
theorem code_word {y : MethodName} {bytes : ByteArray} {mx : Nat} {rt : Option FieldType} {a : Array Value} {s : State} {m : MethodId} {meth : Method} {c : Code} (h1 : s.methodNamed? y = some m) (h2 : s.vm.method? m = some meth) (h3 : meth.code = some c) (h4 : c.code = bytes)
    (h5 : (c.maxLocals == mx && c.exceptionTable.isEmpty && decide (c.maxStack ≤ mostOperands) && decide (meth.sig.returnType = rt) && !meth.locks && decide (parseMethodDescriptor y.desc = some meth.sig)) = true) : (Jvm.Cond.code y bytes mx rt).before a s = true := by
  simp only [Bool.and_eq_true, beq_iff_eq, Bool.not_eq_true', decide_eq_true_eq] at h5
  obtain ⟨⟨⟨⟨⟨g1, g2⟩, g3⟩, g4⟩, g5⟩, g6⟩ := h5
  simp [Cond.before, Cond.holds, Cond.value, h1, h2, h3, h4, g1, g2, g3, g4, g5, g6]
def isCode : Jvm.Cond → Bool
  | .code _ _ _ _ => true
  | _ => false
theorem all_split {L : List Jvm.Cond} {P : Jvm.Cond → Bool} (h1 : L.all (fun c => isCode c || P c) = true) (h2 : ∀ c ∈ L.filter isCode, P c = true) : L.all P = true := by
  refine List.all_eq_true.mpr fun c hc => ?_
  have h := List.all_eq_true.mp h1 c hc
  rcases Bool.eq_false_or_eq_true (isCode c) with hi | hi
  · exact h2 c (List.mem_filter.mpr ⟨hc, hi⟩)
  · simpa [hi] using h
set_option maxRecDepth 65536 in
theorem w_c0 : (Jvm.Cond.code x code maxLocals ret).before args0 about1 = true := code_word (m := ⟨1, 1⟩) (meth := k1m1) (c := k1c1) (by decide +kernel) rfl rfl rfl (by decide +kernel)
set_option maxRecDepth 65536 in
theorem w_c1 : (Jvm.Cond.code ({ cls := "com/example/weir/Timeouts", name := "left", desc := "(JJ)J" } : Jvm.MethodName) prog_19_method_3_code (4 : Nat) (Option.some Jvm.ClassFile.FieldType.long)).before args0 about1 = true := code_word (m := ⟨2, 1⟩) (meth := k2m1) (c := k2c1) (by decide +kernel) rfl rfl rfl (by decide +kernel)
def codes1 : List Jvm.Cond := [Jvm.Cond.code x code maxLocals ret, Jvm.Cond.code ({ cls := "com/example/weir/Timeouts", name := "left", desc := "(JJ)J" } : Jvm.MethodName) prog_19_method_3_code (4 : Nat) (Option.some Jvm.ClassFile.FieldType.long)]
set_option maxRecDepth 65536 in
theorem codes_eq : words1.filter isCode = codes1 := rfl
theorem w_codes : ∀ c ∈ words1.filter isCode, c.before args0 about1 = true := by
  rw [codes_eq]
  intro c hc
  simp only [codes1, List.mem_cons, List.not_mem_nil, or_false] at hc
  rcases hc with rfl | rfl
  · exact w_c0
  · exact w_c1
set_option maxRecDepth 65536 in
theorem w_t1 : words1.all (fun c => isCode c || c.before args0 about1) = true := by decide +kernel
theorem w_tables : (allAtoms (Jvm.Cond.code x code maxLocals ret :: tables_1)).before args0 about1 = true := by
  rw [allAtoms_all]
  show words1.all (fun c => c.before args0 about1) = true
  refine all_split ?_ w_codes
  rw [w_t1]
set_option maxRecDepth 65536 in
theorem w_case : (Jvm.Cond.and given_1 narrow_1).before args0 about1 = true := by decide +kernel
theorem w_applies : (headSpec (Jvm.Cond.code x code maxLocals ret :: tables_1) room_1).applies x e0.platform about1 = true :=
  (Spec.applies_iff w_frames).mpr ⟨w_running, w_runnable, w_alone, w_named, w_hears, w_ripe, w_room, w_tables⟩
theorem atStart : AtStart classFile x code maxLocals ret World_1 tables_1 room_1 Calls_1 rest_1 Pre_1 launch0 p0 e0 about1 theMethod args0 below0 :=
  ⟨lists_1, trivial, launch0.admits_env _ _ _, launch0.least_env, fairChoices_fair.cas, fairChoices_fair.clock, w_frames, w_args, w_heap, w_applies, trivial, trivial, w_case⟩
end start1
theorem witness_1 : WitnessClaimed_1 := ⟨start1.p0, start1.e0, start1.about1, start1.theMethod, start1.args0, start1.below0, start1.atStart⟩
end Jvm.Pilot.@@N@@
