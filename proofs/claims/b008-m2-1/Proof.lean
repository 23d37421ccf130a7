import JvmDerived
import JvmDerived.Pilot.@@N@@Statement
import JvmDerived.Pilot.@@N@@Code
set_option linter.unusedVariables false
set_option linter.unusedSimpArgs false
namespace Jvm.RoadKit
open Sem ClassFile Op Lib Jvm.Stand Jvm.Free Jvm.LawKit
section New
variable {p : Program} {l : Launch} {e : Env} {R : Room} {s : State} {m : MethodId} {args : Array Value} {below : List Frame} {meth : Method} {c : Code} {T : State} {locs : List Loc} {cells slots : Nat}
theorem retI (X : Stand p l e R s m args below meth c T locs cells slots) (hx : p.tables.exec = Jvm.exec) {pc : Nat} {Ls : Array Slot} {z : Int32} {rest : List Value} (hret : meth.sig.returnType = some .int) (hd : decode c.code pc = .ok (.ireturn, 1)) {fs : List Frame}
    (hl : ∀ (f : JFrame) (acts : List Action), f.method = m → f.locked = none → f.entered = [] → (doReturn e (T.setTop f) acts (some (.int z))).1 = T.setFrames fs) : Steps p.tables e below (T.setTop (mkF m pc Ls (.int z :: rest))) (T.setFrames fs) := by
  have hm' : T.vm.method? m = some meth := X.method'
  have hn : narrow .int (.int z) = .int z := rfl
  show Steps p.tables e below (T.setTop { method := m, pc := pc, locals := Ls, stack := _ :: rest, locked := none }) _
  jvm_step X.here [X.here.top, hx, hd, hm', hret, hn]
  first | (intro acts; rw [hl _ acts rfl rfl rfl]) | rw [hl _ _ rfl rfl rfl]
  exact Steps.refl _
end New
end Jvm.RoadKit
namespace Jvm.Pilot.@@N@@
open Jvm Jvm.ClassFile Sem Op Lib Jvm.Free Jvm.Stand Jvm.LawKit Jvm.RoadKit Bundle Jvm.Pilot.@@N@@.Jvm.D
def Rch (tb : Tables) (e : Env) (below : List Frame) (P : State → Prop) (st : State) : Prop := ∃ t, Steps tb e below st t ∧ P t
theorem Rch.go {tb : Tables} {e : Env} {below : List Frame} {P : State → Prop} {st st' : State} (h : ∀ t, Steps tb e below st' t → Steps tb e below st t) (k : Rch tb e below P st') : Rch tb e below P st := by
  obtain ⟨t, h1, h2⟩ := k
  exact ⟨t, h t h1, h2⟩
theorem Rch.mk {tb : Tables} {e : Env} {below : List Frame} {P : State → Prop} {st t : State} (h : Steps tb e below st t) (k : P t) : Rch tb e below P st := ⟨t, h, k⟩
theorem ow0 {a0 : Array Value} {Z : State} (hw : ∀ d ∈ tables_1, d.before a0 Z = true) : (Jvm.Cond.constant "com/example/mark_time/marktime/model/MessageRequireNodeIdPinLaw" (10 : Nat) (2147483647 : Int32)).before a0 Z = true := hw _ (List.mem_of_getElem? (i := 0) rfl)
theorem ow1 {a0 : Array Value} {Z : State} (hw : ∀ d ∈ tables_1, d.before a0 Z = true) : (Jvm.Cond.constant "com/example/mark_time/marktime/model/MessageRequireNodeIdPinLaw" (9 : Nat) (65535 : Int32)).before a0 Z = true := hw _ (List.mem_of_getElem? (i := 1) rfl)
theorem ow2 {a0 : Array Value} {Z : State} (hw : ∀ d ∈ tables_1, d.before a0 Z = true) : (Jvm.Cond.methodLink "com/example/mark_time/marktime/model/MessageRequireNodeIdPinLaw" (11 : Nat) ({ cls := "com/example/mark_time/marktime/model/Message", name := "requireNodeId", desc := "(I)V" } : Jvm.MethodName)).before a0 Z = true := hw _ (List.mem_of_getElem? (i := 2) rfl)
theorem ow3 {a0 : Array Value} {Z : State} (hw : ∀ d ∈ tables_1, d.before a0 Z = true) : (Jvm.Cond.static ({ cls := "com/example/mark_time/marktime/model/Message", name := "requireNodeId", desc := "(I)V" } : Jvm.MethodName)).before a0 Z = true := hw _ (List.mem_of_getElem? (i := 3) rfl)
theorem ow4 {a0 : Array Value} {Z : State} (hw : ∀ d ∈ tables_1, d.before a0 Z = true) : (Jvm.Cond.initialized "com/example/mark_time/marktime/model/Message").before a0 Z = true := hw _ (List.mem_of_getElem? (i := 4) rfl)
theorem ow5 {a0 : Array Value} {Z : State} (hw : ∀ d ∈ tables_1, d.before a0 Z = true) : (Jvm.Cond.code ({ cls := "com/example/mark_time/marktime/model/Message", name := "requireNodeId", desc := "(I)V" } : Jvm.MethodName) prog_26_method_4_code (1 : Nat) (Option.none : Option Jvm.ClassFile.FieldType)).before a0 Z = true := hw _ (List.mem_of_getElem? (i := 5) rfl)
theorem ow6 {a0 : Array Value} {Z : State} (hw : ∀ d ∈ tables_1, d.before a0 Z = true) : (Jvm.Cond.constant "com/example/mark_time/marktime/model/Message" (56 : Nat) (65535 : Int32)).before a0 Z = true := hw _ (List.mem_of_getElem? (i := 6) rfl)
theorem ef_rm1 (m : MethodId) (p1 : Int32) : entryFrame m #[(.int p1)] 1 = mkF m 0 #[.val (.int p1)] [] := by first | (simp [entryFrame, mkF, argsToLocals, Value.category]; done) | rfl
theorem pn_com_example_mark_time_marktime_model_Message : plainName "com/example/mark_time/marktime/model/Message" = true := by first | (simp [plainName, overriddenIn]; done) | decide +kernel
theorem d1_0 : decode prog_26_method_4_code 0 = .ok (.iload_n 0, 1) := by decide +kernel
theorem d1_1 : decode prog_26_method_4_code 1 = .ok (.iconst 1, 1) := by decide +kernel
theorem d1_2 : decode prog_26_method_4_code 2 = .ok (.if_icmp .lt 9, 3) := by decide +kernel
theorem d1_5 : decode prog_26_method_4_code 5 = .ok (.iload_n 0, 1) := by decide +kernel
theorem d1_6 : decode prog_26_method_4_code 6 = .ok (.ldc 56, 2) := by decide +kernel
theorem d1_8 : decode prog_26_method_4_code 8 = .ok (.if_icmp .le 17, 3) := by decide +kernel
theorem d1_25 : decode prog_26_method_4_code 25 = .ok (.return_, 1) := by decide +kernel
def Q_rm1 (Z : State) (p1 : Int32) (h0 : Heap) (n0 : Nat) (v : Option Value) (h : Heap) (L : List Loc) : Prop := v = none ∧ Fr n0 L ∧ h = h0
set_option maxRecDepth 65536 in
set_option maxHeartbeats 40000000 in
theorem rm1 (l : Launch) (Z : State) (a0 : Array Value) (hw : ∀ d ∈ tables_1, d.before a0 Z = true) (ws : List Jvm.Cond) (p1 : Int32) (h0 : Heap) (n0 : Nat) (Z0 : n0 ≤ h0.size) (hlo : ¬ (p1 < (1 : Int32))) (hhi : ¬ ((65535 : Int32) < p1)) :
    MetFree l (⟨"com/example/mark_time/marktime/model/Message", "requireNodeId", "(I)V"⟩ : MethodName) (head1 (Jvm.Cond.code (⟨"com/example/mark_time/marktime/model/Message", "requireNodeId", "(I)V"⟩ : MethodName) prog_26_method_4_code 1 none :: ws) ({ frames := 0, cells := 0, slots := 0, locals := 0 } : Room)) (fun a U => a = #[(.int p1)] ∧ Z.Warmed39 U.vm ∧ U.heap = h0) (fun _ _ _ _ _ => True) (fun _ U o U' => ∃ v L, o = .returned v ∧ Q_rm1 Z p1 h0 n0 v U'.heap L ∧ FrameEnd U o U' L ({ frames := 0, cells := 0, slots := 0, locals := 0 } : Room).cells ({ frames := 0, cells := 0, slots := 0, locals := 0 } : Room).slots) := by
  refine MetFree.of_bodySF (plainFor_of_name pn_com_example_mark_time_marktime_model_Message) hisR ?_
  intro p e s m args below meth c s₁ Bd hml0 hP hK
  obtain ⟨rfl, hZ, hh⟩ := hP
  have hx := Bd.exec
  have hby := Bd.bytes
  have hml : c.maxLocals = 1 := hml0
  have hown : s.vm.findClass "com/example/mark_time/marktime/model/Message" = some m.cls := findClass_of_methodNamed Bd.named
  have hnm := (name_of_methodNamed Bd.named Bd.method).1
  have X0 : Stand p l e ({ frames := 0, cells := 0, slots := 0, locals := 0 } : Room) s m #[(.int p1)] below meth c s₁ [] 0 0 := Stand.of_body Bd
  have e0 : s₁.heap = h0 := by rw [← hh, Bd.state]; rfl
  have N0 := Fr.nil n0
  suffices hR : ∀ P : State → Prop, (∀ s₂ o v L, s₂.status = .running → Ended s₂ below o → o = .returned v → Q_rm1 Z p1 h0 n0 v s₂.heap L → FrameEnd s o s₂ L ({ frames := 0, cells := 0, slots := 0, locals := 0 } : Room).cells ({ frames := 0, cells := 0, slots := 0, locals := 0 } : Room).slots → P s₂) → Rch p.tables e below P (s₁.setTop (mkF m 0 #[.val (.int p1)] [])) by
    obtain ⟨s₂, h1, o, h2⟩ := hR (fun s₂ => ∃ o, s₂.status = .running ∧ Ended s₂ below o ∧ ∃ v L, o = .returned v ∧ Q_rm1 Z p1 h0 n0 v s₂.heap L ∧ FrameEnd s o s₂ L ({ frames := 0, cells := 0, slots := 0, locals := 0 } : Room).cells ({ frames := 0, cells := 0, slots := 0, locals := 0 } : Room).slots) (fun s₂ o v L q1 q2 q3 q4 q5 => ⟨o, q1, q2, v, L, q3, q4, q5⟩)
    exact ⟨s₂, o, castTop (ef_rm1 m p1) h1, h2⟩
  intro P hPd
  refine Rch.go (fun t k => XS.iloadN X0.here hx rfl (hb hby d1_0) rfl k) ?_
  show Rch _ _ _ _ (s₁.setTop (mkF m 1 #[.val (.int p1)] [(.int p1)]))
  refine Rch.go (fun t k => XS.iconst X0.here hx rfl (hb hby d1_1) k) ?_
  show Rch _ _ _ _ (s₁.setTop (mkF m 2 #[.val (.int p1)] [(.int (1 : Int32)), (.int p1)]))
  refine Rch.go (fun t k => XS.icmpNo X0.here hx rfl (hb hby d1_2) rfl (flt (hlo : ¬ (p1 < (1 : Int32)))).1 k) ?_
  show Rch _ _ _ _ (s₁.setTop (mkF m 5 #[.val (.int p1)] []))
  refine Rch.go (fun t k => XS.iloadN X0.here hx rfl (hb hby d1_5) rfl k) ?_
  show Rch _ _ _ _ (s₁.setTop (mkF m 6 #[.val (.int p1)] [(.int p1)]))
  refine Rch.go (X0.ldcInt hx hown (mvT hZ (ow6 hw)) (g := (mkF m 6 #[.val (.int p1)] [(.int p1)])) rfl (hb hby d1_6)) ?_
  show Rch _ _ _ _ (s₁.setTop (mkF m 8 #[.val (.int p1)] [(.int (65535 : Int32)), (.int p1)]))
  refine Rch.go (fun t k => XS.icmpYes X0.here hx rfl (pc0 := 8) (pc' := 25) rfl (hb hby d1_8) rfl (flt (hhi : ¬ ((65535 : Int32) < p1))).2.2.2 (by decide) (by decide) k) ?_
  show Rch _ _ _ _ (s₁.setTop (mkF m 25 #[.val (.int p1)] []))
  obtain ⟨fs, hr, hrun, hended, hW, hsame⟩ := X0.leave (v := none) (fun _ => rfl)
  refine Rch.mk (X0.returnOut hx Bd.returns (hb hby d1_25) hr) (hPd _ _ _ _ hrun hended rfl ?_ ⟨⟨_, rfl⟩, hW, hsame.mono (by decide) (by decide)⟩)
  show Q_rm1 Z p1 h0 n0 _ s₁.heap _
  rw [e0]
  exact ⟨rfl, N0, rfl⟩
theorem own_id (x : Int32) : ¬ ((1 : Int32) + (x &&& (2147483647 : Int32)) % (65535 : Int32) < (1 : Int32)) ∧ ¬ ((65535 : Int32) < (1 : Int32) + (x &&& (2147483647 : Int32)) % (65535 : Int32)) := by
  have h := c_mask x (2147483647 : Int32) 31 (by decide) (by decide)
  have h2 : ((x &&& (2147483647 : Int32)) % (65535 : Int32)).toInt = (x &&& (2147483647 : Int32)).toInt.tmod (65535 : Int32).toInt := Int32.toInt_mod _ _
  have e1 : (65535 : Int32).toInt = 65535 := by decide
  have e2 : (1 : Int32).toInt = 1 := by decide
  have hp : 0 ≤ (x &&& (2147483647 : Int32)).toInt := by rw [h]; omega
  rw [Int.tmod_eq_emod_of_nonneg hp, e1] at h2
  have h3 := c_iadd (1 : Int32) ((x &&& (2147483647 : Int32)) % (65535 : Int32))
  have h4 := rng32 ((1 : Int32) + (x &&& (2147483647 : Int32)) % (65535 : Int32))
  rw [Int32.lt_iff_toInt_lt, Int32.lt_iff_toInt_lt, e1, e2]
  rw [e2] at h3
  omega
theorem ef_rm0 (m : MethodId) (p1 : Int32) (p2 : Int32) : entryFrame m #[(.int p1), (.int p2)] maxLocals = mkF m 0 #[.val (.int p1), .val (.int p2), .unset, .unset] [] := by first | (simp [entryFrame, mkF, argsToLocals, Value.category, maxLocals]; done) | rfl
theorem pn_com_example_mark_time_marktime_model_MessageRequireNodeIdPinLaw : plainName "com/example/mark_time/marktime/model/MessageRequireNodeIdPinLaw" = true := by first | (simp [plainName, overriddenIn]; done) | decide +kernel
theorem pd__I_V : parseMethodDescriptor "(I)V" = some ⟨[.int], none⟩ := by decide +kernel
def Q_rm0 (Z : State) (p1 : Int32) (p2 : Int32) (h0 : Heap) (n0 : Nat) (v : Option Value) (h : Heap) (L : List Loc) : Prop := v = some (.int (1 : Int32)) ∧ Fr n0 L
set_option maxRecDepth 65536 in
set_option maxHeartbeats 40000000 in
theorem rm0 (l : Launch) (Z : State) (a0 : Array Value) (hw : ∀ d ∈ tables_1, d.before a0 Z = true) (ws : List Jvm.Cond) (p1 : Int32) (p2 : Int32) (h0 : Heap) (n0 : Nat) (Z0 : n0 ≤ h0.size) :
    MetFree l x (head1 (Jvm.Cond.code x code maxLocals ret :: ws) room_1) (fun a U => a = #[(.int p1), (.int p2)] ∧ Z.Warmed39 U.vm ∧ U.heap = h0) (fun _ _ _ _ _ => True) (fun _ U o U' => ∃ v L, o = .returned v ∧ Q_rm0 Z p1 p2 h0 n0 v U'.heap L ∧ FrameEnd U o U' L room_1.cells room_1.slots) := by
  refine MetFree.of_bodySF (plainFor_of_name pn_com_example_mark_time_marktime_model_MessageRequireNodeIdPinLaw) hisR ?_
  intro p e s m args below meth c s₁ Bd hml0 hP hK
  obtain ⟨rfl, hZ, hh⟩ := hP
  have hx := Bd.exec
  have hby := Bd.bytes
  have hml : c.maxLocals = 4 := hml0
  have hown : s.vm.findClass "com/example/mark_time/marktime/model/MessageRequireNodeIdPinLaw" = some m.cls := findClass_of_methodNamed Bd.named
  have hnm := (name_of_methodNamed Bd.named Bd.method).1
  have X0 : Stand p l e room_1 s m #[(.int p1), (.int p2)] below meth c s₁ [] 0 0 := Stand.of_body Bd
  have e0 : s₁.heap = h0 := by rw [← hh, Bd.state]; rfl
  have N0 := Fr.nil n0
  suffices hR : ∀ P : State → Prop, (∀ s₂ o v L, s₂.status = .running → Ended s₂ below o → o = .returned v → Q_rm0 Z p1 p2 h0 n0 v s₂.heap L → FrameEnd s o s₂ L room_1.cells room_1.slots → P s₂) → Rch p.tables e below P (s₁.setTop (mkF m 0 #[.val (.int p1), .val (.int p2), .unset, .unset] [])) by
    obtain ⟨s₂, h1, o, h2⟩ := hR (fun s₂ => ∃ o, s₂.status = .running ∧ Ended s₂ below o ∧ ∃ v L, o = .returned v ∧ Q_rm0 Z p1 p2 h0 n0 v s₂.heap L ∧ FrameEnd s o s₂ L room_1.cells room_1.slots) (fun s₂ o v L q1 q2 q3 q4 q5 => ⟨o, q1, q2, v, L, q3, q4, q5⟩)
    exact ⟨s₂, o, castTop (ef_rm0 m p1 p2) h1, h2⟩
  intro P hPd
  have j34 : ∀ (id : Int32), (¬ (id < (1 : Int32))) → (¬ ((65535 : Int32) < id)) → Rch p.tables e below P (s₁.setTop (mkF m 34 #[.val (.int p1), .val (.int p2), .val (.int id), .val (.int (p2 &&& (3 : Int32)))] [])) := by
    intro id hlo hhi
    refine Rch.go (fun t k => XS.iloadN X0.here hx rfl (hb hby at_34) rfl k) ?_
    show Rch _ _ _ _ (s₁.setTop (mkF m 35 #[.val (.int p1), .val (.int p2), .val (.int id), .val (.int (p2 &&& (3 : Int32)))] [(.int id)]))
    refine Rch.go (fun t k => XS.iconst X0.here hx rfl (hb hby at_35) k) ?_
    show Rch _ _ _ _ (s₁.setTop (mkF m 36 #[.val (.int p1), .val (.int p2), .val (.int id), .val (.int (p2 &&& (3 : Int32)))] [(.int (1 : Int32)), (.int id)]))
    refine Rch.go (fun t k => XS.icmpNo X0.here hx rfl (hb hby at_36) rfl (flt (hlo : ¬ (id < (1 : Int32)))).1 k) ?_
    show Rch _ _ _ _ (s₁.setTop (mkF m 39 #[.val (.int p1), .val (.int p2), .val (.int id), .val (.int (p2 &&& (3 : Int32)))] []))
    refine Rch.go (fun t k => XS.iloadN X0.here hx rfl (hb hby at_39) rfl k) ?_
    show Rch _ _ _ _ (s₁.setTop (mkF m 40 #[.val (.int p1), .val (.int p2), .val (.int id), .val (.int (p2 &&& (3 : Int32)))] [(.int id)]))
    refine Rch.go (X0.ldcInt hx hown (mvT hZ (ow1 hw)) (g := (mkF m 40 #[.val (.int p1), .val (.int p2), .val (.int id), .val (.int (p2 &&& (3 : Int32)))] [(.int id)])) rfl (hb hby at_40)) ?_
    show Rch _ _ _ _ (s₁.setTop (mkF m 42 #[.val (.int p1), .val (.int p2), .val (.int id), .val (.int (p2 &&& (3 : Int32)))] [(.int (65535 : Int32)), (.int id)]))
    refine Rch.go (fun t k => XS.icmpYes X0.here hx rfl (pc0 := 42) (pc' := 47) rfl (hb hby at_42) rfl (flt (hhi : ¬ ((65535 : Int32) < id))).2.2.2 (by decide) (by decide) k) ?_
    show Rch _ _ _ _ (s₁.setTop (mkF m 47 #[.val (.int p1), .val (.int p2), .val (.int id), .val (.int (p2 &&& (3 : Int32)))] []))
    refine Rch.go (fun t k => XS.iloadN X0.here hx rfl (hb hby at_47) rfl k) ?_
    show Rch _ _ _ _ (s₁.setTop (mkF m 48 #[.val (.int p1), .val (.int p2), .val (.int id), .val (.int (p2 &&& (3 : Int32)))] [(.int id)]))
    obtain ⟨_, _, ⟨T1, L1, k1, n1⟩, -, X1, ⟨Lc1, hQ1, l1, y1, z1⟩, st1⟩ := Jvm.LawKit.callS X0 hx (y := (⟨"com/example/mark_time/marktime/model/Message", "requireNodeId", "(I)V"⟩ : MethodName)) hown (mvT hZ (ow2 hw)) (mvT hZ (ow3 hw)) (mvT hZ (ow4 hw)) (mvT hZ (ow5 hw)) (by decide) (backOf (W := 0) (rm1 l Z a0 hw [] (id) h0 n0 Z0 (hlo) (hhi)) hZ (ow5 hw) (ow4 hw) (by decide) (by decide)) (g := (mkF m 48 #[.val (.int p1), .val (.int p2), .val (.int id), .val (.int (p2 &&& (3 : Int32)))] [(.int id)])) rfl (by rw [hml]; rfl) (argsL := [(.int id)]) (rest := []) (lenOf pd__I_V rfl) rfl (by show 2 * 0 + _ ≤ _; exact Nat.le_of_eq rfl) (hb hby at_48) (fun _ _ => ⟨rfl, e0, (by decide : 0 + 0 ≤ _), (by decide : 0 + 0 ≤ _)⟩)
    dsimp only [Pt.U, Pt.locs, Pt.cells, Pt.slots] at X1 l1 y1 z1 st1 hQ1
    subst l1 y1 z1
    obtain ⟨rfl, N1q, eq1⟩ := hQ1
    have N1 := Fr.app N0 N1q
    refine Rch.go st1 ?_
    show Rch _ _ _ _ (T1.setTop (mkF m 51 #[.val (.int p1), .val (.int p2), .val (.int id), .val (.int (p2 &&& (3 : Int32)))] []))
    refine Rch.go (fun t k => XS.iconst X1.here hx rfl (hb hby at_51) k) ?_
    show Rch _ _ _ _ (T1.setTop (mkF m 52 #[.val (.int p1), .val (.int p2), .val (.int id), .val (.int (p2 &&& (3 : Int32)))] [(.int (1 : Int32))]))
    obtain ⟨fs, hr, hrun, hended, hW, hsame⟩ := X1.leave (v := some (.int (1 : Int32))) (fun h => by rw [Bd.returns] at h; cases h)
    refine Rch.mk (retN X1 hx (t := .boolean) Bd.returns (by simp) (hb hby at_52) hr) (hPd _ _ _ _ hrun hended rfl ?_ ⟨⟨_, rfl⟩, hW, hsame.mono (by decide) (by decide)⟩)
    show Q_rm0 Z p1 p2 h0 n0 _ T1.heap _
    exact ⟨rfl, N1⟩
  refine Rch.go (fun t k => XS.iloadN X0.here hx rfl (hb hby at_0) rfl k) ?_
  show Rch _ _ _ _ (s₁.setTop (mkF m 1 #[.val (.int p1), .val (.int p2), .unset, .unset] [(.int p2)]))
  refine Rch.go (fun t k => XS.iconst X0.here hx rfl (hb hby at_1) k) ?_
  show Rch _ _ _ _ (s₁.setTop (mkF m 2 #[.val (.int p1), .val (.int p2), .unset, .unset] [(.int (3 : Int32)), (.int p2)]))
  refine Rch.go (fun t k => XS.iand X0.here hx rfl (hb hby at_2) rfl k) ?_
  show Rch _ _ _ _ (s₁.setTop (mkF m 3 #[.val (.int p1), .val (.int p2), .unset, .unset] [(.int (p2 &&& (3 : Int32)))]))
  refine Rch.go (fun t k => XS.istoreN X0.here hx rfl (hb hby at_3) rfl (l' := #[.val (.int p1), .val (.int p2), .unset, .val (.int (p2 &&& (3 : Int32)))]) rfl k) ?_
  show Rch _ _ _ _ (s₁.setTop (mkF m 4 #[.val (.int p1), .val (.int p2), .unset, .val (.int (p2 &&& (3 : Int32)))] []))
  refine Rch.go (fun t k => XS.iloadN X0.here hx rfl (hb hby at_4) rfl k) ?_
  show Rch _ _ _ _ (s₁.setTop (mkF m 5 #[.val (.int p1), .val (.int p2), .unset, .val (.int (p2 &&& (3 : Int32)))] [(.int (p2 &&& (3 : Int32)))]))
  by_cases hc5_2 : (p2 &&& (3 : Int32)) = (0 : Int32)
  · skip
    refine Rch.go (fun t k => XS.ifNo X0.here hx rfl (hb hby at_5) rfl ((if0 _ _).trans (teq hc5_2).2) k) ?_
    show Rch _ _ _ _ (s₁.setTop (mkF m 8 #[.val (.int p1), .val (.int p2), .unset, .val (.int (p2 &&& (3 : Int32)))] []))
    refine Rch.go (fun t k => XS.iconst X0.here hx rfl (hb hby at_8) k) ?_
    show Rch _ _ _ _ (s₁.setTop (mkF m 9 #[.val (.int p1), .val (.int p2), .unset, .val (.int (p2 &&& (3 : Int32)))] [(.int (1 : Int32))]))
    refine Rch.go (fun t k => XS.istoreN X0.here hx rfl (hb hby at_9) rfl (l' := #[.val (.int p1), .val (.int p2), .val (.int (1 : Int32)), .val (.int (p2 &&& (3 : Int32)))]) rfl k) ?_
    show Rch _ _ _ _ (s₁.setTop (mkF m 10 #[.val (.int p1), .val (.int p2), .val (.int (1 : Int32)), .val (.int (p2 &&& (3 : Int32)))] []))
    refine Rch.go (fun t k => XS.goto X0.here hx rfl (pc0 := 10) (pc' := 34) rfl (hb hby at_10) (by decide) (by decide) k) ?_
    show Rch _ _ _ _ (s₁.setTop (mkF m 34 #[.val (.int p1), .val (.int p2), .val (.int (1 : Int32)), .val (.int (p2 &&& (3 : Int32)))] []))
    exact j34 _ (by first | decide | exact (own_id p1).1) (by first | decide | exact (own_id p1).2)
  · skip
    refine Rch.go (fun t k => XS.ifYes X0.here hx rfl (pc0 := 5) (pc' := 13) rfl (hb hby at_5) rfl ((if0 _ _).trans (feq hc5_2).2) (by decide) (by decide) k) ?_
    show Rch _ _ _ _ (s₁.setTop (mkF m 13 #[.val (.int p1), .val (.int p2), .unset, .val (.int (p2 &&& (3 : Int32)))] []))
    refine Rch.go (fun t k => XS.iloadN X0.here hx rfl (hb hby at_13) rfl k) ?_
    show Rch _ _ _ _ (s₁.setTop (mkF m 14 #[.val (.int p1), .val (.int p2), .unset, .val (.int (p2 &&& (3 : Int32)))] [(.int (p2 &&& (3 : Int32)))]))
    refine Rch.go (fun t k => XS.iconst X0.here hx rfl (hb hby at_14) k) ?_
    show Rch _ _ _ _ (s₁.setTop (mkF m 15 #[.val (.int p1), .val (.int p2), .unset, .val (.int (p2 &&& (3 : Int32)))] [(.int (1 : Int32)), (.int (p2 &&& (3 : Int32)))]))
    by_cases hc15_3 : (p2 &&& (3 : Int32)) = (1 : Int32)
    · skip
      refine Rch.go (fun t k => XS.icmpNo X0.here hx rfl (hb hby at_15) rfl (teq hc15_3).2 k) ?_
      show Rch _ _ _ _ (s₁.setTop (mkF m 18 #[.val (.int p1), .val (.int p2), .unset, .val (.int (p2 &&& (3 : Int32)))] []))
      refine Rch.go (X0.ldcInt hx hown (mvT hZ (ow1 hw)) (g := (mkF m 18 #[.val (.int p1), .val (.int p2), .unset, .val (.int (p2 &&& (3 : Int32)))] [])) rfl (hb hby at_18)) ?_
      show Rch _ _ _ _ (s₁.setTop (mkF m 20 #[.val (.int p1), .val (.int p2), .unset, .val (.int (p2 &&& (3 : Int32)))] [(.int (65535 : Int32))]))
      refine Rch.go (fun t k => XS.istoreN X0.here hx rfl (hb hby at_20) rfl (l' := #[.val (.int p1), .val (.int p2), .val (.int (65535 : Int32)), .val (.int (p2 &&& (3 : Int32)))]) rfl k) ?_
      show Rch _ _ _ _ (s₁.setTop (mkF m 21 #[.val (.int p1), .val (.int p2), .val (.int (65535 : Int32)), .val (.int (p2 &&& (3 : Int32)))] []))
      refine Rch.go (fun t k => XS.goto X0.here hx rfl (pc0 := 21) (pc' := 34) rfl (hb hby at_21) (by decide) (by decide) k) ?_
      show Rch _ _ _ _ (s₁.setTop (mkF m 34 #[.val (.int p1), .val (.int p2), .val (.int (65535 : Int32)), .val (.int (p2 &&& (3 : Int32)))] []))
      exact j34 _ (by first | decide | exact (own_id p1).1) (by first | decide | exact (own_id p1).2)
    · skip
      refine Rch.go (fun t k => XS.icmpYes X0.here hx rfl (pc0 := 15) (pc' := 24) rfl (hb hby at_15) rfl (feq hc15_3).2 (by decide) (by decide) k) ?_
      show Rch _ _ _ _ (s₁.setTop (mkF m 24 #[.val (.int p1), .val (.int p2), .unset, .val (.int (p2 &&& (3 : Int32)))] []))
      refine Rch.go (fun t k => XS.iconst X0.here hx rfl (hb hby at_24) k) ?_
      show Rch _ _ _ _ (s₁.setTop (mkF m 25 #[.val (.int p1), .val (.int p2), .unset, .val (.int (p2 &&& (3 : Int32)))] [(.int (1 : Int32))]))
      refine Rch.go (fun t k => XS.iloadN X0.here hx rfl (hb hby at_25) rfl k) ?_
      show Rch _ _ _ _ (s₁.setTop (mkF m 26 #[.val (.int p1), .val (.int p2), .unset, .val (.int (p2 &&& (3 : Int32)))] [(.int p1), (.int (1 : Int32))]))
      refine Rch.go (X0.ldcInt hx hown (mvT hZ (ow0 hw)) (g := (mkF m 26 #[.val (.int p1), .val (.int p2), .unset, .val (.int (p2 &&& (3 : Int32)))] [(.int p1), (.int (1 : Int32))])) rfl (hb hby at_26)) ?_
      show Rch _ _ _ _ (s₁.setTop (mkF m 28 #[.val (.int p1), .val (.int p2), .unset, .val (.int (p2 &&& (3 : Int32)))] [(.int (2147483647 : Int32)), (.int p1), (.int (1 : Int32))]))
      refine Rch.go (fun t k => XS.iand X0.here hx rfl (hb hby at_28) rfl k) ?_
      show Rch _ _ _ _ (s₁.setTop (mkF m 29 #[.val (.int p1), .val (.int p2), .unset, .val (.int (p2 &&& (3 : Int32)))] [(.int (p1 &&& (2147483647 : Int32))), (.int (1 : Int32))]))
      refine Rch.go (X0.ldcInt hx hown (mvT hZ (ow1 hw)) (g := (mkF m 29 #[.val (.int p1), .val (.int p2), .unset, .val (.int (p2 &&& (3 : Int32)))] [(.int (p1 &&& (2147483647 : Int32))), (.int (1 : Int32))])) rfl (hb hby at_29)) ?_
      show Rch _ _ _ _ (s₁.setTop (mkF m 31 #[.val (.int p1), .val (.int p2), .unset, .val (.int (p2 &&& (3 : Int32)))] [(.int (65535 : Int32)), (.int (p1 &&& (2147483647 : Int32))), (.int (1 : Int32))]))
      refine Rch.go (fun t k => iremM X0 hx rfl (hb hby at_31) rfl (by decide : ¬ ((65535 : Int32) = (0 : Int32))) k) ?_
      show Rch _ _ _ _ (s₁.setTop (mkF m 32 #[.val (.int p1), .val (.int p2), .unset, .val (.int (p2 &&& (3 : Int32)))] [(.int ((p1 &&& (2147483647 : Int32)) % (65535 : Int32))), (.int (1 : Int32))]))
      refine Rch.go (fun t k => XS.iadd X0.here hx rfl (hb hby at_32) rfl k) ?_
      show Rch _ _ _ _ (s₁.setTop (mkF m 33 #[.val (.int p1), .val (.int p2), .unset, .val (.int (p2 &&& (3 : Int32)))] [(.int ((1 : Int32) + ((p1 &&& (2147483647 : Int32)) % (65535 : Int32))))]))
      refine Rch.go (fun t k => XS.istoreN X0.here hx rfl (hb hby at_33) rfl (l' := #[.val (.int p1), .val (.int p2), .val (.int ((1 : Int32) + ((p1 &&& (2147483647 : Int32)) % (65535 : Int32)))), .val (.int (p2 &&& (3 : Int32)))]) rfl k) ?_
      show Rch _ _ _ _ (s₁.setTop (mkF m 34 #[.val (.int p1), .val (.int p2), .val (.int ((1 : Int32) + ((p1 &&& (2147483647 : Int32)) % (65535 : Int32)))), .val (.int (p2 &&& (3 : Int32)))] []))
      exact j34 _ (by first | decide | exact (own_id p1).1) (by first | decide | exact (own_id p1).2)
set_option maxRecDepth 65536 in
set_option maxHeartbeats 40000000 in
theorem comes_1 {Post : Tables → Env → Array Value → State → Outcome → State → Prop} (hpost : ∀ tb e args s v u, (limb_1_1.after args s (.returned v) u = true ∧ limb_1_2.after args s (.returned v) u = true ∧ True) → FrameEnd s (.returned v) u (Jvm.fieldLocs frame_1_writes args s ++ Jvm.arrayLocs frame_1_arrays args s ++ Jvm.staticLocs frame_1_statics s) 0 0 → Post tb e args s (.returned v) u) :
    ArmFor flags0 classFile x code maxLocals ret World_1 tables_1 room_1 Calls_1 rest_1 Pre_1 Post := by
  intro l hfl _ _ p e ha hc hk s m args below hf hA hF happ hP
  obtain ⟨hcalls, hrest, hpre⟩ := hP
  obtain ⟨-, -, -, hnamed, -, -, -, hat⟩ := (Spec.applies_iff hf).mp happ
  obtain ⟨hg, hn⟩ := and_e (Cond.before_iff.mp (show (Jvm.Cond.and given_1 narrow_1).before args s = true from hpre))
  obtain ⟨g1, g2⟩ := and_e hg
  obtain ⟨ga0, gb0⟩ := and_e g2
  obtain ⟨w0, w1, rfl⟩ : ∃ w0 w1 : Value, args = #[w0, w1] := by
    have hs : args.size = 2 := by simpa [Cond.value, given_1] using g1
    obtain ⟨L⟩ := args
    match L, hs with
    | [w0, w1], _ => exact ⟨w0, w1, rfl⟩
  have hw := fun d (hd : d ∈ tables_1) => atoms_spec (ws := Jvm.Cond.code x code maxLocals ret :: tables_1) hat d (List.mem_cons_of_mem _ hd)
  have hfit : Fit s := fun {y c} hc i hi => by
    obtain ⟨ha, rfl⟩ := Array.getElem?_eq_some_iff.mp hc
    have q := List.all_eq_true.mp ((Array.all_eq_true_iff_forall_mem.mp hF) _ (Array.getElem_mem ha)) i (List.mem_range.mpr hi)
    simpa [Array.getElem?_eq_getElem hi] using q
  obtain ⟨i0, ei0⟩ := is_v ga0
  obtain rfl : w0 = (.int i0) := Option.some.inj ei0
  obtain ⟨i1, ei1⟩ := is_v gb0
  obtain rfl : w1 = (.int i1) := Option.some.inj ei1
  obtain ⟨n, o, h1, h2, h3, _, L, rfl, ⟨rfl, N⟩, hq⟩ := rm0 l s _ hw tables_1 i0 i1  s.heap s.heap.size (Nat.le_refl _)  p e ha hc hk s m _ below hf ((Spec.applies_iff_loose hf).mp happ).1 ⟨rfl, State.Warmed39.refl s, rfl⟩ trivial
  refine ⟨n, _, h1, h2, h3, hpost _ _ _ _ _ _ ⟨Cond.after_iff.mpr rfl, Cond.after_iff.mpr (eq_i res_at (Term.int_eval (1)) rfl), trivial⟩ ⟨hq.1, hq.2.1, (hq.2.2.sift fun y hy => Or.inr (N y hy)).mono (by decide) (by decide)⟩⟩
theorem main_1_1 : Claimed_1_1 := comes_1 fun _ _ _ _ _ _ h hF => ⟨h.1, hF⟩
theorem main_1_2 : Claimed_1_2 := comes_1 fun _ _ _ _ _ _ h hF => ⟨h.2.1, hF⟩
end Jvm.Pilot.@@N@@
namespace Jvm.Pilot.@@N@@
open Jvm Jvm.ClassFile Sem Op Lib Jvm.Free Jvm.Stand Jvm.Pilot.@@N@@.Jvm.D
/-! MADE BY PROGRAM (witnessworld.py) out of the Statement's table words and the real class files: 10 classes; the members and pool entries that the words name. The judged class is class 1, her method 1. -/
namespace start1
open Jvm.ClassFile
def u (s : String) : CpInfo := .utf8 (stringToUtf16 s)
/-- a pool by its gaps: so many unusable entries, then the entry; so many at the end -/
def gap : Nat → List CpInfo → List CpInfo
  | 0, r => r
  | n + 1, r => .unusable :: gap n r
def poolList (es : List (Nat × CpInfo)) (last : Nat) : List CpInfo := es.foldr (fun e r => gap e.1 (e.2 :: r)) (gap last [])
def pool (es : List (Nat × CpInfo)) (last : Nat) : Array CpInfo := ⟨poolList es last⟩
def fileOf (pool : Array CpInfo) (this : Nat) (attrs : Array Attribute := #[]) (ms : Array MethodInfo := #[]) (fl : Nat := 33) (sup : Nat := 0) (ifs : Array Nat := #[]) (fds : Array FieldInfo := #[]) : ClassFile where
  minorVersion := 0
  majorVersion := 65
  constantPool := pool
  accessFlags := fl
  thisClass := this
  superClass := sup
  interfaces := ifs
  fields := fds
  methods := ms
  attributes := attrs
def plain (name : String) (sup : Option ClassId) : Class where
  name := name
  kind := .ordinary
  loader := none
  accessFlags := 33
  super := sup
  interfaces := #[]
  cf := none
  fields := #[]
  methods := #[]
  instanceTypes := #[]
  staticTypes := #[]
  resolved := #[]
  callSites := []
  init := .initialized
  statics := none
  mirror := none

def pool0 : Array CpInfo := pool [(5, u "<init>"), (0, u "()V"), (1, .class_ 10), (1, u "java/lang/Object")] 113

def k0m0 : Method := { name := "<init>", desc := "()V", sig := { parameters := [], returnType := none }, accessFlags := 1, code := none }
/-- java/lang/Object -/
def k0 : Class := { plain "java/lang/Object" none with
  accessFlags := 33
  interfaces := #[]
  cf := some (fileOf pool0 8 #[] #[{ accessFlags := 1, nameIndex := 5, descriptorIndex := 6, attributes := #[] }] 33 0 #[] #[])
  fields := #[]
  methods := #[k0m0]
  instanceTypes := #[]
  staticTypes := #[]
  resolved := Array.replicate 124 none
  statics := none }

def pool1 : Array CpInfo := pool [(2, .class_ 4), (1, u "java/lang/Object"), (0, u "<init>"), (0, u "()V"), (0, .class_ 8), (0, u "com/example/mark_time/marktime/model/Message"), (0, .integer 65535), (0, .integer 2147483647), (0, .methodref 7 12), (0, .nameAndType 13 14), (0, u "requireNodeId"), (0, u "(I)V"), (0, .class_ 16), (0, u "com/example/mark_time/marktime/model/MessageRequireNodeIdPinLaw"), (2, u "law"), (0, u "(II)Z")] 3

def k1m0 : Method := { name := "<init>", desc := "()V", sig := { parameters := [], returnType := none }, accessFlags := 1, code := none }
def k1c1 : Code := { maxStack := 3, maxLocals := 4, code := code, exceptionTable := #[], attributes := #[] }
def k1m1 : Method := { name := "law", desc := "(II)Z", sig := { parameters := [.int, .int], returnType := some .boolean }, accessFlags := 9, code := some k1c1 }
/-- com/example/mark_time/marktime/model/MessageRequireNodeIdPinLaw -/
def k1 : Class := { plain "com/example/mark_time/marktime/model/MessageRequireNodeIdPinLaw" (some 0) with
  accessFlags := 49
  interfaces := #[]
  cf := some (fileOf pool1 15 #[] #[{ accessFlags := 1, nameIndex := 5, descriptorIndex := 6, attributes := #[] }, { accessFlags := 9, nameIndex := 19, descriptorIndex := 20, attributes := #[] }] 49 2 #[] #[])
  fields := #[]
  methods := #[k1m0, k1m1]
  instanceTypes := #[]
  staticTypes := #[]
  resolved := Array.replicate 24 none
  statics := none }

def pool2 : Array CpInfo := pool [(2, .class_ 4), (1, u "java/lang/Object"), (0, u "<init>"), (0, u "()V"), (0, .class_ 8), (0, u "java/lang/Record")] 13

def k2m0 : Method := { name := "<init>", desc := "()V", sig := { parameters := [], returnType := none }, accessFlags := 4, code := none }
/-- java/lang/Record -/
def k2 : Class := { plain "java/lang/Record" (some 0) with
  accessFlags := 1057
  interfaces := #[]
  cf := some (fileOf pool2 7 #[] #[{ accessFlags := 4, nameIndex := 5, descriptorIndex := 6, attributes := #[] }] 1057 2 #[] #[])
  fields := #[]
  methods := #[k2m0]
  instanceTypes := #[]
  staticTypes := #[]
  resolved := Array.replicate 22 none
  statics := none }

def pool3 : Array CpInfo := pool [(2, .class_ 4), (1, u "java/lang/Record"), (3, u "type"), (7, u "lock"), (1, .class_ 20), (1, u "com/example/mark_time/marktime/model/Message"), (0, u "requireNodeId"), (0, u "(I)V"), (33, .integer 65535), (6, u "id"), (0, u "I"), (2, u "clock"), (0, u "J"), (2, u "Lcom/example/mark_time/marktime/model/MessageType;"), (2, u "Ljava/lang/String;"), (2, u "permits"), (60, u "MIN_NODE_ID"), (2, u "MAX_NODE_ID"), (0, u "MAX_LOCK_NAME_LENGTH"), (1, u "MAX_PERMITS"), (0, u "NO_PERMITS"), (1, u "DEFAULT_LOCK"), (0, u "OPENING_CLOCK")] 52

def k3c0 : Code := { maxStack := 3, maxLocals := 1, code := prog_26_method_4_code, exceptionTable := #[], attributes := #[] }
def k3m0 : Method := { name := "requireNodeId", desc := "(I)V", sig := { parameters := [.int], returnType := none }, accessFlags := 9, code := some k3c0 }
/-- com/example/mark_time/marktime/model/Message -/
def k3 : Class := { plain "com/example/mark_time/marktime/model/Message" (some 2) with
  accessFlags := 49
  interfaces := #[]
  cf := some (fileOf pool3 18 #[] #[{ accessFlags := 9, nameIndex := 21, descriptorIndex := 22, attributes := #[] }] 49 2 #[] #[{ accessFlags := 18, nameIndex := 63, descriptorIndex := 64, attributes := #[] }, { accessFlags := 18, nameIndex := 67, descriptorIndex := 68, attributes := #[] }, { accessFlags := 18, nameIndex := 8, descriptorIndex := 71, attributes := #[] }, { accessFlags := 18, nameIndex := 16, descriptorIndex := 74, attributes := #[] }, { accessFlags := 18, nameIndex := 77, descriptorIndex := 64, attributes := #[] }, { accessFlags := 25, nameIndex := 138, descriptorIndex := 64, attributes := #[] }, { accessFlags := 25, nameIndex := 141, descriptorIndex := 64, attributes := #[] }, { accessFlags := 25, nameIndex := 142, descriptorIndex := 64, attributes := #[] }, { accessFlags := 25, nameIndex := 144, descriptorIndex := 64, attributes := #[] }, { accessFlags := 25, nameIndex := 145, descriptorIndex := 64, attributes := #[] }, { accessFlags := 25, nameIndex := 147, descriptorIndex := 74, attributes := #[] }, { accessFlags := 25, nameIndex := 148, descriptorIndex := 68, attributes := #[] }])
  fields := #[{ name := "id", type := .int, accessFlags := 18, slot := 0, constantValue := 0 }, { name := "clock", type := .long, accessFlags := 18, slot := 1, constantValue := 0 }, { name := "type", type := (.object "com/example/mark_time/marktime/model/MessageType"), accessFlags := 18, slot := 2, constantValue := 0 }, { name := "lock", type := (.object "java/lang/String"), accessFlags := 18, slot := 3, constantValue := 0 }, { name := "permits", type := .int, accessFlags := 18, slot := 4, constantValue := 0 }, { name := "MIN_NODE_ID", type := .int, accessFlags := 25, slot := 0, constantValue := 0 }, { name := "MAX_NODE_ID", type := .int, accessFlags := 25, slot := 1, constantValue := 0 }, { name := "MAX_LOCK_NAME_LENGTH", type := .int, accessFlags := 25, slot := 2, constantValue := 0 }, { name := "MAX_PERMITS", type := .int, accessFlags := 25, slot := 3, constantValue := 0 }, { name := "NO_PERMITS", type := .int, accessFlags := 25, slot := 4, constantValue := 0 }, { name := "DEFAULT_LOCK", type := (.object "java/lang/String"), accessFlags := 25, slot := 5, constantValue := 0 }, { name := "OPENING_CLOCK", type := .long, accessFlags := 25, slot := 6, constantValue := 0 }]
  methods := #[k3m0]
  instanceTypes := #[.int, .long, (.object "com/example/mark_time/marktime/model/MessageType"), (.object "java/lang/String"), .int]
  staticTypes := #[.int, .int, .int, .int, .int, (.object "java/lang/String"), .long]
  resolved := Array.replicate 201 none
  statics := none }

def pool4 : Array CpInfo := pool [(1, u "java/lang/Cloneable"), (0, .class_ 1), (0, u "java/lang/Object"), (0, .class_ 3)] 3

/-- java/lang/Cloneable -/
def k4 : Class := { plain "java/lang/Cloneable" (some 0) with
  accessFlags := 1537
  interfaces := #[]
  cf := some (fileOf pool4 2 #[] #[] 1537 4 #[] #[])
  fields := #[]
  methods := #[]
  instanceTypes := #[]
  staticTypes := #[]
  resolved := Array.replicate 8 none
  statics := none }

def pool5 : Array CpInfo := pool [(1, u "java/io/Serializable"), (0, .class_ 1), (0, u "java/lang/Object"), (0, .class_ 3)] 3

/-- java/io/Serializable -/
def k5 : Class := { plain "java/io/Serializable" (some 0) with
  accessFlags := 1537
  interfaces := #[]
  cf := some (fileOf pool5 2 #[] #[] 1537 4 #[] #[])
  fields := #[]
  methods := #[]
  instanceTypes := #[]
  staticTypes := #[]
  resolved := Array.replicate 8 none
  statics := none }

/-- the primitive byte -/
def k6 : Class := { plain "byte" none with kind := .primitive 'B', accessFlags := 0x411 }
/-- [B -/
def k7 : Class := { plain "[B" (some 0) with kind := .array 6 .byte, interfaces := #[4, 5], accessFlags := 1041 }

/-- the primitive int -/
def k8 : Class := { plain "int" none with kind := .primitive 'I', accessFlags := 0x411 }
/-- [I -/
def k9 : Class := { plain "[I" (some 0) with kind := .array 8 .int, interfaces := #[4, 5], accessFlags := 1041 }

def heap : Heap := #[]
def classes : Array Class := #[k0, k1, k2, k3, k4, k5, k6, k7, k8, k9]
def interned : List (Array UInt16 × Addr) := []
def slotsUsed : Nat := 0
def theMethod : MethodId := ⟨1, 1⟩
def args0 : Array Value := #[.int 5, .int 3]
def aboutOver (below : List Frame) : State where
  vm := { classes := classes, interned := interned.toArray }
  heap := heap
  slotsUsed := slotsUsed
  threads := #[{ frames := .invoking theMethod args0 :: below }]
def below0 : List Frame := [.native { method := ⟨0, 0⟩, args := #[] }]
def about1 : State := aboutOver below0
def p0 : Program := .bare "" "" ""
def e0 : Env := launch0.env 0 0 0
theorem w_frames : about1.frames = Frame.invoking theMethod args0 :: below0 := rfl
set_option maxRecDepth 65536 in
theorem w_args : argsFit about1.vm theMethod args0 = true := by decide +kernel
set_option maxRecDepth 65536 in
theorem w_heap : heapFits about1 = true := by decide +kernel
set_option maxRecDepth 65536 in
theorem w_runnable : about1.curStatus? = some .runnable := by decide +kernel
set_option maxRecDepth 65536 in
theorem w_alone : about1.alone = true := by decide +kernel
set_option maxRecDepth 65536 in
theorem w_named : about1.methodNamed? x = some theMethod := by decide +kernel
set_option maxRecDepth 65536 in
theorem w_hears : about1.hears theMethod below0 = true := by decide +kernel
set_option maxRecDepth 65536 in
theorem w_ripe : about1.ripe theMethod args0 below0 = true := by decide +kernel
theorem w_running : about1.status = .running := rfl
set_option maxRecDepth 65536 in
theorem w_room : about1.hasRoom e0.platform room_1 = true :=
  launch0.hasRoom_least _ room_1 (by decide +kernel) (by decide +kernel) (by decide +kernel) (by decide +kernel) (by decide +kernel) (by decide +kernel)
theorem allAtoms_all (ts : List Jvm.Cond) (a : Array Jvm.Value) (st : Jvm.State) : (allAtoms ts).before a st = ts.all (fun c => c.before a st) := by
  induction ts with
  | nil => rfl
  | cons c t ih =>
    show (Jvm.Cond.and c (allAtoms t)).before a st = _
    rw [Jvm.Cond.before_and, ih, List.all_cons]
def words1 : List Jvm.Cond := Jvm.Cond.code x code maxLocals ret :: tables_1
/-- a 'code' word, met by the world's own term for the bytes: nothing is compared byte by byte -/
theorem code_word {y : MethodName} {bytes : ByteArray} {mx : Nat} {rt : Option FieldType} {a : Array Value} {s : State} {m : MethodId} {meth : Method} {c : Code} (h1 : s.methodNamed? y = some m) (h2 : s.vm.method? m = some meth) (h3 : meth.code = some c) (h4 : c.code = bytes)
    (h5 : (c.maxLocals == mx && c.exceptionTable.isEmpty && decide (c.maxStack ≤ mostOperands) && decide (meth.sig.returnType = rt) && !meth.locks && decide (parseMethodDescriptor y.desc = some meth.sig)) = true) : (Jvm.Cond.code y bytes mx rt).before a s = true := by
  simp only [Bool.and_eq_true, beq_iff_eq, Bool.not_eq_true', decide_eq_true_eq] at h5
  obtain ⟨⟨⟨⟨⟨g1, g2⟩, g3⟩, g4⟩, g5⟩, g6⟩ := h5
  simp [Cond.before, Cond.holds, Cond.value, h1, h2, h3, h4, g1, g2, g3, g4, g5, g6]
def isCode : Jvm.Cond → Bool
  | .code _ _ _ _ => true
  | _ => false
theorem all_split {L : List Jvm.Cond} {P : Jvm.Cond → Bool} (h1 : L.all (fun c => isCode c || P c) = true) (h2 : ∀ c ∈ L.filter isCode, P c = true) : L.all P = true := by
  refine List.all_eq_true.mpr fun c hc => ?_
  have h := List.all_eq_true.mp h1 c hc
  rcases Bool.eq_false_or_eq_true (isCode c) with hi | hi
  · exact h2 c (List.mem_filter.mpr ⟨hc, hi⟩)
  · simpa [hi] using h
set_option maxRecDepth 65536 in
theorem w_c0 : (Jvm.Cond.code x code maxLocals ret).before args0 about1 = true := code_word (m := ⟨1, 1⟩) (meth := k1m1) (c := k1c1) (by decide +kernel) rfl rfl rfl (by decide +kernel)
set_option maxRecDepth 65536 in
theorem w_c1 : (Jvm.Cond.code ({ cls := "com/example/mark_time/marktime/model/Message", name := "requireNodeId", desc := "(I)V" } : Jvm.MethodName) prog_26_method_4_code (1 : Nat) (Option.none : Option Jvm.ClassFile.FieldType)).before args0 about1 = true := code_word (m := ⟨3, 0⟩) (meth := k3m0) (c := k3c0) (by decide +kernel) rfl rfl rfl (by decide +kernel)
def codes1 : List Jvm.Cond := [Jvm.Cond.code x code maxLocals ret, Jvm.Cond.code ({ cls := "com/example/mark_time/marktime/model/Message", name := "requireNodeId", desc := "(I)V" } : Jvm.MethodName) prog_26_method_4_code (1 : Nat) (Option.none : Option Jvm.ClassFile.FieldType)]
set_option maxRecDepth 65536 in
theorem codes_eq : words1.filter isCode = codes1 := rfl
theorem w_codes : ∀ c ∈ words1.filter isCode, c.before args0 about1 = true := by
  rw [codes_eq]
  intro c hc
  simp only [codes1, List.mem_cons, List.not_mem_nil, or_false] at hc
  rcases hc with rfl | rfl
  · exact w_c0
  · exact w_c1
set_option maxRecDepth 65536 in
theorem w_t1 : words1.all (fun c => isCode c || c.before args0 about1) = true := by decide +kernel
theorem w_tables : (allAtoms (Jvm.Cond.code x code maxLocals ret :: tables_1)).before args0 about1 = true := by
  rw [allAtoms_all]
  show words1.all (fun c => c.before args0 about1) = true
  refine all_split ?_ w_codes
  rw [w_t1]
set_option maxRecDepth 65536 in
theorem w_case : (Jvm.Cond.and given_1 narrow_1).before args0 about1 = true := by decide +kernel
theorem w_applies : (headSpec (Jvm.Cond.code x code maxLocals ret :: tables_1) room_1).applies x e0.platform about1 = true :=
  (Spec.applies_iff w_frames).mpr ⟨w_running, w_runnable, w_alone, w_named, w_hears, w_ripe, w_room, w_tables⟩
theorem atStart : AtStart classFile x code maxLocals ret World_1 tables_1 room_1 Calls_1 rest_1 Pre_1 launch0 p0 e0 about1 theMethod args0 below0 :=
  ⟨lists_1, trivial, launch0.admits_env _ _ _, launch0.least_env, fairChoices_fair.cas, fairChoices_fair.clock, w_frames, w_args, w_heap, w_applies, trivial, trivial, w_case⟩
end start1
theorem witness_1 : WitnessClaimed_1 := ⟨start1.p0, start1.e0, start1.about1, start1.theMethod, start1.args0, start1.below0, start1.atStart⟩
end Jvm.Pilot.@@N@@
