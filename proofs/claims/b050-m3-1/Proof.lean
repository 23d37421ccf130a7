import JvmDerived
import JvmDerived.Pilot.@@N@@Statement
import JvmDerived.Pilot.@@N@@Code
set_option linter.unusedVariables false
set_option linter.unusedSimpArgs false
namespace Jvm.RoadKit
open Sem ClassFile Op Lib Jvm.Stand Jvm.Free Jvm.LawKit
section New
variable {p : Program} {l : Launch} {e : Env} {R : Room} {s : State} {m : MethodId} {args : Array Value} {below : List Frame} {meth : Method} {c : Code} {T : State} {locs : List Loc} {cells slots : Nat}
theorem retI (X : Stand p l e R s m args below meth c T locs cells slots) (hx : p.tables.exec = Jvm.exec) {pc : Nat} {Ls : Array Slot} {z : Int32} {rest : List Value} (hret : meth.sig.returnType = some .int) (hd : decode c.code pc = .ok (.ireturn, 1)) {fs : List Frame}
    (hl : ∀ (f : JFrame) (acts : List Action), f.method = m → f.locked = none → f.entered = [] → (doReturn e (T.setTop f) acts (some (.int z))).1 = T.setFrames fs) : Steps p.tables e below (T.setTop (mkF m pc Ls (.int z :: rest))) (T.setFrames fs) := by
  have hm' : T.vm.method? m = some meth := X.method'
  have hn : narrow .int (.int z) = .int z := rfl
  show Steps p.tables e below (T.setTop { method := m, pc := pc, locals := Ls, stack := _ :: rest, locked := none }) _
  jvm_step X.here [X.here.top, hx, hd, hm', hret, hn]
  first | (intro acts; rw [hl _ acts rfl rfl rfl]) | rw [hl _ _ rfl rfl rfl]
  exact Steps.refl _
end New
end Jvm.RoadKit
namespace Jvm.Pilot.@@N@@
open Jvm Jvm.ClassFile Sem Op Lib Jvm.Free Jvm.Stand Jvm.LawKit Jvm.RoadKit Bundle Jvm.Pilot.@@N@@.Jvm.D
def Rch (tb : Tables) (e : Env) (below : List Frame) (P : State → Prop) (st : State) : Prop := ∃ t, Steps tb e below st t ∧ P t
theorem Rch.go {tb : Tables} {e : Env} {below : List Frame} {P : State → Prop} {st st' : State} (h : ∀ t, Steps tb e below st' t → Steps tb e below st t) (k : Rch tb e below P st') : Rch tb e below P st := by
  obtain ⟨t, h1, h2⟩ := k
  exact ⟨t, h t h1, h2⟩
theorem own_getR {p : Program} {l : Launch} {e : Env} {R : Room} {s : State} {m : MethodId} {args : Array Value} {below : List Frame} {meth : Method} {c : Code} {T : State} {locs : List Loc} {cells slots : Nat} {Z : State} {a0 : Array Value} {h : Heap}
    (X : Stand p l e R s m args below meth c T locs cells slots) (hx : p.tables.exec = Jvm.exec) (hZ : Z.Warmed39 s.vm) {own O n d : String} {index : Nat} (hown : s.vm.findClass own = some m.cls) (w : (Cond.fieldRef own index O n d).before a0 Z = true) (eT : T.heap = h) {a : Addr} {v : Value} (F : Fld Z h a O n d v)
    {g : JFrame} (hg : g.method = m) {rest : List Value} (hs : g.stack = .ref a :: rest) (hd : decode c.code g.pc = .ok (.getfield index, 3)) :
    ∃ T', Stand p l e R s m args below meth c T' locs cells slots ∧ T'.heap = h ∧ ∀ target, Steps p.tables e below (T'.setTop { g with pc := g.pc + 3, stack := v :: rest }) target → Steps p.tables e below (T.setTop g) target := by
  obtain ⟨cell, cf, k, i, f, h1, h2, h3, h4, -, -, h7⟩ := F
  have hT : Z.Warmed39 T.vm := wtrans hZ X.warmed
  have w' := Cond.fieldRef_warmed39 hT w
  have ho : (Z.setVm T.vm).vm.findClass own = some m.cls := (X.warmed.alike.findClass own _).trans hown
  obtain ⟨cf', k', i', f', g1, g2⟩ := Cond.fieldRef_spec ho w'
  obtain ⟨k'', hi, -⟩ := State.fieldFound?_setVm (s := Z) hT.alike h2
  cases g1.symm.trans hi
  refine ⟨T, X, eT, fun target hrest => ?_⟩
  subst hg
  have hc : T.heap[a]? = some cell := by rw [eT]; exact h1
  have g2' : T.vm.fieldReady g.method.cls index cf f := g2
  jvm_step X.here [hx, hd, getfield.wp_ready (e := e) (s := T) (f := g) X.here.top g2' h3 hs hc h4 h7]
  exact hrest
theorem own_selP {Z s : State} {a0 args args' : Array Value} {y : MethodName} {n : Nat} (hZ : Z.Warmed39 s.vm) (wi : (Cond.instantiable y.cls n).before a0 Z = true) (wp : (Cond.privateMethod y).before a0 Z = true) (wm : (Cond.instanceMethod y).before a0 Z = true) (hy : y.cls ≠ "java/lang/invoke/MethodHandle" ∧ y.cls ≠ "java/lang/invoke/VarHandle") : (Cond.selects y.cls y y).before args' s = true := by
  obtain ⟨c, k, h1, h2, -, h3, -⟩ := Cond.instantiable_spec (show (Cond.instantiable y.cls n).before args' s = true from mvT hZ wi)
  exact Jvm.Stand.selects_self_of_private h1 h2 (by simp only [Bool.or_eq_false_iff] at h3; exact h3.1) (Cond.privateMethod_at (mvP (args := args') hZ wp)) (mvT hZ wm) hy
theorem Rch.mk {tb : Tables} {e : Env} {below : List Frame} {P : State → Prop} {st t : State} (h : Steps tb e below st t) (k : P t) : Rch tb e below P st := ⟨t, h, k⟩
theorem ow0 {a0 : Array Value} {Z : State} (hw : ∀ d ∈ tables_1, d.before a0 Z = true) : (Jvm.Cond.constant "com/example/weir/BurstStoredAfterIdlePinLaw" (7 : Nat) (4194303 : Int32)).before a0 Z = true := hw _ (List.mem_of_getElem? (i := 0) rfl)
theorem ow1 {a0 : Array Value} {Z : State} (hw : ∀ d ∈ tables_1, d.before a0 Z = true) : (Jvm.Cond.constant "com/example/weir/BurstStoredAfterIdlePinLaw" (8 : Nat) (1073741823 : Int32)).before a0 Z = true := hw _ (List.mem_of_getElem? (i := 1) rfl)
theorem ow2 {a0 : Array Value} {Z : State} (hw : ∀ d ∈ tables_1, d.before a0 Z = true) : (Jvm.Cond.constantLong "com/example/weir/BurstStoredAfterIdlePinLaw" (9 : Nat) (2147483647 : Int64)).before a0 Z = true := hw _ (List.mem_of_getElem? (i := 2) rfl)
theorem ow3 {a0 : Array Value} {Z : State} (hw : ∀ d ∈ tables_1, d.before a0 Z = true) : (Jvm.Cond.classLink "com/example/weir/BurstStoredAfterIdlePinLaw" (11 : Nat) "com/example/weir/RateMode$Burst").before a0 Z = true := hw _ (List.mem_of_getElem? (i := 3) rfl)
theorem ow4 {a0 : Array Value} {Z : State} (hw : ∀ d ∈ tables_1, d.before a0 Z = true) : (Jvm.Cond.instantiable "com/example/weir/RateMode$Burst" (2 : Nat)).before a0 Z = true := hw _ (List.mem_of_getElem? (i := 4) rfl)
theorem ow5 {a0 : Array Value} {Z : State} (hw : ∀ d ∈ tables_1, d.before a0 Z = true) : (Jvm.Cond.initialized "com/example/weir/RateMode$Burst").before a0 Z = true := hw _ (List.mem_of_getElem? (i := 5) rfl)
theorem ow6 {a0 : Array Value} {Z : State} (hw : ∀ d ∈ tables_1, d.before a0 Z = true) : (Jvm.Cond.methodLink "com/example/weir/BurstStoredAfterIdlePinLaw" (13 : Nat) ({ cls := "com/example/weir/RateMode$Burst", name := "<init>", desc := "(DD)V" } : Jvm.MethodName)).before a0 Z = true := hw _ (List.mem_of_getElem? (i := 6) rfl)
theorem ow7 {a0 : Array Value} {Z : State} (hw : ∀ d ∈ tables_1, d.before a0 Z = true) : (Jvm.Cond.instanceMethod ({ cls := "com/example/weir/RateMode$Burst", name := "<init>", desc := "(DD)V" } : Jvm.MethodName)).before a0 Z = true := hw _ (List.mem_of_getElem? (i := 7) rfl)
theorem ow8 {a0 : Array Value} {Z : State} (hw : ∀ d ∈ tables_1, d.before a0 Z = true) : (Jvm.Cond.code ({ cls := "com/example/weir/RateMode$Burst", name := "<init>", desc := "(DD)V" } : Jvm.MethodName) prog_13_method_1_code (5 : Nat) (Option.none : Option Jvm.ClassFile.FieldType)).before a0 Z = true := hw _ (List.mem_of_getElem? (i := 8) rfl)
theorem ow9 {a0 : Array Value} {Z : State} (hw : ∀ d ∈ tables_1, d.before a0 Z = true) : (Jvm.Cond.methodLinkNest "com/example/weir/RateMode$Burst" (1 : Nat) ({ cls := "com/example/weir/RateMode", name := "<init>", desc := "()V" } : Jvm.MethodName) "com/example/weir/RateMode").before a0 Z = true := hw _ (List.mem_of_getElem? (i := 9) rfl)
theorem ow10 {a0 : Array Value} {Z : State} (hw : ∀ d ∈ tables_1, d.before a0 Z = true) : (Jvm.Cond.instanceMethod ({ cls := "com/example/weir/RateMode", name := "<init>", desc := "()V" } : Jvm.MethodName)).before a0 Z = true := hw _ (List.mem_of_getElem? (i := 10) rfl)
theorem ow12 {a0 : Array Value} {Z : State} (hw : ∀ d ∈ tables_1, d.before a0 Z = true) : (Jvm.Cond.initialized "com/example/weir/RateMode").before a0 Z = true := hw _ (List.mem_of_getElem? (i := 12) rfl)
theorem ow13 {a0 : Array Value} {Z : State} (hw : ∀ d ∈ tables_1, d.before a0 Z = true) : (Jvm.Cond.code ({ cls := "com/example/weir/RateMode", name := "<init>", desc := "()V" } : Jvm.MethodName) prog_12_method_1_code (1 : Nat) (Option.none : Option Jvm.ClassFile.FieldType)).before a0 Z = true := hw _ (List.mem_of_getElem? (i := 13) rfl)
theorem ow14 {a0 : Array Value} {Z : State} (hw : ∀ d ∈ tables_1, d.before a0 Z = true) : (Jvm.Cond.methodLink "com/example/weir/RateMode" (1 : Nat) ({ cls := "java/lang/Object", name := "<init>", desc := "()V" } : Jvm.MethodName)).before a0 Z = true := hw _ (List.mem_of_getElem? (i := 14) rfl)
theorem ow15 {a0 : Array Value} {Z : State} (hw : ∀ d ∈ tables_1, d.before a0 Z = true) : (Jvm.Cond.instanceMethod ({ cls := "java/lang/Object", name := "<init>", desc := "()V" } : Jvm.MethodName)).before a0 Z = true := hw _ (List.mem_of_getElem? (i := 15) rfl)
theorem ow16 {a0 : Array Value} {Z : State} (hw : ∀ d ∈ tables_1, d.before a0 Z = true) : (Jvm.Cond.code ({ cls := "java/lang/Object", name := "<init>", desc := "()V" } : Jvm.MethodName) object_method_1_code (1 : Nat) (Option.none : Option Jvm.ClassFile.FieldType)).before a0 Z = true := hw _ (List.mem_of_getElem? (i := 16) rfl)
theorem ow17 {a0 : Array Value} {Z : State} (hw : ∀ d ∈ tables_1, d.before a0 Z = true) : (Jvm.Cond.fieldLink "com/example/weir/RateMode$Burst" (7 : Nat) "com/example/weir/RateMode$Burst" "maxStoredPermits" "D").before a0 Z = true := hw _ (List.mem_of_getElem? (i := 17) rfl)
theorem ow18 {a0 : Array Value} {Z : State} (hw : ∀ d ∈ tables_1, d.before a0 Z = true) : (Jvm.Cond.laysFinal "com/example/weir/RateMode$Burst" "com/example/weir/RateMode$Burst" "maxStoredPermits" "D").before a0 Z = true := hw _ (List.mem_of_getElem? (i := 18) rfl)
theorem ow19 {a0 : Array Value} {Z : State} (hw : ∀ d ∈ tables_1, d.before a0 Z = true) : (Jvm.Cond.fieldLink "com/example/weir/RateMode$Burst" (13 : Nat) "com/example/weir/RateMode$Burst" "catchUpFactor" "D").before a0 Z = true := hw _ (List.mem_of_getElem? (i := 19) rfl)
theorem ow20 {a0 : Array Value} {Z : State} (hw : ∀ d ∈ tables_1, d.before a0 Z = true) : (Jvm.Cond.laysFinal "com/example/weir/RateMode$Burst" "com/example/weir/RateMode$Burst" "catchUpFactor" "D").before a0 Z = true := hw _ (List.mem_of_getElem? (i := 20) rfl)
theorem ow21 {a0 : Array Value} {Z : State} (hw : ∀ d ∈ tables_1, d.before a0 Z = true) : (Jvm.Cond.methodLink "com/example/weir/BurstStoredAfterIdlePinLaw" (16 : Nat) ({ cls := "com/example/weir/RateMode$Burst", name := "storedAfterIdle", desc := "(DDD)D" } : Jvm.MethodName)).before a0 Z = true := hw _ (List.mem_of_getElem? (i := 21) rfl)
theorem ow22 {a0 : Array Value} {Z : State} (hw : ∀ d ∈ tables_1, d.before a0 Z = true) : (Jvm.Cond.declares ({ cls := "com/example/weir/RateMode$Burst", name := "storedAfterIdle", desc := "(DDD)D" } : Jvm.MethodName)).before a0 Z = true := hw _ (List.mem_of_getElem? (i := 22) rfl)
theorem ow23 {a0 : Array Value} {Z : State} (hw : ∀ d ∈ tables_1, d.before a0 Z = true) : (Jvm.Cond.instanceMethod ({ cls := "com/example/weir/RateMode$Burst", name := "storedAfterIdle", desc := "(DDD)D" } : Jvm.MethodName)).before a0 Z = true := hw _ (List.mem_of_getElem? (i := 23) rfl)
theorem ow24 {a0 : Array Value} {Z : State} (hw : ∀ d ∈ tables_1, d.before a0 Z = true) : (Jvm.Cond.selects "com/example/weir/RateMode$Burst" ({ cls := "com/example/weir/RateMode$Burst", name := "storedAfterIdle", desc := "(DDD)D" } : Jvm.MethodName) ({ cls := "com/example/weir/RateMode$Burst", name := "storedAfterIdle", desc := "(DDD)D" } : Jvm.MethodName)).before a0 Z = true := hw _ (List.mem_of_getElem? (i := 24) rfl)
theorem ow25 {a0 : Array Value} {Z : State} (hw : ∀ d ∈ tables_1, d.before a0 Z = true) : (Jvm.Cond.code ({ cls := "com/example/weir/RateMode$Burst", name := "storedAfterIdle", desc := "(DDD)D" } : Jvm.MethodName) prog_13_method_5_code (7 : Nat) (Option.some Jvm.ClassFile.FieldType.double)).before a0 Z = true := hw _ (List.mem_of_getElem? (i := 25) rfl)
theorem ow26 {a0 : Array Value} {Z : State} (hw : ∀ d ∈ tables_1, d.before a0 Z = true) : (Jvm.Cond.methodLink "com/example/weir/RateMode$Burst" (32 : Nat) ({ cls := "java/lang/Math", name := "min", desc := "(DD)D" } : Jvm.MethodName)).before a0 Z = true := hw _ (List.mem_of_getElem? (i := 26) rfl)
theorem ow27 {a0 : Array Value} {Z : State} (hw : ∀ d ∈ tables_1, d.before a0 Z = true) : (Jvm.Cond.static ({ cls := "java/lang/Math", name := "min", desc := "(DD)D" } : Jvm.MethodName)).before a0 Z = true := hw _ (List.mem_of_getElem? (i := 27) rfl)
theorem ow28 {a0 : Array Value} {Z : State} (hw : ∀ d ∈ tables_1, d.before a0 Z = true) : (Jvm.Cond.initialized "java/lang/Math").before a0 Z = true := hw _ (List.mem_of_getElem? (i := 28) rfl)
theorem ow29 {a0 : Array Value} {Z : State} (hw : ∀ d ∈ tables_1, d.before a0 Z = true) : (Jvm.Cond.code ({ cls := "java/lang/Math", name := "min", desc := "(DD)D" } : Jvm.MethodName) jdk_29_method_72_code (4 : Nat) (Option.some Jvm.ClassFile.FieldType.double)).before a0 Z = true := hw _ (List.mem_of_getElem? (i := 29) rfl)
theorem ow30 {a0 : Array Value} {Z : State} (hw : ∀ d ∈ tables_1, d.before a0 Z = true) : (Jvm.Cond.methodLink "com/example/weir/BurstStoredAfterIdlePinLaw" (20 : Nat) ({ cls := "java/lang/Math", name := "min", desc := "(JJ)J" } : Jvm.MethodName)).before a0 Z = true := hw _ (List.mem_of_getElem? (i := 30) rfl)
theorem ow31 {a0 : Array Value} {Z : State} (hw : ∀ d ∈ tables_1, d.before a0 Z = true) : (Jvm.Cond.static ({ cls := "java/lang/Math", name := "min", desc := "(JJ)J" } : Jvm.MethodName)).before a0 Z = true := hw _ (List.mem_of_getElem? (i := 31) rfl)
theorem ow32 {a0 : Array Value} {Z : State} (hw : ∀ d ∈ tables_1, d.before a0 Z = true) : (Jvm.Cond.code ({ cls := "java/lang/Math", name := "min", desc := "(JJ)J" } : Jvm.MethodName) jdk_29_method_70_code (4 : Nat) (Option.some Jvm.ClassFile.FieldType.long)).before a0 Z = true := hw _ (List.mem_of_getElem? (i := 32) rfl)
def fMin (q1 : Int64) (q2 : Int64) : Int64 := (if (0 : Int32) < (lcmpW q1 q2) then q2 else q1)
theorem ef_rm6 (m : MethodId) (q1 : Int64) (q2 : Int64) : entryFrame m #[(.long q1), (.long q2)] 4 = mkF m 0 #[.val (.long q1), .second, .val (.long q2), .second] [] := by first | (simp [entryFrame, mkF, argsToLocals, Value.category]; done) | rfl
theorem d6_0 : decode jdk_29_method_70_code 0 = .ok (.lload_n 0, 1) := by decide +kernel
theorem d6_1 : decode jdk_29_method_70_code 1 = .ok (.lload_n 2, 1) := by decide +kernel
theorem d6_2 : decode jdk_29_method_70_code 2 = .ok (.lcmp, 1) := by decide +kernel
theorem d6_3 : decode jdk_29_method_70_code 3 = .ok (.ifCond .gt 7, 3) := by decide +kernel
theorem d6_10 : decode jdk_29_method_70_code 10 = .ok (.lload_n 2, 1) := by decide +kernel
theorem d6_11 : decode jdk_29_method_70_code 11 = .ok (.lreturn, 1) := by decide +kernel
theorem d6_6 : decode jdk_29_method_70_code 6 = .ok (.lload_n 0, 1) := by decide +kernel
theorem d6_7 : decode jdk_29_method_70_code 7 = .ok (.goto 4, 3) := by decide +kernel
def Q_rm6 (Z : State) (q1 : Int64) (q2 : Int64) (h0 : Heap) (n0 : Nat) (v : Option Value) (h : Heap) (L : List Loc) : Prop := v = some (.long (fMin q1 q2)) ∧ Fr n0 L ∧ h = h0
set_option maxRecDepth 65536 in
set_option maxHeartbeats 40000000 in
theorem rm6 (l : Launch) (Z : State) (a0 : Array Value) (hw : ∀ d ∈ tables_1, d.before a0 Z = true) (ws : List Jvm.Cond) (q1 : Int64) (q2 : Int64) (h0 : Heap) (n0 : Nat) (Z0 : n0 ≤ h0.size) :
    MetFree l (⟨"java/lang/Math", "min", "(JJ)J"⟩ : MethodName) (head1 (Jvm.Cond.code (⟨"java/lang/Math", "min", "(JJ)J"⟩ : MethodName) jdk_29_method_70_code 4 (some .long) :: ws) ({ frames := 0, cells := 0, slots := 0, locals := 0 } : Room)) (fun a U => a = #[(.long q1), (.long q2)] ∧ Z.Warmed39 U.vm ∧ U.heap = h0) (fun _ _ _ _ _ => True) (fun _ U o U' => ∃ v L, o = .returned v ∧ Q_rm6 Z q1 q2 h0 n0 v U'.heap L ∧ FrameEnd U o U' L ({ frames := 0, cells := 0, slots := 0, locals := 0 } : Room).cells ({ frames := 0, cells := 0, slots := 0, locals := 0 } : Room).slots) := by
  refine MetFree.of_bodySF (Jvm.Free.JP.mathPlain rfl (by decide +kernel)) hisR ?_
  intro p e s m args below meth c s₁ Bd hml0 hP hK
  obtain ⟨rfl, hZ, hh⟩ := hP
  have hx := Bd.exec
  have hby := Bd.bytes
  have hml : c.maxLocals = 4 := hml0
  have hown : s.vm.findClass "java/lang/Math" = some m.cls := findClass_of_methodNamed Bd.named
  have hnm := (name_of_methodNamed Bd.named Bd.method).1
  have X0 : Stand p l e ({ frames := 0, cells := 0, slots := 0, locals := 0 } : Room) s m #[(.long q1), (.long q2)] below meth c s₁ [] 0 0 := Stand.of_body Bd
  have e0 : s₁.heap = h0 := by rw [← hh, Bd.state]; rfl
  have N0 := Fr.nil n0
  suffices hR : ∀ P : State → Prop, (∀ s₂ o v L, s₂.status = .running → Ended s₂ below o → o = .returned v → Q_rm6 Z q1 q2 h0 n0 v s₂.heap L → FrameEnd s o s₂ L ({ frames := 0, cells := 0, slots := 0, locals := 0 } : Room).cells ({ frames := 0, cells := 0, slots := 0, locals := 0 } : Room).slots → P s₂) → Rch p.tables e below P (s₁.setTop (mkF m 0 #[.val (.long q1), .second, .val (.long q2), .second] [])) by
    obtain ⟨s₂, h1, o, h2⟩ := hR (fun s₂ => ∃ o, s₂.status = .running ∧ Ended s₂ below o ∧ ∃ v L, o = .returned v ∧ Q_rm6 Z q1 q2 h0 n0 v s₂.heap L ∧ FrameEnd s o s₂ L ({ frames := 0, cells := 0, slots := 0, locals := 0 } : Room).cells ({ frames := 0, cells := 0, slots := 0, locals := 0 } : Room).slots) (fun s₂ o v L q1 q2 q3 q4 q5 => ⟨o, q1, q2, v, L, q3, q4, q5⟩)
    exact ⟨s₂, o, castTop (ef_rm6 m q1 q2) h1, h2⟩
  intro P hPd
  refine Rch.go (fun zt zk => XS.lloadN X0.here hx rfl (hb hby d6_0) rfl zk) ?_
  show Rch _ _ _ _ (s₁.setTop (mkF m 1 #[.val (.long q1), .second, .val (.long q2), .second] [(.long q1)]))
  refine Rch.go (fun zt zk => XS.lloadN X0.here hx rfl (hb hby d6_1) rfl zk) ?_
  show Rch _ _ _ _ (s₁.setTop (mkF m 2 #[.val (.long q1), .second, .val (.long q2), .second] [(.long q2), (.long q1)]))
  refine Rch.go (fun zt zk => XS.lcmp X0.here hx rfl (hb hby d6_2) rfl zk) ?_
  show Rch _ _ _ _ (s₁.setTop (mkF m 3 #[.val (.long q1), .second, .val (.long q2), .second] [(.int (lcmpW q1 q2))]))
  by_cases hc3_101 : (0 : Int32) < (lcmpW q1 q2)
  · skip
    refine Rch.go (fun zt zk => XS.ifYes X0.here hx rfl (pc0 := 3) (pc' := 10) rfl (hb hby d6_3) rfl ((if0 _ _).trans (tlt hc3_101).2.2.1) (by decide) (by decide) zk) ?_
    show Rch _ _ _ _ (s₁.setTop (mkF m 10 #[.val (.long q1), .second, .val (.long q2), .second] []))
    refine Rch.go (fun zt zk => XS.lloadN X0.here hx rfl (hb hby d6_10) rfl zk) ?_
    show Rch _ _ _ _ (s₁.setTop (mkF m 11 #[.val (.long q1), .second, .val (.long q2), .second] [(.long q2)]))
    obtain ⟨fs, hr, hrun, hended, hW, hsame⟩ := X0.leave (v := some (.long q2)) (fun h => by rw [Bd.returns] at h; cases h)
    have hend : Steps p.tables e below (s₁.setTop (mkF m 11 #[.val (.long q1), .second, .val (.long q2), .second] [(.long q2)])) (s₁.setFrames fs) := by
      jvm_step X0.here [X0.here.top, hx, (hb hby d6_11), X0.method', Bd.returns, narrow]
      first | (intro acts; rw [hr _ acts rfl rfl rfl]) | rw [hr _ _ rfl rfl rfl]
      exact Steps.refl _
    refine Rch.mk (hend) (hPd _ _ _ _ hrun hended rfl ?_ ⟨⟨_, rfl⟩, hW, hsame.mono (by decide) (by decide)⟩)
    show Q_rm6 Z q1 q2 h0 n0 _ s₁.heap _
    have hF : fMin q1 q2 = q2 := ((if_pos hc3_101).trans rfl)
    rw [e0]
    exact ⟨by rw [hF], N0, rfl⟩
  · skip
    refine Rch.go (fun zt zk => XS.ifNo X0.here hx rfl (hb hby d6_3) rfl ((if0 _ _).trans (flt hc3_101).2.2.1) zk) ?_
    show Rch _ _ _ _ (s₁.setTop (mkF m 6 #[.val (.long q1), .second, .val (.long q2), .second] []))
    refine Rch.go (fun zt zk => XS.lloadN X0.here hx rfl (hb hby d6_6) rfl zk) ?_
    show Rch _ _ _ _ (s₁.setTop (mkF m 7 #[.val (.long q1), .second, .val (.long q2), .second] [(.long q1)]))
    refine Rch.go (fun zt zk => XS.goto X0.here hx rfl (pc0 := 7) (pc' := 11) rfl (hb hby d6_7) (by decide) (by decide) zk) ?_
    show Rch _ _ _ _ (s₁.setTop (mkF m 11 #[.val (.long q1), .second, .val (.long q2), .second] [(.long q1)]))
    obtain ⟨fs, hr, hrun, hended, hW, hsame⟩ := X0.leave (v := some (.long q1)) (fun h => by rw [Bd.returns] at h; cases h)
    have hend : Steps p.tables e below (s₁.setTop (mkF m 11 #[.val (.long q1), .second, .val (.long q2), .second] [(.long q1)])) (s₁.setFrames fs) := by
      jvm_step X0.here [X0.here.top, hx, (hb hby d6_11), X0.method', Bd.returns, narrow]
      first | (intro acts; rw [hr _ acts rfl rfl rfl]) | rw [hr _ _ rfl rfl rfl]
      exact Steps.refl _
    refine Rch.mk (hend) (hPd _ _ _ _ hrun hended rfl ?_ ⟨⟨_, rfl⟩, hW, hsame.mono (by decide) (by decide)⟩)
    show Q_rm6 Z q1 q2 h0 n0 _ s₁.heap _
    have hF : fMin q1 q2 = q1 := ((if_neg hc3_101).trans rfl)
    rw [e0]
    exact ⟨by rw [hF], N0, rfl⟩
theorem ef_rm2 (m : MethodId) (ob : Addr) : entryFrame m #[(.ref ob)] 1 = mkF m 0 #[.val (.ref ob)] [] := by first | (simp [entryFrame, mkF, argsToLocals, Value.category]; done) | rfl
theorem pn_com_example_weir_RateMode : plainName "com/example/weir/RateMode" = true := by first | (simp [plainName, overriddenIn]; done) | decide +kernel
theorem d2_0 : decode prog_12_method_1_code 0 = .ok (.aload_n 0, 1) := by decide +kernel
theorem d2_1 : decode prog_12_method_1_code 1 = .ok (.invokespecial 1, 3) := by decide +kernel
theorem d2_4 : decode prog_12_method_1_code 4 = .ok (.return_, 1) := by decide +kernel
def Q_rm2 (Z : State) (ob : Addr) (h0 : Heap) (n0 : Nat) (v : Option Value) (h : Heap) (L : List Loc) : Prop := v = none ∧ Fr n0 L ∧ h = h0
set_option maxRecDepth 65536 in
set_option maxHeartbeats 40000000 in
theorem rm2 (l : Launch) (Z : State) (a0 : Array Value) (hw : ∀ d ∈ tables_1, d.before a0 Z = true) (ws : List Jvm.Cond) (ob : Addr) (h0 : Heap) (n0 : Nat) (Z0 : n0 ≤ h0.size) :
    MetFree l (⟨"com/example/weir/RateMode", "<init>", "()V"⟩ : MethodName) (head1 (Jvm.Cond.code (⟨"com/example/weir/RateMode", "<init>", "()V"⟩ : MethodName) prog_12_method_1_code 1 none :: ws) ({ frames := 1, cells := 0, slots := 0, locals := 12 } : Room)) (fun a U => a = #[(.ref ob)] ∧ Z.Warmed39 U.vm ∧ U.heap = h0) (fun _ _ _ _ _ => True) (fun _ U o U' => ∃ v L, o = .returned v ∧ Q_rm2 Z ob h0 n0 v U'.heap L ∧ FrameEnd U o U' L ({ frames := 1, cells := 0, slots := 0, locals := 12 } : Room).cells ({ frames := 1, cells := 0, slots := 0, locals := 12 } : Room).slots) := by
  refine MetFree.of_bodySF (plainFor_of_name pn_com_example_weir_RateMode) hisR ?_
  intro p e s m args below meth c s₁ Bd hml0 hP hK
  obtain ⟨rfl, hZ, hh⟩ := hP
  have hx := Bd.exec
  have hby := Bd.bytes
  have hml : c.maxLocals = 1 := hml0
  have hown : s.vm.findClass "com/example/weir/RateMode" = some m.cls := findClass_of_methodNamed Bd.named
  have hnm := (name_of_methodNamed Bd.named Bd.method).1
  have X0 : Stand p l e ({ frames := 1, cells := 0, slots := 0, locals := 12 } : Room) s m #[(.ref ob)] below meth c s₁ [] 0 0 := Stand.of_body Bd
  have e0 : s₁.heap = h0 := by rw [← hh, Bd.state]; rfl
  have N0 := Fr.nil n0
  suffices hR : ∀ P : State → Prop, (∀ s₂ o v L, s₂.status = .running → Ended s₂ below o → o = .returned v → Q_rm2 Z ob h0 n0 v s₂.heap L → FrameEnd s o s₂ L ({ frames := 1, cells := 0, slots := 0, locals := 12 } : Room).cells ({ frames := 1, cells := 0, slots := 0, locals := 12 } : Room).slots → P s₂) → Rch p.tables e below P (s₁.setTop (mkF m 0 #[.val (.ref ob)] [])) by
    obtain ⟨s₂, h1, o, h2⟩ := hR (fun s₂ => ∃ o, s₂.status = .running ∧ Ended s₂ below o ∧ ∃ v L, o = .returned v ∧ Q_rm2 Z ob h0 n0 v s₂.heap L ∧ FrameEnd s o s₂ L ({ frames := 1, cells := 0, slots := 0, locals := 12 } : Room).cells ({ frames := 1, cells := 0, slots := 0, locals := 12 } : Room).slots) (fun s₂ o v L q1 q2 q3 q4 q5 => ⟨o, q1, q2, v, L, q3, q4, q5⟩)
    exact ⟨s₂, o, castTop (ef_rm2 m ob) h1, h2⟩
  intro P hPd
  refine Rch.go (fun zt zk => XS.aloadN X0.here hx rfl (hb hby d2_0) rfl rfl zk) ?_
  show Rch _ _ _ _ (s₁.setTop (mkF m 1 #[.val (.ref ob)] [(.ref ob)]))
  obtain ⟨T101, X101, e101, st101⟩ := initO X0 hx hZ hown (ow14 hw) (ow15 hw) (ow16 hw) e0 (g := (mkF m 1 #[.val (.ref ob)] [(.ref ob)])) rfl (by rw [hml]; rfl) rfl (hb hby d2_1) (by decide) (W := 0) (by show 2 * 0 + _ ≤ _; exact Nat.le_of_eq rfl) (by decide)
  refine Rch.go st101 ?_
  show Rch _ _ _ _ (T101.setTop (mkF m 4 #[.val (.ref ob)] []))
  obtain ⟨fs, hr, hrun, hended, hW, hsame⟩ := X101.leave (v := none) (fun _ => rfl)
  refine Rch.mk (X101.returnOut hx Bd.returns (hb hby d2_4) hr) (hPd _ _ _ _ hrun hended rfl ?_ ⟨⟨_, rfl⟩, hW, hsame.mono (by decide) (by decide)⟩)
  show Q_rm2 Z ob h0 n0 _ T101.heap _
  rw [e101]
  exact ⟨rfl, N0, rfl⟩
theorem ef_rm1 (m : MethodId) (ob : Addr) (x1 : UInt64) (x2 : UInt64) : entryFrame m #[(.ref ob), (.double x1), (.double x2)] 5 = mkF m 0 #[.val (.ref ob), .val (.double x1), .second, .val (.double x2), .second] [] := by first | (simp [entryFrame, mkF, argsToLocals, Value.category]; done) | rfl
theorem pn_com_example_weir_RateMode_Burst : plainName "com/example/weir/RateMode$Burst" = true := by first | (simp [plainName, overriddenIn]; done) | decide +kernel
theorem d1_0 : decode prog_13_method_1_code 0 = .ok (.aload_n 0, 1) := by decide +kernel
theorem d1_1 : decode prog_13_method_1_code 1 = .ok (.invokespecial 1, 3) := by decide +kernel
theorem pd___V : parseMethodDescriptor "()V" = some ⟨[], none⟩ := by decide +kernel
theorem d1_4 : decode prog_13_method_1_code 4 = .ok (.aload_n 0, 1) := by decide +kernel
theorem d1_5 : decode prog_13_method_1_code 5 = .ok (.dload_n 1, 1) := by decide +kernel
theorem d1_6 : decode prog_13_method_1_code 6 = .ok (.putfield 7, 3) := by decide +kernel
theorem d1_9 : decode prog_13_method_1_code 9 = .ok (.aload_n 0, 1) := by decide +kernel
theorem d1_10 : decode prog_13_method_1_code 10 = .ok (.dload_n 3, 1) := by decide +kernel
theorem d1_11 : decode prog_13_method_1_code 11 = .ok (.putfield 13, 3) := by decide +kernel
theorem d1_14 : decode prog_13_method_1_code 14 = .ok (.return_, 1) := by decide +kernel
def Q_rm1 (Z : State) (ob : Addr) (x1 : UInt64) (x2 : UInt64) (h0 : Heap) (n0 : Nat) (v : Option Value) (h : Heap) (L : List Loc) : Prop := v = none ∧ Fr n0 L ∧ Keep h0 h [ob] ∧ Fld Z h ob "com/example/weir/RateMode$Burst" "maxStoredPermits" "D" (.double x1) ∧ Exa Z h ob "com/example/weir/RateMode$Burst"
set_option maxRecDepth 65536 in
set_option maxHeartbeats 40000000 in
theorem rm1 (l : Launch) (Z : State) (a0 : Array Value) (hw : ∀ d ∈ tables_1, d.before a0 Z = true) (ws : List Jvm.Cond) (ob : Addr) (x1 : UInt64) (x2 : UInt64) (h0 : Heap) (n0 : Nat) (Z0 : n0 ≤ h0.size) (P0 : Exa Z h0 ob "com/example/weir/RateMode$Burst") (P1 : Fld Z h0 ob "com/example/weir/RateMode$Burst" "maxStoredPermits" "D" (.double (0 : UInt64))) (P2 : Fld Z h0 ob "com/example/weir/RateMode$Burst" "catchUpFactor" "D" (.double (0 : UInt64))) (Pg_ob : n0 ≤ ob) :
    MetFree l (⟨"com/example/weir/RateMode$Burst", "<init>", "(DD)V"⟩ : MethodName) (head1 (Jvm.Cond.code (⟨"com/example/weir/RateMode$Burst", "<init>", "(DD)V"⟩ : MethodName) prog_13_method_1_code 5 none :: ws) ({ frames := 2, cells := 0, slots := 0, locals := 24 } : Room)) (fun a U => a = #[(.ref ob), (.double x1), (.double x2)] ∧ Z.Warmed39 U.vm ∧ U.heap = h0) (fun _ _ _ _ _ => True) (fun _ U o U' => ∃ v L, o = .returned v ∧ Q_rm1 Z ob x1 x2 h0 n0 v U'.heap L ∧ FrameEnd U o U' L ({ frames := 2, cells := 0, slots := 0, locals := 24 } : Room).cells ({ frames := 2, cells := 0, slots := 0, locals := 24 } : Room).slots) := by
  refine MetFree.of_bodySF (plainFor_of_name pn_com_example_weir_RateMode_Burst) hisR ?_
  intro p e s m args below meth c s₁ Bd hml0 hP hK
  obtain ⟨rfl, hZ, hh⟩ := hP
  have hx := Bd.exec
  have hby := Bd.bytes
  have hml : c.maxLocals = 5 := hml0
  have hown : s.vm.findClass "com/example/weir/RateMode$Burst" = some m.cls := findClass_of_methodNamed Bd.named
  have hnm := (name_of_methodNamed Bd.named Bd.method).1
  have X0 : Stand p l e ({ frames := 2, cells := 0, slots := 0, locals := 24 } : Room) s m #[(.ref ob), (.double x1), (.double x2)] below meth c s₁ [] 0 0 := Stand.of_body Bd
  have e0 : s₁.heap = h0 := by rw [← hh, Bd.state]; rfl
  have N0 := Fr.nil n0
  suffices hR : ∀ P : State → Prop, (∀ s₂ o v L, s₂.status = .running → Ended s₂ below o → o = .returned v → Q_rm1 Z ob x1 x2 h0 n0 v s₂.heap L → FrameEnd s o s₂ L ({ frames := 2, cells := 0, slots := 0, locals := 24 } : Room).cells ({ frames := 2, cells := 0, slots := 0, locals := 24 } : Room).slots → P s₂) → Rch p.tables e below P (s₁.setTop (mkF m 0 #[.val (.ref ob), .val (.double x1), .second, .val (.double x2), .second] [])) by
    obtain ⟨s₂, h1, o, h2⟩ := hR (fun s₂ => ∃ o, s₂.status = .running ∧ Ended s₂ below o ∧ ∃ v L, o = .returned v ∧ Q_rm1 Z ob x1 x2 h0 n0 v s₂.heap L ∧ FrameEnd s o s₂ L ({ frames := 2, cells := 0, slots := 0, locals := 24 } : Room).cells ({ frames := 2, cells := 0, slots := 0, locals := 24 } : Room).slots) (fun s₂ o v L q1 q2 q3 q4 q5 => ⟨o, q1, q2, v, L, q3, q4, q5⟩)
    exact ⟨s₂, o, castTop (ef_rm1 m ob x1 x2) h1, h2⟩
  intro P hPd
  refine Rch.go (fun zt zk => XS.aloadN X0.here hx rfl (hb hby d1_0) rfl rfl zk) ?_
  show Rch _ _ _ _ (s₁.setTop (mkF m 1 #[.val (.ref ob), .val (.double x1), .second, .val (.double x2), .second] [(.ref ob)]))
  obtain ⟨_, _, ⟨T101, L101, k101, n101⟩, -, X101, ⟨Lc101, hQ101, l101, y101, z101⟩, st101⟩ := X0.specialBackNest hx (host := "com/example/weir/RateMode") (y := (⟨"com/example/weir/RateMode", "<init>", "()V"⟩ : MethodName)) rfl hown (Cond.methodLinkNest_wide hZ (ow9 hw) :) (mvT hZ (ow10 hw)) (mvT hZ (ow13 hw)) (by decide) (backOf (W := 0) (rm2 l Z a0 hw [] (ob) h0 n0 Z0 ) hZ (ow13 hw) (ow12 hw) (by decide) (by decide)) (g := (mkF m 1 #[.val (.ref ob), .val (.double x1), .second, .val (.double x2), .second] [(.ref ob)])) rfl (by rw [hml]; rfl) (Steps.refl _) (a := ob) (argsL := []) (rest := []) (lenOf pd___V rfl) rfl (by show 2 * 0 + _ ≤ _; exact Nat.le_of_eq rfl) (hb hby d1_1) (fun _ _ => ⟨rfl, e0, (by decide : 0 + 0 ≤ _), (by decide : 0 + 0 ≤ _)⟩)
  dsimp only [Pt.U, Pt.locs, Pt.cells, Pt.slots] at X101 l101 y101 z101 st101 hQ101
  subst l101 y101 z101
  obtain ⟨rfl, N101q, eq101⟩ := hQ101
  have N101 := Fr.app N0 N101q
  refine Rch.go (fun zt zk => st101.trans zk) ?_
  show Rch _ _ _ _ (T101.setTop (mkF m 4 #[.val (.ref ob), .val (.double x1), .second, .val (.double x2), .second] []))
  refine Rch.go (fun zt zk => XS.aloadN X101.here hx rfl (hb hby d1_4) rfl rfl zk) ?_
  show Rch _ _ _ _ (T101.setTop (mkF m 5 #[.val (.ref ob), .val (.double x1), .second, .val (.double x2), .second] [(.ref ob)]))
  refine Rch.go (fun zt zk => XS.dloadN X101.here hx rfl (hb hby d1_5) rfl zk) ?_
  show Rch _ _ _ _ (T101.setTop (mkF m 6 #[.val (.ref ob), .val (.double x1), .second, .val (.double x2), .second] [(.double x1), (.ref ob)]))
  obtain ⟨T102, h102, X102, e102, W102, st102⟩ := putF X101 hx hZ hown (host := "") (Or.inl (ow17 hw)) Via.refl eq101 P1 P0 (Or.inr ⟨(ow18 hw), rfl, hnm⟩) (ow4 hw) (ty := .double) (by decide) rfl rfl (g := (mkF m 6 #[.val (.ref ob), .val (.double x1), .second, .val (.double x2), .second] [(.double x1), (.ref ob)])) rfl rfl (hb hby d1_6)
  refine Rch.go st102 ?_
  have Fw102 := P1.same W102
  have N102 := Fr.snoc X102 N101 Pg_ob
  have K102 : Keep h0 h102 [ob] := Keep.wr (Keep.refl h0 [ob]) W102 (Or.inl (List.mem_of_getElem? (i := 0) rfl))
  show Rch _ _ _ _ (T102.setTop (mkF m 9 #[.val (.ref ob), .val (.double x1), .second, .val (.double x2), .second] []))
  refine Rch.go (fun zt zk => XS.aloadN X102.here hx rfl (hb hby d1_9) rfl rfl zk) ?_
  show Rch _ _ _ _ (T102.setTop (mkF m 10 #[.val (.ref ob), .val (.double x1), .second, .val (.double x2), .second] [(.ref ob)]))
  refine Rch.go (fun zt zk => XS.dloadN X102.here hx rfl (hb hby d1_10) rfl zk) ?_
  show Rch _ _ _ _ (T102.setTop (mkF m 11 #[.val (.ref ob), .val (.double x1), .second, .val (.double x2), .second] [(.double x2), (.ref ob)]))
  have f103 := (P0.wr W102)
  have f104 := (P2.other W102 (Or.inr (slot_ne (Or.inr (ow20 hw)) (Or.inr (ow18 hw)) (by decide) (t := .double) (t' := .double) (by decide) (by decide))))
  obtain ⟨T105, h105, X105, e105, W105, st105⟩ := putF X102 hx hZ hown (host := "") (Or.inl (ow19 hw)) Via.refl e102 f104 f103 (Or.inr ⟨(ow20 hw), rfl, hnm⟩) (ow4 hw) (ty := .double) (by decide) rfl rfl (g := (mkF m 11 #[.val (.ref ob), .val (.double x1), .second, .val (.double x2), .second] [(.double x2), (.ref ob)])) rfl rfl (hb hby d1_11)
  refine Rch.go st105 ?_
  have Fw105 := f104.same W105
  have N105 := Fr.snoc X105 N102 Pg_ob
  have K105 : Keep h0 h105 [ob] := Keep.wr K102 W105 (Or.inl (List.mem_of_getElem? (i := 0) rfl))
  show Rch _ _ _ _ (T105.setTop (mkF m 14 #[.val (.ref ob), .val (.double x1), .second, .val (.double x2), .second] []))
  obtain ⟨fs, hr, hrun, hended, hW, hsame⟩ := X105.leave (v := none) (fun _ => rfl)
  refine Rch.mk (X105.returnOut hx Bd.returns (hb hby d1_14) hr) (hPd _ _ _ _ hrun hended rfl ?_ ⟨⟨_, rfl⟩, hW, hsame.mono (by decide) (by decide)⟩)
  show Q_rm1 Z ob x1 x2 h0 n0 _ T105.heap _
  rw [e105]
  have f106 := (Fw102.other W105 (Or.inr (slot_ne (Or.inr (ow18 hw)) (Or.inr (ow20 hw)) (by decide) (t := .double) (t' := .double) (by decide) (by decide))))
  have f107 := (f103.wr W105)
  exact ⟨rfl, N105, K105, f106, f107⟩
theorem ef_rm4 (m : MethodId) (ob : Addr) (xs : UInt64) (xd : UInt64) (xi : UInt64) : entryFrame m #[(.ref ob), (.double xs), (.double xd), (.double xi)] 7 = mkF m 0 #[.val (.ref ob), .val (.double xs), .second, .val (.double xd), .second, .val (.double xi), .second] [] := by first | (simp [entryFrame, mkF, argsToLocals, Value.category]; done) | rfl
theorem d4_0 : decode prog_13_method_5_code 0 = .ok (.aload_n 0, 1) := by decide +kernel
theorem d4_1 : decode prog_13_method_5_code 1 = .ok (.getfield 7, 3) := by decide +kernel
theorem d4_4 : decode prog_13_method_5_code 4 = .ok (.dload_n 1, 1) := by decide +kernel
theorem d4_5 : decode prog_13_method_5_code 5 = .ok (.dload_n 3, 1) := by decide +kernel
theorem d4_6 : decode prog_13_method_5_code 6 = .ok (.dload 5, 2) := by decide +kernel
theorem d4_8 : decode prog_13_method_5_code 8 = .ok (.ddiv, 1) := by decide +kernel
theorem d4_9 : decode prog_13_method_5_code 9 = .ok (.dadd, 1) := by decide +kernel
theorem pd__DD_D : parseMethodDescriptor "(DD)D" = some ⟨[.double, .double], some .double⟩ := by decide +kernel
theorem d4_10 : decode prog_13_method_5_code 10 = .ok (.invokestatic 32, 3) := by decide +kernel
theorem d4_13 : decode prog_13_method_5_code 13 = .ok (.dreturn, 1) := by decide +kernel
def Q_rm4 (Z : State) (ob : Addr) (xs : UInt64) (xd : UInt64) (xi : UInt64) (xm : UInt64) (vq : UInt64) (vt : UInt64) (vv : UInt64) (h0 : Heap) (n0 : Nat) (v : Option Value) (h : Heap) (L : List Loc) : Prop := v = some (.double vv) ∧ Fr n0 L ∧ h = h0
set_option maxRecDepth 65536 in
set_option maxHeartbeats 40000000 in
theorem rm4 (l : Launch) (Z : State) (a0 : Array Value) (hw : ∀ d ∈ tables_1, d.before a0 Z = true) (ws : List Jvm.Cond) (ob : Addr) (xs : UInt64) (xd : UInt64) (xi : UInt64) (xm : UInt64) (vq : UInt64) (vt : UInt64) (vv : UInt64) (h0 : Heap) (n0 : Nat) (Z0 : n0 ≤ h0.size) (P0 : Exa Z h0 ob "com/example/weir/RateMode$Burst") (P1 : Fld Z h0 ob "com/example/weir/RateMode$Burst" "maxStoredPermits" "D" (.double xm)) (hq : FP.ddiv xd xi = vq) (nq : Jvm.Free.Fl.NoNaN64 vq) (ht : FP.dadd xs vq = vt) (nt : Jvm.Free.Fl.NoNaN64 vt) (nm : Jvm.Free.Fl.NoNaN64 xm) (hv : Jvm.Native.java_lang_Math.nans.pick64 false xm vt = vv) :
    MetFree l (⟨"com/example/weir/RateMode$Burst", "storedAfterIdle", "(DDD)D"⟩ : MethodName) (head1 (Jvm.Cond.code (⟨"com/example/weir/RateMode$Burst", "storedAfterIdle", "(DDD)D"⟩ : MethodName) prog_13_method_5_code 7 (some .double) :: ws) ({ frames := 1, cells := 0, slots := 0, locals := 15 } : Room)) (fun a U => a = #[(.ref ob), (.double xs), (.double xd), (.double xi)] ∧ Z.Warmed39 U.vm ∧ U.heap = h0) (fun _ _ _ _ _ => True) (fun _ U o U' => ∃ v L, o = .returned v ∧ Q_rm4 Z ob xs xd xi xm vq vt vv h0 n0 v U'.heap L ∧ FrameEnd U o U' L ({ frames := 1, cells := 0, slots := 0, locals := 15 } : Room).cells ({ frames := 1, cells := 0, slots := 0, locals := 15 } : Room).slots) := by
  refine MetFree.of_bodySF (plainFor_of_name pn_com_example_weir_RateMode_Burst) hisR ?_
  intro p e s m args below meth c s₁ Bd hml0 hP hK
  obtain ⟨rfl, hZ, hh⟩ := hP
  have hx := Bd.exec
  have hby := Bd.bytes
  have hml : c.maxLocals = 7 := hml0
  have hown : s.vm.findClass "com/example/weir/RateMode$Burst" = some m.cls := findClass_of_methodNamed Bd.named
  have hnm := (name_of_methodNamed Bd.named Bd.method).1
  have X0 : Stand p l e ({ frames := 1, cells := 0, slots := 0, locals := 15 } : Room) s m #[(.ref ob), (.double xs), (.double xd), (.double xi)] below meth c s₁ [] 0 0 := Stand.of_body Bd
  have e0 : s₁.heap = h0 := by rw [← hh, Bd.state]; rfl
  have N0 := Fr.nil n0
  suffices hR : ∀ P : State → Prop, (∀ s₂ o v L, s₂.status = .running → Ended s₂ below o → o = .returned v → Q_rm4 Z ob xs xd xi xm vq vt vv h0 n0 v s₂.heap L → FrameEnd s o s₂ L ({ frames := 1, cells := 0, slots := 0, locals := 15 } : Room).cells ({ frames := 1, cells := 0, slots := 0, locals := 15 } : Room).slots → P s₂) → Rch p.tables e below P (s₁.setTop (mkF m 0 #[.val (.ref ob), .val (.double xs), .second, .val (.double xd), .second, .val (.double xi), .second] [])) by
    obtain ⟨s₂, h1, o, h2⟩ := hR (fun s₂ => ∃ o, s₂.status = .running ∧ Ended s₂ below o ∧ ∃ v L, o = .returned v ∧ Q_rm4 Z ob xs xd xi xm vq vt vv h0 n0 v s₂.heap L ∧ FrameEnd s o s₂ L ({ frames := 1, cells := 0, slots := 0, locals := 15 } : Room).cells ({ frames := 1, cells := 0, slots := 0, locals := 15 } : Room).slots) (fun s₂ o v L q1 q2 q3 q4 q5 => ⟨o, q1, q2, v, L, q3, q4, q5⟩)
    exact ⟨s₂, o, castTop (ef_rm4 m ob xs xd xi) h1, h2⟩
  intro P hPd
  refine Rch.go (fun zt zk => XS.aloadN X0.here hx rfl (hb hby d4_0) rfl rfl zk) ?_
  show Rch _ _ _ _ (s₁.setTop (mkF m 1 #[.val (.ref ob), .val (.double xs), .second, .val (.double xd), .second, .val (.double xi), .second] [(.ref ob)]))
  obtain ⟨T101, X101, e101, st101⟩ := getF X0 hx hZ hown (host := "") (Or.inl (ow17 hw)) Via.refl e0 P1 (g := (mkF m 1 #[.val (.ref ob), .val (.double xs), .second, .val (.double xd), .second, .val (.double xi), .second] [(.ref ob)])) rfl rfl (hb hby d4_1)
  refine Rch.go st101 ?_
  show Rch _ _ _ _ (T101.setTop (mkF m 4 #[.val (.ref ob), .val (.double xs), .second, .val (.double xd), .second, .val (.double xi), .second] [(.double xm)]))
  refine Rch.go (fun zt zk => XS.dloadN X101.here hx rfl (hb hby d4_4) rfl zk) ?_
  show Rch _ _ _ _ (T101.setTop (mkF m 5 #[.val (.ref ob), .val (.double xs), .second, .val (.double xd), .second, .val (.double xi), .second] [(.double xs), (.double xm)]))
  refine Rch.go (fun zt zk => XS.dloadN X101.here hx rfl (hb hby d4_5) rfl zk) ?_
  show Rch _ _ _ _ (T101.setTop (mkF m 6 #[.val (.ref ob), .val (.double xs), .second, .val (.double xd), .second, .val (.double xi), .second] [(.double xd), (.double xs), (.double xm)]))
  refine Rch.go (fun zt zk => XS.dload X101.here hx rfl (hb hby d4_6) rfl zk) ?_
  show Rch _ _ _ _ (T101.setTop (mkF m 8 #[.val (.ref ob), .val (.double xs), .second, .val (.double xd), .second, .val (.double xi), .second] [(.double xi), (.double xd), (.double xs), (.double xm)]))
  refine Rch.go (fun zt zk => XS.ddivS X101.here hx rfl (hb hby d4_8) rfl (by rw [hq]; exact nq) (v := vq) hq zk) ?_
  show Rch _ _ _ _ (T101.setTop (mkF m 9 #[.val (.ref ob), .val (.double xs), .second, .val (.double xd), .second, .val (.double xi), .second] [(.double vq), (.double xs), (.double xm)]))
  refine Rch.go (fun zt zk => XS.daddS X101.here hx rfl (hb hby d4_9) rfl (by rw [ht]; exact nt) (v := vt) ht zk) ?_
  show Rch _ _ _ _ (T101.setTop (mkF m 10 #[.val (.ref ob), .val (.double xs), .second, .val (.double xd), .second, .val (.double xi), .second] [(.double vt), (.double xm)]))
  obtain ⟨T102, X102, e102, st102⟩ := natS X101 hx hZ (y := (⟨"java/lang/Math", "min", "(DD)D"⟩ : MethodName)) hown (ow26 hw) (ow27 hw) (ow28 hw) (ow29 hw) (by decide) e101 (W := 0) (F := fun a' => a' = #[(.double xm), (.double vt)] ∧ Jvm.Free.Fl.NoNaN64 xm ∧ Jvm.Free.Fl.NoNaN64 vt) (val := .double (Jvm.Native.java_lang_Math.nans.pick64 false xm vt)) (val' := .double vv) (fun hc => Jvm.Free.Fl.Abs.minD_pays xm vt hc (by decide) (by decide)) (g := (mkF m 10 #[.val (.ref ob), .val (.double xs), .second, .val (.double xd), .second, .val (.double xi), .second] [(.double vt), (.double xm)])) rfl (by rw [hml]; rfl) (argsL := [(.double xm), (.double vt)]) (rest := []) (lenOf pd__DD_D rfl) rfl (by show 2 * 0 + _ ≤ _; exact Nat.le_of_eq rfl) (hb hby d4_10) (by decide) (by decide) ⟨rfl, nm, nt⟩ (by rw [hv])
  refine Rch.go st102 ?_
  show Rch _ _ _ _ (T102.setTop (mkF m 13 #[.val (.ref ob), .val (.double xs), .second, .val (.double xd), .second, .val (.double xi), .second] [(.double vv)]))
  obtain ⟨fs, hr, hrun, hended, hW, hsame⟩ := X102.leave (v := some (.double vv)) (fun h => by rw [Bd.returns] at h; cases h)
  have hend : Steps p.tables e below (T102.setTop (mkF m 13 #[.val (.ref ob), .val (.double xs), .second, .val (.double xd), .second, .val (.double xi), .second] [(.double vv)])) (T102.setFrames fs) := by
    jvm_step X102.here [X102.here.top, hx, (hb hby d4_13), X102.method', Bd.returns, narrow]
    first | (intro acts; rw [hr _ acts rfl rfl rfl]) | rw [hr _ _ rfl rfl rfl]
    exact Steps.refl _
  refine Rch.mk (hend) (hPd _ _ _ _ hrun hended rfl ?_ ⟨⟨_, rfl⟩, hW, hsame.mono (by decide) (by decide)⟩)
  show Q_rm4 Z ob xs xd xi xm vq vt vv h0 n0 _ T102.heap _
  rw [e102]
  exact ⟨rfl, N0, rfl⟩

section Dv
open Jvm.FP.Core
theorem own_ddiv {a b c : Int64} (ha : Small53 a) (hb : Small53 b) (hc : Small53 c) (h0 : 0 ≤ a.toInt) (hb0 : 0 < b.toInt) (hc0 : 0 ≤ c.toInt)
    (h : a.toInt = c.toInt * b.toInt) : FP.Core.ddiv (FP.Core.l2d a) (FP.Core.l2d b) = FP.Core.l2d c := by
  have wa := l2d_whole ha
  have wb := l2d_whole hb
  have wc := l2d_whole hc
  obtain ⟨x, q, ea⟩ := l2d_shape a
  obtain ⟨y, r, eb⟩ := l2d_shape b
  obtain ⟨z, u, ec⟩ := l2d_shape c
  have hf := val64_fits (FP.Core.l2d c)
  have key : val64 (FP.Core.ddiv (FP.Core.l2d a) (FP.Core.l2d b)) = val64 (FP.Core.l2d c) := by
    rw [val64_ddiv]
    rw [ea] at wa
    rw [eb] at wb
    rw [ec] at wc hf
    rw [ea, eb, ec]
    have d1 : decide (a.toInt < 0) = false := by simp; omega
    have d2 : decide (b.toInt < 0) = false := by simp; omega
    have d3 : decide (c.toInt < 0) = false := by simp; omega
    rw [d1] at wa; rw [d2] at wb; rw [d3] at wc hf
    rw [d1, d2, d3]
    have hy : y ≠ 0 := fun q => by have := (whole_zero wb).mp q; omega
    have n1 := whole_natAbs wa
    have n2 := whole_natAbs wb
    have n3 := whole_natAbs wc
    show (if y = 0 then (if x = 0 then Datum.nan else .inf (false != false)) else roundRatio b64 (false != false) x y (q - r)) = _
    rw [if_neg hy]
    refine roundRatio_exact good_b64 (Nat.pos_of_ne_zero hy) hf ?_
    have hN : a.toInt.natAbs = c.toInt.natAbs * b.toInt.natAbs := by rw [h, Int.natAbs_mul]
    rw [hN] at n1
    generalize c.toInt.natAbs = C at *
    generalize b.toInt.natAbs = B at *
    have hh : (q - r - u).toNat + (-q).toNat + r.toNat + u.toNat = (u - (q - r)).toNat + q.toNat + (-r).toNat + (-u).toNat := by omega
    refine Nat.eq_of_mul_eq_mul_right (Nat.mul_pos (Nat.mul_pos (Nat.two_pow_pos q.toNat) (Nat.mul_pos (Nat.two_pow_pos r.toNat) (Nat.two_pow_pos (-r).toNat))) (Nat.mul_pos (Nat.two_pow_pos u.toNat) (Nat.two_pow_pos (-u).toNat))) ?_
    calc x * 2 ^ (q - r - u).toNat * (2 ^ q.toNat * (2 ^ r.toNat * 2 ^ (-r).toNat) * (2 ^ u.toNat * 2 ^ (-u).toNat))
        = (x * 2 ^ q.toNat) * 2 ^ (q - r - u).toNat * (2 ^ r.toNat * 2 ^ (-r).toNat * (2 ^ u.toNat * 2 ^ (-u).toNat)) := by ac_rfl
      _ = (C * B * 2 ^ (-q).toNat) * 2 ^ (q - r - u).toNat * (2 ^ r.toNat * 2 ^ (-r).toNat * (2 ^ u.toNat * 2 ^ (-u).toNat)) := by rw [n1]
      _ = (C * 2 ^ (-u).toNat) * (B * 2 ^ (-r).toNat) * 2 ^ ((q - r - u).toNat + (-q).toNat + r.toNat + u.toNat) := by simp only [Nat.pow_add]; ac_rfl
      _ = (z * 2 ^ u.toNat) * (y * 2 ^ r.toNat) * 2 ^ ((u - (q - r)).toNat + q.toNat + (-r).toNat + (-u).toNat) := by rw [← n2, ← n3, hh]
      _ = z * y * 2 ^ (u - (q - r)).toNat * (2 ^ q.toNat * (2 ^ r.toNat * 2 ^ (-r).toNat) * (2 ^ u.toNat * 2 ^ (-u).toNat)) := by simp only [Nat.pow_add]; ac_rfl
  exact val64_inj (by rw [key, ec]; intro h; cases h) key
end Dv
def own_min (a b : Int64) : Int64 := if a < b then a else b
theorem own_fMin (a b : Int64) : fMin a b = own_min a b := by
  unfold fMin own_min
  simp only [lw_gt, lw_lt, lw_eq]
  by_cases h : a < b
  · rw [if_pos h, if_neg (fun q => by rw [Int64.lt_iff_toInt_lt] at *; omega)]
  · rw [if_neg h]
    by_cases q : b < a
    · rw [if_pos q]
    · rw [if_neg q, ← Int64.toInt_inj]; rw [Int64.lt_iff_toInt_lt] at *; omega
/-- the numbers of the law -/
theorem own_nums (p1 p2 p3 p4 : Int32) :
    let ks := (p2 &&& (4194303 : Int32)).toInt64
    let is := (p3 &&& (1073741823 : Int32)).toInt64 + (1 : Int64)
    let ms := p4.toInt64 &&& (2147483647 : Int64)
    0 ≤ ks.toInt ∧ ks.toInt < 4194304 ∧ 0 < is.toInt ∧ is.toInt ≤ 1073741824 ∧ 0 ≤ ms.toInt ∧ ms.toInt < 2147483648 ∧ (ks * is).toInt = ks.toInt * is.toInt ∧ 0 ≤ ks.toInt * is.toInt ∧ ks.toInt * is.toInt < 4503599627370496 := by
  intro ks is ms
  have h1 := c_mask p2 (4194303 : Int32) 22 (by decide) (by decide)
  have h2 := c_mask p3 (1073741823 : Int32) 30 (by decide) (by decide)
  have h3 := c_maskL p4.toInt64 (2147483647 : Int64) 31 (by decide) (by decide)
  have k1 : ks.toInt = (p2 &&& (4194303 : Int32)).toInt := Int32.toInt_toInt64 _
  have i0 : (p3 &&& (1073741823 : Int32)).toInt64.toInt = (p3 &&& (1073741823 : Int32)).toInt := Int32.toInt_toInt64 _
  have e1 : (1 : Int64).toInt = 1 := rfl
  have i1 := c_ladd (p3 &&& (1073741823 : Int32)).toInt64 (1 : Int64)
  have r1 := rng64 ((p3 &&& (1073741823 : Int32)).toInt64 + (1 : Int64))
  have hk0 : 0 ≤ ks.toInt := by omega
  have hk1 : ks.toInt < 4194304 := by omega
  have hi : is.toInt = ((p3 &&& (1073741823 : Int32)).toInt64 + (1 : Int64)).toInt := rfl
  have hi0 : 0 < is.toInt := by omega
  have hi1 : is.toInt ≤ 1073741824 := by omega
  have hm : ms.toInt = (p4.toInt64 &&& (2147483647 : Int64)).toInt := rfl
  have b0 : 0 ≤ ks.toInt * is.toInt := Int.mul_nonneg hk0 (by omega)
  have b1 : ks.toInt * is.toInt ≤ 4194303 * 1073741824 := Int.mul_le_mul (by omega) hi1 (by omega) (by decide)
  refine ⟨hk0, hk1, hi0, hi1, by omega, by omega, FP.Core.int64_mul (by omega) (by omega), b0, by omega⟩

theorem ef_rm0 (m : MethodId) (p1 : Int32) (p2 : Int32) (p3 : Int32) (p4 : Int32) : entryFrame m #[(.int p1), (.int p2), (.int p3), (.int p4)] maxLocals = mkF m 0 #[.val (.int p1), .val (.int p2), .val (.int p3), .val (.int p4), .unset, .unset, .unset, .unset, .unset, .unset, .unset, .unset, .unset, .unset, .unset, .unset, .unset] [] := by first | (simp [entryFrame, mkF, argsToLocals, Value.category, maxLocals]; done) | rfl
theorem pn_com_example_weir_BurstStoredAfterIdlePinLaw : plainName "com/example/weir/BurstStoredAfterIdlePinLaw" = true := by first | (simp [plainName, overriddenIn]; done) | decide +kernel
theorem pd__DD_V : parseMethodDescriptor "(DD)V" = some ⟨[.double, .double], none⟩ := by decide +kernel
theorem pd__DDD_D : parseMethodDescriptor "(DDD)D" = some ⟨[.double, .double, .double], some .double⟩ := by decide +kernel
theorem pd__JJ_J : parseMethodDescriptor "(JJ)J" = some ⟨[.long, .long], some .long⟩ := by decide +kernel
def Q_rm0 (Z : State) (p1 : Int32) (p2 : Int32) (p3 : Int32) (p4 : Int32) (h0 : Heap) (n0 : Nat) (v : Option Value) (h : Heap) (L : List Loc) : Prop := v = some (.int (1 : Int32)) ∧ Fr n0 L
set_option maxRecDepth 65536 in
set_option maxHeartbeats 40000000 in
theorem rm0 (l : Launch) (Z : State) (a0 : Array Value) (hw : ∀ d ∈ tables_1, d.before a0 Z = true) (ws : List Jvm.Cond) (p1 : Int32) (p2 : Int32) (p3 : Int32) (p4 : Int32) (h0 : Heap) (n0 : Nat) (Z0 : n0 ≤ h0.size) :
    MetFree l x (head1 (Jvm.Cond.code x code maxLocals ret :: ws) room_1) (fun a U => a = #[(.int p1), (.int p2), (.int p3), (.int p4)] ∧ Z.Warmed39 U.vm ∧ U.heap = h0) (fun _ _ _ _ _ => True) (fun _ U o U' => ∃ v L, o = .returned v ∧ Q_rm0 Z p1 p2 p3 p4 h0 n0 v U'.heap L ∧ FrameEnd U o U' L room_1.cells room_1.slots) := by
  refine MetFree.of_bodySF (plainFor_of_name pn_com_example_weir_BurstStoredAfterIdlePinLaw) hisR ?_
  intro p e s m args below meth c s₁ Bd hml0 hP hK
  obtain ⟨rfl, hZ, hh⟩ := hP
  have hx := Bd.exec
  have hby := Bd.bytes
  have hml : c.maxLocals = 17 := hml0
  have hown : s.vm.findClass "com/example/weir/BurstStoredAfterIdlePinLaw" = some m.cls := findClass_of_methodNamed Bd.named
  have hnm := (name_of_methodNamed Bd.named Bd.method).1
  have X0 : Stand p l e room_1 s m #[(.int p1), (.int p2), (.int p3), (.int p4)] below meth c s₁ [] 0 0 := Stand.of_body Bd
  have e0 : s₁.heap = h0 := by rw [← hh, Bd.state]; rfl
  have N0 := Fr.nil n0
  suffices hR : ∀ P : State → Prop, (∀ s₂ o v L, s₂.status = .running → Ended s₂ below o → o = .returned v → Q_rm0 Z p1 p2 p3 p4 h0 n0 v s₂.heap L → FrameEnd s o s₂ L room_1.cells room_1.slots → P s₂) → Rch p.tables e below P (s₁.setTop (mkF m 0 #[.val (.int p1), .val (.int p2), .val (.int p3), .val (.int p4), .unset, .unset, .unset, .unset, .unset, .unset, .unset, .unset, .unset, .unset, .unset, .unset, .unset] [])) by
    obtain ⟨s₂, h1, o, h2⟩ := hR (fun s₂ => ∃ o, s₂.status = .running ∧ Ended s₂ below o ∧ ∃ v L, o = .returned v ∧ Q_rm0 Z p1 p2 p3 p4 h0 n0 v s₂.heap L ∧ FrameEnd s o s₂ L room_1.cells room_1.slots) (fun s₂ o v L q1 q2 q3 q4 q5 => ⟨o, q1, q2, v, L, q3, q4, q5⟩)
    exact ⟨s₂, o, castTop (ef_rm0 m p1 p2 p3 p4) h1, h2⟩
  intro P hPd
  refine Rch.go (fun zt zk => XS.iloadN X0.here hx rfl (hb hby at_0) rfl zk) ?_
  show Rch _ _ _ _ (s₁.setTop (mkF m 1 #[.val (.int p1), .val (.int p2), .val (.int p3), .val (.int p4), .unset, .unset, .unset, .unset, .unset, .unset, .unset, .unset, .unset, .unset, .unset, .unset, .unset] [(.int p2)]))
  refine Rch.go (X0.ldcInt hx hown (mvT hZ (ow0 hw)) (g := (mkF m 1 #[.val (.int p1), .val (.int p2), .val (.int p3), .val (.int p4), .unset, .unset, .unset, .unset, .unset, .unset, .unset, .unset, .unset, .unset, .unset, .unset, .unset] [(.int p2)])) rfl (hb hby at_1)) ?_
  show Rch _ _ _ _ (s₁.setTop (mkF m 3 #[.val (.int p1), .val (.int p2), .val (.int p3), .val (.int p4), .unset, .unset, .unset, .unset, .unset, .unset, .unset, .unset, .unset, .unset, .unset, .unset, .unset] [(.int (4194303 : Int32)), (.int p2)]))
  refine Rch.go (fun zt zk => XS.iand X0.here hx rfl (hb hby at_3) rfl zk) ?_
  show Rch _ _ _ _ (s₁.setTop (mkF m 4 #[.val (.int p1), .val (.int p2), .val (.int p3), .val (.int p4), .unset, .unset, .unset, .unset, .unset, .unset, .unset, .unset, .unset, .unset, .unset, .unset, .unset] [(.int (p2 &&& (4194303 : Int32)))]))
  refine Rch.go (fun zt zk => XS.i2l X0.here hx rfl (hb hby at_4) rfl zk) ?_
  show Rch _ _ _ _ (s₁.setTop (mkF m 5 #[.val (.int p1), .val (.int p2), .val (.int p3), .val (.int p4), .unset, .unset, .unset, .unset, .unset, .unset, .unset, .unset, .unset, .unset, .unset, .unset, .unset] [(.long ((p2 &&& (4194303 : Int32)).toInt64))]))
  refine Rch.go (fun zt zk => XS.lstore X0.here hx rfl (hb hby at_5) rfl (l' := #[.val (.int p1), .val (.int p2), .val (.int p3), .val (.int p4), .val (.long ((p2 &&& (4194303 : Int32)).toInt64)), .second, .unset, .unset, .unset, .unset, .unset, .unset, .unset, .unset, .unset, .unset, .unset]) rfl zk) ?_
  show Rch _ _ _ _ (s₁.setTop (mkF m 7 #[.val (.int p1), .val (.int p2), .val (.int p3), .val (.int p4), .val (.long ((p2 &&& (4194303 : Int32)).toInt64)), .second, .unset, .unset, .unset, .unset, .unset, .unset, .unset, .unset, .unset, .unset, .unset] []))
  refine Rch.go (fun zt zk => XS.iloadN X0.here hx rfl (hb hby at_7) rfl zk) ?_
  show Rch _ _ _ _ (s₁.setTop (mkF m 8 #[.val (.int p1), .val (.int p2), .val (.int p3), .val (.int p4), .val (.long ((p2 &&& (4194303 : Int32)).toInt64)), .second, .unset, .unset, .unset, .unset, .unset, .unset, .unset, .unset, .unset, .unset, .unset] [(.int p3)]))
  refine Rch.go (X0.ldcInt hx hown (mvT hZ (ow1 hw)) (g := (mkF m 8 #[.val (.int p1), .val (.int p2), .val (.int p3), .val (.int p4), .val (.long ((p2 &&& (4194303 : Int32)).toInt64)), .second, .unset, .unset, .unset, .unset, .unset, .unset, .unset, .unset, .unset, .unset, .unset] [(.int p3)])) rfl (hb hby at_8)) ?_
  show Rch _ _ _ _ (s₁.setTop (mkF m 10 #[.val (.int p1), .val (.int p2), .val (.int p3), .val (.int p4), .val (.long ((p2 &&& (4194303 : Int32)).toInt64)), .second, .unset, .unset, .unset, .unset, .unset, .unset, .unset, .unset, .unset, .unset, .unset] [(.int (1073741823 : Int32)), (.int p3)]))
  refine Rch.go (fun zt zk => XS.iand X0.here hx rfl (hb hby at_10) rfl zk) ?_
  show Rch _ _ _ _ (s₁.setTop (mkF m 11 #[.val (.int p1), .val (.int p2), .val (.int p3), .val (.int p4), .val (.long ((p2 &&& (4194303 : Int32)).toInt64)), .second, .unset, .unset, .unset, .unset, .unset, .unset, .unset, .unset, .unset, .unset, .unset] [(.int (p3 &&& (1073741823 : Int32)))]))
  refine Rch.go (fun zt zk => XS.i2l X0.here hx rfl (hb hby at_11) rfl zk) ?_
  show Rch _ _ _ _ (s₁.setTop (mkF m 12 #[.val (.int p1), .val (.int p2), .val (.int p3), .val (.int p4), .val (.long ((p2 &&& (4194303 : Int32)).toInt64)), .second, .unset, .unset, .unset, .unset, .unset, .unset, .unset, .unset, .unset, .unset, .unset] [(.long ((p3 &&& (1073741823 : Int32)).toInt64))]))
  refine Rch.go (fun zt zk => XS.lconst X0.here hx rfl (hb hby at_12) zk) ?_
  show Rch _ _ _ _ (s₁.setTop (mkF m 13 #[.val (.int p1), .val (.int p2), .val (.int p3), .val (.int p4), .val (.long ((p2 &&& (4194303 : Int32)).toInt64)), .second, .unset, .unset, .unset, .unset, .unset, .unset, .unset, .unset, .unset, .unset, .unset] [(.long (1 : Int64)), (.long ((p3 &&& (1073741823 : Int32)).toInt64))]))
  refine Rch.go (fun zt zk => XS.ladd X0.here hx rfl (hb hby at_13) rfl zk) ?_
  show Rch _ _ _ _ (s₁.setTop (mkF m 14 #[.val (.int p1), .val (.int p2), .val (.int p3), .val (.int p4), .val (.long ((p2 &&& (4194303 : Int32)).toInt64)), .second, .unset, .unset, .unset, .unset, .unset, .unset, .unset, .unset, .unset, .unset, .unset] [(.long (((p3 &&& (1073741823 : Int32)).toInt64) + (1 : Int64)))]))
  refine Rch.go (fun zt zk => XS.lstore X0.here hx rfl (hb hby at_14) rfl (l' := #[.val (.int p1), .val (.int p2), .val (.int p3), .val (.int p4), .val (.long ((p2 &&& (4194303 : Int32)).toInt64)), .second, .val (.long (((p3 &&& (1073741823 : Int32)).toInt64) + (1 : Int64))), .second, .unset, .unset, .unset, .unset, .unset, .unset, .unset, .unset, .unset]) rfl zk) ?_
  show Rch _ _ _ _ (s₁.setTop (mkF m 16 #[.val (.int p1), .val (.int p2), .val (.int p3), .val (.int p4), .val (.long ((p2 &&& (4194303 : Int32)).toInt64)), .second, .val (.long (((p3 &&& (1073741823 : Int32)).toInt64) + (1 : Int64))), .second, .unset, .unset, .unset, .unset, .unset, .unset, .unset, .unset, .unset] []))
  refine Rch.go (fun zt zk => XS.lload X0.here hx rfl (hb hby at_16) rfl zk) ?_
  show Rch _ _ _ _ (s₁.setTop (mkF m 18 #[.val (.int p1), .val (.int p2), .val (.int p3), .val (.int p4), .val (.long ((p2 &&& (4194303 : Int32)).toInt64)), .second, .val (.long (((p3 &&& (1073741823 : Int32)).toInt64) + (1 : Int64))), .second, .unset, .unset, .unset, .unset, .unset, .unset, .unset, .unset, .unset] [(.long ((p2 &&& (4194303 : Int32)).toInt64))]))
  refine Rch.go (fun zt zk => XS.lload X0.here hx rfl (hb hby at_18) rfl zk) ?_
  show Rch _ _ _ _ (s₁.setTop (mkF m 20 #[.val (.int p1), .val (.int p2), .val (.int p3), .val (.int p4), .val (.long ((p2 &&& (4194303 : Int32)).toInt64)), .second, .val (.long (((p3 &&& (1073741823 : Int32)).toInt64) + (1 : Int64))), .second, .unset, .unset, .unset, .unset, .unset, .unset, .unset, .unset, .unset] [(.long (((p3 &&& (1073741823 : Int32)).toInt64) + (1 : Int64))), (.long ((p2 &&& (4194303 : Int32)).toInt64))]))
  refine Rch.go (fun zt zk => XS.lmul X0.here hx rfl (hb hby at_20) rfl zk) ?_
  show Rch _ _ _ _ (s₁.setTop (mkF m 21 #[.val (.int p1), .val (.int p2), .val (.int p3), .val (.int p4), .val (.long ((p2 &&& (4194303 : Int32)).toInt64)), .second, .val (.long (((p3 &&& (1073741823 : Int32)).toInt64) + (1 : Int64))), .second, .unset, .unset, .unset, .unset, .unset, .unset, .unset, .unset, .unset] [(.long (((p2 &&& (4194303 : Int32)).toInt64) * (((p3 &&& (1073741823 : Int32)).toInt64) + (1 : Int64))))]))
  refine Rch.go (fun zt zk => XS.lstore X0.here hx rfl (hb hby at_21) rfl (l' := #[.val (.int p1), .val (.int p2), .val (.int p3), .val (.int p4), .val (.long ((p2 &&& (4194303 : Int32)).toInt64)), .second, .val (.long (((p3 &&& (1073741823 : Int32)).toInt64) + (1 : Int64))), .second, .val (.long (((p2 &&& (4194303 : Int32)).toInt64) * (((p3 &&& (1073741823 : Int32)).toInt64) + (1 : Int64)))), .second, .unset, .unset, .unset, .unset, .unset, .unset, .unset]) rfl zk) ?_
  show Rch _ _ _ _ (s₁.setTop (mkF m 23 #[.val (.int p1), .val (.int p2), .val (.int p3), .val (.int p4), .val (.long ((p2 &&& (4194303 : Int32)).toInt64)), .second, .val (.long (((p3 &&& (1073741823 : Int32)).toInt64) + (1 : Int64))), .second, .val (.long (((p2 &&& (4194303 : Int32)).toInt64) * (((p3 &&& (1073741823 : Int32)).toInt64) + (1 : Int64)))), .second, .unset, .unset, .unset, .unset, .unset, .unset, .unset] []))
  refine Rch.go (fun zt zk => XS.iloadN X0.here hx rfl (hb hby at_23) rfl zk) ?_
  show Rch _ _ _ _ (s₁.setTop (mkF m 24 #[.val (.int p1), .val (.int p2), .val (.int p3), .val (.int p4), .val (.long ((p2 &&& (4194303 : Int32)).toInt64)), .second, .val (.long (((p3 &&& (1073741823 : Int32)).toInt64) + (1 : Int64))), .second, .val (.long (((p2 &&& (4194303 : Int32)).toInt64) * (((p3 &&& (1073741823 : Int32)).toInt64) + (1 : Int64)))), .second, .unset, .unset, .unset, .unset, .unset, .unset, .unset] [(.int p4)]))
  refine Rch.go (fun zt zk => XS.i2l X0.here hx rfl (hb hby at_24) rfl zk) ?_
  show Rch _ _ _ _ (s₁.setTop (mkF m 25 #[.val (.int p1), .val (.int p2), .val (.int p3), .val (.int p4), .val (.long ((p2 &&& (4194303 : Int32)).toInt64)), .second, .val (.long (((p3 &&& (1073741823 : Int32)).toInt64) + (1 : Int64))), .second, .val (.long (((p2 &&& (4194303 : Int32)).toInt64) * (((p3 &&& (1073741823 : Int32)).toInt64) + (1 : Int64)))), .second, .unset, .unset, .unset, .unset, .unset, .unset, .unset] [(.long (p4.toInt64))]))
  refine Rch.go (X0.ldc2Long hx hown (mvT hZ (ow2 hw)) (g := (mkF m 25 #[.val (.int p1), .val (.int p2), .val (.int p3), .val (.int p4), .val (.long ((p2 &&& (4194303 : Int32)).toInt64)), .second, .val (.long (((p3 &&& (1073741823 : Int32)).toInt64) + (1 : Int64))), .second, .val (.long (((p2 &&& (4194303 : Int32)).toInt64) * (((p3 &&& (1073741823 : Int32)).toInt64) + (1 : Int64)))), .second, .unset, .unset, .unset, .unset, .unset, .unset, .unset] [(.long (p4.toInt64))])) rfl (hb hby at_25)) ?_
  show Rch _ _ _ _ (s₁.setTop (mkF m 28 #[.val (.int p1), .val (.int p2), .val (.int p3), .val (.int p4), .val (.long ((p2 &&& (4194303 : Int32)).toInt64)), .second, .val (.long (((p3 &&& (1073741823 : Int32)).toInt64) + (1 : Int64))), .second, .val (.long (((p2 &&& (4194303 : Int32)).toInt64) * (((p3 &&& (1073741823 : Int32)).toInt64) + (1 : Int64)))), .second, .unset, .unset, .unset, .unset, .unset, .unset, .unset] [(.long (2147483647 : Int64)), (.long (p4.toInt64))]))
  refine Rch.go (fun zt zk => XS.land X0.here hx rfl (hb hby at_28) rfl zk) ?_
  show Rch _ _ _ _ (s₁.setTop (mkF m 29 #[.val (.int p1), .val (.int p2), .val (.int p3), .val (.int p4), .val (.long ((p2 &&& (4194303 : Int32)).toInt64)), .second, .val (.long (((p3 &&& (1073741823 : Int32)).toInt64) + (1 : Int64))), .second, .val (.long (((p2 &&& (4194303 : Int32)).toInt64) * (((p3 &&& (1073741823 : Int32)).toInt64) + (1 : Int64)))), .second, .unset, .unset, .unset, .unset, .unset, .unset, .unset] [(.long ((p4.toInt64) &&& (2147483647 : Int64)))]))
  refine Rch.go (fun zt zk => XS.lstore X0.here hx rfl (hb hby at_29) rfl (l' := #[.val (.int p1), .val (.int p2), .val (.int p3), .val (.int p4), .val (.long ((p2 &&& (4194303 : Int32)).toInt64)), .second, .val (.long (((p3 &&& (1073741823 : Int32)).toInt64) + (1 : Int64))), .second, .val (.long (((p2 &&& (4194303 : Int32)).toInt64) * (((p3 &&& (1073741823 : Int32)).toInt64) + (1 : Int64)))), .second, .val (.long ((p4.toInt64) &&& (2147483647 : Int64))), .second, .unset, .unset, .unset, .unset, .unset]) rfl zk) ?_
  show Rch _ _ _ _ (s₁.setTop (mkF m 31 #[.val (.int p1), .val (.int p2), .val (.int p3), .val (.int p4), .val (.long ((p2 &&& (4194303 : Int32)).toInt64)), .second, .val (.long (((p3 &&& (1073741823 : Int32)).toInt64) + (1 : Int64))), .second, .val (.long (((p2 &&& (4194303 : Int32)).toInt64) * (((p3 &&& (1073741823 : Int32)).toInt64) + (1 : Int64)))), .second, .val (.long ((p4.toInt64) &&& (2147483647 : Int64))), .second, .unset, .unset, .unset, .unset, .unset] []))
  obtain ⟨n1, n2, n3, n4, n5, n6, n7, n8, n9⟩ := own_nums p1 p2 p3 p4
  generalize hg_ks : ((p2 &&& (4194303 : Int32)).toInt64) = ks at *
  generalize hg_is : (((p3 &&& (1073741823 : Int32)).toInt64) + (1 : Int64)) = is at *
  generalize hg_di : (ks * is) = di at *
  generalize hg_ms : ((p4.toInt64) &&& (2147483647 : Int64)) = ms at *
  have s1 : B53 p1.toInt64 := by have q := Int32.toInt_toInt64 p1; have r := rng32 p1; exact ⟨by omega, by omega⟩
  have s2 : B53 ks := ⟨by omega, by omega⟩
  have s3 : B53 is := ⟨by omega, by omega⟩
  have s4 : B53 ms := ⟨by omega, by omega⟩
  have s5 : B53 di := ⟨by omega, by omega⟩
  have s6 : B53 (p1.toInt64 + ks) := by have q := Int32.toInt_toInt64 p1; have r := rng32 p1; have w := c_ladd p1.toInt64 ks; have w2 := rng64 (p1.toInt64 + ks); exact ⟨by omega, by omega⟩
  have s7 : B53 (own_min ms (p1.toInt64 + ks)) := by unfold own_min; split <;> assumption
  have hq : FP.ddiv (FP.l2d di) (FP.l2d is) = FP.l2d ks := own_ddiv (sm s5) (sm s3) (sm s2) (by omega) n3 n1 n7
  have ht : FP.dadd (FP.l2d p1.toInt64) (FP.l2d ks) = FP.l2d (p1.toInt64 + ks) := dadd_w s1 s2
  have hv : Jvm.Native.java_lang_Math.nans.pick64 false (FP.l2d ms) (FP.l2d (p1.toInt64 + ks)) = FP.l2d (own_min ms (p1.toInt64 + ks)) := by
    unfold own_min; split
    · exact min_l s4 s6 (by assumption)
    · exact min_g s4 s6 (by assumption)
  show Rch _ _ _ _ (s₁.setTop (mkF m 31 #[.val (.int p1), .val (.int p2), .val (.int p3), .val (.int p4), .val (.long ks), .second, .val (.long is), .second, .val (.long di), .second, .val (.long ms), .second, .unset, .unset, .unset, .unset, .unset] []))
  obtain ⟨T101, h101, X101, e101, E101, A101, D101, -, st101⟩ := newO X0 hx hZ hown (ow3 hw) (ow4 hw) (ow5 hw) e0 (g := (mkF m 31 #[.val (.int p1), .val (.int p2), .val (.int p3), .val (.int p4), .val (.long ks), .second, .val (.long is), .second, .val (.long di), .second, .val (.long ms), .second, .unset, .unset, .unset, .unset, .unset] [])) rfl (hb hby at_31) (by decide) (by decide)
  obtain ⟨b101, g101⟩ : ∃ z, z = h0.size := ⟨_, rfl⟩
  rw [← g101] at A101 D101 st101
  refine Rch.go st101 ?_
  have ge101 : n0 ≤ b101 := by rw [g101]; exact Z0
  have gk101 : h0.size ≤ b101 := by rw [g101]; exact (Keep.refl h0 []).1
  have K101 := (Keep.refl h0 []).ext E101
  have F101_maxStoredPermits : Fld Z h101 b101 "com/example/weir/RateMode$Burst" "maxStoredPermits" "D" (.double (0 : UInt64)) := D101 (Or.inr (ow18 hw)) (ty := .double) (by decide)
  have F101_catchUpFactor : Fld Z h101 b101 "com/example/weir/RateMode$Burst" "catchUpFactor" "D" (.double (0 : UInt64)) := D101 (Or.inr (ow20 hw)) (ty := .double) (by decide)
  show Rch _ _ _ _ (T101.setTop (mkF m 34 #[.val (.int p1), .val (.int p2), .val (.int p3), .val (.int p4), .val (.long ks), .second, .val (.long is), .second, .val (.long di), .second, .val (.long ms), .second, .unset, .unset, .unset, .unset, .unset] [(.ref b101)]))
  refine Rch.go (fun zt zk => XS.dup X101.here hx rfl (hb hby at_34) rfl rfl zk) ?_
  show Rch _ _ _ _ (T101.setTop (mkF m 35 #[.val (.int p1), .val (.int p2), .val (.int p3), .val (.int p4), .val (.long ks), .second, .val (.long is), .second, .val (.long di), .second, .val (.long ms), .second, .unset, .unset, .unset, .unset, .unset] [(.ref b101), (.ref b101)]))
  refine Rch.go (fun zt zk => XS.lload X101.here hx rfl (hb hby at_35) rfl zk) ?_
  show Rch _ _ _ _ (T101.setTop (mkF m 37 #[.val (.int p1), .val (.int p2), .val (.int p3), .val (.int p4), .val (.long ks), .second, .val (.long is), .second, .val (.long di), .second, .val (.long ms), .second, .unset, .unset, .unset, .unset, .unset] [(.long ms), (.ref b101), (.ref b101)]))
  refine Rch.go (fun zt zk => XS.l2dS X101.here hx rfl (hb hby at_37) rfl (v := (FP.l2d ms)) rfl zk) ?_
  show Rch _ _ _ _ (T101.setTop (mkF m 38 #[.val (.int p1), .val (.int p2), .val (.int p3), .val (.int p4), .val (.long ks), .second, .val (.long is), .second, .val (.long di), .second, .val (.long ms), .second, .unset, .unset, .unset, .unset, .unset] [(.double (FP.l2d ms)), (.ref b101), (.ref b101)]))
  refine Rch.go (fun zt zk => XS.dconst1 X101.here hx rfl (hb hby at_38) (v := FP.dconst1) rfl zk) ?_
  show Rch _ _ _ _ (T101.setTop (mkF m 39 #[.val (.int p1), .val (.int p2), .val (.int p3), .val (.int p4), .val (.long ks), .second, .val (.long is), .second, .val (.long di), .second, .val (.long ms), .second, .unset, .unset, .unset, .unset, .unset] [(.double FP.dconst1), (.double (FP.l2d ms)), (.ref b101), (.ref b101)]))
  have f103 := (Nat.le_trans Z0 E101.1)
  obtain ⟨_, _, ⟨T102, L102, k102, n102⟩, -, X102, ⟨Lc102, hQ102, l102, y102, z102⟩, st102⟩ := X101.specialBack hx (y := (⟨"com/example/weir/RateMode$Burst", "<init>", "(DD)V"⟩ : MethodName)) rfl hown (mvT hZ (ow6 hw)) (mvT hZ (ow7 hw)) (mvT hZ (ow8 hw)) (by decide) (backOf (W := 1) (rm1 l Z a0 hw [] (b101) ((FP.l2d ms)) (FP.dconst1) h101 n0 f103 (A101) (F101_maxStoredPermits) (F101_catchUpFactor) (ge101)) hZ (ow8 hw) (ow5 hw) (by decide) (by decide)) (g := (mkF m 39 #[.val (.int p1), .val (.int p2), .val (.int p3), .val (.int p4), .val (.long ks), .second, .val (.long is), .second, .val (.long di), .second, .val (.long ms), .second, .unset, .unset, .unset, .unset, .unset] [(.double FP.dconst1), (.double (FP.l2d ms)), (.ref b101), (.ref b101)])) rfl (by rw [hml]; rfl) (Steps.refl _) (a := b101) (argsL := [(.double (FP.l2d ms)), (.double FP.dconst1)]) (rest := [(.ref b101)]) (lenOf pd__DD_V rfl) rfl (by show 2 * 0 + _ ≤ _; exact Nat.le_of_eq rfl) (hb hby at_39) (fun _ _ => ⟨rfl, e101, (by decide : 1 + 0 ≤ _), (by decide : 2 + 0 ≤ _)⟩)
  dsimp only [Pt.U, Pt.locs, Pt.cells, Pt.slots] at X102 l102 y102 z102 st102 hQ102
  subst l102 y102 z102
  obtain ⟨rfl, N102q, K102q, O102_0, O102_1⟩ := hQ102
  have N102 := Fr.app N0 N102q
  have K102 := Keep.trans K101 K102q (allS (Or.inr gk101) all0)
  refine Rch.go (fun zt zk => st102.trans zk) ?_
  show Rch _ _ _ _ (T102.setTop (mkF m 42 #[.val (.int p1), .val (.int p2), .val (.int p3), .val (.int p4), .val (.long ks), .second, .val (.long is), .second, .val (.long di), .second, .val (.long ms), .second, .unset, .unset, .unset, .unset, .unset] [(.ref b101)]))
  refine Rch.go (fun zt zk => XS.astore X102.here hx rfl (hb hby at_42) rfl rfl (l' := #[.val (.int p1), .val (.int p2), .val (.int p3), .val (.int p4), .val (.long ks), .second, .val (.long is), .second, .val (.long di), .second, .val (.long ms), .second, .val (.ref b101), .unset, .unset, .unset, .unset]) rfl zk) ?_
  show Rch _ _ _ _ (T102.setTop (mkF m 44 #[.val (.int p1), .val (.int p2), .val (.int p3), .val (.int p4), .val (.long ks), .second, .val (.long is), .second, .val (.long di), .second, .val (.long ms), .second, .val (.ref b101), .unset, .unset, .unset, .unset] []))
  refine Rch.go (fun zt zk => XS.aload X102.here hx rfl (hb hby at_44) rfl rfl zk) ?_
  show Rch _ _ _ _ (T102.setTop (mkF m 46 #[.val (.int p1), .val (.int p2), .val (.int p3), .val (.int p4), .val (.long ks), .second, .val (.long is), .second, .val (.long di), .second, .val (.long ms), .second, .val (.ref b101), .unset, .unset, .unset, .unset] [(.ref b101)]))
  refine Rch.go (fun zt zk => XS.iloadN X102.here hx rfl (hb hby at_46) rfl zk) ?_
  show Rch _ _ _ _ (T102.setTop (mkF m 47 #[.val (.int p1), .val (.int p2), .val (.int p3), .val (.int p4), .val (.long ks), .second, .val (.long is), .second, .val (.long di), .second, .val (.long ms), .second, .val (.ref b101), .unset, .unset, .unset, .unset] [(.int p1), (.ref b101)]))
  refine Rch.go (fun zt zk => XS.i2dS X102.here hx rfl (hb hby at_47) rfl (v := (FP.l2d p1.toInt64)) (i2d_w _) zk) ?_
  show Rch _ _ _ _ (T102.setTop (mkF m 48 #[.val (.int p1), .val (.int p2), .val (.int p3), .val (.int p4), .val (.long ks), .second, .val (.long is), .second, .val (.long di), .second, .val (.long ms), .second, .val (.ref b101), .unset, .unset, .unset, .unset] [(.double (FP.l2d p1.toInt64)), (.ref b101)]))
  refine Rch.go (fun zt zk => XS.lload X102.here hx rfl (hb hby at_48) rfl zk) ?_
  show Rch _ _ _ _ (T102.setTop (mkF m 50 #[.val (.int p1), .val (.int p2), .val (.int p3), .val (.int p4), .val (.long ks), .second, .val (.long is), .second, .val (.long di), .second, .val (.long ms), .second, .val (.ref b101), .unset, .unset, .unset, .unset] [(.long di), (.double (FP.l2d p1.toInt64)), (.ref b101)]))
  refine Rch.go (fun zt zk => XS.l2dS X102.here hx rfl (hb hby at_50) rfl (v := (FP.l2d di)) rfl zk) ?_
  show Rch _ _ _ _ (T102.setTop (mkF m 51 #[.val (.int p1), .val (.int p2), .val (.int p3), .val (.int p4), .val (.long ks), .second, .val (.long is), .second, .val (.long di), .second, .val (.long ms), .second, .val (.ref b101), .unset, .unset, .unset, .unset] [(.double (FP.l2d di)), (.double (FP.l2d p1.toInt64)), (.ref b101)]))
  refine Rch.go (fun zt zk => XS.lload X102.here hx rfl (hb hby at_51) rfl zk) ?_
  show Rch _ _ _ _ (T102.setTop (mkF m 53 #[.val (.int p1), .val (.int p2), .val (.int p3), .val (.int p4), .val (.long ks), .second, .val (.long is), .second, .val (.long di), .second, .val (.long ms), .second, .val (.ref b101), .unset, .unset, .unset, .unset] [(.long is), (.double (FP.l2d di)), (.double (FP.l2d p1.toInt64)), (.ref b101)]))
  refine Rch.go (fun zt zk => XS.l2dS X102.here hx rfl (hb hby at_53) rfl (v := (FP.l2d is)) rfl zk) ?_
  show Rch _ _ _ _ (T102.setTop (mkF m 54 #[.val (.int p1), .val (.int p2), .val (.int p3), .val (.int p4), .val (.long ks), .second, .val (.long is), .second, .val (.long di), .second, .val (.long ms), .second, .val (.ref b101), .unset, .unset, .unset, .unset] [(.double (FP.l2d is)), (.double (FP.l2d di)), (.double (FP.l2d p1.toInt64)), (.ref b101)]))
  have f105 := (Nat.le_trans f103 K102q.1)
  obtain ⟨cq104, kq104, q104a, q104b, q104c⟩ := isOf hZ rfl O102_1
  obtain ⟨_, _, ⟨T104, L104, k104, n104⟩, -, X104, ⟨Lc104, hQ104, l104, y104, z104⟩, st104⟩ := X102.virtualBack hx (y := (⟨"com/example/weir/RateMode$Burst", "storedAfterIdle", "(DDD)D"⟩ : MethodName)) (z := (⟨"com/example/weir/RateMode$Burst", "storedAfterIdle", "(DDD)D"⟩ : MethodName)) hown (mvT hZ (ow21 hw)) (mvT hZ (ow22 hw)) (notFace_of_selects (args := #[]) (mvT hZ (ow24 hw))) (mvT hZ (ow24 hw)) (mvT hZ (ow23 hw)) (by decide) (backOf (W := 0) (rm4 l Z a0 hw [] (b101) ((FP.l2d p1.toInt64)) ((FP.l2d di)) ((FP.l2d is)) ((FP.l2d ms)) ((FP.l2d ks)) ((FP.l2d (p1.toInt64 + ks))) ((FP.l2d (own_min ms (p1.toInt64 + ks)))) T102.heap n0 f105 (O102_1) (O102_0) (hq) (nn_w rfl) (ht) (nn_w rfl) (nn_w rfl) (hv)) hZ (ow25 hw) (ow5 hw) (by decide) (by decide)) q104a q104c (g := (mkF m 54 #[.val (.int p1), .val (.int p2), .val (.int p3), .val (.int p4), .val (.long ks), .second, .val (.long is), .second, .val (.long di), .second, .val (.long ms), .second, .val (.ref b101), .unset, .unset, .unset, .unset] [(.double (FP.l2d is)), (.double (FP.l2d di)), (.double (FP.l2d p1.toInt64)), (.ref b101)])) rfl (by rw [hml]; rfl) (Steps.refl _) (argsL := [(.double (FP.l2d p1.toInt64)), (.double (FP.l2d di)), (.double (FP.l2d is))]) (rest := []) (lenOf pd__DDD_D rfl) rfl (by show 2 * 0 + _ ≤ _; exact Nat.le_of_eq rfl) (hb hby at_54) (fun _ _ => ⟨rfl, rfl, (by decide : 1 + 0 ≤ _), (by decide : 2 + 0 ≤ _)⟩)
  dsimp only [Pt.U, Pt.locs, Pt.cells, Pt.slots] at X104 l104 y104 z104 st104 hQ104
  subst l104 y104 z104
  obtain ⟨rfl, N104q, eq104⟩ := hQ104
  have N104 := Fr.app N102 N104q
  refine Rch.go (fun zt zk => st104.trans zk) ?_
  show Rch _ _ _ _ (T104.setTop (mkF m 57 #[.val (.int p1), .val (.int p2), .val (.int p3), .val (.int p4), .val (.long ks), .second, .val (.long is), .second, .val (.long di), .second, .val (.long ms), .second, .val (.ref b101), .unset, .unset, .unset, .unset] [(.double (FP.l2d (own_min ms (p1.toInt64 + ks))))]))
  refine Rch.go (fun zt zk => XS.dstore X104.here hx rfl (hb hby at_57) rfl (l' := #[.val (.int p1), .val (.int p2), .val (.int p3), .val (.int p4), .val (.long ks), .second, .val (.long is), .second, .val (.long di), .second, .val (.long ms), .second, .val (.ref b101), .val (.double (FP.l2d (own_min ms (p1.toInt64 + ks)))), .second, .unset, .unset]) rfl zk) ?_
  show Rch _ _ _ _ (T104.setTop (mkF m 59 #[.val (.int p1), .val (.int p2), .val (.int p3), .val (.int p4), .val (.long ks), .second, .val (.long is), .second, .val (.long di), .second, .val (.long ms), .second, .val (.ref b101), .val (.double (FP.l2d (own_min ms (p1.toInt64 + ks)))), .second, .unset, .unset] []))
  refine Rch.go (fun zt zk => XS.lload X104.here hx rfl (hb hby at_59) rfl zk) ?_
  show Rch _ _ _ _ (T104.setTop (mkF m 61 #[.val (.int p1), .val (.int p2), .val (.int p3), .val (.int p4), .val (.long ks), .second, .val (.long is), .second, .val (.long di), .second, .val (.long ms), .second, .val (.ref b101), .val (.double (FP.l2d (own_min ms (p1.toInt64 + ks)))), .second, .unset, .unset] [(.long ms)]))
  refine Rch.go (fun zt zk => XS.iloadN X104.here hx rfl (hb hby at_61) rfl zk) ?_
  show Rch _ _ _ _ (T104.setTop (mkF m 62 #[.val (.int p1), .val (.int p2), .val (.int p3), .val (.int p4), .val (.long ks), .second, .val (.long is), .second, .val (.long di), .second, .val (.long ms), .second, .val (.ref b101), .val (.double (FP.l2d (own_min ms (p1.toInt64 + ks)))), .second, .unset, .unset] [(.int p1), (.long ms)]))
  refine Rch.go (fun zt zk => XS.i2l X104.here hx rfl (hb hby at_62) rfl zk) ?_
  show Rch _ _ _ _ (T104.setTop (mkF m 63 #[.val (.int p1), .val (.int p2), .val (.int p3), .val (.int p4), .val (.long ks), .second, .val (.long is), .second, .val (.long di), .second, .val (.long ms), .second, .val (.ref b101), .val (.double (FP.l2d (own_min ms (p1.toInt64 + ks)))), .second, .unset, .unset] [(.long (p1.toInt64)), (.long ms)]))
  refine Rch.go (fun zt zk => XS.lload X104.here hx rfl (hb hby at_63) rfl zk) ?_
  show Rch _ _ _ _ (T104.setTop (mkF m 65 #[.val (.int p1), .val (.int p2), .val (.int p3), .val (.int p4), .val (.long ks), .second, .val (.long is), .second, .val (.long di), .second, .val (.long ms), .second, .val (.ref b101), .val (.double (FP.l2d (own_min ms (p1.toInt64 + ks)))), .second, .unset, .unset] [(.long ks), (.long (p1.toInt64)), (.long ms)]))
  refine Rch.go (fun zt zk => XS.ladd X104.here hx rfl (hb hby at_65) rfl zk) ?_
  show Rch _ _ _ _ (T104.setTop (mkF m 66 #[.val (.int p1), .val (.int p2), .val (.int p3), .val (.int p4), .val (.long ks), .second, .val (.long is), .second, .val (.long di), .second, .val (.long ms), .second, .val (.ref b101), .val (.double (FP.l2d (own_min ms (p1.toInt64 + ks)))), .second, .unset, .unset] [(.long ((p1.toInt64) + ks)), (.long ms)]))
  obtain ⟨_, _, ⟨T106, L106, k106, n106⟩, -, X106, ⟨Lc106, hQ106, l106, y106, z106⟩, st106⟩ := Jvm.LawKit.callS X104 hx (y := (⟨"java/lang/Math", "min", "(JJ)J"⟩ : MethodName)) hown (mvT hZ (ow30 hw)) (mvT hZ (ow31 hw)) (mvT hZ (ow28 hw)) (mvT hZ (ow32 hw)) (by decide) (backOf (W := 0) (rm6 l Z a0 hw [] ms ((p1.toInt64) + ks) T102.heap n0 f105 ) hZ (ow32 hw) (ow28 hw) (by decide) (by decide)) (g := (mkF m 66 #[.val (.int p1), .val (.int p2), .val (.int p3), .val (.int p4), .val (.long ks), .second, .val (.long is), .second, .val (.long di), .second, .val (.long ms), .second, .val (.ref b101), .val (.double (FP.l2d (own_min ms (p1.toInt64 + ks)))), .second, .unset, .unset] [(.long ((p1.toInt64) + ks)), (.long ms)])) rfl (by rw [hml]; rfl) (argsL := [(.long ms), (.long ((p1.toInt64) + ks))]) (rest := []) (lenOf pd__JJ_J rfl) rfl (by show 2 * 0 + _ ≤ _; exact Nat.le_of_eq rfl) (hb hby at_66) (fun _ _ => ⟨rfl, eq104, (by decide : 1 + 0 ≤ _), (by decide : 2 + 0 ≤ _)⟩)
  dsimp only [Pt.U, Pt.locs, Pt.cells, Pt.slots] at X106 l106 y106 z106 st106 hQ106
  subst l106 y106 z106
  obtain ⟨rfl, N106q, eq106⟩ := hQ106
  have N106 := Fr.app N104 N106q
  refine Rch.go st106 ?_
  show Rch _ _ _ _ (T106.setTop (mkF m 69 #[.val (.int p1), .val (.int p2), .val (.int p3), .val (.int p4), .val (.long ks), .second, .val (.long is), .second, .val (.long di), .second, .val (.long ms), .second, .val (.ref b101), .val (.double (FP.l2d (own_min ms (p1.toInt64 + ks)))), .second, .unset, .unset] [(.long (fMin ms ((p1.toInt64) + ks)))]))
  rw [own_fMin]
  show Rch _ _ _ _ (T106.setTop (mkF m 69 #[.val (.int p1), .val (.int p2), .val (.int p3), .val (.int p4), .val (.long ks), .second, .val (.long is), .second, .val (.long di), .second, .val (.long ms), .second, .val (.ref b101), .val (.double (FP.l2d (own_min ms (p1.toInt64 + ks)))), .second, .unset, .unset] [(.long (own_min ms (p1.toInt64 + ks)))]))
  refine Rch.go (fun zt zk => XS.lstore X106.here hx rfl (hb hby at_69) rfl (l' := #[.val (.int p1), .val (.int p2), .val (.int p3), .val (.int p4), .val (.long ks), .second, .val (.long is), .second, .val (.long di), .second, .val (.long ms), .second, .val (.ref b101), .val (.double (FP.l2d (own_min ms (p1.toInt64 + ks)))), .second, .val (.long (own_min ms (p1.toInt64 + ks))), .second]) rfl zk) ?_
  show Rch _ _ _ _ (T106.setTop (mkF m 71 #[.val (.int p1), .val (.int p2), .val (.int p3), .val (.int p4), .val (.long ks), .second, .val (.long is), .second, .val (.long di), .second, .val (.long ms), .second, .val (.ref b101), .val (.double (FP.l2d (own_min ms (p1.toInt64 + ks)))), .second, .val (.long (own_min ms (p1.toInt64 + ks))), .second] []))
  refine Rch.go (fun zt zk => XS.dload X106.here hx rfl (hb hby at_71) rfl zk) ?_
  show Rch _ _ _ _ (T106.setTop (mkF m 73 #[.val (.int p1), .val (.int p2), .val (.int p3), .val (.int p4), .val (.long ks), .second, .val (.long is), .second, .val (.long di), .second, .val (.long ms), .second, .val (.ref b101), .val (.double (FP.l2d (own_min ms (p1.toInt64 + ks)))), .second, .val (.long (own_min ms (p1.toInt64 + ks))), .second] [(.double (FP.l2d (own_min ms (p1.toInt64 + ks))))]))
  refine Rch.go (fun zt zk => XS.lload X106.here hx rfl (hb hby at_73) rfl zk) ?_
  show Rch _ _ _ _ (T106.setTop (mkF m 75 #[.val (.int p1), .val (.int p2), .val (.int p3), .val (.int p4), .val (.long ks), .second, .val (.long is), .second, .val (.long di), .second, .val (.long ms), .second, .val (.ref b101), .val (.double (FP.l2d (own_min ms (p1.toInt64 + ks)))), .second, .val (.long (own_min ms (p1.toInt64 + ks))), .second] [(.long (own_min ms (p1.toInt64 + ks))), (.double (FP.l2d (own_min ms (p1.toInt64 + ks))))]))
  refine Rch.go (fun zt zk => XS.l2dS X106.here hx rfl (hb hby at_75) rfl (v := (FP.l2d (own_min ms (p1.toInt64 + ks)))) rfl zk) ?_
  show Rch _ _ _ _ (T106.setTop (mkF m 76 #[.val (.int p1), .val (.int p2), .val (.int p3), .val (.int p4), .val (.long ks), .second, .val (.long is), .second, .val (.long di), .second, .val (.long ms), .second, .val (.ref b101), .val (.double (FP.l2d (own_min ms (p1.toInt64 + ks)))), .second, .val (.long (own_min ms (p1.toInt64 + ks))), .second] [(.double (FP.l2d (own_min ms (p1.toInt64 + ks)))), (.double (FP.l2d (own_min ms (p1.toInt64 + ks))))]))
  refine Rch.go (fun zt zk => XS.dcmpS X106.here hx rfl (hb hby at_76) rfl (v := (0 : Int32)) ((dcmpV_w s7 s7 _).trans (by unfold lcmpW; simp)) zk) ?_
  show Rch _ _ _ _ (T106.setTop (mkF m 77 #[.val (.int p1), .val (.int p2), .val (.int p3), .val (.int p4), .val (.long ks), .second, .val (.long is), .second, .val (.long di), .second, .val (.long ms), .second, .val (.ref b101), .val (.double (FP.l2d (own_min ms (p1.toInt64 + ks)))), .second, .val (.long (own_min ms (p1.toInt64 + ks))), .second] [(.int (0 : Int32))]))
  refine Rch.go (fun zt zk => XS.ifNo X106.here hx rfl (hb hby at_77) rfl ((if0 _ _).trans (teq (by decide : (0 : Int32) = (0 : Int32))).2) zk) ?_
  show Rch _ _ _ _ (T106.setTop (mkF m 80 #[.val (.int p1), .val (.int p2), .val (.int p3), .val (.int p4), .val (.long ks), .second, .val (.long is), .second, .val (.long di), .second, .val (.long ms), .second, .val (.ref b101), .val (.double (FP.l2d (own_min ms (p1.toInt64 + ks)))), .second, .val (.long (own_min ms (p1.toInt64 + ks))), .second] []))
  refine Rch.go (fun zt zk => XS.iconst X106.here hx rfl (hb hby at_80) zk) ?_
  show Rch _ _ _ _ (T106.setTop (mkF m 81 #[.val (.int p1), .val (.int p2), .val (.int p3), .val (.int p4), .val (.long ks), .second, .val (.long is), .second, .val (.long di), .second, .val (.long ms), .second, .val (.ref b101), .val (.double (FP.l2d (own_min ms (p1.toInt64 + ks)))), .second, .val (.long (own_min ms (p1.toInt64 + ks))), .second] [(.int (1 : Int32))]))
  refine Rch.go (fun zt zk => XS.goto X106.here hx rfl (pc0 := 81) (pc' := 85) rfl (hb hby at_81) (by decide) (by decide) zk) ?_
  show Rch _ _ _ _ (T106.setTop (mkF m 85 #[.val (.int p1), .val (.int p2), .val (.int p3), .val (.int p4), .val (.long ks), .second, .val (.long is), .second, .val (.long di), .second, .val (.long ms), .second, .val (.ref b101), .val (.double (FP.l2d (own_min ms (p1.toInt64 + ks)))), .second, .val (.long (own_min ms (p1.toInt64 + ks))), .second] [(.int (1 : Int32))]))
  obtain ⟨fs, hr, hrun, hended, hW, hsame⟩ := X106.leave (v := some (.int (1 : Int32))) (fun h => by rw [Bd.returns] at h; cases h)
  refine Rch.mk (retN X106 hx (t := .boolean) Bd.returns (by simp) (hb hby at_85) hr) (hPd _ _ _ _ hrun hended rfl ?_ ⟨⟨_, rfl⟩, hW, hsame.mono (by decide) (by decide)⟩)
  show Q_rm0 Z p1 p2 p3 p4 h0 n0 _ T106.heap _
  exact ⟨rfl, N106⟩
set_option maxRecDepth 65536 in
set_option maxHeartbeats 40000000 in
theorem comes_1 {Post : Tables → Env → Array Value → State → Outcome → State → Prop} (hpost : ∀ tb e args s v u, (limb_1_1.after args s (.returned v) u = true ∧ limb_1_2.after args s (.returned v) u = true ∧ True) → FrameEnd s (.returned v) u (Jvm.fieldLocs frame_1_writes args s ++ Jvm.arrayLocs frame_1_arrays args s ++ Jvm.staticLocs frame_1_statics s) 16 128 → Post tb e args s (.returned v) u) :
    ArmFor flags0 classFile x code maxLocals ret World_1 tables_1 room_1 Calls_1 rest_1 Pre_1 Post := by
  intro l hfl _ _ p e ha hc hk s m args below hf hA hF happ hP
  obtain ⟨hcalls, hrest, hpre⟩ := hP
  obtain ⟨-, -, -, hnamed, -, -, -, hat⟩ := (Spec.applies_iff hf).mp happ
  obtain ⟨hg, hn⟩ := and_e (Cond.before_iff.mp (show (Jvm.Cond.and given_1 narrow_1).before args s = true from hpre))
  obtain ⟨g1, g2⟩ := and_e hg
  obtain ⟨ga0, gb0⟩ := and_e g2
  obtain ⟨ga1, gb1⟩ := and_e gb0
  obtain ⟨ga2, gb2⟩ := and_e gb1
  obtain ⟨w0, w1, w2, w3, rfl⟩ : ∃ w0 w1 w2 w3 : Value, args = #[w0, w1, w2, w3] := by
    have hs : args.size = 4 := by simpa [Cond.value, given_1] using g1
    obtain ⟨L⟩ := args
    match L, hs with
    | [w0, w1, w2, w3], _ => exact ⟨w0, w1, w2, w3, rfl⟩
  have hw := fun d (hd : d ∈ tables_1) => atoms_spec (ws := Jvm.Cond.code x code maxLocals ret :: tables_1) hat d (List.mem_cons_of_mem _ hd)
  have hfit : Fit s := fun {y c} hc i hi => by
    obtain ⟨ha, rfl⟩ := Array.getElem?_eq_some_iff.mp hc
    have q := List.all_eq_true.mp ((Array.all_eq_true_iff_forall_mem.mp hF) _ (Array.getElem_mem ha)) i (List.mem_range.mpr hi)
    simpa [Array.getElem?_eq_getElem hi] using q
  obtain ⟨i0, ei0⟩ := is_v ga0
  obtain rfl : w0 = (.int i0) := Option.some.inj ei0
  obtain ⟨i1, ei1⟩ := is_v ga1
  obtain rfl : w1 = (.int i1) := Option.some.inj ei1
  obtain ⟨i2, ei2⟩ := is_v ga2
  obtain rfl : w2 = (.int i2) := Option.some.inj ei2
  obtain ⟨i3, ei3⟩ := is_v gb2
  obtain rfl : w3 = (.int i3) := Option.some.inj ei3
  obtain ⟨n, o, h1, h2, h3, _, L, rfl, ⟨rfl, N⟩, hq⟩ := rm0 l s _ hw tables_1 i0 i1 i2 i3  s.heap s.heap.size (Nat.le_refl _)  p e ha hc hk s m _ below hf ((Spec.applies_iff_loose hf).mp happ).1 ⟨rfl, State.Warmed39.refl s, rfl⟩ trivial
  refine ⟨n, _, h1, h2, h3, hpost _ _ _ _ _ _ ⟨Cond.after_iff.mpr rfl, Cond.after_iff.mpr (eq_i res_at (Term.int_eval (1)) rfl), trivial⟩ ⟨hq.1, hq.2.1, (hq.2.2.sift fun y hy => Or.inr (N y hy)).mono (by decide) (by decide)⟩⟩
theorem main_1_1 : Claimed_1_1 := comes_1 fun _ _ _ _ _ _ h hF => ⟨h.1, hF⟩
theorem main_1_2 : Claimed_1_2 := comes_1 fun _ _ _ _ _ _ h hF => ⟨h.2.1, hF⟩
end Jvm.Pilot.@@N@@
namespace Jvm.Pilot.@@N@@
open Jvm Jvm.ClassFile Sem Op Lib Jvm.Free Jvm.Stand Jvm.Pilot.@@N@@.Jvm.D
/-! MADE BY PROGRAM (witnessworld.py) out of the Statement's table words and the real class files: 11 classes; the members and pool entries that the words name. The judged class is class 1, her method 1. -/
namespace start1
open Jvm.ClassFile
def u (s : String) : CpInfo := .utf8 (stringToUtf16 s)
/-- a pool by its gaps: so many unusable entries, then the entry; so many at the end -/
def gap : Nat → List CpInfo → List CpInfo
  | 0, r => r
  | n + 1, r => .unusable :: gap n r
def poolList (es : List (Nat × CpInfo)) (last : Nat) : List CpInfo := es.foldr (fun e r => gap e.1 (e.2 :: r)) (gap last [])
def pool (es : List (Nat × CpInfo)) (last : Nat) : Array CpInfo := ⟨poolList es last⟩
def fileOf (pool : Array CpInfo) (this : Nat) (attrs : Array Attribute := #[]) (ms : Array MethodInfo := #[]) (fl : Nat := 33) (sup : Nat := 0) (ifs : Array Nat := #[]) (fds : Array FieldInfo := #[]) : ClassFile where
  minorVersion := 0
  majorVersion := 65
  constantPool := pool
  accessFlags := fl
  thisClass := this
  superClass := sup
  interfaces := ifs
  fields := fds
  methods := ms
  attributes := attrs
def plain (name : String) (sup : Option ClassId) : Class where
  name := name
  kind := .ordinary
  loader := none
  accessFlags := 33
  super := sup
  interfaces := #[]
  cf := none
  fields := #[]
  methods := #[]
  instanceTypes := #[]
  staticTypes := #[]
  resolved := #[]
  callSites := []
  init := .initialized
  statics := none
  mirror := none

def pool0 : Array CpInfo := pool [(5, u "<init>"), (0, u "()V"), (1, .class_ 10), (1, u "java/lang/Object")] 113

def k0c0 : Code := { maxStack := 0, maxLocals := 1, code := object_method_1_code, exceptionTable := #[], attributes := #[] }
def k0m0 : Method := { name := "<init>", desc := "()V", sig := { parameters := [], returnType := none }, accessFlags := 1, code := some k0c0 }
/-- java/lang/Object -/
def k0 : Class := { plain "java/lang/Object" none with
  accessFlags := 33
  interfaces := #[]
  cf := some (fileOf pool0 8 #[] #[{ accessFlags := 1, nameIndex := 5, descriptorIndex := 6, attributes := #[] }] 33 0 #[] #[])
  fields := #[]
  methods := #[k0m0]
  instanceTypes := #[]
  staticTypes := #[]
  resolved := Array.replicate 124 none
  statics := none }

def pool1 : Array CpInfo := pool [(2, .class_ 4), (1, u "java/lang/Object"), (0, u "<init>"), (0, u "()V"), (0, .integer 4194303), (0, .integer 1073741823), (0, .long 2147483647), (1, .class_ 12), (0, u "com/example/weir/RateMode$Burst"), (0, .methodref 11 14), (0, .nameAndType 5 15), (0, u "(DD)V"), (0, .methodref 11 17), (0, .nameAndType 18 19), (0, u "storedAfterIdle"), (0, u "(DDD)D"), (0, .methodref 21 22), (0, .class_ 23), (0, .nameAndType 24 25), (0, u "java/lang/Math"), (0, u "min"), (0, u "(JJ)J"), (0, .class_ 27), (0, u "com/example/weir/BurstStoredAfterIdlePinLaw"), (2, u "law"), (0, u "(IIII)Z")] 7

def k1m0 : Method := { name := "<init>", desc := "()V", sig := { parameters := [], returnType := none }, accessFlags := 1, code := none }
def k1c1 : Code := { maxStack := 7, maxLocals := 17, code := code, exceptionTable := #[], attributes := #[] }
def k1m1 : Method := { name := "law", desc := "(IIII)Z", sig := { parameters := [.int, .int, .int, .int], returnType := some .boolean }, accessFlags := 9, code := some k1c1 }
/-- com/example/weir/BurstStoredAfterIdlePinLaw -/
def k1 : Class := { plain "com/example/weir/BurstStoredAfterIdlePinLaw" (some 0) with
  accessFlags := 49
  interfaces := #[]
  cf := some (fileOf pool1 26 #[] #[{ accessFlags := 1, nameIndex := 5, descriptorIndex := 6, attributes := #[] }, { accessFlags := 9, nameIndex := 30, descriptorIndex := 31, attributes := #[] }] 49 2 #[] #[])
  fields := #[]
  methods := #[k1m0, k1m1]
  instanceTypes := #[]
  staticTypes := #[]
  resolved := Array.replicate 39 none
  statics := none }

def pool2 : Array CpInfo := pool [(1, .methodref 2 3), (0, .class_ 4), (0, .nameAndType 5 6), (0, u "java/lang/Object"), (0, u "<init>"), (0, u "()V"), (0, .class_ 8), (0, u "com/example/weir/RateMode$Burst"), (8, .class_ 19), (1, u "com/example/weir/RateMode"), (0, u "STRICT"), (0, u "Lcom/example/weir/RateMode;"), (17, .class_ 40), (0, u "com/example/weir/RateMode$WarmUp")] 3

def k2c0 : Code := { maxStack := 1, maxLocals := 1, code := prog_12_method_1_code, exceptionTable := #[], attributes := #[] }
def k2m0 : Method := { name := "<init>", desc := "()V", sig := { parameters := [], returnType := none }, accessFlags := 2, code := some k2c0 }
/-- com/example/weir/RateMode -/
def k2 : Class := { plain "com/example/weir/RateMode" (some 0) with
  accessFlags := 1056
  interfaces := #[]
  cf := some (fileOf pool2 17 #[.nestMembers #[39, 7]] #[{ accessFlags := 2, nameIndex := 5, descriptorIndex := 6, attributes := #[] }] 1056 2 #[] #[{ accessFlags := 24, nameIndex := 20, descriptorIndex := 21, attributes := #[] }])
  fields := #[{ name := "STRICT", type := (.object "com/example/weir/RateMode"), accessFlags := 24, slot := 0, constantValue := 0 }]
  methods := #[k2m0]
  instanceTypes := #[]
  staticTypes := #[(.object "com/example/weir/RateMode")]
  resolved := Array.replicate 44 none
  statics := none }

def pool3 : Array CpInfo := pool [(1, .methodref 2 3), (0, .class_ 4), (0, .nameAndType 5 6), (0, u "com/example/weir/RateMode"), (0, u "<init>"), (0, u "()V"), (0, .fieldref 8 9), (0, .class_ 10), (0, .nameAndType 11 12), (0, u "com/example/weir/RateMode$Burst"), (0, u "maxStoredPermits"), (0, u "D"), (0, .fieldref 8 14), (0, .nameAndType 15 12), (0, u "catchUpFactor"), (16, .methodref 33 34), (0, .class_ 35), (0, .nameAndType 36 37), (0, u "java/lang/Math"), (0, u "min"), (0, u "(DD)D"), (4, u "(DD)V"), (6, u "storedAfterIdle"), (0, u "(DDD)D")] 25

def k3c0 : Code := { maxStack := 3, maxLocals := 5, code := prog_13_method_1_code, exceptionTable := #[], attributes := #[] }
def k3m0 : Method := { name := "<init>", desc := "(DD)V", sig := { parameters := [.double, .double], returnType := none }, accessFlags := 0, code := some k3c0 }
def k3c1 : Code := { maxStack := 8, maxLocals := 7, code := prog_13_method_5_code, exceptionTable := #[], attributes := #[] }
def k3m1 : Method := { name := "storedAfterIdle", desc := "(DDD)D", sig := { parameters := [.double, .double, .double], returnType := some .double }, accessFlags := 0, code := some k3c1 }
/-- com/example/weir/RateMode$Burst -/
def k3 : Class := { plain "com/example/weir/RateMode$Burst" (some 2) with
  accessFlags := 48
  interfaces := #[]
  cf := some (fileOf pool3 8 #[.nestHost 2] #[{ accessFlags := 0, nameIndex := 5, descriptorIndex := 42, attributes := #[] }, { accessFlags := 0, nameIndex := 49, descriptorIndex := 50, attributes := #[] }] 48 2 #[] #[{ accessFlags := 18, nameIndex := 11, descriptorIndex := 12, attributes := #[] }, { accessFlags := 18, nameIndex := 15, descriptorIndex := 12, attributes := #[] }])
  fields := #[{ name := "maxStoredPermits", type := .double, accessFlags := 18, slot := 0, constantValue := 0 }, { name := "catchUpFactor", type := .double, accessFlags := 18, slot := 1, constantValue := 0 }]
  methods := #[k3m0, k3m1]
  instanceTypes := #[.double, .double]
  staticTypes := #[]
  resolved := Array.replicate 76 none
  statics := none }

def pool4 : Array CpInfo := pool [(1, .class_ 2), (0, u "java/lang/Math"), (1, .class_ 6), (1, u "java/lang/Object"), (0, u "<init>"), (0, u "()V"), (43, u "(DD)D"), (45, .class_ 100), (1, u "java/lang/Math$RandomNumberGeneratorHolder"), (20, u "(JJ)J"), (50, u "negativeZeroFloatBits"), (0, u "J"), (2, u "negativeZeroDoubleBits"), (24, u "min"), (43, u "$assertionsDisabled"), (0, u "Z"), (91, u "twoToTheDoubleScaleDown"), (0, u "D"), (4, u "twoToTheDoubleScaleUp"), (9, u "E"), (3, u "PI"), (2, u "TAU"), (2, u "DEGREES_TO_RADIANS"), (0, u "RADIANS_TO_DEGREES")] 94

def k4m0 : Method := { name := "<init>", desc := "()V", sig := { parameters := [], returnType := none }, accessFlags := 2, code := none }
def k4c1 : Code := { maxStack := 4, maxLocals := 4, code := jdk_29_method_70_code, exceptionTable := #[], attributes := #[] }
def k4m1 : Method := { name := "min", desc := "(JJ)J", sig := { parameters := [.long, .long], returnType := some .long }, accessFlags := 9, code := some k4c1 }
def k4c2 : Code := { maxStack := 4, maxLocals := 4, code := jdk_29_method_72_code, exceptionTable := #[], attributes := #[] }
def k4m2 : Method := { name := "min", desc := "(DD)D", sig := { parameters := [.double, .double], returnType := some .double }, accessFlags := 9, code := some k4c2 }
/-- java/lang/Math -/
def k4 : Class := { plain "java/lang/Math" (some 0) with
  accessFlags := 49
  interfaces := #[]
  cf := some (fileOf pool4 1 #[.nestMembers #[98]] #[{ accessFlags := 2, nameIndex := 7, descriptorIndex := 8, attributes := #[] }, { accessFlags := 9, nameIndex := 201, descriptorIndex := 121, attributes := #[] }, { accessFlags := 9, nameIndex := 201, descriptorIndex := 52, attributes := #[] }] 49 4 #[] #[{ accessFlags := 25, nameIndex := 354, descriptorIndex := 339, attributes := #[] }, { accessFlags := 25, nameIndex := 358, descriptorIndex := 339, attributes := #[] }, { accessFlags := 25, nameIndex := 361, descriptorIndex := 339, attributes := #[] }, { accessFlags := 26, nameIndex := 364, descriptorIndex := 339, attributes := #[] }, { accessFlags := 26, nameIndex := 365, descriptorIndex := 339, attributes := #[] }, { accessFlags := 26, nameIndex := 172, descriptorIndex := 173, attributes := #[] }, { accessFlags := 26, nameIndex := 176, descriptorIndex := 173, attributes := #[] }, { accessFlags := 8, nameIndex := 344, descriptorIndex := 339, attributes := #[] }, { accessFlags := 8, nameIndex := 338, descriptorIndex := 339, attributes := #[] }, { accessFlags := 4120, nameIndex := 245, descriptorIndex := 246, attributes := #[] }])
  fields := #[{ name := "E", type := .double, accessFlags := 25, slot := 0, constantValue := 0 }, { name := "PI", type := .double, accessFlags := 25, slot := 1, constantValue := 0 }, { name := "TAU", type := .double, accessFlags := 25, slot := 2, constantValue := 0 }, { name := "DEGREES_TO_RADIANS", type := .double, accessFlags := 26, slot := 3, constantValue := 0 }, { name := "RADIANS_TO_DEGREES", type := .double, accessFlags := 26, slot := 4, constantValue := 0 }, { name := "negativeZeroFloatBits", type := .long, accessFlags := 26, slot := 5, constantValue := 0 }, { name := "negativeZeroDoubleBits", type := .long, accessFlags := 26, slot := 6, constantValue := 0 }, { name := "twoToTheDoubleScaleUp", type := .double, accessFlags := 8, slot := 7, constantValue := 0 }, { name := "twoToTheDoubleScaleDown", type := .double, accessFlags := 8, slot := 8, constantValue := 0 }, { name := "$assertionsDisabled", type := .boolean, accessFlags := 4120, slot := 9, constantValue := 0 }]
  methods := #[k4m0, k4m1, k4m2]
  instanceTypes := #[]
  staticTypes := #[.double, .double, .double, .double, .double, .long, .long, .double, .double, .boolean]
  resolved := Array.replicate 460 none
  statics := none }

def pool5 : Array CpInfo := pool [(1, u "java/lang/Cloneable"), (0, .class_ 1), (0, u "java/lang/Object"), (0, .class_ 3)] 3

/-- java/lang/Cloneable -/
def k5 : Class := { plain "java/lang/Cloneable" (some 0) with
  accessFlags := 1537
  interfaces := #[]
  cf := some (fileOf pool5 2 #[] #[] 1537 4 #[] #[])
  fields := #[]
  methods := #[]
  instanceTypes := #[]
  staticTypes := #[]
  resolved := Array.replicate 8 none
  statics := none }

def pool6 : Array CpInfo := pool [(1, u "java/io/Serializable"), (0, .class_ 1), (0, u "java/lang/Object"), (0, .class_ 3)] 3

/-- java/io/Serializable -/
def k6 : Class := { plain "java/io/Serializable" (some 0) with
  accessFlags := 1537
  interfaces := #[]
  cf := some (fileOf pool6 2 #[] #[] 1537 4 #[] #[])
  fields := #[]
  methods := #[]
  instanceTypes := #[]
  staticTypes := #[]
  resolved := Array.replicate 8 none
  statics := none }

/-- the primitive byte -/
def k7 : Class := { plain "byte" none with kind := .primitive 'B', accessFlags := 0x411 }
/-- [B -/
def k8 : Class := { plain "[B" (some 0) with kind := .array 7 .byte, interfaces := #[5, 6], accessFlags := 1041 }

/-- the primitive int -/
def k9 : Class := { plain "int" none with kind := .primitive 'I', accessFlags := 0x411 }
/-- [I -/
def k10 : Class := { plain "[I" (some 0) with kind := .array 9 .int, interfaces := #[5, 6], accessFlags := 1041 }

def heap : Heap := #[]
def classes : Array Class := #[k0, k1, k2, k3, k4, k5, k6, k7, k8, k9, k10]
def interned : List (Array UInt16 × Addr) := []
def slotsUsed : Nat := 0
def theMethod : MethodId := ⟨1, 1⟩
def args0 : Array Value := #[.int 5, .int 3, .int 7, .int 9]
def aboutOver (below : List Frame) : State where
  vm := { classes := classes, interned := interned.toArray }
  heap := heap
  slotsUsed := slotsUsed
  threads := #[{ frames := .invoking theMethod args0 :: below }]
def below0 : List Frame := [.native { method := ⟨0, 0⟩, args := #[] }]
def about1 : State := aboutOver below0
def p0 : Program := .bare "" "" ""
def e0 : Env := launch0.env 0 0 0
theorem w_frames : about1.frames = Frame.invoking theMethod args0 :: below0 := rfl
set_option maxRecDepth 65536 in
theorem w_args : argsFit about1.vm theMethod args0 = true := by decide +kernel
set_option maxRecDepth 65536 in
theorem w_heap : heapFits about1 = true := by decide +kernel
set_option maxRecDepth 65536 in
theorem w_runnable : about1.curStatus? = some .runnable := by decide +kernel
set_option maxRecDepth 65536 in
theorem w_alone : about1.alone = true := by decide +kernel
set_option maxRecDepth 65536 in
theorem w_named : about1.methodNamed? x = some theMethod := by decide +kernel
set_option maxRecDepth 65536 in
theorem w_hears : about1.hears theMethod below0 = true := by decide +kernel
set_option maxRecDepth 65536 in
theorem w_ripe : about1.ripe theMethod args0 below0 = true := by decide +kernel
theorem w_running : about1.status = .running := rfl
set_option maxRecDepth 65536 in
theorem w_room : about1.hasRoom e0.platform room_1 = true :=
  launch0.hasRoom_least _ room_1 (by decide +kernel) (by decide +kernel) (by decide +kernel) (by decide +kernel) (by decide +kernel) (by decide +kernel)
theorem allAtoms_all (ts : List Jvm.Cond) (a : Array Jvm.Value) (st : Jvm.State) : (allAtoms ts).before a st = ts.all (fun c => c.before a st) := by
  induction ts with
  | nil => rfl
  | cons c t ih =>
    show (Jvm.Cond.and c (allAtoms t)).before a st = _
    rw [Jvm.Cond.before_and, ih, List.all_cons]
def words1 : List Jvm.Cond := Jvm.Cond.code x code maxLocals ret :: tables_1
/-- a 'code' word, met by the world's own term for the bytes: nothing is compared byte by byte -/
theorem code_word {y : MethodName} {bytes : ByteArray} {mx : Nat} {rt : Option FieldType} {a : Array Value} {s : State} {m : MethodId} {meth : Method} {c : Code} (h1 : s.methodNamed? y = some m) (h2 : s.vm.method? m = some meth) (h3 : meth.code = some c) (h4 : c.code = bytes)
    (h5 : (c.maxLocals == mx && c.exceptionTable.isEmpty && decide (c.maxStack ≤ mostOperands) && decide (meth.sig.returnType = rt) && !meth.locks && decide (parseMethodDescriptor y.desc = some meth.sig)) = true) : (Jvm.Cond.code y bytes mx rt).before a s = true := by
  simp only [Bool.and_eq_true, beq_iff_eq, Bool.not_eq_true', decide_eq_true_eq] at h5
  obtain ⟨⟨⟨⟨⟨g1, g2⟩, g3⟩, g4⟩, g5⟩, g6⟩ := h5
  simp [Cond.before, Cond.holds, Cond.value, h1, h2, h3, h4, g1, g2, g3, g4, g5, g6]
def isCode : Jvm.Cond → Bool
  | .code _ _ _ _ => true
  | _ => false
theorem all_split {L : List Jvm.Cond} {P : Jvm.Cond → Bool} (h1 : L.all (fun c => isCode c || P c) = true) (h2 : ∀ c ∈ L.filter isCode, P c = true) : L.all P = true := by
  refine List.all_eq_true.mpr fun c hc => ?_
  have h := List.all_eq_true.mp h1 c hc
  rcases Bool.eq_false_or_eq_true (isCode c) with hi | hi
  · exact h2 c (List.mem_filter.mpr ⟨hc, hi⟩)
  · simpa [hi] using h
set_option maxRecDepth 65536 in
theorem w_c0 : (Jvm.Cond.code x code maxLocals ret).before args0 about1 = true := code_word (m := ⟨1, 1⟩) (meth := k1m1) (c := k1c1) (by decide +kernel) rfl rfl rfl (by decide +kernel)
set_option maxRecDepth 65536 in
theorem w_c1 : (Jvm.Cond.code ({ cls := "com/example/weir/RateMode$Burst", name := "<init>", desc := "(DD)V" } : Jvm.MethodName) prog_13_method_1_code (5 : Nat) (Option.none : Option Jvm.ClassFile.FieldType)).before args0 about1 = true := code_word (m := ⟨3, 0⟩) (meth := k3m0) (c := k3c0) (by decide +kernel) rfl rfl rfl (by decide +kernel)
set_option maxRecDepth 65536 in
theorem w_c2 : (Jvm.Cond.code ({ cls := "com/example/weir/RateMode", name := "<init>", desc := "()V" } : Jvm.MethodName) prog_12_method_1_code (1 : Nat) (Option.none : Option Jvm.ClassFile.FieldType)).before args0 about1 = true := code_word (m := ⟨2, 0⟩) (meth := k2m0) (c := k2c0) (by decide +kernel) rfl rfl rfl (by decide +kernel)
set_option maxRecDepth 65536 in
theorem w_c3 : (Jvm.Cond.code ({ cls := "java/lang/Object", name := "<init>", desc := "()V" } : Jvm.MethodName) object_method_1_code (1 : Nat) (Option.none : Option Jvm.ClassFile.FieldType)).before args0 about1 = true := code_word (m := ⟨0, 0⟩) (meth := k0m0) (c := k0c0) (by decide +kernel) rfl rfl rfl (by decide +kernel)
set_option maxRecDepth 65536 in
theorem w_c4 : (Jvm.Cond.code ({ cls := "com/example/weir/RateMode$Burst", name := "storedAfterIdle", desc := "(DDD)D" } : Jvm.MethodName) prog_13_method_5_code (7 : Nat) (Option.some Jvm.ClassFile.FieldType.double)).before args0 about1 = true := code_word (m := ⟨3, 1⟩) (meth := k3m1) (c := k3c1) (by decide +kernel) rfl rfl rfl (by decide +kernel)
set_option maxRecDepth 65536 in
theorem w_c5 : (Jvm.Cond.code ({ cls := "java/lang/Math", name := "min", desc := "(DD)D" } : Jvm.MethodName) jdk_29_method_72_code (4 : Nat) (Option.some Jvm.ClassFile.FieldType.double)).before args0 about1 = true := code_word (m := ⟨4, 2⟩) (meth := k4m2) (c := k4c2) (by decide +kernel) rfl rfl rfl (by decide +kernel)
set_option maxRecDepth 65536 in
theorem w_c6 : (Jvm.Cond.code ({ cls := "java/lang/Math", name := "min", desc := "(JJ)J" } : Jvm.MethodName) jdk_29_method_70_code (4 : Nat) (Option.some Jvm.ClassFile.FieldType.long)).before args0 about1 = true := code_word (m := ⟨4, 1⟩) (meth := k4m1) (c := k4c1) (by decide +kernel) rfl rfl rfl (by decide +kernel)
def codes1 : List Jvm.Cond := [Jvm.Cond.code x code maxLocals ret, Jvm.Cond.code ({ cls := "com/example/weir/RateMode$Burst", name := "<init>", desc := "(DD)V" } : Jvm.MethodName) prog_13_method_1_code (5 : Nat) (Option.none : Option Jvm.ClassFile.FieldType), Jvm.Cond.code ({ cls := "com/example/weir/RateMode", name := "<init>", desc := "()V" } : Jvm.MethodName) prog_12_method_1_code (1 : Nat) (Option.none : Option Jvm.ClassFile.FieldType), Jvm.Cond.code ({ cls := "java/lang/Object", name := "<init>", desc := "()V" } : Jvm.MethodName) object_method_1_code (1 : Nat) (Option.none : Option Jvm.ClassFile.FieldType), Jvm.Cond.code ({ cls := "com/example/weir/RateMode$Burst", name := "storedAfterIdle", desc := "(DDD)D" } : Jvm.MethodName) prog_13_method_5_code (7 : Nat) (Option.some Jvm.ClassFile.FieldType.double), Jvm.Cond.code ({ cls := "java/lang/Math", name := "min", desc := "(DD)D" } : Jvm.MethodName) jdk_29_method_72_code (4 : Nat) (Option.some Jvm.ClassFile.FieldType.double), Jvm.Cond.code ({ cls := "java/lang/Math", name := "min", desc := "(JJ)J" } : Jvm.MethodName) jdk_29_method_70_code (4 : Nat) (Option.some Jvm.ClassFile.FieldType.long)]
set_option maxRecDepth 65536 in
theorem codes_eq : words1.filter isCode = codes1 := rfl
theorem w_codes : ∀ c ∈ words1.filter isCode, c.before args0 about1 = true := by
  rw [codes_eq]
  intro c hc
  simp only [codes1, List.mem_cons, List.not_mem_nil, or_false] at hc
  rcases hc with rfl | rfl | rfl | rfl | rfl | rfl | rfl
  · exact w_c0
  · exact w_c1
  · exact w_c2
  · exact w_c3
  · exact w_c4
  · exact w_c5
  · exact w_c6
set_option maxRecDepth 65536 in
theorem w_t1 : (words1.take 24).all (fun c => isCode c || c.before args0 about1) = true := by decide +kernel
set_option maxRecDepth 65536 in
theorem w_t2 : (words1.drop 24).all (fun c => isCode c || c.before args0 about1) = true := by decide +kernel
theorem w_tables : (allAtoms (Jvm.Cond.code x code maxLocals ret :: tables_1)).before args0 about1 = true := by
  rw [allAtoms_all]
  show words1.all (fun c => c.before args0 about1) = true
  refine all_split ?_ w_codes
  rw [← List.take_append_drop 24 words1, List.all_append, w_t1, w_t2]
  rfl
set_option maxRecDepth 65536 in
theorem w_case : (Jvm.Cond.and given_1 narrow_1).before args0 about1 = true := by decide +kernel
theorem w_applies : (headSpec (Jvm.Cond.code x code maxLocals ret :: tables_1) room_1).applies x e0.platform about1 = true :=
  (Spec.applies_iff w_frames).mpr ⟨w_running, w_runnable, w_alone, w_named, w_hears, w_ripe, w_room, w_tables⟩
theorem atStart : AtStart classFile x code maxLocals ret World_1 tables_1 room_1 Calls_1 rest_1 Pre_1 launch0 p0 e0 about1 theMethod args0 below0 :=
  ⟨lists_1, trivial, launch0.admits_env _ _ _, launch0.least_env, fairChoices_fair.cas, fairChoices_fair.clock, w_frames, w_args, w_heap, w_applies, trivial, trivial, w_case⟩
end start1
theorem witness_1 : WitnessClaimed_1 := ⟨start1.p0, start1.e0, start1.about1, start1.theMethod, start1.args0, start1.below0, start1.atStart⟩
end Jvm.Pilot.@@N@@
