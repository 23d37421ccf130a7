import JvmDerived
import JvmDerived.Pilot.@@N@@Statement
import JvmDerived.Pilot.@@N@@Code
set_option linter.unusedVariables false
set_option linter.unusedSimpArgs false
namespace Jvm.RoadKit
open Sem ClassFile Op Lib Jvm.Stand Jvm.Free Jvm.LawKit
section New
variable {p : Program} {l : Launch} {e : Env} {R : Room} {s : State} {m : MethodId} {args : Array Value} {below : List Frame} {meth : Method} {c : Code} {T : State} {locs : List Loc} {cells slots : Nat}
theorem retI (X : Stand p l e R s m args below meth c T locs cells slots) (hx : p.tables.exec = Jvm.exec) {pc : Nat} {Ls : Array Slot} {z : Int32} {rest : List Value} (hret : meth.sig.returnType = some .int) (hd : decode c.code pc = .ok (.ireturn, 1)) {fs : List Frame}
    (hl : ∀ (f : JFrame) (acts : List Action), f.method = m → f.locked = none → f.entered = [] → (doReturn e (T.setTop f) acts (some (.int z))).1 = T.setFrames fs) : Steps p.tables e below (T.setTop (mkF m pc Ls (.int z :: rest))) (T.setFrames fs) := by
  have hm' : T.vm.method? m = some meth := X.method'
  have hn : narrow .int (.int z) = .int z := rfl
  show Steps p.tables e below (T.setTop { method := m, pc := pc, locals := Ls, stack := _ :: rest, locked := none }) _
  jvm_step X.here [X.here.top, hx, hd, hm', hret, hn]
  first | (intro acts; rw [hl _ acts rfl rfl rfl]) | rw [hl _ _ rfl rfl rfl]
  exact Steps.refl _
end New
end Jvm.RoadKit
namespace Jvm.Pilot.@@N@@
open Jvm Jvm.ClassFile Sem Op Lib Jvm.Free Jvm.Stand Jvm.LawKit Jvm.RoadKit Bundle Jvm.Pilot.@@N@@.Jvm.D
def Rch (tb : Tables) (e : Env) (below : List Frame) (P : State → Prop) (st : State) : Prop := ∃ t, Steps tb e below st t ∧ P t
theorem Rch.go {tb : Tables} {e : Env} {below : List Frame} {P : State → Prop} {st st' : State} (h : ∀ t, Steps tb e below st' t → Steps tb e below st t) (k : Rch tb e below P st') : Rch tb e below P st := by
  obtain ⟨t, h1, h2⟩ := k
  exact ⟨t, h t h1, h2⟩
theorem own_getR {p : Program} {l : Launch} {e : Env} {R : Room} {s : State} {m : MethodId} {args : Array Value} {below : List Frame} {meth : Method} {c : Code} {T : State} {locs : List Loc} {cells slots : Nat} {Z : State} {a0 : Array Value} {h : Heap}
    (X : Stand p l e R s m args below meth c T locs cells slots) (hx : p.tables.exec = Jvm.exec) (hZ : Z.Warmed39 s.vm) {own O n d : String} {index : Nat} (hown : s.vm.findClass own = some m.cls) (w : (Cond.fieldRef own index O n d).before a0 Z = true) (eT : T.heap = h) {a : Addr} {v : Value} (F : Fld Z h a O n d v)
    {g : JFrame} (hg : g.method = m) {rest : List Value} (hs : g.stack = .ref a :: rest) (hd : decode c.code g.pc = .ok (.getfield index, 3)) :
    ∃ T', Stand p l e R s m args below meth c T' locs cells slots ∧ T'.heap = h ∧ ∀ target, Steps p.tables e below (T'.setTop { g with pc := g.pc + 3, stack := v :: rest }) target → Steps p.tables e below (T.setTop g) target := by
  obtain ⟨cell, cf, k, i, f, h1, h2, h3, h4, -, -, h7⟩ := F
  have hT : Z.Warmed39 T.vm := wtrans hZ X.warmed
  have w' := Cond.fieldRef_warmed39 hT w
  have ho : (Z.setVm T.vm).vm.findClass own = some m.cls := (X.warmed.alike.findClass own _).trans hown
  obtain ⟨cf', k', i', f', g1, g2⟩ := Cond.fieldRef_spec ho w'
  obtain ⟨k'', hi, -⟩ := State.fieldFound?_setVm (s := Z) hT.alike h2
  cases g1.symm.trans hi
  refine ⟨T, X, eT, fun target hrest => ?_⟩
  subst hg
  have hc : T.heap[a]? = some cell := by rw [eT]; exact h1
  have g2' : T.vm.fieldReady g.method.cls index cf f := g2
  jvm_step X.here [hx, hd, getfield.wp_ready (e := e) (s := T) (f := g) X.here.top g2' h3 hs hc h4 h7]
  exact hrest
theorem own_selP {Z s : State} {a0 args args' : Array Value} {y : MethodName} {n : Nat} (hZ : Z.Warmed39 s.vm) (wi : (Cond.instantiable y.cls n).before a0 Z = true) (wp : (Cond.privateMethod y).before a0 Z = true) (wm : (Cond.instanceMethod y).before a0 Z = true) (hy : y.cls ≠ "java/lang/invoke/MethodHandle" ∧ y.cls ≠ "java/lang/invoke/VarHandle") : (Cond.selects y.cls y y).before args' s = true := by
  obtain ⟨c, k, h1, h2, -, h3, -⟩ := Cond.instantiable_spec (show (Cond.instantiable y.cls n).before args' s = true from mvT hZ wi)
  exact Jvm.Stand.selects_self_of_private h1 h2 (by simp only [Bool.or_eq_false_iff] at h3; exact h3.1) (Cond.privateMethod_at (mvP (args := args') hZ wp)) (mvT hZ wm) hy
theorem Rch.mk {tb : Tables} {e : Env} {below : List Frame} {P : State → Prop} {st t : State} (h : Steps tb e below st t) (k : P t) : Rch tb e below P st := ⟨t, h, k⟩
theorem ow0 {a0 : Array Value} {Z : State} (hw : ∀ d ∈ tables_1, d.before a0 Z = true) : (Jvm.Cond.constant "com/example/keepwire/keepwire/ResponseHeadTrimSpacesPinLaw" (7 : Nat) (2147483647 : Int32)).before a0 Z = true := hw _ (List.mem_of_getElem? (i := 0) rfl)
theorem ow1 {a0 : Array Value} {Z : State} (hw : ∀ d ∈ tables_1, d.before a0 Z = true) : (Jvm.Cond.arrayClass Jvm.ClassFile.FieldType.char).before a0 Z = true := hw _ (List.mem_of_getElem? (i := 1) rfl)
theorem ow2 {a0 : Array Value} {Z : State} (hw : ∀ d ∈ tables_1, d.before a0 Z = true) : (Jvm.Cond.methodLink "com/example/keepwire/keepwire/ResponseHeadTrimSpacesPinLaw" (8 : Nat) ({ cls := "com/example/keepwire/keepwire/ResponseHeadTrimSpacesPinLaw", name := "pick", desc := "(I)C" } : Jvm.MethodName)).before a0 Z = true := hw _ (List.mem_of_getElem? (i := 2) rfl)
theorem ow3 {a0 : Array Value} {Z : State} (hw : ∀ d ∈ tables_1, d.before a0 Z = true) : (Jvm.Cond.static ({ cls := "com/example/keepwire/keepwire/ResponseHeadTrimSpacesPinLaw", name := "pick", desc := "(I)C" } : Jvm.MethodName)).before a0 Z = true := hw _ (List.mem_of_getElem? (i := 3) rfl)
theorem ow4 {a0 : Array Value} {Z : State} (hw : ∀ d ∈ tables_1, d.before a0 Z = true) : (Jvm.Cond.initialized "com/example/keepwire/keepwire/ResponseHeadTrimSpacesPinLaw").before a0 Z = true := hw _ (List.mem_of_getElem? (i := 4) rfl)
theorem ow5 {a0 : Array Value} {Z : State} (hw : ∀ d ∈ tables_1, d.before a0 Z = true) : (Jvm.Cond.code ({ cls := "com/example/keepwire/keepwire/ResponseHeadTrimSpacesPinLaw", name := "pick", desc := "(I)C" } : Jvm.MethodName) method_5_code (2 : Nat) (Option.some Jvm.ClassFile.FieldType.char)).before a0 Z = true := hw _ (List.mem_of_getElem? (i := 5) rfl)
theorem ow6 {a0 : Array Value} {Z : State} (hw : ∀ d ∈ tables_1, d.before a0 Z = true) : (Jvm.Cond.methodLink "com/example/keepwire/keepwire/ResponseHeadTrimSpacesPinLaw" (14 : Nat) ({ cls := "com/example/keepwire/keepwire/ResponseHeadTrimSpacesPinLaw", name := "make", desc := "(I[C)Ljava/lang/String;" } : Jvm.MethodName)).before a0 Z = true := hw _ (List.mem_of_getElem? (i := 6) rfl)
theorem ow7 {a0 : Array Value} {Z : State} (hw : ∀ d ∈ tables_1, d.before a0 Z = true) : (Jvm.Cond.static ({ cls := "com/example/keepwire/keepwire/ResponseHeadTrimSpacesPinLaw", name := "make", desc := "(I[C)Ljava/lang/String;" } : Jvm.MethodName)).before a0 Z = true := hw _ (List.mem_of_getElem? (i := 7) rfl)
theorem ow8 {a0 : Array Value} {Z : State} (hw : ∀ d ∈ tables_1, d.before a0 Z = true) : (Jvm.Cond.code ({ cls := "com/example/keepwire/keepwire/ResponseHeadTrimSpacesPinLaw", name := "make", desc := "(I[C)Ljava/lang/String;" } : Jvm.MethodName) method_6_code (2 : Nat) (Option.some (Jvm.ClassFile.FieldType.object "java/lang/String"))).before a0 Z = true := hw _ (List.mem_of_getElem? (i := 8) rfl)
theorem ow9 {a0 : Array Value} {Z : State} (hw : ∀ d ∈ tables_1, d.before a0 Z = true) : (Jvm.Cond.classLink "com/example/keepwire/keepwire/ResponseHeadTrimSpacesPinLaw" (29 : Nat) "java/lang/String").before a0 Z = true := hw _ (List.mem_of_getElem? (i := 9) rfl)
theorem ow10 {a0 : Array Value} {Z : State} (hw : ∀ d ∈ tables_1, d.before a0 Z = true) : (Jvm.Cond.instantiable "java/lang/String" (4 : Nat)).before a0 Z = true := hw _ (List.mem_of_getElem? (i := 10) rfl)
theorem ow11 {a0 : Array Value} {Z : State} (hw : ∀ d ∈ tables_1, d.before a0 Z = true) : (Jvm.Cond.initialized "java/lang/String").before a0 Z = true := hw _ (List.mem_of_getElem? (i := 11) rfl)
theorem ow12 {a0 : Array Value} {Z : State} (hw : ∀ d ∈ tables_1, d.before a0 Z = true) : (Jvm.Cond.methodLink "com/example/keepwire/keepwire/ResponseHeadTrimSpacesPinLaw" (41 : Nat) ({ cls := "java/lang/String", name := "<init>", desc := "([C)V" } : Jvm.MethodName)).before a0 Z = true := hw _ (List.mem_of_getElem? (i := 12) rfl)
theorem ow13 {a0 : Array Value} {Z : State} (hw : ∀ d ∈ tables_1, d.before a0 Z = true) : (Jvm.Cond.instanceMethod ({ cls := "java/lang/String", name := "<init>", desc := "([C)V" } : Jvm.MethodName)).before a0 Z = true := hw _ (List.mem_of_getElem? (i := 13) rfl)
theorem ow14 {a0 : Array Value} {Z : State} (hw : ∀ d ∈ tables_1, d.before a0 Z = true) : (Jvm.Cond.code ({ cls := "java/lang/String", name := "<init>", desc := "([C)V" } : Jvm.MethodName) jdk_42_method_3_code (2 : Nat) (Option.none : Option Jvm.ClassFile.FieldType)).before a0 Z = true := hw _ (List.mem_of_getElem? (i := 14) rfl)
theorem ow15 {a0 : Array Value} {Z : State} (hw : ∀ d ∈ tables_1, d.before a0 Z = true) : (Jvm.Cond.methodLink "java/lang/String" (27 : Nat) ({ cls := "java/lang/String", name := "<init>", desc := "([CIILjava/lang/Void;)V" } : Jvm.MethodName)).before a0 Z = true := hw _ (List.mem_of_getElem? (i := 15) rfl)
theorem ow16 {a0 : Array Value} {Z : State} (hw : ∀ d ∈ tables_1, d.before a0 Z = true) : (Jvm.Cond.instanceMethod ({ cls := "java/lang/String", name := "<init>", desc := "([CIILjava/lang/Void;)V" } : Jvm.MethodName)).before a0 Z = true := hw _ (List.mem_of_getElem? (i := 16) rfl)
theorem ow18 {a0 : Array Value} {Z : State} (hw : ∀ d ∈ tables_1, d.before a0 Z = true) : (Jvm.Cond.code ({ cls := "java/lang/String", name := "<init>", desc := "([CIILjava/lang/Void;)V" } : Jvm.MethodName) jdk_42_method_149_code (6 : Nat) (Option.none : Option Jvm.ClassFile.FieldType)).before a0 Z = true := hw _ (List.mem_of_getElem? (i := 18) rfl)
theorem ow19 {a0 : Array Value} {Z : State} (hw : ∀ d ∈ tables_1, d.before a0 Z = true) : (Jvm.Cond.methodLink "java/lang/String" (1 : Nat) ({ cls := "java/lang/Object", name := "<init>", desc := "()V" } : Jvm.MethodName)).before a0 Z = true := hw _ (List.mem_of_getElem? (i := 19) rfl)
theorem ow20 {a0 : Array Value} {Z : State} (hw : ∀ d ∈ tables_1, d.before a0 Z = true) : (Jvm.Cond.instanceMethod ({ cls := "java/lang/Object", name := "<init>", desc := "()V" } : Jvm.MethodName)).before a0 Z = true := hw _ (List.mem_of_getElem? (i := 20) rfl)
theorem ow21 {a0 : Array Value} {Z : State} (hw : ∀ d ∈ tables_1, d.before a0 Z = true) : (Jvm.Cond.code ({ cls := "java/lang/Object", name := "<init>", desc := "()V" } : Jvm.MethodName) object_method_1_code (1 : Nat) (Option.none : Option Jvm.ClassFile.FieldType)).before a0 Z = true := hw _ (List.mem_of_getElem? (i := 21) rfl)
theorem ow22 {a0 : Array Value} {Z : State} (hw : ∀ d ∈ tables_1, d.before a0 Z = true) : (Jvm.Cond.stringLink "java/lang/String" (7 : Nat) "").before a0 Z = true := hw _ (List.mem_of_getElem? (i := 22) rfl)
theorem ow23 {a0 : Array Value} {Z : State} (hw : ∀ d ∈ tables_1, d.before a0 Z = true) : (Jvm.Cond.arrayClass Jvm.ClassFile.FieldType.byte).before a0 Z = true := hw _ (List.mem_of_getElem? (i := 23) rfl)
theorem ow24 {a0 : Array Value} {Z : State} (hw : ∀ d ∈ tables_1, d.before a0 Z = true) : (Jvm.Cond.laysFinal "java/lang/String" "java/lang/String" "value" "[B").before a0 Z = true := hw _ (List.mem_of_getElem? (i := 24) rfl)
theorem ow25 {a0 : Array Value} {Z : State} (hw : ∀ d ∈ tables_1, d.before a0 Z = true) : (Jvm.Cond.laysFinal "java/lang/String" "java/lang/String" "coder" "B").before a0 Z = true := hw _ (List.mem_of_getElem? (i := 25) rfl)
theorem ow26 {a0 : Array Value} {Z : State} (hw : ∀ d ∈ tables_1, d.before a0 Z = true) : (Jvm.Cond.soleField "java/lang/String" "value").before a0 Z = true := hw _ (List.mem_of_getElem? (i := 26) rfl)
theorem ow27 {a0 : Array Value} {Z : State} (hw : ∀ d ∈ tables_1, d.before a0 Z = true) : (Jvm.Cond.soleField "java/lang/String" "coder").before a0 Z = true := hw _ (List.mem_of_getElem? (i := 27) rfl)
theorem ow28 {a0 : Array Value} {Z : State} (hw : ∀ d ∈ tables_1, d.before a0 Z = true) : (Jvm.Cond.fieldLink "java/lang/String" (9 : Nat) "java/lang/String" "value" "[B").before a0 Z = true := hw _ (List.mem_of_getElem? (i := 28) rfl)
theorem ow29 {a0 : Array Value} {Z : State} (hw : ∀ d ∈ tables_1, d.before a0 Z = true) : (Jvm.Cond.fieldLink "java/lang/String" (15 : Nat) "java/lang/String" "coder" "B").before a0 Z = true := hw _ (List.mem_of_getElem? (i := 29) rfl)
theorem ow30 {a0 : Array Value} {Z : State} (hw : ∀ d ∈ tables_1, d.before a0 Z = true) : (Jvm.Cond.methodLink "com/example/keepwire/keepwire/ResponseHeadTrimSpacesPinLaw" (18 : Nat) ({ cls := "com/example/keepwire/keepwire/ResponseHead", name := "trimSpaces", desc := "(Ljava/lang/String;)Ljava/lang/String;" } : Jvm.MethodName)).before a0 Z = true := hw _ (List.mem_of_getElem? (i := 30) rfl)
theorem ow31 {a0 : Array Value} {Z : State} (hw : ∀ d ∈ tables_1, d.before a0 Z = true) : (Jvm.Cond.static ({ cls := "com/example/keepwire/keepwire/ResponseHead", name := "trimSpaces", desc := "(Ljava/lang/String;)Ljava/lang/String;" } : Jvm.MethodName)).before a0 Z = true := hw _ (List.mem_of_getElem? (i := 31) rfl)
theorem ow32 {a0 : Array Value} {Z : State} (hw : ∀ d ∈ tables_1, d.before a0 Z = true) : (Jvm.Cond.initialized "com/example/keepwire/keepwire/ResponseHead").before a0 Z = true := hw _ (List.mem_of_getElem? (i := 32) rfl)
theorem ow33 {a0 : Array Value} {Z : State} (hw : ∀ d ∈ tables_1, d.before a0 Z = true) : (Jvm.Cond.code ({ cls := "com/example/keepwire/keepwire/ResponseHead", name := "trimSpaces", desc := "(Ljava/lang/String;)Ljava/lang/String;" } : Jvm.MethodName) prog_30_method_20_code (3 : Nat) (Option.some (Jvm.ClassFile.FieldType.object "java/lang/String"))).before a0 Z = true := hw _ (List.mem_of_getElem? (i := 33) rfl)
theorem ow34 {a0 : Array Value} {Z : State} (hw : ∀ d ∈ tables_1, d.before a0 Z = true) : (Jvm.Cond.methodLink "com/example/keepwire/keepwire/ResponseHead" (34 : Nat) ({ cls := "java/lang/String", name := "length", desc := "()I" } : Jvm.MethodName)).before a0 Z = true := hw _ (List.mem_of_getElem? (i := 34) rfl)
theorem ow35 {a0 : Array Value} {Z : State} (hw : ∀ d ∈ tables_1, d.before a0 Z = true) : (Jvm.Cond.declares ({ cls := "java/lang/String", name := "length", desc := "()I" } : Jvm.MethodName)).before a0 Z = true := hw _ (List.mem_of_getElem? (i := 35) rfl)
theorem ow36 {a0 : Array Value} {Z : State} (hw : ∀ d ∈ tables_1, d.before a0 Z = true) : (Jvm.Cond.instanceMethod ({ cls := "java/lang/String", name := "length", desc := "()I" } : Jvm.MethodName)).before a0 Z = true := hw _ (List.mem_of_getElem? (i := 36) rfl)
theorem ow37 {a0 : Array Value} {Z : State} (hw : ∀ d ∈ tables_1, d.before a0 Z = true) : (Jvm.Cond.selects "java/lang/String" ({ cls := "java/lang/String", name := "length", desc := "()I" } : Jvm.MethodName) ({ cls := "java/lang/String", name := "length", desc := "()I" } : Jvm.MethodName)).before a0 Z = true := hw _ (List.mem_of_getElem? (i := 37) rfl)
theorem ow38 {a0 : Array Value} {Z : State} (hw : ∀ d ∈ tables_1, d.before a0 Z = true) : (Jvm.Cond.code ({ cls := "java/lang/String", name := "length", desc := "()I" } : Jvm.MethodName) jdk_42_method_54_code (1 : Nat) (Option.some Jvm.ClassFile.FieldType.int)).before a0 Z = true := hw _ (List.mem_of_getElem? (i := 38) rfl)
theorem ow39 {a0 : Array Value} {Z : State} (hw : ∀ d ∈ tables_1, d.before a0 Z = true) : (Jvm.Cond.methodLink "java/lang/String" (335 : Nat) ({ cls := "java/lang/String", name := "coder", desc := "()B" } : Jvm.MethodName)).before a0 Z = true := hw _ (List.mem_of_getElem? (i := 39) rfl)
theorem ow40 {a0 : Array Value} {Z : State} (hw : ∀ d ∈ tables_1, d.before a0 Z = true) : (Jvm.Cond.declares ({ cls := "java/lang/String", name := "coder", desc := "()B" } : Jvm.MethodName)).before a0 Z = true := hw _ (List.mem_of_getElem? (i := 40) rfl)
theorem ow41 {a0 : Array Value} {Z : State} (hw : ∀ d ∈ tables_1, d.before a0 Z = true) : (Jvm.Cond.instanceMethod ({ cls := "java/lang/String", name := "coder", desc := "()B" } : Jvm.MethodName)).before a0 Z = true := hw _ (List.mem_of_getElem? (i := 41) rfl)
theorem ow42 {a0 : Array Value} {Z : State} (hw : ∀ d ∈ tables_1, d.before a0 Z = true) : (Jvm.Cond.selects "java/lang/String" ({ cls := "java/lang/String", name := "coder", desc := "()B" } : Jvm.MethodName) ({ cls := "java/lang/String", name := "coder", desc := "()B" } : Jvm.MethodName)).before a0 Z = true := hw _ (List.mem_of_getElem? (i := 42) rfl)
theorem ow43 {a0 : Array Value} {Z : State} (hw : ∀ d ∈ tables_1, d.before a0 Z = true) : (Jvm.Cond.code ({ cls := "java/lang/String", name := "coder", desc := "()B" } : Jvm.MethodName) jdk_42_method_152_code (1 : Nat) (Option.some Jvm.ClassFile.FieldType.byte)).before a0 Z = true := hw _ (List.mem_of_getElem? (i := 43) rfl)
theorem ow44 {a0 : Array Value} {Z : State} (hw : ∀ d ∈ tables_1, d.before a0 Z = true) : (Jvm.Cond.fieldLink "java/lang/String" (38 : Nat) "java/lang/String" "COMPACT_STRINGS" "Z").before a0 Z = true := hw _ (List.mem_of_getElem? (i := 44) rfl)
theorem ow45 {a0 : Array Value} {Z : State} (hw : ∀ d ∈ tables_1, d.before a0 Z = true) : (Jvm.Cond.methodLink "com/example/keepwire/keepwire/ResponseHead" (184 : Nat) ({ cls := "java/lang/String", name := "substring", desc := "(II)Ljava/lang/String;" } : Jvm.MethodName)).before a0 Z = true := hw _ (List.mem_of_getElem? (i := 45) rfl)
theorem ow46 {a0 : Array Value} {Z : State} (hw : ∀ d ∈ tables_1, d.before a0 Z = true) : (Jvm.Cond.declares ({ cls := "java/lang/String", name := "substring", desc := "(II)Ljava/lang/String;" } : Jvm.MethodName)).before a0 Z = true := hw _ (List.mem_of_getElem? (i := 46) rfl)
theorem ow47 {a0 : Array Value} {Z : State} (hw : ∀ d ∈ tables_1, d.before a0 Z = true) : (Jvm.Cond.instanceMethod ({ cls := "java/lang/String", name := "substring", desc := "(II)Ljava/lang/String;" } : Jvm.MethodName)).before a0 Z = true := hw _ (List.mem_of_getElem? (i := 47) rfl)
theorem ow48 {a0 : Array Value} {Z : State} (hw : ∀ d ∈ tables_1, d.before a0 Z = true) : (Jvm.Cond.selects "java/lang/String" ({ cls := "java/lang/String", name := "substring", desc := "(II)Ljava/lang/String;" } : Jvm.MethodName) ({ cls := "java/lang/String", name := "substring", desc := "(II)Ljava/lang/String;" } : Jvm.MethodName)).before a0 Z = true := hw _ (List.mem_of_getElem? (i := 48) rfl)
theorem ow49 {a0 : Array Value} {Z : State} (hw : ∀ d ∈ tables_1, d.before a0 Z = true) : (Jvm.Cond.code ({ cls := "java/lang/String", name := "substring", desc := "(II)Ljava/lang/String;" } : Jvm.MethodName) jdk_42_method_92_code (5 : Nat) (Option.some (Jvm.ClassFile.FieldType.object "java/lang/String"))).before a0 Z = true := hw _ (List.mem_of_getElem? (i := 49) rfl)
theorem ow50 {a0 : Array Value} {Z : State} (hw : ∀ d ∈ tables_1, d.before a0 Z = true) : (Jvm.Cond.methodLink "java/lang/String" (505 : Nat) ({ cls := "java/lang/String", name := "length", desc := "()I" } : Jvm.MethodName)).before a0 Z = true := hw _ (List.mem_of_getElem? (i := 50) rfl)
theorem ow51 {a0 : Array Value} {Z : State} (hw : ∀ d ∈ tables_1, d.before a0 Z = true) : (Jvm.Cond.methodLink "java/lang/String" (521 : Nat) ({ cls := "java/lang/String", name := "checkBoundsBeginEnd", desc := "(III)V" } : Jvm.MethodName)).before a0 Z = true := hw _ (List.mem_of_getElem? (i := 51) rfl)
theorem ow52 {a0 : Array Value} {Z : State} (hw : ∀ d ∈ tables_1, d.before a0 Z = true) : (Jvm.Cond.static ({ cls := "java/lang/String", name := "checkBoundsBeginEnd", desc := "(III)V" } : Jvm.MethodName)).before a0 Z = true := hw _ (List.mem_of_getElem? (i := 52) rfl)
theorem ow53 {a0 : Array Value} {Z : State} (hw : ∀ d ∈ tables_1, d.before a0 Z = true) : (Jvm.Cond.code ({ cls := "java/lang/String", name := "checkBoundsBeginEnd", desc := "(III)V" } : Jvm.MethodName) jdk_42_method_158_code (3 : Nat) (Option.none : Option Jvm.ClassFile.FieldType)).before a0 Z = true := hw _ (List.mem_of_getElem? (i := 53) rfl)
theorem ow54 {a0 : Array Value} {Z : State} (hw : ∀ d ∈ tables_1, d.before a0 Z = true) : (Jvm.Cond.fieldLink "java/lang/String" (1053 : Nat) "jdk/internal/util/Preconditions" "SIOOBE_FORMATTER" "Ljava/util/function/BiFunction;").before a0 Z = true := hw _ (List.mem_of_getElem? (i := 54) rfl)
theorem ow55 {a0 : Array Value} {Z : State} (hw : ∀ d ∈ tables_1, d.before a0 Z = true) : (Jvm.Cond.initialized "jdk/internal/util/Preconditions").before a0 Z = true := hw _ (List.mem_of_getElem? (i := 55) rfl)
theorem ow56 {a0 : Array Value} {Z : State} (hw : ∀ d ∈ tables_1, d.before a0 Z = true) : (Jvm.Cond.methodLink "java/lang/String" (1062 : Nat) ({ cls := "jdk/internal/util/Preconditions", name := "checkFromToIndex", desc := "(IIILjava/util/function/BiFunction;)I" } : Jvm.MethodName)).before a0 Z = true := hw _ (List.mem_of_getElem? (i := 56) rfl)
theorem ow57 {a0 : Array Value} {Z : State} (hw : ∀ d ∈ tables_1, d.before a0 Z = true) : (Jvm.Cond.static ({ cls := "jdk/internal/util/Preconditions", name := "checkFromToIndex", desc := "(IIILjava/util/function/BiFunction;)I" } : Jvm.MethodName)).before a0 Z = true := hw _ (List.mem_of_getElem? (i := 57) rfl)
theorem ow58 {a0 : Array Value} {Z : State} (hw : ∀ d ∈ tables_1, d.before a0 Z = true) : (Jvm.Cond.code ({ cls := "jdk/internal/util/Preconditions", name := "checkFromToIndex", desc := "(IIILjava/util/function/BiFunction;)I" } : Jvm.MethodName) jdk_41_method_12_code (4 : Nat) (Option.some Jvm.ClassFile.FieldType.int)).before a0 Z = true := hw _ (List.mem_of_getElem? (i := 58) rfl)
theorem ow59 {a0 : Array Value} {Z : State} (hw : ∀ d ∈ tables_1, d.before a0 Z = true) : (Jvm.Cond.methodLink "com/example/keepwire/keepwire/ResponseHeadTrimSpacesPinLaw" (28 : Nat) ({ cls := "java/lang/String", name := "length", desc := "()I" } : Jvm.MethodName)).before a0 Z = true := hw _ (List.mem_of_getElem? (i := 59) rfl)
theorem ow60 {a0 : Array Value} {Z : State} (hw : ∀ d ∈ tables_1, d.before a0 Z = true) : (Jvm.Cond.methodLink "com/example/keepwire/keepwire/ResponseHeadTrimSpacesPinLaw" (34 : Nat) ({ cls := "com/example/keepwire/keepwire/ResponseHeadTrimSpacesPinLaw", name := "at", desc := "(Ljava/lang/String;[CIII)Z" } : Jvm.MethodName)).before a0 Z = true := hw _ (List.mem_of_getElem? (i := 60) rfl)
theorem ow61 {a0 : Array Value} {Z : State} (hw : ∀ d ∈ tables_1, d.before a0 Z = true) : (Jvm.Cond.static ({ cls := "com/example/keepwire/keepwire/ResponseHeadTrimSpacesPinLaw", name := "at", desc := "(Ljava/lang/String;[CIII)Z" } : Jvm.MethodName)).before a0 Z = true := hw _ (List.mem_of_getElem? (i := 61) rfl)
theorem ow62 {a0 : Array Value} {Z : State} (hw : ∀ d ∈ tables_1, d.before a0 Z = true) : (Jvm.Cond.code ({ cls := "com/example/keepwire/keepwire/ResponseHeadTrimSpacesPinLaw", name := "at", desc := "(Ljava/lang/String;[CIII)Z" } : Jvm.MethodName) method_3_code (5 : Nat) (Option.some Jvm.ClassFile.FieldType.boolean)).before a0 Z = true := hw _ (List.mem_of_getElem? (i := 62) rfl)
theorem ow63 {a0 : Array Value} {Z : State} (hw : ∀ d ∈ tables_1, d.before a0 Z = true) : (Jvm.Cond.methodLink "java/lang/String" (177 : Nat) ({ cls := "java/lang/StringUTF16", name := "compress", desc := "([CII)[B" } : Jvm.MethodName)).before a0 Z = true := hw _ (List.mem_of_getElem? (i := 63) rfl)
theorem ow64 {a0 : Array Value} {Z : State} (hw : ∀ d ∈ tables_1, d.before a0 Z = true) : (Jvm.Cond.static ({ cls := "java/lang/StringUTF16", name := "compress", desc := "([CII)[B" } : Jvm.MethodName)).before a0 Z = true := hw _ (List.mem_of_getElem? (i := 64) rfl)
theorem ow65 {a0 : Array Value} {Z : State} (hw : ∀ d ∈ tables_1, d.before a0 Z = true) : (Jvm.Cond.initialized "java/lang/StringUTF16").before a0 Z = true := hw _ (List.mem_of_getElem? (i := 65) rfl)
theorem ow66 {a0 : Array Value} {Z : State} (hw : ∀ d ∈ tables_1, d.before a0 Z = true) : (Jvm.Cond.code ({ cls := "java/lang/StringUTF16", name := "compress", desc := "([CII)[B" } : Jvm.MethodName) jdk_52_method_16_code (6 : Nat) (Option.some (Jvm.ClassFile.FieldType.array Jvm.ClassFile.FieldType.byte))).before a0 Z = true := hw _ (List.mem_of_getElem? (i := 66) rfl)
theorem ow67 {a0 : Array Value} {Z : State} (hw : ∀ d ∈ tables_1, d.before a0 Z = true) : (Jvm.Cond.methodLink "java/lang/StringUTF16" (115 : Nat) ({ cls := "java/lang/StringUTF16", name := "compress", desc := "([CI[BII)I" } : Jvm.MethodName)).before a0 Z = true := hw _ (List.mem_of_getElem? (i := 67) rfl)
theorem ow68 {a0 : Array Value} {Z : State} (hw : ∀ d ∈ tables_1, d.before a0 Z = true) : (Jvm.Cond.static ({ cls := "java/lang/StringUTF16", name := "compress", desc := "([CI[BII)I" } : Jvm.MethodName)).before a0 Z = true := hw _ (List.mem_of_getElem? (i := 68) rfl)
theorem ow69 {a0 : Array Value} {Z : State} (hw : ∀ d ∈ tables_1, d.before a0 Z = true) : (Jvm.Cond.code ({ cls := "java/lang/StringUTF16", name := "compress", desc := "([CI[BII)I" } : Jvm.MethodName) jdk_52_method_21_code (7 : Nat) (Option.some Jvm.ClassFile.FieldType.int)).before a0 Z = true := hw _ (List.mem_of_getElem? (i := 69) rfl)
theorem ow70 {a0 : Array Value} {Z : State} (hw : ∀ d ∈ tables_1, d.before a0 Z = true) : (Jvm.Cond.methodLink "java/lang/String" (47 : Nat) ({ cls := "java/lang/StringUTF16", name := "coderFromArrayLen", desc := "([BI)B" } : Jvm.MethodName)).before a0 Z = true := hw _ (List.mem_of_getElem? (i := 70) rfl)
theorem ow71 {a0 : Array Value} {Z : State} (hw : ∀ d ∈ tables_1, d.before a0 Z = true) : (Jvm.Cond.static ({ cls := "java/lang/StringUTF16", name := "coderFromArrayLen", desc := "([BI)B" } : Jvm.MethodName)).before a0 Z = true := hw _ (List.mem_of_getElem? (i := 71) rfl)
theorem ow72 {a0 : Array Value} {Z : State} (hw : ∀ d ∈ tables_1, d.before a0 Z = true) : (Jvm.Cond.code ({ cls := "java/lang/StringUTF16", name := "coderFromArrayLen", desc := "([BI)B" } : Jvm.MethodName) jdk_52_method_15_code (2 : Nat) (Option.some Jvm.ClassFile.FieldType.byte)).before a0 Z = true := hw _ (List.mem_of_getElem? (i := 72) rfl)
theorem ow73 {a0 : Array Value} {Z : State} (hw : ∀ d ∈ tables_1, d.before a0 Z = true) : (Jvm.Cond.methodLink "com/example/keepwire/keepwire/ResponseHead" (50 : Nat) ({ cls := "java/lang/String", name := "charAt", desc := "(I)C" } : Jvm.MethodName)).before a0 Z = true := hw _ (List.mem_of_getElem? (i := 73) rfl)
theorem ow74 {a0 : Array Value} {Z : State} (hw : ∀ d ∈ tables_1, d.before a0 Z = true) : (Jvm.Cond.declares ({ cls := "java/lang/String", name := "charAt", desc := "(I)C" } : Jvm.MethodName)).before a0 Z = true := hw _ (List.mem_of_getElem? (i := 74) rfl)
theorem ow75 {a0 : Array Value} {Z : State} (hw : ∀ d ∈ tables_1, d.before a0 Z = true) : (Jvm.Cond.instanceMethod ({ cls := "java/lang/String", name := "charAt", desc := "(I)C" } : Jvm.MethodName)).before a0 Z = true := hw _ (List.mem_of_getElem? (i := 75) rfl)
theorem ow76 {a0 : Array Value} {Z : State} (hw : ∀ d ∈ tables_1, d.before a0 Z = true) : (Jvm.Cond.selects "java/lang/String" ({ cls := "java/lang/String", name := "charAt", desc := "(I)C" } : Jvm.MethodName) ({ cls := "java/lang/String", name := "charAt", desc := "(I)C" } : Jvm.MethodName)).before a0 Z = true := hw _ (List.mem_of_getElem? (i := 76) rfl)
theorem ow77 {a0 : Array Value} {Z : State} (hw : ∀ d ∈ tables_1, d.before a0 Z = true) : (Jvm.Cond.code ({ cls := "java/lang/String", name := "charAt", desc := "(I)C" } : Jvm.MethodName) jdk_42_method_56_code (2 : Nat) (Option.some Jvm.ClassFile.FieldType.char)).before a0 Z = true := hw _ (List.mem_of_getElem? (i := 77) rfl)
theorem ow78 {a0 : Array Value} {Z : State} (hw : ∀ d ∈ tables_1, d.before a0 Z = true) : (Jvm.Cond.methodLink "java/lang/String" (492 : Nat) ({ cls := "java/lang/String", name := "isLatin1", desc := "()Z" } : Jvm.MethodName)).before a0 Z = true := hw _ (List.mem_of_getElem? (i := 78) rfl)
theorem ow79 {a0 : Array Value} {Z : State} (hw : ∀ d ∈ tables_1, d.before a0 Z = true) : (Jvm.Cond.declares ({ cls := "java/lang/String", name := "isLatin1", desc := "()Z" } : Jvm.MethodName)).before a0 Z = true := hw _ (List.mem_of_getElem? (i := 79) rfl)
theorem ow80 {a0 : Array Value} {Z : State} (hw : ∀ d ∈ tables_1, d.before a0 Z = true) : (Jvm.Cond.instanceMethod ({ cls := "java/lang/String", name := "isLatin1", desc := "()Z" } : Jvm.MethodName)).before a0 Z = true := hw _ (List.mem_of_getElem? (i := 80) rfl)
theorem ow81 {a0 : Array Value} {Z : State} (hw : ∀ d ∈ tables_1, d.before a0 Z = true) : (Jvm.Cond.selects "java/lang/String" ({ cls := "java/lang/String", name := "isLatin1", desc := "()Z" } : Jvm.MethodName) ({ cls := "java/lang/String", name := "isLatin1", desc := "()Z" } : Jvm.MethodName)).before a0 Z = true := hw _ (List.mem_of_getElem? (i := 81) rfl)
theorem ow82 {a0 : Array Value} {Z : State} (hw : ∀ d ∈ tables_1, d.before a0 Z = true) : (Jvm.Cond.code ({ cls := "java/lang/String", name := "isLatin1", desc := "()Z" } : Jvm.MethodName) jdk_42_method_154_code (1 : Nat) (Option.some Jvm.ClassFile.FieldType.boolean)).before a0 Z = true := hw _ (List.mem_of_getElem? (i := 82) rfl)
theorem ow83 {a0 : Array Value} {Z : State} (hw : ∀ d ∈ tables_1, d.before a0 Z = true) : (Jvm.Cond.methodLink "java/lang/String" (495 : Nat) ({ cls := "java/lang/StringLatin1", name := "charAt", desc := "([BI)C" } : Jvm.MethodName)).before a0 Z = true := hw _ (List.mem_of_getElem? (i := 83) rfl)
theorem ow84 {a0 : Array Value} {Z : State} (hw : ∀ d ∈ tables_1, d.before a0 Z = true) : (Jvm.Cond.static ({ cls := "java/lang/StringLatin1", name := "charAt", desc := "([BI)C" } : Jvm.MethodName)).before a0 Z = true := hw _ (List.mem_of_getElem? (i := 84) rfl)
theorem ow85 {a0 : Array Value} {Z : State} (hw : ∀ d ∈ tables_1, d.before a0 Z = true) : (Jvm.Cond.initialized "java/lang/StringLatin1").before a0 Z = true := hw _ (List.mem_of_getElem? (i := 85) rfl)
theorem ow86 {a0 : Array Value} {Z : State} (hw : ∀ d ∈ tables_1, d.before a0 Z = true) : (Jvm.Cond.code ({ cls := "java/lang/StringLatin1", name := "charAt", desc := "([BI)C" } : Jvm.MethodName) jdk_43_method_2_code (2 : Nat) (Option.some Jvm.ClassFile.FieldType.char)).before a0 Z = true := hw _ (List.mem_of_getElem? (i := 86) rfl)
theorem ow87 {a0 : Array Value} {Z : State} (hw : ∀ d ∈ tables_1, d.before a0 Z = true) : (Jvm.Cond.methodLink "java/lang/StringLatin1" (9 : Nat) ({ cls := "java/lang/String", name := "checkIndex", desc := "(II)V" } : Jvm.MethodName)).before a0 Z = true := hw _ (List.mem_of_getElem? (i := 87) rfl)
theorem ow88 {a0 : Array Value} {Z : State} (hw : ∀ d ∈ tables_1, d.before a0 Z = true) : (Jvm.Cond.static ({ cls := "java/lang/String", name := "checkIndex", desc := "(II)V" } : Jvm.MethodName)).before a0 Z = true := hw _ (List.mem_of_getElem? (i := 88) rfl)
theorem ow89 {a0 : Array Value} {Z : State} (hw : ∀ d ∈ tables_1, d.before a0 Z = true) : (Jvm.Cond.code ({ cls := "java/lang/String", name := "checkIndex", desc := "(II)V" } : Jvm.MethodName) jdk_42_method_155_code (2 : Nat) (Option.none : Option Jvm.ClassFile.FieldType)).before a0 Z = true := hw _ (List.mem_of_getElem? (i := 89) rfl)
theorem ow90 {a0 : Array Value} {Z : State} (hw : ∀ d ∈ tables_1, d.before a0 Z = true) : (Jvm.Cond.methodLink "java/lang/String" (1059 : Nat) ({ cls := "jdk/internal/util/Preconditions", name := "checkIndex", desc := "(IILjava/util/function/BiFunction;)I" } : Jvm.MethodName)).before a0 Z = true := hw _ (List.mem_of_getElem? (i := 90) rfl)
theorem ow91 {a0 : Array Value} {Z : State} (hw : ∀ d ∈ tables_1, d.before a0 Z = true) : (Jvm.Cond.static ({ cls := "jdk/internal/util/Preconditions", name := "checkIndex", desc := "(IILjava/util/function/BiFunction;)I" } : Jvm.MethodName)).before a0 Z = true := hw _ (List.mem_of_getElem? (i := 91) rfl)
theorem ow92 {a0 : Array Value} {Z : State} (hw : ∀ d ∈ tables_1, d.before a0 Z = true) : (Jvm.Cond.code ({ cls := "jdk/internal/util/Preconditions", name := "checkIndex", desc := "(IILjava/util/function/BiFunction;)I" } : Jvm.MethodName) jdk_41_method_11_code (3 : Nat) (Option.some Jvm.ClassFile.FieldType.int)).before a0 Z = true := hw _ (List.mem_of_getElem? (i := 92) rfl)
theorem ow93 {a0 : Array Value} {Z : State} (hw : ∀ d ∈ tables_1, d.before a0 Z = true) : (Jvm.Cond.methodLink "com/example/keepwire/keepwire/ResponseHead" (86 : Nat) ({ cls := "com/example/keepwire/keepwire/ResponseHead", name := "isSpace", desc := "(C)Z" } : Jvm.MethodName)).before a0 Z = true := hw _ (List.mem_of_getElem? (i := 93) rfl)
theorem ow94 {a0 : Array Value} {Z : State} (hw : ∀ d ∈ tables_1, d.before a0 Z = true) : (Jvm.Cond.static ({ cls := "com/example/keepwire/keepwire/ResponseHead", name := "isSpace", desc := "(C)Z" } : Jvm.MethodName)).before a0 Z = true := hw _ (List.mem_of_getElem? (i := 94) rfl)
theorem ow95 {a0 : Array Value} {Z : State} (hw : ∀ d ∈ tables_1, d.before a0 Z = true) : (Jvm.Cond.code ({ cls := "com/example/keepwire/keepwire/ResponseHead", name := "isSpace", desc := "(C)Z" } : Jvm.MethodName) prog_30_method_19_code (1 : Nat) (Option.some Jvm.ClassFile.FieldType.boolean)).before a0 Z = true := hw _ (List.mem_of_getElem? (i := 95) rfl)
theorem ow96 {a0 : Array Value} {Z : State} (hw : ∀ d ∈ tables_1, d.before a0 Z = true) : (Jvm.Cond.methodLink "java/lang/String" (685 : Nat) ({ cls := "java/lang/StringLatin1", name := "newString", desc := "([BII)Ljava/lang/String;" } : Jvm.MethodName)).before a0 Z = true := hw _ (List.mem_of_getElem? (i := 96) rfl)
theorem ow97 {a0 : Array Value} {Z : State} (hw : ∀ d ∈ tables_1, d.before a0 Z = true) : (Jvm.Cond.static ({ cls := "java/lang/StringLatin1", name := "newString", desc := "([BII)Ljava/lang/String;" } : Jvm.MethodName)).before a0 Z = true := hw _ (List.mem_of_getElem? (i := 97) rfl)
theorem ow98 {a0 : Array Value} {Z : State} (hw : ∀ d ∈ tables_1, d.before a0 Z = true) : (Jvm.Cond.code ({ cls := "java/lang/StringLatin1", name := "newString", desc := "([BII)Ljava/lang/String;" } : Jvm.MethodName) jdk_43_method_47_code (3 : Nat) (Option.some (Jvm.ClassFile.FieldType.object "java/lang/String"))).before a0 Z = true := hw _ (List.mem_of_getElem? (i := 98) rfl)
theorem ow99 {a0 : Array Value} {Z : State} (hw : ∀ d ∈ tables_1, d.before a0 Z = true) : (Jvm.Cond.classLink "java/lang/StringLatin1" (1 : Nat) "java/lang/String").before a0 Z = true := hw _ (List.mem_of_getElem? (i := 99) rfl)
theorem ow100 {a0 : Array Value} {Z : State} (hw : ∀ d ∈ tables_1, d.before a0 Z = true) : (Jvm.Cond.methodLink "java/lang/StringLatin1" (232 : Nat) ({ cls := "java/util/Arrays", name := "copyOfRange", desc := "([BII)[B" } : Jvm.MethodName)).before a0 Z = true := hw _ (List.mem_of_getElem? (i := 100) rfl)
theorem ow101 {a0 : Array Value} {Z : State} (hw : ∀ d ∈ tables_1, d.before a0 Z = true) : (Jvm.Cond.static ({ cls := "java/util/Arrays", name := "copyOfRange", desc := "([BII)[B" } : Jvm.MethodName)).before a0 Z = true := hw _ (List.mem_of_getElem? (i := 101) rfl)
theorem ow102 {a0 : Array Value} {Z : State} (hw : ∀ d ∈ tables_1, d.before a0 Z = true) : (Jvm.Cond.initialized "java/util/Arrays").before a0 Z = true := hw _ (List.mem_of_getElem? (i := 102) rfl)
theorem ow103 {a0 : Array Value} {Z : State} (hw : ∀ d ∈ tables_1, d.before a0 Z = true) : (Jvm.Cond.code ({ cls := "java/util/Arrays", name := "copyOfRange", desc := "([BII)[B" } : Jvm.MethodName) jdk_65_method_132_code (3 : Nat) (Option.some (Jvm.ClassFile.FieldType.array Jvm.ClassFile.FieldType.byte))).before a0 Z = true := hw _ (List.mem_of_getElem? (i := 103) rfl)
theorem ow104 {a0 : Array Value} {Z : State} (hw : ∀ d ∈ tables_1, d.before a0 Z = true) : (Jvm.Cond.methodLink "java/util/Arrays" (339 : Nat) ({ cls := "java/util/Arrays", name := "copyOfRangeByte", desc := "([BII)[B" } : Jvm.MethodName)).before a0 Z = true := hw _ (List.mem_of_getElem? (i := 104) rfl)
theorem ow105 {a0 : Array Value} {Z : State} (hw : ∀ d ∈ tables_1, d.before a0 Z = true) : (Jvm.Cond.static ({ cls := "java/util/Arrays", name := "copyOfRangeByte", desc := "([BII)[B" } : Jvm.MethodName)).before a0 Z = true := hw _ (List.mem_of_getElem? (i := 105) rfl)
theorem ow106 {a0 : Array Value} {Z : State} (hw : ∀ d ∈ tables_1, d.before a0 Z = true) : (Jvm.Cond.code ({ cls := "java/util/Arrays", name := "copyOfRangeByte", desc := "([BII)[B" } : Jvm.MethodName) jdk_65_method_133_code (5 : Nat) (Option.some (Jvm.ClassFile.FieldType.array Jvm.ClassFile.FieldType.byte))).before a0 Z = true := hw _ (List.mem_of_getElem? (i := 106) rfl)
theorem ow107 {a0 : Array Value} {Z : State} (hw : ∀ d ∈ tables_1, d.before a0 Z = true) : (Jvm.Cond.methodLink "java/util/Arrays" (343 : Nat) ({ cls := "java/util/Arrays", name := "checkLength", desc := "(II)V" } : Jvm.MethodName)).before a0 Z = true := hw _ (List.mem_of_getElem? (i := 107) rfl)
theorem ow108 {a0 : Array Value} {Z : State} (hw : ∀ d ∈ tables_1, d.before a0 Z = true) : (Jvm.Cond.static ({ cls := "java/util/Arrays", name := "checkLength", desc := "(II)V" } : Jvm.MethodName)).before a0 Z = true := hw _ (List.mem_of_getElem? (i := 108) rfl)
theorem ow109 {a0 : Array Value} {Z : State} (hw : ∀ d ∈ tables_1, d.before a0 Z = true) : (Jvm.Cond.code ({ cls := "java/util/Arrays", name := "checkLength", desc := "(II)V" } : Jvm.MethodName) jdk_65_method_131_code (2 : Nat) (Option.none : Option Jvm.ClassFile.FieldType)).before a0 Z = true := hw _ (List.mem_of_getElem? (i := 109) rfl)
theorem ow110 {a0 : Array Value} {Z : State} (hw : ∀ d ∈ tables_1, d.before a0 Z = true) : (Jvm.Cond.methodLink "java/util/Arrays" (304 : Nat) ({ cls := "java/lang/Math", name := "min", desc := "(II)I" } : Jvm.MethodName)).before a0 Z = true := hw _ (List.mem_of_getElem? (i := 110) rfl)
theorem ow111 {a0 : Array Value} {Z : State} (hw : ∀ d ∈ tables_1, d.before a0 Z = true) : (Jvm.Cond.static ({ cls := "java/lang/Math", name := "min", desc := "(II)I" } : Jvm.MethodName)).before a0 Z = true := hw _ (List.mem_of_getElem? (i := 111) rfl)
theorem ow112 {a0 : Array Value} {Z : State} (hw : ∀ d ∈ tables_1, d.before a0 Z = true) : (Jvm.Cond.initialized "java/lang/Math").before a0 Z = true := hw _ (List.mem_of_getElem? (i := 112) rfl)
theorem ow113 {a0 : Array Value} {Z : State} (hw : ∀ d ∈ tables_1, d.before a0 Z = true) : (Jvm.Cond.code ({ cls := "java/lang/Math", name := "min", desc := "(II)I" } : Jvm.MethodName) jdk_29_method_69_code (2 : Nat) (Option.some Jvm.ClassFile.FieldType.int)).before a0 Z = true := hw _ (List.mem_of_getElem? (i := 113) rfl)
theorem ow114 {a0 : Array Value} {Z : State} (hw : ∀ d ∈ tables_1, d.before a0 Z = true) : (Jvm.Cond.methodLink "java/util/Arrays" (150 : Nat) ({ cls := "java/lang/System", name := "arraycopy", desc := "(Ljava/lang/Object;ILjava/lang/Object;II)V" } : Jvm.MethodName)).before a0 Z = true := hw _ (List.mem_of_getElem? (i := 114) rfl)
theorem ow115 {a0 : Array Value} {Z : State} (hw : ∀ d ∈ tables_1, d.before a0 Z = true) : (Jvm.Cond.static ({ cls := "java/lang/System", name := "arraycopy", desc := "(Ljava/lang/Object;ILjava/lang/Object;II)V" } : Jvm.MethodName)).before a0 Z = true := hw _ (List.mem_of_getElem? (i := 115) rfl)
theorem ow116 {a0 : Array Value} {Z : State} (hw : ∀ d ∈ tables_1, d.before a0 Z = true) : (Jvm.Cond.initialized "java/lang/System").before a0 Z = true := hw _ (List.mem_of_getElem? (i := 116) rfl)
theorem ow117 {a0 : Array Value} {Z : State} (hw : ∀ d ∈ tables_1, d.before a0 Z = true) : (Jvm.Cond.native ({ cls := "java/lang/System", name := "arraycopy", desc := "(Ljava/lang/Object;ILjava/lang/Object;II)V" } : Jvm.MethodName)).before a0 Z = true := hw _ (List.mem_of_getElem? (i := 117) rfl)
theorem ow118 {a0 : Array Value} {Z : State} (hw : ∀ d ∈ tables_1, d.before a0 Z = true) : (Jvm.Cond.methodLink "java/lang/StringLatin1" (112 : Nat) ({ cls := "java/lang/String", name := "<init>", desc := "([BB)V" } : Jvm.MethodName)).before a0 Z = true := hw _ (List.mem_of_getElem? (i := 118) rfl)
theorem ow119 {a0 : Array Value} {Z : State} (hw : ∀ d ∈ tables_1, d.before a0 Z = true) : (Jvm.Cond.instanceMethod ({ cls := "java/lang/String", name := "<init>", desc := "([BB)V" } : Jvm.MethodName)).before a0 Z = true := hw _ (List.mem_of_getElem? (i := 119) rfl)
theorem ow120 {a0 : Array Value} {Z : State} (hw : ∀ d ∈ tables_1, d.before a0 Z = true) : (Jvm.Cond.code ({ cls := "java/lang/String", name := "<init>", desc := "([BB)V" } : Jvm.MethodName) jdk_42_method_151_code (3 : Nat) (Option.none : Option Jvm.ClassFile.FieldType)).before a0 Z = true := hw _ (List.mem_of_getElem? (i := 120) rfl)
theorem ow121 {a0 : Array Value} {Z : State} (hw : ∀ d ∈ tables_1, d.before a0 Z = true) : (Jvm.Cond.methodLink "com/example/keepwire/keepwire/ResponseHeadTrimSpacesPinLaw" (24 : Nat) ({ cls := "com/example/keepwire/keepwire/ResponseHeadTrimSpacesPinLaw", name := "sp", desc := "(C)Z" } : Jvm.MethodName)).before a0 Z = true := hw _ (List.mem_of_getElem? (i := 121) rfl)
theorem ow122 {a0 : Array Value} {Z : State} (hw : ∀ d ∈ tables_1, d.before a0 Z = true) : (Jvm.Cond.static ({ cls := "com/example/keepwire/keepwire/ResponseHeadTrimSpacesPinLaw", name := "sp", desc := "(C)Z" } : Jvm.MethodName)).before a0 Z = true := hw _ (List.mem_of_getElem? (i := 122) rfl)
theorem ow123 {a0 : Array Value} {Z : State} (hw : ∀ d ∈ tables_1, d.before a0 Z = true) : (Jvm.Cond.code ({ cls := "com/example/keepwire/keepwire/ResponseHeadTrimSpacesPinLaw", name := "sp", desc := "(C)Z" } : Jvm.MethodName) method_4_code (1 : Nat) (Option.some Jvm.ClassFile.FieldType.boolean)).before a0 Z = true := hw _ (List.mem_of_getElem? (i := 123) rfl)
theorem ow124 {a0 : Array Value} {Z : State} (hw : ∀ d ∈ tables_1, d.before a0 Z = true) : (Jvm.Cond.methodLink "com/example/keepwire/keepwire/ResponseHeadTrimSpacesPinLaw" (38 : Nat) ({ cls := "java/lang/String", name := "charAt", desc := "(I)C" } : Jvm.MethodName)).before a0 Z = true := hw _ (List.mem_of_getElem? (i := 124) rfl)
theorem ow125 {a0 : Array Value} {Z : State} (hw : ∀ d ∈ tables_1, d.before a0 Z = true) : (Jvm.Cond.stringLink "java/lang/StringLatin1" (151 : Nat) "").before a0 Z = true := hw _ (List.mem_of_getElem? (i := 125) rfl)
def bOf (c : Int32) : Int32 := nar .byte (c.toInt8.toInt32)
def R8 (c : Int32) : Prop := 0 ≤ c.toInt ∧ c.toInt ≤ 255
theorem own_e0 : (0 : Int32).toInt = 0 := by decide
theorem own_fin (c : Int32) (h : R8 c) : ∃ n : Fin 256, c = Int32.ofNat n.val := by
  have h1 := h.1; have h2 := h.2
  refine ⟨⟨c.toInt.toNat, by omega⟩, ?_⟩
  apply Int32.toInt_inj.mp
  rw [Int32.toInt_ofNat_small (by show c.toInt.toNat < 2 ^ 31; omega)]
  show c.toInt = ((c.toInt.toNat : Nat) : Int)
  omega
theorem own_cOf0 : ∀ n : Fin 256, nar .char ((((bOf (Int32.ofNat n.val)) &&& (255 : Int32)).toUInt32.toUInt16.toUInt32.toInt32)) = Int32.ofNat n.val := by decide +kernel
theorem own_cOf {c : Int32} (h : R8 c) : nar .char ((((bOf c) &&& (255 : Int32)).toUInt32.toUInt16.toUInt32.toInt32)) = c := by
  obtain ⟨n, rfl⟩ := own_fin c h; exact own_cOf0 n
theorem own_narC0 : ∀ n : Fin 256, nar .char (Int32.ofNat n.val) = Int32.ofNat n.val := by decide +kernel
theorem own_narC {c : Int32} (h : R8 c) : nar .char c = c := by
  obtain ⟨n, rfl⟩ := own_fin c h; exact own_narC0 n
theorem own_shr0 (z : Int32) : z >>> ((0 : Int32) &&& 31) = z := by
  rw [show ((0 : Int32) &&& 31) = 0 by decide]; simp
theorem own_nneg {p : Int32} (h : 0 ≤ p.toInt) : ¬ (p < (0 : Int32)) := by
  rw [Int32.lt_iff_toInt_lt, own_e0]; omega
theorem own_ge {p q : Int32} (h : p.toInt ≤ q.toInt) : ¬ (q < p) := by rw [Int32.lt_iff_toInt_lt]; omega
theorem own_lt {p q : Int32} (h : p.toInt < q.toInt) : p < q := by rw [Int32.lt_iff_toInt_lt]; omega
theorem own_le255 {c : Int32} (h : R8 c) : ¬ ((255 : Int32) < c) := by
  rw [Int32.lt_iff_toInt_lt, show (255 : Int32).toInt = 255 by decide]; have := h.2; omega
theorem own_trunc {Z : State} {h : Heap} {a : Addr} {k : ClassId} {ty : FieldType} {z : Int32} {l1 l2 : List Value} {d : Value} (F : Arv Z h a k ty z (l1 ++ l2) d) (q : l1.length = z.toNatClampNeg) : Arv Z h a k ty z l1 d := by
  obtain ⟨c, A, r1, r2, r3, H, G⟩ := F
  have e : ∀ i, i < c.slots.size → (l1 ++ l2).getD i d = l1.getD i d := fun i hi => by
    rw [List.getD_eq_getElem?_getD, List.getD_eq_getElem?_getD, List.getElem?_append_left (by omega)]
  exact ⟨c, A, r1, r2, r3, fun i hi => by rw [← e i hi]; exact H i hi, fun i hi => by rw [← e i hi]; exact G i hi⟩
def SLc (vs : List Value) (sp nn : Int32) : List Value := (List.range nn.toNatClampNeg).map fun i => vs.getD (sp.toNatClampNeg + i) (.int (0 : Int32))
theorem ef_rm8 (m : MethodId) (a1 : Addr) : entryFrame m #[(.ref a1)] 1 = mkF m 0 #[.val (.ref a1)] [] := by first | (simp [entryFrame, mkF, argsToLocals, Value.category]; done) | rfl
theorem pn_java_lang_String : plainName "java/lang/String" = true := by first | (simp [plainName, overriddenIn]; done) | decide +kernel
theorem d8_0 : decode jdk_42_method_152_code 0 = .ok (.getstatic 38, 3) := by decide +kernel
theorem d8_3 : decode jdk_42_method_152_code 3 = .ok (.ifCond .eq 10, 3) := by decide +kernel
theorem d8_6 : decode jdk_42_method_152_code 6 = .ok (.aload_n 0, 1) := by decide +kernel
theorem d8_7 : decode jdk_42_method_152_code 7 = .ok (.getfield 15, 3) := by decide +kernel
theorem d8_10 : decode jdk_42_method_152_code 10 = .ok (.goto 4, 3) := by decide +kernel
theorem d8_14 : decode jdk_42_method_152_code 14 = .ok (.ireturn, 1) := by decide +kernel
def Q_rm8 (Z : State) (a1 : Addr) (w2 : Int32) (cz : Int32) (h0 : Heap) (n0 : Nat) (v : Option Value) (h : Heap) (L : List Loc) : Prop := v = some (.int (0 : Int32)) ∧ Fr n0 L ∧ h = h0
set_option maxRecDepth 65536 in
set_option maxHeartbeats 40000000 in
theorem rm8 (l : Launch) (Z : State) (a0 : Array Value) (hw : ∀ d ∈ tables_1, d.before a0 Z = true) (ws : List Jvm.Cond) (a1 : Addr) (w2 : Int32) (cz : Int32) (h0 : Heap) (n0 : Nat) (Z0 : n0 ≤ h0.size) (P0 : Old Z n0 h0) (P1 : Sta Z Z.heap "java/lang/String" "COMPACT_STRINGS" "Z" (.int cz)) (P2 : Fld Z h0 a1 "java/lang/String" "coder" "B" (.int w2)) (hcz : ¬ (cz = (0 : Int32))) (hw2 : w2 = (0 : Int32)) :
    MetFree l (⟨"java/lang/String", "coder", "()B"⟩ : MethodName) (head1 (Jvm.Cond.code (⟨"java/lang/String", "coder", "()B"⟩ : MethodName) jdk_42_method_152_code 1 (some .byte) :: ws) ({ frames := 0, cells := 0, slots := 0, locals := 0 } : Room)) (fun a U => a = #[(.ref a1)] ∧ Z.Warmed39 U.vm ∧ U.heap = h0) (fun _ _ _ _ _ => True) (fun _ U o U' => ∃ v L, o = .returned v ∧ Q_rm8 Z a1 w2 cz h0 n0 v U'.heap L ∧ FrameEnd U o U' L ({ frames := 0, cells := 0, slots := 0, locals := 0 } : Room).cells ({ frames := 0, cells := 0, slots := 0, locals := 0 } : Room).slots) := by
  refine MetFree.of_bodySF (plainFor_of_name pn_java_lang_String) hisR ?_
  intro p e s m args below meth c s₁ Bd hml0 hP hK
  obtain ⟨rfl, hZ, hh⟩ := hP
  have hx := Bd.exec
  have hby := Bd.bytes
  have hml : c.maxLocals = 1 := hml0
  have hown : s.vm.findClass "java/lang/String" = some m.cls := findClass_of_methodNamed Bd.named
  have hnm := (name_of_methodNamed Bd.named Bd.method).1
  have X0 : Stand p l e ({ frames := 0, cells := 0, slots := 0, locals := 0 } : Room) s m #[(.ref a1)] below meth c s₁ [] 0 0 := Stand.of_body Bd
  have e0 : s₁.heap = h0 := by rw [← hh, Bd.state]; rfl
  have N0 := Fr.nil n0
  suffices hR : ∀ P : State → Prop, (∀ s₂ o v L, s₂.status = .running → Ended s₂ below o → o = .returned v → Q_rm8 Z a1 w2 cz h0 n0 v s₂.heap L → FrameEnd s o s₂ L ({ frames := 0, cells := 0, slots := 0, locals := 0 } : Room).cells ({ frames := 0, cells := 0, slots := 0, locals := 0 } : Room).slots → P s₂) → Rch p.tables e below P (s₁.setTop (mkF m 0 #[.val (.ref a1)] [])) by
    obtain ⟨s₂, h1, o, h2⟩ := hR (fun s₂ => ∃ o, s₂.status = .running ∧ Ended s₂ below o ∧ ∃ v L, o = .returned v ∧ Q_rm8 Z a1 w2 cz h0 n0 v s₂.heap L ∧ FrameEnd s o s₂ L ({ frames := 0, cells := 0, slots := 0, locals := 0 } : Room).cells ({ frames := 0, cells := 0, slots := 0, locals := 0 } : Room).slots) (fun s₂ o v L q1 q2 q3 q4 q5 => ⟨o, q1, q2, v, L, q3, q4, q5⟩)
    exact ⟨s₂, o, castTop (ef_rm8 m a1) h1, h2⟩
  intro P hPd
  have f101 := P1.ext P0.2
  obtain ⟨T102, X102, e102, st102⟩ := getS2 X0 hx hZ hown (host := "") (Or.inl (ow44 hw)) Via.refl e0 f101 (g := (mkF m 0 #[.val (.ref a1)] [])) rfl (hb hby d8_0)
  refine Rch.go st102 ?_
  refine Rch.go (fun zt zk => XS.ifNo X102.here hx rfl (hb hby d8_3) rfl ((if0 _ _).trans (feq (hcz : ¬ (cz = (0 : Int32)))).1) zk) ?_
  refine Rch.go (fun zt zk => XS.aloadN X102.here hx rfl (hb hby d8_6) rfl rfl zk) ?_
  obtain ⟨T103, X103, e103, st103⟩ := getF X102 hx hZ hown (host := "") (Or.inl (ow29 hw)) Via.refl e102 P2 (g := (mkF m 7 #[.val (.ref a1)] [(.ref a1)])) rfl rfl (hb hby d8_7)
  refine Rch.go st103 ?_
  show Rch _ _ _ _ (T103.setTop (mkF m 10 #[.val (.ref a1)] [(.int w2)]))
  refine Rch.go (fun zt zk => XS.goto X103.here hx rfl (pc0 := 10) (pc' := 14) rfl (hb hby d8_10) (by decide) (by decide) zk) ?_
  obtain ⟨fs, hr, hrun, hended, hW, hsame⟩ := X103.leave (v := some (.int (nar .byte w2))) (fun h => by rw [Bd.returns] at h; cases h)
  refine Rch.mk (retN X103 hx (t := .byte) Bd.returns (by simp) (hb hby d8_14) hr) (hPd _ _ _ _ hrun hended rfl ?_ ⟨⟨_, rfl⟩, hW, hsame.mono (by decide) (by decide)⟩)
  show Q_rm8 Z a1 w2 cz h0 n0 _ T103.heap _
  rw [e103]
  exact ⟨(by rw [hw2]; rfl), N0, rfl⟩
theorem ef_rm7 (m : MethodId) (a1 : Addr) : entryFrame m #[(.ref a1)] 1 = mkF m 0 #[.val (.ref a1)] [] := by first | (simp [entryFrame, mkF, argsToLocals, Value.category]; done) | rfl
theorem d7_0 : decode jdk_42_method_54_code 0 = .ok (.aload_n 0, 1) := by decide +kernel
theorem d7_1 : decode jdk_42_method_54_code 1 = .ok (.getfield 9, 3) := by decide +kernel
theorem d7_4 : decode jdk_42_method_54_code 4 = .ok (.arraylength, 1) := by decide +kernel
theorem d7_5 : decode jdk_42_method_54_code 5 = .ok (.aload_n 0, 1) := by decide +kernel
theorem d7_6 : decode jdk_42_method_54_code 6 = .ok (.invokevirtual 335, 3) := by decide +kernel
theorem pd___B : parseMethodDescriptor "()B" = some ⟨[], some .byte⟩ := by decide +kernel
theorem d7_9 : decode jdk_42_method_54_code 9 = .ok (.ishr, 1) := by decide +kernel
theorem d7_10 : decode jdk_42_method_54_code 10 = .ok (.ireturn, 1) := by decide +kernel
def Q_rm7 (Z : State) (a1 : Addr) (b0 : Addr) (kb : ClassId) (zz : Int32) (vs : List Value) (w2 : Int32) (cz : Int32) (h0 : Heap) (n0 : Nat) (v : Option Value) (h : Heap) (L : List Loc) : Prop := v = some (.int zz) ∧ Fr n0 L ∧ h = h0
set_option maxRecDepth 65536 in
set_option maxHeartbeats 40000000 in
theorem rm7 (l : Launch) (Z : State) (a0 : Array Value) (hw : ∀ d ∈ tables_1, d.before a0 Z = true) (ws : List Jvm.Cond) (a1 : Addr) (b0 : Addr) (kb : ClassId) (zz : Int32) (vs : List Value) (w2 : Int32) (cz : Int32) (h0 : Heap) (n0 : Nat) (Z0 : n0 ≤ h0.size) (P0 : Old Z n0 h0) (P1 : Sta Z Z.heap "java/lang/String" "COMPACT_STRINGS" "Z" (.int cz)) (P2 : Exa Z h0 a1 "java/lang/String") (P3 : Fld Z h0 a1 "java/lang/String" "coder" "B" (.int w2)) (P4 : Fld Z h0 a1 "java/lang/String" "value" "[B" (.ref b0)) (P5 : Arv Z h0 b0 kb .byte zz vs (.int (0 : Int32))) (hcz : ¬ (cz = (0 : Int32))) (hw2 : w2 = (0 : Int32)) :
    MetFree l (⟨"java/lang/String", "length", "()I"⟩ : MethodName) (head1 (Jvm.Cond.code (⟨"java/lang/String", "length", "()I"⟩ : MethodName) jdk_42_method_54_code 1 (some .int) :: ws) ({ frames := 1, cells := 0, slots := 0, locals := 13 } : Room)) (fun a U => a = #[(.ref a1)] ∧ Z.Warmed39 U.vm ∧ U.heap = h0) (fun _ _ _ _ _ => True) (fun _ U o U' => ∃ v L, o = .returned v ∧ Q_rm7 Z a1 b0 kb zz vs w2 cz h0 n0 v U'.heap L ∧ FrameEnd U o U' L ({ frames := 1, cells := 0, slots := 0, locals := 13 } : Room).cells ({ frames := 1, cells := 0, slots := 0, locals := 13 } : Room).slots) := by
  refine MetFree.of_bodySF (plainFor_of_name pn_java_lang_String) hisR ?_
  intro p e s m args below meth c s₁ Bd hml0 hP hK
  obtain ⟨rfl, hZ, hh⟩ := hP
  have hx := Bd.exec
  have hby := Bd.bytes
  have hml : c.maxLocals = 1 := hml0
  have hown : s.vm.findClass "java/lang/String" = some m.cls := findClass_of_methodNamed Bd.named
  have hnm := (name_of_methodNamed Bd.named Bd.method).1
  have X0 : Stand p l e ({ frames := 1, cells := 0, slots := 0, locals := 13 } : Room) s m #[(.ref a1)] below meth c s₁ [] 0 0 := Stand.of_body Bd
  have e0 : s₁.heap = h0 := by rw [← hh, Bd.state]; rfl
  have N0 := Fr.nil n0
  suffices hR : ∀ P : State → Prop, (∀ s₂ o v L, s₂.status = .running → Ended s₂ below o → o = .returned v → Q_rm7 Z a1 b0 kb zz vs w2 cz h0 n0 v s₂.heap L → FrameEnd s o s₂ L ({ frames := 1, cells := 0, slots := 0, locals := 13 } : Room).cells ({ frames := 1, cells := 0, slots := 0, locals := 13 } : Room).slots → P s₂) → Rch p.tables e below P (s₁.setTop (mkF m 0 #[.val (.ref a1)] [])) by
    obtain ⟨s₂, h1, o, h2⟩ := hR (fun s₂ => ∃ o, s₂.status = .running ∧ Ended s₂ below o ∧ ∃ v L, o = .returned v ∧ Q_rm7 Z a1 b0 kb zz vs w2 cz h0 n0 v s₂.heap L ∧ FrameEnd s o s₂ L ({ frames := 1, cells := 0, slots := 0, locals := 13 } : Room).cells ({ frames := 1, cells := 0, slots := 0, locals := 13 } : Room).slots) (fun s₂ o v L q1 q2 q3 q4 q5 => ⟨o, q1, q2, v, L, q3, q4, q5⟩)
    exact ⟨s₂, o, castTop (ef_rm7 m a1) h1, h2⟩
  intro P hPd
  refine Rch.go (fun zt zk => XS.aloadN X0.here hx rfl (hb hby d7_0) rfl rfl zk) ?_
  obtain ⟨T101, X101, e101, st101⟩ := getF X0 hx hZ hown (host := "") (Or.inl (ow28 hw)) Via.refl e0 P4 (g := (mkF m 1 #[.val (.ref a1)] [(.ref a1)])) rfl rfl (hb hby d7_1)
  refine Rch.go st101 ?_
  obtain ⟨cl102, Ar102, q102, S102, M102, H102, G102⟩ := id P5
  refine Rch.go (X101.arraylength hx (by rw [e101]; exact Ar102.1) (State.isArrayOf_alike hZ.alike Ar102.2.1) (g := (mkF m 4 #[.val (.ref a1)] [(.ref b0)])) rfl rfl (hb hby d7_4)) ?_
  rw [len_of S102 M102]
  refine Rch.go (fun zt zk => XS.aloadN X101.here hx rfl (hb hby d7_5) rfl rfl zk) ?_
  show Rch _ _ _ _ (T101.setTop (mkF m 6 #[.val (.ref a1)] [(.ref a1), (.int zz)]))
  obtain ⟨cq103, kq103, q103a, q103b, q103c⟩ := isOf hZ e101 P2
  obtain ⟨_, _, ⟨T103, L103, k103, n103⟩, -, X103, ⟨Lc103, hQ103, l103, y103, z103⟩, st103⟩ := X101.virtualBack hx (y := (⟨"java/lang/String", "coder", "()B"⟩ : MethodName)) (z := (⟨"java/lang/String", "coder", "()B"⟩ : MethodName)) hown (mvT hZ (ow39 hw)) (mvT hZ (ow40 hw)) (notFace_of_selects (args := #[]) (mvT hZ (ow42 hw))) (mvT hZ (ow42 hw)) (mvT hZ (ow41 hw)) (by decide) (backOf (W := 1) (rm8 l Z a0 hw [] (a1) (w2) (cz) h0 n0 Z0 (P0) (P1) (P3) (hcz) (hw2)) hZ (ow43 hw) (ow11 hw) (by decide) (by decide)) q103a q103c (g := (mkF m 6 #[.val (.ref a1)] [(.ref a1), (.int zz)])) rfl (by rw [hml]; rfl) (Steps.refl _) (argsL := []) (rest := [(.int zz)]) (lenOf pd___B rfl) rfl (by show 2 * 0 + _ ≤ _; exact Nat.le_of_eq rfl) (hb hby d7_6) (fun _ _ => ⟨rfl, e101, (by decide : 0 + 0 ≤ _), (by decide : 0 + 0 ≤ _)⟩)
  dsimp only [Pt.U, Pt.locs, Pt.cells, Pt.slots] at X103 l103 y103 z103 st103 hQ103
  rw [l103, y103, z103] at X103
  obtain ⟨rfl, N103q, eq103⟩ := hQ103
  have N103 := Fr.app N0 N103q
  refine Rch.go (fun zt zk => st103.trans zk) ?_
  refine Rch.go (fun zt zk => XS.ishr X103.here hx rfl (hb hby d7_9) rfl zk) ?_
  obtain ⟨fs, hr, hrun, hended, hW, hsame⟩ := X103.leave (v := some (.int (zz >>> ((0 : Int32) &&& 31)))) (fun h => by rw [Bd.returns] at h; cases h)
  refine Rch.mk (retI X103 hx Bd.returns (hb hby d7_10) hr) (hPd _ _ _ _ hrun hended rfl ?_ ⟨⟨_, rfl⟩, hW, hsame.mono (by decide) (by decide)⟩)
  show Q_rm7 Z a1 b0 kb zz vs w2 cz h0 n0 _ T103.heap _
  rw [eq103]
  exact ⟨(by rw [own_shr0]), N103, rfl⟩
theorem ef_rm17 (m : MethodId) (a1 : Addr) : entryFrame m #[(.ref a1)] 1 = mkF m 0 #[.val (.ref a1)] [] := by first | (simp [entryFrame, mkF, argsToLocals, Value.category]; done) | rfl
theorem d17_0 : decode jdk_42_method_154_code 0 = .ok (.getstatic 38, 3) := by decide +kernel
theorem d17_3 : decode jdk_42_method_154_code 3 = .ok (.ifCond .eq 14, 3) := by decide +kernel
theorem d17_6 : decode jdk_42_method_154_code 6 = .ok (.aload_n 0, 1) := by decide +kernel
theorem d17_7 : decode jdk_42_method_154_code 7 = .ok (.getfield 15, 3) := by decide +kernel
theorem d17_10 : decode jdk_42_method_154_code 10 = .ok (.ifCond .ne 7, 3) := by decide +kernel
theorem d17_13 : decode jdk_42_method_154_code 13 = .ok (.iconst 1, 1) := by decide +kernel
theorem d17_14 : decode jdk_42_method_154_code 14 = .ok (.goto 4, 3) := by decide +kernel
theorem d17_18 : decode jdk_42_method_154_code 18 = .ok (.ireturn, 1) := by decide +kernel
def Q_rm17 (Z : State) (a1 : Addr) (w2 : Int32) (cz : Int32) (h0 : Heap) (n0 : Nat) (v : Option Value) (h : Heap) (L : List Loc) : Prop := v = some (.int (1 : Int32)) ∧ Fr n0 L ∧ h = h0
set_option maxRecDepth 65536 in
set_option maxHeartbeats 40000000 in
theorem rm17 (l : Launch) (Z : State) (a0 : Array Value) (hw : ∀ d ∈ tables_1, d.before a0 Z = true) (ws : List Jvm.Cond) (a1 : Addr) (w2 : Int32) (cz : Int32) (h0 : Heap) (n0 : Nat) (Z0 : n0 ≤ h0.size) (P0 : Old Z n0 h0) (P1 : Sta Z Z.heap "java/lang/String" "COMPACT_STRINGS" "Z" (.int cz)) (P2 : Fld Z h0 a1 "java/lang/String" "coder" "B" (.int w2)) (hcz : ¬ (cz = (0 : Int32))) (hw2 : w2 = (0 : Int32)) :
    MetFree l (⟨"java/lang/String", "isLatin1", "()Z"⟩ : MethodName) (head1 (Jvm.Cond.code (⟨"java/lang/String", "isLatin1", "()Z"⟩ : MethodName) jdk_42_method_154_code 1 (some .boolean) :: ws) ({ frames := 0, cells := 0, slots := 0, locals := 0 } : Room)) (fun a U => a = #[(.ref a1)] ∧ Z.Warmed39 U.vm ∧ U.heap = h0) (fun _ _ _ _ _ => True) (fun _ U o U' => ∃ v L, o = .returned v ∧ Q_rm17 Z a1 w2 cz h0 n0 v U'.heap L ∧ FrameEnd U o U' L ({ frames := 0, cells := 0, slots := 0, locals := 0 } : Room).cells ({ frames := 0, cells := 0, slots := 0, locals := 0 } : Room).slots) := by
  refine MetFree.of_bodySF (plainFor_of_name pn_java_lang_String) hisR ?_
  intro p e s m args below meth c s₁ Bd hml0 hP hK
  obtain ⟨rfl, hZ, hh⟩ := hP
  have hx := Bd.exec
  have hby := Bd.bytes
  have hml : c.maxLocals = 1 := hml0
  have hown : s.vm.findClass "java/lang/String" = some m.cls := findClass_of_methodNamed Bd.named
  have hnm := (name_of_methodNamed Bd.named Bd.method).1
  have X0 : Stand p l e ({ frames := 0, cells := 0, slots := 0, locals := 0 } : Room) s m #[(.ref a1)] below meth c s₁ [] 0 0 := Stand.of_body Bd
  have e0 : s₁.heap = h0 := by rw [← hh, Bd.state]; rfl
  have N0 := Fr.nil n0
  suffices hR : ∀ P : State → Prop, (∀ s₂ o v L, s₂.status = .running → Ended s₂ below o → o = .returned v → Q_rm17 Z a1 w2 cz h0 n0 v s₂.heap L → FrameEnd s o s₂ L ({ frames := 0, cells := 0, slots := 0, locals := 0 } : Room).cells ({ frames := 0, cells := 0, slots := 0, locals := 0 } : Room).slots → P s₂) → Rch p.tables e below P (s₁.setTop (mkF m 0 #[.val (.ref a1)] [])) by
    obtain ⟨s₂, h1, o, h2⟩ := hR (fun s₂ => ∃ o, s₂.status = .running ∧ Ended s₂ below o ∧ ∃ v L, o = .returned v ∧ Q_rm17 Z a1 w2 cz h0 n0 v s₂.heap L ∧ FrameEnd s o s₂ L ({ frames := 0, cells := 0, slots := 0, locals := 0 } : Room).cells ({ frames := 0, cells := 0, slots := 0, locals := 0 } : Room).slots) (fun s₂ o v L q1 q2 q3 q4 q5 => ⟨o, q1, q2, v, L, q3, q4, q5⟩)
    exact ⟨s₂, o, castTop (ef_rm17 m a1) h1, h2⟩
  intro P hPd
  have f101 := P1.ext P0.2
  obtain ⟨T102, X102, e102, st102⟩ := getS2 X0 hx hZ hown (host := "") (Or.inl (ow44 hw)) Via.refl e0 f101 (g := (mkF m 0 #[.val (.ref a1)] [])) rfl (hb hby d17_0)
  refine Rch.go st102 ?_
  refine Rch.go (fun zt zk => XS.ifNo X102.here hx rfl (hb hby d17_3) rfl ((if0 _ _).trans (feq (hcz : ¬ (cz = (0 : Int32)))).1) zk) ?_
  refine Rch.go (fun zt zk => XS.aloadN X102.here hx rfl (hb hby d17_6) rfl rfl zk) ?_
  obtain ⟨T103, X103, e103, st103⟩ := getF X102 hx hZ hown (host := "") (Or.inl (ow29 hw)) Via.refl e102 P2 (g := (mkF m 7 #[.val (.ref a1)] [(.ref a1)])) rfl rfl (hb hby d17_7)
  refine Rch.go st103 ?_
  show Rch _ _ _ _ (T103.setTop (mkF m 10 #[.val (.ref a1)] [(.int w2)]))
  refine Rch.go (fun zt zk => XS.ifNo X103.here hx rfl (hb hby d17_10) rfl ((if0 _ _).trans (teq (hw2 : w2 = (0 : Int32))).2) zk) ?_
  refine Rch.go (fun zt zk => XS.iconst X103.here hx rfl (hb hby d17_13) zk) ?_
  refine Rch.go (fun zt zk => XS.goto X103.here hx rfl (pc0 := 14) (pc' := 18) rfl (hb hby d17_14) (by decide) (by decide) zk) ?_
  obtain ⟨fs, hr, hrun, hended, hW, hsame⟩ := X103.leave (v := some (.int (1 : Int32))) (fun h => by rw [Bd.returns] at h; cases h)
  refine Rch.mk (retN X103 hx (t := .boolean) Bd.returns (by simp) (hb hby d17_18) hr) (hPd _ _ _ _ hrun hended rfl ?_ ⟨⟨_, rfl⟩, hW, hsame.mono (by decide) (by decide)⟩)
  show Q_rm17 Z a1 w2 cz h0 n0 _ T103.heap _
  rw [e103]
  exact ⟨rfl, N0, rfl⟩
theorem ef_rmCiN (m : MethodId) (p1 : Int32) (p2 : Int32) : entryFrame m #[(.int p1), (.int p2), .null] 3 = mkF m 0 #[.val (.int p1), .val (.int p2), .val .null] [] := by first | (simp [entryFrame, mkF, argsToLocals, Value.category]; done) | rfl
theorem pn_jdk_internal_util_Preconditions : plainName "jdk/internal/util/Preconditions" = true := by first | (simp [plainName, overriddenIn]; done) | decide +kernel
theorem d20_0 : decode jdk_41_method_11_code 0 = .ok (.iload_n 0, 1) := by decide +kernel
theorem d20_1 : decode jdk_41_method_11_code 1 = .ok (.ifCond .lt 8, 3) := by decide +kernel
theorem d20_4 : decode jdk_41_method_11_code 4 = .ok (.iload_n 0, 1) := by decide +kernel
theorem d20_5 : decode jdk_41_method_11_code 5 = .ok (.iload_n 1, 1) := by decide +kernel
theorem d20_6 : decode jdk_41_method_11_code 6 = .ok (.if_icmp .lt 10, 3) := by decide +kernel
theorem d20_16 : decode jdk_41_method_11_code 16 = .ok (.iload_n 0, 1) := by decide +kernel
theorem d20_17 : decode jdk_41_method_11_code 17 = .ok (.ireturn, 1) := by decide +kernel
def Q_rmCiN (Z : State) (p1 : Int32) (p2 : Int32) (h0 : Heap) (n0 : Nat) (v : Option Value) (h : Heap) (L : List Loc) : Prop := v = some (.int p1) ∧ Fr n0 L ∧ h = h0
set_option maxRecDepth 65536 in
set_option maxHeartbeats 40000000 in
theorem rmCiN (l : Launch) (Z : State) (a0 : Array Value) (hw : ∀ d ∈ tables_1, d.before a0 Z = true) (ws : List Jvm.Cond) (p1 : Int32) (p2 : Int32) (h0 : Heap) (n0 : Nat) (Z0 : n0 ≤ h0.size) (hk : 0 ≤ p1.toInt ∧ p1.toInt < p2.toInt) :
    MetFree l (⟨"jdk/internal/util/Preconditions", "checkIndex", "(IILjava/util/function/BiFunction;)I"⟩ : MethodName) (head1 (Jvm.Cond.code (⟨"jdk/internal/util/Preconditions", "checkIndex", "(IILjava/util/function/BiFunction;)I"⟩ : MethodName) jdk_41_method_11_code 3 (some .int) :: ws) ({ frames := 0, cells := 0, slots := 0, locals := 0 } : Room)) (fun a U => a = #[(.int p1), (.int p2), .null] ∧ Z.Warmed39 U.vm ∧ U.heap = h0) (fun _ _ _ _ _ => True) (fun _ U o U' => ∃ v L, o = .returned v ∧ Q_rmCiN Z p1 p2 h0 n0 v U'.heap L ∧ FrameEnd U o U' L ({ frames := 0, cells := 0, slots := 0, locals := 0 } : Room).cells ({ frames := 0, cells := 0, slots := 0, locals := 0 } : Room).slots) := by
  refine MetFree.of_bodySF (plainFor_of_name pn_jdk_internal_util_Preconditions) hisR ?_
  intro p e s m args below meth c s₁ Bd hml0 hP hK
  obtain ⟨rfl, hZ, hh⟩ := hP
  have hx := Bd.exec
  have hby := Bd.bytes
  have hml : c.maxLocals = 3 := hml0
  have hown : s.vm.findClass "jdk/internal/util/Preconditions" = some m.cls := findClass_of_methodNamed Bd.named
  have hnm := (name_of_methodNamed Bd.named Bd.method).1
  have X0 : Stand p l e ({ frames := 0, cells := 0, slots := 0, locals := 0 } : Room) s m #[(.int p1), (.int p2), .null] below meth c s₁ [] 0 0 := Stand.of_body Bd
  have e0 : s₁.heap = h0 := by rw [← hh, Bd.state]; rfl
  have N0 := Fr.nil n0
  suffices hR : ∀ P : State → Prop, (∀ s₂ o v L, s₂.status = .running → Ended s₂ below o → o = .returned v → Q_rmCiN Z p1 p2 h0 n0 v s₂.heap L → FrameEnd s o s₂ L ({ frames := 0, cells := 0, slots := 0, locals := 0 } : Room).cells ({ frames := 0, cells := 0, slots := 0, locals := 0 } : Room).slots → P s₂) → Rch p.tables e below P (s₁.setTop (mkF m 0 #[.val (.int p1), .val (.int p2), .val .null] [])) by
    obtain ⟨s₂, h1, o, h2⟩ := hR (fun s₂ => ∃ o, s₂.status = .running ∧ Ended s₂ below o ∧ ∃ v L, o = .returned v ∧ Q_rmCiN Z p1 p2 h0 n0 v s₂.heap L ∧ FrameEnd s o s₂ L ({ frames := 0, cells := 0, slots := 0, locals := 0 } : Room).cells ({ frames := 0, cells := 0, slots := 0, locals := 0 } : Room).slots) (fun s₂ o v L q1 q2 q3 q4 q5 => ⟨o, q1, q2, v, L, q3, q4, q5⟩)
    exact ⟨s₂, o, castTop (ef_rmCiN m p1 p2) h1, h2⟩
  intro P hPd
  refine Rch.go (fun zt zk => XS.iloadN X0.here hx rfl (hb hby d20_0) rfl zk) ?_
  refine Rch.go (fun zt zk => XS.ifNo X0.here hx rfl (hb hby d20_1) rfl ((if0 _ _).trans (flt (own_nneg hk.1 : ¬ (p1 < (0 : Int32)))).1) zk) ?_
  refine Rch.go (fun zt zk => XS.iloadN X0.here hx rfl (hb hby d20_4) rfl zk) ?_
  refine Rch.go (fun zt zk => XS.iloadN X0.here hx rfl (hb hby d20_5) rfl zk) ?_
  show Rch _ _ _ _ (s₁.setTop (mkF m 6 #[.val (.int p1), .val (.int p2), .val .null] [(.int p2), (.int p1)]))
  refine Rch.go (fun zt zk => XS.icmpYes X0.here hx rfl (pc0 := 6) (pc' := 16) rfl (hb hby d20_6) rfl (tlt (own_lt hk.2 : p1 < p2)).1 (by decide) (by decide) zk) ?_
  refine Rch.go (fun zt zk => XS.iloadN X0.here hx rfl (hb hby d20_16) rfl zk) ?_
  obtain ⟨fs, hr, hrun, hended, hW, hsame⟩ := X0.leave (v := some (.int p1)) (fun h => by rw [Bd.returns] at h; cases h)
  refine Rch.mk (retI X0 hx Bd.returns (hb hby d20_17) hr) (hPd _ _ _ _ hrun hended rfl ?_ ⟨⟨_, rfl⟩, hW, hsame.mono (by decide) (by decide)⟩)
  show Q_rmCiN Z p1 p2 h0 n0 _ s₁.heap _
  rw [e0]
  exact ⟨rfl, N0, rfl⟩
theorem ef_rmCiR (m : MethodId) (p1 : Int32) (p2 : Int32) (w4 : Addr) : entryFrame m #[(.int p1), (.int p2), (.ref w4)] 3 = mkF m 0 #[.val (.int p1), .val (.int p2), .val (.ref w4)] [] := by first | (simp [entryFrame, mkF, argsToLocals, Value.category]; done) | rfl
def Q_rmCiR (Z : State) (p1 : Int32) (p2 : Int32) (w4 : Addr) (h0 : Heap) (n0 : Nat) (v : Option Value) (h : Heap) (L : List Loc) : Prop := v = some (.int p1) ∧ Fr n0 L ∧ h = h0
set_option maxRecDepth 65536 in
set_option maxHeartbeats 40000000 in
theorem rmCiR (l : Launch) (Z : State) (a0 : Array Value) (hw : ∀ d ∈ tables_1, d.before a0 Z = true) (ws : List Jvm.Cond) (p1 : Int32) (p2 : Int32) (w4 : Addr) (h0 : Heap) (n0 : Nat) (Z0 : n0 ≤ h0.size) (hk : 0 ≤ p1.toInt ∧ p1.toInt < p2.toInt) :
    MetFree l (⟨"jdk/internal/util/Preconditions", "checkIndex", "(IILjava/util/function/BiFunction;)I"⟩ : MethodName) (head1 (Jvm.Cond.code (⟨"jdk/internal/util/Preconditions", "checkIndex", "(IILjava/util/function/BiFunction;)I"⟩ : MethodName) jdk_41_method_11_code 3 (some .int) :: ws) ({ frames := 0, cells := 0, slots := 0, locals := 0 } : Room)) (fun a U => a = #[(.int p1), (.int p2), (.ref w4)] ∧ Z.Warmed39 U.vm ∧ U.heap = h0) (fun _ _ _ _ _ => True) (fun _ U o U' => ∃ v L, o = .returned v ∧ Q_rmCiR Z p1 p2 w4 h0 n0 v U'.heap L ∧ FrameEnd U o U' L ({ frames := 0, cells := 0, slots := 0, locals := 0 } : Room).cells ({ frames := 0, cells := 0, slots := 0, locals := 0 } : Room).slots) := by
  refine MetFree.of_bodySF (plainFor_of_name pn_jdk_internal_util_Preconditions) hisR ?_
  intro p e s m args below meth c s₁ Bd hml0 hP hK
  obtain ⟨rfl, hZ, hh⟩ := hP
  have hx := Bd.exec
  have hby := Bd.bytes
  have hml : c.maxLocals = 3 := hml0
  have hown : s.vm.findClass "jdk/internal/util/Preconditions" = some m.cls := findClass_of_methodNamed Bd.named
  have hnm := (name_of_methodNamed Bd.named Bd.method).1
  have X0 : Stand p l e ({ frames := 0, cells := 0, slots := 0, locals := 0 } : Room) s m #[(.int p1), (.int p2), (.ref w4)] below meth c s₁ [] 0 0 := Stand.of_body Bd
  have e0 : s₁.heap = h0 := by rw [← hh, Bd.state]; rfl
  have N0 := Fr.nil n0
  suffices hR : ∀ P : State → Prop, (∀ s₂ o v L, s₂.status = .running → Ended s₂ below o → o = .returned v → Q_rmCiR Z p1 p2 w4 h0 n0 v s₂.heap L → FrameEnd s o s₂ L ({ frames := 0, cells := 0, slots := 0, locals := 0 } : Room).cells ({ frames := 0, cells := 0, slots := 0, locals := 0 } : Room).slots → P s₂) → Rch p.tables e below P (s₁.setTop (mkF m 0 #[.val (.int p1), .val (.int p2), .val (.ref w4)] [])) by
    obtain ⟨s₂, h1, o, h2⟩ := hR (fun s₂ => ∃ o, s₂.status = .running ∧ Ended s₂ below o ∧ ∃ v L, o = .returned v ∧ Q_rmCiR Z p1 p2 w4 h0 n0 v s₂.heap L ∧ FrameEnd s o s₂ L ({ frames := 0, cells := 0, slots := 0, locals := 0 } : Room).cells ({ frames := 0, cells := 0, slots := 0, locals := 0 } : Room).slots) (fun s₂ o v L q1 q2 q3 q4 q5 => ⟨o, q1, q2, v, L, q3, q4, q5⟩)
    exact ⟨s₂, o, castTop (ef_rmCiR m p1 p2 w4) h1, h2⟩
  intro P hPd
  refine Rch.go (fun zt zk => XS.iloadN X0.here hx rfl (hb hby d20_0) rfl zk) ?_
  refine Rch.go (fun zt zk => XS.ifNo X0.here hx rfl (hb hby d20_1) rfl ((if0 _ _).trans (flt (own_nneg hk.1 : ¬ (p1 < (0 : Int32)))).1) zk) ?_
  refine Rch.go (fun zt zk => XS.iloadN X0.here hx rfl (hb hby d20_4) rfl zk) ?_
  refine Rch.go (fun zt zk => XS.iloadN X0.here hx rfl (hb hby d20_5) rfl zk) ?_
  show Rch _ _ _ _ (s₁.setTop (mkF m 6 #[.val (.int p1), .val (.int p2), .val (.ref w4)] [(.int p2), (.int p1)]))
  refine Rch.go (fun zt zk => XS.icmpYes X0.here hx rfl (pc0 := 6) (pc' := 16) rfl (hb hby d20_6) rfl (tlt (own_lt hk.2 : p1 < p2)).1 (by decide) (by decide) zk) ?_
  refine Rch.go (fun zt zk => XS.iloadN X0.here hx rfl (hb hby d20_16) rfl zk) ?_
  obtain ⟨fs, hr, hrun, hended, hW, hsame⟩ := X0.leave (v := some (.int p1)) (fun h => by rw [Bd.returns] at h; cases h)
  refine Rch.mk (retI X0 hx Bd.returns (hb hby d20_17) hr) (hPd _ _ _ _ hrun hended rfl ?_ ⟨⟨_, rfl⟩, hW, hsame.mono (by decide) (by decide)⟩)
  show Q_rmCiR Z p1 p2 w4 h0 n0 _ s₁.heap _
  rw [e0]
  exact ⟨rfl, N0, rfl⟩
theorem ef_rm19 (m : MethodId) (p1 : Int32) (p2 : Int32) : entryFrame m #[(.int p1), (.int p2)] 2 = mkF m 0 #[.val (.int p1), .val (.int p2)] [] := by first | (simp [entryFrame, mkF, argsToLocals, Value.category]; done) | rfl
theorem d19_0 : decode jdk_42_method_155_code 0 = .ok (.iload_n 0, 1) := by decide +kernel
theorem d19_1 : decode jdk_42_method_155_code 1 = .ok (.iload_n 1, 1) := by decide +kernel
theorem d19_2 : decode jdk_42_method_155_code 2 = .ok (.getstatic 1053, 3) := by decide +kernel
theorem d19_5 : decode jdk_42_method_155_code 5 = .ok (.invokestatic 1059, 3) := by decide +kernel
theorem pd__IILjava_util_function_BiFunction__I : parseMethodDescriptor "(IILjava/util/function/BiFunction;)I" = some ⟨[.int, .int, (.object "java/util/function/BiFunction")], some .int⟩ := by decide +kernel
theorem d19_8 : decode jdk_42_method_155_code 8 = .ok (.pop, 1) := by decide +kernel
theorem d19_9 : decode jdk_42_method_155_code 9 = .ok (.return_, 1) := by decide +kernel
def Q_rm19 (Z : State) (p1 : Int32) (p2 : Int32) (rG : Value) (h0 : Heap) (n0 : Nat) (v : Option Value) (h : Heap) (L : List Loc) : Prop := v = none ∧ Fr n0 L ∧ h = h0
set_option maxRecDepth 65536 in
set_option maxHeartbeats 40000000 in
theorem rm19 (l : Launch) (Z : State) (a0 : Array Value) (hw : ∀ d ∈ tables_1, d.before a0 Z = true) (ws : List Jvm.Cond) (p1 : Int32) (p2 : Int32) (rG : Value) (h0 : Heap) (n0 : Nat) (Z0 : n0 ≤ h0.size) (P0 : Old Z n0 h0) (P1 : Sta Z Z.heap "jdk/internal/util/Preconditions" "SIOOBE_FORMATTER" "Ljava/util/function/BiFunction;" rG) (hk : 0 ≤ p1.toInt ∧ p1.toInt < p2.toInt) (hrG : rG.isRef = true) :
    MetFree l (⟨"java/lang/String", "checkIndex", "(II)V"⟩ : MethodName) (head1 (Jvm.Cond.code (⟨"java/lang/String", "checkIndex", "(II)V"⟩ : MethodName) jdk_42_method_155_code 2 none :: ws) ({ frames := 1, cells := 0, slots := 0, locals := 14 } : Room)) (fun a U => a = #[(.int p1), (.int p2)] ∧ Z.Warmed39 U.vm ∧ U.heap = h0) (fun _ _ _ _ _ => True) (fun _ U o U' => ∃ v L, o = .returned v ∧ Q_rm19 Z p1 p2 rG h0 n0 v U'.heap L ∧ FrameEnd U o U' L ({ frames := 1, cells := 0, slots := 0, locals := 14 } : Room).cells ({ frames := 1, cells := 0, slots := 0, locals := 14 } : Room).slots) := by
  refine MetFree.of_bodySF (plainFor_of_name pn_java_lang_String) hisR ?_
  intro p e s m args below meth c s₁ Bd hml0 hP hK
  obtain ⟨rfl, hZ, hh⟩ := hP
  have hx := Bd.exec
  have hby := Bd.bytes
  have hml : c.maxLocals = 2 := hml0
  have hown : s.vm.findClass "java/lang/String" = some m.cls := findClass_of_methodNamed Bd.named
  have hnm := (name_of_methodNamed Bd.named Bd.method).1
  have X0 : Stand p l e ({ frames := 1, cells := 0, slots := 0, locals := 14 } : Room) s m #[(.int p1), (.int p2)] below meth c s₁ [] 0 0 := Stand.of_body Bd
  have e0 : s₁.heap = h0 := by rw [← hh, Bd.state]; rfl
  have N0 := Fr.nil n0
  suffices hR : ∀ P : State → Prop, (∀ s₂ o v L, s₂.status = .running → Ended s₂ below o → o = .returned v → Q_rm19 Z p1 p2 rG h0 n0 v s₂.heap L → FrameEnd s o s₂ L ({ frames := 1, cells := 0, slots := 0, locals := 14 } : Room).cells ({ frames := 1, cells := 0, slots := 0, locals := 14 } : Room).slots → P s₂) → Rch p.tables e below P (s₁.setTop (mkF m 0 #[.val (.int p1), .val (.int p2)] [])) by
    obtain ⟨s₂, h1, o, h2⟩ := hR (fun s₂ => ∃ o, s₂.status = .running ∧ Ended s₂ below o ∧ ∃ v L, o = .returned v ∧ Q_rm19 Z p1 p2 rG h0 n0 v s₂.heap L ∧ FrameEnd s o s₂ L ({ frames := 1, cells := 0, slots := 0, locals := 14 } : Room).cells ({ frames := 1, cells := 0, slots := 0, locals := 14 } : Room).slots) (fun s₂ o v L q1 q2 q3 q4 q5 => ⟨o, q1, q2, v, L, q3, q4, q5⟩)
    exact ⟨s₂, o, castTop (ef_rm19 m p1 p2) h1, h2⟩
  intro P hPd
  rcases ref_cases hrG with rfl | ⟨w4, rfl⟩
  · skip
    refine Rch.go (fun zt zk => XS.iloadN X0.here hx rfl (hb hby d19_0) rfl zk) ?_
    refine Rch.go (fun zt zk => XS.iloadN X0.here hx rfl (hb hby d19_1) rfl zk) ?_
    have f101 := P1.ext P0.2
    obtain ⟨T102, X102, e102, st102⟩ := getS2 X0 hx hZ hown (host := "") (Or.inl (ow54 hw)) Via.refl e0 f101 (g := (mkF m 2 #[.val (.int p1), .val (.int p2)] [(.int p2), (.int p1)])) rfl (hb hby d19_2)
    refine Rch.go st102 ?_
    obtain ⟨_, _, ⟨T103, L103, k103, n103⟩, -, X103, ⟨Lc103, hQ103, l103, y103, z103⟩, st103⟩ := Jvm.LawKit.callS X102 hx (y := (⟨"jdk/internal/util/Preconditions", "checkIndex", "(IILjava/util/function/BiFunction;)I"⟩ : MethodName)) hown (mvT hZ (ow90 hw)) (mvT hZ (ow91 hw)) (mvT hZ (ow55 hw)) (mvT hZ (ow92 hw)) (by decide) (backOf (W := 0) (rmCiN l Z a0 hw [] (p1) (p2) h0 n0 Z0 (hk)) hZ (ow92 hw) (ow55 hw) (by decide) (by decide)) (g := (mkF m 5 #[.val (.int p1), .val (.int p2)] [.null, (.int p2), (.int p1)])) rfl (by rw [hml]; rfl) (argsL := [(.int p1), (.int p2), .null]) (rest := []) (lenOf pd__IILjava_util_function_BiFunction__I rfl) rfl (by show 2 * 0 + _ ≤ _; exact Nat.le_of_eq rfl) (hb hby d19_5) (fun _ _ => ⟨rfl, e102, (by decide : 0 + 0 ≤ _), (by decide : 0 + 0 ≤ _)⟩)
    dsimp only [Pt.U, Pt.locs, Pt.cells, Pt.slots] at X103 l103 y103 z103 st103 hQ103
    rw [l103, y103, z103] at X103
    obtain ⟨rfl, N103q, eq103⟩ := hQ103
    have N103 := Fr.app N0 N103q
    refine Rch.go st103 ?_
    show Rch _ _ _ _ (T103.setTop (mkF m 8 #[.val (.int p1), .val (.int p2)] [(.int p1)]))
    refine Rch.go (fun zt zk => XS.pop X103.here hx rfl (hb hby d19_8) rfl rfl zk) ?_
    obtain ⟨fs, hr, hrun, hended, hW, hsame⟩ := X103.leave (v := none) (fun _ => rfl)
    refine Rch.mk (X103.returnOut hx Bd.returns (hb hby d19_9) hr) (hPd _ _ _ _ hrun hended rfl ?_ ⟨⟨_, rfl⟩, hW, hsame.mono (by decide) (by decide)⟩)
    show Q_rm19 Z p1 p2 .null h0 n0 _ T103.heap _
    rw [eq103]
    exact ⟨rfl, N103, rfl⟩
  · skip
    refine Rch.go (fun zt zk => XS.iloadN X0.here hx rfl (hb hby d19_0) rfl zk) ?_
    refine Rch.go (fun zt zk => XS.iloadN X0.here hx rfl (hb hby d19_1) rfl zk) ?_
    have f104 := P1.ext P0.2
    obtain ⟨T105, X105, e105, st105⟩ := getS2 X0 hx hZ hown (host := "") (Or.inl (ow54 hw)) Via.refl e0 f104 (g := (mkF m 2 #[.val (.int p1), .val (.int p2)] [(.int p2), (.int p1)])) rfl (hb hby d19_2)
    refine Rch.go st105 ?_
    show Rch _ _ _ _ (T105.setTop (mkF m 5 #[.val (.int p1), .val (.int p2)] [(.ref w4), (.int p2), (.int p1)]))
    obtain ⟨_, _, ⟨T106, L106, k106, n106⟩, -, X106, ⟨Lc106, hQ106, l106, y106, z106⟩, st106⟩ := Jvm.LawKit.callS X105 hx (y := (⟨"jdk/internal/util/Preconditions", "checkIndex", "(IILjava/util/function/BiFunction;)I"⟩ : MethodName)) hown (mvT hZ (ow90 hw)) (mvT hZ (ow91 hw)) (mvT hZ (ow55 hw)) (mvT hZ (ow92 hw)) (by decide) (backOf (W := 0) (rmCiR l Z a0 hw [] (p1) (p2) (w4) h0 n0 Z0 (hk)) hZ (ow92 hw) (ow55 hw) (by decide) (by decide)) (g := (mkF m 5 #[.val (.int p1), .val (.int p2)] [(.ref w4), (.int p2), (.int p1)])) rfl (by rw [hml]; rfl) (argsL := [(.int p1), (.int p2), (.ref w4)]) (rest := []) (lenOf pd__IILjava_util_function_BiFunction__I rfl) rfl (by show 2 * 0 + _ ≤ _; exact Nat.le_of_eq rfl) (hb hby d19_5) (fun _ _ => ⟨rfl, e105, (by decide : 0 + 0 ≤ _), (by decide : 0 + 0 ≤ _)⟩)
    dsimp only [Pt.U, Pt.locs, Pt.cells, Pt.slots] at X106 l106 y106 z106 st106 hQ106
    rw [l106, y106, z106] at X106
    obtain ⟨rfl, N106q, eq106⟩ := hQ106
    have N106 := Fr.app N0 N106q
    refine Rch.go st106 ?_
    refine Rch.go (fun zt zk => XS.pop X106.here hx rfl (hb hby d19_8) rfl rfl zk) ?_
    obtain ⟨fs, hr, hrun, hended, hW, hsame⟩ := X106.leave (v := none) (fun _ => rfl)
    refine Rch.mk (X106.returnOut hx Bd.returns (hb hby d19_9) hr) (hPd _ _ _ _ hrun hended rfl ?_ ⟨⟨_, rfl⟩, hW, hsame.mono (by decide) (by decide)⟩)
    show Q_rm19 Z p1 p2 (.ref w4) h0 n0 _ T106.heap _
    rw [eq106]
    exact ⟨rfl, N106, rfl⟩
theorem ef_rm18 (m : MethodId) (b0 : Addr) (k1 : Int32) : entryFrame m #[(.ref b0), (.int k1)] 2 = mkF m 0 #[.val (.ref b0), .val (.int k1)] [] := by first | (simp [entryFrame, mkF, argsToLocals, Value.category]; done) | rfl
theorem pn_java_lang_StringLatin1 : plainName "java/lang/StringLatin1" = true := by first | (simp [plainName, overriddenIn]; done) | decide +kernel
theorem d18_0 : decode jdk_43_method_2_code 0 = .ok (.iload_n 1, 1) := by decide +kernel
theorem d18_1 : decode jdk_43_method_2_code 1 = .ok (.aload_n 0, 1) := by decide +kernel
theorem d18_2 : decode jdk_43_method_2_code 2 = .ok (.arraylength, 1) := by decide +kernel
theorem d18_3 : decode jdk_43_method_2_code 3 = .ok (.invokestatic 9, 3) := by decide +kernel
theorem pd__II_V : parseMethodDescriptor "(II)V" = some ⟨[.int, .int], none⟩ := by decide +kernel
theorem d18_6 : decode jdk_43_method_2_code 6 = .ok (.aload_n 0, 1) := by decide +kernel
theorem d18_7 : decode jdk_43_method_2_code 7 = .ok (.iload_n 1, 1) := by decide +kernel
theorem d18_8 : decode jdk_43_method_2_code 8 = .ok (.baload, 1) := by decide +kernel
theorem d18_9 : decode jdk_43_method_2_code 9 = .ok (.sipush 255, 3) := by decide +kernel
theorem d18_12 : decode jdk_43_method_2_code 12 = .ok (.iand, 1) := by decide +kernel
theorem d18_13 : decode jdk_43_method_2_code 13 = .ok (.i2c, 1) := by decide +kernel
theorem d18_14 : decode jdk_43_method_2_code 14 = .ok (.ireturn, 1) := by decide +kernel
def Q_rm18 (Z : State) (b0 : Addr) (k1 : Int32) (kb : ClassId) (zz : Int32) (vs : List Value) (c1 : Int32) (rG : Value) (h0 : Heap) (n0 : Nat) (v : Option Value) (h : Heap) (L : List Loc) : Prop := v = some (.int c1) ∧ Fr n0 L ∧ h = h0
set_option maxRecDepth 65536 in
set_option maxHeartbeats 40000000 in
theorem rm18 (l : Launch) (Z : State) (a0 : Array Value) (hw : ∀ d ∈ tables_1, d.before a0 Z = true) (ws : List Jvm.Cond) (b0 : Addr) (k1 : Int32) (kb : ClassId) (zz : Int32) (vs : List Value) (c1 : Int32) (rG : Value) (h0 : Heap) (n0 : Nat) (Z0 : n0 ≤ h0.size) (P0 : Old Z n0 h0) (P1 : Sta Z Z.heap "jdk/internal/util/Preconditions" "SIOOBE_FORMATTER" "Ljava/util/function/BiFunction;" rG) (P2 : Arv Z h0 b0 kb .byte zz vs (.int (0 : Int32))) (hk : 0 ≤ k1.toInt ∧ k1.toInt < zz.toInt) (hbv : vs.getD k1.toNatClampNeg (.int (0 : Int32)) = .int (bOf c1)) (hc : R8 c1) (hrG : rG.isRef = true) :
    MetFree l (⟨"java/lang/StringLatin1", "charAt", "([BI)C"⟩ : MethodName) (head1 (Jvm.Cond.code (⟨"java/lang/StringLatin1", "charAt", "([BI)C"⟩ : MethodName) jdk_43_method_2_code 2 (some .char) :: ws) ({ frames := 2, cells := 0, slots := 0, locals := 27 } : Room)) (fun a U => a = #[(.ref b0), (.int k1)] ∧ Z.Warmed39 U.vm ∧ U.heap = h0) (fun _ _ _ _ _ => True) (fun _ U o U' => ∃ v L, o = .returned v ∧ Q_rm18 Z b0 k1 kb zz vs c1 rG h0 n0 v U'.heap L ∧ FrameEnd U o U' L ({ frames := 2, cells := 0, slots := 0, locals := 27 } : Room).cells ({ frames := 2, cells := 0, slots := 0, locals := 27 } : Room).slots) := by
  refine MetFree.of_bodySF (plainFor_of_name pn_java_lang_StringLatin1) hisR ?_
  intro p e s m args below meth c s₁ Bd hml0 hP hK
  obtain ⟨rfl, hZ, hh⟩ := hP
  have hx := Bd.exec
  have hby := Bd.bytes
  have hml : c.maxLocals = 2 := hml0
  have hown : s.vm.findClass "java/lang/StringLatin1" = some m.cls := findClass_of_methodNamed Bd.named
  have hnm := (name_of_methodNamed Bd.named Bd.method).1
  have X0 : Stand p l e ({ frames := 2, cells := 0, slots := 0, locals := 27 } : Room) s m #[(.ref b0), (.int k1)] below meth c s₁ [] 0 0 := Stand.of_body Bd
  have e0 : s₁.heap = h0 := by rw [← hh, Bd.state]; rfl
  have N0 := Fr.nil n0
  suffices hR : ∀ P : State → Prop, (∀ s₂ o v L, s₂.status = .running → Ended s₂ below o → o = .returned v → Q_rm18 Z b0 k1 kb zz vs c1 rG h0 n0 v s₂.heap L → FrameEnd s o s₂ L ({ frames := 2, cells := 0, slots := 0, locals := 27 } : Room).cells ({ frames := 2, cells := 0, slots := 0, locals := 27 } : Room).slots → P s₂) → Rch p.tables e below P (s₁.setTop (mkF m 0 #[.val (.ref b0), .val (.int k1)] [])) by
    obtain ⟨s₂, h1, o, h2⟩ := hR (fun s₂ => ∃ o, s₂.status = .running ∧ Ended s₂ below o ∧ ∃ v L, o = .returned v ∧ Q_rm18 Z b0 k1 kb zz vs c1 rG h0 n0 v s₂.heap L ∧ FrameEnd s o s₂ L ({ frames := 2, cells := 0, slots := 0, locals := 27 } : Room).cells ({ frames := 2, cells := 0, slots := 0, locals := 27 } : Room).slots) (fun s₂ o v L q1 q2 q3 q4 q5 => ⟨o, q1, q2, v, L, q3, q4, q5⟩)
    exact ⟨s₂, o, castTop (ef_rm18 m b0 k1) h1, h2⟩
  intro P hPd
  refine Rch.go (fun zt zk => XS.iloadN X0.here hx rfl (hb hby d18_0) rfl zk) ?_
  refine Rch.go (fun zt zk => XS.aloadN X0.here hx rfl (hb hby d18_1) rfl rfl zk) ?_
  obtain ⟨cl101, Ar101, q101, S101, M101, H101, G101⟩ := id P2
  refine Rch.go (X0.arraylength hx (by rw [e0]; exact Ar101.1) (State.isArrayOf_alike hZ.alike Ar101.2.1) (g := (mkF m 2 #[.val (.ref b0), .val (.int k1)] [(.ref b0), (.int k1)])) rfl rfl (hb hby d18_2)) ?_
  rw [len_of S101 M101]
  obtain ⟨_, _, ⟨T102, L102, k102, n102⟩, -, X102, ⟨Lc102, hQ102, l102, y102, z102⟩, st102⟩ := Jvm.LawKit.callS X0 hx (y := (⟨"java/lang/String", "checkIndex", "(II)V"⟩ : MethodName)) hown (mvT hZ (ow87 hw)) (mvT hZ (ow88 hw)) (mvT hZ (ow11 hw)) (mvT hZ (ow89 hw)) (by decide) (backOf (W := 0) (rm19 l Z a0 hw [] (k1) (zz) (rG) h0 n0 Z0 (P0) (P1) (hk) (hrG)) hZ (ow89 hw) (ow11 hw) (by decide) (by decide)) (g := (mkF m 3 #[.val (.ref b0), .val (.int k1)] [(.int zz), (.int k1)])) rfl (by rw [hml]; rfl) (argsL := [(.int k1), (.int zz)]) (rest := []) (lenOf pd__II_V rfl) rfl (by show 2 * 0 + _ ≤ _; exact Nat.le_of_eq rfl) (hb hby d18_3) (fun _ _ => ⟨rfl, e0, (by decide : 0 + 0 ≤ _), (by decide : 0 + 0 ≤ _)⟩)
  dsimp only [Pt.U, Pt.locs, Pt.cells, Pt.slots] at X102 l102 y102 z102 st102 hQ102
  rw [l102, y102, z102] at X102
  obtain ⟨rfl, N102q, eq102⟩ := hQ102
  have N102 := Fr.app N0 N102q
  refine Rch.go st102 ?_
  show Rch _ _ _ _ (T102.setTop (mkF m 6 #[.val (.ref b0), .val (.int k1)] []))
  refine Rch.go (fun zt zk => XS.aloadN X102.here hx rfl (hb hby d18_6) rfl rfl zk) ?_
  refine Rch.go (fun zt zk => XS.iloadN X102.here hx rfl (hb hby d18_7) rfl zk) ?_
  obtain ⟨cl103, Ar103, q103, S103, M103, H103, G103⟩ := id P2
  have hin103 := inb_of (j := k1) S103 ⟨own_nneg hk.1, own_lt hk.2⟩
  refine Rch.go (X102.baloadBytes hx (j := k1) (v := (.int (bOf c1))) (by rw [eq102]; exact Ar103.1) (State.isArrayOf_alike hZ.alike Ar103.2.1) Ar103.2.2 hin103 (Has.at H103 hin103 hbv) (g := (mkF m 8 #[.val (.ref b0), .val (.int k1)] [(.int k1), (.ref b0)])) rfl rfl (hb hby d18_8)) ?_
  refine Rch.go (fun zt zk => XS.sipush X102.here hx rfl (hb hby d18_9) zk) ?_
  show Rch _ _ _ _ (T102.setTop (mkF m 12 #[.val (.ref b0), .val (.int k1)] [(.int (255 : Int32)), (.int (bOf c1))]))
  refine Rch.go (fun zt zk => XS.iand X102.here hx rfl (hb hby d18_12) rfl zk) ?_
  refine Rch.go (fun zt zk => XS.i2c X102.here hx rfl (hb hby d18_13) rfl zk) ?_
  obtain ⟨fs, hr, hrun, hended, hW, hsame⟩ := X102.leave (v := some (.int (nar .char (((bOf c1) &&& (255 : Int32)).toUInt32.toUInt16.toUInt32.toInt32)))) (fun h => by rw [Bd.returns] at h; cases h)
  refine Rch.mk (retN X102 hx (t := .char) Bd.returns (by simp) (hb hby d18_14) hr) (hPd _ _ _ _ hrun hended rfl ?_ ⟨⟨_, rfl⟩, hW, hsame.mono (by decide) (by decide)⟩)
  show Q_rm18 Z b0 k1 kb zz vs c1 rG h0 n0 _ T102.heap _
  rw [eq102]
  exact ⟨(by rw [own_cOf hc]), N102, rfl⟩
theorem ef_rm16 (m : MethodId) (a1 : Addr) (k1 : Int32) : entryFrame m #[(.ref a1), (.int k1)] 2 = mkF m 0 #[.val (.ref a1), .val (.int k1)] [] := by first | (simp [entryFrame, mkF, argsToLocals, Value.category]; done) | rfl
theorem d16_0 : decode jdk_42_method_56_code 0 = .ok (.aload_n 0, 1) := by decide +kernel
theorem d16_1 : decode jdk_42_method_56_code 1 = .ok (.invokevirtual 492, 3) := by decide +kernel
theorem pd___Z : parseMethodDescriptor "()Z" = some ⟨[], some .boolean⟩ := by decide +kernel
theorem d16_4 : decode jdk_42_method_56_code 4 = .ok (.ifCond .eq 12, 3) := by decide +kernel
theorem d16_7 : decode jdk_42_method_56_code 7 = .ok (.aload_n 0, 1) := by decide +kernel
theorem d16_8 : decode jdk_42_method_56_code 8 = .ok (.getfield 9, 3) := by decide +kernel
theorem d16_11 : decode jdk_42_method_56_code 11 = .ok (.iload_n 1, 1) := by decide +kernel
theorem d16_12 : decode jdk_42_method_56_code 12 = .ok (.invokestatic 495, 3) := by decide +kernel
theorem pd___BI_C : parseMethodDescriptor "([BI)C" = some ⟨[(.array .byte), .int], some .char⟩ := by decide +kernel
theorem d16_15 : decode jdk_42_method_56_code 15 = .ok (.ireturn, 1) := by decide +kernel
def Q_rm16 (Z : State) (a1 : Addr) (k1 : Int32) (b0 : Addr) (kb : ClassId) (zz : Int32) (vs : List Value) (w2 : Int32) (cz : Int32) (c1 : Int32) (rG : Value) (h0 : Heap) (n0 : Nat) (v : Option Value) (h : Heap) (L : List Loc) : Prop := v = some (.int c1) ∧ Fr n0 L ∧ h = h0
set_option maxRecDepth 65536 in
set_option maxHeartbeats 40000000 in
theorem rm16 (l : Launch) (Z : State) (a0 : Array Value) (hw : ∀ d ∈ tables_1, d.before a0 Z = true) (ws : List Jvm.Cond) (a1 : Addr) (k1 : Int32) (b0 : Addr) (kb : ClassId) (zz : Int32) (vs : List Value) (w2 : Int32) (cz : Int32) (c1 : Int32) (rG : Value) (h0 : Heap) (n0 : Nat) (Z0 : n0 ≤ h0.size) (P0 : Old Z n0 h0) (P1 : Sta Z Z.heap "java/lang/String" "COMPACT_STRINGS" "Z" (.int cz)) (P2 : Sta Z Z.heap "jdk/internal/util/Preconditions" "SIOOBE_FORMATTER" "Ljava/util/function/BiFunction;" rG) (P3 : Exa Z h0 a1 "java/lang/String") (P4 : Fld Z h0 a1 "java/lang/String" "coder" "B" (.int w2)) (P5 : Fld Z h0 a1 "java/lang/String" "value" "[B" (.ref b0)) (P6 : Arv Z h0 b0 kb .byte zz vs (.int (0 : Int32))) (hk : 0 ≤ k1.toInt ∧ k1.toInt < zz.toInt) (hbv : vs.getD k1.toNatClampNeg (.int (0 : Int32)) = .int (bOf c1)) (hc : R8 c1) (hrG : rG.isRef = true) (hcz : ¬ (cz = (0 : Int32))) (hw2 : w2 = (0 : Int32)) :
    MetFree l (⟨"java/lang/String", "charAt", "(I)C"⟩ : MethodName) (head1 (Jvm.Cond.code (⟨"java/lang/String", "charAt", "(I)C"⟩ : MethodName) jdk_42_method_56_code 2 (some .char) :: ws) ({ frames := 3, cells := 0, slots := 0, locals := 40 } : Room)) (fun a U => a = #[(.ref a1), (.int k1)] ∧ Z.Warmed39 U.vm ∧ U.heap = h0) (fun _ _ _ _ _ => True) (fun _ U o U' => ∃ v L, o = .returned v ∧ Q_rm16 Z a1 k1 b0 kb zz vs w2 cz c1 rG h0 n0 v U'.heap L ∧ FrameEnd U o U' L ({ frames := 3, cells := 0, slots := 0, locals := 40 } : Room).cells ({ frames := 3, cells := 0, slots := 0, locals := 40 } : Room).slots) := by
  refine MetFree.of_bodySF (plainFor_of_name pn_java_lang_String) hisR ?_
  intro p e s m args below meth c s₁ Bd hml0 hP hK
  obtain ⟨rfl, hZ, hh⟩ := hP
  have hx := Bd.exec
  have hby := Bd.bytes
  have hml : c.maxLocals = 2 := hml0
  have hown : s.vm.findClass "java/lang/String" = some m.cls := findClass_of_methodNamed Bd.named
  have hnm := (name_of_methodNamed Bd.named Bd.method).1
  have X0 : Stand p l e ({ frames := 3, cells := 0, slots := 0, locals := 40 } : Room) s m #[(.ref a1), (.int k1)] below meth c s₁ [] 0 0 := Stand.of_body Bd
  have e0 : s₁.heap = h0 := by rw [← hh, Bd.state]; rfl
  have N0 := Fr.nil n0
  suffices hR : ∀ P : State → Prop, (∀ s₂ o v L, s₂.status = .running → Ended s₂ below o → o = .returned v → Q_rm16 Z a1 k1 b0 kb zz vs w2 cz c1 rG h0 n0 v s₂.heap L → FrameEnd s o s₂ L ({ frames := 3, cells := 0, slots := 0, locals := 40 } : Room).cells ({ frames := 3, cells := 0, slots := 0, locals := 40 } : Room).slots → P s₂) → Rch p.tables e below P (s₁.setTop (mkF m 0 #[.val (.ref a1), .val (.int k1)] [])) by
    obtain ⟨s₂, h1, o, h2⟩ := hR (fun s₂ => ∃ o, s₂.status = .running ∧ Ended s₂ below o ∧ ∃ v L, o = .returned v ∧ Q_rm16 Z a1 k1 b0 kb zz vs w2 cz c1 rG h0 n0 v s₂.heap L ∧ FrameEnd s o s₂ L ({ frames := 3, cells := 0, slots := 0, locals := 40 } : Room).cells ({ frames := 3, cells := 0, slots := 0, locals := 40 } : Room).slots) (fun s₂ o v L q1 q2 q3 q4 q5 => ⟨o, q1, q2, v, L, q3, q4, q5⟩)
    exact ⟨s₂, o, castTop (ef_rm16 m a1 k1) h1, h2⟩
  intro P hPd
  refine Rch.go (fun zt zk => XS.aloadN X0.here hx rfl (hb hby d16_0) rfl rfl zk) ?_
  obtain ⟨cq101, kq101, q101a, q101b, q101c⟩ := isOf hZ e0 P3
  obtain ⟨_, _, ⟨T101, L101, k101, n101⟩, -, X101, ⟨Lc101, hQ101, l101, y101, z101⟩, st101⟩ := X0.virtualBack hx (y := (⟨"java/lang/String", "isLatin1", "()Z"⟩ : MethodName)) (z := (⟨"java/lang/String", "isLatin1", "()Z"⟩ : MethodName)) hown (mvT hZ (ow78 hw)) (mvT hZ (ow79 hw)) (notFace_of_selects (args := #[]) (mvT hZ (ow81 hw))) (mvT hZ (ow81 hw)) (mvT hZ (ow80 hw)) (by decide) (backOf (W := 0) (rm17 l Z a0 hw [] (a1) (w2) (cz) h0 n0 Z0 (P0) (P1) (P4) (hcz) (hw2)) hZ (ow82 hw) (ow11 hw) (by decide) (by decide)) q101a q101c (g := (mkF m 1 #[.val (.ref a1), .val (.int k1)] [(.ref a1)])) rfl (by rw [hml]; rfl) (Steps.refl _) (argsL := []) (rest := []) (lenOf pd___Z rfl) rfl (by show 2 * 0 + _ ≤ _; exact Nat.le_of_eq rfl) (hb hby d16_1) (fun _ _ => ⟨rfl, e0, (by decide : 0 + 0 ≤ _), (by decide : 0 + 0 ≤ _)⟩)
  dsimp only [Pt.U, Pt.locs, Pt.cells, Pt.slots] at X101 l101 y101 z101 st101 hQ101
  rw [l101, y101, z101] at X101
  obtain ⟨rfl, N101q, eq101⟩ := hQ101
  have N101 := Fr.app N0 N101q
  refine Rch.go (fun zt zk => st101.trans zk) ?_
  refine Rch.go (fun zt zk => XS.ifNo X101.here hx rfl (hb hby d16_4) rfl ((if0 _ _).trans (feq (by decide : ¬ ((1 : Int32) = (0 : Int32)))).1) zk) ?_
  refine Rch.go (fun zt zk => XS.aloadN X101.here hx rfl (hb hby d16_7) rfl rfl zk) ?_
  show Rch _ _ _ _ (T101.setTop (mkF m 8 #[.val (.ref a1), .val (.int k1)] [(.ref a1)]))
  obtain ⟨T102, X102, e102, st102⟩ := getF X101 hx hZ hown (host := "") (Or.inl (ow28 hw)) Via.refl eq101 P5 (g := (mkF m 8 #[.val (.ref a1), .val (.int k1)] [(.ref a1)])) rfl rfl (hb hby d16_8)
  refine Rch.go st102 ?_
  refine Rch.go (fun zt zk => XS.iloadN X102.here hx rfl (hb hby d16_11) rfl zk) ?_
  obtain ⟨_, _, ⟨T103, L103, k103, n103⟩, -, X103, ⟨Lc103, hQ103, l103, y103, z103⟩, st103⟩ := Jvm.LawKit.callS X102 hx (y := (⟨"java/lang/StringLatin1", "charAt", "([BI)C"⟩ : MethodName)) hown (mvT hZ (ow83 hw)) (mvT hZ (ow84 hw)) (mvT hZ (ow85 hw)) (mvT hZ (ow86 hw)) (by decide) (backOf (W := 0) (rm18 l Z a0 hw [] (b0) (k1) (kb) (zz) (vs) (c1) (rG) h0 n0 Z0 (P0) (P2) (P6) (hk) (hbv) (hc) (hrG)) hZ (ow86 hw) (ow85 hw) (by decide) (by decide)) (g := (mkF m 12 #[.val (.ref a1), .val (.int k1)] [(.int k1), (.ref b0)])) rfl (by rw [hml]; rfl) (argsL := [(.ref b0), (.int k1)]) (rest := []) (lenOf pd___BI_C rfl) rfl (by show 2 * 0 + _ ≤ _; exact Nat.le_of_eq rfl) (hb hby d16_12) (fun _ _ => ⟨rfl, e102, (by decide : 0 + 0 ≤ _), (by decide : 0 + 0 ≤ _)⟩)
  dsimp only [Pt.U, Pt.locs, Pt.cells, Pt.slots] at X103 l103 y103 z103 st103 hQ103
  rw [l103, y103, z103] at X103
  obtain ⟨rfl, N103q, eq103⟩ := hQ103
  have N103 := Fr.app N101 N103q
  refine Rch.go st103 ?_
  obtain ⟨fs, hr, hrun, hended, hW, hsame⟩ := X103.leave (v := some (.int (nar .char c1))) (fun h => by rw [Bd.returns] at h; cases h)
  refine Rch.mk (retN X103 hx (t := .char) Bd.returns (by simp) (hb hby d16_15) hr) (hPd _ _ _ _ hrun hended rfl ?_ ⟨⟨_, rfl⟩, hW, hsame.mono (by decide) (by decide)⟩)
  show Q_rm16 Z a1 k1 b0 kb zz vs w2 cz c1 rG h0 n0 _ T103.heap _
  rw [eq103]
  exact ⟨(by rw [own_narC hc]), N103, rfl⟩
theorem ef_rmCfN (m : MethodId) (p1 : Int32) (p2 : Int32) (p3 : Int32) : entryFrame m #[(.int p1), (.int p2), (.int p3), .null] 4 = mkF m 0 #[.val (.int p1), .val (.int p2), .val (.int p3), .val .null] [] := by first | (simp [entryFrame, mkF, argsToLocals, Value.category]; done) | rfl
theorem d11_0 : decode jdk_41_method_12_code 0 = .ok (.iload_n 0, 1) := by decide +kernel
theorem d11_1 : decode jdk_41_method_12_code 1 = .ok (.ifCond .lt 13, 3) := by decide +kernel
theorem d11_4 : decode jdk_41_method_12_code 4 = .ok (.iload_n 0, 1) := by decide +kernel
theorem d11_5 : decode jdk_41_method_12_code 5 = .ok (.iload_n 1, 1) := by decide +kernel
theorem d11_6 : decode jdk_41_method_12_code 6 = .ok (.if_icmp .gt 8, 3) := by decide +kernel
theorem d11_9 : decode jdk_41_method_12_code 9 = .ok (.iload_n 1, 1) := by decide +kernel
theorem d11_10 : decode jdk_41_method_12_code 10 = .ok (.iload_n 2, 1) := by decide +kernel
theorem d11_11 : decode jdk_41_method_12_code 11 = .ok (.if_icmp .le 11, 3) := by decide +kernel
theorem d11_22 : decode jdk_41_method_12_code 22 = .ok (.iload_n 0, 1) := by decide +kernel
theorem d11_23 : decode jdk_41_method_12_code 23 = .ok (.ireturn, 1) := by decide +kernel
def Q_rmCfN (Z : State) (p1 : Int32) (p2 : Int32) (p3 : Int32) (h0 : Heap) (n0 : Nat) (v : Option Value) (h : Heap) (L : List Loc) : Prop := v = some (.int p1) ∧ Fr n0 L ∧ h = h0
set_option maxRecDepth 65536 in
set_option maxHeartbeats 40000000 in
theorem rmCfN (l : Launch) (Z : State) (a0 : Array Value) (hw : ∀ d ∈ tables_1, d.before a0 Z = true) (ws : List Jvm.Cond) (p1 : Int32) (p2 : Int32) (p3 : Int32) (h0 : Heap) (n0 : Nat) (Z0 : n0 ≤ h0.size) (hf : 0 ≤ p1.toInt ∧ p1.toInt ≤ p2.toInt ∧ p2.toInt ≤ p3.toInt) :
    MetFree l (⟨"jdk/internal/util/Preconditions", "checkFromToIndex", "(IIILjava/util/function/BiFunction;)I"⟩ : MethodName) (head1 (Jvm.Cond.code (⟨"jdk/internal/util/Preconditions", "checkFromToIndex", "(IIILjava/util/function/BiFunction;)I"⟩ : MethodName) jdk_41_method_12_code 4 (some .int) :: ws) ({ frames := 0, cells := 0, slots := 0, locals := 0 } : Room)) (fun a U => a = #[(.int p1), (.int p2), (.int p3), .null] ∧ Z.Warmed39 U.vm ∧ U.heap = h0) (fun _ _ _ _ _ => True) (fun _ U o U' => ∃ v L, o = .returned v ∧ Q_rmCfN Z p1 p2 p3 h0 n0 v U'.heap L ∧ FrameEnd U o U' L ({ frames := 0, cells := 0, slots := 0, locals := 0 } : Room).cells ({ frames := 0, cells := 0, slots := 0, locals := 0 } : Room).slots) := by
  refine MetFree.of_bodySF (plainFor_of_name pn_jdk_internal_util_Preconditions) hisR ?_
  intro p e s m args below meth c s₁ Bd hml0 hP hK
  obtain ⟨rfl, hZ, hh⟩ := hP
  have hx := Bd.exec
  have hby := Bd.bytes
  have hml : c.maxLocals = 4 := hml0
  have hown : s.vm.findClass "jdk/internal/util/Preconditions" = some m.cls := findClass_of_methodNamed Bd.named
  have hnm := (name_of_methodNamed Bd.named Bd.method).1
  have X0 : Stand p l e ({ frames := 0, cells := 0, slots := 0, locals := 0 } : Room) s m #[(.int p1), (.int p2), (.int p3), .null] below meth c s₁ [] 0 0 := Stand.of_body Bd
  have e0 : s₁.heap = h0 := by rw [← hh, Bd.state]; rfl
  have N0 := Fr.nil n0
  suffices hR : ∀ P : State → Prop, (∀ s₂ o v L, s₂.status = .running → Ended s₂ below o → o = .returned v → Q_rmCfN Z p1 p2 p3 h0 n0 v s₂.heap L → FrameEnd s o s₂ L ({ frames := 0, cells := 0, slots := 0, locals := 0 } : Room).cells ({ frames := 0, cells := 0, slots := 0, locals := 0 } : Room).slots → P s₂) → Rch p.tables e below P (s₁.setTop (mkF m 0 #[.val (.int p1), .val (.int p2), .val (.int p3), .val .null] [])) by
    obtain ⟨s₂, h1, o, h2⟩ := hR (fun s₂ => ∃ o, s₂.status = .running ∧ Ended s₂ below o ∧ ∃ v L, o = .returned v ∧ Q_rmCfN Z p1 p2 p3 h0 n0 v s₂.heap L ∧ FrameEnd s o s₂ L ({ frames := 0, cells := 0, slots := 0, locals := 0 } : Room).cells ({ frames := 0, cells := 0, slots := 0, locals := 0 } : Room).slots) (fun s₂ o v L q1 q2 q3 q4 q5 => ⟨o, q1, q2, v, L, q3, q4, q5⟩)
    exact ⟨s₂, o, castTop (ef_rmCfN m p1 p2 p3) h1, h2⟩
  intro P hPd
  refine Rch.go (fun zt zk => XS.iloadN X0.here hx rfl (hb hby d11_0) rfl zk) ?_
  refine Rch.go (fun zt zk => XS.ifNo X0.here hx rfl (hb hby d11_1) rfl ((if0 _ _).trans (flt (own_nneg hf.1 : ¬ (p1 < (0 : Int32)))).1) zk) ?_
  refine Rch.go (fun zt zk => XS.iloadN X0.here hx rfl (hb hby d11_4) rfl zk) ?_
  refine Rch.go (fun zt zk => XS.iloadN X0.here hx rfl (hb hby d11_5) rfl zk) ?_
  show Rch _ _ _ _ (s₁.setTop (mkF m 6 #[.val (.int p1), .val (.int p2), .val (.int p3), .val .null] [(.int p2), (.int p1)]))
  refine Rch.go (fun zt zk => XS.icmpNo X0.here hx rfl (hb hby d11_6) rfl (flt (own_ge hf.2.1 : ¬ (p2 < p1))).2.2.1 zk) ?_
  refine Rch.go (fun zt zk => XS.iloadN X0.here hx rfl (hb hby d11_9) rfl zk) ?_
  refine Rch.go (fun zt zk => XS.iloadN X0.here hx rfl (hb hby d11_10) rfl zk) ?_
  refine Rch.go (fun zt zk => XS.icmpYes X0.here hx rfl (pc0 := 11) (pc' := 22) rfl (hb hby d11_11) rfl (flt (own_ge hf.2.2 : ¬ (p3 < p2))).2.2.2 (by decide) (by decide) zk) ?_
  show Rch _ _ _ _ (s₁.setTop (mkF m 22 #[.val (.int p1), .val (.int p2), .val (.int p3), .val .null] []))
  refine Rch.go (fun zt zk => XS.iloadN X0.here hx rfl (hb hby d11_22) rfl zk) ?_
  obtain ⟨fs, hr, hrun, hended, hW, hsame⟩ := X0.leave (v := some (.int p1)) (fun h => by rw [Bd.returns] at h; cases h)
  refine Rch.mk (retI X0 hx Bd.returns (hb hby d11_23) hr) (hPd _ _ _ _ hrun hended rfl ?_ ⟨⟨_, rfl⟩, hW, hsame.mono (by decide) (by decide)⟩)
  show Q_rmCfN Z p1 p2 p3 h0 n0 _ s₁.heap _
  rw [e0]
  exact ⟨rfl, N0, rfl⟩
theorem ef_rmCfR (m : MethodId) (p1 : Int32) (p2 : Int32) (p3 : Int32) (w4 : Addr) : entryFrame m #[(.int p1), (.int p2), (.int p3), (.ref w4)] 4 = mkF m 0 #[.val (.int p1), .val (.int p2), .val (.int p3), .val (.ref w4)] [] := by first | (simp [entryFrame, mkF, argsToLocals, Value.category]; done) | rfl
def Q_rmCfR (Z : State) (p1 : Int32) (p2 : Int32) (p3 : Int32) (w4 : Addr) (h0 : Heap) (n0 : Nat) (v : Option Value) (h : Heap) (L : List Loc) : Prop := v = some (.int p1) ∧ Fr n0 L ∧ h = h0
set_option maxRecDepth 65536 in
set_option maxHeartbeats 40000000 in
theorem rmCfR (l : Launch) (Z : State) (a0 : Array Value) (hw : ∀ d ∈ tables_1, d.before a0 Z = true) (ws : List Jvm.Cond) (p1 : Int32) (p2 : Int32) (p3 : Int32) (w4 : Addr) (h0 : Heap) (n0 : Nat) (Z0 : n0 ≤ h0.size) (hf : 0 ≤ p1.toInt ∧ p1.toInt ≤ p2.toInt ∧ p2.toInt ≤ p3.toInt) :
    MetFree l (⟨"jdk/internal/util/Preconditions", "checkFromToIndex", "(IIILjava/util/function/BiFunction;)I"⟩ : MethodName) (head1 (Jvm.Cond.code (⟨"jdk/internal/util/Preconditions", "checkFromToIndex", "(IIILjava/util/function/BiFunction;)I"⟩ : MethodName) jdk_41_method_12_code 4 (some .int) :: ws) ({ frames := 0, cells := 0, slots := 0, locals := 0 } : Room)) (fun a U => a = #[(.int p1), (.int p2), (.int p3), (.ref w4)] ∧ Z.Warmed39 U.vm ∧ U.heap = h0) (fun _ _ _ _ _ => True) (fun _ U o U' => ∃ v L, o = .returned v ∧ Q_rmCfR Z p1 p2 p3 w4 h0 n0 v U'.heap L ∧ FrameEnd U o U' L ({ frames := 0, cells := 0, slots := 0, locals := 0 } : Room).cells ({ frames := 0, cells := 0, slots := 0, locals := 0 } : Room).slots) := by
  refine MetFree.of_bodySF (plainFor_of_name pn_jdk_internal_util_Preconditions) hisR ?_
  intro p e s m args below meth c s₁ Bd hml0 hP hK
  obtain ⟨rfl, hZ, hh⟩ := hP
  have hx := Bd.exec
  have hby := Bd.bytes
  have hml : c.maxLocals = 4 := hml0
  have hown : s.vm.findClass "jdk/internal/util/Preconditions" = some m.cls := findClass_of_methodNamed Bd.named
  have hnm := (name_of_methodNamed Bd.named Bd.method).1
  have X0 : Stand p l e ({ frames := 0, cells := 0, slots := 0, locals := 0 } : Room) s m #[(.int p1), (.int p2), (.int p3), (.ref w4)] below meth c s₁ [] 0 0 := Stand.of_body Bd
  have e0 : s₁.heap = h0 := by rw [← hh, Bd.state]; rfl
  have N0 := Fr.nil n0
  suffices hR : ∀ P : State → Prop, (∀ s₂ o v L, s₂.status = .running → Ended s₂ below o → o = .returned v → Q_rmCfR Z p1 p2 p3 w4 h0 n0 v s₂.heap L → FrameEnd s o s₂ L ({ frames := 0, cells := 0, slots := 0, locals := 0 } : Room).cells ({ frames := 0, cells := 0, slots := 0, locals := 0 } : Room).slots → P s₂) → Rch p.tables e below P (s₁.setTop (mkF m 0 #[.val (.int p1), .val (.int p2), .val (.int p3), .val (.ref w4)] [])) by
    obtain ⟨s₂, h1, o, h2⟩ := hR (fun s₂ => ∃ o, s₂.status = .running ∧ Ended s₂ below o ∧ ∃ v L, o = .returned v ∧ Q_rmCfR Z p1 p2 p3 w4 h0 n0 v s₂.heap L ∧ FrameEnd s o s₂ L ({ frames := 0, cells := 0, slots := 0, locals := 0 } : Room).cells ({ frames := 0, cells := 0, slots := 0, locals := 0 } : Room).slots) (fun s₂ o v L q1 q2 q3 q4 q5 => ⟨o, q1, q2, v, L, q3, q4, q5⟩)
    exact ⟨s₂, o, castTop (ef_rmCfR m p1 p2 p3 w4) h1, h2⟩
  intro P hPd
  refine Rch.go (fun zt zk => XS.iloadN X0.here hx rfl (hb hby d11_0) rfl zk) ?_
  refine Rch.go (fun zt zk => XS.ifNo X0.here hx rfl (hb hby d11_1) rfl ((if0 _ _).trans (flt (own_nneg hf.1 : ¬ (p1 < (0 : Int32)))).1) zk) ?_
  refine Rch.go (fun zt zk => XS.iloadN X0.here hx rfl (hb hby d11_4) rfl zk) ?_
  refine Rch.go (fun zt zk => XS.iloadN X0.here hx rfl (hb hby d11_5) rfl zk) ?_
  show Rch _ _ _ _ (s₁.setTop (mkF m 6 #[.val (.int p1), .val (.int p2), .val (.int p3), .val (.ref w4)] [(.int p2), (.int p1)]))
  refine Rch.go (fun zt zk => XS.icmpNo X0.here hx rfl (hb hby d11_6) rfl (flt (own_ge hf.2.1 : ¬ (p2 < p1))).2.2.1 zk) ?_
  refine Rch.go (fun zt zk => XS.iloadN X0.here hx rfl (hb hby d11_9) rfl zk) ?_
  refine Rch.go (fun zt zk => XS.iloadN X0.here hx rfl (hb hby d11_10) rfl zk) ?_
  refine Rch.go (fun zt zk => XS.icmpYes X0.here hx rfl (pc0 := 11) (pc' := 22) rfl (hb hby d11_11) rfl (flt (own_ge hf.2.2 : ¬ (p3 < p2))).2.2.2 (by decide) (by decide) zk) ?_
  show Rch _ _ _ _ (s₁.setTop (mkF m 22 #[.val (.int p1), .val (.int p2), .val (.int p3), .val (.ref w4)] []))
  refine Rch.go (fun zt zk => XS.iloadN X0.here hx rfl (hb hby d11_22) rfl zk) ?_
  obtain ⟨fs, hr, hrun, hended, hW, hsame⟩ := X0.leave (v := some (.int p1)) (fun h => by rw [Bd.returns] at h; cases h)
  refine Rch.mk (retI X0 hx Bd.returns (hb hby d11_23) hr) (hPd _ _ _ _ hrun hended rfl ?_ ⟨⟨_, rfl⟩, hW, hsame.mono (by decide) (by decide)⟩)
  show Q_rmCfR Z p1 p2 p3 w4 h0 n0 _ s₁.heap _
  rw [e0]
  exact ⟨rfl, N0, rfl⟩
theorem ef_rm10 (m : MethodId) (p1 : Int32) (p2 : Int32) (p3 : Int32) : entryFrame m #[(.int p1), (.int p2), (.int p3)] 3 = mkF m 0 #[.val (.int p1), .val (.int p2), .val (.int p3)] [] := by first | (simp [entryFrame, mkF, argsToLocals, Value.category]; done) | rfl
theorem d10_0 : decode jdk_42_method_158_code 0 = .ok (.iload_n 0, 1) := by decide +kernel
theorem d10_1 : decode jdk_42_method_158_code 1 = .ok (.iload_n 1, 1) := by decide +kernel
theorem d10_2 : decode jdk_42_method_158_code 2 = .ok (.iload_n 2, 1) := by decide +kernel
theorem d10_3 : decode jdk_42_method_158_code 3 = .ok (.getstatic 1053, 3) := by decide +kernel
theorem d10_6 : decode jdk_42_method_158_code 6 = .ok (.invokestatic 1062, 3) := by decide +kernel
theorem pd__IIILjava_util_function_BiFunction__I : parseMethodDescriptor "(IIILjava/util/function/BiFunction;)I" = some ⟨[.int, .int, .int, (.object "java/util/function/BiFunction")], some .int⟩ := by decide +kernel
theorem d10_9 : decode jdk_42_method_158_code 9 = .ok (.pop, 1) := by decide +kernel
theorem d10_10 : decode jdk_42_method_158_code 10 = .ok (.return_, 1) := by decide +kernel
def Q_rm10 (Z : State) (p1 : Int32) (p2 : Int32) (p3 : Int32) (rG : Value) (h0 : Heap) (n0 : Nat) (v : Option Value) (h : Heap) (L : List Loc) : Prop := v = none ∧ Fr n0 L ∧ h = h0
set_option maxRecDepth 65536 in
set_option maxHeartbeats 40000000 in
theorem rm10 (l : Launch) (Z : State) (a0 : Array Value) (hw : ∀ d ∈ tables_1, d.before a0 Z = true) (ws : List Jvm.Cond) (p1 : Int32) (p2 : Int32) (p3 : Int32) (rG : Value) (h0 : Heap) (n0 : Nat) (Z0 : n0 ≤ h0.size) (P0 : Old Z n0 h0) (P1 : Sta Z Z.heap "jdk/internal/util/Preconditions" "SIOOBE_FORMATTER" "Ljava/util/function/BiFunction;" rG) (hf : 0 ≤ p1.toInt ∧ p1.toInt ≤ p2.toInt ∧ p2.toInt ≤ p3.toInt) (hrG : rG.isRef = true) :
    MetFree l (⟨"java/lang/String", "checkBoundsBeginEnd", "(III)V"⟩ : MethodName) (head1 (Jvm.Cond.code (⟨"java/lang/String", "checkBoundsBeginEnd", "(III)V"⟩ : MethodName) jdk_42_method_158_code 3 none :: ws) ({ frames := 1, cells := 0, slots := 0, locals := 15 } : Room)) (fun a U => a = #[(.int p1), (.int p2), (.int p3)] ∧ Z.Warmed39 U.vm ∧ U.heap = h0) (fun _ _ _ _ _ => True) (fun _ U o U' => ∃ v L, o = .returned v ∧ Q_rm10 Z p1 p2 p3 rG h0 n0 v U'.heap L ∧ FrameEnd U o U' L ({ frames := 1, cells := 0, slots := 0, locals := 15 } : Room).cells ({ frames := 1, cells := 0, slots := 0, locals := 15 } : Room).slots) := by
  refine MetFree.of_bodySF (plainFor_of_name pn_java_lang_String) hisR ?_
  intro p e s m args below meth c s₁ Bd hml0 hP hK
  obtain ⟨rfl, hZ, hh⟩ := hP
  have hx := Bd.exec
  have hby := Bd.bytes
  have hml : c.maxLocals = 3 := hml0
  have hown : s.vm.findClass "java/lang/String" = some m.cls := findClass_of_methodNamed Bd.named
  have hnm := (name_of_methodNamed Bd.named Bd.method).1
  have X0 : Stand p l e ({ frames := 1, cells := 0, slots := 0, locals := 15 } : Room) s m #[(.int p1), (.int p2), (.int p3)] below meth c s₁ [] 0 0 := Stand.of_body Bd
  have e0 : s₁.heap = h0 := by rw [← hh, Bd.state]; rfl
  have N0 := Fr.nil n0
  suffices hR : ∀ P : State → Prop, (∀ s₂ o v L, s₂.status = .running → Ended s₂ below o → o = .returned v → Q_rm10 Z p1 p2 p3 rG h0 n0 v s₂.heap L → FrameEnd s o s₂ L ({ frames := 1, cells := 0, slots := 0, locals := 15 } : Room).cells ({ frames := 1, cells := 0, slots := 0, locals := 15 } : Room).slots → P s₂) → Rch p.tables e below P (s₁.setTop (mkF m 0 #[.val (.int p1), .val (.int p2), .val (.int p3)] [])) by
    obtain ⟨s₂, h1, o, h2⟩ := hR (fun s₂ => ∃ o, s₂.status = .running ∧ Ended s₂ below o ∧ ∃ v L, o = .returned v ∧ Q_rm10 Z p1 p2 p3 rG h0 n0 v s₂.heap L ∧ FrameEnd s o s₂ L ({ frames := 1, cells := 0, slots := 0, locals := 15 } : Room).cells ({ frames := 1, cells := 0, slots := 0, locals := 15 } : Room).slots) (fun s₂ o v L q1 q2 q3 q4 q5 => ⟨o, q1, q2, v, L, q3, q4, q5⟩)
    exact ⟨s₂, o, castTop (ef_rm10 m p1 p2 p3) h1, h2⟩
  intro P hPd
  rcases ref_cases hrG with rfl | ⟨w4, rfl⟩
  · skip
    refine Rch.go (fun zt zk => XS.iloadN X0.here hx rfl (hb hby d10_0) rfl zk) ?_
    refine Rch.go (fun zt zk => XS.iloadN X0.here hx rfl (hb hby d10_1) rfl zk) ?_
    refine Rch.go (fun zt zk => XS.iloadN X0.here hx rfl (hb hby d10_2) rfl zk) ?_
    have f101 := P1.ext P0.2
    obtain ⟨T102, X102, e102, st102⟩ := getS2 X0 hx hZ hown (host := "") (Or.inl (ow54 hw)) Via.refl e0 f101 (g := (mkF m 3 #[.val (.int p1), .val (.int p2), .val (.int p3)] [(.int p3), (.int p2), (.int p1)])) rfl (hb hby d10_3)
    refine Rch.go st102 ?_
    show Rch _ _ _ _ (T102.setTop (mkF m 6 #[.val (.int p1), .val (.int p2), .val (.int p3)] [.null, (.int p3), (.int p2), (.int p1)]))
    obtain ⟨_, _, ⟨T103, L103, k103, n103⟩, -, X103, ⟨Lc103, hQ103, l103, y103, z103⟩, st103⟩ := Jvm.LawKit.callS X102 hx (y := (⟨"jdk/internal/util/Preconditions", "checkFromToIndex", "(IIILjava/util/function/BiFunction;)I"⟩ : MethodName)) hown (mvT hZ (ow56 hw)) (mvT hZ (ow57 hw)) (mvT hZ (ow55 hw)) (mvT hZ (ow58 hw)) (by decide) (backOf (W := 0) (rmCfN l Z a0 hw [] (p1) (p2) (p3) h0 n0 Z0 (hf)) hZ (ow58 hw) (ow55 hw) (by decide) (by decide)) (g := (mkF m 6 #[.val (.int p1), .val (.int p2), .val (.int p3)] [.null, (.int p3), (.int p2), (.int p1)])) rfl (by rw [hml]; rfl) (argsL := [(.int p1), (.int p2), (.int p3), .null]) (rest := []) (lenOf pd__IIILjava_util_function_BiFunction__I rfl) rfl (by show 2 * 0 + _ ≤ _; exact Nat.le_of_eq rfl) (hb hby d10_6) (fun _ _ => ⟨rfl, e102, (by decide : 0 + 0 ≤ _), (by decide : 0 + 0 ≤ _)⟩)
    dsimp only [Pt.U, Pt.locs, Pt.cells, Pt.slots] at X103 l103 y103 z103 st103 hQ103
    rw [l103, y103, z103] at X103
    obtain ⟨rfl, N103q, eq103⟩ := hQ103
    have N103 := Fr.app N0 N103q
    refine Rch.go st103 ?_
    refine Rch.go (fun zt zk => XS.pop X103.here hx rfl (hb hby d10_9) rfl rfl zk) ?_
    obtain ⟨fs, hr, hrun, hended, hW, hsame⟩ := X103.leave (v := none) (fun _ => rfl)
    refine Rch.mk (X103.returnOut hx Bd.returns (hb hby d10_10) hr) (hPd _ _ _ _ hrun hended rfl ?_ ⟨⟨_, rfl⟩, hW, hsame.mono (by decide) (by decide)⟩)
    show Q_rm10 Z p1 p2 p3 .null h0 n0 _ T103.heap _
    rw [eq103]
    exact ⟨rfl, N103, rfl⟩
  · skip
    refine Rch.go (fun zt zk => XS.iloadN X0.here hx rfl (hb hby d10_0) rfl zk) ?_
    refine Rch.go (fun zt zk => XS.iloadN X0.here hx rfl (hb hby d10_1) rfl zk) ?_
    show Rch _ _ _ _ (s₁.setTop (mkF m 2 #[.val (.int p1), .val (.int p2), .val (.int p3)] [(.int p2), (.int p1)]))
    refine Rch.go (fun zt zk => XS.iloadN X0.here hx rfl (hb hby d10_2) rfl zk) ?_
    have f104 := P1.ext P0.2
    obtain ⟨T105, X105, e105, st105⟩ := getS2 X0 hx hZ hown (host := "") (Or.inl (ow54 hw)) Via.refl e0 f104 (g := (mkF m 3 #[.val (.int p1), .val (.int p2), .val (.int p3)] [(.int p3), (.int p2), (.int p1)])) rfl (hb hby d10_3)
    refine Rch.go st105 ?_
    obtain ⟨_, _, ⟨T106, L106, k106, n106⟩, -, X106, ⟨Lc106, hQ106, l106, y106, z106⟩, st106⟩ := Jvm.LawKit.callS X105 hx (y := (⟨"jdk/internal/util/Preconditions", "checkFromToIndex", "(IIILjava/util/function/BiFunction;)I"⟩ : MethodName)) hown (mvT hZ (ow56 hw)) (mvT hZ (ow57 hw)) (mvT hZ (ow55 hw)) (mvT hZ (ow58 hw)) (by decide) (backOf (W := 0) (rmCfR l Z a0 hw [] (p1) (p2) (p3) (w4) h0 n0 Z0 (hf)) hZ (ow58 hw) (ow55 hw) (by decide) (by decide)) (g := (mkF m 6 #[.val (.int p1), .val (.int p2), .val (.int p3)] [(.ref w4), (.int p3), (.int p2), (.int p1)])) rfl (by rw [hml]; rfl) (argsL := [(.int p1), (.int p2), (.int p3), (.ref w4)]) (rest := []) (lenOf pd__IIILjava_util_function_BiFunction__I rfl) rfl (by show 2 * 0 + _ ≤ _; exact Nat.le_of_eq rfl) (hb hby d10_6) (fun _ _ => ⟨rfl, e105, (by decide : 0 + 0 ≤ _), (by decide : 0 + 0 ≤ _)⟩)
    dsimp only [Pt.U, Pt.locs, Pt.cells, Pt.slots] at X106 l106 y106 z106 st106 hQ106
    rw [l106, y106, z106] at X106
    obtain ⟨rfl, N106q, eq106⟩ := hQ106
    have N106 := Fr.app N0 N106q
    refine Rch.go st106 ?_
    refine Rch.go (fun zt zk => XS.pop X106.here hx rfl (hb hby d10_9) rfl rfl zk) ?_
    show Rch _ _ _ _ (T106.setTop (mkF m 10 #[.val (.int p1), .val (.int p2), .val (.int p3)] []))
    obtain ⟨fs, hr, hrun, hended, hW, hsame⟩ := X106.leave (v := none) (fun _ => rfl)
    refine Rch.mk (X106.returnOut hx Bd.returns (hb hby d10_10) hr) (hPd _ _ _ _ hrun hended rfl ?_ ⟨⟨_, rfl⟩, hW, hsame.mono (by decide) (by decide)⟩)
    show Q_rm10 Z p1 p2 p3 (.ref w4) h0 n0 _ T106.heap _
    rw [eq106]
    exact ⟨rfl, N106, rfl⟩
def fMin (p1 : Int32) (p2 : Int32) : Int32 := (if p2 < p1 then p2 else p1)
theorem ef_rm26 (m : MethodId) (p1 : Int32) (p2 : Int32) : entryFrame m #[(.int p1), (.int p2)] 2 = mkF m 0 #[.val (.int p1), .val (.int p2)] [] := by first | (simp [entryFrame, mkF, argsToLocals, Value.category]; done) | rfl
theorem d26_0 : decode jdk_29_method_69_code 0 = .ok (.iload_n 0, 1) := by decide +kernel
theorem d26_1 : decode jdk_29_method_69_code 1 = .ok (.iload_n 1, 1) := by decide +kernel
theorem d26_2 : decode jdk_29_method_69_code 2 = .ok (.if_icmp .gt 7, 3) := by decide +kernel
theorem d26_9 : decode jdk_29_method_69_code 9 = .ok (.iload_n 1, 1) := by decide +kernel
theorem d26_10 : decode jdk_29_method_69_code 10 = .ok (.ireturn, 1) := by decide +kernel
theorem d26_5 : decode jdk_29_method_69_code 5 = .ok (.iload_n 0, 1) := by decide +kernel
theorem d26_6 : decode jdk_29_method_69_code 6 = .ok (.goto 4, 3) := by decide +kernel
def Q_rm26 (Z : State) (p1 : Int32) (p2 : Int32) (h0 : Heap) (n0 : Nat) (v : Option Value) (h : Heap) (L : List Loc) : Prop := v = some (.int (fMin p1 p2)) ∧ Fr n0 L ∧ h = h0
set_option maxRecDepth 65536 in
set_option maxHeartbeats 40000000 in
theorem rm26 (l : Launch) (Z : State) (a0 : Array Value) (hw : ∀ d ∈ tables_1, d.before a0 Z = true) (ws : List Jvm.Cond) (p1 : Int32) (p2 : Int32) (h0 : Heap) (n0 : Nat) (Z0 : n0 ≤ h0.size) :
    MetFree l (⟨"java/lang/Math", "min", "(II)I"⟩ : MethodName) (head1 (Jvm.Cond.code (⟨"java/lang/Math", "min", "(II)I"⟩ : MethodName) jdk_29_method_69_code 2 (some .int) :: ws) ({ frames := 0, cells := 0, slots := 0, locals := 0 } : Room)) (fun a U => a = #[(.int p1), (.int p2)] ∧ Z.Warmed39 U.vm ∧ U.heap = h0) (fun _ _ _ _ _ => True) (fun _ U o U' => ∃ v L, o = .returned v ∧ Q_rm26 Z p1 p2 h0 n0 v U'.heap L ∧ FrameEnd U o U' L ({ frames := 0, cells := 0, slots := 0, locals := 0 } : Room).cells ({ frames := 0, cells := 0, slots := 0, locals := 0 } : Room).slots) := by
  refine MetFree.of_bodySF (Jvm.Free.JP.mathPlain rfl (by decide +kernel)) hisR ?_
  intro p e s m args below meth c s₁ Bd hml0 hP hK
  obtain ⟨rfl, hZ, hh⟩ := hP
  have hx := Bd.exec
  have hby := Bd.bytes
  have hml : c.maxLocals = 2 := hml0
  have hown : s.vm.findClass "java/lang/Math" = some m.cls := findClass_of_methodNamed Bd.named
  have hnm := (name_of_methodNamed Bd.named Bd.method).1
  have X0 : Stand p l e ({ frames := 0, cells := 0, slots := 0, locals := 0 } : Room) s m #[(.int p1), (.int p2)] below meth c s₁ [] 0 0 := Stand.of_body Bd
  have e0 : s₁.heap = h0 := by rw [← hh, Bd.state]; rfl
  have N0 := Fr.nil n0
  suffices hR : ∀ P : State → Prop, (∀ s₂ o v L, s₂.status = .running → Ended s₂ below o → o = .returned v → Q_rm26 Z p1 p2 h0 n0 v s₂.heap L → FrameEnd s o s₂ L ({ frames := 0, cells := 0, slots := 0, locals := 0 } : Room).cells ({ frames := 0, cells := 0, slots := 0, locals := 0 } : Room).slots → P s₂) → Rch p.tables e below P (s₁.setTop (mkF m 0 #[.val (.int p1), .val (.int p2)] [])) by
    obtain ⟨s₂, h1, o, h2⟩ := hR (fun s₂ => ∃ o, s₂.status = .running ∧ Ended s₂ below o ∧ ∃ v L, o = .returned v ∧ Q_rm26 Z p1 p2 h0 n0 v s₂.heap L ∧ FrameEnd s o s₂ L ({ frames := 0, cells := 0, slots := 0, locals := 0 } : Room).cells ({ frames := 0, cells := 0, slots := 0, locals := 0 } : Room).slots) (fun s₂ o v L q1 q2 q3 q4 q5 => ⟨o, q1, q2, v, L, q3, q4, q5⟩)
    exact ⟨s₂, o, castTop (ef_rm26 m p1 p2) h1, h2⟩
  intro P hPd
  refine Rch.go (fun zt zk => XS.iloadN X0.here hx rfl (hb hby d26_0) rfl zk) ?_
  refine Rch.go (fun zt zk => XS.iloadN X0.here hx rfl (hb hby d26_1) rfl zk) ?_
  by_cases hc2_101 : p2 < p1
  · skip
    refine Rch.go (fun zt zk => XS.icmpYes X0.here hx rfl (pc0 := 2) (pc' := 9) rfl (hb hby d26_2) rfl (tlt hc2_101).2.2.1 (by decide) (by decide) zk) ?_
    refine Rch.go (fun zt zk => XS.iloadN X0.here hx rfl (hb hby d26_9) rfl zk) ?_
    show Rch _ _ _ _ (s₁.setTop (mkF m 10 #[.val (.int p1), .val (.int p2)] [(.int p2)]))
    obtain ⟨fs, hr, hrun, hended, hW, hsame⟩ := X0.leave (v := some (.int p2)) (fun h => by rw [Bd.returns] at h; cases h)
    refine Rch.mk (retI X0 hx Bd.returns (hb hby d26_10) hr) (hPd _ _ _ _ hrun hended rfl ?_ ⟨⟨_, rfl⟩, hW, hsame.mono (by decide) (by decide)⟩)
    show Q_rm26 Z p1 p2 h0 n0 _ s₁.heap _
    have hF : fMin p1 p2 = p2 := ((if_pos hc2_101).trans rfl)
    rw [e0]
    exact ⟨by rw [hF], N0, rfl⟩
  · skip
    refine Rch.go (fun zt zk => XS.icmpNo X0.here hx rfl (hb hby d26_2) rfl (flt hc2_101).2.2.1 zk) ?_
    refine Rch.go (fun zt zk => XS.iloadN X0.here hx rfl (hb hby d26_5) rfl zk) ?_
    refine Rch.go (fun zt zk => XS.goto X0.here hx rfl (pc0 := 6) (pc' := 10) rfl (hb hby d26_6) (by decide) (by decide) zk) ?_
    obtain ⟨fs, hr, hrun, hended, hW, hsame⟩ := X0.leave (v := some (.int p1)) (fun h => by rw [Bd.returns] at h; cases h)
    refine Rch.mk (retI X0 hx Bd.returns (hb hby d26_10) hr) (hPd _ _ _ _ hrun hended rfl ?_ ⟨⟨_, rfl⟩, hW, hsame.mono (by decide) (by decide)⟩)
    show Q_rm26 Z p1 p2 h0 n0 _ s₁.heap _
    have hF : fMin p1 p2 = p1 := ((if_neg hc2_101).trans rfl)
    rw [e0]
    exact ⟨by rw [hF], N0, rfl⟩
theorem ef_rm25 (m : MethodId) (p1 : Int32) (p2 : Int32) : entryFrame m #[(.int p1), (.int p2)] 2 = mkF m 0 #[.val (.int p1), .val (.int p2)] [] := by first | (simp [entryFrame, mkF, argsToLocals, Value.category]; done) | rfl
theorem pn_java_util_Arrays : plainName "java/util/Arrays" = true := by first | (simp [plainName, overriddenIn]; done) | decide +kernel
theorem d25_0 : decode jdk_65_method_131_code 0 = .ok (.iload_n 1, 1) := by decide +kernel
theorem d25_1 : decode jdk_65_method_131_code 1 = .ok (.iload_n 0, 1) := by decide +kernel
theorem d25_2 : decode jdk_65_method_131_code 2 = .ok (.if_icmp .ge 35, 3) := by decide +kernel
theorem d25_37 : decode jdk_65_method_131_code 37 = .ok (.return_, 1) := by decide +kernel
def Q_rm25 (Z : State) (p1 : Int32) (p2 : Int32) (h0 : Heap) (n0 : Nat) (v : Option Value) (h : Heap) (L : List Loc) : Prop := v = none ∧ Fr n0 L ∧ h = h0
set_option maxRecDepth 65536 in
set_option maxHeartbeats 40000000 in
theorem rm25 (l : Launch) (Z : State) (a0 : Array Value) (hw : ∀ d ∈ tables_1, d.before a0 Z = true) (ws : List Jvm.Cond) (p1 : Int32) (p2 : Int32) (h0 : Heap) (n0 : Nat) (Z0 : n0 ≤ h0.size) (hcl : ¬ (p2 < p1)) :
    MetFree l (⟨"java/util/Arrays", "checkLength", "(II)V"⟩ : MethodName) (head1 (Jvm.Cond.code (⟨"java/util/Arrays", "checkLength", "(II)V"⟩ : MethodName) jdk_65_method_131_code 2 none :: ws) ({ frames := 0, cells := 0, slots := 0, locals := 0 } : Room)) (fun a U => a = #[(.int p1), (.int p2)] ∧ Z.Warmed39 U.vm ∧ U.heap = h0) (fun _ _ _ _ _ => True) (fun _ U o U' => ∃ v L, o = .returned v ∧ Q_rm25 Z p1 p2 h0 n0 v U'.heap L ∧ FrameEnd U o U' L ({ frames := 0, cells := 0, slots := 0, locals := 0 } : Room).cells ({ frames := 0, cells := 0, slots := 0, locals := 0 } : Room).slots) := by
  refine MetFree.of_bodySF (plainFor_of_name pn_java_util_Arrays) hisR ?_
  intro p e s m args below meth c s₁ Bd hml0 hP hK
  obtain ⟨rfl, hZ, hh⟩ := hP
  have hx := Bd.exec
  have hby := Bd.bytes
  have hml : c.maxLocals = 2 := hml0
  have hown : s.vm.findClass "java/util/Arrays" = some m.cls := findClass_of_methodNamed Bd.named
  have hnm := (name_of_methodNamed Bd.named Bd.method).1
  have X0 : Stand p l e ({ frames := 0, cells := 0, slots := 0, locals := 0 } : Room) s m #[(.int p1), (.int p2)] below meth c s₁ [] 0 0 := Stand.of_body Bd
  have e0 : s₁.heap = h0 := by rw [← hh, Bd.state]; rfl
  have N0 := Fr.nil n0
  suffices hR : ∀ P : State → Prop, (∀ s₂ o v L, s₂.status = .running → Ended s₂ below o → o = .returned v → Q_rm25 Z p1 p2 h0 n0 v s₂.heap L → FrameEnd s o s₂ L ({ frames := 0, cells := 0, slots := 0, locals := 0 } : Room).cells ({ frames := 0, cells := 0, slots := 0, locals := 0 } : Room).slots → P s₂) → Rch p.tables e below P (s₁.setTop (mkF m 0 #[.val (.int p1), .val (.int p2)] [])) by
    obtain ⟨s₂, h1, o, h2⟩ := hR (fun s₂ => ∃ o, s₂.status = .running ∧ Ended s₂ below o ∧ ∃ v L, o = .returned v ∧ Q_rm25 Z p1 p2 h0 n0 v s₂.heap L ∧ FrameEnd s o s₂ L ({ frames := 0, cells := 0, slots := 0, locals := 0 } : Room).cells ({ frames := 0, cells := 0, slots := 0, locals := 0 } : Room).slots) (fun s₂ o v L q1 q2 q3 q4 q5 => ⟨o, q1, q2, v, L, q3, q4, q5⟩)
    exact ⟨s₂, o, castTop (ef_rm25 m p1 p2) h1, h2⟩
  intro P hPd
  refine Rch.go (fun zt zk => XS.iloadN X0.here hx rfl (hb hby d25_0) rfl zk) ?_
  refine Rch.go (fun zt zk => XS.iloadN X0.here hx rfl (hb hby d25_1) rfl zk) ?_
  refine Rch.go (fun zt zk => XS.icmpYes X0.here hx rfl (pc0 := 2) (pc' := 37) rfl (hb hby d25_2) rfl (flt (hcl : ¬ (p2 < p1))).2.1 (by decide) (by decide) zk) ?_
  obtain ⟨fs, hr, hrun, hended, hW, hsame⟩ := X0.leave (v := none) (fun _ => rfl)
  refine Rch.mk (X0.returnOut hx Bd.returns (hb hby d25_37) hr) (hPd _ _ _ _ hrun hended rfl ?_ ⟨⟨_, rfl⟩, hW, hsame.mono (by decide) (by decide)⟩)
  show Q_rm25 Z p1 p2 h0 n0 _ s₁.heap _
  rw [e0]
  exact ⟨rfl, N0, rfl⟩
def HPc (p1 p2 zz : Int32) (vs : List Value) : Prop := 0 ≤ p1.toInt ∧ p1.toInt ≤ p2.toInt ∧ p2.toInt ≤ zz.toInt ∧ zz.toInt ≤ 8
theorem own_sub {a b : Int32} (h0 : 0 ≤ b.toInt) (h1 : b.toInt ≤ a.toInt) : (a - b).toInt = a.toInt - b.toInt := by
  have h := c_isub a b; have h1 := rng32 (a - b); have h2 := rng32 a; have h3 := rng32 b; omega
theorem own_cap {p1 p2 zz : Int32} {vs : List Value} (hp : HPc p1 p2 zz vs) : (p2 - p1).toNatClampNeg ≤ 8 := by
  have h := own_sub hp.1 hp.2.1; have := hp.2.2; have := hp.1; simp only [Int32.toNatClampNeg]; omega
theorem own_nn {p1 p2 zz : Int32} {vs : List Value} (hp : HPc p1 p2 zz vs) : ¬ ((p2 - p1) < (0 : Int32)) := by
  have h := own_sub hp.1 hp.2.1; have := hp.2.1; rw [Int32.lt_iff_toInt_lt, own_e0]; omega
theorem own_mn {p1 p2 zz : Int32} {vs : List Value} (hp : HPc p1 p2 zz vs) : fMin (zz - p1) (p2 - p1) = p2 - p1 := by
  have h := own_sub hp.1 hp.2.1; have h' := own_sub (a := zz) hp.1 (by have := hp.2.1; have := hp.2.2.1; omega); have := hp.2.2.1
  unfold fMin
  by_cases h1 : (p2 - p1) < (zz - p1)
  · rw [if_pos h1]
  · rw [if_neg h1]; rw [Int32.lt_iff_toInt_lt] at h1; exact Int32.toInt_inj.mp (by omega)
theorem own_cp {p1 p2 zz : Int32} {vs : List Value} (hp : HPc p1 p2 zz vs) : p1.toNatClampNeg + (p2 - p1).toNatClampNeg ≤ zz.toNatClampNeg ∧ (0 : Int32).toNatClampNeg + (p2 - p1).toNatClampNeg ≤ (p2 - p1).toNatClampNeg ∧ (0 : Int32).toNatClampNeg + (p2 - p1).toNatClampNeg ≤ 8 := by
  have e0 : (0 : Int32).toNatClampNeg = 0 := by decide
  have h := own_sub hp.1 hp.2.1; have := hp.2.2; have := hp.1; have := hp.2.1
  rw [e0]; simp only [Int32.toNatClampNeg]; omega
theorem own_cut {Z : State} {h : Heap} {a : Addr} {k : ClassId} {z nn : Int32} {vs l0 l2 : List Value} {sp : Int32} (F : Arv Z h a k .byte nn (l0.take (0 : Int32).toNatClampNeg ++ (List.range nn.toNatClampNeg).map (fun i => vs.getD (sp.toNatClampNeg + i) (.int (0 : Int32))) ++ l2) (.int (0 : Int32))) : Arv Z h a k .byte nn (SLc vs sp nn) (.int (0 : Int32)) := by
  have e0 : (0 : Int32).toNatClampNeg = 0 := by decide
  rw [e0, List.take_zero, List.nil_append] at F
  exact own_trunc (l1 := SLc vs sp nn) F (by simp [SLc])
theorem ef_rm24 (m : MethodId) (b0 : Addr) (p1 : Int32) (p2 : Int32) : entryFrame m #[(.ref b0), (.int p1), (.int p2)] 5 = mkF m 0 #[.val (.ref b0), .val (.int p1), .val (.int p2), .unset, .unset] [] := by first | (simp [entryFrame, mkF, argsToLocals, Value.category]; done) | rfl
theorem d24_0 : decode jdk_65_method_133_code 0 = .ok (.iload_n 1, 1) := by decide +kernel
theorem d24_1 : decode jdk_65_method_133_code 1 = .ok (.iload_n 2, 1) := by decide +kernel
theorem d24_2 : decode jdk_65_method_133_code 2 = .ok (.invokestatic 343, 3) := by decide +kernel
theorem d24_5 : decode jdk_65_method_133_code 5 = .ok (.iload_n 2, 1) := by decide +kernel
theorem d24_6 : decode jdk_65_method_133_code 6 = .ok (.iload_n 1, 1) := by decide +kernel
theorem d24_7 : decode jdk_65_method_133_code 7 = .ok (.isub, 1) := by decide +kernel
theorem d24_8 : decode jdk_65_method_133_code 8 = .ok (.istore_n 3, 1) := by decide +kernel
theorem d24_9 : decode jdk_65_method_133_code 9 = .ok (.iload_n 3, 1) := by decide +kernel
theorem d24_10 : decode jdk_65_method_133_code 10 = .ok (.newarray .byte, 2) := by decide +kernel
theorem d24_12 : decode jdk_65_method_133_code 12 = .ok (.astore 4, 2) := by decide +kernel
theorem d24_14 : decode jdk_65_method_133_code 14 = .ok (.aload_n 0, 1) := by decide +kernel
theorem d24_15 : decode jdk_65_method_133_code 15 = .ok (.iload_n 1, 1) := by decide +kernel
theorem d24_16 : decode jdk_65_method_133_code 16 = .ok (.aload 4, 2) := by decide +kernel
theorem d24_18 : decode jdk_65_method_133_code 18 = .ok (.iconst 0, 1) := by decide +kernel
theorem d24_19 : decode jdk_65_method_133_code 19 = .ok (.aload_n 0, 1) := by decide +kernel
theorem d24_20 : decode jdk_65_method_133_code 20 = .ok (.arraylength, 1) := by decide +kernel
theorem d24_21 : decode jdk_65_method_133_code 21 = .ok (.iload_n 1, 1) := by decide +kernel
theorem d24_22 : decode jdk_65_method_133_code 22 = .ok (.isub, 1) := by decide +kernel
theorem d24_23 : decode jdk_65_method_133_code 23 = .ok (.iload_n 3, 1) := by decide +kernel
theorem d24_24 : decode jdk_65_method_133_code 24 = .ok (.invokestatic 304, 3) := by decide +kernel
theorem pd__II_I : parseMethodDescriptor "(II)I" = some ⟨[.int, .int], some .int⟩ := by decide +kernel
theorem d24_27 : decode jdk_65_method_133_code 27 = .ok (.invokestatic 150, 3) := by decide +kernel
theorem d24_30 : decode jdk_65_method_133_code 30 = .ok (.aload 4, 2) := by decide +kernel
theorem d24_32 : decode jdk_65_method_133_code 32 = .ok (.areturn, 1) := by decide +kernel
def Q_rm24 (Z : State) (b0 : Addr) (p1 : Int32) (p2 : Int32) (kb : ClassId) (zz : Int32) (vs : List Value) (h0 : Heap) (n0 : Nat) (v : Option Value) (h : Heap) (L : List Loc) : Prop := (∃ (b : Addr) (kb : ClassId), v = some (.ref b) ∧ n0 ≤ b ∧ h0.size ≤ b ∧ Arv Z h b kb .byte (p2 - p1) (SLc vs p1 (p2 - p1)) (.int (0 : Int32))) ∧ Fr n0 L ∧ Keep h0 h []
set_option maxRecDepth 65536 in
set_option maxHeartbeats 40000000 in
theorem rm24 (l : Launch) (Z : State) (a0 : Array Value) (hw : ∀ d ∈ tables_1, d.before a0 Z = true) (ws : List Jvm.Cond) (b0 : Addr) (p1 : Int32) (p2 : Int32) (kb : ClassId) (zz : Int32) (vs : List Value) (h0 : Heap) (n0 : Nat) (Z0 : n0 ≤ h0.size) (P0 : Arv Z h0 b0 kb .byte zz vs (.int (0 : Int32))) (hp : HPc p1 p2 zz vs) :
    MetFree l (⟨"java/util/Arrays", "copyOfRangeByte", "([BII)[B"⟩ : MethodName) (head1 (Jvm.Cond.code (⟨"java/util/Arrays", "copyOfRangeByte", "([BII)[B"⟩ : MethodName) jdk_65_method_133_code 5 (some (.array .byte)) :: ws) ({ frames := 1, cells := 1, slots := 8, locals := 40 } : Room)) (fun a U => a = #[(.ref b0), (.int p1), (.int p2)] ∧ Z.Warmed39 U.vm ∧ U.heap = h0) (fun _ _ _ _ _ => True) (fun _ U o U' => ∃ v L, o = .returned v ∧ Q_rm24 Z b0 p1 p2 kb zz vs h0 n0 v U'.heap L ∧ FrameEnd U o U' L ({ frames := 1, cells := 1, slots := 8, locals := 40 } : Room).cells ({ frames := 1, cells := 1, slots := 8, locals := 40 } : Room).slots) := by
  refine MetFree.of_bodySF (plainFor_of_name pn_java_util_Arrays) hisR ?_
  intro p e s m args below meth c s₁ Bd hml0 hP hK
  obtain ⟨rfl, hZ, hh⟩ := hP
  have hx := Bd.exec
  have hby := Bd.bytes
  have hml : c.maxLocals = 5 := hml0
  have hown : s.vm.findClass "java/util/Arrays" = some m.cls := findClass_of_methodNamed Bd.named
  have hnm := (name_of_methodNamed Bd.named Bd.method).1
  have X0 : Stand p l e ({ frames := 1, cells := 1, slots := 8, locals := 40 } : Room) s m #[(.ref b0), (.int p1), (.int p2)] below meth c s₁ [] 0 0 := Stand.of_body Bd
  have e0 : s₁.heap = h0 := by rw [← hh, Bd.state]; rfl
  have N0 := Fr.nil n0
  suffices hR : ∀ P : State → Prop, (∀ s₂ o v L, s₂.status = .running → Ended s₂ below o → o = .returned v → Q_rm24 Z b0 p1 p2 kb zz vs h0 n0 v s₂.heap L → FrameEnd s o s₂ L ({ frames := 1, cells := 1, slots := 8, locals := 40 } : Room).cells ({ frames := 1, cells := 1, slots := 8, locals := 40 } : Room).slots → P s₂) → Rch p.tables e below P (s₁.setTop (mkF m 0 #[.val (.ref b0), .val (.int p1), .val (.int p2), .unset, .unset] [])) by
    obtain ⟨s₂, h1, o, h2⟩ := hR (fun s₂ => ∃ o, s₂.status = .running ∧ Ended s₂ below o ∧ ∃ v L, o = .returned v ∧ Q_rm24 Z b0 p1 p2 kb zz vs h0 n0 v s₂.heap L ∧ FrameEnd s o s₂ L ({ frames := 1, cells := 1, slots := 8, locals := 40 } : Room).cells ({ frames := 1, cells := 1, slots := 8, locals := 40 } : Room).slots) (fun s₂ o v L q1 q2 q3 q4 q5 => ⟨o, q1, q2, v, L, q3, q4, q5⟩)
    exact ⟨s₂, o, castTop (ef_rm24 m b0 p1 p2) h1, h2⟩
  intro P hPd
  refine Rch.go (fun zt zk => XS.iloadN X0.here hx rfl (hb hby d24_0) rfl zk) ?_
  refine Rch.go (fun zt zk => XS.iloadN X0.here hx rfl (hb hby d24_1) rfl zk) ?_
  obtain ⟨_, _, ⟨T101, L101, k101, n101⟩, -, X101, ⟨Lc101, hQ101, l101, y101, z101⟩, st101⟩ := Jvm.LawKit.callS X0 hx (y := (⟨"java/util/Arrays", "checkLength", "(II)V"⟩ : MethodName)) hown (mvT hZ (ow107 hw)) (mvT hZ (ow108 hw)) (mvT hZ (ow102 hw)) (mvT hZ (ow109 hw)) (by decide) (backOf (W := 0) (rm25 l Z a0 hw [] (p1) (p2) h0 n0 Z0 (own_ge hp.2.1)) hZ (ow109 hw) (ow102 hw) (by decide) (by decide)) (g := (mkF m 2 #[.val (.ref b0), .val (.int p1), .val (.int p2), .unset, .unset] [(.int p2), (.int p1)])) rfl (by rw [hml]; rfl) (argsL := [(.int p1), (.int p2)]) (rest := []) (lenOf pd__II_V rfl) rfl (by show 2 * 0 + _ ≤ _; exact Nat.le_of_eq rfl) (hb hby d24_2) (fun _ _ => ⟨rfl, e0, (by decide : 0 + 0 ≤ _), (by decide : 0 + 0 ≤ _)⟩)
  dsimp only [Pt.U, Pt.locs, Pt.cells, Pt.slots] at X101 l101 y101 z101 st101 hQ101
  rw [l101, y101, z101] at X101
  obtain ⟨rfl, N101q, eq101⟩ := hQ101
  have N101 := Fr.app N0 N101q
  refine Rch.go st101 ?_
  refine Rch.go (fun zt zk => XS.iloadN X101.here hx rfl (hb hby d24_5) rfl zk) ?_
  show Rch _ _ _ _ (T101.setTop (mkF m 6 #[.val (.ref b0), .val (.int p1), .val (.int p2), .unset, .unset] [(.int p2)]))
  refine Rch.go (fun zt zk => XS.iloadN X101.here hx rfl (hb hby d24_6) rfl zk) ?_
  refine Rch.go (fun zt zk => XS.isub X101.here hx rfl (hb hby d24_7) rfl zk) ?_
  refine Rch.go (fun zt zk => XS.istoreN X101.here hx rfl (hb hby d24_8) rfl (l' := #[.val (.ref b0), .val (.int p1), .val (.int p2), .val (.int (p2 - p1)), .unset]) rfl zk) ?_
  refine Rch.go (fun zt zk => XS.iloadN X101.here hx rfl (hb hby d24_9) rfl zk) ?_
  show Rch _ _ _ _ (T101.setTop (mkF m 10 #[.val (.ref b0), .val (.int p1), .val (.int p2), .val (.int (p2 - p1)), .unset] [(.int (p2 - p1))]))
  obtain ⟨T102, h102, k102, X102, e102, E102, A102, st102⟩ := newP X101 hx hZ (aty := .byte) (ow23 hw) eq101 (g := (mkF m 10 #[.val (.ref b0), .val (.int p1), .val (.int p2), .val (.int (p2 - p1)), .unset] [(.int (p2 - p1))])) rfl (hb hby d24_10) rfl (own_nn hp) (cap := 8) (own_cap hp) (by decide) (by decide) (by decide)
  obtain ⟨b102, g102⟩ : ∃ z, z = h0.size := ⟨_, rfl⟩
  rw [← g102] at A102 st102
  refine Rch.go st102 ?_
  have ne_b0_b102 : b0 ≠ b102 := by have q := P0.lt; rw [g102]; exact Nat.ne_of_lt q
  have ge102 : n0 ≤ b102 := by rw [g102]; exact Z0
  have gk102 : h0.size ≤ b102 := by rw [g102]; exact (Keep.refl h0 []).1
  have K102 := (Keep.refl h0 []).ext E102
  have V102 : Arv Z h102 b102 k102 .byte (p2 - p1) [] (.int (0 : Int32)) := Arv.new A102 (own_nn hp)
  refine Rch.go (fun zt zk => XS.astore X102.here hx rfl (hb hby d24_12) rfl rfl (l' := #[.val (.ref b0), .val (.int p1), .val (.int p2), .val (.int (p2 - p1)), .val (.ref b102)]) rfl zk) ?_
  refine Rch.go (fun zt zk => XS.aloadN X102.here hx rfl (hb hby d24_14) rfl rfl zk) ?_
  refine Rch.go (fun zt zk => XS.iloadN X102.here hx rfl (hb hby d24_15) rfl zk) ?_
  show Rch _ _ _ _ (T102.setTop (mkF m 16 #[.val (.ref b0), .val (.int p1), .val (.int p2), .val (.int (p2 - p1)), .val (.ref b102)] [(.int p1), (.ref b0)]))
  refine Rch.go (fun zt zk => XS.aload X102.here hx rfl (hb hby d24_16) rfl rfl zk) ?_
  refine Rch.go (fun zt zk => XS.iconst X102.here hx rfl (hb hby d24_18) zk) ?_
  refine Rch.go (fun zt zk => XS.aloadN X102.here hx rfl (hb hby d24_19) rfl rfl zk) ?_
  have f103 := (P0.ext E102)
  obtain ⟨cl104, Ar104, q104, S104, M104, H104, G104⟩ := id f103
  refine Rch.go (X102.arraylength hx (by rw [e102]; exact Ar104.1) (State.isArrayOf_alike hZ.alike Ar104.2.1) (g := (mkF m 20 #[.val (.ref b0), .val (.int p1), .val (.int p2), .val (.int (p2 - p1)), .val (.ref b102)] [(.ref b0), (.int (0 : Int32)), (.ref b102), (.int p1), (.ref b0)])) rfl rfl (hb hby d24_20)) ?_
  rw [len_of S104 M104]
  show Rch _ _ _ _ (T102.setTop (mkF m 21 #[.val (.ref b0), .val (.int p1), .val (.int p2), .val (.int (p2 - p1)), .val (.ref b102)] [(.int zz), (.int (0 : Int32)), (.ref b102), (.int p1), (.ref b0)]))
  refine Rch.go (fun zt zk => XS.iloadN X102.here hx rfl (hb hby d24_21) rfl zk) ?_
  refine Rch.go (fun zt zk => XS.isub X102.here hx rfl (hb hby d24_22) rfl zk) ?_
  refine Rch.go (fun zt zk => XS.iloadN X102.here hx rfl (hb hby d24_23) rfl zk) ?_
  have f106 := (Nat.le_trans Z0 E102.1)
  obtain ⟨_, _, ⟨T105, L105, k105, n105⟩, -, X105, ⟨Lc105, hQ105, l105, y105, z105⟩, st105⟩ := Jvm.LawKit.callS X102 hx (y := (⟨"java/lang/Math", "min", "(II)I"⟩ : MethodName)) hown (mvT hZ (ow110 hw)) (mvT hZ (ow111 hw)) (mvT hZ (ow112 hw)) (mvT hZ (ow113 hw)) (by decide) (backOf (W := 4) (rm26 l Z a0 hw [] (zz - p1) (p2 - p1) h102 n0 f106 ) hZ (ow113 hw) (ow112 hw) (by decide) (by decide)) (g := (mkF m 24 #[.val (.ref b0), .val (.int p1), .val (.int p2), .val (.int (p2 - p1)), .val (.ref b102)] [(.int (p2 - p1)), (.int (zz - p1)), (.int (0 : Int32)), (.ref b102), (.int p1), (.ref b0)])) rfl (by rw [hml]; rfl) (argsL := [(.int (zz - p1)), (.int (p2 - p1))]) (rest := [(.int (0 : Int32)), (.ref b102), (.int p1), (.ref b0)]) (lenOf pd__II_I rfl) rfl (by show 2 * 0 + _ ≤ _; exact Nat.le_of_eq rfl) (hb hby d24_24) (fun _ _ => ⟨rfl, e102, (by decide : 1 + 0 ≤ _), (by decide : 8 + 0 ≤ _)⟩)
  dsimp only [Pt.U, Pt.locs, Pt.cells, Pt.slots] at X105 l105 y105 z105 st105 hQ105
  rw [l105, y105, z105] at X105
  obtain ⟨rfl, N105q, eq105⟩ := hQ105
  have N105 := Fr.app N101 N105q
  rw [own_mn hp] at st105
  refine Rch.go st105 ?_
  show Rch _ _ _ _ (T105.setTop (mkF m 27 #[.val (.ref b0), .val (.int p1), .val (.int p2), .val (.int (p2 - p1)), .val (.ref b102)] [(.int (p2 - p1)), (.int (0 : Int32)), (.ref b102), (.int p1), (.ref b0)]))
  have VB107 := Arv.pad V102 (pad_rep [] (.int (0 : Int32)) 8)
  obtain ⟨T107, h107, L107, X107, e107, N107, K107, V107, st107⟩ := cpA X105 hx hZ hown (ow114 hw) (ow117 hw) (ow115 hw) (ow116 hw) eq105 f103 VB107 (Or.inl ⟨rfl, rfl⟩) (own_nneg hp.1) (by decide) (own_nn hp) (own_cp hp).1 (own_cp hp).2.1 rfl (own_cp hp).2.2 N105 ge102 (g := (mkF m 27 #[.val (.ref b0), .val (.int p1), .val (.int p2), .val (.int (p2 - p1)), .val (.ref b102)] [(.int (p2 - p1)), (.int (0 : Int32)), (.ref b102), (.int p1), (.ref b0)])) rfl (by rw [hml]; rfl) rfl (hb hby d24_27) (by decide) (W := 0) (by show 2 * 0 + _ ≤ _; exact Nat.le_of_eq rfl) (by decide)
  have VC107 := own_cut (z := zz) V107
  have KK107 := Keep.trans K102 K107 (allS (Or.inr gk102) all0)
  refine Rch.go st107 ?_
  refine Rch.go (fun zt zk => XS.aload X107.here hx rfl (hb hby d24_30) rfl rfl zk) ?_
  obtain ⟨fs, hr, hrun, hended, hW, hsame⟩ := X107.leave (v := some (.ref b102)) (fun h => by rw [Bd.returns] at h; cases h)
  have hend : Steps p.tables e below (T107.setTop (mkF m 32 #[.val (.ref b0), .val (.int p1), .val (.int p2), .val (.int (p2 - p1)), .val (.ref b102)] [(.ref b102)])) (T107.setFrames fs) := by
    jvm_step X107.here [X107.here.top, hx, (hb hby d24_32), X107.method', Bd.returns, Value.isRef, FieldType.isReference]
    first | (intro acts; rw [hr _ acts rfl rfl rfl]) | rw [hr _ _ rfl rfl rfl]
    exact Steps.refl _
  refine Rch.mk (hend) (hPd _ _ _ _ hrun hended rfl ?_ ⟨⟨_, rfl⟩, hW, hsame.mono (by decide) (by decide)⟩)
  show Q_rm24 Z b0 p1 p2 kb zz vs h0 n0 _ T107.heap _
  rw [e107]
  exact ⟨⟨b102, _, rfl, ge102, gk102, VC107⟩, N107, KK107⟩
theorem ef_rm23 (m : MethodId) (b0 : Addr) (p1 : Int32) (p2 : Int32) : entryFrame m #[(.ref b0), (.int p1), (.int p2)] 3 = mkF m 0 #[.val (.ref b0), .val (.int p1), .val (.int p2)] [] := by first | (simp [entryFrame, mkF, argsToLocals, Value.category]; done) | rfl
theorem d23_0 : decode jdk_65_method_132_code 0 = .ok (.iload_n 1, 1) := by decide +kernel
theorem d23_1 : decode jdk_65_method_132_code 1 = .ok (.ifCond .ne 9, 3) := by decide +kernel
theorem d23_4 : decode jdk_65_method_132_code 4 = .ok (.iload_n 2, 1) := by decide +kernel
theorem d23_5 : decode jdk_65_method_132_code 5 = .ok (.aload_n 0, 1) := by decide +kernel
theorem d23_6 : decode jdk_65_method_132_code 6 = .ok (.arraylength, 1) := by decide +kernel
theorem d23_7 : decode jdk_65_method_132_code 7 = .ok (.if_icmp .eq 10, 3) := by decide +kernel
theorem d23_10 : decode jdk_65_method_132_code 10 = .ok (.aload_n 0, 1) := by decide +kernel
theorem d23_11 : decode jdk_65_method_132_code 11 = .ok (.iload_n 1, 1) := by decide +kernel
theorem d23_12 : decode jdk_65_method_132_code 12 = .ok (.iload_n 2, 1) := by decide +kernel
theorem d23_13 : decode jdk_65_method_132_code 13 = .ok (.invokestatic 339, 3) := by decide +kernel
theorem pd___BII__B : parseMethodDescriptor "([BII)[B" = some ⟨[(.array .byte), .int, .int], some (.array .byte)⟩ := by decide +kernel
theorem d23_16 : decode jdk_65_method_132_code 16 = .ok (.areturn, 1) := by decide +kernel
def Q_rm23 (Z : State) (b0 : Addr) (p1 : Int32) (p2 : Int32) (kb : ClassId) (zz : Int32) (vs : List Value) (h0 : Heap) (n0 : Nat) (v : Option Value) (h : Heap) (L : List Loc) : Prop := (∃ (b : Addr) (kb : ClassId), v = some (.ref b) ∧ n0 ≤ b ∧ h0.size ≤ b ∧ Arv Z h b kb .byte (p2 - p1) (SLc vs p1 (p2 - p1)) (.int (0 : Int32))) ∧ Fr n0 L ∧ Keep h0 h []
set_option maxRecDepth 65536 in
set_option maxHeartbeats 40000000 in
theorem rm23 (l : Launch) (Z : State) (a0 : Array Value) (hw : ∀ d ∈ tables_1, d.before a0 Z = true) (ws : List Jvm.Cond) (b0 : Addr) (p1 : Int32) (p2 : Int32) (kb : ClassId) (zz : Int32) (vs : List Value) (h0 : Heap) (n0 : Nat) (Z0 : n0 ≤ h0.size) (P0 : Arv Z h0 b0 kb .byte zz vs (.int (0 : Int32))) (hp : HPc p1 p2 zz vs) (hne : ¬ (p1 = (0 : Int32) ∧ p2 = zz)) :
    MetFree l (⟨"java/util/Arrays", "copyOfRange", "([BII)[B"⟩ : MethodName) (head1 (Jvm.Cond.code (⟨"java/util/Arrays", "copyOfRange", "([BII)[B"⟩ : MethodName) jdk_65_method_132_code 3 (some (.array .byte)) :: ws) ({ frames := 2, cells := 1, slots := 8, locals := 56 } : Room)) (fun a U => a = #[(.ref b0), (.int p1), (.int p2)] ∧ Z.Warmed39 U.vm ∧ U.heap = h0) (fun _ _ _ _ _ => True) (fun _ U o U' => ∃ v L, o = .returned v ∧ Q_rm23 Z b0 p1 p2 kb zz vs h0 n0 v U'.heap L ∧ FrameEnd U o U' L ({ frames := 2, cells := 1, slots := 8, locals := 56 } : Room).cells ({ frames := 2, cells := 1, slots := 8, locals := 56 } : Room).slots) := by
  refine MetFree.of_bodySF (plainFor_of_name pn_java_util_Arrays) hisR ?_
  intro p e s m args below meth c s₁ Bd hml0 hP hK
  obtain ⟨rfl, hZ, hh⟩ := hP
  have hx := Bd.exec
  have hby := Bd.bytes
  have hml : c.maxLocals = 3 := hml0
  have hown : s.vm.findClass "java/util/Arrays" = some m.cls := findClass_of_methodNamed Bd.named
  have hnm := (name_of_methodNamed Bd.named Bd.method).1
  have X0 : Stand p l e ({ frames := 2, cells := 1, slots := 8, locals := 56 } : Room) s m #[(.ref b0), (.int p1), (.int p2)] below meth c s₁ [] 0 0 := Stand.of_body Bd
  have e0 : s₁.heap = h0 := by rw [← hh, Bd.state]; rfl
  have N0 := Fr.nil n0
  suffices hR : ∀ P : State → Prop, (∀ s₂ o v L, s₂.status = .running → Ended s₂ below o → o = .returned v → Q_rm23 Z b0 p1 p2 kb zz vs h0 n0 v s₂.heap L → FrameEnd s o s₂ L ({ frames := 2, cells := 1, slots := 8, locals := 56 } : Room).cells ({ frames := 2, cells := 1, slots := 8, locals := 56 } : Room).slots → P s₂) → Rch p.tables e below P (s₁.setTop (mkF m 0 #[.val (.ref b0), .val (.int p1), .val (.int p2)] [])) by
    obtain ⟨s₂, h1, o, h2⟩ := hR (fun s₂ => ∃ o, s₂.status = .running ∧ Ended s₂ below o ∧ ∃ v L, o = .returned v ∧ Q_rm23 Z b0 p1 p2 kb zz vs h0 n0 v s₂.heap L ∧ FrameEnd s o s₂ L ({ frames := 2, cells := 1, slots := 8, locals := 56 } : Room).cells ({ frames := 2, cells := 1, slots := 8, locals := 56 } : Room).slots) (fun s₂ o v L q1 q2 q3 q4 q5 => ⟨o, q1, q2, v, L, q3, q4, q5⟩)
    exact ⟨s₂, o, castTop (ef_rm23 m b0 p1 p2) h1, h2⟩
  intro P hPd
  refine Rch.go (fun zt zk => XS.iloadN X0.here hx rfl (hb hby d23_0) rfl zk) ?_
  by_cases hc1_101 : p1 = (0 : Int32)
  · skip
    refine Rch.go (fun zt zk => XS.ifNo X0.here hx rfl (hb hby d23_1) rfl ((if0 _ _).trans (teq hc1_101).2) zk) ?_
    refine Rch.go (fun zt zk => XS.iloadN X0.here hx rfl (hb hby d23_4) rfl zk) ?_
    refine Rch.go (fun zt zk => XS.aloadN X0.here hx rfl (hb hby d23_5) rfl rfl zk) ?_
    show Rch _ _ _ _ (s₁.setTop (mkF m 6 #[.val (.ref b0), .val (.int p1), .val (.int p2)] [(.ref b0), (.int p2)]))
    obtain ⟨cl102, Ar102, q102, S102, M102, H102, G102⟩ := id P0
    refine Rch.go (X0.arraylength hx (by rw [e0]; exact Ar102.1) (State.isArrayOf_alike hZ.alike Ar102.2.1) (g := (mkF m 6 #[.val (.ref b0), .val (.int p1), .val (.int p2)] [(.ref b0), (.int p2)])) rfl rfl (hb hby d23_6)) ?_
    rw [len_of S102 M102]
    refine Rch.go (fun zt zk => XS.icmpNo X0.here hx rfl (hb hby d23_7) rfl (feq (fun q => hne ⟨hc1_101, q⟩ : ¬ (p2 = zz))).1 zk) ?_
    refine Rch.go (fun zt zk => XS.aloadN X0.here hx rfl (hb hby d23_10) rfl rfl zk) ?_
    refine Rch.go (fun zt zk => XS.iloadN X0.here hx rfl (hb hby d23_11) rfl zk) ?_
    show Rch _ _ _ _ (s₁.setTop (mkF m 12 #[.val (.ref b0), .val (.int p1), .val (.int p2)] [(.int p1), (.ref b0)]))
    refine Rch.go (fun zt zk => XS.iloadN X0.here hx rfl (hb hby d23_12) rfl zk) ?_
    obtain ⟨_, _, ⟨T103, L103, k103, n103⟩, -, X103, ⟨Lc103, hQ103, l103, y103, z103⟩, st103⟩ := Jvm.LawKit.callS X0 hx (y := (⟨"java/util/Arrays", "copyOfRangeByte", "([BII)[B"⟩ : MethodName)) hown (mvT hZ (ow104 hw)) (mvT hZ (ow105 hw)) (mvT hZ (ow102 hw)) (mvT hZ (ow106 hw)) (by decide) (backOf (W := 0) (rm24 l Z a0 hw [] (b0) (p1) (p2) (kb) (zz) (vs) h0 n0 Z0 (P0) (hp)) hZ (ow106 hw) (ow102 hw) (by decide) (by decide)) (g := (mkF m 13 #[.val (.ref b0), .val (.int p1), .val (.int p2)] [(.int p2), (.int p1), (.ref b0)])) rfl (by rw [hml]; rfl) (argsL := [(.ref b0), (.int p1), (.int p2)]) (rest := []) (lenOf pd___BII__B rfl) rfl (by show 2 * 0 + _ ≤ _; exact Nat.le_of_eq rfl) (hb hby d23_13) (fun _ _ => ⟨rfl, e0, (by decide : 0 + 1 ≤ _), (by decide : 0 + 8 ≤ _)⟩)
    dsimp only [Pt.U, Pt.locs, Pt.cells, Pt.slots] at X103 l103 y103 z103 st103 hQ103
    rw [l103, y103, z103] at X103
    obtain ⟨⟨b103, kb103, rfl, gb103, gh103, V103⟩, N103q, K103q⟩ := hQ103
    have N103 := Fr.app N0 N103q
    have ne_b0_b103 : b0 ≠ b103 := Nat.ne_of_lt (Nat.lt_of_lt_of_le P0.lt gh103)
    have gk103 : h0.size ≤ b103 := Nat.le_trans (Keep.refl h0 []).1 gh103
    have K103 := Keep.trans (Keep.refl h0 []) K103q all0
    refine Rch.go st103 ?_
    obtain ⟨fs, hr, hrun, hended, hW, hsame⟩ := X103.leave (v := some (.ref b103)) (fun h => by rw [Bd.returns] at h; cases h)
    have hend : Steps p.tables e below (T103.setTop (mkF m 16 #[.val (.ref b0), .val (.int p1), .val (.int p2)] [(.ref b103)])) (T103.setFrames fs) := by
      jvm_step X103.here [X103.here.top, hx, (hb hby d23_16), X103.method', Bd.returns, Value.isRef, FieldType.isReference]
      first | (intro acts; rw [hr _ acts rfl rfl rfl]) | rw [hr _ _ rfl rfl rfl]
      exact Steps.refl _
    refine Rch.mk (hend) (hPd _ _ _ _ hrun hended rfl ?_ ⟨⟨_, rfl⟩, hW, hsame.mono (by decide) (by decide)⟩)
    show Q_rm23 Z b0 p1 p2 kb zz vs h0 n0 _ T103.heap _
    exact ⟨⟨b103, _, rfl, gb103, gk103, V103⟩, N103, K103⟩
  · skip
    refine Rch.go (fun zt zk => XS.ifYes X0.here hx rfl (pc0 := 1) (pc' := 10) rfl (hb hby d23_1) rfl ((if0 _ _).trans (feq hc1_101).2) (by decide) (by decide) zk) ?_
    refine Rch.go (fun zt zk => XS.aloadN X0.here hx rfl (hb hby d23_10) rfl rfl zk) ?_
    show Rch _ _ _ _ (s₁.setTop (mkF m 11 #[.val (.ref b0), .val (.int p1), .val (.int p2)] [(.ref b0)]))
    refine Rch.go (fun zt zk => XS.iloadN X0.here hx rfl (hb hby d23_11) rfl zk) ?_
    refine Rch.go (fun zt zk => XS.iloadN X0.here hx rfl (hb hby d23_12) rfl zk) ?_
    obtain ⟨_, _, ⟨T104, L104, k104, n104⟩, -, X104, ⟨Lc104, hQ104, l104, y104, z104⟩, st104⟩ := Jvm.LawKit.callS X0 hx (y := (⟨"java/util/Arrays", "copyOfRangeByte", "([BII)[B"⟩ : MethodName)) hown (mvT hZ (ow104 hw)) (mvT hZ (ow105 hw)) (mvT hZ (ow102 hw)) (mvT hZ (ow106 hw)) (by decide) (backOf (W := 0) (rm24 l Z a0 hw [] (b0) (p1) (p2) (kb) (zz) (vs) h0 n0 Z0 (P0) (hp)) hZ (ow106 hw) (ow102 hw) (by decide) (by decide)) (g := (mkF m 13 #[.val (.ref b0), .val (.int p1), .val (.int p2)] [(.int p2), (.int p1), (.ref b0)])) rfl (by rw [hml]; rfl) (argsL := [(.ref b0), (.int p1), (.int p2)]) (rest := []) (lenOf pd___BII__B rfl) rfl (by show 2 * 0 + _ ≤ _; exact Nat.le_of_eq rfl) (hb hby d23_13) (fun _ _ => ⟨rfl, e0, (by decide : 0 + 1 ≤ _), (by decide : 0 + 8 ≤ _)⟩)
    dsimp only [Pt.U, Pt.locs, Pt.cells, Pt.slots] at X104 l104 y104 z104 st104 hQ104
    rw [l104, y104, z104] at X104
    obtain ⟨⟨b104, kb104, rfl, gb104, gh104, V104⟩, N104q, K104q⟩ := hQ104
    have N104 := Fr.app N0 N104q
    have ne_b0_b104 : b0 ≠ b104 := Nat.ne_of_lt (Nat.lt_of_lt_of_le P0.lt gh104)
    have gk104 : h0.size ≤ b104 := Nat.le_trans (Keep.refl h0 []).1 gh104
    have K104 := Keep.trans (Keep.refl h0 []) K104q all0
    refine Rch.go st104 ?_
    obtain ⟨fs, hr, hrun, hended, hW, hsame⟩ := X104.leave (v := some (.ref b104)) (fun h => by rw [Bd.returns] at h; cases h)
    have hend : Steps p.tables e below (T104.setTop (mkF m 16 #[.val (.ref b0), .val (.int p1), .val (.int p2)] [(.ref b104)])) (T104.setFrames fs) := by
      jvm_step X104.here [X104.here.top, hx, (hb hby d23_16), X104.method', Bd.returns, Value.isRef, FieldType.isReference]
      first | (intro acts; rw [hr _ acts rfl rfl rfl]) | rw [hr _ _ rfl rfl rfl]
      exact Steps.refl _
    refine Rch.mk (hend) (hPd _ _ _ _ hrun hended rfl ?_ ⟨⟨_, rfl⟩, hW, hsame.mono (by decide) (by decide)⟩)
    show Q_rm23 Z b0 p1 p2 kb zz vs h0 n0 _ T104.heap _
    exact ⟨⟨b104, _, rfl, gb104, gk104, V104⟩, N104, K104⟩
theorem ef_rm27 (m : MethodId) (a1 : Addr) (b0 : Addr) (w3 : Int32) : entryFrame m #[(.ref a1), (.ref b0), (.int w3)] 3 = mkF m 0 #[.val (.ref a1), .val (.ref b0), .val (.int w3)] [] := by first | (simp [entryFrame, mkF, argsToLocals, Value.category]; done) | rfl
theorem d27_0 : decode jdk_42_method_151_code 0 = .ok (.aload_n 0, 1) := by decide +kernel
theorem d27_1 : decode jdk_42_method_151_code 1 = .ok (.invokespecial 1, 3) := by decide +kernel
theorem d27_4 : decode jdk_42_method_151_code 4 = .ok (.aload_n 0, 1) := by decide +kernel
theorem d27_5 : decode jdk_42_method_151_code 5 = .ok (.aload_n 1, 1) := by decide +kernel
theorem d27_6 : decode jdk_42_method_151_code 6 = .ok (.putfield 9, 3) := by decide +kernel
theorem d27_9 : decode jdk_42_method_151_code 9 = .ok (.aload_n 0, 1) := by decide +kernel
theorem d27_10 : decode jdk_42_method_151_code 10 = .ok (.iload_n 2, 1) := by decide +kernel
theorem d27_11 : decode jdk_42_method_151_code 11 = .ok (.putfield 15, 3) := by decide +kernel
theorem d27_14 : decode jdk_42_method_151_code 14 = .ok (.return_, 1) := by decide +kernel
def Q_rm27 (Z : State) (a1 : Addr) (b0 : Addr) (w3 : Int32) (h0 : Heap) (n0 : Nat) (v : Option Value) (h : Heap) (L : List Loc) : Prop := v = none ∧ Fr n0 L ∧ Keep h0 h [a1] ∧ Exa Z h a1 "java/lang/String" ∧ Fld Z h a1 "java/lang/String" "coder" "B" (.int (nar .byte w3)) ∧ Fld Z h a1 "java/lang/String" "value" "[B" (.ref b0)
set_option maxRecDepth 65536 in
set_option maxHeartbeats 40000000 in
theorem rm27 (l : Launch) (Z : State) (a0 : Array Value) (hw : ∀ d ∈ tables_1, d.before a0 Z = true) (ws : List Jvm.Cond) (a1 : Addr) (b0 : Addr) (w3 : Int32) (h0 : Heap) (n0 : Nat) (Z0 : n0 ≤ h0.size) (P0 : Exa Z h0 a1 "java/lang/String") (P1 : Fld Z h0 a1 "java/lang/String" "value" "[B" .null) (P2 : Fld Z h0 a1 "java/lang/String" "coder" "B" (.int (0 : Int32))) (Pg_a1 : n0 ≤ a1) :
    MetFree l (⟨"java/lang/String", "<init>", "([BB)V"⟩ : MethodName) (head1 (Jvm.Cond.code (⟨"java/lang/String", "<init>", "([BB)V"⟩ : MethodName) jdk_42_method_151_code 3 none :: ws) ({ frames := 1, cells := 0, slots := 0, locals := 12 } : Room)) (fun a U => a = #[(.ref a1), (.ref b0), (.int w3)] ∧ Z.Warmed39 U.vm ∧ U.heap = h0) (fun _ _ _ _ _ => True) (fun _ U o U' => ∃ v L, o = .returned v ∧ Q_rm27 Z a1 b0 w3 h0 n0 v U'.heap L ∧ FrameEnd U o U' L ({ frames := 1, cells := 0, slots := 0, locals := 12 } : Room).cells ({ frames := 1, cells := 0, slots := 0, locals := 12 } : Room).slots) := by
  refine MetFree.of_bodySF (plainFor_of_name pn_java_lang_String) hisR ?_
  intro p e s m args below meth c s₁ Bd hml0 hP hK
  obtain ⟨rfl, hZ, hh⟩ := hP
  have hx := Bd.exec
  have hby := Bd.bytes
  have hml : c.maxLocals = 3 := hml0
  have hown : s.vm.findClass "java/lang/String" = some m.cls := findClass_of_methodNamed Bd.named
  have hnm := (name_of_methodNamed Bd.named Bd.method).1
  have X0 : Stand p l e ({ frames := 1, cells := 0, slots := 0, locals := 12 } : Room) s m #[(.ref a1), (.ref b0), (.int w3)] below meth c s₁ [] 0 0 := Stand.of_body Bd
  have e0 : s₁.heap = h0 := by rw [← hh, Bd.state]; rfl
  have N0 := Fr.nil n0
  suffices hR : ∀ P : State → Prop, (∀ s₂ o v L, s₂.status = .running → Ended s₂ below o → o = .returned v → Q_rm27 Z a1 b0 w3 h0 n0 v s₂.heap L → FrameEnd s o s₂ L ({ frames := 1, cells := 0, slots := 0, locals := 12 } : Room).cells ({ frames := 1, cells := 0, slots := 0, locals := 12 } : Room).slots → P s₂) → Rch p.tables e below P (s₁.setTop (mkF m 0 #[.val (.ref a1), .val (.ref b0), .val (.int w3)] [])) by
    obtain ⟨s₂, h1, o, h2⟩ := hR (fun s₂ => ∃ o, s₂.status = .running ∧ Ended s₂ below o ∧ ∃ v L, o = .returned v ∧ Q_rm27 Z a1 b0 w3 h0 n0 v s₂.heap L ∧ FrameEnd s o s₂ L ({ frames := 1, cells := 0, slots := 0, locals := 12 } : Room).cells ({ frames := 1, cells := 0, slots := 0, locals := 12 } : Room).slots) (fun s₂ o v L q1 q2 q3 q4 q5 => ⟨o, q1, q2, v, L, q3, q4, q5⟩)
    exact ⟨s₂, o, castTop (ef_rm27 m a1 b0 w3) h1, h2⟩
  intro P hPd
  refine Rch.go (fun zt zk => XS.aloadN X0.here hx rfl (hb hby d27_0) rfl rfl zk) ?_
  obtain ⟨T101, X101, e101, st101⟩ := initO X0 hx hZ hown (ow19 hw) (ow20 hw) (ow21 hw) e0 (g := (mkF m 1 #[.val (.ref a1), .val (.ref b0), .val (.int w3)] [(.ref a1)])) rfl (by rw [hml]; rfl) rfl (hb hby d27_1) (by decide) (W := 0) (by show 2 * 0 + _ ≤ _; exact Nat.le_of_eq rfl) (by decide)
  refine Rch.go st101 ?_
  refine Rch.go (fun zt zk => XS.aloadN X101.here hx rfl (hb hby d27_4) rfl rfl zk) ?_
  refine Rch.go (fun zt zk => XS.aloadN X101.here hx rfl (hb hby d27_5) rfl rfl zk) ?_
  show Rch _ _ _ _ (T101.setTop (mkF m 6 #[.val (.ref a1), .val (.ref b0), .val (.int w3)] [(.ref b0), (.ref a1)]))
  obtain ⟨T102, h102, X102, e102, W102, st102⟩ := putF X101 hx hZ hown (host := "") (Or.inl (ow28 hw)) Via.refl e101 P1 P0 (Or.inr ⟨(ow24 hw), rfl, hnm⟩) (ow10 hw) (ty := (.array .byte)) (by decide) rfl rfl (g := (mkF m 6 #[.val (.ref a1), .val (.ref b0), .val (.int w3)] [(.ref b0), (.ref a1)])) rfl rfl (hb hby d27_6)
  refine Rch.go st102 ?_
  have Fw102 := P1.same W102
  have N102 := Fr.snoc X102 N0 Pg_a1
  have K102 : Keep h0 h102 [a1] := Keep.wr (Keep.refl h0 [a1]) W102 (Or.inl (List.mem_of_getElem? (i := 0) rfl))
  refine Rch.go (fun zt zk => XS.aloadN X102.here hx rfl (hb hby d27_9) rfl rfl zk) ?_
  refine Rch.go (fun zt zk => XS.iloadN X102.here hx rfl (hb hby d27_10) rfl zk) ?_
  have f103 := (P0.wr W102)
  have f104 := (P2.other W102 (Or.inr (slot_ne (Or.inr (ow25 hw)) (Or.inr (ow24 hw)) (by decide) (t := .byte) (t' := (.array .byte)) (by decide) (by decide))))
  obtain ⟨T105, h105, X105, e105, W105, st105⟩ := putFN X102 hx hZ hown (ow29 hw) Via.refl e102 f104 f103 (Or.inr ⟨(ow25 hw), rfl, hnm⟩) (ow10 hw) (ty := .byte) (v' := (.int (nar .byte w3))) (by decide) rfl (fits_nar_byte _) (g := (mkF m 11 #[.val (.ref a1), .val (.ref b0), .val (.int w3)] [(.int w3), (.ref a1)])) rfl rfl (hb hby d27_11)
  refine Rch.go st105 ?_
  have Fw105 := f104.same W105
  have N105 := Fr.snoc X105 N102 Pg_a1
  have K105 : Keep h0 h105 [a1] := Keep.wr K102 W105 (Or.inl (List.mem_of_getElem? (i := 0) rfl))
  show Rch _ _ _ _ (T105.setTop (mkF m 14 #[.val (.ref a1), .val (.ref b0), .val (.int w3)] []))
  obtain ⟨fs, hr, hrun, hended, hW, hsame⟩ := X105.leave (v := none) (fun _ => rfl)
  refine Rch.mk (X105.returnOut hx Bd.returns (hb hby d27_14) hr) (hPd _ _ _ _ hrun hended rfl ?_ ⟨⟨_, rfl⟩, hW, hsame.mono (by decide) (by decide)⟩)
  show Q_rm27 Z a1 b0 w3 h0 n0 _ T105.heap _
  rw [e105]
  have f106 := (f103.wr W105)
  have f107 := (Fw102.other W105 (Or.inr (slot_ne (Or.inr (ow24 hw)) (Or.inr (ow25 hw)) (by decide) (t := (.array .byte)) (t' := .byte) (by decide) (by decide))))
  exact ⟨rfl, N105, K105, f106, Fw105, f107⟩
theorem own_add {p1 p2 zz : Int32} {vs : List Value} (hq : 0 ≤ p1.toInt ∧ 0 < p2.toInt ∧ p1.toInt + p2.toInt ≤ zz.toInt ∧ zz.toInt ≤ 8) : HPc p1 (p1 + p2) zz vs ∧ (p1 + p2) - p1 = p2 := by
  have h := c_iadd p1 p2; have h1 := rng32 (p1 + p2); have h2 := rng32 p1; have h3 := rng32 p2
  have h4 := c_isub (p1 + p2) p1; have h5 := rng32 (p1 + p2 - p1)
  refine ⟨⟨hq.1, by omega, by omega, by omega⟩, Int32.toInt_inj.mp (by omega)⟩
theorem own_ns0 {p2 : Int32} (h : 0 < p2.toInt) : ¬ (p2 = (0 : Int32)) := fun q => by rw [q, own_e0] at h; omega
theorem ef_rmNs (m : MethodId) (b0 : Addr) (p1 : Int32) (p2 : Int32) : entryFrame m #[(.ref b0), (.int p1), (.int p2)] 3 = mkF m 0 #[.val (.ref b0), .val (.int p1), .val (.int p2)] [] := by first | (simp [entryFrame, mkF, argsToLocals, Value.category]; done) | rfl
theorem d22_0 : decode jdk_43_method_47_code 0 = .ok (.iload_n 2, 1) := by decide +kernel
theorem d22_1 : decode jdk_43_method_47_code 1 = .ok (.ifCond .ne 6, 3) := by decide +kernel
theorem d22_7 : decode jdk_43_method_47_code 7 = .ok (.new 1, 3) := by decide +kernel
theorem d22_10 : decode jdk_43_method_47_code 10 = .ok (.dup, 1) := by decide +kernel
theorem d22_11 : decode jdk_43_method_47_code 11 = .ok (.aload_n 0, 1) := by decide +kernel
theorem d22_12 : decode jdk_43_method_47_code 12 = .ok (.iload_n 1, 1) := by decide +kernel
theorem d22_13 : decode jdk_43_method_47_code 13 = .ok (.iload_n 1, 1) := by decide +kernel
theorem d22_14 : decode jdk_43_method_47_code 14 = .ok (.iload_n 2, 1) := by decide +kernel
theorem d22_15 : decode jdk_43_method_47_code 15 = .ok (.iadd, 1) := by decide +kernel
theorem d22_16 : decode jdk_43_method_47_code 16 = .ok (.invokestatic 232, 3) := by decide +kernel
theorem d22_19 : decode jdk_43_method_47_code 19 = .ok (.iconst 0, 1) := by decide +kernel
theorem d22_20 : decode jdk_43_method_47_code 20 = .ok (.invokespecial 112, 3) := by decide +kernel
theorem pd___BB_V : parseMethodDescriptor "([BB)V" = some ⟨[(.array .byte), .byte], none⟩ := by decide +kernel
theorem d22_23 : decode jdk_43_method_47_code 23 = .ok (.areturn, 1) := by decide +kernel
def Q_rmNs (Z : State) (b0 : Addr) (p1 : Int32) (p2 : Int32) (kb : ClassId) (zz : Int32) (vs : List Value) (h0 : Heap) (n0 : Nat) (v : Option Value) (h : Heap) (L : List Loc) : Prop := (∃ (r b : Addr) (kb : ClassId) (w2 : Int32), v = some (.ref r) ∧ w2 = (0 : Int32) ∧ Exa Z h r "java/lang/String" ∧ Fld Z h r "java/lang/String" "coder" "B" (.int w2) ∧ Fld Z h r "java/lang/String" "value" "[B" (.ref b) ∧ Arv Z h b kb .byte p2 (SLc vs p1 p2) (.int (0 : Int32))) ∧ Fr n0 L ∧ Keep h0 h []
set_option maxRecDepth 65536 in
set_option maxHeartbeats 40000000 in
theorem rmNs (l : Launch) (Z : State) (a0 : Array Value) (hw : ∀ d ∈ tables_1, d.before a0 Z = true) (ws : List Jvm.Cond) (b0 : Addr) (p1 : Int32) (p2 : Int32) (kb : ClassId) (zz : Int32) (vs : List Value) (h0 : Heap) (n0 : Nat) (Z0 : n0 ≤ h0.size) (P0 : Arv Z h0 b0 kb .byte zz vs (.int (0 : Int32))) (hq : 0 ≤ p1.toInt ∧ 0 < p2.toInt ∧ p1.toInt + p2.toInt ≤ zz.toInt ∧ zz.toInt ≤ 8) (hnf : ¬ (p1 = (0 : Int32) ∧ (p1 + p2) = zz)) :
    MetFree l (⟨"java/lang/StringLatin1", "newString", "([BII)Ljava/lang/String;"⟩ : MethodName) (head1 (Jvm.Cond.code (⟨"java/lang/StringLatin1", "newString", "([BII)Ljava/lang/String;"⟩ : MethodName) jdk_43_method_47_code 3 (some (.object "java/lang/String")) :: ws) ({ frames := 3, cells := 2, slots := 12, locals := 72 } : Room)) (fun a U => a = #[(.ref b0), (.int p1), (.int p2)] ∧ Z.Warmed39 U.vm ∧ U.heap = h0) (fun _ _ _ _ _ => True) (fun _ U o U' => ∃ v L, o = .returned v ∧ Q_rmNs Z b0 p1 p2 kb zz vs h0 n0 v U'.heap L ∧ FrameEnd U o U' L ({ frames := 3, cells := 2, slots := 12, locals := 72 } : Room).cells ({ frames := 3, cells := 2, slots := 12, locals := 72 } : Room).slots) := by
  refine MetFree.of_bodySF (plainFor_of_name pn_java_lang_StringLatin1) hisR ?_
  intro p e s m args below meth c s₁ Bd hml0 hP hK
  obtain ⟨rfl, hZ, hh⟩ := hP
  have hx := Bd.exec
  have hby := Bd.bytes
  have hml : c.maxLocals = 3 := hml0
  have hown : s.vm.findClass "java/lang/StringLatin1" = some m.cls := findClass_of_methodNamed Bd.named
  have hnm := (name_of_methodNamed Bd.named Bd.method).1
  have X0 : Stand p l e ({ frames := 3, cells := 2, slots := 12, locals := 72 } : Room) s m #[(.ref b0), (.int p1), (.int p2)] below meth c s₁ [] 0 0 := Stand.of_body Bd
  have e0 : s₁.heap = h0 := by rw [← hh, Bd.state]; rfl
  have N0 := Fr.nil n0
  suffices hR : ∀ P : State → Prop, (∀ s₂ o v L, s₂.status = .running → Ended s₂ below o → o = .returned v → Q_rmNs Z b0 p1 p2 kb zz vs h0 n0 v s₂.heap L → FrameEnd s o s₂ L ({ frames := 3, cells := 2, slots := 12, locals := 72 } : Room).cells ({ frames := 3, cells := 2, slots := 12, locals := 72 } : Room).slots → P s₂) → Rch p.tables e below P (s₁.setTop (mkF m 0 #[.val (.ref b0), .val (.int p1), .val (.int p2)] [])) by
    obtain ⟨s₂, h1, o, h2⟩ := hR (fun s₂ => ∃ o, s₂.status = .running ∧ Ended s₂ below o ∧ ∃ v L, o = .returned v ∧ Q_rmNs Z b0 p1 p2 kb zz vs h0 n0 v s₂.heap L ∧ FrameEnd s o s₂ L ({ frames := 3, cells := 2, slots := 12, locals := 72 } : Room).cells ({ frames := 3, cells := 2, slots := 12, locals := 72 } : Room).slots) (fun s₂ o v L q1 q2 q3 q4 q5 => ⟨o, q1, q2, v, L, q3, q4, q5⟩)
    exact ⟨s₂, o, castTop (ef_rmNs m b0 p1 p2) h1, h2⟩
  intro P hPd
  refine Rch.go (fun zt zk => XS.iloadN X0.here hx rfl (hb hby d22_0) rfl zk) ?_
  refine Rch.go (fun zt zk => XS.ifYes X0.here hx rfl (pc0 := 1) (pc' := 7) rfl (hb hby d22_1) rfl ((if0 _ _).trans (feq (own_ns0 hq.2.1 : ¬ (p2 = (0 : Int32)))).2) (by decide) (by decide) zk) ?_
  obtain ⟨T101, h101, X101, e101, E101, A101, D101, -, st101⟩ := newO X0 hx hZ hown (ow99 hw) (ow10 hw) (ow11 hw) e0 (g := (mkF m 7 #[.val (.ref b0), .val (.int p1), .val (.int p2)] [])) rfl (hb hby d22_7) (by decide) (by decide)
  obtain ⟨b101, g101⟩ : ∃ z, z = h0.size := ⟨_, rfl⟩
  rw [← g101] at A101 D101 st101
  refine Rch.go st101 ?_
  have ne_b0_b101 : b0 ≠ b101 := by have q := P0.lt; rw [g101]; exact Nat.ne_of_lt q
  have ge101 : n0 ≤ b101 := by rw [g101]; exact Z0
  have gk101 : h0.size ≤ b101 := by rw [g101]; exact (Keep.refl h0 []).1
  have K101 := (Keep.refl h0 []).ext E101
  have F101_value : Fld Z h101 b101 "java/lang/String" "value" "[B" .null := D101 (Or.inr (ow24 hw)) (ty := (.array .byte)) (by decide)
  have F101_coder : Fld Z h101 b101 "java/lang/String" "coder" "B" (.int (0 : Int32)) := D101 (Or.inr (ow25 hw)) (ty := .byte) (by decide)
  refine Rch.go (fun zt zk => XS.dup X101.here hx rfl (hb hby d22_10) rfl rfl zk) ?_
  show Rch _ _ _ _ (T101.setTop (mkF m 11 #[.val (.ref b0), .val (.int p1), .val (.int p2)] [(.ref b101), (.ref b101)]))
  refine Rch.go (fun zt zk => XS.aloadN X101.here hx rfl (hb hby d22_11) rfl rfl zk) ?_
  refine Rch.go (fun zt zk => XS.iloadN X101.here hx rfl (hb hby d22_12) rfl zk) ?_
  refine Rch.go (fun zt zk => XS.iloadN X101.here hx rfl (hb hby d22_13) rfl zk) ?_
  refine Rch.go (fun zt zk => XS.iloadN X101.here hx rfl (hb hby d22_14) rfl zk) ?_
  show Rch _ _ _ _ (T101.setTop (mkF m 15 #[.val (.ref b0), .val (.int p1), .val (.int p2)] [(.int p2), (.int p1), (.int p1), (.ref b0), (.ref b101), (.ref b101)]))
  refine Rch.go (fun zt zk => XS.iadd X101.here hx rfl (hb hby d22_15) rfl zk) ?_
  have f103 := (P0.ext E101)
  have f104 := (Nat.le_trans Z0 E101.1)
  obtain ⟨_, _, ⟨T102, L102, k102, n102⟩, -, X102, ⟨Lc102, hQ102, l102, y102, z102⟩, st102⟩ := Jvm.LawKit.callS X101 hx (y := (⟨"java/util/Arrays", "copyOfRange", "([BII)[B"⟩ : MethodName)) hown (mvT hZ (ow100 hw)) (mvT hZ (ow101 hw)) (mvT hZ (ow102 hw)) (mvT hZ (ow103 hw)) (by decide) (backOf (W := 2) (rm23 l Z a0 hw [] (b0) (p1) ((p1 + p2)) (kb) (zz) (vs) h101 n0 f104 (f103) ((own_add hq).1) (hnf)) hZ (ow103 hw) (ow102 hw) (by decide) (by decide)) (g := (mkF m 16 #[.val (.ref b0), .val (.int p1), .val (.int p2)] [(.int (p1 + p2)), (.int p1), (.ref b0), (.ref b101), (.ref b101)])) rfl (by rw [hml]; rfl) (argsL := [(.ref b0), (.int p1), (.int (p1 + p2))]) (rest := [(.ref b101), (.ref b101)]) (lenOf pd___BII__B rfl) rfl (by show 2 * 0 + _ ≤ _; exact Nat.le_of_eq rfl) (hb hby d22_16) (fun _ _ => ⟨rfl, e101, (by decide : 1 + 1 ≤ _), (by decide : 4 + 8 ≤ _)⟩)
  dsimp only [Pt.U, Pt.locs, Pt.cells, Pt.slots] at X102 l102 y102 z102 st102 hQ102
  rw [l102, y102, z102] at X102
  obtain ⟨⟨b102, kb102, rfl, gb102, gh102, V102⟩, N102q, K102q⟩ := hQ102
  have N102 := Fr.app N0 N102q
  have ne_b0_b102 : b0 ≠ b102 := Nat.ne_of_lt (Nat.lt_of_lt_of_le f103.lt gh102)
  have ne_b101_b102 : b101 ≠ b102 := Nat.ne_of_lt (Nat.lt_of_lt_of_le A101.lt gh102)
  have gk102 : h0.size ≤ b102 := Nat.le_trans K101.1 gh102
  have K102 := Keep.trans K101 K102q all0
  refine Rch.go st102 ?_
  refine Rch.go (fun zt zk => XS.iconst X102.here hx rfl (hb hby d22_19) zk) ?_
  have f106 := (A101.keep K102q)
  have f107 := (F101_value.keep K102q nin0)
  have f108 := (F101_coder.keep K102q nin0)
  have f109 := (Nat.le_trans f104 K102q.1)
  obtain ⟨_, _, ⟨T105, L105, k105, n105⟩, -, X105, ⟨Lc105, hQ105, l105, y105, z105⟩, st105⟩ := X102.specialBack hx (y := (⟨"java/lang/String", "<init>", "([BB)V"⟩ : MethodName)) rfl hown (mvT hZ (ow118 hw)) (mvT hZ (ow119 hw)) (mvT hZ (ow120 hw)) (by decide) (backOf (W := 1) (rm27 l Z a0 hw [] (b101) (b102) ((0 : Int32)) T102.heap n0 f109 (f106) (f107) (f108) (ge101)) hZ (ow120 hw) (ow11 hw) (by decide) (by decide)) (g := (mkF m 20 #[.val (.ref b0), .val (.int p1), .val (.int p2)] [(.int (0 : Int32)), (.ref b102), (.ref b101), (.ref b101)])) rfl (by rw [hml]; rfl) (Steps.refl _) (a := b101) (argsL := [(.ref b102), (.int (0 : Int32))]) (rest := [(.ref b101)]) (lenOf pd___BB_V rfl) rfl (by show 2 * 0 + _ ≤ _; exact Nat.le_of_eq rfl) (hb hby d22_20) (fun _ _ => ⟨rfl, rfl, (by decide : 2 + 0 ≤ _), (by decide : 12 + 0 ≤ _)⟩)
  dsimp only [Pt.U, Pt.locs, Pt.cells, Pt.slots] at X105 l105 y105 z105 st105 hQ105
  rw [l105, y105, z105] at X105
  obtain ⟨rfl, N105q, K105q, O105_0, O105_1, O105_2⟩ := hQ105
  have N105 := Fr.app N102 N105q
  have K105 := Keep.trans K102 K105q (allS (Or.inr gk101) all0)
  refine Rch.go (fun zt zk => st105.trans zk) ?_
  show Rch _ _ _ _ (T105.setTop (mkF m 23 #[.val (.ref b0), .val (.int p1), .val (.int p2)] [(.ref b101)]))
  obtain ⟨fs, hr, hrun, hended, hW, hsame⟩ := X105.leave (v := some (.ref b101)) (fun h => by rw [Bd.returns] at h; cases h)
  have hend : Steps p.tables e below (T105.setTop (mkF m 23 #[.val (.ref b0), .val (.int p1), .val (.int p2)] [(.ref b101)])) (T105.setFrames fs) := by
    jvm_step X105.here [X105.here.top, hx, (hb hby d22_23), X105.method', Bd.returns, Value.isRef, FieldType.isReference]
    first | (intro acts; rw [hr _ acts rfl rfl rfl]) | rw [hr _ _ rfl rfl rfl]
    exact Steps.refl _
  refine Rch.mk (hend) (hPd _ _ _ _ hrun hended rfl ?_ ⟨⟨_, rfl⟩, hW, hsame.mono (by decide) (by decide)⟩)
  show Q_rmNs Z b0 p1 p2 kb zz vs h0 n0 _ T105.heap _
  have f110 := (V102.keep K105q (ninS (Ne.symm ne_b101_b102) nin0))
  have VZ := f110
  rw [(own_add (vs := vs) hq).2] at VZ
  exact ⟨⟨b101, b102, _, _, rfl, rfl, O105_0, O105_1, O105_2, VZ⟩, N105, K105⟩
theorem own_sb {p1 p2 zz : Int32} (hs : 0 ≤ p1.toInt ∧ p1.toInt ≤ p2.toInt ∧ p2.toInt ≤ zz.toInt ∧ zz.toInt ≤ 8) (hlt : p1.toInt < p2.toInt) : (0 ≤ p1.toInt ∧ 0 < (p2 - p1).toInt ∧ p1.toInt + (p2 - p1).toInt ≤ zz.toInt ∧ zz.toInt ≤ 8) ∧ p2 = p1 + (p2 - p1) := by
  have h := own_sub hs.1 hs.2.1
  have h1 := c_iadd p1 (p2 - p1); have h2 := rng32 p1; have h3 := rng32 p2; have h4 := rng32 (p1 + (p2 - p1))
  exact ⟨⟨hs.1, by omega, by omega, hs.2.2.2⟩, Int32.toInt_inj.mp (by omega)⟩
theorem ef_rmSubT (m : MethodId) (a1 : Addr) (p1 : Int32) (p2 : Int32) : entryFrame m #[(.ref a1), (.int p1), (.int p2)] 5 = mkF m 0 #[.val (.ref a1), .val (.int p1), .val (.int p2), .unset, .unset] [] := by first | (simp [entryFrame, mkF, argsToLocals, Value.category]; done) | rfl
theorem d9_0 : decode jdk_42_method_92_code 0 = .ok (.aload_n 0, 1) := by decide +kernel
theorem d9_1 : decode jdk_42_method_92_code 1 = .ok (.invokevirtual 505, 3) := by decide +kernel
theorem pd___I : parseMethodDescriptor "()I" = some ⟨[], some .int⟩ := by decide +kernel
theorem d9_4 : decode jdk_42_method_92_code 4 = .ok (.istore_n 3, 1) := by decide +kernel
theorem d9_5 : decode jdk_42_method_92_code 5 = .ok (.iload_n 1, 1) := by decide +kernel
theorem d9_6 : decode jdk_42_method_92_code 6 = .ok (.iload_n 2, 1) := by decide +kernel
theorem d9_7 : decode jdk_42_method_92_code 7 = .ok (.iload_n 3, 1) := by decide +kernel
theorem d9_8 : decode jdk_42_method_92_code 8 = .ok (.invokestatic 521, 3) := by decide +kernel
theorem pd__III_V : parseMethodDescriptor "(III)V" = some ⟨[.int, .int, .int], none⟩ := by decide +kernel
theorem d9_11 : decode jdk_42_method_92_code 11 = .ok (.iload_n 1, 1) := by decide +kernel
theorem d9_12 : decode jdk_42_method_92_code 12 = .ok (.ifCond .ne 10, 3) := by decide +kernel
theorem d9_15 : decode jdk_42_method_92_code 15 = .ok (.iload_n 2, 1) := by decide +kernel
theorem d9_16 : decode jdk_42_method_92_code 16 = .ok (.iload_n 3, 1) := by decide +kernel
theorem d9_17 : decode jdk_42_method_92_code 17 = .ok (.if_icmp .ne 5, 3) := by decide +kernel
theorem d9_20 : decode jdk_42_method_92_code 20 = .ok (.aload_n 0, 1) := by decide +kernel
theorem d9_21 : decode jdk_42_method_92_code 21 = .ok (.areturn, 1) := by decide +kernel
def Q_rmSubT (Z : State) (a1 : Addr) (p1 : Int32) (p2 : Int32) (b0 : Addr) (kb : ClassId) (zz : Int32) (vs : List Value) (w2 : Int32) (cz : Int32) (rG : Value) (h0 : Heap) (n0 : Nat) (v : Option Value) (h : Heap) (L : List Loc) : Prop := v = some (.ref a1) ∧ Fr n0 L ∧ h = h0
set_option maxRecDepth 65536 in
set_option maxHeartbeats 40000000 in
theorem rmSubT (l : Launch) (Z : State) (a0 : Array Value) (hw : ∀ d ∈ tables_1, d.before a0 Z = true) (ws : List Jvm.Cond) (a1 : Addr) (p1 : Int32) (p2 : Int32) (b0 : Addr) (kb : ClassId) (zz : Int32) (vs : List Value) (w2 : Int32) (cz : Int32) (rG : Value) (h0 : Heap) (n0 : Nat) (Z0 : n0 ≤ h0.size) (P0 : Old Z n0 h0) (P1 : Sta Z Z.heap "java/lang/String" "COMPACT_STRINGS" "Z" (.int cz)) (P2 : Sta Z Z.heap "jdk/internal/util/Preconditions" "SIOOBE_FORMATTER" "Ljava/util/function/BiFunction;" rG) (P3 : Exa Z h0 a1 "java/lang/String") (P4 : Fld Z h0 a1 "java/lang/String" "coder" "B" (.int w2)) (P5 : Fld Z h0 a1 "java/lang/String" "value" "[B" (.ref b0)) (P6 : Arv Z h0 b0 kb .byte zz vs (.int (0 : Int32))) (hs : 0 ≤ p1.toInt ∧ p1.toInt ≤ p2.toInt ∧ p2.toInt ≤ zz.toInt ∧ zz.toInt ≤ 8) (hrG : rG.isRef = true) (hcz : ¬ (cz = (0 : Int32))) (hw2 : w2 = (0 : Int32)) (hth : p1 = (0 : Int32) ∧ p2 = zz) :
    MetFree l (⟨"java/lang/String", "substring", "(II)Ljava/lang/String;"⟩ : MethodName) (head1 (Jvm.Cond.code (⟨"java/lang/String", "substring", "(II)Ljava/lang/String;"⟩ : MethodName) jdk_42_method_92_code 5 (some (.object "java/lang/String")) :: ws) ({ frames := 2, cells := 0, slots := 0, locals := 29 } : Room)) (fun a U => a = #[(.ref a1), (.int p1), (.int p2)] ∧ Z.Warmed39 U.vm ∧ U.heap = h0) (fun _ _ _ _ _ => True) (fun _ U o U' => ∃ v L, o = .returned v ∧ Q_rmSubT Z a1 p1 p2 b0 kb zz vs w2 cz rG h0 n0 v U'.heap L ∧ FrameEnd U o U' L ({ frames := 2, cells := 0, slots := 0, locals := 29 } : Room).cells ({ frames := 2, cells := 0, slots := 0, locals := 29 } : Room).slots) := by
  refine MetFree.of_bodySF (plainFor_of_name pn_java_lang_String) hisR ?_
  intro p e s m args below meth c s₁ Bd hml0 hP hK
  obtain ⟨rfl, hZ, hh⟩ := hP
  have hx := Bd.exec
  have hby := Bd.bytes
  have hml : c.maxLocals = 5 := hml0
  have hown : s.vm.findClass "java/lang/String" = some m.cls := findClass_of_methodNamed Bd.named
  have hnm := (name_of_methodNamed Bd.named Bd.method).1
  have X0 : Stand p l e ({ frames := 2, cells := 0, slots := 0, locals := 29 } : Room) s m #[(.ref a1), (.int p1), (.int p2)] below meth c s₁ [] 0 0 := Stand.of_body Bd
  have e0 : s₁.heap = h0 := by rw [← hh, Bd.state]; rfl
  have N0 := Fr.nil n0
  suffices hR : ∀ P : State → Prop, (∀ s₂ o v L, s₂.status = .running → Ended s₂ below o → o = .returned v → Q_rmSubT Z a1 p1 p2 b0 kb zz vs w2 cz rG h0 n0 v s₂.heap L → FrameEnd s o s₂ L ({ frames := 2, cells := 0, slots := 0, locals := 29 } : Room).cells ({ frames := 2, cells := 0, slots := 0, locals := 29 } : Room).slots → P s₂) → Rch p.tables e below P (s₁.setTop (mkF m 0 #[.val (.ref a1), .val (.int p1), .val (.int p2), .unset, .unset] [])) by
    obtain ⟨s₂, h1, o, h2⟩ := hR (fun s₂ => ∃ o, s₂.status = .running ∧ Ended s₂ below o ∧ ∃ v L, o = .returned v ∧ Q_rmSubT Z a1 p1 p2 b0 kb zz vs w2 cz rG h0 n0 v s₂.heap L ∧ FrameEnd s o s₂ L ({ frames := 2, cells := 0, slots := 0, locals := 29 } : Room).cells ({ frames := 2, cells := 0, slots := 0, locals := 29 } : Room).slots) (fun s₂ o v L q1 q2 q3 q4 q5 => ⟨o, q1, q2, v, L, q3, q4, q5⟩)
    exact ⟨s₂, o, castTop (ef_rmSubT m a1 p1 p2) h1, h2⟩
  intro P hPd
  refine Rch.go (fun zt zk => XS.aloadN X0.here hx rfl (hb hby d9_0) rfl rfl zk) ?_
  obtain ⟨cq101, kq101, q101a, q101b, q101c⟩ := isOf hZ e0 P3
  obtain ⟨_, _, ⟨T101, L101, k101, n101⟩, -, X101, ⟨Lc101, hQ101, l101, y101, z101⟩, st101⟩ := X0.virtualBack hx (y := (⟨"java/lang/String", "length", "()I"⟩ : MethodName)) (z := (⟨"java/lang/String", "length", "()I"⟩ : MethodName)) hown (mvT hZ (ow50 hw)) (mvT hZ (ow35 hw)) (notFace_of_selects (args := #[]) (mvT hZ (ow37 hw))) (mvT hZ (ow37 hw)) (mvT hZ (ow36 hw)) (by decide) (backOf (W := 0) (rm7 l Z a0 hw [] (a1) (b0) (kb) (zz) (vs) (w2) (cz) h0 n0 Z0 (P0) (P1) (P3) (P4) (P5) (P6) (hcz) (hw2)) hZ (ow38 hw) (ow11 hw) (by decide) (by decide)) q101a q101c (g := (mkF m 1 #[.val (.ref a1), .val (.int p1), .val (.int p2), .unset, .unset] [(.ref a1)])) rfl (by rw [hml]; rfl) (Steps.refl _) (argsL := []) (rest := []) (lenOf pd___I rfl) rfl (by show 2 * 0 + _ ≤ _; exact Nat.le_of_eq rfl) (hb hby d9_1) (fun _ _ => ⟨rfl, e0, (by decide : 0 + 0 ≤ _), (by decide : 0 + 0 ≤ _)⟩)
  dsimp only [Pt.U, Pt.locs, Pt.cells, Pt.slots] at X101 l101 y101 z101 st101 hQ101
  rw [l101, y101, z101] at X101
  obtain ⟨rfl, N101q, eq101⟩ := hQ101
  have N101 := Fr.app N0 N101q
  refine Rch.go (fun zt zk => st101.trans zk) ?_
  refine Rch.go (fun zt zk => XS.istoreN X101.here hx rfl (hb hby d9_4) rfl (l' := #[.val (.ref a1), .val (.int p1), .val (.int p2), .val (.int zz), .unset]) rfl zk) ?_
  refine Rch.go (fun zt zk => XS.iloadN X101.here hx rfl (hb hby d9_5) rfl zk) ?_
  show Rch _ _ _ _ (T101.setTop (mkF m 6 #[.val (.ref a1), .val (.int p1), .val (.int p2), .val (.int zz), .unset] [(.int p1)]))
  refine Rch.go (fun zt zk => XS.iloadN X101.here hx rfl (hb hby d9_6) rfl zk) ?_
  refine Rch.go (fun zt zk => XS.iloadN X101.here hx rfl (hb hby d9_7) rfl zk) ?_
  obtain ⟨_, _, ⟨T102, L102, k102, n102⟩, -, X102, ⟨Lc102, hQ102, l102, y102, z102⟩, st102⟩ := Jvm.LawKit.callS X101 hx (y := (⟨"java/lang/String", "checkBoundsBeginEnd", "(III)V"⟩ : MethodName)) hown (mvT hZ (ow51 hw)) (mvT hZ (ow52 hw)) (mvT hZ (ow11 hw)) (mvT hZ (ow53 hw)) (by decide) (backOf (W := 0) (rm10 l Z a0 hw [] (p1) (p2) (zz) (rG) h0 n0 Z0 (P0) (P2) (⟨hs.1, hs.2.1, hs.2.2.1⟩) (hrG)) hZ (ow53 hw) (ow11 hw) (by decide) (by decide)) (g := (mkF m 8 #[.val (.ref a1), .val (.int p1), .val (.int p2), .val (.int zz), .unset] [(.int zz), (.int p2), (.int p1)])) rfl (by rw [hml]; rfl) (argsL := [(.int p1), (.int p2), (.int zz)]) (rest := []) (lenOf pd__III_V rfl) rfl (by show 2 * 0 + _ ≤ _; exact Nat.le_of_eq rfl) (hb hby d9_8) (fun _ _ => ⟨rfl, eq101, (by decide : 0 + 0 ≤ _), (by decide : 0 + 0 ≤ _)⟩)
  dsimp only [Pt.U, Pt.locs, Pt.cells, Pt.slots] at X102 l102 y102 z102 st102 hQ102
  rw [l102, y102, z102] at X102
  obtain ⟨rfl, N102q, eq102⟩ := hQ102
  have N102 := Fr.app N101 N102q
  refine Rch.go st102 ?_
  refine Rch.go (fun zt zk => XS.iloadN X102.here hx rfl (hb hby d9_11) rfl zk) ?_
  show Rch _ _ _ _ (T102.setTop (mkF m 12 #[.val (.ref a1), .val (.int p1), .val (.int p2), .val (.int zz), .unset] [(.int p1)]))
  refine Rch.go (fun zt zk => XS.ifNo X102.here hx rfl (hb hby d9_12) rfl ((if0 _ _).trans (teq (hth.1 : p1 = (0 : Int32))).2) zk) ?_
  refine Rch.go (fun zt zk => XS.iloadN X102.here hx rfl (hb hby d9_15) rfl zk) ?_
  refine Rch.go (fun zt zk => XS.iloadN X102.here hx rfl (hb hby d9_16) rfl zk) ?_
  refine Rch.go (fun zt zk => XS.icmpNo X102.here hx rfl (hb hby d9_17) rfl (teq (hth.2 : p2 = zz)).2 zk) ?_
  show Rch _ _ _ _ (T102.setTop (mkF m 20 #[.val (.ref a1), .val (.int p1), .val (.int p2), .val (.int zz), .unset] []))
  refine Rch.go (fun zt zk => XS.aloadN X102.here hx rfl (hb hby d9_20) rfl rfl zk) ?_
  obtain ⟨fs, hr, hrun, hended, hW, hsame⟩ := X102.leave (v := some (.ref a1)) (fun h => by rw [Bd.returns] at h; cases h)
  have hend : Steps p.tables e below (T102.setTop (mkF m 21 #[.val (.ref a1), .val (.int p1), .val (.int p2), .val (.int zz), .unset] [(.ref a1)])) (T102.setFrames fs) := by
    jvm_step X102.here [X102.here.top, hx, (hb hby d9_21), X102.method', Bd.returns, Value.isRef, FieldType.isReference]
    first | (intro acts; rw [hr _ acts rfl rfl rfl]) | rw [hr _ _ rfl rfl rfl]
    exact Steps.refl _
  refine Rch.mk (hend) (hPd _ _ _ _ hrun hended rfl ?_ ⟨⟨_, rfl⟩, hW, hsame.mono (by decide) (by decide)⟩)
  show Q_rmSubT Z a1 p1 p2 b0 kb zz vs w2 cz rG h0 n0 _ T102.heap _
  rw [eq102]
  exact ⟨rfl, N102, rfl⟩
theorem ef_rmSubN (m : MethodId) (a1 : Addr) (p1 : Int32) (p2 : Int32) : entryFrame m #[(.ref a1), (.int p1), (.int p2)] 5 = mkF m 0 #[.val (.ref a1), .val (.int p1), .val (.int p2), .unset, .unset] [] := by first | (simp [entryFrame, mkF, argsToLocals, Value.category]; done) | rfl
theorem d9_22 : decode jdk_42_method_92_code 22 = .ok (.iload_n 2, 1) := by decide +kernel
theorem d9_23 : decode jdk_42_method_92_code 23 = .ok (.iload_n 1, 1) := by decide +kernel
theorem d9_24 : decode jdk_42_method_92_code 24 = .ok (.isub, 1) := by decide +kernel
theorem d9_25 : decode jdk_42_method_92_code 25 = .ok (.istore 4, 2) := by decide +kernel
theorem d9_27 : decode jdk_42_method_92_code 27 = .ok (.aload_n 0, 1) := by decide +kernel
theorem d9_28 : decode jdk_42_method_92_code 28 = .ok (.invokevirtual 492, 3) := by decide +kernel
theorem d9_31 : decode jdk_42_method_92_code 31 = .ok (.ifCond .eq 16, 3) := by decide +kernel
theorem d9_34 : decode jdk_42_method_92_code 34 = .ok (.aload_n 0, 1) := by decide +kernel
theorem d9_35 : decode jdk_42_method_92_code 35 = .ok (.getfield 9, 3) := by decide +kernel
theorem d9_38 : decode jdk_42_method_92_code 38 = .ok (.iload_n 1, 1) := by decide +kernel
theorem d9_39 : decode jdk_42_method_92_code 39 = .ok (.iload 4, 2) := by decide +kernel
theorem d9_41 : decode jdk_42_method_92_code 41 = .ok (.invokestatic 685, 3) := by decide +kernel
theorem pd___BII_Ljava_lang_String_ : parseMethodDescriptor "([BII)Ljava/lang/String;" = some ⟨[(.array .byte), .int, .int], some (.object "java/lang/String")⟩ := by decide +kernel
theorem d9_44 : decode jdk_42_method_92_code 44 = .ok (.goto 13, 3) := by decide +kernel
theorem d9_57 : decode jdk_42_method_92_code 57 = .ok (.areturn, 1) := by decide +kernel
def Q_rmSubN (Z : State) (a1 : Addr) (p1 : Int32) (p2 : Int32) (b0 : Addr) (kb : ClassId) (zz : Int32) (vs : List Value) (w2 : Int32) (cz : Int32) (rG : Value) (h0 : Heap) (n0 : Nat) (v : Option Value) (h : Heap) (L : List Loc) : Prop := (∃ (r b : Addr) (kb : ClassId) (w2 : Int32), v = some (.ref r) ∧ w2 = (0 : Int32) ∧ Exa Z h r "java/lang/String" ∧ Fld Z h r "java/lang/String" "coder" "B" (.int w2) ∧ Fld Z h r "java/lang/String" "value" "[B" (.ref b) ∧ Arv Z h b kb .byte (p2 - p1) (SLc vs p1 (p2 - p1)) (.int (0 : Int32))) ∧ Fr n0 L ∧ Keep h0 h []
set_option maxRecDepth 65536 in
set_option maxHeartbeats 40000000 in
theorem rmSubN (l : Launch) (Z : State) (a0 : Array Value) (hw : ∀ d ∈ tables_1, d.before a0 Z = true) (ws : List Jvm.Cond) (a1 : Addr) (p1 : Int32) (p2 : Int32) (b0 : Addr) (kb : ClassId) (zz : Int32) (vs : List Value) (w2 : Int32) (cz : Int32) (rG : Value) (h0 : Heap) (n0 : Nat) (Z0 : n0 ≤ h0.size) (P0 : Old Z n0 h0) (P1 : Sta Z Z.heap "java/lang/String" "COMPACT_STRINGS" "Z" (.int cz)) (P2 : Sta Z Z.heap "jdk/internal/util/Preconditions" "SIOOBE_FORMATTER" "Ljava/util/function/BiFunction;" rG) (P3 : Exa Z h0 a1 "java/lang/String") (P4 : Fld Z h0 a1 "java/lang/String" "coder" "B" (.int w2)) (P5 : Fld Z h0 a1 "java/lang/String" "value" "[B" (.ref b0)) (P6 : Arv Z h0 b0 kb .byte zz vs (.int (0 : Int32))) (hs : 0 ≤ p1.toInt ∧ p1.toInt ≤ p2.toInt ∧ p2.toInt ≤ zz.toInt ∧ zz.toInt ≤ 8) (hrG : rG.isRef = true) (hcz : ¬ (cz = (0 : Int32))) (hw2 : w2 = (0 : Int32)) (hlt : p1.toInt < p2.toInt) (hnf : ¬ (p1 = (0 : Int32) ∧ p2 = zz)) :
    MetFree l (⟨"java/lang/String", "substring", "(II)Ljava/lang/String;"⟩ : MethodName) (head1 (Jvm.Cond.code (⟨"java/lang/String", "substring", "(II)Ljava/lang/String;"⟩ : MethodName) jdk_42_method_92_code 5 (some (.object "java/lang/String")) :: ws) ({ frames := 4, cells := 2, slots := 12, locals := 86 } : Room)) (fun a U => a = #[(.ref a1), (.int p1), (.int p2)] ∧ Z.Warmed39 U.vm ∧ U.heap = h0) (fun _ _ _ _ _ => True) (fun _ U o U' => ∃ v L, o = .returned v ∧ Q_rmSubN Z a1 p1 p2 b0 kb zz vs w2 cz rG h0 n0 v U'.heap L ∧ FrameEnd U o U' L ({ frames := 4, cells := 2, slots := 12, locals := 86 } : Room).cells ({ frames := 4, cells := 2, slots := 12, locals := 86 } : Room).slots) := by
  refine MetFree.of_bodySF (plainFor_of_name pn_java_lang_String) hisR ?_
  intro p e s m args below meth c s₁ Bd hml0 hP hK
  obtain ⟨rfl, hZ, hh⟩ := hP
  have hx := Bd.exec
  have hby := Bd.bytes
  have hml : c.maxLocals = 5 := hml0
  have hown : s.vm.findClass "java/lang/String" = some m.cls := findClass_of_methodNamed Bd.named
  have hnm := (name_of_methodNamed Bd.named Bd.method).1
  have X0 : Stand p l e ({ frames := 4, cells := 2, slots := 12, locals := 86 } : Room) s m #[(.ref a1), (.int p1), (.int p2)] below meth c s₁ [] 0 0 := Stand.of_body Bd
  have e0 : s₁.heap = h0 := by rw [← hh, Bd.state]; rfl
  have N0 := Fr.nil n0
  suffices hR : ∀ P : State → Prop, (∀ s₂ o v L, s₂.status = .running → Ended s₂ below o → o = .returned v → Q_rmSubN Z a1 p1 p2 b0 kb zz vs w2 cz rG h0 n0 v s₂.heap L → FrameEnd s o s₂ L ({ frames := 4, cells := 2, slots := 12, locals := 86 } : Room).cells ({ frames := 4, cells := 2, slots := 12, locals := 86 } : Room).slots → P s₂) → Rch p.tables e below P (s₁.setTop (mkF m 0 #[.val (.ref a1), .val (.int p1), .val (.int p2), .unset, .unset] [])) by
    obtain ⟨s₂, h1, o, h2⟩ := hR (fun s₂ => ∃ o, s₂.status = .running ∧ Ended s₂ below o ∧ ∃ v L, o = .returned v ∧ Q_rmSubN Z a1 p1 p2 b0 kb zz vs w2 cz rG h0 n0 v s₂.heap L ∧ FrameEnd s o s₂ L ({ frames := 4, cells := 2, slots := 12, locals := 86 } : Room).cells ({ frames := 4, cells := 2, slots := 12, locals := 86 } : Room).slots) (fun s₂ o v L q1 q2 q3 q4 q5 => ⟨o, q1, q2, v, L, q3, q4, q5⟩)
    exact ⟨s₂, o, castTop (ef_rmSubN m a1 p1 p2) h1, h2⟩
  intro P hPd
  refine Rch.go (fun zt zk => XS.aloadN X0.here hx rfl (hb hby d9_0) rfl rfl zk) ?_
  obtain ⟨cq101, kq101, q101a, q101b, q101c⟩ := isOf hZ e0 P3
  obtain ⟨_, _, ⟨T101, L101, k101, n101⟩, -, X101, ⟨Lc101, hQ101, l101, y101, z101⟩, st101⟩ := X0.virtualBack hx (y := (⟨"java/lang/String", "length", "()I"⟩ : MethodName)) (z := (⟨"java/lang/String", "length", "()I"⟩ : MethodName)) hown (mvT hZ (ow50 hw)) (mvT hZ (ow35 hw)) (notFace_of_selects (args := #[]) (mvT hZ (ow37 hw))) (mvT hZ (ow37 hw)) (mvT hZ (ow36 hw)) (by decide) (backOf (W := 0) (rm7 l Z a0 hw [] (a1) (b0) (kb) (zz) (vs) (w2) (cz) h0 n0 Z0 (P0) (P1) (P3) (P4) (P5) (P6) (hcz) (hw2)) hZ (ow38 hw) (ow11 hw) (by decide) (by decide)) q101a q101c (g := (mkF m 1 #[.val (.ref a1), .val (.int p1), .val (.int p2), .unset, .unset] [(.ref a1)])) rfl (by rw [hml]; rfl) (Steps.refl _) (argsL := []) (rest := []) (lenOf pd___I rfl) rfl (by show 2 * 0 + _ ≤ _; exact Nat.le_of_eq rfl) (hb hby d9_1) (fun _ _ => ⟨rfl, e0, (by decide : 0 + 0 ≤ _), (by decide : 0 + 0 ≤ _)⟩)
  dsimp only [Pt.U, Pt.locs, Pt.cells, Pt.slots] at X101 l101 y101 z101 st101 hQ101
  rw [l101, y101, z101] at X101
  obtain ⟨rfl, N101q, eq101⟩ := hQ101
  have N101 := Fr.app N0 N101q
  refine Rch.go (fun zt zk => st101.trans zk) ?_
  refine Rch.go (fun zt zk => XS.istoreN X101.here hx rfl (hb hby d9_4) rfl (l' := #[.val (.ref a1), .val (.int p1), .val (.int p2), .val (.int zz), .unset]) rfl zk) ?_
  refine Rch.go (fun zt zk => XS.iloadN X101.here hx rfl (hb hby d9_5) rfl zk) ?_
  show Rch _ _ _ _ (T101.setTop (mkF m 6 #[.val (.ref a1), .val (.int p1), .val (.int p2), .val (.int zz), .unset] [(.int p1)]))
  refine Rch.go (fun zt zk => XS.iloadN X101.here hx rfl (hb hby d9_6) rfl zk) ?_
  refine Rch.go (fun zt zk => XS.iloadN X101.here hx rfl (hb hby d9_7) rfl zk) ?_
  obtain ⟨_, _, ⟨T102, L102, k102, n102⟩, -, X102, ⟨Lc102, hQ102, l102, y102, z102⟩, st102⟩ := Jvm.LawKit.callS X101 hx (y := (⟨"java/lang/String", "checkBoundsBeginEnd", "(III)V"⟩ : MethodName)) hown (mvT hZ (ow51 hw)) (mvT hZ (ow52 hw)) (mvT hZ (ow11 hw)) (mvT hZ (ow53 hw)) (by decide) (backOf (W := 0) (rm10 l Z a0 hw [] (p1) (p2) (zz) (rG) h0 n0 Z0 (P0) (P2) (⟨hs.1, hs.2.1, hs.2.2.1⟩) (hrG)) hZ (ow53 hw) (ow11 hw) (by decide) (by decide)) (g := (mkF m 8 #[.val (.ref a1), .val (.int p1), .val (.int p2), .val (.int zz), .unset] [(.int zz), (.int p2), (.int p1)])) rfl (by rw [hml]; rfl) (argsL := [(.int p1), (.int p2), (.int zz)]) (rest := []) (lenOf pd__III_V rfl) rfl (by show 2 * 0 + _ ≤ _; exact Nat.le_of_eq rfl) (hb hby d9_8) (fun _ _ => ⟨rfl, eq101, (by decide : 0 + 0 ≤ _), (by decide : 0 + 0 ≤ _)⟩)
  dsimp only [Pt.U, Pt.locs, Pt.cells, Pt.slots] at X102 l102 y102 z102 st102 hQ102
  rw [l102, y102, z102] at X102
  obtain ⟨rfl, N102q, eq102⟩ := hQ102
  have N102 := Fr.app N101 N102q
  refine Rch.go st102 ?_
  refine Rch.go (fun zt zk => XS.iloadN X102.here hx rfl (hb hby d9_11) rfl zk) ?_
  show Rch _ _ _ _ (T102.setTop (mkF m 12 #[.val (.ref a1), .val (.int p1), .val (.int p2), .val (.int zz), .unset] [(.int p1)]))
  by_cases hc12_103 : p1 = (0 : Int32)
  · skip
    refine Rch.go (fun zt zk => XS.ifNo X102.here hx rfl (hb hby d9_12) rfl ((if0 _ _).trans (teq hc12_103).2) zk) ?_
    refine Rch.go (fun zt zk => XS.iloadN X102.here hx rfl (hb hby d9_15) rfl zk) ?_
    refine Rch.go (fun zt zk => XS.iloadN X102.here hx rfl (hb hby d9_16) rfl zk) ?_
    refine Rch.go (fun zt zk => XS.icmpYes X102.here hx rfl (pc0 := 17) (pc' := 22) rfl (hb hby d9_17) rfl (feq (fun q => hnf ⟨hc12_103, q⟩ : ¬ (p2 = zz))).2 (by decide) (by decide) zk) ?_
    show Rch _ _ _ _ (T102.setTop (mkF m 22 #[.val (.ref a1), .val (.int p1), .val (.int p2), .val (.int zz), .unset] []))
    refine Rch.go (fun zt zk => XS.iloadN X102.here hx rfl (hb hby d9_22) rfl zk) ?_
    refine Rch.go (fun zt zk => XS.iloadN X102.here hx rfl (hb hby d9_23) rfl zk) ?_
    refine Rch.go (fun zt zk => XS.isub X102.here hx rfl (hb hby d9_24) rfl zk) ?_
    refine Rch.go (fun zt zk => XS.istore X102.here hx rfl (hb hby d9_25) rfl (l' := #[.val (.ref a1), .val (.int p1), .val (.int p2), .val (.int zz), .val (.int (p2 - p1))]) rfl zk) ?_
    show Rch _ _ _ _ (T102.setTop (mkF m 27 #[.val (.ref a1), .val (.int p1), .val (.int p2), .val (.int zz), .val (.int (p2 - p1))] []))
    refine Rch.go (fun zt zk => XS.aloadN X102.here hx rfl (hb hby d9_27) rfl rfl zk) ?_
    obtain ⟨cq104, kq104, q104a, q104b, q104c⟩ := isOf hZ eq102 P3
    obtain ⟨_, _, ⟨T104, L104, k104, n104⟩, -, X104, ⟨Lc104, hQ104, l104, y104, z104⟩, st104⟩ := X102.virtualBack hx (y := (⟨"java/lang/String", "isLatin1", "()Z"⟩ : MethodName)) (z := (⟨"java/lang/String", "isLatin1", "()Z"⟩ : MethodName)) hown (mvT hZ (ow78 hw)) (mvT hZ (ow79 hw)) (notFace_of_selects (args := #[]) (mvT hZ (ow81 hw))) (mvT hZ (ow81 hw)) (mvT hZ (ow80 hw)) (by decide) (backOf (W := 0) (rm17 l Z a0 hw [] (a1) (w2) (cz) h0 n0 Z0 (P0) (P1) (P4) (hcz) (hw2)) hZ (ow82 hw) (ow11 hw) (by decide) (by decide)) q104a q104c (g := (mkF m 28 #[.val (.ref a1), .val (.int p1), .val (.int p2), .val (.int zz), .val (.int (p2 - p1))] [(.ref a1)])) rfl (by rw [hml]; rfl) (Steps.refl _) (argsL := []) (rest := []) (lenOf pd___Z rfl) rfl (by show 2 * 0 + _ ≤ _; exact Nat.le_of_eq rfl) (hb hby d9_28) (fun _ _ => ⟨rfl, eq102, (by decide : 0 + 0 ≤ _), (by decide : 0 + 0 ≤ _)⟩)
    dsimp only [Pt.U, Pt.locs, Pt.cells, Pt.slots] at X104 l104 y104 z104 st104 hQ104
    rw [l104, y104, z104] at X104
    obtain ⟨rfl, N104q, eq104⟩ := hQ104
    have N104 := Fr.app N102 N104q
    refine Rch.go (fun zt zk => st104.trans zk) ?_
    refine Rch.go (fun zt zk => XS.ifNo X104.here hx rfl (hb hby d9_31) rfl ((if0 _ _).trans (feq (by decide : ¬ ((1 : Int32) = (0 : Int32)))).1) zk) ?_
    refine Rch.go (fun zt zk => XS.aloadN X104.here hx rfl (hb hby d9_34) rfl rfl zk) ?_
    show Rch _ _ _ _ (T104.setTop (mkF m 35 #[.val (.ref a1), .val (.int p1), .val (.int p2), .val (.int zz), .val (.int (p2 - p1))] [(.ref a1)]))
    obtain ⟨T105, X105, e105, st105⟩ := getF X104 hx hZ hown (host := "") (Or.inl (ow28 hw)) Via.refl eq104 P5 (g := (mkF m 35 #[.val (.ref a1), .val (.int p1), .val (.int p2), .val (.int zz), .val (.int (p2 - p1))] [(.ref a1)])) rfl rfl (hb hby d9_35)
    refine Rch.go st105 ?_
    refine Rch.go (fun zt zk => XS.iloadN X105.here hx rfl (hb hby d9_38) rfl zk) ?_
    refine Rch.go (fun zt zk => XS.iload X105.here hx rfl (hb hby d9_39) rfl zk) ?_
    obtain ⟨_, _, ⟨T106, L106, k106, n106⟩, -, X106, ⟨Lc106, hQ106, l106, y106, z106⟩, st106⟩ := Jvm.LawKit.callS X105 hx (y := (⟨"java/lang/StringLatin1", "newString", "([BII)Ljava/lang/String;"⟩ : MethodName)) hown (mvT hZ (ow96 hw)) (mvT hZ (ow97 hw)) (mvT hZ (ow85 hw)) (mvT hZ (ow98 hw)) (by decide) (backOf (W := 0) (rmNs l Z a0 hw [] (b0) (p1) ((p2 - p1)) (kb) (zz) (vs) h0 n0 Z0 (P6) ((own_sb hs hlt).1) (by rw [← (own_sb hs hlt).2]; exact hnf)) hZ (ow98 hw) (ow85 hw) (by decide) (by decide)) (g := (mkF m 41 #[.val (.ref a1), .val (.int p1), .val (.int p2), .val (.int zz), .val (.int (p2 - p1))] [(.int (p2 - p1)), (.int p1), (.ref b0)])) rfl (by rw [hml]; rfl) (argsL := [(.ref b0), (.int p1), (.int (p2 - p1))]) (rest := []) (lenOf pd___BII_Ljava_lang_String_ rfl) rfl (by show 2 * 0 + _ ≤ _; exact Nat.le_of_eq rfl) (hb hby d9_41) (fun _ _ => ⟨rfl, e105, (by decide : 0 + 2 ≤ _), (by decide : 0 + 12 ≤ _)⟩)
    dsimp only [Pt.U, Pt.locs, Pt.cells, Pt.slots] at X106 l106 y106 z106 st106 hQ106
    rw [l106, y106, z106] at X106
    obtain ⟨⟨r106, b106, kb106, w106, rfl, hw106, E106, C106, U106, V106⟩, N106q, K106q⟩ := hQ106
    have N106 := Fr.app N104 N106q
    have K106 := Keep.trans (Keep.refl h0 []) K106q all0
    refine Rch.go st106 ?_
    show Rch _ _ _ _ (T106.setTop (mkF m 44 #[.val (.ref a1), .val (.int p1), .val (.int p2), .val (.int zz), .val (.int (p2 - p1))] [(.ref r106)]))
    refine Rch.go (fun zt zk => XS.goto X106.here hx rfl (pc0 := 44) (pc' := 57) rfl (hb hby d9_44) (by decide) (by decide) zk) ?_
    obtain ⟨fs, hr, hrun, hended, hW, hsame⟩ := X106.leave (v := some (.ref r106)) (fun h => by rw [Bd.returns] at h; cases h)
    have hend : Steps p.tables e below (T106.setTop (mkF m 57 #[.val (.ref a1), .val (.int p1), .val (.int p2), .val (.int zz), .val (.int (p2 - p1))] [(.ref r106)])) (T106.setFrames fs) := by
      jvm_step X106.here [X106.here.top, hx, (hb hby d9_57), X106.method', Bd.returns, Value.isRef, FieldType.isReference]
      first | (intro acts; rw [hr _ acts rfl rfl rfl]) | rw [hr _ _ rfl rfl rfl]
      exact Steps.refl _
    refine Rch.mk (hend) (hPd _ _ _ _ hrun hended rfl ?_ ⟨⟨_, rfl⟩, hW, hsame.mono (by decide) (by decide)⟩)
    show Q_rmSubN Z a1 p1 p2 b0 kb zz vs w2 cz rG h0 n0 _ T106.heap _
    exact ⟨⟨r106, b106, _, _, rfl, hw106, E106, C106, U106, V106⟩, N106, K106⟩
  · skip
    refine Rch.go (fun zt zk => XS.ifYes X102.here hx rfl (pc0 := 12) (pc' := 22) rfl (hb hby d9_12) rfl ((if0 _ _).trans (feq hc12_103).2) (by decide) (by decide) zk) ?_
    refine Rch.go (fun zt zk => XS.iloadN X102.here hx rfl (hb hby d9_22) rfl zk) ?_
    refine Rch.go (fun zt zk => XS.iloadN X102.here hx rfl (hb hby d9_23) rfl zk) ?_
    show Rch _ _ _ _ (T102.setTop (mkF m 24 #[.val (.ref a1), .val (.int p1), .val (.int p2), .val (.int zz), .unset] [(.int p1), (.int p2)]))
    refine Rch.go (fun zt zk => XS.isub X102.here hx rfl (hb hby d9_24) rfl zk) ?_
    refine Rch.go (fun zt zk => XS.istore X102.here hx rfl (hb hby d9_25) rfl (l' := #[.val (.ref a1), .val (.int p1), .val (.int p2), .val (.int zz), .val (.int (p2 - p1))]) rfl zk) ?_
    refine Rch.go (fun zt zk => XS.aloadN X102.here hx rfl (hb hby d9_27) rfl rfl zk) ?_
    obtain ⟨cq107, kq107, q107a, q107b, q107c⟩ := isOf hZ eq102 P3
    obtain ⟨_, _, ⟨T107, L107, k107, n107⟩, -, X107, ⟨Lc107, hQ107, l107, y107, z107⟩, st107⟩ := X102.virtualBack hx (y := (⟨"java/lang/String", "isLatin1", "()Z"⟩ : MethodName)) (z := (⟨"java/lang/String", "isLatin1", "()Z"⟩ : MethodName)) hown (mvT hZ (ow78 hw)) (mvT hZ (ow79 hw)) (notFace_of_selects (args := #[]) (mvT hZ (ow81 hw))) (mvT hZ (ow81 hw)) (mvT hZ (ow80 hw)) (by decide) (backOf (W := 0) (rm17 l Z a0 hw [] (a1) (w2) (cz) h0 n0 Z0 (P0) (P1) (P4) (hcz) (hw2)) hZ (ow82 hw) (ow11 hw) (by decide) (by decide)) q107a q107c (g := (mkF m 28 #[.val (.ref a1), .val (.int p1), .val (.int p2), .val (.int zz), .val (.int (p2 - p1))] [(.ref a1)])) rfl (by rw [hml]; rfl) (Steps.refl _) (argsL := []) (rest := []) (lenOf pd___Z rfl) rfl (by show 2 * 0 + _ ≤ _; exact Nat.le_of_eq rfl) (hb hby d9_28) (fun _ _ => ⟨rfl, eq102, (by decide : 0 + 0 ≤ _), (by decide : 0 + 0 ≤ _)⟩)
    dsimp only [Pt.U, Pt.locs, Pt.cells, Pt.slots] at X107 l107 y107 z107 st107 hQ107
    rw [l107, y107, z107] at X107
    obtain ⟨rfl, N107q, eq107⟩ := hQ107
    have N107 := Fr.app N102 N107q
    refine Rch.go (fun zt zk => st107.trans zk) ?_
    show Rch _ _ _ _ (T107.setTop (mkF m 31 #[.val (.ref a1), .val (.int p1), .val (.int p2), .val (.int zz), .val (.int (p2 - p1))] [(.int (1 : Int32))]))
    refine Rch.go (fun zt zk => XS.ifNo X107.here hx rfl (hb hby d9_31) rfl ((if0 _ _).trans (feq (by decide : ¬ ((1 : Int32) = (0 : Int32)))).1) zk) ?_
    refine Rch.go (fun zt zk => XS.aloadN X107.here hx rfl (hb hby d9_34) rfl rfl zk) ?_
    obtain ⟨T108, X108, e108, st108⟩ := getF X107 hx hZ hown (host := "") (Or.inl (ow28 hw)) Via.refl eq107 P5 (g := (mkF m 35 #[.val (.ref a1), .val (.int p1), .val (.int p2), .val (.int zz), .val (.int (p2 - p1))] [(.ref a1)])) rfl rfl (hb hby d9_35)
    refine Rch.go st108 ?_
    refine Rch.go (fun zt zk => XS.iloadN X108.here hx rfl (hb hby d9_38) rfl zk) ?_
    show Rch _ _ _ _ (T108.setTop (mkF m 39 #[.val (.ref a1), .val (.int p1), .val (.int p2), .val (.int zz), .val (.int (p2 - p1))] [(.int p1), (.ref b0)]))
    refine Rch.go (fun zt zk => XS.iload X108.here hx rfl (hb hby d9_39) rfl zk) ?_
    obtain ⟨_, _, ⟨T109, L109, k109, n109⟩, -, X109, ⟨Lc109, hQ109, l109, y109, z109⟩, st109⟩ := Jvm.LawKit.callS X108 hx (y := (⟨"java/lang/StringLatin1", "newString", "([BII)Ljava/lang/String;"⟩ : MethodName)) hown (mvT hZ (ow96 hw)) (mvT hZ (ow97 hw)) (mvT hZ (ow85 hw)) (mvT hZ (ow98 hw)) (by decide) (backOf (W := 0) (rmNs l Z a0 hw [] (b0) (p1) ((p2 - p1)) (kb) (zz) (vs) h0 n0 Z0 (P6) ((own_sb hs hlt).1) (by rw [← (own_sb hs hlt).2]; exact hnf)) hZ (ow98 hw) (ow85 hw) (by decide) (by decide)) (g := (mkF m 41 #[.val (.ref a1), .val (.int p1), .val (.int p2), .val (.int zz), .val (.int (p2 - p1))] [(.int (p2 - p1)), (.int p1), (.ref b0)])) rfl (by rw [hml]; rfl) (argsL := [(.ref b0), (.int p1), (.int (p2 - p1))]) (rest := []) (lenOf pd___BII_Ljava_lang_String_ rfl) rfl (by show 2 * 0 + _ ≤ _; exact Nat.le_of_eq rfl) (hb hby d9_41) (fun _ _ => ⟨rfl, e108, (by decide : 0 + 2 ≤ _), (by decide : 0 + 12 ≤ _)⟩)
    dsimp only [Pt.U, Pt.locs, Pt.cells, Pt.slots] at X109 l109 y109 z109 st109 hQ109
    rw [l109, y109, z109] at X109
    obtain ⟨⟨r109, b109, kb109, w109, rfl, hw109, E109, C109, U109, V109⟩, N109q, K109q⟩ := hQ109
    have N109 := Fr.app N107 N109q
    have K109 := Keep.trans (Keep.refl h0 []) K109q all0
    refine Rch.go st109 ?_
    refine Rch.go (fun zt zk => XS.goto X109.here hx rfl (pc0 := 44) (pc' := 57) rfl (hb hby d9_44) (by decide) (by decide) zk) ?_
    obtain ⟨fs, hr, hrun, hended, hW, hsame⟩ := X109.leave (v := some (.ref r109)) (fun h => by rw [Bd.returns] at h; cases h)
    have hend : Steps p.tables e below (T109.setTop (mkF m 57 #[.val (.ref a1), .val (.int p1), .val (.int p2), .val (.int zz), .val (.int (p2 - p1))] [(.ref r109)])) (T109.setFrames fs) := by
      jvm_step X109.here [X109.here.top, hx, (hb hby d9_57), X109.method', Bd.returns, Value.isRef, FieldType.isReference]
      first | (intro acts; rw [hr _ acts rfl rfl rfl]) | rw [hr _ _ rfl rfl rfl]
      exact Steps.refl _
    refine Rch.mk (hend) (hPd _ _ _ _ hrun hended rfl ?_ ⟨⟨_, rfl⟩, hW, hsame.mono (by decide) (by decide)⟩)
    show Q_rmSubN Z a1 p1 p2 b0 kb zz vs w2 cz rG h0 n0 _ T109.heap _
    exact ⟨⟨r109, b109, _, _, rfl, hw109, E109, C109, U109, V109⟩, N109, K109⟩
def fPick (p1 : Int32) : Int32 := (if (p1 &&& (3 : Int32)) = (0 : Int32) then (32 : Int32) else (if (p1 &&& (3 : Int32)) = (1 : Int32) then (9 : Int32) else (nar .char ((((p1.toUInt32 >>> ((2 : Int32) &&& 31).toUInt32).toInt32) &&& (255 : Int32)).toUInt32.toUInt16.toUInt32.toInt32))))
theorem ef_rm1 (m : MethodId) (p1 : Int32) : entryFrame m #[(.int p1)] 2 = mkF m 0 #[.val (.int p1), .unset] [] := by first | (simp [entryFrame, mkF, argsToLocals, Value.category]; done) | rfl
theorem pn_com_example_keepwire_keepwire_ResponseHeadTrimSpacesPinLaw : plainName "com/example/keepwire/keepwire/ResponseHeadTrimSpacesPinLaw" = true := by first | (simp [plainName, overriddenIn]; done) | decide +kernel
theorem d1_0 : decode method_5_code 0 = .ok (.iload_n 0, 1) := by decide +kernel
theorem d1_1 : decode method_5_code 1 = .ok (.iconst 3, 1) := by decide +kernel
theorem d1_2 : decode method_5_code 2 = .ok (.iand, 1) := by decide +kernel
theorem d1_3 : decode method_5_code 3 = .ok (.istore_n 1, 1) := by decide +kernel
theorem d1_4 : decode method_5_code 4 = .ok (.iload_n 1, 1) := by decide +kernel
theorem d1_5 : decode method_5_code 5 = .ok (.ifCond .ne 6, 3) := by decide +kernel
theorem d1_8 : decode method_5_code 8 = .ok (.bipush 32, 2) := by decide +kernel
theorem d1_10 : decode method_5_code 10 = .ok (.ireturn, 1) := by decide +kernel
theorem d1_11 : decode method_5_code 11 = .ok (.iload_n 1, 1) := by decide +kernel
theorem d1_12 : decode method_5_code 12 = .ok (.iconst 1, 1) := by decide +kernel
theorem d1_13 : decode method_5_code 13 = .ok (.if_icmp .ne 6, 3) := by decide +kernel
theorem d1_16 : decode method_5_code 16 = .ok (.bipush 9, 2) := by decide +kernel
theorem d1_18 : decode method_5_code 18 = .ok (.ireturn, 1) := by decide +kernel
theorem d1_19 : decode method_5_code 19 = .ok (.iload_n 0, 1) := by decide +kernel
theorem d1_20 : decode method_5_code 20 = .ok (.iconst 2, 1) := by decide +kernel
theorem d1_21 : decode method_5_code 21 = .ok (.iushr, 1) := by decide +kernel
theorem d1_22 : decode method_5_code 22 = .ok (.sipush 255, 3) := by decide +kernel
theorem d1_25 : decode method_5_code 25 = .ok (.iand, 1) := by decide +kernel
theorem d1_26 : decode method_5_code 26 = .ok (.i2c, 1) := by decide +kernel
theorem d1_27 : decode method_5_code 27 = .ok (.ireturn, 1) := by decide +kernel
def Q_rm1 (Z : State) (p1 : Int32) (h0 : Heap) (n0 : Nat) (v : Option Value) (h : Heap) (L : List Loc) : Prop := v = some (.int (fPick p1)) ∧ Fr n0 L ∧ h = h0
set_option maxRecDepth 65536 in
set_option maxHeartbeats 40000000 in
theorem rm1 (l : Launch) (Z : State) (a0 : Array Value) (hw : ∀ d ∈ tables_1, d.before a0 Z = true) (ws : List Jvm.Cond) (p1 : Int32) (h0 : Heap) (n0 : Nat) (Z0 : n0 ≤ h0.size) :
    MetFree l (⟨"com/example/keepwire/keepwire/ResponseHeadTrimSpacesPinLaw", "pick", "(I)C"⟩ : MethodName) (head1 (Jvm.Cond.code (⟨"com/example/keepwire/keepwire/ResponseHeadTrimSpacesPinLaw", "pick", "(I)C"⟩ : MethodName) method_5_code 2 (some .char) :: ws) ({ frames := 0, cells := 0, slots := 0, locals := 0 } : Room)) (fun a U => a = #[(.int p1)] ∧ Z.Warmed39 U.vm ∧ U.heap = h0) (fun _ _ _ _ _ => True) (fun _ U o U' => ∃ v L, o = .returned v ∧ Q_rm1 Z p1 h0 n0 v U'.heap L ∧ FrameEnd U o U' L ({ frames := 0, cells := 0, slots := 0, locals := 0 } : Room).cells ({ frames := 0, cells := 0, slots := 0, locals := 0 } : Room).slots) := by
  refine MetFree.of_bodySF (plainFor_of_name pn_com_example_keepwire_keepwire_ResponseHeadTrimSpacesPinLaw) hisR ?_
  intro p e s m args below meth c s₁ Bd hml0 hP hK
  obtain ⟨rfl, hZ, hh⟩ := hP
  have hx := Bd.exec
  have hby := Bd.bytes
  have hml : c.maxLocals = 2 := hml0
  have hown : s.vm.findClass "com/example/keepwire/keepwire/ResponseHeadTrimSpacesPinLaw" = some m.cls := findClass_of_methodNamed Bd.named
  have hnm := (name_of_methodNamed Bd.named Bd.method).1
  have X0 : Stand p l e ({ frames := 0, cells := 0, slots := 0, locals := 0 } : Room) s m #[(.int p1)] below meth c s₁ [] 0 0 := Stand.of_body Bd
  have e0 : s₁.heap = h0 := by rw [← hh, Bd.state]; rfl
  have N0 := Fr.nil n0
  suffices hR : ∀ P : State → Prop, (∀ s₂ o v L, s₂.status = .running → Ended s₂ below o → o = .returned v → Q_rm1 Z p1 h0 n0 v s₂.heap L → FrameEnd s o s₂ L ({ frames := 0, cells := 0, slots := 0, locals := 0 } : Room).cells ({ frames := 0, cells := 0, slots := 0, locals := 0 } : Room).slots → P s₂) → Rch p.tables e below P (s₁.setTop (mkF m 0 #[.val (.int p1), .unset] [])) by
    obtain ⟨s₂, h1, o, h2⟩ := hR (fun s₂ => ∃ o, s₂.status = .running ∧ Ended s₂ below o ∧ ∃ v L, o = .returned v ∧ Q_rm1 Z p1 h0 n0 v s₂.heap L ∧ FrameEnd s o s₂ L ({ frames := 0, cells := 0, slots := 0, locals := 0 } : Room).cells ({ frames := 0, cells := 0, slots := 0, locals := 0 } : Room).slots) (fun s₂ o v L q1 q2 q3 q4 q5 => ⟨o, q1, q2, v, L, q3, q4, q5⟩)
    exact ⟨s₂, o, castTop (ef_rm1 m p1) h1, h2⟩
  intro P hPd
  refine Rch.go (fun zt zk => XS.iloadN X0.here hx rfl (hb hby d1_0) rfl zk) ?_
  refine Rch.go (fun zt zk => XS.iconst X0.here hx rfl (hb hby d1_1) zk) ?_
  refine Rch.go (fun zt zk => XS.iand X0.here hx rfl (hb hby d1_2) rfl zk) ?_
  refine Rch.go (fun zt zk => XS.istoreN X0.here hx rfl (hb hby d1_3) rfl (l' := #[.val (.int p1), .val (.int (p1 &&& (3 : Int32)))]) rfl zk) ?_
  show Rch _ _ _ _ (s₁.setTop (mkF m 4 #[.val (.int p1), .val (.int (p1 &&& (3 : Int32)))] []))
  refine Rch.go (fun zt zk => XS.iloadN X0.here hx rfl (hb hby d1_4) rfl zk) ?_
  by_cases hc5_101 : (p1 &&& (3 : Int32)) = (0 : Int32)
  · skip
    refine Rch.go (fun zt zk => XS.ifNo X0.here hx rfl (hb hby d1_5) rfl ((if0 _ _).trans (teq hc5_101).2) zk) ?_
    refine Rch.go (fun zt zk => XS.bipush X0.here hx rfl (hb hby d1_8) zk) ?_
    obtain ⟨fs, hr, hrun, hended, hW, hsame⟩ := X0.leave (v := some (.int (32 : Int32))) (fun h => by rw [Bd.returns] at h; cases h)
    refine Rch.mk (retN X0 hx (t := .char) Bd.returns (by simp) (hb hby d1_10) hr) (hPd _ _ _ _ hrun hended rfl ?_ ⟨⟨_, rfl⟩, hW, hsame.mono (by decide) (by decide)⟩)
    show Q_rm1 Z p1 h0 n0 _ s₁.heap _
    have hF : fPick p1 = (32 : Int32) := ((if_pos hc5_101).trans rfl)
    rw [e0]
    exact ⟨by rw [hF], N0, rfl⟩
  · skip
    refine Rch.go (fun zt zk => XS.ifYes X0.here hx rfl (pc0 := 5) (pc' := 11) rfl (hb hby d1_5) rfl ((if0 _ _).trans (feq hc5_101).2) (by decide) (by decide) zk) ?_
    show Rch _ _ _ _ (s₁.setTop (mkF m 11 #[.val (.int p1), .val (.int (p1 &&& (3 : Int32)))] []))
    refine Rch.go (fun zt zk => XS.iloadN X0.here hx rfl (hb hby d1_11) rfl zk) ?_
    refine Rch.go (fun zt zk => XS.iconst X0.here hx rfl (hb hby d1_12) zk) ?_
    by_cases hc13_102 : (p1 &&& (3 : Int32)) = (1 : Int32)
    · skip
      refine Rch.go (fun zt zk => XS.icmpNo X0.here hx rfl (hb hby d1_13) rfl (teq hc13_102).2 zk) ?_
      refine Rch.go (fun zt zk => XS.bipush X0.here hx rfl (hb hby d1_16) zk) ?_
      show Rch _ _ _ _ (s₁.setTop (mkF m 18 #[.val (.int p1), .val (.int (p1 &&& (3 : Int32)))] [(.int (9 : Int32))]))
      obtain ⟨fs, hr, hrun, hended, hW, hsame⟩ := X0.leave (v := some (.int (9 : Int32))) (fun h => by rw [Bd.returns] at h; cases h)
      refine Rch.mk (retN X0 hx (t := .char) Bd.returns (by simp) (hb hby d1_18) hr) (hPd _ _ _ _ hrun hended rfl ?_ ⟨⟨_, rfl⟩, hW, hsame.mono (by decide) (by decide)⟩)
      show Q_rm1 Z p1 h0 n0 _ s₁.heap _
      have hF : fPick p1 = (9 : Int32) := ((if_neg hc5_101).trans ((if_pos hc13_102).trans rfl))
      rw [e0]
      exact ⟨by rw [hF], N0, rfl⟩
    · skip
      refine Rch.go (fun zt zk => XS.icmpYes X0.here hx rfl (pc0 := 13) (pc' := 19) rfl (hb hby d1_13) rfl (feq hc13_102).2 (by decide) (by decide) zk) ?_
      refine Rch.go (fun zt zk => XS.iloadN X0.here hx rfl (hb hby d1_19) rfl zk) ?_
      refine Rch.go (fun zt zk => XS.iconst X0.here hx rfl (hb hby d1_20) zk) ?_
      refine Rch.go (fun zt zk => XS.iushr X0.here hx rfl (hb hby d1_21) rfl zk) ?_
      show Rch _ _ _ _ (s₁.setTop (mkF m 22 #[.val (.int p1), .val (.int (p1 &&& (3 : Int32)))] [(.int ((p1.toUInt32 >>> ((2 : Int32) &&& 31).toUInt32).toInt32))]))
      refine Rch.go (fun zt zk => XS.sipush X0.here hx rfl (hb hby d1_22) zk) ?_
      refine Rch.go (fun zt zk => XS.iand X0.here hx rfl (hb hby d1_25) rfl zk) ?_
      refine Rch.go (fun zt zk => XS.i2c X0.here hx rfl (hb hby d1_26) rfl zk) ?_
      obtain ⟨fs, hr, hrun, hended, hW, hsame⟩ := X0.leave (v := some (.int (nar .char ((((p1.toUInt32 >>> ((2 : Int32) &&& 31).toUInt32).toInt32) &&& (255 : Int32)).toUInt32.toUInt16.toUInt32.toInt32)))) (fun h => by rw [Bd.returns] at h; cases h)
      refine Rch.mk (retN X0 hx (t := .char) Bd.returns (by simp) (hb hby d1_27) hr) (hPd _ _ _ _ hrun hended rfl ?_ ⟨⟨_, rfl⟩, hW, hsame.mono (by decide) (by decide)⟩)
      show Q_rm1 Z p1 h0 n0 _ s₁.heap _
      have hF : fPick p1 = (nar .char ((((p1.toUInt32 >>> ((2 : Int32) &&& 31).toUInt32).toInt32) &&& (255 : Int32)).toUInt32.toUInt16.toUInt32.toInt32)) := ((if_neg hc5_101).trans ((if_neg hc13_102).trans rfl))
      rw [e0]
      exact ⟨by rw [hF], N0, rfl⟩
def fSp (p1 : Int32) : Int32 := (if p1 = (32 : Int32) then (1 : Int32) else (if p1 = (9 : Int32) then (1 : Int32) else (0 : Int32)))
theorem ef_rm28 (m : MethodId) (p1 : Int32) : entryFrame m #[(.int p1)] 1 = mkF m 0 #[.val (.int p1)] [] := by first | (simp [entryFrame, mkF, argsToLocals, Value.category]; done) | rfl
theorem d28_0 : decode method_4_code 0 = .ok (.iload_n 0, 1) := by decide +kernel
theorem d28_1 : decode method_4_code 1 = .ok (.bipush 32, 2) := by decide +kernel
theorem d28_3 : decode method_4_code 3 = .ok (.if_icmp .eq 9, 3) := by decide +kernel
theorem d28_12 : decode method_4_code 12 = .ok (.iconst 1, 1) := by decide +kernel
theorem d28_13 : decode method_4_code 13 = .ok (.goto 4, 3) := by decide +kernel
theorem d28_17 : decode method_4_code 17 = .ok (.ireturn, 1) := by decide +kernel
theorem d28_6 : decode method_4_code 6 = .ok (.iload_n 0, 1) := by decide +kernel
theorem d28_7 : decode method_4_code 7 = .ok (.bipush 9, 2) := by decide +kernel
theorem d28_9 : decode method_4_code 9 = .ok (.if_icmp .ne 7, 3) := by decide +kernel
theorem d28_16 : decode method_4_code 16 = .ok (.iconst 0, 1) := by decide +kernel
def Q_rm28 (Z : State) (p1 : Int32) (h0 : Heap) (n0 : Nat) (v : Option Value) (h : Heap) (L : List Loc) : Prop := v = some (.int (fSp p1)) ∧ Fr n0 L ∧ h = h0
set_option maxRecDepth 65536 in
set_option maxHeartbeats 40000000 in
theorem rm28 (l : Launch) (Z : State) (a0 : Array Value) (hw : ∀ d ∈ tables_1, d.before a0 Z = true) (ws : List Jvm.Cond) (p1 : Int32) (h0 : Heap) (n0 : Nat) (Z0 : n0 ≤ h0.size) :
    MetFree l (⟨"com/example/keepwire/keepwire/ResponseHeadTrimSpacesPinLaw", "sp", "(C)Z"⟩ : MethodName) (head1 (Jvm.Cond.code (⟨"com/example/keepwire/keepwire/ResponseHeadTrimSpacesPinLaw", "sp", "(C)Z"⟩ : MethodName) method_4_code 1 (some .boolean) :: ws) ({ frames := 0, cells := 0, slots := 0, locals := 0 } : Room)) (fun a U => a = #[(.int p1)] ∧ Z.Warmed39 U.vm ∧ U.heap = h0) (fun _ _ _ _ _ => True) (fun _ U o U' => ∃ v L, o = .returned v ∧ Q_rm28 Z p1 h0 n0 v U'.heap L ∧ FrameEnd U o U' L ({ frames := 0, cells := 0, slots := 0, locals := 0 } : Room).cells ({ frames := 0, cells := 0, slots := 0, locals := 0 } : Room).slots) := by
  refine MetFree.of_bodySF (plainFor_of_name pn_com_example_keepwire_keepwire_ResponseHeadTrimSpacesPinLaw) hisR ?_
  intro p e s m args below meth c s₁ Bd hml0 hP hK
  obtain ⟨rfl, hZ, hh⟩ := hP
  have hx := Bd.exec
  have hby := Bd.bytes
  have hml : c.maxLocals = 1 := hml0
  have hown : s.vm.findClass "com/example/keepwire/keepwire/ResponseHeadTrimSpacesPinLaw" = some m.cls := findClass_of_methodNamed Bd.named
  have hnm := (name_of_methodNamed Bd.named Bd.method).1
  have X0 : Stand p l e ({ frames := 0, cells := 0, slots := 0, locals := 0 } : Room) s m #[(.int p1)] below meth c s₁ [] 0 0 := Stand.of_body Bd
  have e0 : s₁.heap = h0 := by rw [← hh, Bd.state]; rfl
  have N0 := Fr.nil n0
  suffices hR : ∀ P : State → Prop, (∀ s₂ o v L, s₂.status = .running → Ended s₂ below o → o = .returned v → Q_rm28 Z p1 h0 n0 v s₂.heap L → FrameEnd s o s₂ L ({ frames := 0, cells := 0, slots := 0, locals := 0 } : Room).cells ({ frames := 0, cells := 0, slots := 0, locals := 0 } : Room).slots → P s₂) → Rch p.tables e below P (s₁.setTop (mkF m 0 #[.val (.int p1)] [])) by
    obtain ⟨s₂, h1, o, h2⟩ := hR (fun s₂ => ∃ o, s₂.status = .running ∧ Ended s₂ below o ∧ ∃ v L, o = .returned v ∧ Q_rm28 Z p1 h0 n0 v s₂.heap L ∧ FrameEnd s o s₂ L ({ frames := 0, cells := 0, slots := 0, locals := 0 } : Room).cells ({ frames := 0, cells := 0, slots := 0, locals := 0 } : Room).slots) (fun s₂ o v L q1 q2 q3 q4 q5 => ⟨o, q1, q2, v, L, q3, q4, q5⟩)
    exact ⟨s₂, o, castTop (ef_rm28 m p1) h1, h2⟩
  intro P hPd
  refine Rch.go (fun zt zk => XS.iloadN X0.here hx rfl (hb hby d28_0) rfl zk) ?_
  refine Rch.go (fun zt zk => XS.bipush X0.here hx rfl (hb hby d28_1) zk) ?_
  by_cases hc3_101 : p1 = (32 : Int32)
  · skip
    refine Rch.go (fun zt zk => XS.icmpYes X0.here hx rfl (pc0 := 3) (pc' := 12) rfl (hb hby d28_3) rfl (teq hc3_101).1 (by decide) (by decide) zk) ?_
    refine Rch.go (fun zt zk => XS.iconst X0.here hx rfl (hb hby d28_12) zk) ?_
    show Rch _ _ _ _ (s₁.setTop (mkF m 13 #[.val (.int p1)] [(.int (1 : Int32))]))
    refine Rch.go (fun zt zk => XS.goto X0.here hx rfl (pc0 := 13) (pc' := 17) rfl (hb hby d28_13) (by decide) (by decide) zk) ?_
    obtain ⟨fs, hr, hrun, hended, hW, hsame⟩ := X0.leave (v := some (.int (1 : Int32))) (fun h => by rw [Bd.returns] at h; cases h)
    refine Rch.mk (retN X0 hx (t := .boolean) Bd.returns (by simp) (hb hby d28_17) hr) (hPd _ _ _ _ hrun hended rfl ?_ ⟨⟨_, rfl⟩, hW, hsame.mono (by decide) (by decide)⟩)
    show Q_rm28 Z p1 h0 n0 _ s₁.heap _
    have hF : fSp p1 = (1 : Int32) := ((if_pos hc3_101).trans rfl)
    rw [e0]
    exact ⟨by rw [hF], N0, rfl⟩
  · skip
    refine Rch.go (fun zt zk => XS.icmpNo X0.here hx rfl (hb hby d28_3) rfl (feq hc3_101).1 zk) ?_
    refine Rch.go (fun zt zk => XS.iloadN X0.here hx rfl (hb hby d28_6) rfl zk) ?_
    refine Rch.go (fun zt zk => XS.bipush X0.here hx rfl (hb hby d28_7) zk) ?_
    show Rch _ _ _ _ (s₁.setTop (mkF m 9 #[.val (.int p1)] [(.int (9 : Int32)), (.int p1)]))
    by_cases hc9_102 : p1 = (9 : Int32)
    · skip
      refine Rch.go (fun zt zk => XS.icmpNo X0.here hx rfl (hb hby d28_9) rfl (teq hc9_102).2 zk) ?_
      refine Rch.go (fun zt zk => XS.iconst X0.here hx rfl (hb hby d28_12) zk) ?_
      refine Rch.go (fun zt zk => XS.goto X0.here hx rfl (pc0 := 13) (pc' := 17) rfl (hb hby d28_13) (by decide) (by decide) zk) ?_
      obtain ⟨fs, hr, hrun, hended, hW, hsame⟩ := X0.leave (v := some (.int (1 : Int32))) (fun h => by rw [Bd.returns] at h; cases h)
      refine Rch.mk (retN X0 hx (t := .boolean) Bd.returns (by simp) (hb hby d28_17) hr) (hPd _ _ _ _ hrun hended rfl ?_ ⟨⟨_, rfl⟩, hW, hsame.mono (by decide) (by decide)⟩)
      show Q_rm28 Z p1 h0 n0 _ s₁.heap _
      have hF : fSp p1 = (1 : Int32) := ((if_neg hc3_101).trans ((if_pos hc9_102).trans rfl))
      rw [e0]
      exact ⟨by rw [hF], N0, rfl⟩
    · skip
      refine Rch.go (fun zt zk => XS.icmpYes X0.here hx rfl (pc0 := 9) (pc' := 16) rfl (hb hby d28_9) rfl (feq hc9_102).2 (by decide) (by decide) zk) ?_
      show Rch _ _ _ _ (s₁.setTop (mkF m 16 #[.val (.int p1)] []))
      refine Rch.go (fun zt zk => XS.iconst X0.here hx rfl (hb hby d28_16) zk) ?_
      obtain ⟨fs, hr, hrun, hended, hW, hsame⟩ := X0.leave (v := some (.int (0 : Int32))) (fun h => by rw [Bd.returns] at h; cases h)
      refine Rch.mk (retN X0 hx (t := .boolean) Bd.returns (by simp) (hb hby d28_17) hr) (hPd _ _ _ _ hrun hended rfl ?_ ⟨⟨_, rfl⟩, hW, hsame.mono (by decide) (by decide)⟩)
      show Q_rm28 Z p1 h0 n0 _ s₁.heap _
      have hF : fSp p1 = (0 : Int32) := ((if_neg hc3_101).trans ((if_neg hc9_102).trans rfl))
      rw [e0]
      exact ⟨by rw [hF], N0, rfl⟩
def fIsp (p1 : Int32) : Int32 := (if p1 = (32 : Int32) then (1 : Int32) else (if p1 = (9 : Int32) then (1 : Int32) else (0 : Int32)))
theorem ef_rm21 (m : MethodId) (p1 : Int32) : entryFrame m #[(.int p1)] 1 = mkF m 0 #[.val (.int p1)] [] := by first | (simp [entryFrame, mkF, argsToLocals, Value.category]; done) | rfl
theorem pn_com_example_keepwire_keepwire_ResponseHead : plainName "com/example/keepwire/keepwire/ResponseHead" = true := by first | (simp [plainName, overriddenIn]; done) | decide +kernel
theorem d21_0 : decode prog_30_method_19_code 0 = .ok (.iload_n 0, 1) := by decide +kernel
theorem d21_1 : decode prog_30_method_19_code 1 = .ok (.bipush 32, 2) := by decide +kernel
theorem d21_3 : decode prog_30_method_19_code 3 = .ok (.if_icmp .eq 9, 3) := by decide +kernel
theorem d21_12 : decode prog_30_method_19_code 12 = .ok (.iconst 1, 1) := by decide +kernel
theorem d21_13 : decode prog_30_method_19_code 13 = .ok (.goto 4, 3) := by decide +kernel
theorem d21_17 : decode prog_30_method_19_code 17 = .ok (.ireturn, 1) := by decide +kernel
theorem d21_6 : decode prog_30_method_19_code 6 = .ok (.iload_n 0, 1) := by decide +kernel
theorem d21_7 : decode prog_30_method_19_code 7 = .ok (.bipush 9, 2) := by decide +kernel
theorem d21_9 : decode prog_30_method_19_code 9 = .ok (.if_icmp .ne 7, 3) := by decide +kernel
theorem d21_16 : decode prog_30_method_19_code 16 = .ok (.iconst 0, 1) := by decide +kernel
def Q_rm21 (Z : State) (p1 : Int32) (h0 : Heap) (n0 : Nat) (v : Option Value) (h : Heap) (L : List Loc) : Prop := v = some (.int (fIsp p1)) ∧ Fr n0 L ∧ h = h0
set_option maxRecDepth 65536 in
set_option maxHeartbeats 40000000 in
theorem rm21 (l : Launch) (Z : State) (a0 : Array Value) (hw : ∀ d ∈ tables_1, d.before a0 Z = true) (ws : List Jvm.Cond) (p1 : Int32) (h0 : Heap) (n0 : Nat) (Z0 : n0 ≤ h0.size) :
    MetFree l (⟨"com/example/keepwire/keepwire/ResponseHead", "isSpace", "(C)Z"⟩ : MethodName) (head1 (Jvm.Cond.code (⟨"com/example/keepwire/keepwire/ResponseHead", "isSpace", "(C)Z"⟩ : MethodName) prog_30_method_19_code 1 (some .boolean) :: ws) ({ frames := 0, cells := 0, slots := 0, locals := 0 } : Room)) (fun a U => a = #[(.int p1)] ∧ Z.Warmed39 U.vm ∧ U.heap = h0) (fun _ _ _ _ _ => True) (fun _ U o U' => ∃ v L, o = .returned v ∧ Q_rm21 Z p1 h0 n0 v U'.heap L ∧ FrameEnd U o U' L ({ frames := 0, cells := 0, slots := 0, locals := 0 } : Room).cells ({ frames := 0, cells := 0, slots := 0, locals := 0 } : Room).slots) := by
  refine MetFree.of_bodySF (plainFor_of_name pn_com_example_keepwire_keepwire_ResponseHead) hisR ?_
  intro p e s m args below meth c s₁ Bd hml0 hP hK
  obtain ⟨rfl, hZ, hh⟩ := hP
  have hx := Bd.exec
  have hby := Bd.bytes
  have hml : c.maxLocals = 1 := hml0
  have hown : s.vm.findClass "com/example/keepwire/keepwire/ResponseHead" = some m.cls := findClass_of_methodNamed Bd.named
  have hnm := (name_of_methodNamed Bd.named Bd.method).1
  have X0 : Stand p l e ({ frames := 0, cells := 0, slots := 0, locals := 0 } : Room) s m #[(.int p1)] below meth c s₁ [] 0 0 := Stand.of_body Bd
  have e0 : s₁.heap = h0 := by rw [← hh, Bd.state]; rfl
  have N0 := Fr.nil n0
  suffices hR : ∀ P : State → Prop, (∀ s₂ o v L, s₂.status = .running → Ended s₂ below o → o = .returned v → Q_rm21 Z p1 h0 n0 v s₂.heap L → FrameEnd s o s₂ L ({ frames := 0, cells := 0, slots := 0, locals := 0 } : Room).cells ({ frames := 0, cells := 0, slots := 0, locals := 0 } : Room).slots → P s₂) → Rch p.tables e below P (s₁.setTop (mkF m 0 #[.val (.int p1)] [])) by
    obtain ⟨s₂, h1, o, h2⟩ := hR (fun s₂ => ∃ o, s₂.status = .running ∧ Ended s₂ below o ∧ ∃ v L, o = .returned v ∧ Q_rm21 Z p1 h0 n0 v s₂.heap L ∧ FrameEnd s o s₂ L ({ frames := 0, cells := 0, slots := 0, locals := 0 } : Room).cells ({ frames := 0, cells := 0, slots := 0, locals := 0 } : Room).slots) (fun s₂ o v L q1 q2 q3 q4 q5 => ⟨o, q1, q2, v, L, q3, q4, q5⟩)
    exact ⟨s₂, o, castTop (ef_rm21 m p1) h1, h2⟩
  intro P hPd
  refine Rch.go (fun zt zk => XS.iloadN X0.here hx rfl (hb hby d21_0) rfl zk) ?_
  refine Rch.go (fun zt zk => XS.bipush X0.here hx rfl (hb hby d21_1) zk) ?_
  by_cases hc3_101 : p1 = (32 : Int32)
  · skip
    refine Rch.go (fun zt zk => XS.icmpYes X0.here hx rfl (pc0 := 3) (pc' := 12) rfl (hb hby d21_3) rfl (teq hc3_101).1 (by decide) (by decide) zk) ?_
    refine Rch.go (fun zt zk => XS.iconst X0.here hx rfl (hb hby d21_12) zk) ?_
    show Rch _ _ _ _ (s₁.setTop (mkF m 13 #[.val (.int p1)] [(.int (1 : Int32))]))
    refine Rch.go (fun zt zk => XS.goto X0.here hx rfl (pc0 := 13) (pc' := 17) rfl (hb hby d21_13) (by decide) (by decide) zk) ?_
    obtain ⟨fs, hr, hrun, hended, hW, hsame⟩ := X0.leave (v := some (.int (1 : Int32))) (fun h => by rw [Bd.returns] at h; cases h)
    refine Rch.mk (retN X0 hx (t := .boolean) Bd.returns (by simp) (hb hby d21_17) hr) (hPd _ _ _ _ hrun hended rfl ?_ ⟨⟨_, rfl⟩, hW, hsame.mono (by decide) (by decide)⟩)
    show Q_rm21 Z p1 h0 n0 _ s₁.heap _
    have hF : fIsp p1 = (1 : Int32) := ((if_pos hc3_101).trans rfl)
    rw [e0]
    exact ⟨by rw [hF], N0, rfl⟩
  · skip
    refine Rch.go (fun zt zk => XS.icmpNo X0.here hx rfl (hb hby d21_3) rfl (feq hc3_101).1 zk) ?_
    refine Rch.go (fun zt zk => XS.iloadN X0.here hx rfl (hb hby d21_6) rfl zk) ?_
    refine Rch.go (fun zt zk => XS.bipush X0.here hx rfl (hb hby d21_7) zk) ?_
    show Rch _ _ _ _ (s₁.setTop (mkF m 9 #[.val (.int p1)] [(.int (9 : Int32)), (.int p1)]))
    by_cases hc9_102 : p1 = (9 : Int32)
    · skip
      refine Rch.go (fun zt zk => XS.icmpNo X0.here hx rfl (hb hby d21_9) rfl (teq hc9_102).2 zk) ?_
      refine Rch.go (fun zt zk => XS.iconst X0.here hx rfl (hb hby d21_12) zk) ?_
      refine Rch.go (fun zt zk => XS.goto X0.here hx rfl (pc0 := 13) (pc' := 17) rfl (hb hby d21_13) (by decide) (by decide) zk) ?_
      obtain ⟨fs, hr, hrun, hended, hW, hsame⟩ := X0.leave (v := some (.int (1 : Int32))) (fun h => by rw [Bd.returns] at h; cases h)
      refine Rch.mk (retN X0 hx (t := .boolean) Bd.returns (by simp) (hb hby d21_17) hr) (hPd _ _ _ _ hrun hended rfl ?_ ⟨⟨_, rfl⟩, hW, hsame.mono (by decide) (by decide)⟩)
      show Q_rm21 Z p1 h0 n0 _ s₁.heap _
      have hF : fIsp p1 = (1 : Int32) := ((if_neg hc3_101).trans ((if_pos hc9_102).trans rfl))
      rw [e0]
      exact ⟨by rw [hF], N0, rfl⟩
    · skip
      refine Rch.go (fun zt zk => XS.icmpYes X0.here hx rfl (pc0 := 9) (pc' := 16) rfl (hb hby d21_9) rfl (feq hc9_102).2 (by decide) (by decide) zk) ?_
      show Rch _ _ _ _ (s₁.setTop (mkF m 16 #[.val (.int p1)] []))
      refine Rch.go (fun zt zk => XS.iconst X0.here hx rfl (hb hby d21_16) zk) ?_
      obtain ⟨fs, hr, hrun, hended, hW, hsame⟩ := X0.leave (v := some (.int (0 : Int32))) (fun h => by rw [Bd.returns] at h; cases h)
      refine Rch.mk (retN X0 hx (t := .boolean) Bd.returns (by simp) (hb hby d21_17) hr) (hPd _ _ _ _ hrun hended rfl ?_ ⟨⟨_, rfl⟩, hW, hsame.mono (by decide) (by decide)⟩)
      show Q_rm21 Z p1 h0 n0 _ s₁.heap _
      have hF : fIsp p1 = (0 : Int32) := ((if_neg hc3_101).trans ((if_neg hc9_102).trans rfl))
      rw [e0]
      exact ⟨by rw [hF], N0, rfl⟩
theorem own_spi (c : Int32) : fIsp c = fSp c := rfl
theorem own_m255 (x : Int32) : R8 (nar .char (nar .char ((x &&& (255 : Int32)).toUInt32.toUInt16.toUInt32.toInt32))) := by
  have h := c_mask x (255 : Int32) 8 (by decide) (by decide)
  have hr : R8 (x &&& (255 : Int32)) := ⟨by omega, by omega⟩
  obtain ⟨n, e⟩ := own_fin _ hr
  rw [e]
  have key : ∀ n : Fin 256, 0 ≤ (nar .char (nar .char ((Int32.ofNat n.val).toUInt32.toUInt16.toUInt32.toInt32))).toInt ∧ (nar .char (nar .char ((Int32.ofNat n.val).toUInt32.toUInt16.toUInt32.toInt32))).toInt ≤ 255 := by decide +kernel
  exact key n
theorem own_pick (x : Int32) : R8 (nar .char (fPick x)) := by
  unfold fPick
  split
  · exact ⟨by decide, by decide⟩
  · split
    · exact ⟨by decide, by decide⟩
    · exact own_m255 _
theorem ef_rm15 (m : MethodId) (b0 : Addr) (p1 : Int32) : entryFrame m #[(.ref b0), (.int p1)] 2 = mkF m 0 #[.val (.ref b0), .val (.int p1)] [] := by first | (simp [entryFrame, mkF, argsToLocals, Value.category]; done) | rfl
theorem pn_java_lang_StringUTF16 : plainName "java/lang/StringUTF16" = true := by first | (simp [plainName, overriddenIn]; done) | decide +kernel
theorem d15_0 : decode jdk_52_method_15_code 0 = .ok (.iload_n 1, 1) := by decide +kernel
theorem d15_1 : decode jdk_52_method_15_code 1 = .ok (.aload_n 0, 1) := by decide +kernel
theorem d15_2 : decode jdk_52_method_15_code 2 = .ok (.arraylength, 1) := by decide +kernel
theorem d15_3 : decode jdk_52_method_15_code 3 = .ok (.isub, 1) := by decide +kernel
theorem d15_4 : decode jdk_52_method_15_code 4 = .ok (.bipush 31, 2) := by decide +kernel
theorem d15_6 : decode jdk_52_method_15_code 6 = .ok (.iushr, 1) := by decide +kernel
theorem d15_7 : decode jdk_52_method_15_code 7 = .ok (.i2b, 1) := by decide +kernel
theorem d15_8 : decode jdk_52_method_15_code 8 = .ok (.ireturn, 1) := by decide +kernel
def Q_rm15 (Z : State) (b0 : Addr) (p1 : Int32) (kb : ClassId) (zz : Int32) (vs : List Value) (h0 : Heap) (n0 : Nat) (v : Option Value) (h : Heap) (L : List Loc) : Prop := v = some (.int (nar .byte ((((p1 - zz).toUInt32 >>> ((31 : Int32) &&& 31).toUInt32).toInt32).toInt8.toInt32))) ∧ Fr n0 L ∧ h = h0
set_option maxRecDepth 65536 in
set_option maxHeartbeats 40000000 in
theorem rm15 (l : Launch) (Z : State) (a0 : Array Value) (hw : ∀ d ∈ tables_1, d.before a0 Z = true) (ws : List Jvm.Cond) (b0 : Addr) (p1 : Int32) (kb : ClassId) (zz : Int32) (vs : List Value) (h0 : Heap) (n0 : Nat) (Z0 : n0 ≤ h0.size) (P0 : Arv Z h0 b0 kb .byte zz vs (.int (0 : Int32))) :
    MetFree l (⟨"java/lang/StringUTF16", "coderFromArrayLen", "([BI)B"⟩ : MethodName) (head1 (Jvm.Cond.code (⟨"java/lang/StringUTF16", "coderFromArrayLen", "([BI)B"⟩ : MethodName) jdk_52_method_15_code 2 (some .byte) :: ws) ({ frames := 0, cells := 0, slots := 0, locals := 0 } : Room)) (fun a U => a = #[(.ref b0), (.int p1)] ∧ Z.Warmed39 U.vm ∧ U.heap = h0) (fun _ _ _ _ _ => True) (fun _ U o U' => ∃ v L, o = .returned v ∧ Q_rm15 Z b0 p1 kb zz vs h0 n0 v U'.heap L ∧ FrameEnd U o U' L ({ frames := 0, cells := 0, slots := 0, locals := 0 } : Room).cells ({ frames := 0, cells := 0, slots := 0, locals := 0 } : Room).slots) := by
  refine MetFree.of_bodySF (plainFor_of_name pn_java_lang_StringUTF16) hisR ?_
  intro p e s m args below meth c s₁ Bd hml0 hP hK
  obtain ⟨rfl, hZ, hh⟩ := hP
  have hx := Bd.exec
  have hby := Bd.bytes
  have hml : c.maxLocals = 2 := hml0
  have hown : s.vm.findClass "java/lang/StringUTF16" = some m.cls := findClass_of_methodNamed Bd.named
  have hnm := (name_of_methodNamed Bd.named Bd.method).1
  have X0 : Stand p l e ({ frames := 0, cells := 0, slots := 0, locals := 0 } : Room) s m #[(.ref b0), (.int p1)] below meth c s₁ [] 0 0 := Stand.of_body Bd
  have e0 : s₁.heap = h0 := by rw [← hh, Bd.state]; rfl
  have N0 := Fr.nil n0
  suffices hR : ∀ P : State → Prop, (∀ s₂ o v L, s₂.status = .running → Ended s₂ below o → o = .returned v → Q_rm15 Z b0 p1 kb zz vs h0 n0 v s₂.heap L → FrameEnd s o s₂ L ({ frames := 0, cells := 0, slots := 0, locals := 0 } : Room).cells ({ frames := 0, cells := 0, slots := 0, locals := 0 } : Room).slots → P s₂) → Rch p.tables e below P (s₁.setTop (mkF m 0 #[.val (.ref b0), .val (.int p1)] [])) by
    obtain ⟨s₂, h1, o, h2⟩ := hR (fun s₂ => ∃ o, s₂.status = .running ∧ Ended s₂ below o ∧ ∃ v L, o = .returned v ∧ Q_rm15 Z b0 p1 kb zz vs h0 n0 v s₂.heap L ∧ FrameEnd s o s₂ L ({ frames := 0, cells := 0, slots := 0, locals := 0 } : Room).cells ({ frames := 0, cells := 0, slots := 0, locals := 0 } : Room).slots) (fun s₂ o v L q1 q2 q3 q4 q5 => ⟨o, q1, q2, v, L, q3, q4, q5⟩)
    exact ⟨s₂, o, castTop (ef_rm15 m b0 p1) h1, h2⟩
  intro P hPd
  refine Rch.go (fun zt zk => XS.iloadN X0.here hx rfl (hb hby d15_0) rfl zk) ?_
  refine Rch.go (fun zt zk => XS.aloadN X0.here hx rfl (hb hby d15_1) rfl rfl zk) ?_
  obtain ⟨cl101, Ar101, q101, S101, M101, H101, G101⟩ := id P0
  refine Rch.go (X0.arraylength hx (by rw [e0]; exact Ar101.1) (State.isArrayOf_alike hZ.alike Ar101.2.1) (g := (mkF m 2 #[.val (.ref b0), .val (.int p1)] [(.ref b0), (.int p1)])) rfl rfl (hb hby d15_2)) ?_
  rw [len_of S101 M101]
  refine Rch.go (fun zt zk => XS.isub X0.here hx rfl (hb hby d15_3) rfl zk) ?_
  show Rch _ _ _ _ (s₁.setTop (mkF m 4 #[.val (.ref b0), .val (.int p1)] [(.int (p1 - zz))]))
  refine Rch.go (fun zt zk => XS.bipush X0.here hx rfl (hb hby d15_4) zk) ?_
  refine Rch.go (fun zt zk => XS.iushr X0.here hx rfl (hb hby d15_6) rfl zk) ?_
  refine Rch.go (fun zt zk => XS.i2b X0.here hx rfl (hb hby d15_7) rfl zk) ?_
  obtain ⟨fs, hr, hrun, hended, hW, hsame⟩ := X0.leave (v := some (.int (nar .byte ((((p1 - zz).toUInt32 >>> ((31 : Int32) &&& 31).toUInt32).toInt32).toInt8.toInt32)))) (fun h => by rw [Bd.returns] at h; cases h)
  refine Rch.mk (retN X0 hx (t := .byte) Bd.returns (by simp) (hb hby d15_8) hr) (hPd _ _ _ _ hrun hended rfl ?_ ⟨⟨_, rfl⟩, hW, hsame.mono (by decide) (by decide)⟩)
  show Q_rm15 Z b0 p1 kb zz vs h0 n0 _ s₁.heap _
  rw [e0]
  exact ⟨rfl, N0, rfl⟩
theorem ef_rmCpL1 (m : MethodId) (ca : Addr) (bb : Addr) : entryFrame m #[(.ref ca), (.int (0 : Int32)), (.ref bb), (.int (0 : Int32)), (.int (1 : Int32))] 7 = mkF m 0 #[.val (.ref ca), .val (.int (0 : Int32)), .val (.ref bb), .val (.int (0 : Int32)), .val (.int (1 : Int32)), .unset, .unset] [] := by first | (simp [entryFrame, mkF, argsToLocals, Value.category]; done) | rfl
theorem d14_0 : decode jdk_52_method_21_code 0 = .ok (.iconst 0, 1) := by decide +kernel
theorem d14_1 : decode jdk_52_method_21_code 1 = .ok (.istore 5, 2) := by decide +kernel
theorem d14_3 : decode jdk_52_method_21_code 3 = .ok (.iload 5, 2) := by decide +kernel
theorem d14_5 : decode jdk_52_method_21_code 5 = .ok (.iload 4, 2) := by decide +kernel
theorem d14_7 : decode jdk_52_method_21_code 7 = .ok (.if_icmp .ge 37, 3) := by decide +kernel
theorem d14_10 : decode jdk_52_method_21_code 10 = .ok (.aload_n 0, 1) := by decide +kernel
theorem d14_11 : decode jdk_52_method_21_code 11 = .ok (.iload_n 1, 1) := by decide +kernel
theorem d14_12 : decode jdk_52_method_21_code 12 = .ok (.caload, 1) := by decide +kernel
theorem d14_13 : decode jdk_52_method_21_code 13 = .ok (.istore 6, 2) := by decide +kernel
theorem d14_15 : decode jdk_52_method_21_code 15 = .ok (.iload 6, 2) := by decide +kernel
theorem d14_17 : decode jdk_52_method_21_code 17 = .ok (.sipush 255, 3) := by decide +kernel
theorem d14_20 : decode jdk_52_method_21_code 20 = .ok (.if_icmp .le 6, 3) := by decide +kernel
theorem d14_26 : decode jdk_52_method_21_code 26 = .ok (.aload_n 2, 1) := by decide +kernel
theorem d14_27 : decode jdk_52_method_21_code 27 = .ok (.iload_n 3, 1) := by decide +kernel
theorem d14_28 : decode jdk_52_method_21_code 28 = .ok (.iload 6, 2) := by decide +kernel
theorem d14_30 : decode jdk_52_method_21_code 30 = .ok (.i2b, 1) := by decide +kernel
theorem d14_31 : decode jdk_52_method_21_code 31 = .ok (.bastore, 1) := by decide +kernel
theorem d14_32 : decode jdk_52_method_21_code 32 = .ok (.iinc 1 1, 3) := by decide +kernel
theorem d14_35 : decode jdk_52_method_21_code 35 = .ok (.iinc 3 1, 3) := by decide +kernel
theorem d14_38 : decode jdk_52_method_21_code 38 = .ok (.iinc 5 1, 3) := by decide +kernel
theorem d14_41 : decode jdk_52_method_21_code 41 = .ok (.goto (-38), 3) := by decide +kernel
theorem d14_44 : decode jdk_52_method_21_code 44 = .ok (.iload 4, 2) := by decide +kernel
theorem d14_46 : decode jdk_52_method_21_code 46 = .ok (.ireturn, 1) := by decide +kernel
def Q_rmCpL1 (Z : State) (ca : Addr) (bb : Addr) (kc : ClassId) (kb : ClassId) (d0 : Int32) (h0 : Heap) (n0 : Nat) (v : Option Value) (h : Heap) (L : List Loc) : Prop := v = some (.int (1 : Int32)) ∧ Fr n0 L ∧ Keep h0 h [bb] ∧ Arv Z h bb kb .byte (1 : Int32) [(.int (bOf d0))] (.int (0 : Int32))
set_option maxRecDepth 65536 in
set_option maxHeartbeats 40000000 in
theorem rmCpL1 (l : Launch) (Z : State) (a0 : Array Value) (hw : ∀ d ∈ tables_1, d.before a0 Z = true) (ws : List Jvm.Cond) (ca : Addr) (bb : Addr) (kc : ClassId) (kb : ClassId) (d0 : Int32) (h0 : Heap) (n0 : Nat) (Z0 : n0 ≤ h0.size) (P0 : Arv Z h0 ca kc .char (1 : Int32) [(.int d0)] (.int (0 : Int32))) (P1 : Arv Z h0 bb kb .byte (1 : Int32) [(.int (0 : Int32))] (.int (0 : Int32))) (Pn0 : ca ≠ bb) (Pg_bb : n0 ≤ bb) (r_d0 : R8 d0) :
    MetFree l (⟨"java/lang/StringUTF16", "compress", "([CI[BII)I"⟩ : MethodName) (head1 (Jvm.Cond.code (⟨"java/lang/StringUTF16", "compress", "([CI[BII)I"⟩ : MethodName) jdk_52_method_21_code 7 (some .int) :: ws) ({ frames := 0, cells := 0, slots := 0, locals := 0 } : Room)) (fun a U => a = #[(.ref ca), (.int (0 : Int32)), (.ref bb), (.int (0 : Int32)), (.int (1 : Int32))] ∧ Z.Warmed39 U.vm ∧ U.heap = h0) (fun _ _ _ _ _ => True) (fun _ U o U' => ∃ v L, o = .returned v ∧ Q_rmCpL1 Z ca bb kc kb d0 h0 n0 v U'.heap L ∧ FrameEnd U o U' L ({ frames := 0, cells := 0, slots := 0, locals := 0 } : Room).cells ({ frames := 0, cells := 0, slots := 0, locals := 0 } : Room).slots) := by
  refine MetFree.of_bodySF (plainFor_of_name pn_java_lang_StringUTF16) hisR ?_
  intro p e s m args below meth c s₁ Bd hml0 hP hK
  obtain ⟨rfl, hZ, hh⟩ := hP
  have hx := Bd.exec
  have hby := Bd.bytes
  have hml : c.maxLocals = 7 := hml0
  have hown : s.vm.findClass "java/lang/StringUTF16" = some m.cls := findClass_of_methodNamed Bd.named
  have hnm := (name_of_methodNamed Bd.named Bd.method).1
  have X0 : Stand p l e ({ frames := 0, cells := 0, slots := 0, locals := 0 } : Room) s m #[(.ref ca), (.int (0 : Int32)), (.ref bb), (.int (0 : Int32)), (.int (1 : Int32))] below meth c s₁ [] 0 0 := Stand.of_body Bd
  have e0 : s₁.heap = h0 := by rw [← hh, Bd.state]; rfl
  have N0 := Fr.nil n0
  suffices hR : ∀ P : State → Prop, (∀ s₂ o v L, s₂.status = .running → Ended s₂ below o → o = .returned v → Q_rmCpL1 Z ca bb kc kb d0 h0 n0 v s₂.heap L → FrameEnd s o s₂ L ({ frames := 0, cells := 0, slots := 0, locals := 0 } : Room).cells ({ frames := 0, cells := 0, slots := 0, locals := 0 } : Room).slots → P s₂) → Rch p.tables e below P (s₁.setTop (mkF m 0 #[.val (.ref ca), .val (.int (0 : Int32)), .val (.ref bb), .val (.int (0 : Int32)), .val (.int (1 : Int32)), .unset, .unset] [])) by
    obtain ⟨s₂, h1, o, h2⟩ := hR (fun s₂ => ∃ o, s₂.status = .running ∧ Ended s₂ below o ∧ ∃ v L, o = .returned v ∧ Q_rmCpL1 Z ca bb kc kb d0 h0 n0 v s₂.heap L ∧ FrameEnd s o s₂ L ({ frames := 0, cells := 0, slots := 0, locals := 0 } : Room).cells ({ frames := 0, cells := 0, slots := 0, locals := 0 } : Room).slots) (fun s₂ o v L q1 q2 q3 q4 q5 => ⟨o, q1, q2, v, L, q3, q4, q5⟩)
    exact ⟨s₂, o, castTop (ef_rmCpL1 m ca bb) h1, h2⟩
  intro P hPd
  refine Rch.go (fun zt zk => XS.iconst X0.here hx rfl (hb hby d14_0) zk) ?_
  refine Rch.go (fun zt zk => XS.istore X0.here hx rfl (hb hby d14_1) rfl (l' := #[.val (.ref ca), .val (.int (0 : Int32)), .val (.ref bb), .val (.int (0 : Int32)), .val (.int (1 : Int32)), .val (.int (0 : Int32)), .unset]) rfl zk) ?_
  refine Rch.go (fun zt zk => XS.iload X0.here hx rfl (hb hby d14_3) rfl zk) ?_
  refine Rch.go (fun zt zk => XS.iload X0.here hx rfl (hb hby d14_5) rfl zk) ?_
  show Rch _ _ _ _ (s₁.setTop (mkF m 7 #[.val (.ref ca), .val (.int (0 : Int32)), .val (.ref bb), .val (.int (0 : Int32)), .val (.int (1 : Int32)), .val (.int (0 : Int32)), .unset] [(.int (1 : Int32)), (.int (0 : Int32))]))
  refine Rch.go (fun zt zk => XS.icmpNo X0.here hx rfl (hb hby d14_7) rfl (tlt (by decide : (0 : Int32) < (1 : Int32))).2.1 zk) ?_
  refine Rch.go (fun zt zk => XS.aloadN X0.here hx rfl (hb hby d14_10) rfl rfl zk) ?_
  refine Rch.go (fun zt zk => XS.iloadN X0.here hx rfl (hb hby d14_11) rfl zk) ?_
  obtain ⟨cl101, Ar101, q101, S101, M101, H101, G101⟩ := id P0
  have hin101 := inb_of (j := (0 : Int32)) S101 ⟨by decide, by decide⟩
  refine Rch.go (X0.caload hx (j := (0 : Int32)) (v := (.int d0)) (by rw [e0]; exact Ar101.1) (State.isArrayOf_alike hZ.alike Ar101.2.1) Ar101.2.2 hin101 (Has.at H101 hin101 rfl) (g := (mkF m 12 #[.val (.ref ca), .val (.int (0 : Int32)), .val (.ref bb), .val (.int (0 : Int32)), .val (.int (1 : Int32)), .val (.int (0 : Int32)), .unset] [(.int (0 : Int32)), (.ref ca)])) rfl rfl (hb hby d14_12)) ?_
  show Rch _ _ _ _ (s₁.setTop (mkF m 13 #[.val (.ref ca), .val (.int (0 : Int32)), .val (.ref bb), .val (.int (0 : Int32)), .val (.int (1 : Int32)), .val (.int (0 : Int32)), .unset] [(.int d0)]))
  refine Rch.go (fun zt zk => XS.istore X0.here hx rfl (hb hby d14_13) rfl (l' := #[.val (.ref ca), .val (.int (0 : Int32)), .val (.ref bb), .val (.int (0 : Int32)), .val (.int (1 : Int32)), .val (.int (0 : Int32)), .val (.int d0)]) rfl zk) ?_
  refine Rch.go (fun zt zk => XS.iload X0.here hx rfl (hb hby d14_15) rfl zk) ?_
  refine Rch.go (fun zt zk => XS.sipush X0.here hx rfl (hb hby d14_17) zk) ?_
  refine Rch.go (fun zt zk => XS.icmpYes X0.here hx rfl (pc0 := 20) (pc' := 26) rfl (hb hby d14_20) rfl (flt (own_le255 r_d0 : ¬ ((255 : Int32) < d0))).2.2.2 (by decide) (by decide) zk) ?_
  show Rch _ _ _ _ (s₁.setTop (mkF m 26 #[.val (.ref ca), .val (.int (0 : Int32)), .val (.ref bb), .val (.int (0 : Int32)), .val (.int (1 : Int32)), .val (.int (0 : Int32)), .val (.int d0)] []))
  refine Rch.go (fun zt zk => XS.aloadN X0.here hx rfl (hb hby d14_26) rfl rfl zk) ?_
  refine Rch.go (fun zt zk => XS.iloadN X0.here hx rfl (hb hby d14_27) rfl zk) ?_
  refine Rch.go (fun zt zk => XS.iload X0.here hx rfl (hb hby d14_28) rfl zk) ?_
  refine Rch.go (fun zt zk => XS.i2b X0.here hx rfl (hb hby d14_30) rfl zk) ?_
  show Rch _ _ _ _ (s₁.setTop (mkF m 31 #[.val (.ref ca), .val (.int (0 : Int32)), .val (.ref bb), .val (.int (0 : Int32)), .val (.int (1 : Int32)), .val (.int (0 : Int32)), .val (.int d0)] [(.int (d0.toInt8.toInt32)), (.int (0 : Int32)), (.ref bb)]))
  obtain ⟨cl102, Ar102, q102, S102, M102, H102, G102⟩ := id P1
  obtain ⟨T102, h102, X102, e102, W102, st102⟩ := stB X0 hx hZ e0 Ar102 (j := (0 : Int32)) (inb_of S102 ⟨by decide, by decide⟩) (g := (mkF m 31 #[.val (.ref ca), .val (.int (0 : Int32)), .val (.ref bb), .val (.int (0 : Int32)), .val (.int (1 : Int32)), .val (.int (0 : Int32)), .val (.int d0)] [(.int (d0.toInt8.toInt32)), (.int (0 : Int32)), (.ref bb)])) rfl rfl (hb hby d14_31)
  refine Rch.go st102 ?_
  have V102 : Arv Z h102 bb kb .byte (1 : Int32) [(.int (nar .byte (d0.toInt8.toInt32)))] (.int (0 : Int32)) := Arv.set Ar102 q102 S102 M102 H102 G102 (fits_nar_byte _) W102 0 rfl (Nat.le_of_ble_eq_true rfl)
  have N102 := Fr.snoc X102 N0 Pg_bb
  have K102 : Keep h0 h102 [bb] := Keep.wr (Keep.refl h0 [bb]) W102 (Or.inl (List.mem_of_getElem? (i := 0) rfl))
  refine Rch.go (fun zt zk => XS.iinc X102.here hx rfl (hb hby d14_32) rfl (l' := #[.val (.ref ca), .val (.int (1 : Int32)), .val (.ref bb), .val (.int (0 : Int32)), .val (.int (1 : Int32)), .val (.int (0 : Int32)), .val (.int d0)]) rfl zk) ?_
  refine Rch.go (fun zt zk => XS.iinc X102.here hx rfl (hb hby d14_35) rfl (l' := #[.val (.ref ca), .val (.int (1 : Int32)), .val (.ref bb), .val (.int (1 : Int32)), .val (.int (1 : Int32)), .val (.int (0 : Int32)), .val (.int d0)]) rfl zk) ?_
  refine Rch.go (fun zt zk => XS.iinc X102.here hx rfl (hb hby d14_38) rfl (l' := #[.val (.ref ca), .val (.int (1 : Int32)), .val (.ref bb), .val (.int (1 : Int32)), .val (.int (1 : Int32)), .val (.int (1 : Int32)), .val (.int d0)]) rfl zk) ?_
  show Rch _ _ _ _ (T102.setTop (mkF m 41 #[.val (.ref ca), .val (.int (1 : Int32)), .val (.ref bb), .val (.int (1 : Int32)), .val (.int (1 : Int32)), .val (.int (1 : Int32)), .val (.int d0)] []))
  refine Rch.go (fun zt zk => XS.goto X102.here hx rfl (pc0 := 41) (pc' := 3) rfl (hb hby d14_41) (by decide) (by decide) zk) ?_
  refine Rch.go (fun zt zk => XS.iload X102.here hx rfl (hb hby d14_3) rfl zk) ?_
  refine Rch.go (fun zt zk => XS.iload X102.here hx rfl (hb hby d14_5) rfl zk) ?_
  refine Rch.go (fun zt zk => XS.icmpYes X102.here hx rfl (pc0 := 7) (pc' := 44) rfl (hb hby d14_7) rfl (flt (by decide : ¬ ((1 : Int32) < (1 : Int32)))).2.1 (by decide) (by decide) zk) ?_
  show Rch _ _ _ _ (T102.setTop (mkF m 44 #[.val (.ref ca), .val (.int (1 : Int32)), .val (.ref bb), .val (.int (1 : Int32)), .val (.int (1 : Int32)), .val (.int (1 : Int32)), .val (.int d0)] []))
  refine Rch.go (fun zt zk => XS.iload X102.here hx rfl (hb hby d14_44) rfl zk) ?_
  obtain ⟨fs, hr, hrun, hended, hW, hsame⟩ := X102.leave (v := some (.int (1 : Int32))) (fun h => by rw [Bd.returns] at h; cases h)
  refine Rch.mk (retI X102 hx Bd.returns (hb hby d14_46) hr) (hPd _ _ _ _ hrun hended rfl ?_ ⟨⟨_, rfl⟩, hW, hsame.mono (by decide) (by decide)⟩)
  show Q_rmCpL1 Z ca bb kc kb d0 h0 n0 _ T102.heap _
  rw [e102]
  exact ⟨rfl, N102, K102, V102⟩
theorem ef_rmCp1 (m : MethodId) (ca : Addr) : entryFrame m #[(.ref ca), (.int (0 : Int32)), (.int (1 : Int32))] 6 = mkF m 0 #[.val (.ref ca), .val (.int (0 : Int32)), .val (.int (1 : Int32)), .unset, .unset, .unset] [] := by first | (simp [entryFrame, mkF, argsToLocals, Value.category]; done) | rfl
theorem d13_0 : decode jdk_52_method_16_code 0 = .ok (.iload_n 2, 1) := by decide +kernel
theorem d13_1 : decode jdk_52_method_16_code 1 = .ok (.newarray .byte, 2) := by decide +kernel
theorem d13_3 : decode jdk_52_method_16_code 3 = .ok (.astore_n 3, 1) := by decide +kernel
theorem d13_4 : decode jdk_52_method_16_code 4 = .ok (.aload_n 0, 1) := by decide +kernel
theorem d13_5 : decode jdk_52_method_16_code 5 = .ok (.iload_n 1, 1) := by decide +kernel
theorem d13_6 : decode jdk_52_method_16_code 6 = .ok (.aload_n 3, 1) := by decide +kernel
theorem d13_7 : decode jdk_52_method_16_code 7 = .ok (.iconst 0, 1) := by decide +kernel
theorem d13_8 : decode jdk_52_method_16_code 8 = .ok (.iload_n 2, 1) := by decide +kernel
theorem d13_9 : decode jdk_52_method_16_code 9 = .ok (.invokestatic 115, 3) := by decide +kernel
theorem pd___CI_BII_I : parseMethodDescriptor "([CI[BII)I" = some ⟨[(.array .char), .int, (.array .byte), .int, .int], some .int⟩ := by decide +kernel
theorem d13_12 : decode jdk_52_method_16_code 12 = .ok (.istore 4, 2) := by decide +kernel
theorem d13_14 : decode jdk_52_method_16_code 14 = .ok (.iload 4, 2) := by decide +kernel
theorem d13_16 : decode jdk_52_method_16_code 16 = .ok (.iload_n 2, 1) := by decide +kernel
theorem d13_17 : decode jdk_52_method_16_code 17 = .ok (.if_icmp .eq 40, 3) := by decide +kernel
theorem d13_57 : decode jdk_52_method_16_code 57 = .ok (.aload_n 3, 1) := by decide +kernel
theorem d13_58 : decode jdk_52_method_16_code 58 = .ok (.areturn, 1) := by decide +kernel
def Q_rmCp1 (Z : State) (ca : Addr) (kc : ClassId) (d0 : Int32) (h0 : Heap) (n0 : Nat) (v : Option Value) (h : Heap) (L : List Loc) : Prop := (∃ (b : Addr) (kb : ClassId), v = some (.ref b) ∧ n0 ≤ b ∧ h0.size ≤ b ∧ Arv Z h b kb .byte (1 : Int32) [(.int (bOf d0))] (.int (0 : Int32))) ∧ Fr n0 L ∧ Keep h0 h []
set_option maxRecDepth 65536 in
set_option maxHeartbeats 40000000 in
theorem rmCp1 (l : Launch) (Z : State) (a0 : Array Value) (hw : ∀ d ∈ tables_1, d.before a0 Z = true) (ws : List Jvm.Cond) (ca : Addr) (kc : ClassId) (d0 : Int32) (h0 : Heap) (n0 : Nat) (Z0 : n0 ≤ h0.size) (P0 : Arv Z h0 ca kc .char (1 : Int32) [(.int d0)] (.int (0 : Int32))) (r_d0 : R8 d0) :
    MetFree l (⟨"java/lang/StringUTF16", "compress", "([CII)[B"⟩ : MethodName) (head1 (Jvm.Cond.code (⟨"java/lang/StringUTF16", "compress", "([CII)[B"⟩ : MethodName) jdk_52_method_16_code 6 (some (.array .byte)) :: ws) ({ frames := 1, cells := 1, slots := 1, locals := 18 } : Room)) (fun a U => a = #[(.ref ca), (.int (0 : Int32)), (.int (1 : Int32))] ∧ Z.Warmed39 U.vm ∧ U.heap = h0) (fun _ _ _ _ _ => True) (fun _ U o U' => ∃ v L, o = .returned v ∧ Q_rmCp1 Z ca kc d0 h0 n0 v U'.heap L ∧ FrameEnd U o U' L ({ frames := 1, cells := 1, slots := 1, locals := 18 } : Room).cells ({ frames := 1, cells := 1, slots := 1, locals := 18 } : Room).slots) := by
  refine MetFree.of_bodySF (plainFor_of_name pn_java_lang_StringUTF16) hisR ?_
  intro p e s m args below meth c s₁ Bd hml0 hP hK
  obtain ⟨rfl, hZ, hh⟩ := hP
  have hx := Bd.exec
  have hby := Bd.bytes
  have hml : c.maxLocals = 6 := hml0
  have hown : s.vm.findClass "java/lang/StringUTF16" = some m.cls := findClass_of_methodNamed Bd.named
  have hnm := (name_of_methodNamed Bd.named Bd.method).1
  have X0 : Stand p l e ({ frames := 1, cells := 1, slots := 1, locals := 18 } : Room) s m #[(.ref ca), (.int (0 : Int32)), (.int (1 : Int32))] below meth c s₁ [] 0 0 := Stand.of_body Bd
  have e0 : s₁.heap = h0 := by rw [← hh, Bd.state]; rfl
  have N0 := Fr.nil n0
  suffices hR : ∀ P : State → Prop, (∀ s₂ o v L, s₂.status = .running → Ended s₂ below o → o = .returned v → Q_rmCp1 Z ca kc d0 h0 n0 v s₂.heap L → FrameEnd s o s₂ L ({ frames := 1, cells := 1, slots := 1, locals := 18 } : Room).cells ({ frames := 1, cells := 1, slots := 1, locals := 18 } : Room).slots → P s₂) → Rch p.tables e below P (s₁.setTop (mkF m 0 #[.val (.ref ca), .val (.int (0 : Int32)), .val (.int (1 : Int32)), .unset, .unset, .unset] [])) by
    obtain ⟨s₂, h1, o, h2⟩ := hR (fun s₂ => ∃ o, s₂.status = .running ∧ Ended s₂ below o ∧ ∃ v L, o = .returned v ∧ Q_rmCp1 Z ca kc d0 h0 n0 v s₂.heap L ∧ FrameEnd s o s₂ L ({ frames := 1, cells := 1, slots := 1, locals := 18 } : Room).cells ({ frames := 1, cells := 1, slots := 1, locals := 18 } : Room).slots) (fun s₂ o v L q1 q2 q3 q4 q5 => ⟨o, q1, q2, v, L, q3, q4, q5⟩)
    exact ⟨s₂, o, castTop (ef_rmCp1 m ca) h1, h2⟩
  intro P hPd
  refine Rch.go (fun zt zk => XS.iloadN X0.here hx rfl (hb hby d13_0) rfl zk) ?_
  obtain ⟨T101, h101, k101, X101, e101, E101, A101, st101⟩ := newP X0 hx hZ (aty := .byte) (ow23 hw) e0 (g := (mkF m 1 #[.val (.ref ca), .val (.int (0 : Int32)), .val (.int (1 : Int32)), .unset, .unset, .unset] [(.int (1 : Int32))])) rfl (hb hby d13_1) rfl (by decide) (cap := 1) (by decide) (by decide) (by decide) (by decide)
  obtain ⟨b101, g101⟩ : ∃ z, z = h0.size := ⟨_, rfl⟩
  rw [← g101] at A101 st101
  refine Rch.go st101 ?_
  have ne_ca_b101 : ca ≠ b101 := by have q := P0.lt; rw [g101]; exact Nat.ne_of_lt q
  have ge101 : n0 ≤ b101 := by rw [g101]; exact Z0
  have gk101 : h0.size ≤ b101 := by rw [g101]; exact (Keep.refl h0 []).1
  have K101 := (Keep.refl h0 []).ext E101
  have V101 : Arv Z h101 b101 k101 .byte (1 : Int32) [(.int (0 : Int32))] (.int (0 : Int32)) := (Arv.new A101 (by decide)).pad (pad_rep [] (.int (0 : Int32)) 1)
  refine Rch.go (fun zt zk => XS.astoreN X101.here hx rfl (hb hby d13_3) rfl rfl (l' := #[.val (.ref ca), .val (.int (0 : Int32)), .val (.int (1 : Int32)), .val (.ref b101), .unset, .unset]) rfl zk) ?_
  refine Rch.go (fun zt zk => XS.aloadN X101.here hx rfl (hb hby d13_4) rfl rfl zk) ?_
  show Rch _ _ _ _ (T101.setTop (mkF m 5 #[.val (.ref ca), .val (.int (0 : Int32)), .val (.int (1 : Int32)), .val (.ref b101), .unset, .unset] [(.ref ca)]))
  refine Rch.go (fun zt zk => XS.iloadN X101.here hx rfl (hb hby d13_5) rfl zk) ?_
  refine Rch.go (fun zt zk => XS.aloadN X101.here hx rfl (hb hby d13_6) rfl rfl zk) ?_
  refine Rch.go (fun zt zk => XS.iconst X101.here hx rfl (hb hby d13_7) zk) ?_
  refine Rch.go (fun zt zk => XS.iloadN X101.here hx rfl (hb hby d13_8) rfl zk) ?_
  show Rch _ _ _ _ (T101.setTop (mkF m 9 #[.val (.ref ca), .val (.int (0 : Int32)), .val (.int (1 : Int32)), .val (.ref b101), .unset, .unset] [(.int (1 : Int32)), (.int (0 : Int32)), (.ref b101), (.int (0 : Int32)), (.ref ca)]))
  have f103 := (P0.ext E101)
  have f104 := (Nat.le_trans Z0 E101.1)
  obtain ⟨_, _, ⟨T102, L102, k102, n102⟩, -, X102, ⟨Lc102, hQ102, l102, y102, z102⟩, st102⟩ := Jvm.LawKit.callS X101 hx (y := (⟨"java/lang/StringUTF16", "compress", "([CI[BII)I"⟩ : MethodName)) hown (mvT hZ (ow67 hw)) (mvT hZ (ow68 hw)) (mvT hZ (ow65 hw)) (mvT hZ (ow69 hw)) (by decide) (backOf (W := 0) (rmCpL1 l Z a0 hw [] (ca) (b101) (kc) (k101) (d0) h101 n0 f104 (f103) (V101) (ne_ca_b101) (ge101) (r_d0)) hZ (ow69 hw) (ow65 hw) (by decide) (by decide)) (g := (mkF m 9 #[.val (.ref ca), .val (.int (0 : Int32)), .val (.int (1 : Int32)), .val (.ref b101), .unset, .unset] [(.int (1 : Int32)), (.int (0 : Int32)), (.ref b101), (.int (0 : Int32)), (.ref ca)])) rfl (by rw [hml]; rfl) (argsL := [(.ref ca), (.int (0 : Int32)), (.ref b101), (.int (0 : Int32)), (.int (1 : Int32))]) (rest := []) (lenOf pd___CI_BII_I rfl) rfl (by show 2 * 0 + _ ≤ _; exact Nat.le_of_eq rfl) (hb hby d13_9) (fun _ _ => ⟨rfl, e101, (by decide : 1 + 0 ≤ _), (by decide : 1 + 0 ≤ _)⟩)
  dsimp only [Pt.U, Pt.locs, Pt.cells, Pt.slots] at X102 l102 y102 z102 st102 hQ102
  rw [l102, y102, z102] at X102
  obtain ⟨rfl, N102q, K102q, O102_0⟩ := hQ102
  have N102 := Fr.app N0 N102q
  have K102 := Keep.trans K101 K102q (allS (Or.inr gk101) all0)
  refine Rch.go st102 ?_
  refine Rch.go (fun zt zk => XS.istore X102.here hx rfl (hb hby d13_12) rfl (l' := #[.val (.ref ca), .val (.int (0 : Int32)), .val (.int (1 : Int32)), .val (.ref b101), .val (.int (1 : Int32)), .unset]) rfl zk) ?_
  refine Rch.go (fun zt zk => XS.iload X102.here hx rfl (hb hby d13_14) rfl zk) ?_
  refine Rch.go (fun zt zk => XS.iloadN X102.here hx rfl (hb hby d13_16) rfl zk) ?_
  show Rch _ _ _ _ (T102.setTop (mkF m 17 #[.val (.ref ca), .val (.int (0 : Int32)), .val (.int (1 : Int32)), .val (.ref b101), .val (.int (1 : Int32)), .unset] [(.int (1 : Int32)), (.int (1 : Int32))]))
  refine Rch.go (fun zt zk => XS.icmpYes X102.here hx rfl (pc0 := 17) (pc' := 57) rfl (hb hby d13_17) rfl (teq (by decide : (1 : Int32) = (1 : Int32))).1 (by decide) (by decide) zk) ?_
  refine Rch.go (fun zt zk => XS.aloadN X102.here hx rfl (hb hby d13_57) rfl rfl zk) ?_
  obtain ⟨fs, hr, hrun, hended, hW, hsame⟩ := X102.leave (v := some (.ref b101)) (fun h => by rw [Bd.returns] at h; cases h)
  have hend : Steps p.tables e below (T102.setTop (mkF m 58 #[.val (.ref ca), .val (.int (0 : Int32)), .val (.int (1 : Int32)), .val (.ref b101), .val (.int (1 : Int32)), .unset] [(.ref b101)])) (T102.setFrames fs) := by
    jvm_step X102.here [X102.here.top, hx, (hb hby d13_58), X102.method', Bd.returns, Value.isRef, FieldType.isReference]
    first | (intro acts; rw [hr _ acts rfl rfl rfl]) | rw [hr _ _ rfl rfl rfl]
    exact Steps.refl _
  refine Rch.mk (hend) (hPd _ _ _ _ hrun hended rfl ?_ ⟨⟨_, rfl⟩, hW, hsame.mono (by decide) (by decide)⟩)
  show Q_rmCp1 Z ca kc d0 h0 n0 _ T102.heap _
  exact ⟨⟨b101, _, rfl, ge101, gk101, O102_0⟩, N102, K102⟩
theorem ef_rmCi1 (m : MethodId) (a1 : Addr) (ca : Addr) : entryFrame m #[(.ref a1), (.ref ca), (.int (0 : Int32)), (.int (1 : Int32)), .null] 6 = mkF m 0 #[.val (.ref a1), .val (.ref ca), .val (.int (0 : Int32)), .val (.int (1 : Int32)), .val .null, .unset] [] := by first | (simp [entryFrame, mkF, argsToLocals, Value.category]; done) | rfl
theorem d4_0 : decode jdk_42_method_149_code 0 = .ok (.aload_n 0, 1) := by decide +kernel
theorem d4_1 : decode jdk_42_method_149_code 1 = .ok (.invokespecial 1, 3) := by decide +kernel
theorem d4_4 : decode jdk_42_method_149_code 4 = .ok (.iload_n 3, 1) := by decide +kernel
theorem d4_5 : decode jdk_42_method_149_code 5 = .ok (.ifCond .ne 22, 3) := by decide +kernel
theorem d4_27 : decode jdk_42_method_149_code 27 = .ok (.getstatic 38, 3) := by decide +kernel
theorem d4_30 : decode jdk_42_method_149_code 30 = .ok (.ifCond .eq 28, 3) := by decide +kernel
theorem d4_33 : decode jdk_42_method_149_code 33 = .ok (.aload_n 1, 1) := by decide +kernel
theorem d4_34 : decode jdk_42_method_149_code 34 = .ok (.iload_n 2, 1) := by decide +kernel
theorem d4_35 : decode jdk_42_method_149_code 35 = .ok (.iload_n 3, 1) := by decide +kernel
theorem d4_36 : decode jdk_42_method_149_code 36 = .ok (.invokestatic 177, 3) := by decide +kernel
theorem pd___CII__B : parseMethodDescriptor "([CII)[B" = some ⟨[(.array .char), .int, .int], some (.array .byte)⟩ := by decide +kernel
theorem d4_39 : decode jdk_42_method_149_code 39 = .ok (.astore 5, 2) := by decide +kernel
theorem d4_41 : decode jdk_42_method_149_code 41 = .ok (.aload_n 0, 1) := by decide +kernel
theorem d4_42 : decode jdk_42_method_149_code 42 = .ok (.aload 5, 2) := by decide +kernel
theorem d4_44 : decode jdk_42_method_149_code 44 = .ok (.iload_n 3, 1) := by decide +kernel
theorem d4_45 : decode jdk_42_method_149_code 45 = .ok (.invokestatic 47, 3) := by decide +kernel
theorem pd___BI_B : parseMethodDescriptor "([BI)B" = some ⟨[(.array .byte), .int], some .byte⟩ := by decide +kernel
theorem d4_48 : decode jdk_42_method_149_code 48 = .ok (.putfield 15, 3) := by decide +kernel
theorem d4_51 : decode jdk_42_method_149_code 51 = .ok (.aload_n 0, 1) := by decide +kernel
theorem d4_52 : decode jdk_42_method_149_code 52 = .ok (.aload 5, 2) := by decide +kernel
theorem d4_54 : decode jdk_42_method_149_code 54 = .ok (.putfield 9, 3) := by decide +kernel
theorem d4_57 : decode jdk_42_method_149_code 57 = .ok (.return_, 1) := by decide +kernel
def Q_rmCi1 (Z : State) (a1 : Addr) (ca : Addr) (kc : ClassId) (cz : Int32) (d0 : Int32) (h0 : Heap) (n0 : Nat) (v : Option Value) (h : Heap) (L : List Loc) : Prop := v = none ∧ Fr n0 L ∧ Keep h0 h [a1] ∧ Exa Z h a1 "java/lang/String" ∧ Fld Z h a1 "java/lang/String" "coder" "B" (.int (nar .byte (0 : Int32))) ∧ ∃ (b : Addr) (kb : ClassId), n0 ≤ b ∧ h0.size ≤ b ∧ Fld Z h a1 "java/lang/String" "value" "[B" (.ref b) ∧ Arv Z h b kb .byte (1 : Int32) [(.int (bOf d0))] (.int (0 : Int32))
set_option maxRecDepth 65536 in
set_option maxHeartbeats 40000000 in
theorem rmCi1 (l : Launch) (Z : State) (a0 : Array Value) (hw : ∀ d ∈ tables_1, d.before a0 Z = true) (ws : List Jvm.Cond) (a1 : Addr) (ca : Addr) (kc : ClassId) (cz : Int32) (d0 : Int32) (h0 : Heap) (n0 : Nat) (Z0 : n0 ≤ h0.size) (P0 : Exa Z h0 a1 "java/lang/String") (P1 : Fld Z h0 a1 "java/lang/String" "value" "[B" .null) (P2 : Fld Z h0 a1 "java/lang/String" "coder" "B" (.int (0 : Int32))) (P3 : Arv Z h0 ca kc .char (1 : Int32) [(.int d0)] (.int (0 : Int32))) (P4 : Old Z n0 h0) (P5 : Sta Z Z.heap "java/lang/String" "COMPACT_STRINGS" "Z" (.int cz)) (Pn0 : ca ≠ a1) (Pg_a1 : n0 ≤ a1) (r_d0 : R8 d0) (hcz : ¬ (cz = (0 : Int32))) :
    MetFree l (⟨"java/lang/String", "<init>", "([CIILjava/lang/Void;)V"⟩ : MethodName) (head1 (Jvm.Cond.code (⟨"java/lang/String", "<init>", "([CIILjava/lang/Void;)V"⟩ : MethodName) jdk_42_method_149_code 6 none :: ws) ({ frames := 2, cells := 1, slots := 1, locals := 35 } : Room)) (fun a U => a = #[(.ref a1), (.ref ca), (.int (0 : Int32)), (.int (1 : Int32)), .null] ∧ Z.Warmed39 U.vm ∧ U.heap = h0) (fun _ _ _ _ _ => True) (fun _ U o U' => ∃ v L, o = .returned v ∧ Q_rmCi1 Z a1 ca kc cz d0 h0 n0 v U'.heap L ∧ FrameEnd U o U' L ({ frames := 2, cells := 1, slots := 1, locals := 35 } : Room).cells ({ frames := 2, cells := 1, slots := 1, locals := 35 } : Room).slots) := by
  refine MetFree.of_bodySF (plainFor_of_name pn_java_lang_String) hisR ?_
  intro p e s m args below meth c s₁ Bd hml0 hP hK
  obtain ⟨rfl, hZ, hh⟩ := hP
  have hx := Bd.exec
  have hby := Bd.bytes
  have hml : c.maxLocals = 6 := hml0
  have hown : s.vm.findClass "java/lang/String" = some m.cls := findClass_of_methodNamed Bd.named
  have hnm := (name_of_methodNamed Bd.named Bd.method).1
  have X0 : Stand p l e ({ frames := 2, cells := 1, slots := 1, locals := 35 } : Room) s m #[(.ref a1), (.ref ca), (.int (0 : Int32)), (.int (1 : Int32)), .null] below meth c s₁ [] 0 0 := Stand.of_body Bd
  have e0 : s₁.heap = h0 := by rw [← hh, Bd.state]; rfl
  have N0 := Fr.nil n0
  suffices hR : ∀ P : State → Prop, (∀ s₂ o v L, s₂.status = .running → Ended s₂ below o → o = .returned v → Q_rmCi1 Z a1 ca kc cz d0 h0 n0 v s₂.heap L → FrameEnd s o s₂ L ({ frames := 2, cells := 1, slots := 1, locals := 35 } : Room).cells ({ frames := 2, cells := 1, slots := 1, locals := 35 } : Room).slots → P s₂) → Rch p.tables e below P (s₁.setTop (mkF m 0 #[.val (.ref a1), .val (.ref ca), .val (.int (0 : Int32)), .val (.int (1 : Int32)), .val .null, .unset] [])) by
    obtain ⟨s₂, h1, o, h2⟩ := hR (fun s₂ => ∃ o, s₂.status = .running ∧ Ended s₂ below o ∧ ∃ v L, o = .returned v ∧ Q_rmCi1 Z a1 ca kc cz d0 h0 n0 v s₂.heap L ∧ FrameEnd s o s₂ L ({ frames := 2, cells := 1, slots := 1, locals := 35 } : Room).cells ({ frames := 2, cells := 1, slots := 1, locals := 35 } : Room).slots) (fun s₂ o v L q1 q2 q3 q4 q5 => ⟨o, q1, q2, v, L, q3, q4, q5⟩)
    exact ⟨s₂, o, castTop (ef_rmCi1 m a1 ca) h1, h2⟩
  intro P hPd
  refine Rch.go (fun zt zk => XS.aloadN X0.here hx rfl (hb hby d4_0) rfl rfl zk) ?_
  obtain ⟨T101, X101, e101, st101⟩ := initO X0 hx hZ hown (ow19 hw) (ow20 hw) (ow21 hw) e0 (g := (mkF m 1 #[.val (.ref a1), .val (.ref ca), .val (.int (0 : Int32)), .val (.int (1 : Int32)), .val .null, .unset] [(.ref a1)])) rfl (by rw [hml]; rfl) rfl (hb hby d4_1) (by decide) (W := 0) (by show 2 * 0 + _ ≤ _; exact Nat.le_of_eq rfl) (by decide)
  refine Rch.go st101 ?_
  refine Rch.go (fun zt zk => XS.iloadN X101.here hx rfl (hb hby d4_4) rfl zk) ?_
  refine Rch.go (fun zt zk => XS.ifYes X101.here hx rfl (pc0 := 5) (pc' := 27) rfl (hb hby d4_5) rfl ((if0 _ _).trans (feq (by decide : ¬ ((1 : Int32) = (0 : Int32)))).2) (by decide) (by decide) zk) ?_
  show Rch _ _ _ _ (T101.setTop (mkF m 27 #[.val (.ref a1), .val (.ref ca), .val (.int (0 : Int32)), .val (.int (1 : Int32)), .val .null, .unset] []))
  have f102 := P5.ext P4.2
  obtain ⟨T103, X103, e103, st103⟩ := getS2 X101 hx hZ hown (host := "") (Or.inl (ow44 hw)) Via.refl e101 f102 (g := (mkF m 27 #[.val (.ref a1), .val (.ref ca), .val (.int (0 : Int32)), .val (.int (1 : Int32)), .val .null, .unset] [])) rfl (hb hby d4_27)
  refine Rch.go st103 ?_
  refine Rch.go (fun zt zk => XS.ifNo X103.here hx rfl (hb hby d4_30) rfl ((if0 _ _).trans (feq (hcz : ¬ (cz = (0 : Int32)))).1) zk) ?_
  refine Rch.go (fun zt zk => XS.aloadN X103.here hx rfl (hb hby d4_33) rfl rfl zk) ?_
  refine Rch.go (fun zt zk => XS.iloadN X103.here hx rfl (hb hby d4_34) rfl zk) ?_
  show Rch _ _ _ _ (T103.setTop (mkF m 35 #[.val (.ref a1), .val (.ref ca), .val (.int (0 : Int32)), .val (.int (1 : Int32)), .val .null, .unset] [(.int (0 : Int32)), (.ref ca)]))
  refine Rch.go (fun zt zk => XS.iloadN X103.here hx rfl (hb hby d4_35) rfl zk) ?_
  obtain ⟨_, _, ⟨T104, L104, k104, n104⟩, -, X104, ⟨Lc104, hQ104, l104, y104, z104⟩, st104⟩ := Jvm.LawKit.callS X103 hx (y := (⟨"java/lang/StringUTF16", "compress", "([CII)[B"⟩ : MethodName)) hown (mvT hZ (ow63 hw)) (mvT hZ (ow64 hw)) (mvT hZ (ow65 hw)) (mvT hZ (ow66 hw)) (by decide) (backOf (W := 0) (rmCp1 l Z a0 hw [] (ca) (kc) (d0) h0 n0 Z0 (P3) (r_d0)) hZ (ow66 hw) (ow65 hw) (by decide) (by decide)) (g := (mkF m 36 #[.val (.ref a1), .val (.ref ca), .val (.int (0 : Int32)), .val (.int (1 : Int32)), .val .null, .unset] [(.int (1 : Int32)), (.int (0 : Int32)), (.ref ca)])) rfl (by rw [hml]; rfl) (argsL := [(.ref ca), (.int (0 : Int32)), (.int (1 : Int32))]) (rest := []) (lenOf pd___CII__B rfl) rfl (by show 2 * 0 + _ ≤ _; exact Nat.le_of_eq rfl) (hb hby d4_36) (fun _ _ => ⟨rfl, e103, (by decide : 0 + 1 ≤ _), (by decide : 0 + 1 ≤ _)⟩)
  dsimp only [Pt.U, Pt.locs, Pt.cells, Pt.slots] at X104 l104 y104 z104 st104 hQ104
  rw [l104, y104, z104] at X104
  obtain ⟨⟨b104, kb104, rfl, gb104, gh104, V104⟩, N104q, K104q⟩ := hQ104
  have N104 := Fr.app N0 N104q
  have ne_a1_b104 : a1 ≠ b104 := Nat.ne_of_lt (Nat.lt_of_lt_of_le P0.lt gh104)
  have ne_ca_b104 : ca ≠ b104 := Nat.ne_of_lt (Nat.lt_of_lt_of_le P3.lt gh104)
  have gk104 : h0.size ≤ b104 := Nat.le_trans (Keep.refl h0 [a1]).1 gh104
  have K104 := Keep.trans (Keep.refl h0 [a1]) K104q all0
  refine Rch.go st104 ?_
  refine Rch.go (fun zt zk => XS.astore X104.here hx rfl (hb hby d4_39) rfl rfl (l' := #[.val (.ref a1), .val (.ref ca), .val (.int (0 : Int32)), .val (.int (1 : Int32)), .val .null, .val (.ref b104)]) rfl zk) ?_
  refine Rch.go (fun zt zk => XS.aloadN X104.here hx rfl (hb hby d4_41) rfl rfl zk) ?_
  show Rch _ _ _ _ (T104.setTop (mkF m 42 #[.val (.ref a1), .val (.ref ca), .val (.int (0 : Int32)), .val (.int (1 : Int32)), .val .null, .val (.ref b104)] [(.ref a1)]))
  refine Rch.go (fun zt zk => XS.aload X104.here hx rfl (hb hby d4_42) rfl rfl zk) ?_
  refine Rch.go (fun zt zk => XS.iloadN X104.here hx rfl (hb hby d4_44) rfl zk) ?_
  have f106 := (Nat.le_trans Z0 K104q.1)
  obtain ⟨_, _, ⟨T105, L105, k105, n105⟩, -, X105, ⟨Lc105, hQ105, l105, y105, z105⟩, st105⟩ := Jvm.LawKit.callS X104 hx (y := (⟨"java/lang/StringUTF16", "coderFromArrayLen", "([BI)B"⟩ : MethodName)) hown (mvT hZ (ow70 hw)) (mvT hZ (ow71 hw)) (mvT hZ (ow65 hw)) (mvT hZ (ow72 hw)) (by decide) (backOf (W := 1) (rm15 l Z a0 hw [] (b104) ((1 : Int32)) (kb104) ((1 : Int32)) ([(.int (bOf d0))]) T104.heap n0 f106 (V104)) hZ (ow72 hw) (ow65 hw) (by decide) (by decide)) (g := (mkF m 45 #[.val (.ref a1), .val (.ref ca), .val (.int (0 : Int32)), .val (.int (1 : Int32)), .val .null, .val (.ref b104)] [(.int (1 : Int32)), (.ref b104), (.ref a1)])) rfl (by rw [hml]; rfl) (argsL := [(.ref b104), (.int (1 : Int32))]) (rest := [(.ref a1)]) (lenOf pd___BI_B rfl) rfl (by show 2 * 0 + _ ≤ _; exact Nat.le_of_eq rfl) (hb hby d4_45) (fun _ _ => ⟨rfl, rfl, (by decide : 1 + 0 ≤ _), (by decide : 1 + 0 ≤ _)⟩)
  dsimp only [Pt.U, Pt.locs, Pt.cells, Pt.slots] at X105 l105 y105 z105 st105 hQ105
  rw [l105, y105, z105] at X105
  obtain ⟨rfl, N105q, eq105⟩ := hQ105
  have N105 := Fr.app N104 N105q
  refine Rch.go st105 ?_
  have hcd : (nar .byte (((((1 : Int32) - (1 : Int32)).toUInt32 >>> ((31 : Int32) &&& 31).toUInt32).toInt32).toInt8.toInt32)) = (0 : Int32) := by decide
  rw [hcd]
  show Rch _ _ _ _ (T105.setTop (mkF m 48 #[.val (.ref a1), .val (.ref ca), .val (.int (0 : Int32)), .val (.int (1 : Int32)), .val .null, .val (.ref b104)] [(.int (0 : Int32)), (.ref a1)]))
  have f107 := (P0.keep K104q)
  have f108 := (P2.keep K104q nin0)
  obtain ⟨T109, h109, X109, e109, W109, st109⟩ := putFN X105 hx hZ hown (ow29 hw) Via.refl eq105 f108 f107 (Or.inr ⟨(ow25 hw), rfl, hnm⟩) (ow10 hw) (ty := .byte) (v' := (.int (nar .byte (0 : Int32)))) (by decide) rfl (fits_nar_byte _) (g := (mkF m 48 #[.val (.ref a1), .val (.ref ca), .val (.int (0 : Int32)), .val (.int (1 : Int32)), .val .null, .val (.ref b104)] [(.int (0 : Int32)), (.ref a1)])) rfl rfl (hb hby d4_48)
  refine Rch.go st109 ?_
  have Fw109 := f108.same W109
  have N109 := Fr.snoc X109 N105 Pg_a1
  have K109 : Keep h0 h109 [a1] := Keep.wr K104 W109 (Or.inl (List.mem_of_getElem? (i := 0) rfl))
  refine Rch.go (fun zt zk => XS.aloadN X109.here hx rfl (hb hby d4_51) rfl rfl zk) ?_
  refine Rch.go (fun zt zk => XS.aload X109.here hx rfl (hb hby d4_52) rfl rfl zk) ?_
  have f110 := (f107.wr W109)
  have f111 := ((P1.keep K104q nin0).other W109 (Or.inr (slot_ne (Or.inr (ow24 hw)) (Or.inr (ow25 hw)) (by decide) (t := (.array .byte)) (t' := .byte) (by decide) (by decide))))
  obtain ⟨T112, h112, X112, e112, W112, st112⟩ := putF X109 hx hZ hown (host := "") (Or.inl (ow28 hw)) Via.refl e109 f111 f110 (Or.inr ⟨(ow24 hw), rfl, hnm⟩) (ow10 hw) (ty := (.array .byte)) (by decide) rfl rfl (g := (mkF m 54 #[.val (.ref a1), .val (.ref ca), .val (.int (0 : Int32)), .val (.int (1 : Int32)), .val .null, .val (.ref b104)] [(.ref b104), (.ref a1)])) rfl rfl (hb hby d4_54)
  refine Rch.go st112 ?_
  have Fw112 := f111.same W112
  have N112 := Fr.snoc X112 N109 Pg_a1
  have K112 : Keep h0 h112 [a1] := Keep.wr K109 W112 (Or.inl (List.mem_of_getElem? (i := 0) rfl))
  show Rch _ _ _ _ (T112.setTop (mkF m 57 #[.val (.ref a1), .val (.ref ca), .val (.int (0 : Int32)), .val (.int (1 : Int32)), .val .null, .val (.ref b104)] []))
  obtain ⟨fs, hr, hrun, hended, hW, hsame⟩ := X112.leave (v := none) (fun _ => rfl)
  refine Rch.mk (X112.returnOut hx Bd.returns (hb hby d4_57) hr) (hPd _ _ _ _ hrun hended rfl ?_ ⟨⟨_, rfl⟩, hW, hsame.mono (by decide) (by decide)⟩)
  show Q_rmCi1 Z a1 ca kc cz d0 h0 n0 _ T112.heap _
  rw [e112]
  have f113 := (f110.wr W112)
  have f114 := (Fw109.other W112 (Or.inr (slot_ne (Or.inr (ow25 hw)) (Or.inr (ow24 hw)) (by decide) (t := .byte) (t' := (.array .byte)) (by decide) (by decide))))
  have f115 := ((V104.other W109 (Ne.symm ne_a1_b104)).other W112 (Ne.symm ne_a1_b104))
  exact ⟨rfl, N112, K112, f113, f114, b104, _, gb104, gk104, Fw112, f115⟩
theorem ef_rmC1 (m : MethodId) (a1 : Addr) (ca : Addr) : entryFrame m #[(.ref a1), (.ref ca)] 2 = mkF m 0 #[.val (.ref a1), .val (.ref ca)] [] := by first | (simp [entryFrame, mkF, argsToLocals, Value.category]; done) | rfl
theorem d3_0 : decode jdk_42_method_3_code 0 = .ok (.aload_n 0, 1) := by decide +kernel
theorem d3_1 : decode jdk_42_method_3_code 1 = .ok (.aload_n 1, 1) := by decide +kernel
theorem d3_2 : decode jdk_42_method_3_code 2 = .ok (.iconst 0, 1) := by decide +kernel
theorem d3_3 : decode jdk_42_method_3_code 3 = .ok (.aload_n 1, 1) := by decide +kernel
theorem d3_4 : decode jdk_42_method_3_code 4 = .ok (.arraylength, 1) := by decide +kernel
theorem d3_5 : decode jdk_42_method_3_code 5 = .ok (.aconst_null, 1) := by decide +kernel
theorem d3_6 : decode jdk_42_method_3_code 6 = .ok (.invokespecial 27, 3) := by decide +kernel
theorem pd___CIILjava_lang_Void__V : parseMethodDescriptor "([CIILjava/lang/Void;)V" = some ⟨[(.array .char), .int, .int, (.object "java/lang/Void")], none⟩ := by decide +kernel
theorem d3_9 : decode jdk_42_method_3_code 9 = .ok (.return_, 1) := by decide +kernel
def Q_rmC1 (Z : State) (a1 : Addr) (ca : Addr) (kc : ClassId) (cz : Int32) (d0 : Int32) (h0 : Heap) (n0 : Nat) (v : Option Value) (h : Heap) (L : List Loc) : Prop := v = none ∧ Fr n0 L ∧ Keep h0 h [a1] ∧ Exa Z h a1 "java/lang/String" ∧ Fld Z h a1 "java/lang/String" "coder" "B" (.int (nar .byte (0 : Int32))) ∧ ∃ (b : Addr) (kb : ClassId), n0 ≤ b ∧ h0.size ≤ b ∧ Fld Z h a1 "java/lang/String" "value" "[B" (.ref b) ∧ Arv Z h b kb .byte (1 : Int32) [(.int (bOf d0))] (.int (0 : Int32))
set_option maxRecDepth 65536 in
set_option maxHeartbeats 40000000 in
theorem rmC1 (l : Launch) (Z : State) (a0 : Array Value) (hw : ∀ d ∈ tables_1, d.before a0 Z = true) (ws : List Jvm.Cond) (a1 : Addr) (ca : Addr) (kc : ClassId) (cz : Int32) (d0 : Int32) (h0 : Heap) (n0 : Nat) (Z0 : n0 ≤ h0.size) (P0 : Exa Z h0 a1 "java/lang/String") (P1 : Fld Z h0 a1 "java/lang/String" "value" "[B" .null) (P2 : Fld Z h0 a1 "java/lang/String" "coder" "B" (.int (0 : Int32))) (P3 : Arv Z h0 ca kc .char (1 : Int32) [(.int d0)] (.int (0 : Int32))) (P4 : Old Z n0 h0) (P5 : Sta Z Z.heap "java/lang/String" "COMPACT_STRINGS" "Z" (.int cz)) (Pn0 : ca ≠ a1) (Pg_a1 : n0 ≤ a1) (r_d0 : R8 d0) (hcz : ¬ (cz = (0 : Int32))) :
    MetFree l (⟨"java/lang/String", "<init>", "([C)V"⟩ : MethodName) (head1 (Jvm.Cond.code (⟨"java/lang/String", "<init>", "([C)V"⟩ : MethodName) jdk_42_method_3_code 2 none :: ws) ({ frames := 3, cells := 1, slots := 1, locals := 52 } : Room)) (fun a U => a = #[(.ref a1), (.ref ca)] ∧ Z.Warmed39 U.vm ∧ U.heap = h0) (fun _ _ _ _ _ => True) (fun _ U o U' => ∃ v L, o = .returned v ∧ Q_rmC1 Z a1 ca kc cz d0 h0 n0 v U'.heap L ∧ FrameEnd U o U' L ({ frames := 3, cells := 1, slots := 1, locals := 52 } : Room).cells ({ frames := 3, cells := 1, slots := 1, locals := 52 } : Room).slots) := by
  refine MetFree.of_bodySF (plainFor_of_name pn_java_lang_String) hisR ?_
  intro p e s m args below meth c s₁ Bd hml0 hP hK
  obtain ⟨rfl, hZ, hh⟩ := hP
  have hx := Bd.exec
  have hby := Bd.bytes
  have hml : c.maxLocals = 2 := hml0
  have hown : s.vm.findClass "java/lang/String" = some m.cls := findClass_of_methodNamed Bd.named
  have hnm := (name_of_methodNamed Bd.named Bd.method).1
  have X0 : Stand p l e ({ frames := 3, cells := 1, slots := 1, locals := 52 } : Room) s m #[(.ref a1), (.ref ca)] below meth c s₁ [] 0 0 := Stand.of_body Bd
  have e0 : s₁.heap = h0 := by rw [← hh, Bd.state]; rfl
  have N0 := Fr.nil n0
  suffices hR : ∀ P : State → Prop, (∀ s₂ o v L, s₂.status = .running → Ended s₂ below o → o = .returned v → Q_rmC1 Z a1 ca kc cz d0 h0 n0 v s₂.heap L → FrameEnd s o s₂ L ({ frames := 3, cells := 1, slots := 1, locals := 52 } : Room).cells ({ frames := 3, cells := 1, slots := 1, locals := 52 } : Room).slots → P s₂) → Rch p.tables e below P (s₁.setTop (mkF m 0 #[.val (.ref a1), .val (.ref ca)] [])) by
    obtain ⟨s₂, h1, o, h2⟩ := hR (fun s₂ => ∃ o, s₂.status = .running ∧ Ended s₂ below o ∧ ∃ v L, o = .returned v ∧ Q_rmC1 Z a1 ca kc cz d0 h0 n0 v s₂.heap L ∧ FrameEnd s o s₂ L ({ frames := 3, cells := 1, slots := 1, locals := 52 } : Room).cells ({ frames := 3, cells := 1, slots := 1, locals := 52 } : Room).slots) (fun s₂ o v L q1 q2 q3 q4 q5 => ⟨o, q1, q2, v, L, q3, q4, q5⟩)
    exact ⟨s₂, o, castTop (ef_rmC1 m a1 ca) h1, h2⟩
  intro P hPd
  refine Rch.go (fun zt zk => XS.aloadN X0.here hx rfl (hb hby d3_0) rfl rfl zk) ?_
  refine Rch.go (fun zt zk => XS.aloadN X0.here hx rfl (hb hby d3_1) rfl rfl zk) ?_
  refine Rch.go (fun zt zk => XS.iconst X0.here hx rfl (hb hby d3_2) zk) ?_
  refine Rch.go (fun zt zk => XS.aloadN X0.here hx rfl (hb hby d3_3) rfl rfl zk) ?_
  show Rch _ _ _ _ (s₁.setTop (mkF m 4 #[.val (.ref a1), .val (.ref ca)] [(.ref ca), (.int (0 : Int32)), (.ref ca), (.ref a1)]))
  obtain ⟨cl101, Ar101, q101, S101, M101, H101, G101⟩ := id P3
  refine Rch.go (X0.arraylength hx (by rw [e0]; exact Ar101.1) (State.isArrayOf_alike hZ.alike Ar101.2.1) (g := (mkF m 4 #[.val (.ref a1), .val (.ref ca)] [(.ref ca), (.int (0 : Int32)), (.ref ca), (.ref a1)])) rfl rfl (hb hby d3_4)) ?_
  rw [len_of S101 M101]
  refine Rch.go (fun zt zk => XS.aconstNull X0.here hx rfl (hb hby d3_5) zk) ?_
  obtain ⟨_, _, ⟨T102, L102, k102, n102⟩, -, X102, ⟨Lc102, hQ102, l102, y102, z102⟩, st102⟩ := X0.specialBack hx (y := (⟨"java/lang/String", "<init>", "([CIILjava/lang/Void;)V"⟩ : MethodName)) rfl hown (mvT hZ (ow15 hw)) (mvT hZ (ow16 hw)) (mvT hZ (ow18 hw)) (by decide) (backOf (W := 0) (rmCi1 l Z a0 hw [] (a1) (ca) (kc) (cz) (d0) h0 n0 Z0 (P0) (P1) (P2) (P3) (P4) (P5) (Pn0) (Pg_a1) (r_d0) (hcz)) hZ (ow18 hw) (ow11 hw) (by decide) (by decide)) (g := (mkF m 6 #[.val (.ref a1), .val (.ref ca)] [.null, (.int (1 : Int32)), (.int (0 : Int32)), (.ref ca), (.ref a1)])) rfl (by rw [hml]; rfl) (Steps.refl _) (a := a1) (argsL := [(.ref ca), (.int (0 : Int32)), (.int (1 : Int32)), .null]) (rest := []) (lenOf pd___CIILjava_lang_Void__V rfl) rfl (by show 2 * 0 + _ ≤ _; exact Nat.le_of_eq rfl) (hb hby d3_6) (fun _ _ => ⟨rfl, e0, (by decide : 0 + 1 ≤ _), (by decide : 0 + 1 ≤ _)⟩)
  dsimp only [Pt.U, Pt.locs, Pt.cells, Pt.slots] at X102 l102 y102 z102 st102 hQ102
  rw [l102, y102, z102] at X102
  obtain ⟨rfl, N102q, K102q, E102, C102, b102, kb102, gb102, gh102, U102, V102⟩ := hQ102
  have N102 := Fr.app N0 N102q
  have ne_a1_b102 : a1 ≠ b102 := Nat.ne_of_lt (Nat.lt_of_lt_of_le P0.lt gh102)
  have ne_ca_b102 : ca ≠ b102 := Nat.ne_of_lt (Nat.lt_of_lt_of_le P3.lt gh102)
  have gk102 : h0.size ≤ b102 := Nat.le_trans (Keep.refl h0 [a1]).1 gh102
  have K102 := Keep.trans (Keep.refl h0 [a1]) K102q (allS (Or.inl (List.mem_of_getElem? (i := 0) rfl)) all0)
  refine Rch.go (fun zt zk => st102.trans zk) ?_
  obtain ⟨fs, hr, hrun, hended, hW, hsame⟩ := X102.leave (v := none) (fun _ => rfl)
  refine Rch.mk (X102.returnOut hx Bd.returns (hb hby d3_9) hr) (hPd _ _ _ _ hrun hended rfl ?_ ⟨⟨_, rfl⟩, hW, hsame.mono (by decide) (by decide)⟩)
  show Q_rmC1 Z a1 ca kc cz d0 h0 n0 _ T102.heap _
  exact ⟨rfl, N102, K102, E102, C102, b102, _, gb102, gk102, U102, V102⟩
theorem ef_rmCpL2 (m : MethodId) (ca : Addr) (bb : Addr) : entryFrame m #[(.ref ca), (.int (0 : Int32)), (.ref bb), (.int (0 : Int32)), (.int (2 : Int32))] 7 = mkF m 0 #[.val (.ref ca), .val (.int (0 : Int32)), .val (.ref bb), .val (.int (0 : Int32)), .val (.int (2 : Int32)), .unset, .unset] [] := by first | (simp [entryFrame, mkF, argsToLocals, Value.category]; done) | rfl
def Q_rmCpL2 (Z : State) (ca : Addr) (bb : Addr) (kc : ClassId) (kb : ClassId) (d0 : Int32) (d1 : Int32) (h0 : Heap) (n0 : Nat) (v : Option Value) (h : Heap) (L : List Loc) : Prop := v = some (.int (2 : Int32)) ∧ Fr n0 L ∧ Keep h0 h [bb] ∧ Arv Z h bb kb .byte (2 : Int32) [(.int (bOf d0)), (.int (bOf d1))] (.int (0 : Int32))
set_option maxRecDepth 65536 in
set_option maxHeartbeats 40000000 in
theorem rmCpL2 (l : Launch) (Z : State) (a0 : Array Value) (hw : ∀ d ∈ tables_1, d.before a0 Z = true) (ws : List Jvm.Cond) (ca : Addr) (bb : Addr) (kc : ClassId) (kb : ClassId) (d0 : Int32) (d1 : Int32) (h0 : Heap) (n0 : Nat) (Z0 : n0 ≤ h0.size) (P0 : Arv Z h0 ca kc .char (2 : Int32) [(.int d0), (.int d1)] (.int (0 : Int32))) (P1 : Arv Z h0 bb kb .byte (2 : Int32) [(.int (0 : Int32)), (.int (0 : Int32))] (.int (0 : Int32))) (Pn0 : ca ≠ bb) (Pg_bb : n0 ≤ bb) (r_d0 : R8 d0) (r_d1 : R8 d1) :
    MetFree l (⟨"java/lang/StringUTF16", "compress", "([CI[BII)I"⟩ : MethodName) (head1 (Jvm.Cond.code (⟨"java/lang/StringUTF16", "compress", "([CI[BII)I"⟩ : MethodName) jdk_52_method_21_code 7 (some .int) :: ws) ({ frames := 0, cells := 0, slots := 0, locals := 0 } : Room)) (fun a U => a = #[(.ref ca), (.int (0 : Int32)), (.ref bb), (.int (0 : Int32)), (.int (2 : Int32))] ∧ Z.Warmed39 U.vm ∧ U.heap = h0) (fun _ _ _ _ _ => True) (fun _ U o U' => ∃ v L, o = .returned v ∧ Q_rmCpL2 Z ca bb kc kb d0 d1 h0 n0 v U'.heap L ∧ FrameEnd U o U' L ({ frames := 0, cells := 0, slots := 0, locals := 0 } : Room).cells ({ frames := 0, cells := 0, slots := 0, locals := 0 } : Room).slots) := by
  refine MetFree.of_bodySF (plainFor_of_name pn_java_lang_StringUTF16) hisR ?_
  intro p e s m args below meth c s₁ Bd hml0 hP hK
  obtain ⟨rfl, hZ, hh⟩ := hP
  have hx := Bd.exec
  have hby := Bd.bytes
  have hml : c.maxLocals = 7 := hml0
  have hown : s.vm.findClass "java/lang/StringUTF16" = some m.cls := findClass_of_methodNamed Bd.named
  have hnm := (name_of_methodNamed Bd.named Bd.method).1
  have X0 : Stand p l e ({ frames := 0, cells := 0, slots := 0, locals := 0 } : Room) s m #[(.ref ca), (.int (0 : Int32)), (.ref bb), (.int (0 : Int32)), (.int (2 : Int32))] below meth c s₁ [] 0 0 := Stand.of_body Bd
  have e0 : s₁.heap = h0 := by rw [← hh, Bd.state]; rfl
  have N0 := Fr.nil n0
  suffices hR : ∀ P : State → Prop, (∀ s₂ o v L, s₂.status = .running → Ended s₂ below o → o = .returned v → Q_rmCpL2 Z ca bb kc kb d0 d1 h0 n0 v s₂.heap L → FrameEnd s o s₂ L ({ frames := 0, cells := 0, slots := 0, locals := 0 } : Room).cells ({ frames := 0, cells := 0, slots := 0, locals := 0 } : Room).slots → P s₂) → Rch p.tables e below P (s₁.setTop (mkF m 0 #[.val (.ref ca), .val (.int (0 : Int32)), .val (.ref bb), .val (.int (0 : Int32)), .val (.int (2 : Int32)), .unset, .unset] [])) by
    obtain ⟨s₂, h1, o, h2⟩ := hR (fun s₂ => ∃ o, s₂.status = .running ∧ Ended s₂ below o ∧ ∃ v L, o = .returned v ∧ Q_rmCpL2 Z ca bb kc kb d0 d1 h0 n0 v s₂.heap L ∧ FrameEnd s o s₂ L ({ frames := 0, cells := 0, slots := 0, locals := 0 } : Room).cells ({ frames := 0, cells := 0, slots := 0, locals := 0 } : Room).slots) (fun s₂ o v L q1 q2 q3 q4 q5 => ⟨o, q1, q2, v, L, q3, q4, q5⟩)
    exact ⟨s₂, o, castTop (ef_rmCpL2 m ca bb) h1, h2⟩
  intro P hPd
  refine Rch.go (fun zt zk => XS.iconst X0.here hx rfl (hb hby d14_0) zk) ?_
  refine Rch.go (fun zt zk => XS.istore X0.here hx rfl (hb hby d14_1) rfl (l' := #[.val (.ref ca), .val (.int (0 : Int32)), .val (.ref bb), .val (.int (0 : Int32)), .val (.int (2 : Int32)), .val (.int (0 : Int32)), .unset]) rfl zk) ?_
  refine Rch.go (fun zt zk => XS.iload X0.here hx rfl (hb hby d14_3) rfl zk) ?_
  refine Rch.go (fun zt zk => XS.iload X0.here hx rfl (hb hby d14_5) rfl zk) ?_
  show Rch _ _ _ _ (s₁.setTop (mkF m 7 #[.val (.ref ca), .val (.int (0 : Int32)), .val (.ref bb), .val (.int (0 : Int32)), .val (.int (2 : Int32)), .val (.int (0 : Int32)), .unset] [(.int (2 : Int32)), (.int (0 : Int32))]))
  refine Rch.go (fun zt zk => XS.icmpNo X0.here hx rfl (hb hby d14_7) rfl (tlt (by decide : (0 : Int32) < (2 : Int32))).2.1 zk) ?_
  refine Rch.go (fun zt zk => XS.aloadN X0.here hx rfl (hb hby d14_10) rfl rfl zk) ?_
  refine Rch.go (fun zt zk => XS.iloadN X0.here hx rfl (hb hby d14_11) rfl zk) ?_
  obtain ⟨cl101, Ar101, q101, S101, M101, H101, G101⟩ := id P0
  have hin101 := inb_of (j := (0 : Int32)) S101 ⟨by decide, by decide⟩
  refine Rch.go (X0.caload hx (j := (0 : Int32)) (v := (.int d0)) (by rw [e0]; exact Ar101.1) (State.isArrayOf_alike hZ.alike Ar101.2.1) Ar101.2.2 hin101 (Has.at H101 hin101 rfl) (g := (mkF m 12 #[.val (.ref ca), .val (.int (0 : Int32)), .val (.ref bb), .val (.int (0 : Int32)), .val (.int (2 : Int32)), .val (.int (0 : Int32)), .unset] [(.int (0 : Int32)), (.ref ca)])) rfl rfl (hb hby d14_12)) ?_
  show Rch _ _ _ _ (s₁.setTop (mkF m 13 #[.val (.ref ca), .val (.int (0 : Int32)), .val (.ref bb), .val (.int (0 : Int32)), .val (.int (2 : Int32)), .val (.int (0 : Int32)), .unset] [(.int d0)]))
  refine Rch.go (fun zt zk => XS.istore X0.here hx rfl (hb hby d14_13) rfl (l' := #[.val (.ref ca), .val (.int (0 : Int32)), .val (.ref bb), .val (.int (0 : Int32)), .val (.int (2 : Int32)), .val (.int (0 : Int32)), .val (.int d0)]) rfl zk) ?_
  refine Rch.go (fun zt zk => XS.iload X0.here hx rfl (hb hby d14_15) rfl zk) ?_
  refine Rch.go (fun zt zk => XS.sipush X0.here hx rfl (hb hby d14_17) zk) ?_
  refine Rch.go (fun zt zk => XS.icmpYes X0.here hx rfl (pc0 := 20) (pc' := 26) rfl (hb hby d14_20) rfl (flt (own_le255 r_d0 : ¬ ((255 : Int32) < d0))).2.2.2 (by decide) (by decide) zk) ?_
  show Rch _ _ _ _ (s₁.setTop (mkF m 26 #[.val (.ref ca), .val (.int (0 : Int32)), .val (.ref bb), .val (.int (0 : Int32)), .val (.int (2 : Int32)), .val (.int (0 : Int32)), .val (.int d0)] []))
  refine Rch.go (fun zt zk => XS.aloadN X0.here hx rfl (hb hby d14_26) rfl rfl zk) ?_
  refine Rch.go (fun zt zk => XS.iloadN X0.here hx rfl (hb hby d14_27) rfl zk) ?_
  refine Rch.go (fun zt zk => XS.iload X0.here hx rfl (hb hby d14_28) rfl zk) ?_
  refine Rch.go (fun zt zk => XS.i2b X0.here hx rfl (hb hby d14_30) rfl zk) ?_
  show Rch _ _ _ _ (s₁.setTop (mkF m 31 #[.val (.ref ca), .val (.int (0 : Int32)), .val (.ref bb), .val (.int (0 : Int32)), .val (.int (2 : Int32)), .val (.int (0 : Int32)), .val (.int d0)] [(.int (d0.toInt8.toInt32)), (.int (0 : Int32)), (.ref bb)]))
  obtain ⟨cl102, Ar102, q102, S102, M102, H102, G102⟩ := id P1
  obtain ⟨T102, h102, X102, e102, W102, st102⟩ := stB X0 hx hZ e0 Ar102 (j := (0 : Int32)) (inb_of S102 ⟨by decide, by decide⟩) (g := (mkF m 31 #[.val (.ref ca), .val (.int (0 : Int32)), .val (.ref bb), .val (.int (0 : Int32)), .val (.int (2 : Int32)), .val (.int (0 : Int32)), .val (.int d0)] [(.int (d0.toInt8.toInt32)), (.int (0 : Int32)), (.ref bb)])) rfl rfl (hb hby d14_31)
  refine Rch.go st102 ?_
  have V102 : Arv Z h102 bb kb .byte (2 : Int32) [(.int (nar .byte (d0.toInt8.toInt32))), (.int (0 : Int32))] (.int (0 : Int32)) := Arv.set Ar102 q102 S102 M102 H102 G102 (fits_nar_byte _) W102 0 rfl (Nat.le_of_ble_eq_true rfl)
  have N102 := Fr.snoc X102 N0 Pg_bb
  have K102 : Keep h0 h102 [bb] := Keep.wr (Keep.refl h0 [bb]) W102 (Or.inl (List.mem_of_getElem? (i := 0) rfl))
  refine Rch.go (fun zt zk => XS.iinc X102.here hx rfl (hb hby d14_32) rfl (l' := #[.val (.ref ca), .val (.int (1 : Int32)), .val (.ref bb), .val (.int (0 : Int32)), .val (.int (2 : Int32)), .val (.int (0 : Int32)), .val (.int d0)]) rfl zk) ?_
  refine Rch.go (fun zt zk => XS.iinc X102.here hx rfl (hb hby d14_35) rfl (l' := #[.val (.ref ca), .val (.int (1 : Int32)), .val (.ref bb), .val (.int (1 : Int32)), .val (.int (2 : Int32)), .val (.int (0 : Int32)), .val (.int d0)]) rfl zk) ?_
  refine Rch.go (fun zt zk => XS.iinc X102.here hx rfl (hb hby d14_38) rfl (l' := #[.val (.ref ca), .val (.int (1 : Int32)), .val (.ref bb), .val (.int (1 : Int32)), .val (.int (2 : Int32)), .val (.int (1 : Int32)), .val (.int d0)]) rfl zk) ?_
  show Rch _ _ _ _ (T102.setTop (mkF m 41 #[.val (.ref ca), .val (.int (1 : Int32)), .val (.ref bb), .val (.int (1 : Int32)), .val (.int (2 : Int32)), .val (.int (1 : Int32)), .val (.int d0)] []))
  refine Rch.go (fun zt zk => XS.goto X102.here hx rfl (pc0 := 41) (pc' := 3) rfl (hb hby d14_41) (by decide) (by decide) zk) ?_
  refine Rch.go (fun zt zk => XS.iload X102.here hx rfl (hb hby d14_3) rfl zk) ?_
  refine Rch.go (fun zt zk => XS.iload X102.here hx rfl (hb hby d14_5) rfl zk) ?_
  refine Rch.go (fun zt zk => XS.icmpNo X102.here hx rfl (hb hby d14_7) rfl (tlt (by decide : (1 : Int32) < (2 : Int32))).2.1 zk) ?_
  show Rch _ _ _ _ (T102.setTop (mkF m 10 #[.val (.ref ca), .val (.int (1 : Int32)), .val (.ref bb), .val (.int (1 : Int32)), .val (.int (2 : Int32)), .val (.int (1 : Int32)), .val (.int d0)] []))
  refine Rch.go (fun zt zk => XS.aloadN X102.here hx rfl (hb hby d14_10) rfl rfl zk) ?_
  refine Rch.go (fun zt zk => XS.iloadN X102.here hx rfl (hb hby d14_11) rfl zk) ?_
  have f103 := (P0.other W102 Pn0)
  obtain ⟨cl104, Ar104, q104, S104, M104, H104, G104⟩ := id f103
  have hin104 := inb_of (j := (1 : Int32)) S104 ⟨by decide, by decide⟩
  refine Rch.go (X102.caload hx (j := (1 : Int32)) (v := (.int d1)) (by rw [e102]; exact Ar104.1) (State.isArrayOf_alike hZ.alike Ar104.2.1) Ar104.2.2 hin104 (Has.at H104 hin104 rfl) (g := (mkF m 12 #[.val (.ref ca), .val (.int (1 : Int32)), .val (.ref bb), .val (.int (1 : Int32)), .val (.int (2 : Int32)), .val (.int (1 : Int32)), .val (.int d0)] [(.int (1 : Int32)), (.ref ca)])) rfl rfl (hb hby d14_12)) ?_
  refine Rch.go (fun zt zk => XS.istore X102.here hx rfl (hb hby d14_13) rfl (l' := #[.val (.ref ca), .val (.int (1 : Int32)), .val (.ref bb), .val (.int (1 : Int32)), .val (.int (2 : Int32)), .val (.int (1 : Int32)), .val (.int d1)]) rfl zk) ?_
  show Rch _ _ _ _ (T102.setTop (mkF m 15 #[.val (.ref ca), .val (.int (1 : Int32)), .val (.ref bb), .val (.int (1 : Int32)), .val (.int (2 : Int32)), .val (.int (1 : Int32)), .val (.int d1)] []))
  refine Rch.go (fun zt zk => XS.iload X102.here hx rfl (hb hby d14_15) rfl zk) ?_
  refine Rch.go (fun zt zk => XS.sipush X102.here hx rfl (hb hby d14_17) zk) ?_
  refine Rch.go (fun zt zk => XS.icmpYes X102.here hx rfl (pc0 := 20) (pc' := 26) rfl (hb hby d14_20) rfl (flt (own_le255 r_d1 : ¬ ((255 : Int32) < d1))).2.2.2 (by decide) (by decide) zk) ?_
  refine Rch.go (fun zt zk => XS.aloadN X102.here hx rfl (hb hby d14_26) rfl rfl zk) ?_
  show Rch _ _ _ _ (T102.setTop (mkF m 27 #[.val (.ref ca), .val (.int (1 : Int32)), .val (.ref bb), .val (.int (1 : Int32)), .val (.int (2 : Int32)), .val (.int (1 : Int32)), .val (.int d1)] [(.ref bb)]))
  refine Rch.go (fun zt zk => XS.iloadN X102.here hx rfl (hb hby d14_27) rfl zk) ?_
  refine Rch.go (fun zt zk => XS.iload X102.here hx rfl (hb hby d14_28) rfl zk) ?_
  refine Rch.go (fun zt zk => XS.i2b X102.here hx rfl (hb hby d14_30) rfl zk) ?_
  obtain ⟨cl105, Ar105, q105, S105, M105, H105, G105⟩ := id V102
  obtain ⟨T105, h105, X105, e105, W105, st105⟩ := stB X102 hx hZ e102 Ar105 (j := (1 : Int32)) (inb_of S105 ⟨by decide, by decide⟩) (g := (mkF m 31 #[.val (.ref ca), .val (.int (1 : Int32)), .val (.ref bb), .val (.int (1 : Int32)), .val (.int (2 : Int32)), .val (.int (1 : Int32)), .val (.int d1)] [(.int (d1.toInt8.toInt32)), (.int (1 : Int32)), (.ref bb)])) rfl rfl (hb hby d14_31)
  refine Rch.go st105 ?_
  have V105 : Arv Z h105 bb kb .byte (2 : Int32) [(.int (nar .byte (d0.toInt8.toInt32))), (.int (nar .byte (d1.toInt8.toInt32)))] (.int (0 : Int32)) := Arv.set Ar105 q105 S105 M105 H105 G105 (fits_nar_byte _) W105 1 rfl (Nat.le_of_ble_eq_true rfl)
  have N105 := Fr.snoc X105 N102 Pg_bb
  have K105 : Keep h0 h105 [bb] := Keep.wr K102 W105 (Or.inl (List.mem_of_getElem? (i := 0) rfl))
  show Rch _ _ _ _ (T105.setTop (mkF m 32 #[.val (.ref ca), .val (.int (1 : Int32)), .val (.ref bb), .val (.int (1 : Int32)), .val (.int (2 : Int32)), .val (.int (1 : Int32)), .val (.int d1)] []))
  refine Rch.go (fun zt zk => XS.iinc X105.here hx rfl (hb hby d14_32) rfl (l' := #[.val (.ref ca), .val (.int (2 : Int32)), .val (.ref bb), .val (.int (1 : Int32)), .val (.int (2 : Int32)), .val (.int (1 : Int32)), .val (.int d1)]) rfl zk) ?_
  refine Rch.go (fun zt zk => XS.iinc X105.here hx rfl (hb hby d14_35) rfl (l' := #[.val (.ref ca), .val (.int (2 : Int32)), .val (.ref bb), .val (.int (2 : Int32)), .val (.int (2 : Int32)), .val (.int (1 : Int32)), .val (.int d1)]) rfl zk) ?_
  refine Rch.go (fun zt zk => XS.iinc X105.here hx rfl (hb hby d14_38) rfl (l' := #[.val (.ref ca), .val (.int (2 : Int32)), .val (.ref bb), .val (.int (2 : Int32)), .val (.int (2 : Int32)), .val (.int (2 : Int32)), .val (.int d1)]) rfl zk) ?_
  refine Rch.go (fun zt zk => XS.goto X105.here hx rfl (pc0 := 41) (pc' := 3) rfl (hb hby d14_41) (by decide) (by decide) zk) ?_
  show Rch _ _ _ _ (T105.setTop (mkF m 3 #[.val (.ref ca), .val (.int (2 : Int32)), .val (.ref bb), .val (.int (2 : Int32)), .val (.int (2 : Int32)), .val (.int (2 : Int32)), .val (.int d1)] []))
  refine Rch.go (fun zt zk => XS.iload X105.here hx rfl (hb hby d14_3) rfl zk) ?_
  refine Rch.go (fun zt zk => XS.iload X105.here hx rfl (hb hby d14_5) rfl zk) ?_
  refine Rch.go (fun zt zk => XS.icmpYes X105.here hx rfl (pc0 := 7) (pc' := 44) rfl (hb hby d14_7) rfl (flt (by decide : ¬ ((2 : Int32) < (2 : Int32)))).2.1 (by decide) (by decide) zk) ?_
  refine Rch.go (fun zt zk => XS.iload X105.here hx rfl (hb hby d14_44) rfl zk) ?_
  show Rch _ _ _ _ (T105.setTop (mkF m 46 #[.val (.ref ca), .val (.int (2 : Int32)), .val (.ref bb), .val (.int (2 : Int32)), .val (.int (2 : Int32)), .val (.int (2 : Int32)), .val (.int d1)] [(.int (2 : Int32))]))
  obtain ⟨fs, hr, hrun, hended, hW, hsame⟩ := X105.leave (v := some (.int (2 : Int32))) (fun h => by rw [Bd.returns] at h; cases h)
  refine Rch.mk (retI X105 hx Bd.returns (hb hby d14_46) hr) (hPd _ _ _ _ hrun hended rfl ?_ ⟨⟨_, rfl⟩, hW, hsame.mono (by decide) (by decide)⟩)
  show Q_rmCpL2 Z ca bb kc kb d0 d1 h0 n0 _ T105.heap _
  rw [e105]
  exact ⟨rfl, N105, K105, V105⟩
theorem ef_rmCp2 (m : MethodId) (ca : Addr) : entryFrame m #[(.ref ca), (.int (0 : Int32)), (.int (2 : Int32))] 6 = mkF m 0 #[.val (.ref ca), .val (.int (0 : Int32)), .val (.int (2 : Int32)), .unset, .unset, .unset] [] := by first | (simp [entryFrame, mkF, argsToLocals, Value.category]; done) | rfl
def Q_rmCp2 (Z : State) (ca : Addr) (kc : ClassId) (d0 : Int32) (d1 : Int32) (h0 : Heap) (n0 : Nat) (v : Option Value) (h : Heap) (L : List Loc) : Prop := (∃ (b : Addr) (kb : ClassId), v = some (.ref b) ∧ n0 ≤ b ∧ h0.size ≤ b ∧ Arv Z h b kb .byte (2 : Int32) [(.int (bOf d0)), (.int (bOf d1))] (.int (0 : Int32))) ∧ Fr n0 L ∧ Keep h0 h []
set_option maxRecDepth 65536 in
set_option maxHeartbeats 40000000 in
theorem rmCp2 (l : Launch) (Z : State) (a0 : Array Value) (hw : ∀ d ∈ tables_1, d.before a0 Z = true) (ws : List Jvm.Cond) (ca : Addr) (kc : ClassId) (d0 : Int32) (d1 : Int32) (h0 : Heap) (n0 : Nat) (Z0 : n0 ≤ h0.size) (P0 : Arv Z h0 ca kc .char (2 : Int32) [(.int d0), (.int d1)] (.int (0 : Int32))) (r_d0 : R8 d0) (r_d1 : R8 d1) :
    MetFree l (⟨"java/lang/StringUTF16", "compress", "([CII)[B"⟩ : MethodName) (head1 (Jvm.Cond.code (⟨"java/lang/StringUTF16", "compress", "([CII)[B"⟩ : MethodName) jdk_52_method_16_code 6 (some (.array .byte)) :: ws) ({ frames := 1, cells := 1, slots := 2, locals := 18 } : Room)) (fun a U => a = #[(.ref ca), (.int (0 : Int32)), (.int (2 : Int32))] ∧ Z.Warmed39 U.vm ∧ U.heap = h0) (fun _ _ _ _ _ => True) (fun _ U o U' => ∃ v L, o = .returned v ∧ Q_rmCp2 Z ca kc d0 d1 h0 n0 v U'.heap L ∧ FrameEnd U o U' L ({ frames := 1, cells := 1, slots := 2, locals := 18 } : Room).cells ({ frames := 1, cells := 1, slots := 2, locals := 18 } : Room).slots) := by
  refine MetFree.of_bodySF (plainFor_of_name pn_java_lang_StringUTF16) hisR ?_
  intro p e s m args below meth c s₁ Bd hml0 hP hK
  obtain ⟨rfl, hZ, hh⟩ := hP
  have hx := Bd.exec
  have hby := Bd.bytes
  have hml : c.maxLocals = 6 := hml0
  have hown : s.vm.findClass "java/lang/StringUTF16" = some m.cls := findClass_of_methodNamed Bd.named
  have hnm := (name_of_methodNamed Bd.named Bd.method).1
  have X0 : Stand p l e ({ frames := 1, cells := 1, slots := 2, locals := 18 } : Room) s m #[(.ref ca), (.int (0 : Int32)), (.int (2 : Int32))] below meth c s₁ [] 0 0 := Stand.of_body Bd
  have e0 : s₁.heap = h0 := by rw [← hh, Bd.state]; rfl
  have N0 := Fr.nil n0
  suffices hR : ∀ P : State → Prop, (∀ s₂ o v L, s₂.status = .running → Ended s₂ below o → o = .returned v → Q_rmCp2 Z ca kc d0 d1 h0 n0 v s₂.heap L → FrameEnd s o s₂ L ({ frames := 1, cells := 1, slots := 2, locals := 18 } : Room).cells ({ frames := 1, cells := 1, slots := 2, locals := 18 } : Room).slots → P s₂) → Rch p.tables e below P (s₁.setTop (mkF m 0 #[.val (.ref ca), .val (.int (0 : Int32)), .val (.int (2 : Int32)), .unset, .unset, .unset] [])) by
    obtain ⟨s₂, h1, o, h2⟩ := hR (fun s₂ => ∃ o, s₂.status = .running ∧ Ended s₂ below o ∧ ∃ v L, o = .returned v ∧ Q_rmCp2 Z ca kc d0 d1 h0 n0 v s₂.heap L ∧ FrameEnd s o s₂ L ({ frames := 1, cells := 1, slots := 2, locals := 18 } : Room).cells ({ frames := 1, cells := 1, slots := 2, locals := 18 } : Room).slots) (fun s₂ o v L q1 q2 q3 q4 q5 => ⟨o, q1, q2, v, L, q3, q4, q5⟩)
    exact ⟨s₂, o, castTop (ef_rmCp2 m ca) h1, h2⟩
  intro P hPd
  refine Rch.go (fun zt zk => XS.iloadN X0.here hx rfl (hb hby d13_0) rfl zk) ?_
  obtain ⟨T101, h101, k101, X101, e101, E101, A101, st101⟩ := newP X0 hx hZ (aty := .byte) (ow23 hw) e0 (g := (mkF m 1 #[.val (.ref ca), .val (.int (0 : Int32)), .val (.int (2 : Int32)), .unset, .unset, .unset] [(.int (2 : Int32))])) rfl (hb hby d13_1) rfl (by decide) (cap := 2) (by decide) (by decide) (by decide) (by decide)
  obtain ⟨b101, g101⟩ : ∃ z, z = h0.size := ⟨_, rfl⟩
  rw [← g101] at A101 st101
  refine Rch.go st101 ?_
  have ne_ca_b101 : ca ≠ b101 := by have q := P0.lt; rw [g101]; exact Nat.ne_of_lt q
  have ge101 : n0 ≤ b101 := by rw [g101]; exact Z0
  have gk101 : h0.size ≤ b101 := by rw [g101]; exact (Keep.refl h0 []).1
  have K101 := (Keep.refl h0 []).ext E101
  have V101 : Arv Z h101 b101 k101 .byte (2 : Int32) [(.int (0 : Int32)), (.int (0 : Int32))] (.int (0 : Int32)) := (Arv.new A101 (by decide)).pad (pad_rep [] (.int (0 : Int32)) 2)
  refine Rch.go (fun zt zk => XS.astoreN X101.here hx rfl (hb hby d13_3) rfl rfl (l' := #[.val (.ref ca), .val (.int (0 : Int32)), .val (.int (2 : Int32)), .val (.ref b101), .unset, .unset]) rfl zk) ?_
  refine Rch.go (fun zt zk => XS.aloadN X101.here hx rfl (hb hby d13_4) rfl rfl zk) ?_
  show Rch _ _ _ _ (T101.setTop (mkF m 5 #[.val (.ref ca), .val (.int (0 : Int32)), .val (.int (2 : Int32)), .val (.ref b101), .unset, .unset] [(.ref ca)]))
  refine Rch.go (fun zt zk => XS.iloadN X101.here hx rfl (hb hby d13_5) rfl zk) ?_
  refine Rch.go (fun zt zk => XS.aloadN X101.here hx rfl (hb hby d13_6) rfl rfl zk) ?_
  refine Rch.go (fun zt zk => XS.iconst X101.here hx rfl (hb hby d13_7) zk) ?_
  refine Rch.go (fun zt zk => XS.iloadN X101.here hx rfl (hb hby d13_8) rfl zk) ?_
  show Rch _ _ _ _ (T101.setTop (mkF m 9 #[.val (.ref ca), .val (.int (0 : Int32)), .val (.int (2 : Int32)), .val (.ref b101), .unset, .unset] [(.int (2 : Int32)), (.int (0 : Int32)), (.ref b101), (.int (0 : Int32)), (.ref ca)]))
  have f103 := (P0.ext E101)
  have f104 := (Nat.le_trans Z0 E101.1)
  obtain ⟨_, _, ⟨T102, L102, k102, n102⟩, -, X102, ⟨Lc102, hQ102, l102, y102, z102⟩, st102⟩ := Jvm.LawKit.callS X101 hx (y := (⟨"java/lang/StringUTF16", "compress", "([CI[BII)I"⟩ : MethodName)) hown (mvT hZ (ow67 hw)) (mvT hZ (ow68 hw)) (mvT hZ (ow65 hw)) (mvT hZ (ow69 hw)) (by decide) (backOf (W := 0) (rmCpL2 l Z a0 hw [] (ca) (b101) (kc) (k101) (d0) (d1) h101 n0 f104 (f103) (V101) (ne_ca_b101) (ge101) (r_d0) (r_d1)) hZ (ow69 hw) (ow65 hw) (by decide) (by decide)) (g := (mkF m 9 #[.val (.ref ca), .val (.int (0 : Int32)), .val (.int (2 : Int32)), .val (.ref b101), .unset, .unset] [(.int (2 : Int32)), (.int (0 : Int32)), (.ref b101), (.int (0 : Int32)), (.ref ca)])) rfl (by rw [hml]; rfl) (argsL := [(.ref ca), (.int (0 : Int32)), (.ref b101), (.int (0 : Int32)), (.int (2 : Int32))]) (rest := []) (lenOf pd___CI_BII_I rfl) rfl (by show 2 * 0 + _ ≤ _; exact Nat.le_of_eq rfl) (hb hby d13_9) (fun _ _ => ⟨rfl, e101, (by decide : 1 + 0 ≤ _), (by decide : 2 + 0 ≤ _)⟩)
  dsimp only [Pt.U, Pt.locs, Pt.cells, Pt.slots] at X102 l102 y102 z102 st102 hQ102
  rw [l102, y102, z102] at X102
  obtain ⟨rfl, N102q, K102q, O102_0⟩ := hQ102
  have N102 := Fr.app N0 N102q
  have K102 := Keep.trans K101 K102q (allS (Or.inr gk101) all0)
  refine Rch.go st102 ?_
  refine Rch.go (fun zt zk => XS.istore X102.here hx rfl (hb hby d13_12) rfl (l' := #[.val (.ref ca), .val (.int (0 : Int32)), .val (.int (2 : Int32)), .val (.ref b101), .val (.int (2 : Int32)), .unset]) rfl zk) ?_
  refine Rch.go (fun zt zk => XS.iload X102.here hx rfl (hb hby d13_14) rfl zk) ?_
  refine Rch.go (fun zt zk => XS.iloadN X102.here hx rfl (hb hby d13_16) rfl zk) ?_
  show Rch _ _ _ _ (T102.setTop (mkF m 17 #[.val (.ref ca), .val (.int (0 : Int32)), .val (.int (2 : Int32)), .val (.ref b101), .val (.int (2 : Int32)), .unset] [(.int (2 : Int32)), (.int (2 : Int32))]))
  refine Rch.go (fun zt zk => XS.icmpYes X102.here hx rfl (pc0 := 17) (pc' := 57) rfl (hb hby d13_17) rfl (teq (by decide : (2 : Int32) = (2 : Int32))).1 (by decide) (by decide) zk) ?_
  refine Rch.go (fun zt zk => XS.aloadN X102.here hx rfl (hb hby d13_57) rfl rfl zk) ?_
  obtain ⟨fs, hr, hrun, hended, hW, hsame⟩ := X102.leave (v := some (.ref b101)) (fun h => by rw [Bd.returns] at h; cases h)
  have hend : Steps p.tables e below (T102.setTop (mkF m 58 #[.val (.ref ca), .val (.int (0 : Int32)), .val (.int (2 : Int32)), .val (.ref b101), .val (.int (2 : Int32)), .unset] [(.ref b101)])) (T102.setFrames fs) := by
    jvm_step X102.here [X102.here.top, hx, (hb hby d13_58), X102.method', Bd.returns, Value.isRef, FieldType.isReference]
    first | (intro acts; rw [hr _ acts rfl rfl rfl]) | rw [hr _ _ rfl rfl rfl]
    exact Steps.refl _
  refine Rch.mk (hend) (hPd _ _ _ _ hrun hended rfl ?_ ⟨⟨_, rfl⟩, hW, hsame.mono (by decide) (by decide)⟩)
  show Q_rmCp2 Z ca kc d0 d1 h0 n0 _ T102.heap _
  exact ⟨⟨b101, _, rfl, ge101, gk101, O102_0⟩, N102, K102⟩
theorem ef_rmCi2 (m : MethodId) (a1 : Addr) (ca : Addr) : entryFrame m #[(.ref a1), (.ref ca), (.int (0 : Int32)), (.int (2 : Int32)), .null] 6 = mkF m 0 #[.val (.ref a1), .val (.ref ca), .val (.int (0 : Int32)), .val (.int (2 : Int32)), .val .null, .unset] [] := by first | (simp [entryFrame, mkF, argsToLocals, Value.category]; done) | rfl
def Q_rmCi2 (Z : State) (a1 : Addr) (ca : Addr) (kc : ClassId) (cz : Int32) (d0 : Int32) (d1 : Int32) (h0 : Heap) (n0 : Nat) (v : Option Value) (h : Heap) (L : List Loc) : Prop := v = none ∧ Fr n0 L ∧ Keep h0 h [a1] ∧ Exa Z h a1 "java/lang/String" ∧ Fld Z h a1 "java/lang/String" "coder" "B" (.int (nar .byte (0 : Int32))) ∧ ∃ (b : Addr) (kb : ClassId), n0 ≤ b ∧ h0.size ≤ b ∧ Fld Z h a1 "java/lang/String" "value" "[B" (.ref b) ∧ Arv Z h b kb .byte (2 : Int32) [(.int (bOf d0)), (.int (bOf d1))] (.int (0 : Int32))
set_option maxRecDepth 65536 in
set_option maxHeartbeats 40000000 in
theorem rmCi2 (l : Launch) (Z : State) (a0 : Array Value) (hw : ∀ d ∈ tables_1, d.before a0 Z = true) (ws : List Jvm.Cond) (a1 : Addr) (ca : Addr) (kc : ClassId) (cz : Int32) (d0 : Int32) (d1 : Int32) (h0 : Heap) (n0 : Nat) (Z0 : n0 ≤ h0.size) (P0 : Exa Z h0 a1 "java/lang/String") (P1 : Fld Z h0 a1 "java/lang/String" "value" "[B" .null) (P2 : Fld Z h0 a1 "java/lang/String" "coder" "B" (.int (0 : Int32))) (P3 : Arv Z h0 ca kc .char (2 : Int32) [(.int d0), (.int d1)] (.int (0 : Int32))) (P4 : Old Z n0 h0) (P5 : Sta Z Z.heap "java/lang/String" "COMPACT_STRINGS" "Z" (.int cz)) (Pn0 : ca ≠ a1) (Pg_a1 : n0 ≤ a1) (r_d0 : R8 d0) (r_d1 : R8 d1) (hcz : ¬ (cz = (0 : Int32))) :
    MetFree l (⟨"java/lang/String", "<init>", "([CIILjava/lang/Void;)V"⟩ : MethodName) (head1 (Jvm.Cond.code (⟨"java/lang/String", "<init>", "([CIILjava/lang/Void;)V"⟩ : MethodName) jdk_42_method_149_code 6 none :: ws) ({ frames := 2, cells := 1, slots := 2, locals := 35 } : Room)) (fun a U => a = #[(.ref a1), (.ref ca), (.int (0 : Int32)), (.int (2 : Int32)), .null] ∧ Z.Warmed39 U.vm ∧ U.heap = h0) (fun _ _ _ _ _ => True) (fun _ U o U' => ∃ v L, o = .returned v ∧ Q_rmCi2 Z a1 ca kc cz d0 d1 h0 n0 v U'.heap L ∧ FrameEnd U o U' L ({ frames := 2, cells := 1, slots := 2, locals := 35 } : Room).cells ({ frames := 2, cells := 1, slots := 2, locals := 35 } : Room).slots) := by
  refine MetFree.of_bodySF (plainFor_of_name pn_java_lang_String) hisR ?_
  intro p e s m args below meth c s₁ Bd hml0 hP hK
  obtain ⟨rfl, hZ, hh⟩ := hP
  have hx := Bd.exec
  have hby := Bd.bytes
  have hml : c.maxLocals = 6 := hml0
  have hown : s.vm.findClass "java/lang/String" = some m.cls := findClass_of_methodNamed Bd.named
  have hnm := (name_of_methodNamed Bd.named Bd.method).1
  have X0 : Stand p l e ({ frames := 2, cells := 1, slots := 2, locals := 35 } : Room) s m #[(.ref a1), (.ref ca), (.int (0 : Int32)), (.int (2 : Int32)), .null] below meth c s₁ [] 0 0 := Stand.of_body Bd
  have e0 : s₁.heap = h0 := by rw [← hh, Bd.state]; rfl
  have N0 := Fr.nil n0
  suffices hR : ∀ P : State → Prop, (∀ s₂ o v L, s₂.status = .running → Ended s₂ below o → o = .returned v → Q_rmCi2 Z a1 ca kc cz d0 d1 h0 n0 v s₂.heap L → FrameEnd s o s₂ L ({ frames := 2, cells := 1, slots := 2, locals := 35 } : Room).cells ({ frames := 2, cells := 1, slots := 2, locals := 35 } : Room).slots → P s₂) → Rch p.tables e below P (s₁.setTop (mkF m 0 #[.val (.ref a1), .val (.ref ca), .val (.int (0 : Int32)), .val (.int (2 : Int32)), .val .null, .unset] [])) by
    obtain ⟨s₂, h1, o, h2⟩ := hR (fun s₂ => ∃ o, s₂.status = .running ∧ Ended s₂ below o ∧ ∃ v L, o = .returned v ∧ Q_rmCi2 Z a1 ca kc cz d0 d1 h0 n0 v s₂.heap L ∧ FrameEnd s o s₂ L ({ frames := 2, cells := 1, slots := 2, locals := 35 } : Room).cells ({ frames := 2, cells := 1, slots := 2, locals := 35 } : Room).slots) (fun s₂ o v L q1 q2 q3 q4 q5 => ⟨o, q1, q2, v, L, q3, q4, q5⟩)
    exact ⟨s₂, o, castTop (ef_rmCi2 m a1 ca) h1, h2⟩
  intro P hPd
  refine Rch.go (fun zt zk => XS.aloadN X0.here hx rfl (hb hby d4_0) rfl rfl zk) ?_
  obtain ⟨T101, X101, e101, st101⟩ := initO X0 hx hZ hown (ow19 hw) (ow20 hw) (ow21 hw) e0 (g := (mkF m 1 #[.val (.ref a1), .val (.ref ca), .val (.int (0 : Int32)), .val (.int (2 : Int32)), .val .null, .unset] [(.ref a1)])) rfl (by rw [hml]; rfl) rfl (hb hby d4_1) (by decide) (W := 0) (by show 2 * 0 + _ ≤ _; exact Nat.le_of_eq rfl) (by decide)
  refine Rch.go st101 ?_
  refine Rch.go (fun zt zk => XS.iloadN X101.here hx rfl (hb hby d4_4) rfl zk) ?_
  refine Rch.go (fun zt zk => XS.ifYes X101.here hx rfl (pc0 := 5) (pc' := 27) rfl (hb hby d4_5) rfl ((if0 _ _).trans (feq (by decide : ¬ ((2 : Int32) = (0 : Int32)))).2) (by decide) (by decide) zk) ?_
  show Rch _ _ _ _ (T101.setTop (mkF m 27 #[.val (.ref a1), .val (.ref ca), .val (.int (0 : Int32)), .val (.int (2 : Int32)), .val .null, .unset] []))
  have f102 := P5.ext P4.2
  obtain ⟨T103, X103, e103, st103⟩ := getS2 X101 hx hZ hown (host := "") (Or.inl (ow44 hw)) Via.refl e101 f102 (g := (mkF m 27 #[.val (.ref a1), .val (.ref ca), .val (.int (0 : Int32)), .val (.int (2 : Int32)), .val .null, .unset] [])) rfl (hb hby d4_27)
  refine Rch.go st103 ?_
  refine Rch.go (fun zt zk => XS.ifNo X103.here hx rfl (hb hby d4_30) rfl ((if0 _ _).trans (feq (hcz : ¬ (cz = (0 : Int32)))).1) zk) ?_
  refine Rch.go (fun zt zk => XS.aloadN X103.here hx rfl (hb hby d4_33) rfl rfl zk) ?_
  refine Rch.go (fun zt zk => XS.iloadN X103.here hx rfl (hb hby d4_34) rfl zk) ?_
  show Rch _ _ _ _ (T103.setTop (mkF m 35 #[.val (.ref a1), .val (.ref ca), .val (.int (0 : Int32)), .val (.int (2 : Int32)), .val .null, .unset] [(.int (0 : Int32)), (.ref ca)]))
  refine Rch.go (fun zt zk => XS.iloadN X103.here hx rfl (hb hby d4_35) rfl zk) ?_
  obtain ⟨_, _, ⟨T104, L104, k104, n104⟩, -, X104, ⟨Lc104, hQ104, l104, y104, z104⟩, st104⟩ := Jvm.LawKit.callS X103 hx (y := (⟨"java/lang/StringUTF16", "compress", "([CII)[B"⟩ : MethodName)) hown (mvT hZ (ow63 hw)) (mvT hZ (ow64 hw)) (mvT hZ (ow65 hw)) (mvT hZ (ow66 hw)) (by decide) (backOf (W := 0) (rmCp2 l Z a0 hw [] (ca) (kc) (d0) (d1) h0 n0 Z0 (P3) (r_d0) (r_d1)) hZ (ow66 hw) (ow65 hw) (by decide) (by decide)) (g := (mkF m 36 #[.val (.ref a1), .val (.ref ca), .val (.int (0 : Int32)), .val (.int (2 : Int32)), .val .null, .unset] [(.int (2 : Int32)), (.int (0 : Int32)), (.ref ca)])) rfl (by rw [hml]; rfl) (argsL := [(.ref ca), (.int (0 : Int32)), (.int (2 : Int32))]) (rest := []) (lenOf pd___CII__B rfl) rfl (by show 2 * 0 + _ ≤ _; exact Nat.le_of_eq rfl) (hb hby d4_36) (fun _ _ => ⟨rfl, e103, (by decide : 0 + 1 ≤ _), (by decide : 0 + 2 ≤ _)⟩)
  dsimp only [Pt.U, Pt.locs, Pt.cells, Pt.slots] at X104 l104 y104 z104 st104 hQ104
  rw [l104, y104, z104] at X104
  obtain ⟨⟨b104, kb104, rfl, gb104, gh104, V104⟩, N104q, K104q⟩ := hQ104
  have N104 := Fr.app N0 N104q
  have ne_a1_b104 : a1 ≠ b104 := Nat.ne_of_lt (Nat.lt_of_lt_of_le P0.lt gh104)
  have ne_ca_b104 : ca ≠ b104 := Nat.ne_of_lt (Nat.lt_of_lt_of_le P3.lt gh104)
  have gk104 : h0.size ≤ b104 := Nat.le_trans (Keep.refl h0 [a1]).1 gh104
  have K104 := Keep.trans (Keep.refl h0 [a1]) K104q all0
  refine Rch.go st104 ?_
  refine Rch.go (fun zt zk => XS.astore X104.here hx rfl (hb hby d4_39) rfl rfl (l' := #[.val (.ref a1), .val (.ref ca), .val (.int (0 : Int32)), .val (.int (2 : Int32)), .val .null, .val (.ref b104)]) rfl zk) ?_
  refine Rch.go (fun zt zk => XS.aloadN X104.here hx rfl (hb hby d4_41) rfl rfl zk) ?_
  show Rch _ _ _ _ (T104.setTop (mkF m 42 #[.val (.ref a1), .val (.ref ca), .val (.int (0 : Int32)), .val (.int (2 : Int32)), .val .null, .val (.ref b104)] [(.ref a1)]))
  refine Rch.go (fun zt zk => XS.aload X104.here hx rfl (hb hby d4_42) rfl rfl zk) ?_
  refine Rch.go (fun zt zk => XS.iloadN X104.here hx rfl (hb hby d4_44) rfl zk) ?_
  have f106 := (Nat.le_trans Z0 K104q.1)
  obtain ⟨_, _, ⟨T105, L105, k105, n105⟩, -, X105, ⟨Lc105, hQ105, l105, y105, z105⟩, st105⟩ := Jvm.LawKit.callS X104 hx (y := (⟨"java/lang/StringUTF16", "coderFromArrayLen", "([BI)B"⟩ : MethodName)) hown (mvT hZ (ow70 hw)) (mvT hZ (ow71 hw)) (mvT hZ (ow65 hw)) (mvT hZ (ow72 hw)) (by decide) (backOf (W := 1) (rm15 l Z a0 hw [] (b104) ((2 : Int32)) (kb104) ((2 : Int32)) ([(.int (bOf d0)), (.int (bOf d1))]) T104.heap n0 f106 (V104)) hZ (ow72 hw) (ow65 hw) (by decide) (by decide)) (g := (mkF m 45 #[.val (.ref a1), .val (.ref ca), .val (.int (0 : Int32)), .val (.int (2 : Int32)), .val .null, .val (.ref b104)] [(.int (2 : Int32)), (.ref b104), (.ref a1)])) rfl (by rw [hml]; rfl) (argsL := [(.ref b104), (.int (2 : Int32))]) (rest := [(.ref a1)]) (lenOf pd___BI_B rfl) rfl (by show 2 * 0 + _ ≤ _; exact Nat.le_of_eq rfl) (hb hby d4_45) (fun _ _ => ⟨rfl, rfl, (by decide : 1 + 0 ≤ _), (by decide : 2 + 0 ≤ _)⟩)
  dsimp only [Pt.U, Pt.locs, Pt.cells, Pt.slots] at X105 l105 y105 z105 st105 hQ105
  rw [l105, y105, z105] at X105
  obtain ⟨rfl, N105q, eq105⟩ := hQ105
  have N105 := Fr.app N104 N105q
  refine Rch.go st105 ?_
  have hcd : (nar .byte (((((2 : Int32) - (2 : Int32)).toUInt32 >>> ((31 : Int32) &&& 31).toUInt32).toInt32).toInt8.toInt32)) = (0 : Int32) := by decide
  rw [hcd]
  show Rch _ _ _ _ (T105.setTop (mkF m 48 #[.val (.ref a1), .val (.ref ca), .val (.int (0 : Int32)), .val (.int (2 : Int32)), .val .null, .val (.ref b104)] [(.int (0 : Int32)), (.ref a1)]))
  have f107 := (P0.keep K104q)
  have f108 := (P2.keep K104q nin0)
  obtain ⟨T109, h109, X109, e109, W109, st109⟩ := putFN X105 hx hZ hown (ow29 hw) Via.refl eq105 f108 f107 (Or.inr ⟨(ow25 hw), rfl, hnm⟩) (ow10 hw) (ty := .byte) (v' := (.int (nar .byte (0 : Int32)))) (by decide) rfl (fits_nar_byte _) (g := (mkF m 48 #[.val (.ref a1), .val (.ref ca), .val (.int (0 : Int32)), .val (.int (2 : Int32)), .val .null, .val (.ref b104)] [(.int (0 : Int32)), (.ref a1)])) rfl rfl (hb hby d4_48)
  refine Rch.go st109 ?_
  have Fw109 := f108.same W109
  have N109 := Fr.snoc X109 N105 Pg_a1
  have K109 : Keep h0 h109 [a1] := Keep.wr K104 W109 (Or.inl (List.mem_of_getElem? (i := 0) rfl))
  refine Rch.go (fun zt zk => XS.aloadN X109.here hx rfl (hb hby d4_51) rfl rfl zk) ?_
  refine Rch.go (fun zt zk => XS.aload X109.here hx rfl (hb hby d4_52) rfl rfl zk) ?_
  have f110 := (f107.wr W109)
  have f111 := ((P1.keep K104q nin0).other W109 (Or.inr (slot_ne (Or.inr (ow24 hw)) (Or.inr (ow25 hw)) (by decide) (t := (.array .byte)) (t' := .byte) (by decide) (by decide))))
  obtain ⟨T112, h112, X112, e112, W112, st112⟩ := putF X109 hx hZ hown (host := "") (Or.inl (ow28 hw)) Via.refl e109 f111 f110 (Or.inr ⟨(ow24 hw), rfl, hnm⟩) (ow10 hw) (ty := (.array .byte)) (by decide) rfl rfl (g := (mkF m 54 #[.val (.ref a1), .val (.ref ca), .val (.int (0 : Int32)), .val (.int (2 : Int32)), .val .null, .val (.ref b104)] [(.ref b104), (.ref a1)])) rfl rfl (hb hby d4_54)
  refine Rch.go st112 ?_
  have Fw112 := f111.same W112
  have N112 := Fr.snoc X112 N109 Pg_a1
  have K112 : Keep h0 h112 [a1] := Keep.wr K109 W112 (Or.inl (List.mem_of_getElem? (i := 0) rfl))
  show Rch _ _ _ _ (T112.setTop (mkF m 57 #[.val (.ref a1), .val (.ref ca), .val (.int (0 : Int32)), .val (.int (2 : Int32)), .val .null, .val (.ref b104)] []))
  obtain ⟨fs, hr, hrun, hended, hW, hsame⟩ := X112.leave (v := none) (fun _ => rfl)
  refine Rch.mk (X112.returnOut hx Bd.returns (hb hby d4_57) hr) (hPd _ _ _ _ hrun hended rfl ?_ ⟨⟨_, rfl⟩, hW, hsame.mono (by decide) (by decide)⟩)
  show Q_rmCi2 Z a1 ca kc cz d0 d1 h0 n0 _ T112.heap _
  rw [e112]
  have f113 := (f110.wr W112)
  have f114 := (Fw109.other W112 (Or.inr (slot_ne (Or.inr (ow25 hw)) (Or.inr (ow24 hw)) (by decide) (t := .byte) (t' := (.array .byte)) (by decide) (by decide))))
  have f115 := ((V104.other W109 (Ne.symm ne_a1_b104)).other W112 (Ne.symm ne_a1_b104))
  exact ⟨rfl, N112, K112, f113, f114, b104, _, gb104, gk104, Fw112, f115⟩
theorem ef_rmC2 (m : MethodId) (a1 : Addr) (ca : Addr) : entryFrame m #[(.ref a1), (.ref ca)] 2 = mkF m 0 #[.val (.ref a1), .val (.ref ca)] [] := by first | (simp [entryFrame, mkF, argsToLocals, Value.category]; done) | rfl
def Q_rmC2 (Z : State) (a1 : Addr) (ca : Addr) (kc : ClassId) (cz : Int32) (d0 : Int32) (d1 : Int32) (h0 : Heap) (n0 : Nat) (v : Option Value) (h : Heap) (L : List Loc) : Prop := v = none ∧ Fr n0 L ∧ Keep h0 h [a1] ∧ Exa Z h a1 "java/lang/String" ∧ Fld Z h a1 "java/lang/String" "coder" "B" (.int (nar .byte (0 : Int32))) ∧ ∃ (b : Addr) (kb : ClassId), n0 ≤ b ∧ h0.size ≤ b ∧ Fld Z h a1 "java/lang/String" "value" "[B" (.ref b) ∧ Arv Z h b kb .byte (2 : Int32) [(.int (bOf d0)), (.int (bOf d1))] (.int (0 : Int32))
set_option maxRecDepth 65536 in
set_option maxHeartbeats 40000000 in
theorem rmC2 (l : Launch) (Z : State) (a0 : Array Value) (hw : ∀ d ∈ tables_1, d.before a0 Z = true) (ws : List Jvm.Cond) (a1 : Addr) (ca : Addr) (kc : ClassId) (cz : Int32) (d0 : Int32) (d1 : Int32) (h0 : Heap) (n0 : Nat) (Z0 : n0 ≤ h0.size) (P0 : Exa Z h0 a1 "java/lang/String") (P1 : Fld Z h0 a1 "java/lang/String" "value" "[B" .null) (P2 : Fld Z h0 a1 "java/lang/String" "coder" "B" (.int (0 : Int32))) (P3 : Arv Z h0 ca kc .char (2 : Int32) [(.int d0), (.int d1)] (.int (0 : Int32))) (P4 : Old Z n0 h0) (P5 : Sta Z Z.heap "java/lang/String" "COMPACT_STRINGS" "Z" (.int cz)) (Pn0 : ca ≠ a1) (Pg_a1 : n0 ≤ a1) (r_d0 : R8 d0) (r_d1 : R8 d1) (hcz : ¬ (cz = (0 : Int32))) :
    MetFree l (⟨"java/lang/String", "<init>", "([C)V"⟩ : MethodName) (head1 (Jvm.Cond.code (⟨"java/lang/String", "<init>", "([C)V"⟩ : MethodName) jdk_42_method_3_code 2 none :: ws) ({ frames := 3, cells := 1, slots := 2, locals := 52 } : Room)) (fun a U => a = #[(.ref a1), (.ref ca)] ∧ Z.Warmed39 U.vm ∧ U.heap = h0) (fun _ _ _ _ _ => True) (fun _ U o U' => ∃ v L, o = .returned v ∧ Q_rmC2 Z a1 ca kc cz d0 d1 h0 n0 v U'.heap L ∧ FrameEnd U o U' L ({ frames := 3, cells := 1, slots := 2, locals := 52 } : Room).cells ({ frames := 3, cells := 1, slots := 2, locals := 52 } : Room).slots) := by
  refine MetFree.of_bodySF (plainFor_of_name pn_java_lang_String) hisR ?_
  intro p e s m args below meth c s₁ Bd hml0 hP hK
  obtain ⟨rfl, hZ, hh⟩ := hP
  have hx := Bd.exec
  have hby := Bd.bytes
  have hml : c.maxLocals = 2 := hml0
  have hown : s.vm.findClass "java/lang/String" = some m.cls := findClass_of_methodNamed Bd.named
  have hnm := (name_of_methodNamed Bd.named Bd.method).1
  have X0 : Stand p l e ({ frames := 3, cells := 1, slots := 2, locals := 52 } : Room) s m #[(.ref a1), (.ref ca)] below meth c s₁ [] 0 0 := Stand.of_body Bd
  have e0 : s₁.heap = h0 := by rw [← hh, Bd.state]; rfl
  have N0 := Fr.nil n0
  suffices hR : ∀ P : State → Prop, (∀ s₂ o v L, s₂.status = .running → Ended s₂ below o → o = .returned v → Q_rmC2 Z a1 ca kc cz d0 d1 h0 n0 v s₂.heap L → FrameEnd s o s₂ L ({ frames := 3, cells := 1, slots := 2, locals := 52 } : Room).cells ({ frames := 3, cells := 1, slots := 2, locals := 52 } : Room).slots → P s₂) → Rch p.tables e below P (s₁.setTop (mkF m 0 #[.val (.ref a1), .val (.ref ca)] [])) by
    obtain ⟨s₂, h1, o, h2⟩ := hR (fun s₂ => ∃ o, s₂.status = .running ∧ Ended s₂ below o ∧ ∃ v L, o = .returned v ∧ Q_rmC2 Z a1 ca kc cz d0 d1 h0 n0 v s₂.heap L ∧ FrameEnd s o s₂ L ({ frames := 3, cells := 1, slots := 2, locals := 52 } : Room).cells ({ frames := 3, cells := 1, slots := 2, locals := 52 } : Room).slots) (fun s₂ o v L q1 q2 q3 q4 q5 => ⟨o, q1, q2, v, L, q3, q4, q5⟩)
    exact ⟨s₂, o, castTop (ef_rmC2 m a1 ca) h1, h2⟩
  intro P hPd
  refine Rch.go (fun zt zk => XS.aloadN X0.here hx rfl (hb hby d3_0) rfl rfl zk) ?_
  refine Rch.go (fun zt zk => XS.aloadN X0.here hx rfl (hb hby d3_1) rfl rfl zk) ?_
  refine Rch.go (fun zt zk => XS.iconst X0.here hx rfl (hb hby d3_2) zk) ?_
  refine Rch.go (fun zt zk => XS.aloadN X0.here hx rfl (hb hby d3_3) rfl rfl zk) ?_
  show Rch _ _ _ _ (s₁.setTop (mkF m 4 #[.val (.ref a1), .val (.ref ca)] [(.ref ca), (.int (0 : Int32)), (.ref ca), (.ref a1)]))
  obtain ⟨cl101, Ar101, q101, S101, M101, H101, G101⟩ := id P3
  refine Rch.go (X0.arraylength hx (by rw [e0]; exact Ar101.1) (State.isArrayOf_alike hZ.alike Ar101.2.1) (g := (mkF m 4 #[.val (.ref a1), .val (.ref ca)] [(.ref ca), (.int (0 : Int32)), (.ref ca), (.ref a1)])) rfl rfl (hb hby d3_4)) ?_
  rw [len_of S101 M101]
  refine Rch.go (fun zt zk => XS.aconstNull X0.here hx rfl (hb hby d3_5) zk) ?_
  obtain ⟨_, _, ⟨T102, L102, k102, n102⟩, -, X102, ⟨Lc102, hQ102, l102, y102, z102⟩, st102⟩ := X0.specialBack hx (y := (⟨"java/lang/String", "<init>", "([CIILjava/lang/Void;)V"⟩ : MethodName)) rfl hown (mvT hZ (ow15 hw)) (mvT hZ (ow16 hw)) (mvT hZ (ow18 hw)) (by decide) (backOf (W := 0) (rmCi2 l Z a0 hw [] (a1) (ca) (kc) (cz) (d0) (d1) h0 n0 Z0 (P0) (P1) (P2) (P3) (P4) (P5) (Pn0) (Pg_a1) (r_d0) (r_d1) (hcz)) hZ (ow18 hw) (ow11 hw) (by decide) (by decide)) (g := (mkF m 6 #[.val (.ref a1), .val (.ref ca)] [.null, (.int (2 : Int32)), (.int (0 : Int32)), (.ref ca), (.ref a1)])) rfl (by rw [hml]; rfl) (Steps.refl _) (a := a1) (argsL := [(.ref ca), (.int (0 : Int32)), (.int (2 : Int32)), .null]) (rest := []) (lenOf pd___CIILjava_lang_Void__V rfl) rfl (by show 2 * 0 + _ ≤ _; exact Nat.le_of_eq rfl) (hb hby d3_6) (fun _ _ => ⟨rfl, e0, (by decide : 0 + 1 ≤ _), (by decide : 0 + 2 ≤ _)⟩)
  dsimp only [Pt.U, Pt.locs, Pt.cells, Pt.slots] at X102 l102 y102 z102 st102 hQ102
  rw [l102, y102, z102] at X102
  obtain ⟨rfl, N102q, K102q, E102, C102, b102, kb102, gb102, gh102, U102, V102⟩ := hQ102
  have N102 := Fr.app N0 N102q
  have ne_a1_b102 : a1 ≠ b102 := Nat.ne_of_lt (Nat.lt_of_lt_of_le P0.lt gh102)
  have ne_ca_b102 : ca ≠ b102 := Nat.ne_of_lt (Nat.lt_of_lt_of_le P3.lt gh102)
  have gk102 : h0.size ≤ b102 := Nat.le_trans (Keep.refl h0 [a1]).1 gh102
  have K102 := Keep.trans (Keep.refl h0 [a1]) K102q (allS (Or.inl (List.mem_of_getElem? (i := 0) rfl)) all0)
  refine Rch.go (fun zt zk => st102.trans zk) ?_
  obtain ⟨fs, hr, hrun, hended, hW, hsame⟩ := X102.leave (v := none) (fun _ => rfl)
  refine Rch.mk (X102.returnOut hx Bd.returns (hb hby d3_9) hr) (hPd _ _ _ _ hrun hended rfl ?_ ⟨⟨_, rfl⟩, hW, hsame.mono (by decide) (by decide)⟩)
  show Q_rmC2 Z a1 ca kc cz d0 d1 h0 n0 _ T102.heap _
  exact ⟨rfl, N102, K102, E102, C102, b102, _, gb102, gk102, U102, V102⟩
theorem ef_rmCpL3 (m : MethodId) (ca : Addr) (bb : Addr) : entryFrame m #[(.ref ca), (.int (0 : Int32)), (.ref bb), (.int (0 : Int32)), (.int (3 : Int32))] 7 = mkF m 0 #[.val (.ref ca), .val (.int (0 : Int32)), .val (.ref bb), .val (.int (0 : Int32)), .val (.int (3 : Int32)), .unset, .unset] [] := by first | (simp [entryFrame, mkF, argsToLocals, Value.category]; done) | rfl
def Q_rmCpL3 (Z : State) (ca : Addr) (bb : Addr) (kc : ClassId) (kb : ClassId) (d0 : Int32) (d1 : Int32) (d2 : Int32) (h0 : Heap) (n0 : Nat) (v : Option Value) (h : Heap) (L : List Loc) : Prop := v = some (.int (3 : Int32)) ∧ Fr n0 L ∧ Keep h0 h [bb] ∧ Arv Z h bb kb .byte (3 : Int32) [(.int (bOf d0)), (.int (bOf d1)), (.int (bOf d2))] (.int (0 : Int32))
set_option maxRecDepth 65536 in
set_option maxHeartbeats 40000000 in
theorem rmCpL3 (l : Launch) (Z : State) (a0 : Array Value) (hw : ∀ d ∈ tables_1, d.before a0 Z = true) (ws : List Jvm.Cond) (ca : Addr) (bb : Addr) (kc : ClassId) (kb : ClassId) (d0 : Int32) (d1 : Int32) (d2 : Int32) (h0 : Heap) (n0 : Nat) (Z0 : n0 ≤ h0.size) (P0 : Arv Z h0 ca kc .char (3 : Int32) [(.int d0), (.int d1), (.int d2)] (.int (0 : Int32))) (P1 : Arv Z h0 bb kb .byte (3 : Int32) [(.int (0 : Int32)), (.int (0 : Int32)), (.int (0 : Int32))] (.int (0 : Int32))) (Pn0 : ca ≠ bb) (Pg_bb : n0 ≤ bb) (r_d0 : R8 d0) (r_d1 : R8 d1) (r_d2 : R8 d2) :
    MetFree l (⟨"java/lang/StringUTF16", "compress", "([CI[BII)I"⟩ : MethodName) (head1 (Jvm.Cond.code (⟨"java/lang/StringUTF16", "compress", "([CI[BII)I"⟩ : MethodName) jdk_52_method_21_code 7 (some .int) :: ws) ({ frames := 0, cells := 0, slots := 0, locals := 0 } : Room)) (fun a U => a = #[(.ref ca), (.int (0 : Int32)), (.ref bb), (.int (0 : Int32)), (.int (3 : Int32))] ∧ Z.Warmed39 U.vm ∧ U.heap = h0) (fun _ _ _ _ _ => True) (fun _ U o U' => ∃ v L, o = .returned v ∧ Q_rmCpL3 Z ca bb kc kb d0 d1 d2 h0 n0 v U'.heap L ∧ FrameEnd U o U' L ({ frames := 0, cells := 0, slots := 0, locals := 0 } : Room).cells ({ frames := 0, cells := 0, slots := 0, locals := 0 } : Room).slots) := by
  refine MetFree.of_bodySF (plainFor_of_name pn_java_lang_StringUTF16) hisR ?_
  intro p e s m args below meth c s₁ Bd hml0 hP hK
  obtain ⟨rfl, hZ, hh⟩ := hP
  have hx := Bd.exec
  have hby := Bd.bytes
  have hml : c.maxLocals = 7 := hml0
  have hown : s.vm.findClass "java/lang/StringUTF16" = some m.cls := findClass_of_methodNamed Bd.named
  have hnm := (name_of_methodNamed Bd.named Bd.method).1
  have X0 : Stand p l e ({ frames := 0, cells := 0, slots := 0, locals := 0 } : Room) s m #[(.ref ca), (.int (0 : Int32)), (.ref bb), (.int (0 : Int32)), (.int (3 : Int32))] below meth c s₁ [] 0 0 := Stand.of_body Bd
  have e0 : s₁.heap = h0 := by rw [← hh, Bd.state]; rfl
  have N0 := Fr.nil n0
  suffices hR : ∀ P : State → Prop, (∀ s₂ o v L, s₂.status = .running → Ended s₂ below o → o = .returned v → Q_rmCpL3 Z ca bb kc kb d0 d1 d2 h0 n0 v s₂.heap L → FrameEnd s o s₂ L ({ frames := 0, cells := 0, slots := 0, locals := 0 } : Room).cells ({ frames := 0, cells := 0, slots := 0, locals := 0 } : Room).slots → P s₂) → Rch p.tables e below P (s₁.setTop (mkF m 0 #[.val (.ref ca), .val (.int (0 : Int32)), .val (.ref bb), .val (.int (0 : Int32)), .val (.int (3 : Int32)), .unset, .unset] [])) by
    obtain ⟨s₂, h1, o, h2⟩ := hR (fun s₂ => ∃ o, s₂.status = .running ∧ Ended s₂ below o ∧ ∃ v L, o = .returned v ∧ Q_rmCpL3 Z ca bb kc kb d0 d1 d2 h0 n0 v s₂.heap L ∧ FrameEnd s o s₂ L ({ frames := 0, cells := 0, slots := 0, locals := 0 } : Room).cells ({ frames := 0, cells := 0, slots := 0, locals := 0 } : Room).slots) (fun s₂ o v L q1 q2 q3 q4 q5 => ⟨o, q1, q2, v, L, q3, q4, q5⟩)
    exact ⟨s₂, o, castTop (ef_rmCpL3 m ca bb) h1, h2⟩
  intro P hPd
  refine Rch.go (fun zt zk => XS.iconst X0.here hx rfl (hb hby d14_0) zk) ?_
  refine Rch.go (fun zt zk => XS.istore X0.here hx rfl (hb hby d14_1) rfl (l' := #[.val (.ref ca), .val (.int (0 : Int32)), .val (.ref bb), .val (.int (0 : Int32)), .val (.int (3 : Int32)), .val (.int (0 : Int32)), .unset]) rfl zk) ?_
  refine Rch.go (fun zt zk => XS.iload X0.here hx rfl (hb hby d14_3) rfl zk) ?_
  refine Rch.go (fun zt zk => XS.iload X0.here hx rfl (hb hby d14_5) rfl zk) ?_
  show Rch _ _ _ _ (s₁.setTop (mkF m 7 #[.val (.ref ca), .val (.int (0 : Int32)), .val (.ref bb), .val (.int (0 : Int32)), .val (.int (3 : Int32)), .val (.int (0 : Int32)), .unset] [(.int (3 : Int32)), (.int (0 : Int32))]))
  refine Rch.go (fun zt zk => XS.icmpNo X0.here hx rfl (hb hby d14_7) rfl (tlt (by decide : (0 : Int32) < (3 : Int32))).2.1 zk) ?_
  refine Rch.go (fun zt zk => XS.aloadN X0.here hx rfl (hb hby d14_10) rfl rfl zk) ?_
  refine Rch.go (fun zt zk => XS.iloadN X0.here hx rfl (hb hby d14_11) rfl zk) ?_
  obtain ⟨cl101, Ar101, q101, S101, M101, H101, G101⟩ := id P0
  have hin101 := inb_of (j := (0 : Int32)) S101 ⟨by decide, by decide⟩
  refine Rch.go (X0.caload hx (j := (0 : Int32)) (v := (.int d0)) (by rw [e0]; exact Ar101.1) (State.isArrayOf_alike hZ.alike Ar101.2.1) Ar101.2.2 hin101 (Has.at H101 hin101 rfl) (g := (mkF m 12 #[.val (.ref ca), .val (.int (0 : Int32)), .val (.ref bb), .val (.int (0 : Int32)), .val (.int (3 : Int32)), .val (.int (0 : Int32)), .unset] [(.int (0 : Int32)), (.ref ca)])) rfl rfl (hb hby d14_12)) ?_
  show Rch _ _ _ _ (s₁.setTop (mkF m 13 #[.val (.ref ca), .val (.int (0 : Int32)), .val (.ref bb), .val (.int (0 : Int32)), .val (.int (3 : Int32)), .val (.int (0 : Int32)), .unset] [(.int d0)]))
  refine Rch.go (fun zt zk => XS.istore X0.here hx rfl (hb hby d14_13) rfl (l' := #[.val (.ref ca), .val (.int (0 : Int32)), .val (.ref bb), .val (.int (0 : Int32)), .val (.int (3 : Int32)), .val (.int (0 : Int32)), .val (.int d0)]) rfl zk) ?_
  refine Rch.go (fun zt zk => XS.iload X0.here hx rfl (hb hby d14_15) rfl zk) ?_
  refine Rch.go (fun zt zk => XS.sipush X0.here hx rfl (hb hby d14_17) zk) ?_
  refine Rch.go (fun zt zk => XS.icmpYes X0.here hx rfl (pc0 := 20) (pc' := 26) rfl (hb hby d14_20) rfl (flt (own_le255 r_d0 : ¬ ((255 : Int32) < d0))).2.2.2 (by decide) (by decide) zk) ?_
  show Rch _ _ _ _ (s₁.setTop (mkF m 26 #[.val (.ref ca), .val (.int (0 : Int32)), .val (.ref bb), .val (.int (0 : Int32)), .val (.int (3 : Int32)), .val (.int (0 : Int32)), .val (.int d0)] []))
  refine Rch.go (fun zt zk => XS.aloadN X0.here hx rfl (hb hby d14_26) rfl rfl zk) ?_
  refine Rch.go (fun zt zk => XS.iloadN X0.here hx rfl (hb hby d14_27) rfl zk) ?_
  refine Rch.go (fun zt zk => XS.iload X0.here hx rfl (hb hby d14_28) rfl zk) ?_
  refine Rch.go (fun zt zk => XS.i2b X0.here hx rfl (hb hby d14_30) rfl zk) ?_
  show Rch _ _ _ _ (s₁.setTop (mkF m 31 #[.val (.ref ca), .val (.int (0 : Int32)), .val (.ref bb), .val (.int (0 : Int32)), .val (.int (3 : Int32)), .val (.int (0 : Int32)), .val (.int d0)] [(.int (d0.toInt8.toInt32)), (.int (0 : Int32)), (.ref bb)]))
  obtain ⟨cl102, Ar102, q102, S102, M102, H102, G102⟩ := id P1
  obtain ⟨T102, h102, X102, e102, W102, st102⟩ := stB X0 hx hZ e0 Ar102 (j := (0 : Int32)) (inb_of S102 ⟨by decide, by decide⟩) (g := (mkF m 31 #[.val (.ref ca), .val (.int (0 : Int32)), .val (.ref bb), .val (.int (0 : Int32)), .val (.int (3 : Int32)), .val (.int (0 : Int32)), .val (.int d0)] [(.int (d0.toInt8.toInt32)), (.int (0 : Int32)), (.ref bb)])) rfl rfl (hb hby d14_31)
  refine Rch.go st102 ?_
  have V102 : Arv Z h102 bb kb .byte (3 : Int32) [(.int (nar .byte (d0.toInt8.toInt32))), (.int (0 : Int32)), (.int (0 : Int32))] (.int (0 : Int32)) := Arv.set Ar102 q102 S102 M102 H102 G102 (fits_nar_byte _) W102 0 rfl (Nat.le_of_ble_eq_true rfl)
  have N102 := Fr.snoc X102 N0 Pg_bb
  have K102 : Keep h0 h102 [bb] := Keep.wr (Keep.refl h0 [bb]) W102 (Or.inl (List.mem_of_getElem? (i := 0) rfl))
  refine Rch.go (fun zt zk => XS.iinc X102.here hx rfl (hb hby d14_32) rfl (l' := #[.val (.ref ca), .val (.int (1 : Int32)), .val (.ref bb), .val (.int (0 : Int32)), .val (.int (3 : Int32)), .val (.int (0 : Int32)), .val (.int d0)]) rfl zk) ?_
  refine Rch.go (fun zt zk => XS.iinc X102.here hx rfl (hb hby d14_35) rfl (l' := #[.val (.ref ca), .val (.int (1 : Int32)), .val (.ref bb), .val (.int (1 : Int32)), .val (.int (3 : Int32)), .val (.int (0 : Int32)), .val (.int d0)]) rfl zk) ?_
  refine Rch.go (fun zt zk => XS.iinc X102.here hx rfl (hb hby d14_38) rfl (l' := #[.val (.ref ca), .val (.int (1 : Int32)), .val (.ref bb), .val (.int (1 : Int32)), .val (.int (3 : Int32)), .val (.int (1 : Int32)), .val (.int d0)]) rfl zk) ?_
  show Rch _ _ _ _ (T102.setTop (mkF m 41 #[.val (.ref ca), .val (.int (1 : Int32)), .val (.ref bb), .val (.int (1 : Int32)), .val (.int (3 : Int32)), .val (.int (1 : Int32)), .val (.int d0)] []))
  refine Rch.go (fun zt zk => XS.goto X102.here hx rfl (pc0 := 41) (pc' := 3) rfl (hb hby d14_41) (by decide) (by decide) zk) ?_
  refine Rch.go (fun zt zk => XS.iload X102.here hx rfl (hb hby d14_3) rfl zk) ?_
  refine Rch.go (fun zt zk => XS.iload X102.here hx rfl (hb hby d14_5) rfl zk) ?_
  refine Rch.go (fun zt zk => XS.icmpNo X102.here hx rfl (hb hby d14_7) rfl (tlt (by decide : (1 : Int32) < (3 : Int32))).2.1 zk) ?_
  show Rch _ _ _ _ (T102.setTop (mkF m 10 #[.val (.ref ca), .val (.int (1 : Int32)), .val (.ref bb), .val (.int (1 : Int32)), .val (.int (3 : Int32)), .val (.int (1 : Int32)), .val (.int d0)] []))
  refine Rch.go (fun zt zk => XS.aloadN X102.here hx rfl (hb hby d14_10) rfl rfl zk) ?_
  refine Rch.go (fun zt zk => XS.iloadN X102.here hx rfl (hb hby d14_11) rfl zk) ?_
  have f103 := (P0.other W102 Pn0)
  obtain ⟨cl104, Ar104, q104, S104, M104, H104, G104⟩ := id f103
  have hin104 := inb_of (j := (1 : Int32)) S104 ⟨by decide, by decide⟩
  refine Rch.go (X102.caload hx (j := (1 : Int32)) (v := (.int d1)) (by rw [e102]; exact Ar104.1) (State.isArrayOf_alike hZ.alike Ar104.2.1) Ar104.2.2 hin104 (Has.at H104 hin104 rfl) (g := (mkF m 12 #[.val (.ref ca), .val (.int (1 : Int32)), .val (.ref bb), .val (.int (1 : Int32)), .val (.int (3 : Int32)), .val (.int (1 : Int32)), .val (.int d0)] [(.int (1 : Int32)), (.ref ca)])) rfl rfl (hb hby d14_12)) ?_
  refine Rch.go (fun zt zk => XS.istore X102.here hx rfl (hb hby d14_13) rfl (l' := #[.val (.ref ca), .val (.int (1 : Int32)), .val (.ref bb), .val (.int (1 : Int32)), .val (.int (3 : Int32)), .val (.int (1 : Int32)), .val (.int d1)]) rfl zk) ?_
  show Rch _ _ _ _ (T102.setTop (mkF m 15 #[.val (.ref ca), .val (.int (1 : Int32)), .val (.ref bb), .val (.int (1 : Int32)), .val (.int (3 : Int32)), .val (.int (1 : Int32)), .val (.int d1)] []))
  refine Rch.go (fun zt zk => XS.iload X102.here hx rfl (hb hby d14_15) rfl zk) ?_
  refine Rch.go (fun zt zk => XS.sipush X102.here hx rfl (hb hby d14_17) zk) ?_
  refine Rch.go (fun zt zk => XS.icmpYes X102.here hx rfl (pc0 := 20) (pc' := 26) rfl (hb hby d14_20) rfl (flt (own_le255 r_d1 : ¬ ((255 : Int32) < d1))).2.2.2 (by decide) (by decide) zk) ?_
  refine Rch.go (fun zt zk => XS.aloadN X102.here hx rfl (hb hby d14_26) rfl rfl zk) ?_
  show Rch _ _ _ _ (T102.setTop (mkF m 27 #[.val (.ref ca), .val (.int (1 : Int32)), .val (.ref bb), .val (.int (1 : Int32)), .val (.int (3 : Int32)), .val (.int (1 : Int32)), .val (.int d1)] [(.ref bb)]))
  refine Rch.go (fun zt zk => XS.iloadN X102.here hx rfl (hb hby d14_27) rfl zk) ?_
  refine Rch.go (fun zt zk => XS.iload X102.here hx rfl (hb hby d14_28) rfl zk) ?_
  refine Rch.go (fun zt zk => XS.i2b X102.here hx rfl (hb hby d14_30) rfl zk) ?_
  obtain ⟨cl105, Ar105, q105, S105, M105, H105, G105⟩ := id V102
  obtain ⟨T105, h105, X105, e105, W105, st105⟩ := stB X102 hx hZ e102 Ar105 (j := (1 : Int32)) (inb_of S105 ⟨by decide, by decide⟩) (g := (mkF m 31 #[.val (.ref ca), .val (.int (1 : Int32)), .val (.ref bb), .val (.int (1 : Int32)), .val (.int (3 : Int32)), .val (.int (1 : Int32)), .val (.int d1)] [(.int (d1.toInt8.toInt32)), (.int (1 : Int32)), (.ref bb)])) rfl rfl (hb hby d14_31)
  refine Rch.go st105 ?_
  have V105 : Arv Z h105 bb kb .byte (3 : Int32) [(.int (nar .byte (d0.toInt8.toInt32))), (.int (nar .byte (d1.toInt8.toInt32))), (.int (0 : Int32))] (.int (0 : Int32)) := Arv.set Ar105 q105 S105 M105 H105 G105 (fits_nar_byte _) W105 1 rfl (Nat.le_of_ble_eq_true rfl)
  have N105 := Fr.snoc X105 N102 Pg_bb
  have K105 : Keep h0 h105 [bb] := Keep.wr K102 W105 (Or.inl (List.mem_of_getElem? (i := 0) rfl))
  show Rch _ _ _ _ (T105.setTop (mkF m 32 #[.val (.ref ca), .val (.int (1 : Int32)), .val (.ref bb), .val (.int (1 : Int32)), .val (.int (3 : Int32)), .val (.int (1 : Int32)), .val (.int d1)] []))
  refine Rch.go (fun zt zk => XS.iinc X105.here hx rfl (hb hby d14_32) rfl (l' := #[.val (.ref ca), .val (.int (2 : Int32)), .val (.ref bb), .val (.int (1 : Int32)), .val (.int (3 : Int32)), .val (.int (1 : Int32)), .val (.int d1)]) rfl zk) ?_
  refine Rch.go (fun zt zk => XS.iinc X105.here hx rfl (hb hby d14_35) rfl (l' := #[.val (.ref ca), .val (.int (2 : Int32)), .val (.ref bb), .val (.int (2 : Int32)), .val (.int (3 : Int32)), .val (.int (1 : Int32)), .val (.int d1)]) rfl zk) ?_
  refine Rch.go (fun zt zk => XS.iinc X105.here hx rfl (hb hby d14_38) rfl (l' := #[.val (.ref ca), .val (.int (2 : Int32)), .val (.ref bb), .val (.int (2 : Int32)), .val (.int (3 : Int32)), .val (.int (2 : Int32)), .val (.int d1)]) rfl zk) ?_
  refine Rch.go (fun zt zk => XS.goto X105.here hx rfl (pc0 := 41) (pc' := 3) rfl (hb hby d14_41) (by decide) (by decide) zk) ?_
  show Rch _ _ _ _ (T105.setTop (mkF m 3 #[.val (.ref ca), .val (.int (2 : Int32)), .val (.ref bb), .val (.int (2 : Int32)), .val (.int (3 : Int32)), .val (.int (2 : Int32)), .val (.int d1)] []))
  refine Rch.go (fun zt zk => XS.iload X105.here hx rfl (hb hby d14_3) rfl zk) ?_
  refine Rch.go (fun zt zk => XS.iload X105.here hx rfl (hb hby d14_5) rfl zk) ?_
  refine Rch.go (fun zt zk => XS.icmpNo X105.here hx rfl (hb hby d14_7) rfl (tlt (by decide : (2 : Int32) < (3 : Int32))).2.1 zk) ?_
  refine Rch.go (fun zt zk => XS.aloadN X105.here hx rfl (hb hby d14_10) rfl rfl zk) ?_
  show Rch _ _ _ _ (T105.setTop (mkF m 11 #[.val (.ref ca), .val (.int (2 : Int32)), .val (.ref bb), .val (.int (2 : Int32)), .val (.int (3 : Int32)), .val (.int (2 : Int32)), .val (.int d1)] [(.ref ca)]))
  refine Rch.go (fun zt zk => XS.iloadN X105.here hx rfl (hb hby d14_11) rfl zk) ?_
  have f106 := (f103.other W105 Pn0)
  obtain ⟨cl107, Ar107, q107, S107, M107, H107, G107⟩ := id f106
  have hin107 := inb_of (j := (2 : Int32)) S107 ⟨by decide, by decide⟩
  refine Rch.go (X105.caload hx (j := (2 : Int32)) (v := (.int d2)) (by rw [e105]; exact Ar107.1) (State.isArrayOf_alike hZ.alike Ar107.2.1) Ar107.2.2 hin107 (Has.at H107 hin107 rfl) (g := (mkF m 12 #[.val (.ref ca), .val (.int (2 : Int32)), .val (.ref bb), .val (.int (2 : Int32)), .val (.int (3 : Int32)), .val (.int (2 : Int32)), .val (.int d1)] [(.int (2 : Int32)), (.ref ca)])) rfl rfl (hb hby d14_12)) ?_
  refine Rch.go (fun zt zk => XS.istore X105.here hx rfl (hb hby d14_13) rfl (l' := #[.val (.ref ca), .val (.int (2 : Int32)), .val (.ref bb), .val (.int (2 : Int32)), .val (.int (3 : Int32)), .val (.int (2 : Int32)), .val (.int d2)]) rfl zk) ?_
  refine Rch.go (fun zt zk => XS.iload X105.here hx rfl (hb hby d14_15) rfl zk) ?_
  show Rch _ _ _ _ (T105.setTop (mkF m 17 #[.val (.ref ca), .val (.int (2 : Int32)), .val (.ref bb), .val (.int (2 : Int32)), .val (.int (3 : Int32)), .val (.int (2 : Int32)), .val (.int d2)] [(.int d2)]))
  refine Rch.go (fun zt zk => XS.sipush X105.here hx rfl (hb hby d14_17) zk) ?_
  refine Rch.go (fun zt zk => XS.icmpYes X105.here hx rfl (pc0 := 20) (pc' := 26) rfl (hb hby d14_20) rfl (flt (own_le255 r_d2 : ¬ ((255 : Int32) < d2))).2.2.2 (by decide) (by decide) zk) ?_
  refine Rch.go (fun zt zk => XS.aloadN X105.here hx rfl (hb hby d14_26) rfl rfl zk) ?_
  refine Rch.go (fun zt zk => XS.iloadN X105.here hx rfl (hb hby d14_27) rfl zk) ?_
  show Rch _ _ _ _ (T105.setTop (mkF m 28 #[.val (.ref ca), .val (.int (2 : Int32)), .val (.ref bb), .val (.int (2 : Int32)), .val (.int (3 : Int32)), .val (.int (2 : Int32)), .val (.int d2)] [(.int (2 : Int32)), (.ref bb)]))
  refine Rch.go (fun zt zk => XS.iload X105.here hx rfl (hb hby d14_28) rfl zk) ?_
  refine Rch.go (fun zt zk => XS.i2b X105.here hx rfl (hb hby d14_30) rfl zk) ?_
  obtain ⟨cl108, Ar108, q108, S108, M108, H108, G108⟩ := id V105
  obtain ⟨T108, h108, X108, e108, W108, st108⟩ := stB X105 hx hZ e105 Ar108 (j := (2 : Int32)) (inb_of S108 ⟨by decide, by decide⟩) (g := (mkF m 31 #[.val (.ref ca), .val (.int (2 : Int32)), .val (.ref bb), .val (.int (2 : Int32)), .val (.int (3 : Int32)), .val (.int (2 : Int32)), .val (.int d2)] [(.int (d2.toInt8.toInt32)), (.int (2 : Int32)), (.ref bb)])) rfl rfl (hb hby d14_31)
  refine Rch.go st108 ?_
  have V108 : Arv Z h108 bb kb .byte (3 : Int32) [(.int (nar .byte (d0.toInt8.toInt32))), (.int (nar .byte (d1.toInt8.toInt32))), (.int (nar .byte (d2.toInt8.toInt32)))] (.int (0 : Int32)) := Arv.set Ar108 q108 S108 M108 H108 G108 (fits_nar_byte _) W108 2 rfl (Nat.le_of_ble_eq_true rfl)
  have N108 := Fr.snoc X108 N105 Pg_bb
  have K108 : Keep h0 h108 [bb] := Keep.wr K105 W108 (Or.inl (List.mem_of_getElem? (i := 0) rfl))
  refine Rch.go (fun zt zk => XS.iinc X108.here hx rfl (hb hby d14_32) rfl (l' := #[.val (.ref ca), .val (.int (3 : Int32)), .val (.ref bb), .val (.int (2 : Int32)), .val (.int (3 : Int32)), .val (.int (2 : Int32)), .val (.int d2)]) rfl zk) ?_
  show Rch _ _ _ _ (T108.setTop (mkF m 35 #[.val (.ref ca), .val (.int (3 : Int32)), .val (.ref bb), .val (.int (2 : Int32)), .val (.int (3 : Int32)), .val (.int (2 : Int32)), .val (.int d2)] []))
  refine Rch.go (fun zt zk => XS.iinc X108.here hx rfl (hb hby d14_35) rfl (l' := #[.val (.ref ca), .val (.int (3 : Int32)), .val (.ref bb), .val (.int (3 : Int32)), .val (.int (3 : Int32)), .val (.int (2 : Int32)), .val (.int d2)]) rfl zk) ?_
  refine Rch.go (fun zt zk => XS.iinc X108.here hx rfl (hb hby d14_38) rfl (l' := #[.val (.ref ca), .val (.int (3 : Int32)), .val (.ref bb), .val (.int (3 : Int32)), .val (.int (3 : Int32)), .val (.int (3 : Int32)), .val (.int d2)]) rfl zk) ?_
  refine Rch.go (fun zt zk => XS.goto X108.here hx rfl (pc0 := 41) (pc' := 3) rfl (hb hby d14_41) (by decide) (by decide) zk) ?_
  refine Rch.go (fun zt zk => XS.iload X108.here hx rfl (hb hby d14_3) rfl zk) ?_
  show Rch _ _ _ _ (T108.setTop (mkF m 5 #[.val (.ref ca), .val (.int (3 : Int32)), .val (.ref bb), .val (.int (3 : Int32)), .val (.int (3 : Int32)), .val (.int (3 : Int32)), .val (.int d2)] [(.int (3 : Int32))]))
  refine Rch.go (fun zt zk => XS.iload X108.here hx rfl (hb hby d14_5) rfl zk) ?_
  refine Rch.go (fun zt zk => XS.icmpYes X108.here hx rfl (pc0 := 7) (pc' := 44) rfl (hb hby d14_7) rfl (flt (by decide : ¬ ((3 : Int32) < (3 : Int32)))).2.1 (by decide) (by decide) zk) ?_
  refine Rch.go (fun zt zk => XS.iload X108.here hx rfl (hb hby d14_44) rfl zk) ?_
  obtain ⟨fs, hr, hrun, hended, hW, hsame⟩ := X108.leave (v := some (.int (3 : Int32))) (fun h => by rw [Bd.returns] at h; cases h)
  refine Rch.mk (retI X108 hx Bd.returns (hb hby d14_46) hr) (hPd _ _ _ _ hrun hended rfl ?_ ⟨⟨_, rfl⟩, hW, hsame.mono (by decide) (by decide)⟩)
  show Q_rmCpL3 Z ca bb kc kb d0 d1 d2 h0 n0 _ T108.heap _
  rw [e108]
  exact ⟨rfl, N108, K108, V108⟩
theorem ef_rmCp3 (m : MethodId) (ca : Addr) : entryFrame m #[(.ref ca), (.int (0 : Int32)), (.int (3 : Int32))] 6 = mkF m 0 #[.val (.ref ca), .val (.int (0 : Int32)), .val (.int (3 : Int32)), .unset, .unset, .unset] [] := by first | (simp [entryFrame, mkF, argsToLocals, Value.category]; done) | rfl
def Q_rmCp3 (Z : State) (ca : Addr) (kc : ClassId) (d0 : Int32) (d1 : Int32) (d2 : Int32) (h0 : Heap) (n0 : Nat) (v : Option Value) (h : Heap) (L : List Loc) : Prop := (∃ (b : Addr) (kb : ClassId), v = some (.ref b) ∧ n0 ≤ b ∧ h0.size ≤ b ∧ Arv Z h b kb .byte (3 : Int32) [(.int (bOf d0)), (.int (bOf d1)), (.int (bOf d2))] (.int (0 : Int32))) ∧ Fr n0 L ∧ Keep h0 h []
set_option maxRecDepth 65536 in
set_option maxHeartbeats 40000000 in
theorem rmCp3 (l : Launch) (Z : State) (a0 : Array Value) (hw : ∀ d ∈ tables_1, d.before a0 Z = true) (ws : List Jvm.Cond) (ca : Addr) (kc : ClassId) (d0 : Int32) (d1 : Int32) (d2 : Int32) (h0 : Heap) (n0 : Nat) (Z0 : n0 ≤ h0.size) (P0 : Arv Z h0 ca kc .char (3 : Int32) [(.int d0), (.int d1), (.int d2)] (.int (0 : Int32))) (r_d0 : R8 d0) (r_d1 : R8 d1) (r_d2 : R8 d2) :
    MetFree l (⟨"java/lang/StringUTF16", "compress", "([CII)[B"⟩ : MethodName) (head1 (Jvm.Cond.code (⟨"java/lang/StringUTF16", "compress", "([CII)[B"⟩ : MethodName) jdk_52_method_16_code 6 (some (.array .byte)) :: ws) ({ frames := 1, cells := 1, slots := 3, locals := 18 } : Room)) (fun a U => a = #[(.ref ca), (.int (0 : Int32)), (.int (3 : Int32))] ∧ Z.Warmed39 U.vm ∧ U.heap = h0) (fun _ _ _ _ _ => True) (fun _ U o U' => ∃ v L, o = .returned v ∧ Q_rmCp3 Z ca kc d0 d1 d2 h0 n0 v U'.heap L ∧ FrameEnd U o U' L ({ frames := 1, cells := 1, slots := 3, locals := 18 } : Room).cells ({ frames := 1, cells := 1, slots := 3, locals := 18 } : Room).slots) := by
  refine MetFree.of_bodySF (plainFor_of_name pn_java_lang_StringUTF16) hisR ?_
  intro p e s m args below meth c s₁ Bd hml0 hP hK
  obtain ⟨rfl, hZ, hh⟩ := hP
  have hx := Bd.exec
  have hby := Bd.bytes
  have hml : c.maxLocals = 6 := hml0
  have hown : s.vm.findClass "java/lang/StringUTF16" = some m.cls := findClass_of_methodNamed Bd.named
  have hnm := (name_of_methodNamed Bd.named Bd.method).1
  have X0 : Stand p l e ({ frames := 1, cells := 1, slots := 3, locals := 18 } : Room) s m #[(.ref ca), (.int (0 : Int32)), (.int (3 : Int32))] below meth c s₁ [] 0 0 := Stand.of_body Bd
  have e0 : s₁.heap = h0 := by rw [← hh, Bd.state]; rfl
  have N0 := Fr.nil n0
  suffices hR : ∀ P : State → Prop, (∀ s₂ o v L, s₂.status = .running → Ended s₂ below o → o = .returned v → Q_rmCp3 Z ca kc d0 d1 d2 h0 n0 v s₂.heap L → FrameEnd s o s₂ L ({ frames := 1, cells := 1, slots := 3, locals := 18 } : Room).cells ({ frames := 1, cells := 1, slots := 3, locals := 18 } : Room).slots → P s₂) → Rch p.tables e below P (s₁.setTop (mkF m 0 #[.val (.ref ca), .val (.int (0 : Int32)), .val (.int (3 : Int32)), .unset, .unset, .unset] [])) by
    obtain ⟨s₂, h1, o, h2⟩ := hR (fun s₂ => ∃ o, s₂.status = .running ∧ Ended s₂ below o ∧ ∃ v L, o = .returned v ∧ Q_rmCp3 Z ca kc d0 d1 d2 h0 n0 v s₂.heap L ∧ FrameEnd s o s₂ L ({ frames := 1, cells := 1, slots := 3, locals := 18 } : Room).cells ({ frames := 1, cells := 1, slots := 3, locals := 18 } : Room).slots) (fun s₂ o v L q1 q2 q3 q4 q5 => ⟨o, q1, q2, v, L, q3, q4, q5⟩)
    exact ⟨s₂, o, castTop (ef_rmCp3 m ca) h1, h2⟩
  intro P hPd
  refine Rch.go (fun zt zk => XS.iloadN X0.here hx rfl (hb hby d13_0) rfl zk) ?_
  obtain ⟨T101, h101, k101, X101, e101, E101, A101, st101⟩ := newP X0 hx hZ (aty := .byte) (ow23 hw) e0 (g := (mkF m 1 #[.val (.ref ca), .val (.int (0 : Int32)), .val (.int (3 : Int32)), .unset, .unset, .unset] [(.int (3 : Int32))])) rfl (hb hby d13_1) rfl (by decide) (cap := 3) (by decide) (by decide) (by decide) (by decide)
  obtain ⟨b101, g101⟩ : ∃ z, z = h0.size := ⟨_, rfl⟩
  rw [← g101] at A101 st101
  refine Rch.go st101 ?_
  have ne_ca_b101 : ca ≠ b101 := by have q := P0.lt; rw [g101]; exact Nat.ne_of_lt q
  have ge101 : n0 ≤ b101 := by rw [g101]; exact Z0
  have gk101 : h0.size ≤ b101 := by rw [g101]; exact (Keep.refl h0 []).1
  have K101 := (Keep.refl h0 []).ext E101
  have V101 : Arv Z h101 b101 k101 .byte (3 : Int32) [(.int (0 : Int32)), (.int (0 : Int32)), (.int (0 : Int32))] (.int (0 : Int32)) := (Arv.new A101 (by decide)).pad (pad_rep [] (.int (0 : Int32)) 3)
  refine Rch.go (fun zt zk => XS.astoreN X101.here hx rfl (hb hby d13_3) rfl rfl (l' := #[.val (.ref ca), .val (.int (0 : Int32)), .val (.int (3 : Int32)), .val (.ref b101), .unset, .unset]) rfl zk) ?_
  refine Rch.go (fun zt zk => XS.aloadN X101.here hx rfl (hb hby d13_4) rfl rfl zk) ?_
  show Rch _ _ _ _ (T101.setTop (mkF m 5 #[.val (.ref ca), .val (.int (0 : Int32)), .val (.int (3 : Int32)), .val (.ref b101), .unset, .unset] [(.ref ca)]))
  refine Rch.go (fun zt zk => XS.iloadN X101.here hx rfl (hb hby d13_5) rfl zk) ?_
  refine Rch.go (fun zt zk => XS.aloadN X101.here hx rfl (hb hby d13_6) rfl rfl zk) ?_
  refine Rch.go (fun zt zk => XS.iconst X101.here hx rfl (hb hby d13_7) zk) ?_
  refine Rch.go (fun zt zk => XS.iloadN X101.here hx rfl (hb hby d13_8) rfl zk) ?_
  show Rch _ _ _ _ (T101.setTop (mkF m 9 #[.val (.ref ca), .val (.int (0 : Int32)), .val (.int (3 : Int32)), .val (.ref b101), .unset, .unset] [(.int (3 : Int32)), (.int (0 : Int32)), (.ref b101), (.int (0 : Int32)), (.ref ca)]))
  have f103 := (P0.ext E101)
  have f104 := (Nat.le_trans Z0 E101.1)
  obtain ⟨_, _, ⟨T102, L102, k102, n102⟩, -, X102, ⟨Lc102, hQ102, l102, y102, z102⟩, st102⟩ := Jvm.LawKit.callS X101 hx (y := (⟨"java/lang/StringUTF16", "compress", "([CI[BII)I"⟩ : MethodName)) hown (mvT hZ (ow67 hw)) (mvT hZ (ow68 hw)) (mvT hZ (ow65 hw)) (mvT hZ (ow69 hw)) (by decide) (backOf (W := 0) (rmCpL3 l Z a0 hw [] (ca) (b101) (kc) (k101) (d0) (d1) (d2) h101 n0 f104 (f103) (V101) (ne_ca_b101) (ge101) (r_d0) (r_d1) (r_d2)) hZ (ow69 hw) (ow65 hw) (by decide) (by decide)) (g := (mkF m 9 #[.val (.ref ca), .val (.int (0 : Int32)), .val (.int (3 : Int32)), .val (.ref b101), .unset, .unset] [(.int (3 : Int32)), (.int (0 : Int32)), (.ref b101), (.int (0 : Int32)), (.ref ca)])) rfl (by rw [hml]; rfl) (argsL := [(.ref ca), (.int (0 : Int32)), (.ref b101), (.int (0 : Int32)), (.int (3 : Int32))]) (rest := []) (lenOf pd___CI_BII_I rfl) rfl (by show 2 * 0 + _ ≤ _; exact Nat.le_of_eq rfl) (hb hby d13_9) (fun _ _ => ⟨rfl, e101, (by decide : 1 + 0 ≤ _), (by decide : 3 + 0 ≤ _)⟩)
  dsimp only [Pt.U, Pt.locs, Pt.cells, Pt.slots] at X102 l102 y102 z102 st102 hQ102
  rw [l102, y102, z102] at X102
  obtain ⟨rfl, N102q, K102q, O102_0⟩ := hQ102
  have N102 := Fr.app N0 N102q
  have K102 := Keep.trans K101 K102q (allS (Or.inr gk101) all0)
  refine Rch.go st102 ?_
  refine Rch.go (fun zt zk => XS.istore X102.here hx rfl (hb hby d13_12) rfl (l' := #[.val (.ref ca), .val (.int (0 : Int32)), .val (.int (3 : Int32)), .val (.ref b101), .val (.int (3 : Int32)), .unset]) rfl zk) ?_
  refine Rch.go (fun zt zk => XS.iload X102.here hx rfl (hb hby d13_14) rfl zk) ?_
  refine Rch.go (fun zt zk => XS.iloadN X102.here hx rfl (hb hby d13_16) rfl zk) ?_
  show Rch _ _ _ _ (T102.setTop (mkF m 17 #[.val (.ref ca), .val (.int (0 : Int32)), .val (.int (3 : Int32)), .val (.ref b101), .val (.int (3 : Int32)), .unset] [(.int (3 : Int32)), (.int (3 : Int32))]))
  refine Rch.go (fun zt zk => XS.icmpYes X102.here hx rfl (pc0 := 17) (pc' := 57) rfl (hb hby d13_17) rfl (teq (by decide : (3 : Int32) = (3 : Int32))).1 (by decide) (by decide) zk) ?_
  refine Rch.go (fun zt zk => XS.aloadN X102.here hx rfl (hb hby d13_57) rfl rfl zk) ?_
  obtain ⟨fs, hr, hrun, hended, hW, hsame⟩ := X102.leave (v := some (.ref b101)) (fun h => by rw [Bd.returns] at h; cases h)
  have hend : Steps p.tables e below (T102.setTop (mkF m 58 #[.val (.ref ca), .val (.int (0 : Int32)), .val (.int (3 : Int32)), .val (.ref b101), .val (.int (3 : Int32)), .unset] [(.ref b101)])) (T102.setFrames fs) := by
    jvm_step X102.here [X102.here.top, hx, (hb hby d13_58), X102.method', Bd.returns, Value.isRef, FieldType.isReference]
    first | (intro acts; rw [hr _ acts rfl rfl rfl]) | rw [hr _ _ rfl rfl rfl]
    exact Steps.refl _
  refine Rch.mk (hend) (hPd _ _ _ _ hrun hended rfl ?_ ⟨⟨_, rfl⟩, hW, hsame.mono (by decide) (by decide)⟩)
  show Q_rmCp3 Z ca kc d0 d1 d2 h0 n0 _ T102.heap _
  exact ⟨⟨b101, _, rfl, ge101, gk101, O102_0⟩, N102, K102⟩
theorem ef_rmCi3 (m : MethodId) (a1 : Addr) (ca : Addr) : entryFrame m #[(.ref a1), (.ref ca), (.int (0 : Int32)), (.int (3 : Int32)), .null] 6 = mkF m 0 #[.val (.ref a1), .val (.ref ca), .val (.int (0 : Int32)), .val (.int (3 : Int32)), .val .null, .unset] [] := by first | (simp [entryFrame, mkF, argsToLocals, Value.category]; done) | rfl
def Q_rmCi3 (Z : State) (a1 : Addr) (ca : Addr) (kc : ClassId) (cz : Int32) (d0 : Int32) (d1 : Int32) (d2 : Int32) (h0 : Heap) (n0 : Nat) (v : Option Value) (h : Heap) (L : List Loc) : Prop := v = none ∧ Fr n0 L ∧ Keep h0 h [a1] ∧ Exa Z h a1 "java/lang/String" ∧ Fld Z h a1 "java/lang/String" "coder" "B" (.int (nar .byte (0 : Int32))) ∧ ∃ (b : Addr) (kb : ClassId), n0 ≤ b ∧ h0.size ≤ b ∧ Fld Z h a1 "java/lang/String" "value" "[B" (.ref b) ∧ Arv Z h b kb .byte (3 : Int32) [(.int (bOf d0)), (.int (bOf d1)), (.int (bOf d2))] (.int (0 : Int32))
set_option maxRecDepth 65536 in
set_option maxHeartbeats 40000000 in
theorem rmCi3 (l : Launch) (Z : State) (a0 : Array Value) (hw : ∀ d ∈ tables_1, d.before a0 Z = true) (ws : List Jvm.Cond) (a1 : Addr) (ca : Addr) (kc : ClassId) (cz : Int32) (d0 : Int32) (d1 : Int32) (d2 : Int32) (h0 : Heap) (n0 : Nat) (Z0 : n0 ≤ h0.size) (P0 : Exa Z h0 a1 "java/lang/String") (P1 : Fld Z h0 a1 "java/lang/String" "value" "[B" .null) (P2 : Fld Z h0 a1 "java/lang/String" "coder" "B" (.int (0 : Int32))) (P3 : Arv Z h0 ca kc .char (3 : Int32) [(.int d0), (.int d1), (.int d2)] (.int (0 : Int32))) (P4 : Old Z n0 h0) (P5 : Sta Z Z.heap "java/lang/String" "COMPACT_STRINGS" "Z" (.int cz)) (Pn0 : ca ≠ a1) (Pg_a1 : n0 ≤ a1) (r_d0 : R8 d0) (r_d1 : R8 d1) (r_d2 : R8 d2) (hcz : ¬ (cz = (0 : Int32))) :
    MetFree l (⟨"java/lang/String", "<init>", "([CIILjava/lang/Void;)V"⟩ : MethodName) (head1 (Jvm.Cond.code (⟨"java/lang/String", "<init>", "([CIILjava/lang/Void;)V"⟩ : MethodName) jdk_42_method_149_code 6 none :: ws) ({ frames := 2, cells := 1, slots := 3, locals := 35 } : Room)) (fun a U => a = #[(.ref a1), (.ref ca), (.int (0 : Int32)), (.int (3 : Int32)), .null] ∧ Z.Warmed39 U.vm ∧ U.heap = h0) (fun _ _ _ _ _ => True) (fun _ U o U' => ∃ v L, o = .returned v ∧ Q_rmCi3 Z a1 ca kc cz d0 d1 d2 h0 n0 v U'.heap L ∧ FrameEnd U o U' L ({ frames := 2, cells := 1, slots := 3, locals := 35 } : Room).cells ({ frames := 2, cells := 1, slots := 3, locals := 35 } : Room).slots) := by
  refine MetFree.of_bodySF (plainFor_of_name pn_java_lang_String) hisR ?_
  intro p e s m args below meth c s₁ Bd hml0 hP hK
  obtain ⟨rfl, hZ, hh⟩ := hP
  have hx := Bd.exec
  have hby := Bd.bytes
  have hml : c.maxLocals = 6 := hml0
  have hown : s.vm.findClass "java/lang/String" = some m.cls := findClass_of_methodNamed Bd.named
  have hnm := (name_of_methodNamed Bd.named Bd.method).1
  have X0 : Stand p l e ({ frames := 2, cells := 1, slots := 3, locals := 35 } : Room) s m #[(.ref a1), (.ref ca), (.int (0 : Int32)), (.int (3 : Int32)), .null] below meth c s₁ [] 0 0 := Stand.of_body Bd
  have e0 : s₁.heap = h0 := by rw [← hh, Bd.state]; rfl
  have N0 := Fr.nil n0
  suffices hR : ∀ P : State → Prop, (∀ s₂ o v L, s₂.status = .running → Ended s₂ below o → o = .returned v → Q_rmCi3 Z a1 ca kc cz d0 d1 d2 h0 n0 v s₂.heap L → FrameEnd s o s₂ L ({ frames := 2, cells := 1, slots := 3, locals := 35 } : Room).cells ({ frames := 2, cells := 1, slots := 3, locals := 35 } : Room).slots → P s₂) → Rch p.tables e below P (s₁.setTop (mkF m 0 #[.val (.ref a1), .val (.ref ca), .val (.int (0 : Int32)), .val (.int (3 : Int32)), .val .null, .unset] [])) by
    obtain ⟨s₂, h1, o, h2⟩ := hR (fun s₂ => ∃ o, s₂.status = .running ∧ Ended s₂ below o ∧ ∃ v L, o = .returned v ∧ Q_rmCi3 Z a1 ca kc cz d0 d1 d2 h0 n0 v s₂.heap L ∧ FrameEnd s o s₂ L ({ frames := 2, cells := 1, slots := 3, locals := 35 } : Room).cells ({ frames := 2, cells := 1, slots := 3, locals := 35 } : Room).slots) (fun s₂ o v L q1 q2 q3 q4 q5 => ⟨o, q1, q2, v, L, q3, q4, q5⟩)
    exact ⟨s₂, o, castTop (ef_rmCi3 m a1 ca) h1, h2⟩
  intro P hPd
  refine Rch.go (fun zt zk => XS.aloadN X0.here hx rfl (hb hby d4_0) rfl rfl zk) ?_
  obtain ⟨T101, X101, e101, st101⟩ := initO X0 hx hZ hown (ow19 hw) (ow20 hw) (ow21 hw) e0 (g := (mkF m 1 #[.val (.ref a1), .val (.ref ca), .val (.int (0 : Int32)), .val (.int (3 : Int32)), .val .null, .unset] [(.ref a1)])) rfl (by rw [hml]; rfl) rfl (hb hby d4_1) (by decide) (W := 0) (by show 2 * 0 + _ ≤ _; exact Nat.le_of_eq rfl) (by decide)
  refine Rch.go st101 ?_
  refine Rch.go (fun zt zk => XS.iloadN X101.here hx rfl (hb hby d4_4) rfl zk) ?_
  refine Rch.go (fun zt zk => XS.ifYes X101.here hx rfl (pc0 := 5) (pc' := 27) rfl (hb hby d4_5) rfl ((if0 _ _).trans (feq (by decide : ¬ ((3 : Int32) = (0 : Int32)))).2) (by decide) (by decide) zk) ?_
  show Rch _ _ _ _ (T101.setTop (mkF m 27 #[.val (.ref a1), .val (.ref ca), .val (.int (0 : Int32)), .val (.int (3 : Int32)), .val .null, .unset] []))
  have f102 := P5.ext P4.2
  obtain ⟨T103, X103, e103, st103⟩ := getS2 X101 hx hZ hown (host := "") (Or.inl (ow44 hw)) Via.refl e101 f102 (g := (mkF m 27 #[.val (.ref a1), .val (.ref ca), .val (.int (0 : Int32)), .val (.int (3 : Int32)), .val .null, .unset] [])) rfl (hb hby d4_27)
  refine Rch.go st103 ?_
  refine Rch.go (fun zt zk => XS.ifNo X103.here hx rfl (hb hby d4_30) rfl ((if0 _ _).trans (feq (hcz : ¬ (cz = (0 : Int32)))).1) zk) ?_
  refine Rch.go (fun zt zk => XS.aloadN X103.here hx rfl (hb hby d4_33) rfl rfl zk) ?_
  refine Rch.go (fun zt zk => XS.iloadN X103.here hx rfl (hb hby d4_34) rfl zk) ?_
  show Rch _ _ _ _ (T103.setTop (mkF m 35 #[.val (.ref a1), .val (.ref ca), .val (.int (0 : Int32)), .val (.int (3 : Int32)), .val .null, .unset] [(.int (0 : Int32)), (.ref ca)]))
  refine Rch.go (fun zt zk => XS.iloadN X103.here hx rfl (hb hby d4_35) rfl zk) ?_
  obtain ⟨_, _, ⟨T104, L104, k104, n104⟩, -, X104, ⟨Lc104, hQ104, l104, y104, z104⟩, st104⟩ := Jvm.LawKit.callS X103 hx (y := (⟨"java/lang/StringUTF16", "compress", "([CII)[B"⟩ : MethodName)) hown (mvT hZ (ow63 hw)) (mvT hZ (ow64 hw)) (mvT hZ (ow65 hw)) (mvT hZ (ow66 hw)) (by decide) (backOf (W := 0) (rmCp3 l Z a0 hw [] (ca) (kc) (d0) (d1) (d2) h0 n0 Z0 (P3) (r_d0) (r_d1) (r_d2)) hZ (ow66 hw) (ow65 hw) (by decide) (by decide)) (g := (mkF m 36 #[.val (.ref a1), .val (.ref ca), .val (.int (0 : Int32)), .val (.int (3 : Int32)), .val .null, .unset] [(.int (3 : Int32)), (.int (0 : Int32)), (.ref ca)])) rfl (by rw [hml]; rfl) (argsL := [(.ref ca), (.int (0 : Int32)), (.int (3 : Int32))]) (rest := []) (lenOf pd___CII__B rfl) rfl (by show 2 * 0 + _ ≤ _; exact Nat.le_of_eq rfl) (hb hby d4_36) (fun _ _ => ⟨rfl, e103, (by decide : 0 + 1 ≤ _), (by decide : 0 + 3 ≤ _)⟩)
  dsimp only [Pt.U, Pt.locs, Pt.cells, Pt.slots] at X104 l104 y104 z104 st104 hQ104
  rw [l104, y104, z104] at X104
  obtain ⟨⟨b104, kb104, rfl, gb104, gh104, V104⟩, N104q, K104q⟩ := hQ104
  have N104 := Fr.app N0 N104q
  have ne_a1_b104 : a1 ≠ b104 := Nat.ne_of_lt (Nat.lt_of_lt_of_le P0.lt gh104)
  have ne_ca_b104 : ca ≠ b104 := Nat.ne_of_lt (Nat.lt_of_lt_of_le P3.lt gh104)
  have gk104 : h0.size ≤ b104 := Nat.le_trans (Keep.refl h0 [a1]).1 gh104
  have K104 := Keep.trans (Keep.refl h0 [a1]) K104q all0
  refine Rch.go st104 ?_
  refine Rch.go (fun zt zk => XS.astore X104.here hx rfl (hb hby d4_39) rfl rfl (l' := #[.val (.ref a1), .val (.ref ca), .val (.int (0 : Int32)), .val (.int (3 : Int32)), .val .null, .val (.ref b104)]) rfl zk) ?_
  refine Rch.go (fun zt zk => XS.aloadN X104.here hx rfl (hb hby d4_41) rfl rfl zk) ?_
  show Rch _ _ _ _ (T104.setTop (mkF m 42 #[.val (.ref a1), .val (.ref ca), .val (.int (0 : Int32)), .val (.int (3 : Int32)), .val .null, .val (.ref b104)] [(.ref a1)]))
  refine Rch.go (fun zt zk => XS.aload X104.here hx rfl (hb hby d4_42) rfl rfl zk) ?_
  refine Rch.go (fun zt zk => XS.iloadN X104.here hx rfl (hb hby d4_44) rfl zk) ?_
  have f106 := (Nat.le_trans Z0 K104q.1)
  obtain ⟨_, _, ⟨T105, L105, k105, n105⟩, -, X105, ⟨Lc105, hQ105, l105, y105, z105⟩, st105⟩ := Jvm.LawKit.callS X104 hx (y := (⟨"java/lang/StringUTF16", "coderFromArrayLen", "([BI)B"⟩ : MethodName)) hown (mvT hZ (ow70 hw)) (mvT hZ (ow71 hw)) (mvT hZ (ow65 hw)) (mvT hZ (ow72 hw)) (by decide) (backOf (W := 1) (rm15 l Z a0 hw [] (b104) ((3 : Int32)) (kb104) ((3 : Int32)) ([(.int (bOf d0)), (.int (bOf d1)), (.int (bOf d2))]) T104.heap n0 f106 (V104)) hZ (ow72 hw) (ow65 hw) (by decide) (by decide)) (g := (mkF m 45 #[.val (.ref a1), .val (.ref ca), .val (.int (0 : Int32)), .val (.int (3 : Int32)), .val .null, .val (.ref b104)] [(.int (3 : Int32)), (.ref b104), (.ref a1)])) rfl (by rw [hml]; rfl) (argsL := [(.ref b104), (.int (3 : Int32))]) (rest := [(.ref a1)]) (lenOf pd___BI_B rfl) rfl (by show 2 * 0 + _ ≤ _; exact Nat.le_of_eq rfl) (hb hby d4_45) (fun _ _ => ⟨rfl, rfl, (by decide : 1 + 0 ≤ _), (by decide : 3 + 0 ≤ _)⟩)
  dsimp only [Pt.U, Pt.locs, Pt.cells, Pt.slots] at X105 l105 y105 z105 st105 hQ105
  rw [l105, y105, z105] at X105
  obtain ⟨rfl, N105q, eq105⟩ := hQ105
  have N105 := Fr.app N104 N105q
  refine Rch.go st105 ?_
  have hcd : (nar .byte (((((3 : Int32) - (3 : Int32)).toUInt32 >>> ((31 : Int32) &&& 31).toUInt32).toInt32).toInt8.toInt32)) = (0 : Int32) := by decide
  rw [hcd]
  show Rch _ _ _ _ (T105.setTop (mkF m 48 #[.val (.ref a1), .val (.ref ca), .val (.int (0 : Int32)), .val (.int (3 : Int32)), .val .null, .val (.ref b104)] [(.int (0 : Int32)), (.ref a1)]))
  have f107 := (P0.keep K104q)
  have f108 := (P2.keep K104q nin0)
  obtain ⟨T109, h109, X109, e109, W109, st109⟩ := putFN X105 hx hZ hown (ow29 hw) Via.refl eq105 f108 f107 (Or.inr ⟨(ow25 hw), rfl, hnm⟩) (ow10 hw) (ty := .byte) (v' := (.int (nar .byte (0 : Int32)))) (by decide) rfl (fits_nar_byte _) (g := (mkF m 48 #[.val (.ref a1), .val (.ref ca), .val (.int (0 : Int32)), .val (.int (3 : Int32)), .val .null, .val (.ref b104)] [(.int (0 : Int32)), (.ref a1)])) rfl rfl (hb hby d4_48)
  refine Rch.go st109 ?_
  have Fw109 := f108.same W109
  have N109 := Fr.snoc X109 N105 Pg_a1
  have K109 : Keep h0 h109 [a1] := Keep.wr K104 W109 (Or.inl (List.mem_of_getElem? (i := 0) rfl))
  refine Rch.go (fun zt zk => XS.aloadN X109.here hx rfl (hb hby d4_51) rfl rfl zk) ?_
  refine Rch.go (fun zt zk => XS.aload X109.here hx rfl (hb hby d4_52) rfl rfl zk) ?_
  have f110 := (f107.wr W109)
  have f111 := ((P1.keep K104q nin0).other W109 (Or.inr (slot_ne (Or.inr (ow24 hw)) (Or.inr (ow25 hw)) (by decide) (t := (.array .byte)) (t' := .byte) (by decide) (by decide))))
  obtain ⟨T112, h112, X112, e112, W112, st112⟩ := putF X109 hx hZ hown (host := "") (Or.inl (ow28 hw)) Via.refl e109 f111 f110 (Or.inr ⟨(ow24 hw), rfl, hnm⟩) (ow10 hw) (ty := (.array .byte)) (by decide) rfl rfl (g := (mkF m 54 #[.val (.ref a1), .val (.ref ca), .val (.int (0 : Int32)), .val (.int (3 : Int32)), .val .null, .val (.ref b104)] [(.ref b104), (.ref a1)])) rfl rfl (hb hby d4_54)
  refine Rch.go st112 ?_
  have Fw112 := f111.same W112
  have N112 := Fr.snoc X112 N109 Pg_a1
  have K112 : Keep h0 h112 [a1] := Keep.wr K109 W112 (Or.inl (List.mem_of_getElem? (i := 0) rfl))
  show Rch _ _ _ _ (T112.setTop (mkF m 57 #[.val (.ref a1), .val (.ref ca), .val (.int (0 : Int32)), .val (.int (3 : Int32)), .val .null, .val (.ref b104)] []))
  obtain ⟨fs, hr, hrun, hended, hW, hsame⟩ := X112.leave (v := none) (fun _ => rfl)
  refine Rch.mk (X112.returnOut hx Bd.returns (hb hby d4_57) hr) (hPd _ _ _ _ hrun hended rfl ?_ ⟨⟨_, rfl⟩, hW, hsame.mono (by decide) (by decide)⟩)
  show Q_rmCi3 Z a1 ca kc cz d0 d1 d2 h0 n0 _ T112.heap _
  rw [e112]
  have f113 := (f110.wr W112)
  have f114 := (Fw109.other W112 (Or.inr (slot_ne (Or.inr (ow25 hw)) (Or.inr (ow24 hw)) (by decide) (t := .byte) (t' := (.array .byte)) (by decide) (by decide))))
  have f115 := ((V104.other W109 (Ne.symm ne_a1_b104)).other W112 (Ne.symm ne_a1_b104))
  exact ⟨rfl, N112, K112, f113, f114, b104, _, gb104, gk104, Fw112, f115⟩
theorem ef_rmC3 (m : MethodId) (a1 : Addr) (ca : Addr) : entryFrame m #[(.ref a1), (.ref ca)] 2 = mkF m 0 #[.val (.ref a1), .val (.ref ca)] [] := by first | (simp [entryFrame, mkF, argsToLocals, Value.category]; done) | rfl
def Q_rmC3 (Z : State) (a1 : Addr) (ca : Addr) (kc : ClassId) (cz : Int32) (d0 : Int32) (d1 : Int32) (d2 : Int32) (h0 : Heap) (n0 : Nat) (v : Option Value) (h : Heap) (L : List Loc) : Prop := v = none ∧ Fr n0 L ∧ Keep h0 h [a1] ∧ Exa Z h a1 "java/lang/String" ∧ Fld Z h a1 "java/lang/String" "coder" "B" (.int (nar .byte (0 : Int32))) ∧ ∃ (b : Addr) (kb : ClassId), n0 ≤ b ∧ h0.size ≤ b ∧ Fld Z h a1 "java/lang/String" "value" "[B" (.ref b) ∧ Arv Z h b kb .byte (3 : Int32) [(.int (bOf d0)), (.int (bOf d1)), (.int (bOf d2))] (.int (0 : Int32))
set_option maxRecDepth 65536 in
set_option maxHeartbeats 40000000 in
theorem rmC3 (l : Launch) (Z : State) (a0 : Array Value) (hw : ∀ d ∈ tables_1, d.before a0 Z = true) (ws : List Jvm.Cond) (a1 : Addr) (ca : Addr) (kc : ClassId) (cz : Int32) (d0 : Int32) (d1 : Int32) (d2 : Int32) (h0 : Heap) (n0 : Nat) (Z0 : n0 ≤ h0.size) (P0 : Exa Z h0 a1 "java/lang/String") (P1 : Fld Z h0 a1 "java/lang/String" "value" "[B" .null) (P2 : Fld Z h0 a1 "java/lang/String" "coder" "B" (.int (0 : Int32))) (P3 : Arv Z h0 ca kc .char (3 : Int32) [(.int d0), (.int d1), (.int d2)] (.int (0 : Int32))) (P4 : Old Z n0 h0) (P5 : Sta Z Z.heap "java/lang/String" "COMPACT_STRINGS" "Z" (.int cz)) (Pn0 : ca ≠ a1) (Pg_a1 : n0 ≤ a1) (r_d0 : R8 d0) (r_d1 : R8 d1) (r_d2 : R8 d2) (hcz : ¬ (cz = (0 : Int32))) :
    MetFree l (⟨"java/lang/String", "<init>", "([C)V"⟩ : MethodName) (head1 (Jvm.Cond.code (⟨"java/lang/String", "<init>", "([C)V"⟩ : MethodName) jdk_42_method_3_code 2 none :: ws) ({ frames := 3, cells := 1, slots := 3, locals := 52 } : Room)) (fun a U => a = #[(.ref a1), (.ref ca)] ∧ Z.Warmed39 U.vm ∧ U.heap = h0) (fun _ _ _ _ _ => True) (fun _ U o U' => ∃ v L, o = .returned v ∧ Q_rmC3 Z a1 ca kc cz d0 d1 d2 h0 n0 v U'.heap L ∧ FrameEnd U o U' L ({ frames := 3, cells := 1, slots := 3, locals := 52 } : Room).cells ({ frames := 3, cells := 1, slots := 3, locals := 52 } : Room).slots) := by
  refine MetFree.of_bodySF (plainFor_of_name pn_java_lang_String) hisR ?_
  intro p e s m args below meth c s₁ Bd hml0 hP hK
  obtain ⟨rfl, hZ, hh⟩ := hP
  have hx := Bd.exec
  have hby := Bd.bytes
  have hml : c.maxLocals = 2 := hml0
  have hown : s.vm.findClass "java/lang/String" = some m.cls := findClass_of_methodNamed Bd.named
  have hnm := (name_of_methodNamed Bd.named Bd.method).1
  have X0 : Stand p l e ({ frames := 3, cells := 1, slots := 3, locals := 52 } : Room) s m #[(.ref a1), (.ref ca)] below meth c s₁ [] 0 0 := Stand.of_body Bd
  have e0 : s₁.heap = h0 := by rw [← hh, Bd.state]; rfl
  have N0 := Fr.nil n0
  suffices hR : ∀ P : State → Prop, (∀ s₂ o v L, s₂.status = .running → Ended s₂ below o → o = .returned v → Q_rmC3 Z a1 ca kc cz d0 d1 d2 h0 n0 v s₂.heap L → FrameEnd s o s₂ L ({ frames := 3, cells := 1, slots := 3, locals := 52 } : Room).cells ({ frames := 3, cells := 1, slots := 3, locals := 52 } : Room).slots → P s₂) → Rch p.tables e below P (s₁.setTop (mkF m 0 #[.val (.ref a1), .val (.ref ca)] [])) by
    obtain ⟨s₂, h1, o, h2⟩ := hR (fun s₂ => ∃ o, s₂.status = .running ∧ Ended s₂ below o ∧ ∃ v L, o = .returned v ∧ Q_rmC3 Z a1 ca kc cz d0 d1 d2 h0 n0 v s₂.heap L ∧ FrameEnd s o s₂ L ({ frames := 3, cells := 1, slots := 3, locals := 52 } : Room).cells ({ frames := 3, cells := 1, slots := 3, locals := 52 } : Room).slots) (fun s₂ o v L q1 q2 q3 q4 q5 => ⟨o, q1, q2, v, L, q3, q4, q5⟩)
    exact ⟨s₂, o, castTop (ef_rmC3 m a1 ca) h1, h2⟩
  intro P hPd
  refine Rch.go (fun zt zk => XS.aloadN X0.here hx rfl (hb hby d3_0) rfl rfl zk) ?_
  refine Rch.go (fun zt zk => XS.aloadN X0.here hx rfl (hb hby d3_1) rfl rfl zk) ?_
  refine Rch.go (fun zt zk => XS.iconst X0.here hx rfl (hb hby d3_2) zk) ?_
  refine Rch.go (fun zt zk => XS.aloadN X0.here hx rfl (hb hby d3_3) rfl rfl zk) ?_
  show Rch _ _ _ _ (s₁.setTop (mkF m 4 #[.val (.ref a1), .val (.ref ca)] [(.ref ca), (.int (0 : Int32)), (.ref ca), (.ref a1)]))
  obtain ⟨cl101, Ar101, q101, S101, M101, H101, G101⟩ := id P3
  refine Rch.go (X0.arraylength hx (by rw [e0]; exact Ar101.1) (State.isArrayOf_alike hZ.alike Ar101.2.1) (g := (mkF m 4 #[.val (.ref a1), .val (.ref ca)] [(.ref ca), (.int (0 : Int32)), (.ref ca), (.ref a1)])) rfl rfl (hb hby d3_4)) ?_
  rw [len_of S101 M101]
  refine Rch.go (fun zt zk => XS.aconstNull X0.here hx rfl (hb hby d3_5) zk) ?_
  obtain ⟨_, _, ⟨T102, L102, k102, n102⟩, -, X102, ⟨Lc102, hQ102, l102, y102, z102⟩, st102⟩ := X0.specialBack hx (y := (⟨"java/lang/String", "<init>", "([CIILjava/lang/Void;)V"⟩ : MethodName)) rfl hown (mvT hZ (ow15 hw)) (mvT hZ (ow16 hw)) (mvT hZ (ow18 hw)) (by decide) (backOf (W := 0) (rmCi3 l Z a0 hw [] (a1) (ca) (kc) (cz) (d0) (d1) (d2) h0 n0 Z0 (P0) (P1) (P2) (P3) (P4) (P5) (Pn0) (Pg_a1) (r_d0) (r_d1) (r_d2) (hcz)) hZ (ow18 hw) (ow11 hw) (by decide) (by decide)) (g := (mkF m 6 #[.val (.ref a1), .val (.ref ca)] [.null, (.int (3 : Int32)), (.int (0 : Int32)), (.ref ca), (.ref a1)])) rfl (by rw [hml]; rfl) (Steps.refl _) (a := a1) (argsL := [(.ref ca), (.int (0 : Int32)), (.int (3 : Int32)), .null]) (rest := []) (lenOf pd___CIILjava_lang_Void__V rfl) rfl (by show 2 * 0 + _ ≤ _; exact Nat.le_of_eq rfl) (hb hby d3_6) (fun _ _ => ⟨rfl, e0, (by decide : 0 + 1 ≤ _), (by decide : 0 + 3 ≤ _)⟩)
  dsimp only [Pt.U, Pt.locs, Pt.cells, Pt.slots] at X102 l102 y102 z102 st102 hQ102
  rw [l102, y102, z102] at X102
  obtain ⟨rfl, N102q, K102q, E102, C102, b102, kb102, gb102, gh102, U102, V102⟩ := hQ102
  have N102 := Fr.app N0 N102q
  have ne_a1_b102 : a1 ≠ b102 := Nat.ne_of_lt (Nat.lt_of_lt_of_le P0.lt gh102)
  have ne_ca_b102 : ca ≠ b102 := Nat.ne_of_lt (Nat.lt_of_lt_of_le P3.lt gh102)
  have gk102 : h0.size ≤ b102 := Nat.le_trans (Keep.refl h0 [a1]).1 gh102
  have K102 := Keep.trans (Keep.refl h0 [a1]) K102q (allS (Or.inl (List.mem_of_getElem? (i := 0) rfl)) all0)
  refine Rch.go (fun zt zk => st102.trans zk) ?_
  obtain ⟨fs, hr, hrun, hended, hW, hsame⟩ := X102.leave (v := none) (fun _ => rfl)
  refine Rch.mk (X102.returnOut hx Bd.returns (hb hby d3_9) hr) (hPd _ _ _ _ hrun hended rfl ?_ ⟨⟨_, rfl⟩, hW, hsame.mono (by decide) (by decide)⟩)
  show Q_rmC3 Z a1 ca kc cz d0 d1 d2 h0 n0 _ T102.heap _
  exact ⟨rfl, N102, K102, E102, C102, b102, _, gb102, gk102, U102, V102⟩
theorem ef_rmCpL4 (m : MethodId) (ca : Addr) (bb : Addr) : entryFrame m #[(.ref ca), (.int (0 : Int32)), (.ref bb), (.int (0 : Int32)), (.int (4 : Int32))] 7 = mkF m 0 #[.val (.ref ca), .val (.int (0 : Int32)), .val (.ref bb), .val (.int (0 : Int32)), .val (.int (4 : Int32)), .unset, .unset] [] := by first | (simp [entryFrame, mkF, argsToLocals, Value.category]; done) | rfl
def Q_rmCpL4 (Z : State) (ca : Addr) (bb : Addr) (kc : ClassId) (kb : ClassId) (d0 : Int32) (d1 : Int32) (d2 : Int32) (d3 : Int32) (h0 : Heap) (n0 : Nat) (v : Option Value) (h : Heap) (L : List Loc) : Prop := v = some (.int (4 : Int32)) ∧ Fr n0 L ∧ Keep h0 h [bb] ∧ Arv Z h bb kb .byte (4 : Int32) [(.int (bOf d0)), (.int (bOf d1)), (.int (bOf d2)), (.int (bOf d3))] (.int (0 : Int32))
set_option maxRecDepth 65536 in
set_option maxHeartbeats 40000000 in
theorem rmCpL4 (l : Launch) (Z : State) (a0 : Array Value) (hw : ∀ d ∈ tables_1, d.before a0 Z = true) (ws : List Jvm.Cond) (ca : Addr) (bb : Addr) (kc : ClassId) (kb : ClassId) (d0 : Int32) (d1 : Int32) (d2 : Int32) (d3 : Int32) (h0 : Heap) (n0 : Nat) (Z0 : n0 ≤ h0.size) (P0 : Arv Z h0 ca kc .char (4 : Int32) [(.int d0), (.int d1), (.int d2), (.int d3)] (.int (0 : Int32))) (P1 : Arv Z h0 bb kb .byte (4 : Int32) [(.int (0 : Int32)), (.int (0 : Int32)), (.int (0 : Int32)), (.int (0 : Int32))] (.int (0 : Int32))) (Pn0 : ca ≠ bb) (Pg_bb : n0 ≤ bb) (r_d0 : R8 d0) (r_d1 : R8 d1) (r_d2 : R8 d2) (r_d3 : R8 d3) :
    MetFree l (⟨"java/lang/StringUTF16", "compress", "([CI[BII)I"⟩ : MethodName) (head1 (Jvm.Cond.code (⟨"java/lang/StringUTF16", "compress", "([CI[BII)I"⟩ : MethodName) jdk_52_method_21_code 7 (some .int) :: ws) ({ frames := 0, cells := 0, slots := 0, locals := 0 } : Room)) (fun a U => a = #[(.ref ca), (.int (0 : Int32)), (.ref bb), (.int (0 : Int32)), (.int (4 : Int32))] ∧ Z.Warmed39 U.vm ∧ U.heap = h0) (fun _ _ _ _ _ => True) (fun _ U o U' => ∃ v L, o = .returned v ∧ Q_rmCpL4 Z ca bb kc kb d0 d1 d2 d3 h0 n0 v U'.heap L ∧ FrameEnd U o U' L ({ frames := 0, cells := 0, slots := 0, locals := 0 } : Room).cells ({ frames := 0, cells := 0, slots := 0, locals := 0 } : Room).slots) := by
  refine MetFree.of_bodySF (plainFor_of_name pn_java_lang_StringUTF16) hisR ?_
  intro p e s m args below meth c s₁ Bd hml0 hP hK
  obtain ⟨rfl, hZ, hh⟩ := hP
  have hx := Bd.exec
  have hby := Bd.bytes
  have hml : c.maxLocals = 7 := hml0
  have hown : s.vm.findClass "java/lang/StringUTF16" = some m.cls := findClass_of_methodNamed Bd.named
  have hnm := (name_of_methodNamed Bd.named Bd.method).1
  have X0 : Stand p l e ({ frames := 0, cells := 0, slots := 0, locals := 0 } : Room) s m #[(.ref ca), (.int (0 : Int32)), (.ref bb), (.int (0 : Int32)), (.int (4 : Int32))] below meth c s₁ [] 0 0 := Stand.of_body Bd
  have e0 : s₁.heap = h0 := by rw [← hh, Bd.state]; rfl
  have N0 := Fr.nil n0
  suffices hR : ∀ P : State → Prop, (∀ s₂ o v L, s₂.status = .running → Ended s₂ below o → o = .returned v → Q_rmCpL4 Z ca bb kc kb d0 d1 d2 d3 h0 n0 v s₂.heap L → FrameEnd s o s₂ L ({ frames := 0, cells := 0, slots := 0, locals := 0 } : Room).cells ({ frames := 0, cells := 0, slots := 0, locals := 0 } : Room).slots → P s₂) → Rch p.tables e below P (s₁.setTop (mkF m 0 #[.val (.ref ca), .val (.int (0 : Int32)), .val (.ref bb), .val (.int (0 : Int32)), .val (.int (4 : Int32)), .unset, .unset] [])) by
    obtain ⟨s₂, h1, o, h2⟩ := hR (fun s₂ => ∃ o, s₂.status = .running ∧ Ended s₂ below o ∧ ∃ v L, o = .returned v ∧ Q_rmCpL4 Z ca bb kc kb d0 d1 d2 d3 h0 n0 v s₂.heap L ∧ FrameEnd s o s₂ L ({ frames := 0, cells := 0, slots := 0, locals := 0 } : Room).cells ({ frames := 0, cells := 0, slots := 0, locals := 0 } : Room).slots) (fun s₂ o v L q1 q2 q3 q4 q5 => ⟨o, q1, q2, v, L, q3, q4, q5⟩)
    exact ⟨s₂, o, castTop (ef_rmCpL4 m ca bb) h1, h2⟩
  intro P hPd
  refine Rch.go (fun zt zk => XS.iconst X0.here hx rfl (hb hby d14_0) zk) ?_
  refine Rch.go (fun zt zk => XS.istore X0.here hx rfl (hb hby d14_1) rfl (l' := #[.val (.ref ca), .val (.int (0 : Int32)), .val (.ref bb), .val (.int (0 : Int32)), .val (.int (4 : Int32)), .val (.int (0 : Int32)), .unset]) rfl zk) ?_
  refine Rch.go (fun zt zk => XS.iload X0.here hx rfl (hb hby d14_3) rfl zk) ?_
  refine Rch.go (fun zt zk => XS.iload X0.here hx rfl (hb hby d14_5) rfl zk) ?_
  show Rch _ _ _ _ (s₁.setTop (mkF m 7 #[.val (.ref ca), .val (.int (0 : Int32)), .val (.ref bb), .val (.int (0 : Int32)), .val (.int (4 : Int32)), .val (.int (0 : Int32)), .unset] [(.int (4 : Int32)), (.int (0 : Int32))]))
  refine Rch.go (fun zt zk => XS.icmpNo X0.here hx rfl (hb hby d14_7) rfl (tlt (by decide : (0 : Int32) < (4 : Int32))).2.1 zk) ?_
  refine Rch.go (fun zt zk => XS.aloadN X0.here hx rfl (hb hby d14_10) rfl rfl zk) ?_
  refine Rch.go (fun zt zk => XS.iloadN X0.here hx rfl (hb hby d14_11) rfl zk) ?_
  obtain ⟨cl101, Ar101, q101, S101, M101, H101, G101⟩ := id P0
  have hin101 := inb_of (j := (0 : Int32)) S101 ⟨by decide, by decide⟩
  refine Rch.go (X0.caload hx (j := (0 : Int32)) (v := (.int d0)) (by rw [e0]; exact Ar101.1) (State.isArrayOf_alike hZ.alike Ar101.2.1) Ar101.2.2 hin101 (Has.at H101 hin101 rfl) (g := (mkF m 12 #[.val (.ref ca), .val (.int (0 : Int32)), .val (.ref bb), .val (.int (0 : Int32)), .val (.int (4 : Int32)), .val (.int (0 : Int32)), .unset] [(.int (0 : Int32)), (.ref ca)])) rfl rfl (hb hby d14_12)) ?_
  show Rch _ _ _ _ (s₁.setTop (mkF m 13 #[.val (.ref ca), .val (.int (0 : Int32)), .val (.ref bb), .val (.int (0 : Int32)), .val (.int (4 : Int32)), .val (.int (0 : Int32)), .unset] [(.int d0)]))
  refine Rch.go (fun zt zk => XS.istore X0.here hx rfl (hb hby d14_13) rfl (l' := #[.val (.ref ca), .val (.int (0 : Int32)), .val (.ref bb), .val (.int (0 : Int32)), .val (.int (4 : Int32)), .val (.int (0 : Int32)), .val (.int d0)]) rfl zk) ?_
  refine Rch.go (fun zt zk => XS.iload X0.here hx rfl (hb hby d14_15) rfl zk) ?_
  refine Rch.go (fun zt zk => XS.sipush X0.here hx rfl (hb hby d14_17) zk) ?_
  refine Rch.go (fun zt zk => XS.icmpYes X0.here hx rfl (pc0 := 20) (pc' := 26) rfl (hb hby d14_20) rfl (flt (own_le255 r_d0 : ¬ ((255 : Int32) < d0))).2.2.2 (by decide) (by decide) zk) ?_
  show Rch _ _ _ _ (s₁.setTop (mkF m 26 #[.val (.ref ca), .val (.int (0 : Int32)), .val (.ref bb), .val (.int (0 : Int32)), .val (.int (4 : Int32)), .val (.int (0 : Int32)), .val (.int d0)] []))
  refine Rch.go (fun zt zk => XS.aloadN X0.here hx rfl (hb hby d14_26) rfl rfl zk) ?_
  refine Rch.go (fun zt zk => XS.iloadN X0.here hx rfl (hb hby d14_27) rfl zk) ?_
  refine Rch.go (fun zt zk => XS.iload X0.here hx rfl (hb hby d14_28) rfl zk) ?_
  refine Rch.go (fun zt zk => XS.i2b X0.here hx rfl (hb hby d14_30) rfl zk) ?_
  show Rch _ _ _ _ (s₁.setTop (mkF m 31 #[.val (.ref ca), .val (.int (0 : Int32)), .val (.ref bb), .val (.int (0 : Int32)), .val (.int (4 : Int32)), .val (.int (0 : Int32)), .val (.int d0)] [(.int (d0.toInt8.toInt32)), (.int (0 : Int32)), (.ref bb)]))
  obtain ⟨cl102, Ar102, q102, S102, M102, H102, G102⟩ := id P1
  obtain ⟨T102, h102, X102, e102, W102, st102⟩ := stB X0 hx hZ e0 Ar102 (j := (0 : Int32)) (inb_of S102 ⟨by decide, by decide⟩) (g := (mkF m 31 #[.val (.ref ca), .val (.int (0 : Int32)), .val (.ref bb), .val (.int (0 : Int32)), .val (.int (4 : Int32)), .val (.int (0 : Int32)), .val (.int d0)] [(.int (d0.toInt8.toInt32)), (.int (0 : Int32)), (.ref bb)])) rfl rfl (hb hby d14_31)
  refine Rch.go st102 ?_
  have V102 : Arv Z h102 bb kb .byte (4 : Int32) [(.int (nar .byte (d0.toInt8.toInt32))), (.int (0 : Int32)), (.int (0 : Int32)), (.int (0 : Int32))] (.int (0 : Int32)) := Arv.set Ar102 q102 S102 M102 H102 G102 (fits_nar_byte _) W102 0 rfl (Nat.le_of_ble_eq_true rfl)
  have N102 := Fr.snoc X102 N0 Pg_bb
  have K102 : Keep h0 h102 [bb] := Keep.wr (Keep.refl h0 [bb]) W102 (Or.inl (List.mem_of_getElem? (i := 0) rfl))
  refine Rch.go (fun zt zk => XS.iinc X102.here hx rfl (hb hby d14_32) rfl (l' := #[.val (.ref ca), .val (.int (1 : Int32)), .val (.ref bb), .val (.int (0 : Int32)), .val (.int (4 : Int32)), .val (.int (0 : Int32)), .val (.int d0)]) rfl zk) ?_
  refine Rch.go (fun zt zk => XS.iinc X102.here hx rfl (hb hby d14_35) rfl (l' := #[.val (.ref ca), .val (.int (1 : Int32)), .val (.ref bb), .val (.int (1 : Int32)), .val (.int (4 : Int32)), .val (.int (0 : Int32)), .val (.int d0)]) rfl zk) ?_
  refine Rch.go (fun zt zk => XS.iinc X102.here hx rfl (hb hby d14_38) rfl (l' := #[.val (.ref ca), .val (.int (1 : Int32)), .val (.ref bb), .val (.int (1 : Int32)), .val (.int (4 : Int32)), .val (.int (1 : Int32)), .val (.int d0)]) rfl zk) ?_
  show Rch _ _ _ _ (T102.setTop (mkF m 41 #[.val (.ref ca), .val (.int (1 : Int32)), .val (.ref bb), .val (.int (1 : Int32)), .val (.int (4 : Int32)), .val (.int (1 : Int32)), .val (.int d0)] []))
  refine Rch.go (fun zt zk => XS.goto X102.here hx rfl (pc0 := 41) (pc' := 3) rfl (hb hby d14_41) (by decide) (by decide) zk) ?_
  refine Rch.go (fun zt zk => XS.iload X102.here hx rfl (hb hby d14_3) rfl zk) ?_
  refine Rch.go (fun zt zk => XS.iload X102.here hx rfl (hb hby d14_5) rfl zk) ?_
  refine Rch.go (fun zt zk => XS.icmpNo X102.here hx rfl (hb hby d14_7) rfl (tlt (by decide : (1 : Int32) < (4 : Int32))).2.1 zk) ?_
  show Rch _ _ _ _ (T102.setTop (mkF m 10 #[.val (.ref ca), .val (.int (1 : Int32)), .val (.ref bb), .val (.int (1 : Int32)), .val (.int (4 : Int32)), .val (.int (1 : Int32)), .val (.int d0)] []))
  refine Rch.go (fun zt zk => XS.aloadN X102.here hx rfl (hb hby d14_10) rfl rfl zk) ?_
  refine Rch.go (fun zt zk => XS.iloadN X102.here hx rfl (hb hby d14_11) rfl zk) ?_
  have f103 := (P0.other W102 Pn0)
  obtain ⟨cl104, Ar104, q104, S104, M104, H104, G104⟩ := id f103
  have hin104 := inb_of (j := (1 : Int32)) S104 ⟨by decide, by decide⟩
  refine Rch.go (X102.caload hx (j := (1 : Int32)) (v := (.int d1)) (by rw [e102]; exact Ar104.1) (State.isArrayOf_alike hZ.alike Ar104.2.1) Ar104.2.2 hin104 (Has.at H104 hin104 rfl) (g := (mkF m 12 #[.val (.ref ca), .val (.int (1 : Int32)), .val (.ref bb), .val (.int (1 : Int32)), .val (.int (4 : Int32)), .val (.int (1 : Int32)), .val (.int d0)] [(.int (1 : Int32)), (.ref ca)])) rfl rfl (hb hby d14_12)) ?_
  refine Rch.go (fun zt zk => XS.istore X102.here hx rfl (hb hby d14_13) rfl (l' := #[.val (.ref ca), .val (.int (1 : Int32)), .val (.ref bb), .val (.int (1 : Int32)), .val (.int (4 : Int32)), .val (.int (1 : Int32)), .val (.int d1)]) rfl zk) ?_
  show Rch _ _ _ _ (T102.setTop (mkF m 15 #[.val (.ref ca), .val (.int (1 : Int32)), .val (.ref bb), .val (.int (1 : Int32)), .val (.int (4 : Int32)), .val (.int (1 : Int32)), .val (.int d1)] []))
  refine Rch.go (fun zt zk => XS.iload X102.here hx rfl (hb hby d14_15) rfl zk) ?_
  refine Rch.go (fun zt zk => XS.sipush X102.here hx rfl (hb hby d14_17) zk) ?_
  refine Rch.go (fun zt zk => XS.icmpYes X102.here hx rfl (pc0 := 20) (pc' := 26) rfl (hb hby d14_20) rfl (flt (own_le255 r_d1 : ¬ ((255 : Int32) < d1))).2.2.2 (by decide) (by decide) zk) ?_
  refine Rch.go (fun zt zk => XS.aloadN X102.here hx rfl (hb hby d14_26) rfl rfl zk) ?_
  show Rch _ _ _ _ (T102.setTop (mkF m 27 #[.val (.ref ca), .val (.int (1 : Int32)), .val (.ref bb), .val (.int (1 : Int32)), .val (.int (4 : Int32)), .val (.int (1 : Int32)), .val (.int d1)] [(.ref bb)]))
  refine Rch.go (fun zt zk => XS.iloadN X102.here hx rfl (hb hby d14_27) rfl zk) ?_
  refine Rch.go (fun zt zk => XS.iload X102.here hx rfl (hb hby d14_28) rfl zk) ?_
  refine Rch.go (fun zt zk => XS.i2b X102.here hx rfl (hb hby d14_30) rfl zk) ?_
  obtain ⟨cl105, Ar105, q105, S105, M105, H105, G105⟩ := id V102
  obtain ⟨T105, h105, X105, e105, W105, st105⟩ := stB X102 hx hZ e102 Ar105 (j := (1 : Int32)) (inb_of S105 ⟨by decide, by decide⟩) (g := (mkF m 31 #[.val (.ref ca), .val (.int (1 : Int32)), .val (.ref bb), .val (.int (1 : Int32)), .val (.int (4 : Int32)), .val (.int (1 : Int32)), .val (.int d1)] [(.int (d1.toInt8.toInt32)), (.int (1 : Int32)), (.ref bb)])) rfl rfl (hb hby d14_31)
  refine Rch.go st105 ?_
  have V105 : Arv Z h105 bb kb .byte (4 : Int32) [(.int (nar .byte (d0.toInt8.toInt32))), (.int (nar .byte (d1.toInt8.toInt32))), (.int (0 : Int32)), (.int (0 : Int32))] (.int (0 : Int32)) := Arv.set Ar105 q105 S105 M105 H105 G105 (fits_nar_byte _) W105 1 rfl (Nat.le_of_ble_eq_true rfl)
  have N105 := Fr.snoc X105 N102 Pg_bb
  have K105 : Keep h0 h105 [bb] := Keep.wr K102 W105 (Or.inl (List.mem_of_getElem? (i := 0) rfl))
  show Rch _ _ _ _ (T105.setTop (mkF m 32 #[.val (.ref ca), .val (.int (1 : Int32)), .val (.ref bb), .val (.int (1 : Int32)), .val (.int (4 : Int32)), .val (.int (1 : Int32)), .val (.int d1)] []))
  refine Rch.go (fun zt zk => XS.iinc X105.here hx rfl (hb hby d14_32) rfl (l' := #[.val (.ref ca), .val (.int (2 : Int32)), .val (.ref bb), .val (.int (1 : Int32)), .val (.int (4 : Int32)), .val (.int (1 : Int32)), .val (.int d1)]) rfl zk) ?_
  refine Rch.go (fun zt zk => XS.iinc X105.here hx rfl (hb hby d14_35) rfl (l' := #[.val (.ref ca), .val (.int (2 : Int32)), .val (.ref bb), .val (.int (2 : Int32)), .val (.int (4 : Int32)), .val (.int (1 : Int32)), .val (.int d1)]) rfl zk) ?_
  refine Rch.go (fun zt zk => XS.iinc X105.here hx rfl (hb hby d14_38) rfl (l' := #[.val (.ref ca), .val (.int (2 : Int32)), .val (.ref bb), .val (.int (2 : Int32)), .val (.int (4 : Int32)), .val (.int (2 : Int32)), .val (.int d1)]) rfl zk) ?_
  refine Rch.go (fun zt zk => XS.goto X105.here hx rfl (pc0 := 41) (pc' := 3) rfl (hb hby d14_41) (by decide) (by decide) zk) ?_
  show Rch _ _ _ _ (T105.setTop (mkF m 3 #[.val (.ref ca), .val (.int (2 : Int32)), .val (.ref bb), .val (.int (2 : Int32)), .val (.int (4 : Int32)), .val (.int (2 : Int32)), .val (.int d1)] []))
  refine Rch.go (fun zt zk => XS.iload X105.here hx rfl (hb hby d14_3) rfl zk) ?_
  refine Rch.go (fun zt zk => XS.iload X105.here hx rfl (hb hby d14_5) rfl zk) ?_
  refine Rch.go (fun zt zk => XS.icmpNo X105.here hx rfl (hb hby d14_7) rfl (tlt (by decide : (2 : Int32) < (4 : Int32))).2.1 zk) ?_
  refine Rch.go (fun zt zk => XS.aloadN X105.here hx rfl (hb hby d14_10) rfl rfl zk) ?_
  show Rch _ _ _ _ (T105.setTop (mkF m 11 #[.val (.ref ca), .val (.int (2 : Int32)), .val (.ref bb), .val (.int (2 : Int32)), .val (.int (4 : Int32)), .val (.int (2 : Int32)), .val (.int d1)] [(.ref ca)]))
  refine Rch.go (fun zt zk => XS.iloadN X105.here hx rfl (hb hby d14_11) rfl zk) ?_
  have f106 := (f103.other W105 Pn0)
  obtain ⟨cl107, Ar107, q107, S107, M107, H107, G107⟩ := id f106
  have hin107 := inb_of (j := (2 : Int32)) S107 ⟨by decide, by decide⟩
  refine Rch.go (X105.caload hx (j := (2 : Int32)) (v := (.int d2)) (by rw [e105]; exact Ar107.1) (State.isArrayOf_alike hZ.alike Ar107.2.1) Ar107.2.2 hin107 (Has.at H107 hin107 rfl) (g := (mkF m 12 #[.val (.ref ca), .val (.int (2 : Int32)), .val (.ref bb), .val (.int (2 : Int32)), .val (.int (4 : Int32)), .val (.int (2 : Int32)), .val (.int d1)] [(.int (2 : Int32)), (.ref ca)])) rfl rfl (hb hby d14_12)) ?_
  refine Rch.go (fun zt zk => XS.istore X105.here hx rfl (hb hby d14_13) rfl (l' := #[.val (.ref ca), .val (.int (2 : Int32)), .val (.ref bb), .val (.int (2 : Int32)), .val (.int (4 : Int32)), .val (.int (2 : Int32)), .val (.int d2)]) rfl zk) ?_
  refine Rch.go (fun zt zk => XS.iload X105.here hx rfl (hb hby d14_15) rfl zk) ?_
  show Rch _ _ _ _ (T105.setTop (mkF m 17 #[.val (.ref ca), .val (.int (2 : Int32)), .val (.ref bb), .val (.int (2 : Int32)), .val (.int (4 : Int32)), .val (.int (2 : Int32)), .val (.int d2)] [(.int d2)]))
  refine Rch.go (fun zt zk => XS.sipush X105.here hx rfl (hb hby d14_17) zk) ?_
  refine Rch.go (fun zt zk => XS.icmpYes X105.here hx rfl (pc0 := 20) (pc' := 26) rfl (hb hby d14_20) rfl (flt (own_le255 r_d2 : ¬ ((255 : Int32) < d2))).2.2.2 (by decide) (by decide) zk) ?_
  refine Rch.go (fun zt zk => XS.aloadN X105.here hx rfl (hb hby d14_26) rfl rfl zk) ?_
  refine Rch.go (fun zt zk => XS.iloadN X105.here hx rfl (hb hby d14_27) rfl zk) ?_
  show Rch _ _ _ _ (T105.setTop (mkF m 28 #[.val (.ref ca), .val (.int (2 : Int32)), .val (.ref bb), .val (.int (2 : Int32)), .val (.int (4 : Int32)), .val (.int (2 : Int32)), .val (.int d2)] [(.int (2 : Int32)), (.ref bb)]))
  refine Rch.go (fun zt zk => XS.iload X105.here hx rfl (hb hby d14_28) rfl zk) ?_
  refine Rch.go (fun zt zk => XS.i2b X105.here hx rfl (hb hby d14_30) rfl zk) ?_
  obtain ⟨cl108, Ar108, q108, S108, M108, H108, G108⟩ := id V105
  obtain ⟨T108, h108, X108, e108, W108, st108⟩ := stB X105 hx hZ e105 Ar108 (j := (2 : Int32)) (inb_of S108 ⟨by decide, by decide⟩) (g := (mkF m 31 #[.val (.ref ca), .val (.int (2 : Int32)), .val (.ref bb), .val (.int (2 : Int32)), .val (.int (4 : Int32)), .val (.int (2 : Int32)), .val (.int d2)] [(.int (d2.toInt8.toInt32)), (.int (2 : Int32)), (.ref bb)])) rfl rfl (hb hby d14_31)
  refine Rch.go st108 ?_
  have V108 : Arv Z h108 bb kb .byte (4 : Int32) [(.int (nar .byte (d0.toInt8.toInt32))), (.int (nar .byte (d1.toInt8.toInt32))), (.int (nar .byte (d2.toInt8.toInt32))), (.int (0 : Int32))] (.int (0 : Int32)) := Arv.set Ar108 q108 S108 M108 H108 G108 (fits_nar_byte _) W108 2 rfl (Nat.le_of_ble_eq_true rfl)
  have N108 := Fr.snoc X108 N105 Pg_bb
  have K108 : Keep h0 h108 [bb] := Keep.wr K105 W108 (Or.inl (List.mem_of_getElem? (i := 0) rfl))
  refine Rch.go (fun zt zk => XS.iinc X108.here hx rfl (hb hby d14_32) rfl (l' := #[.val (.ref ca), .val (.int (3 : Int32)), .val (.ref bb), .val (.int (2 : Int32)), .val (.int (4 : Int32)), .val (.int (2 : Int32)), .val (.int d2)]) rfl zk) ?_
  show Rch _ _ _ _ (T108.setTop (mkF m 35 #[.val (.ref ca), .val (.int (3 : Int32)), .val (.ref bb), .val (.int (2 : Int32)), .val (.int (4 : Int32)), .val (.int (2 : Int32)), .val (.int d2)] []))
  refine Rch.go (fun zt zk => XS.iinc X108.here hx rfl (hb hby d14_35) rfl (l' := #[.val (.ref ca), .val (.int (3 : Int32)), .val (.ref bb), .val (.int (3 : Int32)), .val (.int (4 : Int32)), .val (.int (2 : Int32)), .val (.int d2)]) rfl zk) ?_
  refine Rch.go (fun zt zk => XS.iinc X108.here hx rfl (hb hby d14_38) rfl (l' := #[.val (.ref ca), .val (.int (3 : Int32)), .val (.ref bb), .val (.int (3 : Int32)), .val (.int (4 : Int32)), .val (.int (3 : Int32)), .val (.int d2)]) rfl zk) ?_
  refine Rch.go (fun zt zk => XS.goto X108.here hx rfl (pc0 := 41) (pc' := 3) rfl (hb hby d14_41) (by decide) (by decide) zk) ?_
  refine Rch.go (fun zt zk => XS.iload X108.here hx rfl (hb hby d14_3) rfl zk) ?_
  show Rch _ _ _ _ (T108.setTop (mkF m 5 #[.val (.ref ca), .val (.int (3 : Int32)), .val (.ref bb), .val (.int (3 : Int32)), .val (.int (4 : Int32)), .val (.int (3 : Int32)), .val (.int d2)] [(.int (3 : Int32))]))
  refine Rch.go (fun zt zk => XS.iload X108.here hx rfl (hb hby d14_5) rfl zk) ?_
  refine Rch.go (fun zt zk => XS.icmpNo X108.here hx rfl (hb hby d14_7) rfl (tlt (by decide : (3 : Int32) < (4 : Int32))).2.1 zk) ?_
  refine Rch.go (fun zt zk => XS.aloadN X108.here hx rfl (hb hby d14_10) rfl rfl zk) ?_
  refine Rch.go (fun zt zk => XS.iloadN X108.here hx rfl (hb hby d14_11) rfl zk) ?_
  show Rch _ _ _ _ (T108.setTop (mkF m 12 #[.val (.ref ca), .val (.int (3 : Int32)), .val (.ref bb), .val (.int (3 : Int32)), .val (.int (4 : Int32)), .val (.int (3 : Int32)), .val (.int d2)] [(.int (3 : Int32)), (.ref ca)]))
  have f109 := (f106.other W108 Pn0)
  obtain ⟨cl110, Ar110, q110, S110, M110, H110, G110⟩ := id f109
  have hin110 := inb_of (j := (3 : Int32)) S110 ⟨by decide, by decide⟩
  refine Rch.go (X108.caload hx (j := (3 : Int32)) (v := (.int d3)) (by rw [e108]; exact Ar110.1) (State.isArrayOf_alike hZ.alike Ar110.2.1) Ar110.2.2 hin110 (Has.at H110 hin110 rfl) (g := (mkF m 12 #[.val (.ref ca), .val (.int (3 : Int32)), .val (.ref bb), .val (.int (3 : Int32)), .val (.int (4 : Int32)), .val (.int (3 : Int32)), .val (.int d2)] [(.int (3 : Int32)), (.ref ca)])) rfl rfl (hb hby d14_12)) ?_
  refine Rch.go (fun zt zk => XS.istore X108.here hx rfl (hb hby d14_13) rfl (l' := #[.val (.ref ca), .val (.int (3 : Int32)), .val (.ref bb), .val (.int (3 : Int32)), .val (.int (4 : Int32)), .val (.int (3 : Int32)), .val (.int d3)]) rfl zk) ?_
  refine Rch.go (fun zt zk => XS.iload X108.here hx rfl (hb hby d14_15) rfl zk) ?_
  refine Rch.go (fun zt zk => XS.sipush X108.here hx rfl (hb hby d14_17) zk) ?_
  show Rch _ _ _ _ (T108.setTop (mkF m 20 #[.val (.ref ca), .val (.int (3 : Int32)), .val (.ref bb), .val (.int (3 : Int32)), .val (.int (4 : Int32)), .val (.int (3 : Int32)), .val (.int d3)] [(.int (255 : Int32)), (.int d3)]))
  refine Rch.go (fun zt zk => XS.icmpYes X108.here hx rfl (pc0 := 20) (pc' := 26) rfl (hb hby d14_20) rfl (flt (own_le255 r_d3 : ¬ ((255 : Int32) < d3))).2.2.2 (by decide) (by decide) zk) ?_
  refine Rch.go (fun zt zk => XS.aloadN X108.here hx rfl (hb hby d14_26) rfl rfl zk) ?_
  refine Rch.go (fun zt zk => XS.iloadN X108.here hx rfl (hb hby d14_27) rfl zk) ?_
  refine Rch.go (fun zt zk => XS.iload X108.here hx rfl (hb hby d14_28) rfl zk) ?_
  show Rch _ _ _ _ (T108.setTop (mkF m 30 #[.val (.ref ca), .val (.int (3 : Int32)), .val (.ref bb), .val (.int (3 : Int32)), .val (.int (4 : Int32)), .val (.int (3 : Int32)), .val (.int d3)] [(.int d3), (.int (3 : Int32)), (.ref bb)]))
  refine Rch.go (fun zt zk => XS.i2b X108.here hx rfl (hb hby d14_30) rfl zk) ?_
  obtain ⟨cl111, Ar111, q111, S111, M111, H111, G111⟩ := id V108
  obtain ⟨T111, h111, X111, e111, W111, st111⟩ := stB X108 hx hZ e108 Ar111 (j := (3 : Int32)) (inb_of S111 ⟨by decide, by decide⟩) (g := (mkF m 31 #[.val (.ref ca), .val (.int (3 : Int32)), .val (.ref bb), .val (.int (3 : Int32)), .val (.int (4 : Int32)), .val (.int (3 : Int32)), .val (.int d3)] [(.int (d3.toInt8.toInt32)), (.int (3 : Int32)), (.ref bb)])) rfl rfl (hb hby d14_31)
  refine Rch.go st111 ?_
  have V111 : Arv Z h111 bb kb .byte (4 : Int32) [(.int (nar .byte (d0.toInt8.toInt32))), (.int (nar .byte (d1.toInt8.toInt32))), (.int (nar .byte (d2.toInt8.toInt32))), (.int (nar .byte (d3.toInt8.toInt32)))] (.int (0 : Int32)) := Arv.set Ar111 q111 S111 M111 H111 G111 (fits_nar_byte _) W111 3 rfl (Nat.le_of_ble_eq_true rfl)
  have N111 := Fr.snoc X111 N108 Pg_bb
  have K111 : Keep h0 h111 [bb] := Keep.wr K108 W111 (Or.inl (List.mem_of_getElem? (i := 0) rfl))
  refine Rch.go (fun zt zk => XS.iinc X111.here hx rfl (hb hby d14_32) rfl (l' := #[.val (.ref ca), .val (.int (4 : Int32)), .val (.ref bb), .val (.int (3 : Int32)), .val (.int (4 : Int32)), .val (.int (3 : Int32)), .val (.int d3)]) rfl zk) ?_
  refine Rch.go (fun zt zk => XS.iinc X111.here hx rfl (hb hby d14_35) rfl (l' := #[.val (.ref ca), .val (.int (4 : Int32)), .val (.ref bb), .val (.int (4 : Int32)), .val (.int (4 : Int32)), .val (.int (3 : Int32)), .val (.int d3)]) rfl zk) ?_
  show Rch _ _ _ _ (T111.setTop (mkF m 38 #[.val (.ref ca), .val (.int (4 : Int32)), .val (.ref bb), .val (.int (4 : Int32)), .val (.int (4 : Int32)), .val (.int (3 : Int32)), .val (.int d3)] []))
  refine Rch.go (fun zt zk => XS.iinc X111.here hx rfl (hb hby d14_38) rfl (l' := #[.val (.ref ca), .val (.int (4 : Int32)), .val (.ref bb), .val (.int (4 : Int32)), .val (.int (4 : Int32)), .val (.int (4 : Int32)), .val (.int d3)]) rfl zk) ?_
  refine Rch.go (fun zt zk => XS.goto X111.here hx rfl (pc0 := 41) (pc' := 3) rfl (hb hby d14_41) (by decide) (by decide) zk) ?_
  refine Rch.go (fun zt zk => XS.iload X111.here hx rfl (hb hby d14_3) rfl zk) ?_
  refine Rch.go (fun zt zk => XS.iload X111.here hx rfl (hb hby d14_5) rfl zk) ?_
  show Rch _ _ _ _ (T111.setTop (mkF m 7 #[.val (.ref ca), .val (.int (4 : Int32)), .val (.ref bb), .val (.int (4 : Int32)), .val (.int (4 : Int32)), .val (.int (4 : Int32)), .val (.int d3)] [(.int (4 : Int32)), (.int (4 : Int32))]))
  refine Rch.go (fun zt zk => XS.icmpYes X111.here hx rfl (pc0 := 7) (pc' := 44) rfl (hb hby d14_7) rfl (flt (by decide : ¬ ((4 : Int32) < (4 : Int32)))).2.1 (by decide) (by decide) zk) ?_
  refine Rch.go (fun zt zk => XS.iload X111.here hx rfl (hb hby d14_44) rfl zk) ?_
  obtain ⟨fs, hr, hrun, hended, hW, hsame⟩ := X111.leave (v := some (.int (4 : Int32))) (fun h => by rw [Bd.returns] at h; cases h)
  refine Rch.mk (retI X111 hx Bd.returns (hb hby d14_46) hr) (hPd _ _ _ _ hrun hended rfl ?_ ⟨⟨_, rfl⟩, hW, hsame.mono (by decide) (by decide)⟩)
  show Q_rmCpL4 Z ca bb kc kb d0 d1 d2 d3 h0 n0 _ T111.heap _
  rw [e111]
  exact ⟨rfl, N111, K111, V111⟩
theorem ef_rmCp4 (m : MethodId) (ca : Addr) : entryFrame m #[(.ref ca), (.int (0 : Int32)), (.int (4 : Int32))] 6 = mkF m 0 #[.val (.ref ca), .val (.int (0 : Int32)), .val (.int (4 : Int32)), .unset, .unset, .unset] [] := by first | (simp [entryFrame, mkF, argsToLocals, Value.category]; done) | rfl
def Q_rmCp4 (Z : State) (ca : Addr) (kc : ClassId) (d0 : Int32) (d1 : Int32) (d2 : Int32) (d3 : Int32) (h0 : Heap) (n0 : Nat) (v : Option Value) (h : Heap) (L : List Loc) : Prop := (∃ (b : Addr) (kb : ClassId), v = some (.ref b) ∧ n0 ≤ b ∧ h0.size ≤ b ∧ Arv Z h b kb .byte (4 : Int32) [(.int (bOf d0)), (.int (bOf d1)), (.int (bOf d2)), (.int (bOf d3))] (.int (0 : Int32))) ∧ Fr n0 L ∧ Keep h0 h []
set_option maxRecDepth 65536 in
set_option maxHeartbeats 40000000 in
theorem rmCp4 (l : Launch) (Z : State) (a0 : Array Value) (hw : ∀ d ∈ tables_1, d.before a0 Z = true) (ws : List Jvm.Cond) (ca : Addr) (kc : ClassId) (d0 : Int32) (d1 : Int32) (d2 : Int32) (d3 : Int32) (h0 : Heap) (n0 : Nat) (Z0 : n0 ≤ h0.size) (P0 : Arv Z h0 ca kc .char (4 : Int32) [(.int d0), (.int d1), (.int d2), (.int d3)] (.int (0 : Int32))) (r_d0 : R8 d0) (r_d1 : R8 d1) (r_d2 : R8 d2) (r_d3 : R8 d3) :
    MetFree l (⟨"java/lang/StringUTF16", "compress", "([CII)[B"⟩ : MethodName) (head1 (Jvm.Cond.code (⟨"java/lang/StringUTF16", "compress", "([CII)[B"⟩ : MethodName) jdk_52_method_16_code 6 (some (.array .byte)) :: ws) ({ frames := 1, cells := 1, slots := 4, locals := 18 } : Room)) (fun a U => a = #[(.ref ca), (.int (0 : Int32)), (.int (4 : Int32))] ∧ Z.Warmed39 U.vm ∧ U.heap = h0) (fun _ _ _ _ _ => True) (fun _ U o U' => ∃ v L, o = .returned v ∧ Q_rmCp4 Z ca kc d0 d1 d2 d3 h0 n0 v U'.heap L ∧ FrameEnd U o U' L ({ frames := 1, cells := 1, slots := 4, locals := 18 } : Room).cells ({ frames := 1, cells := 1, slots := 4, locals := 18 } : Room).slots) := by
  refine MetFree.of_bodySF (plainFor_of_name pn_java_lang_StringUTF16) hisR ?_
  intro p e s m args below meth c s₁ Bd hml0 hP hK
  obtain ⟨rfl, hZ, hh⟩ := hP
  have hx := Bd.exec
  have hby := Bd.bytes
  have hml : c.maxLocals = 6 := hml0
  have hown : s.vm.findClass "java/lang/StringUTF16" = some m.cls := findClass_of_methodNamed Bd.named
  have hnm := (name_of_methodNamed Bd.named Bd.method).1
  have X0 : Stand p l e ({ frames := 1, cells := 1, slots := 4, locals := 18 } : Room) s m #[(.ref ca), (.int (0 : Int32)), (.int (4 : Int32))] below meth c s₁ [] 0 0 := Stand.of_body Bd
  have e0 : s₁.heap = h0 := by rw [← hh, Bd.state]; rfl
  have N0 := Fr.nil n0
  suffices hR : ∀ P : State → Prop, (∀ s₂ o v L, s₂.status = .running → Ended s₂ below o → o = .returned v → Q_rmCp4 Z ca kc d0 d1 d2 d3 h0 n0 v s₂.heap L → FrameEnd s o s₂ L ({ frames := 1, cells := 1, slots := 4, locals := 18 } : Room).cells ({ frames := 1, cells := 1, slots := 4, locals := 18 } : Room).slots → P s₂) → Rch p.tables e below P (s₁.setTop (mkF m 0 #[.val (.ref ca), .val (.int (0 : Int32)), .val (.int (4 : Int32)), .unset, .unset, .unset] [])) by
    obtain ⟨s₂, h1, o, h2⟩ := hR (fun s₂ => ∃ o, s₂.status = .running ∧ Ended s₂ below o ∧ ∃ v L, o = .returned v ∧ Q_rmCp4 Z ca kc d0 d1 d2 d3 h0 n0 v s₂.heap L ∧ FrameEnd s o s₂ L ({ frames := 1, cells := 1, slots := 4, locals := 18 } : Room).cells ({ frames := 1, cells := 1, slots := 4, locals := 18 } : Room).slots) (fun s₂ o v L q1 q2 q3 q4 q5 => ⟨o, q1, q2, v, L, q3, q4, q5⟩)
    exact ⟨s₂, o, castTop (ef_rmCp4 m ca) h1, h2⟩
  intro P hPd
  refine Rch.go (fun zt zk => XS.iloadN X0.here hx rfl (hb hby d13_0) rfl zk) ?_
  obtain ⟨T101, h101, k101, X101, e101, E101, A101, st101⟩ := newP X0 hx hZ (aty := .byte) (ow23 hw) e0 (g := (mkF m 1 #[.val (.ref ca), .val (.int (0 : Int32)), .val (.int (4 : Int32)), .unset, .unset, .unset] [(.int (4 : Int32))])) rfl (hb hby d13_1) rfl (by decide) (cap := 4) (by decide) (by decide) (by decide) (by decide)
  obtain ⟨b101, g101⟩ : ∃ z, z = h0.size := ⟨_, rfl⟩
  rw [← g101] at A101 st101
  refine Rch.go st101 ?_
  have ne_ca_b101 : ca ≠ b101 := by have q := P0.lt; rw [g101]; exact Nat.ne_of_lt q
  have ge101 : n0 ≤ b101 := by rw [g101]; exact Z0
  have gk101 : h0.size ≤ b101 := by rw [g101]; exact (Keep.refl h0 []).1
  have K101 := (Keep.refl h0 []).ext E101
  have V101 : Arv Z h101 b101 k101 .byte (4 : Int32) [(.int (0 : Int32)), (.int (0 : Int32)), (.int (0 : Int32)), (.int (0 : Int32))] (.int (0 : Int32)) := (Arv.new A101 (by decide)).pad (pad_rep [] (.int (0 : Int32)) 4)
  refine Rch.go (fun zt zk => XS.astoreN X101.here hx rfl (hb hby d13_3) rfl rfl (l' := #[.val (.ref ca), .val (.int (0 : Int32)), .val (.int (4 : Int32)), .val (.ref b101), .unset, .unset]) rfl zk) ?_
  refine Rch.go (fun zt zk => XS.aloadN X101.here hx rfl (hb hby d13_4) rfl rfl zk) ?_
  show Rch _ _ _ _ (T101.setTop (mkF m 5 #[.val (.ref ca), .val (.int (0 : Int32)), .val (.int (4 : Int32)), .val (.ref b101), .unset, .unset] [(.ref ca)]))
  refine Rch.go (fun zt zk => XS.iloadN X101.here hx rfl (hb hby d13_5) rfl zk) ?_
  refine Rch.go (fun zt zk => XS.aloadN X101.here hx rfl (hb hby d13_6) rfl rfl zk) ?_
  refine Rch.go (fun zt zk => XS.iconst X101.here hx rfl (hb hby d13_7) zk) ?_
  refine Rch.go (fun zt zk => XS.iloadN X101.here hx rfl (hb hby d13_8) rfl zk) ?_
  show Rch _ _ _ _ (T101.setTop (mkF m 9 #[.val (.ref ca), .val (.int (0 : Int32)), .val (.int (4 : Int32)), .val (.ref b101), .unset, .unset] [(.int (4 : Int32)), (.int (0 : Int32)), (.ref b101), (.int (0 : Int32)), (.ref ca)]))
  have f103 := (P0.ext E101)
  have f104 := (Nat.le_trans Z0 E101.1)
  obtain ⟨_, _, ⟨T102, L102, k102, n102⟩, -, X102, ⟨Lc102, hQ102, l102, y102, z102⟩, st102⟩ := Jvm.LawKit.callS X101 hx (y := (⟨"java/lang/StringUTF16", "compress", "([CI[BII)I"⟩ : MethodName)) hown (mvT hZ (ow67 hw)) (mvT hZ (ow68 hw)) (mvT hZ (ow65 hw)) (mvT hZ (ow69 hw)) (by decide) (backOf (W := 0) (rmCpL4 l Z a0 hw [] (ca) (b101) (kc) (k101) (d0) (d1) (d2) (d3) h101 n0 f104 (f103) (V101) (ne_ca_b101) (ge101) (r_d0) (r_d1) (r_d2) (r_d3)) hZ (ow69 hw) (ow65 hw) (by decide) (by decide)) (g := (mkF m 9 #[.val (.ref ca), .val (.int (0 : Int32)), .val (.int (4 : Int32)), .val (.ref b101), .unset, .unset] [(.int (4 : Int32)), (.int (0 : Int32)), (.ref b101), (.int (0 : Int32)), (.ref ca)])) rfl (by rw [hml]; rfl) (argsL := [(.ref ca), (.int (0 : Int32)), (.ref b101), (.int (0 : Int32)), (.int (4 : Int32))]) (rest := []) (lenOf pd___CI_BII_I rfl) rfl (by show 2 * 0 + _ ≤ _; exact Nat.le_of_eq rfl) (hb hby d13_9) (fun _ _ => ⟨rfl, e101, (by decide : 1 + 0 ≤ _), (by decide : 4 + 0 ≤ _)⟩)
  dsimp only [Pt.U, Pt.locs, Pt.cells, Pt.slots] at X102 l102 y102 z102 st102 hQ102
  rw [l102, y102, z102] at X102
  obtain ⟨rfl, N102q, K102q, O102_0⟩ := hQ102
  have N102 := Fr.app N0 N102q
  have K102 := Keep.trans K101 K102q (allS (Or.inr gk101) all0)
  refine Rch.go st102 ?_
  refine Rch.go (fun zt zk => XS.istore X102.here hx rfl (hb hby d13_12) rfl (l' := #[.val (.ref ca), .val (.int (0 : Int32)), .val (.int (4 : Int32)), .val (.ref b101), .val (.int (4 : Int32)), .unset]) rfl zk) ?_
  refine Rch.go (fun zt zk => XS.iload X102.here hx rfl (hb hby d13_14) rfl zk) ?_
  refine Rch.go (fun zt zk => XS.iloadN X102.here hx rfl (hb hby d13_16) rfl zk) ?_
  show Rch _ _ _ _ (T102.setTop (mkF m 17 #[.val (.ref ca), .val (.int (0 : Int32)), .val (.int (4 : Int32)), .val (.ref b101), .val (.int (4 : Int32)), .unset] [(.int (4 : Int32)), (.int (4 : Int32))]))
  refine Rch.go (fun zt zk => XS.icmpYes X102.here hx rfl (pc0 := 17) (pc' := 57) rfl (hb hby d13_17) rfl (teq (by decide : (4 : Int32) = (4 : Int32))).1 (by decide) (by decide) zk) ?_
  refine Rch.go (fun zt zk => XS.aloadN X102.here hx rfl (hb hby d13_57) rfl rfl zk) ?_
  obtain ⟨fs, hr, hrun, hended, hW, hsame⟩ := X102.leave (v := some (.ref b101)) (fun h => by rw [Bd.returns] at h; cases h)
  have hend : Steps p.tables e below (T102.setTop (mkF m 58 #[.val (.ref ca), .val (.int (0 : Int32)), .val (.int (4 : Int32)), .val (.ref b101), .val (.int (4 : Int32)), .unset] [(.ref b101)])) (T102.setFrames fs) := by
    jvm_step X102.here [X102.here.top, hx, (hb hby d13_58), X102.method', Bd.returns, Value.isRef, FieldType.isReference]
    first | (intro acts; rw [hr _ acts rfl rfl rfl]) | rw [hr _ _ rfl rfl rfl]
    exact Steps.refl _
  refine Rch.mk (hend) (hPd _ _ _ _ hrun hended rfl ?_ ⟨⟨_, rfl⟩, hW, hsame.mono (by decide) (by decide)⟩)
  show Q_rmCp4 Z ca kc d0 d1 d2 d3 h0 n0 _ T102.heap _
  exact ⟨⟨b101, _, rfl, ge101, gk101, O102_0⟩, N102, K102⟩
theorem ef_rmCi4 (m : MethodId) (a1 : Addr) (ca : Addr) : entryFrame m #[(.ref a1), (.ref ca), (.int (0 : Int32)), (.int (4 : Int32)), .null] 6 = mkF m 0 #[.val (.ref a1), .val (.ref ca), .val (.int (0 : Int32)), .val (.int (4 : Int32)), .val .null, .unset] [] := by first | (simp [entryFrame, mkF, argsToLocals, Value.category]; done) | rfl
def Q_rmCi4 (Z : State) (a1 : Addr) (ca : Addr) (kc : ClassId) (cz : Int32) (d0 : Int32) (d1 : Int32) (d2 : Int32) (d3 : Int32) (h0 : Heap) (n0 : Nat) (v : Option Value) (h : Heap) (L : List Loc) : Prop := v = none ∧ Fr n0 L ∧ Keep h0 h [a1] ∧ Exa Z h a1 "java/lang/String" ∧ Fld Z h a1 "java/lang/String" "coder" "B" (.int (nar .byte (0 : Int32))) ∧ ∃ (b : Addr) (kb : ClassId), n0 ≤ b ∧ h0.size ≤ b ∧ Fld Z h a1 "java/lang/String" "value" "[B" (.ref b) ∧ Arv Z h b kb .byte (4 : Int32) [(.int (bOf d0)), (.int (bOf d1)), (.int (bOf d2)), (.int (bOf d3))] (.int (0 : Int32))
set_option maxRecDepth 65536 in
set_option maxHeartbeats 40000000 in
theorem rmCi4 (l : Launch) (Z : State) (a0 : Array Value) (hw : ∀ d ∈ tables_1, d.before a0 Z = true) (ws : List Jvm.Cond) (a1 : Addr) (ca : Addr) (kc : ClassId) (cz : Int32) (d0 : Int32) (d1 : Int32) (d2 : Int32) (d3 : Int32) (h0 : Heap) (n0 : Nat) (Z0 : n0 ≤ h0.size) (P0 : Exa Z h0 a1 "java/lang/String") (P1 : Fld Z h0 a1 "java/lang/String" "value" "[B" .null) (P2 : Fld Z h0 a1 "java/lang/String" "coder" "B" (.int (0 : Int32))) (P3 : Arv Z h0 ca kc .char (4 : Int32) [(.int d0), (.int d1), (.int d2), (.int d3)] (.int (0 : Int32))) (P4 : Old Z n0 h0) (P5 : Sta Z Z.heap "java/lang/String" "COMPACT_STRINGS" "Z" (.int cz)) (Pn0 : ca ≠ a1) (Pg_a1 : n0 ≤ a1) (r_d0 : R8 d0) (r_d1 : R8 d1) (r_d2 : R8 d2) (r_d3 : R8 d3) (hcz : ¬ (cz = (0 : Int32))) :
    MetFree l (⟨"java/lang/String", "<init>", "([CIILjava/lang/Void;)V"⟩ : MethodName) (head1 (Jvm.Cond.code (⟨"java/lang/String", "<init>", "([CIILjava/lang/Void;)V"⟩ : MethodName) jdk_42_method_149_code 6 none :: ws) ({ frames := 2, cells := 1, slots := 4, locals := 35 } : Room)) (fun a U => a = #[(.ref a1), (.ref ca), (.int (0 : Int32)), (.int (4 : Int32)), .null] ∧ Z.Warmed39 U.vm ∧ U.heap = h0) (fun _ _ _ _ _ => True) (fun _ U o U' => ∃ v L, o = .returned v ∧ Q_rmCi4 Z a1 ca kc cz d0 d1 d2 d3 h0 n0 v U'.heap L ∧ FrameEnd U o U' L ({ frames := 2, cells := 1, slots := 4, locals := 35 } : Room).cells ({ frames := 2, cells := 1, slots := 4, locals := 35 } : Room).slots) := by
  refine MetFree.of_bodySF (plainFor_of_name pn_java_lang_String) hisR ?_
  intro p e s m args below meth c s₁ Bd hml0 hP hK
  obtain ⟨rfl, hZ, hh⟩ := hP
  have hx := Bd.exec
  have hby := Bd.bytes
  have hml : c.maxLocals = 6 := hml0
  have hown : s.vm.findClass "java/lang/String" = some m.cls := findClass_of_methodNamed Bd.named
  have hnm := (name_of_methodNamed Bd.named Bd.method).1
  have X0 : Stand p l e ({ frames := 2, cells := 1, slots := 4, locals := 35 } : Room) s m #[(.ref a1), (.ref ca), (.int (0 : Int32)), (.int (4 : Int32)), .null] below meth c s₁ [] 0 0 := Stand.of_body Bd
  have e0 : s₁.heap = h0 := by rw [← hh, Bd.state]; rfl
  have N0 := Fr.nil n0
  suffices hR : ∀ P : State → Prop, (∀ s₂ o v L, s₂.status = .running → Ended s₂ below o → o = .returned v → Q_rmCi4 Z a1 ca kc cz d0 d1 d2 d3 h0 n0 v s₂.heap L → FrameEnd s o s₂ L ({ frames := 2, cells := 1, slots := 4, locals := 35 } : Room).cells ({ frames := 2, cells := 1, slots := 4, locals := 35 } : Room).slots → P s₂) → Rch p.tables e below P (s₁.setTop (mkF m 0 #[.val (.ref a1), .val (.ref ca), .val (.int (0 : Int32)), .val (.int (4 : Int32)), .val .null, .unset] [])) by
    obtain ⟨s₂, h1, o, h2⟩ := hR (fun s₂ => ∃ o, s₂.status = .running ∧ Ended s₂ below o ∧ ∃ v L, o = .returned v ∧ Q_rmCi4 Z a1 ca kc cz d0 d1 d2 d3 h0 n0 v s₂.heap L ∧ FrameEnd s o s₂ L ({ frames := 2, cells := 1, slots := 4, locals := 35 } : Room).cells ({ frames := 2, cells := 1, slots := 4, locals := 35 } : Room).slots) (fun s₂ o v L q1 q2 q3 q4 q5 => ⟨o, q1, q2, v, L, q3, q4, q5⟩)
    exact ⟨s₂, o, castTop (ef_rmCi4 m a1 ca) h1, h2⟩
  intro P hPd
  refine Rch.go (fun zt zk => XS.aloadN X0.here hx rfl (hb hby d4_0) rfl rfl zk) ?_
  obtain ⟨T101, X101, e101, st101⟩ := initO X0 hx hZ hown (ow19 hw) (ow20 hw) (ow21 hw) e0 (g := (mkF m 1 #[.val (.ref a1), .val (.ref ca), .val (.int (0 : Int32)), .val (.int (4 : Int32)), .val .null, .unset] [(.ref a1)])) rfl (by rw [hml]; rfl) rfl (hb hby d4_1) (by decide) (W := 0) (by show 2 * 0 + _ ≤ _; exact Nat.le_of_eq rfl) (by decide)
  refine Rch.go st101 ?_
  refine Rch.go (fun zt zk => XS.iloadN X101.here hx rfl (hb hby d4_4) rfl zk) ?_
  refine Rch.go (fun zt zk => XS.ifYes X101.here hx rfl (pc0 := 5) (pc' := 27) rfl (hb hby d4_5) rfl ((if0 _ _).trans (feq (by decide : ¬ ((4 : Int32) = (0 : Int32)))).2) (by decide) (by decide) zk) ?_
  show Rch _ _ _ _ (T101.setTop (mkF m 27 #[.val (.ref a1), .val (.ref ca), .val (.int (0 : Int32)), .val (.int (4 : Int32)), .val .null, .unset] []))
  have f102 := P5.ext P4.2
  obtain ⟨T103, X103, e103, st103⟩ := getS2 X101 hx hZ hown (host := "") (Or.inl (ow44 hw)) Via.refl e101 f102 (g := (mkF m 27 #[.val (.ref a1), .val (.ref ca), .val (.int (0 : Int32)), .val (.int (4 : Int32)), .val .null, .unset] [])) rfl (hb hby d4_27)
  refine Rch.go st103 ?_
  refine Rch.go (fun zt zk => XS.ifNo X103.here hx rfl (hb hby d4_30) rfl ((if0 _ _).trans (feq (hcz : ¬ (cz = (0 : Int32)))).1) zk) ?_
  refine Rch.go (fun zt zk => XS.aloadN X103.here hx rfl (hb hby d4_33) rfl rfl zk) ?_
  refine Rch.go (fun zt zk => XS.iloadN X103.here hx rfl (hb hby d4_34) rfl zk) ?_
  show Rch _ _ _ _ (T103.setTop (mkF m 35 #[.val (.ref a1), .val (.ref ca), .val (.int (0 : Int32)), .val (.int (4 : Int32)), .val .null, .unset] [(.int (0 : Int32)), (.ref ca)]))
  refine Rch.go (fun zt zk => XS.iloadN X103.here hx rfl (hb hby d4_35) rfl zk) ?_
  obtain ⟨_, _, ⟨T104, L104, k104, n104⟩, -, X104, ⟨Lc104, hQ104, l104, y104, z104⟩, st104⟩ := Jvm.LawKit.callS X103 hx (y := (⟨"java/lang/StringUTF16", "compress", "([CII)[B"⟩ : MethodName)) hown (mvT hZ (ow63 hw)) (mvT hZ (ow64 hw)) (mvT hZ (ow65 hw)) (mvT hZ (ow66 hw)) (by decide) (backOf (W := 0) (rmCp4 l Z a0 hw [] (ca) (kc) (d0) (d1) (d2) (d3) h0 n0 Z0 (P3) (r_d0) (r_d1) (r_d2) (r_d3)) hZ (ow66 hw) (ow65 hw) (by decide) (by decide)) (g := (mkF m 36 #[.val (.ref a1), .val (.ref ca), .val (.int (0 : Int32)), .val (.int (4 : Int32)), .val .null, .unset] [(.int (4 : Int32)), (.int (0 : Int32)), (.ref ca)])) rfl (by rw [hml]; rfl) (argsL := [(.ref ca), (.int (0 : Int32)), (.int (4 : Int32))]) (rest := []) (lenOf pd___CII__B rfl) rfl (by show 2 * 0 + _ ≤ _; exact Nat.le_of_eq rfl) (hb hby d4_36) (fun _ _ => ⟨rfl, e103, (by decide : 0 + 1 ≤ _), (by decide : 0 + 4 ≤ _)⟩)
  dsimp only [Pt.U, Pt.locs, Pt.cells, Pt.slots] at X104 l104 y104 z104 st104 hQ104
  rw [l104, y104, z104] at X104
  obtain ⟨⟨b104, kb104, rfl, gb104, gh104, V104⟩, N104q, K104q⟩ := hQ104
  have N104 := Fr.app N0 N104q
  have ne_a1_b104 : a1 ≠ b104 := Nat.ne_of_lt (Nat.lt_of_lt_of_le P0.lt gh104)
  have ne_ca_b104 : ca ≠ b104 := Nat.ne_of_lt (Nat.lt_of_lt_of_le P3.lt gh104)
  have gk104 : h0.size ≤ b104 := Nat.le_trans (Keep.refl h0 [a1]).1 gh104
  have K104 := Keep.trans (Keep.refl h0 [a1]) K104q all0
  refine Rch.go st104 ?_
  refine Rch.go (fun zt zk => XS.astore X104.here hx rfl (hb hby d4_39) rfl rfl (l' := #[.val (.ref a1), .val (.ref ca), .val (.int (0 : Int32)), .val (.int (4 : Int32)), .val .null, .val (.ref b104)]) rfl zk) ?_
  refine Rch.go (fun zt zk => XS.aloadN X104.here hx rfl (hb hby d4_41) rfl rfl zk) ?_
  show Rch _ _ _ _ (T104.setTop (mkF m 42 #[.val (.ref a1), .val (.ref ca), .val (.int (0 : Int32)), .val (.int (4 : Int32)), .val .null, .val (.ref b104)] [(.ref a1)]))
  refine Rch.go (fun zt zk => XS.aload X104.here hx rfl (hb hby d4_42) rfl rfl zk) ?_
  refine Rch.go (fun zt zk => XS.iloadN X104.here hx rfl (hb hby d4_44) rfl zk) ?_
  have f106 := (Nat.le_trans Z0 K104q.1)
  obtain ⟨_, _, ⟨T105, L105, k105, n105⟩, -, X105, ⟨Lc105, hQ105, l105, y105, z105⟩, st105⟩ := Jvm.LawKit.callS X104 hx (y := (⟨"java/lang/StringUTF16", "coderFromArrayLen", "([BI)B"⟩ : MethodName)) hown (mvT hZ (ow70 hw)) (mvT hZ (ow71 hw)) (mvT hZ (ow65 hw)) (mvT hZ (ow72 hw)) (by decide) (backOf (W := 1) (rm15 l Z a0 hw [] (b104) ((4 : Int32)) (kb104) ((4 : Int32)) ([(.int (bOf d0)), (.int (bOf d1)), (.int (bOf d2)), (.int (bOf d3))]) T104.heap n0 f106 (V104)) hZ (ow72 hw) (ow65 hw) (by decide) (by decide)) (g := (mkF m 45 #[.val (.ref a1), .val (.ref ca), .val (.int (0 : Int32)), .val (.int (4 : Int32)), .val .null, .val (.ref b104)] [(.int (4 : Int32)), (.ref b104), (.ref a1)])) rfl (by rw [hml]; rfl) (argsL := [(.ref b104), (.int (4 : Int32))]) (rest := [(.ref a1)]) (lenOf pd___BI_B rfl) rfl (by show 2 * 0 + _ ≤ _; exact Nat.le_of_eq rfl) (hb hby d4_45) (fun _ _ => ⟨rfl, rfl, (by decide : 1 + 0 ≤ _), (by decide : 4 + 0 ≤ _)⟩)
  dsimp only [Pt.U, Pt.locs, Pt.cells, Pt.slots] at X105 l105 y105 z105 st105 hQ105
  rw [l105, y105, z105] at X105
  obtain ⟨rfl, N105q, eq105⟩ := hQ105
  have N105 := Fr.app N104 N105q
  refine Rch.go st105 ?_
  have hcd : (nar .byte (((((4 : Int32) - (4 : Int32)).toUInt32 >>> ((31 : Int32) &&& 31).toUInt32).toInt32).toInt8.toInt32)) = (0 : Int32) := by decide
  rw [hcd]
  show Rch _ _ _ _ (T105.setTop (mkF m 48 #[.val (.ref a1), .val (.ref ca), .val (.int (0 : Int32)), .val (.int (4 : Int32)), .val .null, .val (.ref b104)] [(.int (0 : Int32)), (.ref a1)]))
  have f107 := (P0.keep K104q)
  have f108 := (P2.keep K104q nin0)
  obtain ⟨T109, h109, X109, e109, W109, st109⟩ := putFN X105 hx hZ hown (ow29 hw) Via.refl eq105 f108 f107 (Or.inr ⟨(ow25 hw), rfl, hnm⟩) (ow10 hw) (ty := .byte) (v' := (.int (nar .byte (0 : Int32)))) (by decide) rfl (fits_nar_byte _) (g := (mkF m 48 #[.val (.ref a1), .val (.ref ca), .val (.int (0 : Int32)), .val (.int (4 : Int32)), .val .null, .val (.ref b104)] [(.int (0 : Int32)), (.ref a1)])) rfl rfl (hb hby d4_48)
  refine Rch.go st109 ?_
  have Fw109 := f108.same W109
  have N109 := Fr.snoc X109 N105 Pg_a1
  have K109 : Keep h0 h109 [a1] := Keep.wr K104 W109 (Or.inl (List.mem_of_getElem? (i := 0) rfl))
  refine Rch.go (fun zt zk => XS.aloadN X109.here hx rfl (hb hby d4_51) rfl rfl zk) ?_
  refine Rch.go (fun zt zk => XS.aload X109.here hx rfl (hb hby d4_52) rfl rfl zk) ?_
  have f110 := (f107.wr W109)
  have f111 := ((P1.keep K104q nin0).other W109 (Or.inr (slot_ne (Or.inr (ow24 hw)) (Or.inr (ow25 hw)) (by decide) (t := (.array .byte)) (t' := .byte) (by decide) (by decide))))
  obtain ⟨T112, h112, X112, e112, W112, st112⟩ := putF X109 hx hZ hown (host := "") (Or.inl (ow28 hw)) Via.refl e109 f111 f110 (Or.inr ⟨(ow24 hw), rfl, hnm⟩) (ow10 hw) (ty := (.array .byte)) (by decide) rfl rfl (g := (mkF m 54 #[.val (.ref a1), .val (.ref ca), .val (.int (0 : Int32)), .val (.int (4 : Int32)), .val .null, .val (.ref b104)] [(.ref b104), (.ref a1)])) rfl rfl (hb hby d4_54)
  refine Rch.go st112 ?_
  have Fw112 := f111.same W112
  have N112 := Fr.snoc X112 N109 Pg_a1
  have K112 : Keep h0 h112 [a1] := Keep.wr K109 W112 (Or.inl (List.mem_of_getElem? (i := 0) rfl))
  show Rch _ _ _ _ (T112.setTop (mkF m 57 #[.val (.ref a1), .val (.ref ca), .val (.int (0 : Int32)), .val (.int (4 : Int32)), .val .null, .val (.ref b104)] []))
  obtain ⟨fs, hr, hrun, hended, hW, hsame⟩ := X112.leave (v := none) (fun _ => rfl)
  refine Rch.mk (X112.returnOut hx Bd.returns (hb hby d4_57) hr) (hPd _ _ _ _ hrun hended rfl ?_ ⟨⟨_, rfl⟩, hW, hsame.mono (by decide) (by decide)⟩)
  show Q_rmCi4 Z a1 ca kc cz d0 d1 d2 d3 h0 n0 _ T112.heap _
  rw [e112]
  have f113 := (f110.wr W112)
  have f114 := (Fw109.other W112 (Or.inr (slot_ne (Or.inr (ow25 hw)) (Or.inr (ow24 hw)) (by decide) (t := .byte) (t' := (.array .byte)) (by decide) (by decide))))
  have f115 := ((V104.other W109 (Ne.symm ne_a1_b104)).other W112 (Ne.symm ne_a1_b104))
  exact ⟨rfl, N112, K112, f113, f114, b104, _, gb104, gk104, Fw112, f115⟩
theorem ef_rmC4 (m : MethodId) (a1 : Addr) (ca : Addr) : entryFrame m #[(.ref a1), (.ref ca)] 2 = mkF m 0 #[.val (.ref a1), .val (.ref ca)] [] := by first | (simp [entryFrame, mkF, argsToLocals, Value.category]; done) | rfl
def Q_rmC4 (Z : State) (a1 : Addr) (ca : Addr) (kc : ClassId) (cz : Int32) (d0 : Int32) (d1 : Int32) (d2 : Int32) (d3 : Int32) (h0 : Heap) (n0 : Nat) (v : Option Value) (h : Heap) (L : List Loc) : Prop := v = none ∧ Fr n0 L ∧ Keep h0 h [a1] ∧ Exa Z h a1 "java/lang/String" ∧ Fld Z h a1 "java/lang/String" "coder" "B" (.int (nar .byte (0 : Int32))) ∧ ∃ (b : Addr) (kb : ClassId), n0 ≤ b ∧ h0.size ≤ b ∧ Fld Z h a1 "java/lang/String" "value" "[B" (.ref b) ∧ Arv Z h b kb .byte (4 : Int32) [(.int (bOf d0)), (.int (bOf d1)), (.int (bOf d2)), (.int (bOf d3))] (.int (0 : Int32))
set_option maxRecDepth 65536 in
set_option maxHeartbeats 40000000 in
theorem rmC4 (l : Launch) (Z : State) (a0 : Array Value) (hw : ∀ d ∈ tables_1, d.before a0 Z = true) (ws : List Jvm.Cond) (a1 : Addr) (ca : Addr) (kc : ClassId) (cz : Int32) (d0 : Int32) (d1 : Int32) (d2 : Int32) (d3 : Int32) (h0 : Heap) (n0 : Nat) (Z0 : n0 ≤ h0.size) (P0 : Exa Z h0 a1 "java/lang/String") (P1 : Fld Z h0 a1 "java/lang/String" "value" "[B" .null) (P2 : Fld Z h0 a1 "java/lang/String" "coder" "B" (.int (0 : Int32))) (P3 : Arv Z h0 ca kc .char (4 : Int32) [(.int d0), (.int d1), (.int d2), (.int d3)] (.int (0 : Int32))) (P4 : Old Z n0 h0) (P5 : Sta Z Z.heap "java/lang/String" "COMPACT_STRINGS" "Z" (.int cz)) (Pn0 : ca ≠ a1) (Pg_a1 : n0 ≤ a1) (r_d0 : R8 d0) (r_d1 : R8 d1) (r_d2 : R8 d2) (r_d3 : R8 d3) (hcz : ¬ (cz = (0 : Int32))) :
    MetFree l (⟨"java/lang/String", "<init>", "([C)V"⟩ : MethodName) (head1 (Jvm.Cond.code (⟨"java/lang/String", "<init>", "([C)V"⟩ : MethodName) jdk_42_method_3_code 2 none :: ws) ({ frames := 3, cells := 1, slots := 4, locals := 52 } : Room)) (fun a U => a = #[(.ref a1), (.ref ca)] ∧ Z.Warmed39 U.vm ∧ U.heap = h0) (fun _ _ _ _ _ => True) (fun _ U o U' => ∃ v L, o = .returned v ∧ Q_rmC4 Z a1 ca kc cz d0 d1 d2 d3 h0 n0 v U'.heap L ∧ FrameEnd U o U' L ({ frames := 3, cells := 1, slots := 4, locals := 52 } : Room).cells ({ frames := 3, cells := 1, slots := 4, locals := 52 } : Room).slots) := by
  refine MetFree.of_bodySF (plainFor_of_name pn_java_lang_String) hisR ?_
  intro p e s m args below meth c s₁ Bd hml0 hP hK
  obtain ⟨rfl, hZ, hh⟩ := hP
  have hx := Bd.exec
  have hby := Bd.bytes
  have hml : c.maxLocals = 2 := hml0
  have hown : s.vm.findClass "java/lang/String" = some m.cls := findClass_of_methodNamed Bd.named
  have hnm := (name_of_methodNamed Bd.named Bd.method).1
  have X0 : Stand p l e ({ frames := 3, cells := 1, slots := 4, locals := 52 } : Room) s m #[(.ref a1), (.ref ca)] below meth c s₁ [] 0 0 := Stand.of_body Bd
  have e0 : s₁.heap = h0 := by rw [← hh, Bd.state]; rfl
  have N0 := Fr.nil n0
  suffices hR : ∀ P : State → Prop, (∀ s₂ o v L, s₂.status = .running → Ended s₂ below o → o = .returned v → Q_rmC4 Z a1 ca kc cz d0 d1 d2 d3 h0 n0 v s₂.heap L → FrameEnd s o s₂ L ({ frames := 3, cells := 1, slots := 4, locals := 52 } : Room).cells ({ frames := 3, cells := 1, slots := 4, locals := 52 } : Room).slots → P s₂) → Rch p.tables e below P (s₁.setTop (mkF m 0 #[.val (.ref a1), .val (.ref ca)] [])) by
    obtain ⟨s₂, h1, o, h2⟩ := hR (fun s₂ => ∃ o, s₂.status = .running ∧ Ended s₂ below o ∧ ∃ v L, o = .returned v ∧ Q_rmC4 Z a1 ca kc cz d0 d1 d2 d3 h0 n0 v s₂.heap L ∧ FrameEnd s o s₂ L ({ frames := 3, cells := 1, slots := 4, locals := 52 } : Room).cells ({ frames := 3, cells := 1, slots := 4, locals := 52 } : Room).slots) (fun s₂ o v L q1 q2 q3 q4 q5 => ⟨o, q1, q2, v, L, q3, q4, q5⟩)
    exact ⟨s₂, o, castTop (ef_rmC4 m a1 ca) h1, h2⟩
  intro P hPd
  refine Rch.go (fun zt zk => XS.aloadN X0.here hx rfl (hb hby d3_0) rfl rfl zk) ?_
  refine Rch.go (fun zt zk => XS.aloadN X0.here hx rfl (hb hby d3_1) rfl rfl zk) ?_
  refine Rch.go (fun zt zk => XS.iconst X0.here hx rfl (hb hby d3_2) zk) ?_
  refine Rch.go (fun zt zk => XS.aloadN X0.here hx rfl (hb hby d3_3) rfl rfl zk) ?_
  show Rch _ _ _ _ (s₁.setTop (mkF m 4 #[.val (.ref a1), .val (.ref ca)] [(.ref ca), (.int (0 : Int32)), (.ref ca), (.ref a1)]))
  obtain ⟨cl101, Ar101, q101, S101, M101, H101, G101⟩ := id P3
  refine Rch.go (X0.arraylength hx (by rw [e0]; exact Ar101.1) (State.isArrayOf_alike hZ.alike Ar101.2.1) (g := (mkF m 4 #[.val (.ref a1), .val (.ref ca)] [(.ref ca), (.int (0 : Int32)), (.ref ca), (.ref a1)])) rfl rfl (hb hby d3_4)) ?_
  rw [len_of S101 M101]
  refine Rch.go (fun zt zk => XS.aconstNull X0.here hx rfl (hb hby d3_5) zk) ?_
  obtain ⟨_, _, ⟨T102, L102, k102, n102⟩, -, X102, ⟨Lc102, hQ102, l102, y102, z102⟩, st102⟩ := X0.specialBack hx (y := (⟨"java/lang/String", "<init>", "([CIILjava/lang/Void;)V"⟩ : MethodName)) rfl hown (mvT hZ (ow15 hw)) (mvT hZ (ow16 hw)) (mvT hZ (ow18 hw)) (by decide) (backOf (W := 0) (rmCi4 l Z a0 hw [] (a1) (ca) (kc) (cz) (d0) (d1) (d2) (d3) h0 n0 Z0 (P0) (P1) (P2) (P3) (P4) (P5) (Pn0) (Pg_a1) (r_d0) (r_d1) (r_d2) (r_d3) (hcz)) hZ (ow18 hw) (ow11 hw) (by decide) (by decide)) (g := (mkF m 6 #[.val (.ref a1), .val (.ref ca)] [.null, (.int (4 : Int32)), (.int (0 : Int32)), (.ref ca), (.ref a1)])) rfl (by rw [hml]; rfl) (Steps.refl _) (a := a1) (argsL := [(.ref ca), (.int (0 : Int32)), (.int (4 : Int32)), .null]) (rest := []) (lenOf pd___CIILjava_lang_Void__V rfl) rfl (by show 2 * 0 + _ ≤ _; exact Nat.le_of_eq rfl) (hb hby d3_6) (fun _ _ => ⟨rfl, e0, (by decide : 0 + 1 ≤ _), (by decide : 0 + 4 ≤ _)⟩)
  dsimp only [Pt.U, Pt.locs, Pt.cells, Pt.slots] at X102 l102 y102 z102 st102 hQ102
  rw [l102, y102, z102] at X102
  obtain ⟨rfl, N102q, K102q, E102, C102, b102, kb102, gb102, gh102, U102, V102⟩ := hQ102
  have N102 := Fr.app N0 N102q
  have ne_a1_b102 : a1 ≠ b102 := Nat.ne_of_lt (Nat.lt_of_lt_of_le P0.lt gh102)
  have ne_ca_b102 : ca ≠ b102 := Nat.ne_of_lt (Nat.lt_of_lt_of_le P3.lt gh102)
  have gk102 : h0.size ≤ b102 := Nat.le_trans (Keep.refl h0 [a1]).1 gh102
  have K102 := Keep.trans (Keep.refl h0 [a1]) K102q (allS (Or.inl (List.mem_of_getElem? (i := 0) rfl)) all0)
  refine Rch.go (fun zt zk => st102.trans zk) ?_
  obtain ⟨fs, hr, hrun, hended, hW, hsame⟩ := X102.leave (v := none) (fun _ => rfl)
  refine Rch.mk (X102.returnOut hx Bd.returns (hb hby d3_9) hr) (hPd _ _ _ _ hrun hended rfl ?_ ⟨⟨_, rfl⟩, hW, hsame.mono (by decide) (by decide)⟩)
  show Q_rmC4 Z a1 ca kc cz d0 d1 d2 d3 h0 n0 _ T102.heap _
  exact ⟨rfl, N102, K102, E102, C102, b102, _, gb102, gk102, U102, V102⟩
theorem ef_rmCpL5 (m : MethodId) (ca : Addr) (bb : Addr) : entryFrame m #[(.ref ca), (.int (0 : Int32)), (.ref bb), (.int (0 : Int32)), (.int (5 : Int32))] 7 = mkF m 0 #[.val (.ref ca), .val (.int (0 : Int32)), .val (.ref bb), .val (.int (0 : Int32)), .val (.int (5 : Int32)), .unset, .unset] [] := by first | (simp [entryFrame, mkF, argsToLocals, Value.category]; done) | rfl
def Q_rmCpL5 (Z : State) (ca : Addr) (bb : Addr) (kc : ClassId) (kb : ClassId) (d0 : Int32) (d1 : Int32) (d2 : Int32) (d3 : Int32) (d4 : Int32) (h0 : Heap) (n0 : Nat) (v : Option Value) (h : Heap) (L : List Loc) : Prop := v = some (.int (5 : Int32)) ∧ Fr n0 L ∧ Keep h0 h [bb] ∧ Arv Z h bb kb .byte (5 : Int32) [(.int (bOf d0)), (.int (bOf d1)), (.int (bOf d2)), (.int (bOf d3)), (.int (bOf d4))] (.int (0 : Int32))
set_option maxRecDepth 65536 in
set_option maxHeartbeats 40000000 in
theorem rmCpL5 (l : Launch) (Z : State) (a0 : Array Value) (hw : ∀ d ∈ tables_1, d.before a0 Z = true) (ws : List Jvm.Cond) (ca : Addr) (bb : Addr) (kc : ClassId) (kb : ClassId) (d0 : Int32) (d1 : Int32) (d2 : Int32) (d3 : Int32) (d4 : Int32) (h0 : Heap) (n0 : Nat) (Z0 : n0 ≤ h0.size) (P0 : Arv Z h0 ca kc .char (5 : Int32) [(.int d0), (.int d1), (.int d2), (.int d3), (.int d4)] (.int (0 : Int32))) (P1 : Arv Z h0 bb kb .byte (5 : Int32) [(.int (0 : Int32)), (.int (0 : Int32)), (.int (0 : Int32)), (.int (0 : Int32)), (.int (0 : Int32))] (.int (0 : Int32))) (Pn0 : ca ≠ bb) (Pg_bb : n0 ≤ bb) (r_d0 : R8 d0) (r_d1 : R8 d1) (r_d2 : R8 d2) (r_d3 : R8 d3) (r_d4 : R8 d4) :
    MetFree l (⟨"java/lang/StringUTF16", "compress", "([CI[BII)I"⟩ : MethodName) (head1 (Jvm.Cond.code (⟨"java/lang/StringUTF16", "compress", "([CI[BII)I"⟩ : MethodName) jdk_52_method_21_code 7 (some .int) :: ws) ({ frames := 0, cells := 0, slots := 0, locals := 0 } : Room)) (fun a U => a = #[(.ref ca), (.int (0 : Int32)), (.ref bb), (.int (0 : Int32)), (.int (5 : Int32))] ∧ Z.Warmed39 U.vm ∧ U.heap = h0) (fun _ _ _ _ _ => True) (fun _ U o U' => ∃ v L, o = .returned v ∧ Q_rmCpL5 Z ca bb kc kb d0 d1 d2 d3 d4 h0 n0 v U'.heap L ∧ FrameEnd U o U' L ({ frames := 0, cells := 0, slots := 0, locals := 0 } : Room).cells ({ frames := 0, cells := 0, slots := 0, locals := 0 } : Room).slots) := by
  refine MetFree.of_bodySF (plainFor_of_name pn_java_lang_StringUTF16) hisR ?_
  intro p e s m args below meth c s₁ Bd hml0 hP hK
  obtain ⟨rfl, hZ, hh⟩ := hP
  have hx := Bd.exec
  have hby := Bd.bytes
  have hml : c.maxLocals = 7 := hml0
  have hown : s.vm.findClass "java/lang/StringUTF16" = some m.cls := findClass_of_methodNamed Bd.named
  have hnm := (name_of_methodNamed Bd.named Bd.method).1
  have X0 : Stand p l e ({ frames := 0, cells := 0, slots := 0, locals := 0 } : Room) s m #[(.ref ca), (.int (0 : Int32)), (.ref bb), (.int (0 : Int32)), (.int (5 : Int32))] below meth c s₁ [] 0 0 := Stand.of_body Bd
  have e0 : s₁.heap = h0 := by rw [← hh, Bd.state]; rfl
  have N0 := Fr.nil n0
  suffices hR : ∀ P : State → Prop, (∀ s₂ o v L, s₂.status = .running → Ended s₂ below o → o = .returned v → Q_rmCpL5 Z ca bb kc kb d0 d1 d2 d3 d4 h0 n0 v s₂.heap L → FrameEnd s o s₂ L ({ frames := 0, cells := 0, slots := 0, locals := 0 } : Room).cells ({ frames := 0, cells := 0, slots := 0, locals := 0 } : Room).slots → P s₂) → Rch p.tables e below P (s₁.setTop (mkF m 0 #[.val (.ref ca), .val (.int (0 : Int32)), .val (.ref bb), .val (.int (0 : Int32)), .val (.int (5 : Int32)), .unset, .unset] [])) by
    obtain ⟨s₂, h1, o, h2⟩ := hR (fun s₂ => ∃ o, s₂.status = .running ∧ Ended s₂ below o ∧ ∃ v L, o = .returned v ∧ Q_rmCpL5 Z ca bb kc kb d0 d1 d2 d3 d4 h0 n0 v s₂.heap L ∧ FrameEnd s o s₂ L ({ frames := 0, cells := 0, slots := 0, locals := 0 } : Room).cells ({ frames := 0, cells := 0, slots := 0, locals := 0 } : Room).slots) (fun s₂ o v L q1 q2 q3 q4 q5 => ⟨o, q1, q2, v, L, q3, q4, q5⟩)
    exact ⟨s₂, o, castTop (ef_rmCpL5 m ca bb) h1, h2⟩
  intro P hPd
  refine Rch.go (fun zt zk => XS.iconst X0.here hx rfl (hb hby d14_0) zk) ?_
  refine Rch.go (fun zt zk => XS.istore X0.here hx rfl (hb hby d14_1) rfl (l' := #[.val (.ref ca), .val (.int (0 : Int32)), .val (.ref bb), .val (.int (0 : Int32)), .val (.int (5 : Int32)), .val (.int (0 : Int32)), .unset]) rfl zk) ?_
  refine Rch.go (fun zt zk => XS.iload X0.here hx rfl (hb hby d14_3) rfl zk) ?_
  refine Rch.go (fun zt zk => XS.iload X0.here hx rfl (hb hby d14_5) rfl zk) ?_
  show Rch _ _ _ _ (s₁.setTop (mkF m 7 #[.val (.ref ca), .val (.int (0 : Int32)), .val (.ref bb), .val (.int (0 : Int32)), .val (.int (5 : Int32)), .val (.int (0 : Int32)), .unset] [(.int (5 : Int32)), (.int (0 : Int32))]))
  refine Rch.go (fun zt zk => XS.icmpNo X0.here hx rfl (hb hby d14_7) rfl (tlt (by decide : (0 : Int32) < (5 : Int32))).2.1 zk) ?_
  refine Rch.go (fun zt zk => XS.aloadN X0.here hx rfl (hb hby d14_10) rfl rfl zk) ?_
  refine Rch.go (fun zt zk => XS.iloadN X0.here hx rfl (hb hby d14_11) rfl zk) ?_
  obtain ⟨cl101, Ar101, q101, S101, M101, H101, G101⟩ := id P0
  have hin101 := inb_of (j := (0 : Int32)) S101 ⟨by decide, by decide⟩
  refine Rch.go (X0.caload hx (j := (0 : Int32)) (v := (.int d0)) (by rw [e0]; exact Ar101.1) (State.isArrayOf_alike hZ.alike Ar101.2.1) Ar101.2.2 hin101 (Has.at H101 hin101 rfl) (g := (mkF m 12 #[.val (.ref ca), .val (.int (0 : Int32)), .val (.ref bb), .val (.int (0 : Int32)), .val (.int (5 : Int32)), .val (.int (0 : Int32)), .unset] [(.int (0 : Int32)), (.ref ca)])) rfl rfl (hb hby d14_12)) ?_
  show Rch _ _ _ _ (s₁.setTop (mkF m 13 #[.val (.ref ca), .val (.int (0 : Int32)), .val (.ref bb), .val (.int (0 : Int32)), .val (.int (5 : Int32)), .val (.int (0 : Int32)), .unset] [(.int d0)]))
  refine Rch.go (fun zt zk => XS.istore X0.here hx rfl (hb hby d14_13) rfl (l' := #[.val (.ref ca), .val (.int (0 : Int32)), .val (.ref bb), .val (.int (0 : Int32)), .val (.int (5 : Int32)), .val (.int (0 : Int32)), .val (.int d0)]) rfl zk) ?_
  refine Rch.go (fun zt zk => XS.iload X0.here hx rfl (hb hby d14_15) rfl zk) ?_
  refine Rch.go (fun zt zk => XS.sipush X0.here hx rfl (hb hby d14_17) zk) ?_
  refine Rch.go (fun zt zk => XS.icmpYes X0.here hx rfl (pc0 := 20) (pc' := 26) rfl (hb hby d14_20) rfl (flt (own_le255 r_d0 : ¬ ((255 : Int32) < d0))).2.2.2 (by decide) (by decide) zk) ?_
  show Rch _ _ _ _ (s₁.setTop (mkF m 26 #[.val (.ref ca), .val (.int (0 : Int32)), .val (.ref bb), .val (.int (0 : Int32)), .val (.int (5 : Int32)), .val (.int (0 : Int32)), .val (.int d0)] []))
  refine Rch.go (fun zt zk => XS.aloadN X0.here hx rfl (hb hby d14_26) rfl rfl zk) ?_
  refine Rch.go (fun zt zk => XS.iloadN X0.here hx rfl (hb hby d14_27) rfl zk) ?_
  refine Rch.go (fun zt zk => XS.iload X0.here hx rfl (hb hby d14_28) rfl zk) ?_
  refine Rch.go (fun zt zk => XS.i2b X0.here hx rfl (hb hby d14_30) rfl zk) ?_
  show Rch _ _ _ _ (s₁.setTop (mkF m 31 #[.val (.ref ca), .val (.int (0 : Int32)), .val (.ref bb), .val (.int (0 : Int32)), .val (.int (5 : Int32)), .val (.int (0 : Int32)), .val (.int d0)] [(.int (d0.toInt8.toInt32)), (.int (0 : Int32)), (.ref bb)]))
  obtain ⟨cl102, Ar102, q102, S102, M102, H102, G102⟩ := id P1
  obtain ⟨T102, h102, X102, e102, W102, st102⟩ := stB X0 hx hZ e0 Ar102 (j := (0 : Int32)) (inb_of S102 ⟨by decide, by decide⟩) (g := (mkF m 31 #[.val (.ref ca), .val (.int (0 : Int32)), .val (.ref bb), .val (.int (0 : Int32)), .val (.int (5 : Int32)), .val (.int (0 : Int32)), .val (.int d0)] [(.int (d0.toInt8.toInt32)), (.int (0 : Int32)), (.ref bb)])) rfl rfl (hb hby d14_31)
  refine Rch.go st102 ?_
  have V102 : Arv Z h102 bb kb .byte (5 : Int32) [(.int (nar .byte (d0.toInt8.toInt32))), (.int (0 : Int32)), (.int (0 : Int32)), (.int (0 : Int32)), (.int (0 : Int32))] (.int (0 : Int32)) := Arv.set Ar102 q102 S102 M102 H102 G102 (fits_nar_byte _) W102 0 rfl (Nat.le_of_ble_eq_true rfl)
  have N102 := Fr.snoc X102 N0 Pg_bb
  have K102 : Keep h0 h102 [bb] := Keep.wr (Keep.refl h0 [bb]) W102 (Or.inl (List.mem_of_getElem? (i := 0) rfl))
  refine Rch.go (fun zt zk => XS.iinc X102.here hx rfl (hb hby d14_32) rfl (l' := #[.val (.ref ca), .val (.int (1 : Int32)), .val (.ref bb), .val (.int (0 : Int32)), .val (.int (5 : Int32)), .val (.int (0 : Int32)), .val (.int d0)]) rfl zk) ?_
  refine Rch.go (fun zt zk => XS.iinc X102.here hx rfl (hb hby d14_35) rfl (l' := #[.val (.ref ca), .val (.int (1 : Int32)), .val (.ref bb), .val (.int (1 : Int32)), .val (.int (5 : Int32)), .val (.int (0 : Int32)), .val (.int d0)]) rfl zk) ?_
  refine Rch.go (fun zt zk => XS.iinc X102.here hx rfl (hb hby d14_38) rfl (l' := #[.val (.ref ca), .val (.int (1 : Int32)), .val (.ref bb), .val (.int (1 : Int32)), .val (.int (5 : Int32)), .val (.int (1 : Int32)), .val (.int d0)]) rfl zk) ?_
  show Rch _ _ _ _ (T102.setTop (mkF m 41 #[.val (.ref ca), .val (.int (1 : Int32)), .val (.ref bb), .val (.int (1 : Int32)), .val (.int (5 : Int32)), .val (.int (1 : Int32)), .val (.int d0)] []))
  refine Rch.go (fun zt zk => XS.goto X102.here hx rfl (pc0 := 41) (pc' := 3) rfl (hb hby d14_41) (by decide) (by decide) zk) ?_
  refine Rch.go (fun zt zk => XS.iload X102.here hx rfl (hb hby d14_3) rfl zk) ?_
  refine Rch.go (fun zt zk => XS.iload X102.here hx rfl (hb hby d14_5) rfl zk) ?_
  refine Rch.go (fun zt zk => XS.icmpNo X102.here hx rfl (hb hby d14_7) rfl (tlt (by decide : (1 : Int32) < (5 : Int32))).2.1 zk) ?_
  show Rch _ _ _ _ (T102.setTop (mkF m 10 #[.val (.ref ca), .val (.int (1 : Int32)), .val (.ref bb), .val (.int (1 : Int32)), .val (.int (5 : Int32)), .val (.int (1 : Int32)), .val (.int d0)] []))
  refine Rch.go (fun zt zk => XS.aloadN X102.here hx rfl (hb hby d14_10) rfl rfl zk) ?_
  refine Rch.go (fun zt zk => XS.iloadN X102.here hx rfl (hb hby d14_11) rfl zk) ?_
  have f103 := (P0.other W102 Pn0)
  obtain ⟨cl104, Ar104, q104, S104, M104, H104, G104⟩ := id f103
  have hin104 := inb_of (j := (1 : Int32)) S104 ⟨by decide, by decide⟩
  refine Rch.go (X102.caload hx (j := (1 : Int32)) (v := (.int d1)) (by rw [e102]; exact Ar104.1) (State.isArrayOf_alike hZ.alike Ar104.2.1) Ar104.2.2 hin104 (Has.at H104 hin104 rfl) (g := (mkF m 12 #[.val (.ref ca), .val (.int (1 : Int32)), .val (.ref bb), .val (.int (1 : Int32)), .val (.int (5 : Int32)), .val (.int (1 : Int32)), .val (.int d0)] [(.int (1 : Int32)), (.ref ca)])) rfl rfl (hb hby d14_12)) ?_
  refine Rch.go (fun zt zk => XS.istore X102.here hx rfl (hb hby d14_13) rfl (l' := #[.val (.ref ca), .val (.int (1 : Int32)), .val (.ref bb), .val (.int (1 : Int32)), .val (.int (5 : Int32)), .val (.int (1 : Int32)), .val (.int d1)]) rfl zk) ?_
  show Rch _ _ _ _ (T102.setTop (mkF m 15 #[.val (.ref ca), .val (.int (1 : Int32)), .val (.ref bb), .val (.int (1 : Int32)), .val (.int (5 : Int32)), .val (.int (1 : Int32)), .val (.int d1)] []))
  refine Rch.go (fun zt zk => XS.iload X102.here hx rfl (hb hby d14_15) rfl zk) ?_
  refine Rch.go (fun zt zk => XS.sipush X102.here hx rfl (hb hby d14_17) zk) ?_
  refine Rch.go (fun zt zk => XS.icmpYes X102.here hx rfl (pc0 := 20) (pc' := 26) rfl (hb hby d14_20) rfl (flt (own_le255 r_d1 : ¬ ((255 : Int32) < d1))).2.2.2 (by decide) (by decide) zk) ?_
  refine Rch.go (fun zt zk => XS.aloadN X102.here hx rfl (hb hby d14_26) rfl rfl zk) ?_
  show Rch _ _ _ _ (T102.setTop (mkF m 27 #[.val (.ref ca), .val (.int (1 : Int32)), .val (.ref bb), .val (.int (1 : Int32)), .val (.int (5 : Int32)), .val (.int (1 : Int32)), .val (.int d1)] [(.ref bb)]))
  refine Rch.go (fun zt zk => XS.iloadN X102.here hx rfl (hb hby d14_27) rfl zk) ?_
  refine Rch.go (fun zt zk => XS.iload X102.here hx rfl (hb hby d14_28) rfl zk) ?_
  refine Rch.go (fun zt zk => XS.i2b X102.here hx rfl (hb hby d14_30) rfl zk) ?_
  obtain ⟨cl105, Ar105, q105, S105, M105, H105, G105⟩ := id V102
  obtain ⟨T105, h105, X105, e105, W105, st105⟩ := stB X102 hx hZ e102 Ar105 (j := (1 : Int32)) (inb_of S105 ⟨by decide, by decide⟩) (g := (mkF m 31 #[.val (.ref ca), .val (.int (1 : Int32)), .val (.ref bb), .val (.int (1 : Int32)), .val (.int (5 : Int32)), .val (.int (1 : Int32)), .val (.int d1)] [(.int (d1.toInt8.toInt32)), (.int (1 : Int32)), (.ref bb)])) rfl rfl (hb hby d14_31)
  refine Rch.go st105 ?_
  have V105 : Arv Z h105 bb kb .byte (5 : Int32) [(.int (nar .byte (d0.toInt8.toInt32))), (.int (nar .byte (d1.toInt8.toInt32))), (.int (0 : Int32)), (.int (0 : Int32)), (.int (0 : Int32))] (.int (0 : Int32)) := Arv.set Ar105 q105 S105 M105 H105 G105 (fits_nar_byte _) W105 1 rfl (Nat.le_of_ble_eq_true rfl)
  have N105 := Fr.snoc X105 N102 Pg_bb
  have K105 : Keep h0 h105 [bb] := Keep.wr K102 W105 (Or.inl (List.mem_of_getElem? (i := 0) rfl))
  show Rch _ _ _ _ (T105.setTop (mkF m 32 #[.val (.ref ca), .val (.int (1 : Int32)), .val (.ref bb), .val (.int (1 : Int32)), .val (.int (5 : Int32)), .val (.int (1 : Int32)), .val (.int d1)] []))
  refine Rch.go (fun zt zk => XS.iinc X105.here hx rfl (hb hby d14_32) rfl (l' := #[.val (.ref ca), .val (.int (2 : Int32)), .val (.ref bb), .val (.int (1 : Int32)), .val (.int (5 : Int32)), .val (.int (1 : Int32)), .val (.int d1)]) rfl zk) ?_
  refine Rch.go (fun zt zk => XS.iinc X105.here hx rfl (hb hby d14_35) rfl (l' := #[.val (.ref ca), .val (.int (2 : Int32)), .val (.ref bb), .val (.int (2 : Int32)), .val (.int (5 : Int32)), .val (.int (1 : Int32)), .val (.int d1)]) rfl zk) ?_
  refine Rch.go (fun zt zk => XS.iinc X105.here hx rfl (hb hby d14_38) rfl (l' := #[.val (.ref ca), .val (.int (2 : Int32)), .val (.ref bb), .val (.int (2 : Int32)), .val (.int (5 : Int32)), .val (.int (2 : Int32)), .val (.int d1)]) rfl zk) ?_
  refine Rch.go (fun zt zk => XS.goto X105.here hx rfl (pc0 := 41) (pc' := 3) rfl (hb hby d14_41) (by decide) (by decide) zk) ?_
  show Rch _ _ _ _ (T105.setTop (mkF m 3 #[.val (.ref ca), .val (.int (2 : Int32)), .val (.ref bb), .val (.int (2 : Int32)), .val (.int (5 : Int32)), .val (.int (2 : Int32)), .val (.int d1)] []))
  refine Rch.go (fun zt zk => XS.iload X105.here hx rfl (hb hby d14_3) rfl zk) ?_
  refine Rch.go (fun zt zk => XS.iload X105.here hx rfl (hb hby d14_5) rfl zk) ?_
  refine Rch.go (fun zt zk => XS.icmpNo X105.here hx rfl (hb hby d14_7) rfl (tlt (by decide : (2 : Int32) < (5 : Int32))).2.1 zk) ?_
  refine Rch.go (fun zt zk => XS.aloadN X105.here hx rfl (hb hby d14_10) rfl rfl zk) ?_
  show Rch _ _ _ _ (T105.setTop (mkF m 11 #[.val (.ref ca), .val (.int (2 : Int32)), .val (.ref bb), .val (.int (2 : Int32)), .val (.int (5 : Int32)), .val (.int (2 : Int32)), .val (.int d1)] [(.ref ca)]))
  refine Rch.go (fun zt zk => XS.iloadN X105.here hx rfl (hb hby d14_11) rfl zk) ?_
  have f106 := (f103.other W105 Pn0)
  obtain ⟨cl107, Ar107, q107, S107, M107, H107, G107⟩ := id f106
  have hin107 := inb_of (j := (2 : Int32)) S107 ⟨by decide, by decide⟩
  refine Rch.go (X105.caload hx (j := (2 : Int32)) (v := (.int d2)) (by rw [e105]; exact Ar107.1) (State.isArrayOf_alike hZ.alike Ar107.2.1) Ar107.2.2 hin107 (Has.at H107 hin107 rfl) (g := (mkF m 12 #[.val (.ref ca), .val (.int (2 : Int32)), .val (.ref bb), .val (.int (2 : Int32)), .val (.int (5 : Int32)), .val (.int (2 : Int32)), .val (.int d1)] [(.int (2 : Int32)), (.ref ca)])) rfl rfl (hb hby d14_12)) ?_
  refine Rch.go (fun zt zk => XS.istore X105.here hx rfl (hb hby d14_13) rfl (l' := #[.val (.ref ca), .val (.int (2 : Int32)), .val (.ref bb), .val (.int (2 : Int32)), .val (.int (5 : Int32)), .val (.int (2 : Int32)), .val (.int d2)]) rfl zk) ?_
  refine Rch.go (fun zt zk => XS.iload X105.here hx rfl (hb hby d14_15) rfl zk) ?_
  show Rch _ _ _ _ (T105.setTop (mkF m 17 #[.val (.ref ca), .val (.int (2 : Int32)), .val (.ref bb), .val (.int (2 : Int32)), .val (.int (5 : Int32)), .val (.int (2 : Int32)), .val (.int d2)] [(.int d2)]))
  refine Rch.go (fun zt zk => XS.sipush X105.here hx rfl (hb hby d14_17) zk) ?_
  refine Rch.go (fun zt zk => XS.icmpYes X105.here hx rfl (pc0 := 20) (pc' := 26) rfl (hb hby d14_20) rfl (flt (own_le255 r_d2 : ¬ ((255 : Int32) < d2))).2.2.2 (by decide) (by decide) zk) ?_
  refine Rch.go (fun zt zk => XS.aloadN X105.here hx rfl (hb hby d14_26) rfl rfl zk) ?_
  refine Rch.go (fun zt zk => XS.iloadN X105.here hx rfl (hb hby d14_27) rfl zk) ?_
  show Rch _ _ _ _ (T105.setTop (mkF m 28 #[.val (.ref ca), .val (.int (2 : Int32)), .val (.ref bb), .val (.int (2 : Int32)), .val (.int (5 : Int32)), .val (.int (2 : Int32)), .val (.int d2)] [(.int (2 : Int32)), (.ref bb)]))
  refine Rch.go (fun zt zk => XS.iload X105.here hx rfl (hb hby d14_28) rfl zk) ?_
  refine Rch.go (fun zt zk => XS.i2b X105.here hx rfl (hb hby d14_30) rfl zk) ?_
  obtain ⟨cl108, Ar108, q108, S108, M108, H108, G108⟩ := id V105
  obtain ⟨T108, h108, X108, e108, W108, st108⟩ := stB X105 hx hZ e105 Ar108 (j := (2 : Int32)) (inb_of S108 ⟨by decide, by decide⟩) (g := (mkF m 31 #[.val (.ref ca), .val (.int (2 : Int32)), .val (.ref bb), .val (.int (2 : Int32)), .val (.int (5 : Int32)), .val (.int (2 : Int32)), .val (.int d2)] [(.int (d2.toInt8.toInt32)), (.int (2 : Int32)), (.ref bb)])) rfl rfl (hb hby d14_31)
  refine Rch.go st108 ?_
  have V108 : Arv Z h108 bb kb .byte (5 : Int32) [(.int (nar .byte (d0.toInt8.toInt32))), (.int (nar .byte (d1.toInt8.toInt32))), (.int (nar .byte (d2.toInt8.toInt32))), (.int (0 : Int32)), (.int (0 : Int32))] (.int (0 : Int32)) := Arv.set Ar108 q108 S108 M108 H108 G108 (fits_nar_byte _) W108 2 rfl (Nat.le_of_ble_eq_true rfl)
  have N108 := Fr.snoc X108 N105 Pg_bb
  have K108 : Keep h0 h108 [bb] := Keep.wr K105 W108 (Or.inl (List.mem_of_getElem? (i := 0) rfl))
  refine Rch.go (fun zt zk => XS.iinc X108.here hx rfl (hb hby d14_32) rfl (l' := #[.val (.ref ca), .val (.int (3 : Int32)), .val (.ref bb), .val (.int (2 : Int32)), .val (.int (5 : Int32)), .val (.int (2 : Int32)), .val (.int d2)]) rfl zk) ?_
  show Rch _ _ _ _ (T108.setTop (mkF m 35 #[.val (.ref ca), .val (.int (3 : Int32)), .val (.ref bb), .val (.int (2 : Int32)), .val (.int (5 : Int32)), .val (.int (2 : Int32)), .val (.int d2)] []))
  refine Rch.go (fun zt zk => XS.iinc X108.here hx rfl (hb hby d14_35) rfl (l' := #[.val (.ref ca), .val (.int (3 : Int32)), .val (.ref bb), .val (.int (3 : Int32)), .val (.int (5 : Int32)), .val (.int (2 : Int32)), .val (.int d2)]) rfl zk) ?_
  refine Rch.go (fun zt zk => XS.iinc X108.here hx rfl (hb hby d14_38) rfl (l' := #[.val (.ref ca), .val (.int (3 : Int32)), .val (.ref bb), .val (.int (3 : Int32)), .val (.int (5 : Int32)), .val (.int (3 : Int32)), .val (.int d2)]) rfl zk) ?_
  refine Rch.go (fun zt zk => XS.goto X108.here hx rfl (pc0 := 41) (pc' := 3) rfl (hb hby d14_41) (by decide) (by decide) zk) ?_
  refine Rch.go (fun zt zk => XS.iload X108.here hx rfl (hb hby d14_3) rfl zk) ?_
  show Rch _ _ _ _ (T108.setTop (mkF m 5 #[.val (.ref ca), .val (.int (3 : Int32)), .val (.ref bb), .val (.int (3 : Int32)), .val (.int (5 : Int32)), .val (.int (3 : Int32)), .val (.int d2)] [(.int (3 : Int32))]))
  refine Rch.go (fun zt zk => XS.iload X108.here hx rfl (hb hby d14_5) rfl zk) ?_
  refine Rch.go (fun zt zk => XS.icmpNo X108.here hx rfl (hb hby d14_7) rfl (tlt (by decide : (3 : Int32) < (5 : Int32))).2.1 zk) ?_
  refine Rch.go (fun zt zk => XS.aloadN X108.here hx rfl (hb hby d14_10) rfl rfl zk) ?_
  refine Rch.go (fun zt zk => XS.iloadN X108.here hx rfl (hb hby d14_11) rfl zk) ?_
  show Rch _ _ _ _ (T108.setTop (mkF m 12 #[.val (.ref ca), .val (.int (3 : Int32)), .val (.ref bb), .val (.int (3 : Int32)), .val (.int (5 : Int32)), .val (.int (3 : Int32)), .val (.int d2)] [(.int (3 : Int32)), (.ref ca)]))
  have f109 := (f106.other W108 Pn0)
  obtain ⟨cl110, Ar110, q110, S110, M110, H110, G110⟩ := id f109
  have hin110 := inb_of (j := (3 : Int32)) S110 ⟨by decide, by decide⟩
  refine Rch.go (X108.caload hx (j := (3 : Int32)) (v := (.int d3)) (by rw [e108]; exact Ar110.1) (State.isArrayOf_alike hZ.alike Ar110.2.1) Ar110.2.2 hin110 (Has.at H110 hin110 rfl) (g := (mkF m 12 #[.val (.ref ca), .val (.int (3 : Int32)), .val (.ref bb), .val (.int (3 : Int32)), .val (.int (5 : Int32)), .val (.int (3 : Int32)), .val (.int d2)] [(.int (3 : Int32)), (.ref ca)])) rfl rfl (hb hby d14_12)) ?_
  refine Rch.go (fun zt zk => XS.istore X108.here hx rfl (hb hby d14_13) rfl (l' := #[.val (.ref ca), .val (.int (3 : Int32)), .val (.ref bb), .val (.int (3 : Int32)), .val (.int (5 : Int32)), .val (.int (3 : Int32)), .val (.int d3)]) rfl zk) ?_
  refine Rch.go (fun zt zk => XS.iload X108.here hx rfl (hb hby d14_15) rfl zk) ?_
  refine Rch.go (fun zt zk => XS.sipush X108.here hx rfl (hb hby d14_17) zk) ?_
  show Rch _ _ _ _ (T108.setTop (mkF m 20 #[.val (.ref ca), .val (.int (3 : Int32)), .val (.ref bb), .val (.int (3 : Int32)), .val (.int (5 : Int32)), .val (.int (3 : Int32)), .val (.int d3)] [(.int (255 : Int32)), (.int d3)]))
  refine Rch.go (fun zt zk => XS.icmpYes X108.here hx rfl (pc0 := 20) (pc' := 26) rfl (hb hby d14_20) rfl (flt (own_le255 r_d3 : ¬ ((255 : Int32) < d3))).2.2.2 (by decide) (by decide) zk) ?_
  refine Rch.go (fun zt zk => XS.aloadN X108.here hx rfl (hb hby d14_26) rfl rfl zk) ?_
  refine Rch.go (fun zt zk => XS.iloadN X108.here hx rfl (hb hby d14_27) rfl zk) ?_
  refine Rch.go (fun zt zk => XS.iload X108.here hx rfl (hb hby d14_28) rfl zk) ?_
  show Rch _ _ _ _ (T108.setTop (mkF m 30 #[.val (.ref ca), .val (.int (3 : Int32)), .val (.ref bb), .val (.int (3 : Int32)), .val (.int (5 : Int32)), .val (.int (3 : Int32)), .val (.int d3)] [(.int d3), (.int (3 : Int32)), (.ref bb)]))
  refine Rch.go (fun zt zk => XS.i2b X108.here hx rfl (hb hby d14_30) rfl zk) ?_
  obtain ⟨cl111, Ar111, q111, S111, M111, H111, G111⟩ := id V108
  obtain ⟨T111, h111, X111, e111, W111, st111⟩ := stB X108 hx hZ e108 Ar111 (j := (3 : Int32)) (inb_of S111 ⟨by decide, by decide⟩) (g := (mkF m 31 #[.val (.ref ca), .val (.int (3 : Int32)), .val (.ref bb), .val (.int (3 : Int32)), .val (.int (5 : Int32)), .val (.int (3 : Int32)), .val (.int d3)] [(.int (d3.toInt8.toInt32)), (.int (3 : Int32)), (.ref bb)])) rfl rfl (hb hby d14_31)
  refine Rch.go st111 ?_
  have V111 : Arv Z h111 bb kb .byte (5 : Int32) [(.int (nar .byte (d0.toInt8.toInt32))), (.int (nar .byte (d1.toInt8.toInt32))), (.int (nar .byte (d2.toInt8.toInt32))), (.int (nar .byte (d3.toInt8.toInt32))), (.int (0 : Int32))] (.int (0 : Int32)) := Arv.set Ar111 q111 S111 M111 H111 G111 (fits_nar_byte _) W111 3 rfl (Nat.le_of_ble_eq_true rfl)
  have N111 := Fr.snoc X111 N108 Pg_bb
  have K111 : Keep h0 h111 [bb] := Keep.wr K108 W111 (Or.inl (List.mem_of_getElem? (i := 0) rfl))
  refine Rch.go (fun zt zk => XS.iinc X111.here hx rfl (hb hby d14_32) rfl (l' := #[.val (.ref ca), .val (.int (4 : Int32)), .val (.ref bb), .val (.int (3 : Int32)), .val (.int (5 : Int32)), .val (.int (3 : Int32)), .val (.int d3)]) rfl zk) ?_
  refine Rch.go (fun zt zk => XS.iinc X111.here hx rfl (hb hby d14_35) rfl (l' := #[.val (.ref ca), .val (.int (4 : Int32)), .val (.ref bb), .val (.int (4 : Int32)), .val (.int (5 : Int32)), .val (.int (3 : Int32)), .val (.int d3)]) rfl zk) ?_
  show Rch _ _ _ _ (T111.setTop (mkF m 38 #[.val (.ref ca), .val (.int (4 : Int32)), .val (.ref bb), .val (.int (4 : Int32)), .val (.int (5 : Int32)), .val (.int (3 : Int32)), .val (.int d3)] []))
  refine Rch.go (fun zt zk => XS.iinc X111.here hx rfl (hb hby d14_38) rfl (l' := #[.val (.ref ca), .val (.int (4 : Int32)), .val (.ref bb), .val (.int (4 : Int32)), .val (.int (5 : Int32)), .val (.int (4 : Int32)), .val (.int d3)]) rfl zk) ?_
  refine Rch.go (fun zt zk => XS.goto X111.here hx rfl (pc0 := 41) (pc' := 3) rfl (hb hby d14_41) (by decide) (by decide) zk) ?_
  refine Rch.go (fun zt zk => XS.iload X111.here hx rfl (hb hby d14_3) rfl zk) ?_
  refine Rch.go (fun zt zk => XS.iload X111.here hx rfl (hb hby d14_5) rfl zk) ?_
  show Rch _ _ _ _ (T111.setTop (mkF m 7 #[.val (.ref ca), .val (.int (4 : Int32)), .val (.ref bb), .val (.int (4 : Int32)), .val (.int (5 : Int32)), .val (.int (4 : Int32)), .val (.int d3)] [(.int (5 : Int32)), (.int (4 : Int32))]))
  refine Rch.go (fun zt zk => XS.icmpNo X111.here hx rfl (hb hby d14_7) rfl (tlt (by decide : (4 : Int32) < (5 : Int32))).2.1 zk) ?_
  refine Rch.go (fun zt zk => XS.aloadN X111.here hx rfl (hb hby d14_10) rfl rfl zk) ?_
  refine Rch.go (fun zt zk => XS.iloadN X111.here hx rfl (hb hby d14_11) rfl zk) ?_
  have f112 := (f109.other W111 Pn0)
  obtain ⟨cl113, Ar113, q113, S113, M113, H113, G113⟩ := id f112
  have hin113 := inb_of (j := (4 : Int32)) S113 ⟨by decide, by decide⟩
  refine Rch.go (X111.caload hx (j := (4 : Int32)) (v := (.int d4)) (by rw [e111]; exact Ar113.1) (State.isArrayOf_alike hZ.alike Ar113.2.1) Ar113.2.2 hin113 (Has.at H113 hin113 rfl) (g := (mkF m 12 #[.val (.ref ca), .val (.int (4 : Int32)), .val (.ref bb), .val (.int (4 : Int32)), .val (.int (5 : Int32)), .val (.int (4 : Int32)), .val (.int d3)] [(.int (4 : Int32)), (.ref ca)])) rfl rfl (hb hby d14_12)) ?_
  show Rch _ _ _ _ (T111.setTop (mkF m 13 #[.val (.ref ca), .val (.int (4 : Int32)), .val (.ref bb), .val (.int (4 : Int32)), .val (.int (5 : Int32)), .val (.int (4 : Int32)), .val (.int d3)] [(.int d4)]))
  refine Rch.go (fun zt zk => XS.istore X111.here hx rfl (hb hby d14_13) rfl (l' := #[.val (.ref ca), .val (.int (4 : Int32)), .val (.ref bb), .val (.int (4 : Int32)), .val (.int (5 : Int32)), .val (.int (4 : Int32)), .val (.int d4)]) rfl zk) ?_
  refine Rch.go (fun zt zk => XS.iload X111.here hx rfl (hb hby d14_15) rfl zk) ?_
  refine Rch.go (fun zt zk => XS.sipush X111.here hx rfl (hb hby d14_17) zk) ?_
  refine Rch.go (fun zt zk => XS.icmpYes X111.here hx rfl (pc0 := 20) (pc' := 26) rfl (hb hby d14_20) rfl (flt (own_le255 r_d4 : ¬ ((255 : Int32) < d4))).2.2.2 (by decide) (by decide) zk) ?_
  show Rch _ _ _ _ (T111.setTop (mkF m 26 #[.val (.ref ca), .val (.int (4 : Int32)), .val (.ref bb), .val (.int (4 : Int32)), .val (.int (5 : Int32)), .val (.int (4 : Int32)), .val (.int d4)] []))
  refine Rch.go (fun zt zk => XS.aloadN X111.here hx rfl (hb hby d14_26) rfl rfl zk) ?_
  refine Rch.go (fun zt zk => XS.iloadN X111.here hx rfl (hb hby d14_27) rfl zk) ?_
  refine Rch.go (fun zt zk => XS.iload X111.here hx rfl (hb hby d14_28) rfl zk) ?_
  refine Rch.go (fun zt zk => XS.i2b X111.here hx rfl (hb hby d14_30) rfl zk) ?_
  show Rch _ _ _ _ (T111.setTop (mkF m 31 #[.val (.ref ca), .val (.int (4 : Int32)), .val (.ref bb), .val (.int (4 : Int32)), .val (.int (5 : Int32)), .val (.int (4 : Int32)), .val (.int d4)] [(.int (d4.toInt8.toInt32)), (.int (4 : Int32)), (.ref bb)]))
  obtain ⟨cl114, Ar114, q114, S114, M114, H114, G114⟩ := id V111
  obtain ⟨T114, h114, X114, e114, W114, st114⟩ := stB X111 hx hZ e111 Ar114 (j := (4 : Int32)) (inb_of S114 ⟨by decide, by decide⟩) (g := (mkF m 31 #[.val (.ref ca), .val (.int (4 : Int32)), .val (.ref bb), .val (.int (4 : Int32)), .val (.int (5 : Int32)), .val (.int (4 : Int32)), .val (.int d4)] [(.int (d4.toInt8.toInt32)), (.int (4 : Int32)), (.ref bb)])) rfl rfl (hb hby d14_31)
  refine Rch.go st114 ?_
  have V114 : Arv Z h114 bb kb .byte (5 : Int32) [(.int (nar .byte (d0.toInt8.toInt32))), (.int (nar .byte (d1.toInt8.toInt32))), (.int (nar .byte (d2.toInt8.toInt32))), (.int (nar .byte (d3.toInt8.toInt32))), (.int (nar .byte (d4.toInt8.toInt32)))] (.int (0 : Int32)) := Arv.set Ar114 q114 S114 M114 H114 G114 (fits_nar_byte _) W114 4 rfl (Nat.le_of_ble_eq_true rfl)
  have N114 := Fr.snoc X114 N111 Pg_bb
  have K114 : Keep h0 h114 [bb] := Keep.wr K111 W114 (Or.inl (List.mem_of_getElem? (i := 0) rfl))
  refine Rch.go (fun zt zk => XS.iinc X114.here hx rfl (hb hby d14_32) rfl (l' := #[.val (.ref ca), .val (.int (5 : Int32)), .val (.ref bb), .val (.int (4 : Int32)), .val (.int (5 : Int32)), .val (.int (4 : Int32)), .val (.int d4)]) rfl zk) ?_
  refine Rch.go (fun zt zk => XS.iinc X114.here hx rfl (hb hby d14_35) rfl (l' := #[.val (.ref ca), .val (.int (5 : Int32)), .val (.ref bb), .val (.int (5 : Int32)), .val (.int (5 : Int32)), .val (.int (4 : Int32)), .val (.int d4)]) rfl zk) ?_
  refine Rch.go (fun zt zk => XS.iinc X114.here hx rfl (hb hby d14_38) rfl (l' := #[.val (.ref ca), .val (.int (5 : Int32)), .val (.ref bb), .val (.int (5 : Int32)), .val (.int (5 : Int32)), .val (.int (5 : Int32)), .val (.int d4)]) rfl zk) ?_
  show Rch _ _ _ _ (T114.setTop (mkF m 41 #[.val (.ref ca), .val (.int (5 : Int32)), .val (.ref bb), .val (.int (5 : Int32)), .val (.int (5 : Int32)), .val (.int (5 : Int32)), .val (.int d4)] []))
  refine Rch.go (fun zt zk => XS.goto X114.here hx rfl (pc0 := 41) (pc' := 3) rfl (hb hby d14_41) (by decide) (by decide) zk) ?_
  refine Rch.go (fun zt zk => XS.iload X114.here hx rfl (hb hby d14_3) rfl zk) ?_
  refine Rch.go (fun zt zk => XS.iload X114.here hx rfl (hb hby d14_5) rfl zk) ?_
  refine Rch.go (fun zt zk => XS.icmpYes X114.here hx rfl (pc0 := 7) (pc' := 44) rfl (hb hby d14_7) rfl (flt (by decide : ¬ ((5 : Int32) < (5 : Int32)))).2.1 (by decide) (by decide) zk) ?_
  show Rch _ _ _ _ (T114.setTop (mkF m 44 #[.val (.ref ca), .val (.int (5 : Int32)), .val (.ref bb), .val (.int (5 : Int32)), .val (.int (5 : Int32)), .val (.int (5 : Int32)), .val (.int d4)] []))
  refine Rch.go (fun zt zk => XS.iload X114.here hx rfl (hb hby d14_44) rfl zk) ?_
  obtain ⟨fs, hr, hrun, hended, hW, hsame⟩ := X114.leave (v := some (.int (5 : Int32))) (fun h => by rw [Bd.returns] at h; cases h)
  refine Rch.mk (retI X114 hx Bd.returns (hb hby d14_46) hr) (hPd _ _ _ _ hrun hended rfl ?_ ⟨⟨_, rfl⟩, hW, hsame.mono (by decide) (by decide)⟩)
  show Q_rmCpL5 Z ca bb kc kb d0 d1 d2 d3 d4 h0 n0 _ T114.heap _
  rw [e114]
  exact ⟨rfl, N114, K114, V114⟩
theorem ef_rmCp5 (m : MethodId) (ca : Addr) : entryFrame m #[(.ref ca), (.int (0 : Int32)), (.int (5 : Int32))] 6 = mkF m 0 #[.val (.ref ca), .val (.int (0 : Int32)), .val (.int (5 : Int32)), .unset, .unset, .unset] [] := by first | (simp [entryFrame, mkF, argsToLocals, Value.category]; done) | rfl
def Q_rmCp5 (Z : State) (ca : Addr) (kc : ClassId) (d0 : Int32) (d1 : Int32) (d2 : Int32) (d3 : Int32) (d4 : Int32) (h0 : Heap) (n0 : Nat) (v : Option Value) (h : Heap) (L : List Loc) : Prop := (∃ (b : Addr) (kb : ClassId), v = some (.ref b) ∧ n0 ≤ b ∧ h0.size ≤ b ∧ Arv Z h b kb .byte (5 : Int32) [(.int (bOf d0)), (.int (bOf d1)), (.int (bOf d2)), (.int (bOf d3)), (.int (bOf d4))] (.int (0 : Int32))) ∧ Fr n0 L ∧ Keep h0 h []
set_option maxRecDepth 65536 in
set_option maxHeartbeats 40000000 in
theorem rmCp5 (l : Launch) (Z : State) (a0 : Array Value) (hw : ∀ d ∈ tables_1, d.before a0 Z = true) (ws : List Jvm.Cond) (ca : Addr) (kc : ClassId) (d0 : Int32) (d1 : Int32) (d2 : Int32) (d3 : Int32) (d4 : Int32) (h0 : Heap) (n0 : Nat) (Z0 : n0 ≤ h0.size) (P0 : Arv Z h0 ca kc .char (5 : Int32) [(.int d0), (.int d1), (.int d2), (.int d3), (.int d4)] (.int (0 : Int32))) (r_d0 : R8 d0) (r_d1 : R8 d1) (r_d2 : R8 d2) (r_d3 : R8 d3) (r_d4 : R8 d4) :
    MetFree l (⟨"java/lang/StringUTF16", "compress", "([CII)[B"⟩ : MethodName) (head1 (Jvm.Cond.code (⟨"java/lang/StringUTF16", "compress", "([CII)[B"⟩ : MethodName) jdk_52_method_16_code 6 (some (.array .byte)) :: ws) ({ frames := 1, cells := 1, slots := 5, locals := 18 } : Room)) (fun a U => a = #[(.ref ca), (.int (0 : Int32)), (.int (5 : Int32))] ∧ Z.Warmed39 U.vm ∧ U.heap = h0) (fun _ _ _ _ _ => True) (fun _ U o U' => ∃ v L, o = .returned v ∧ Q_rmCp5 Z ca kc d0 d1 d2 d3 d4 h0 n0 v U'.heap L ∧ FrameEnd U o U' L ({ frames := 1, cells := 1, slots := 5, locals := 18 } : Room).cells ({ frames := 1, cells := 1, slots := 5, locals := 18 } : Room).slots) := by
  refine MetFree.of_bodySF (plainFor_of_name pn_java_lang_StringUTF16) hisR ?_
  intro p e s m args below meth c s₁ Bd hml0 hP hK
  obtain ⟨rfl, hZ, hh⟩ := hP
  have hx := Bd.exec
  have hby := Bd.bytes
  have hml : c.maxLocals = 6 := hml0
  have hown : s.vm.findClass "java/lang/StringUTF16" = some m.cls := findClass_of_methodNamed Bd.named
  have hnm := (name_of_methodNamed Bd.named Bd.method).1
  have X0 : Stand p l e ({ frames := 1, cells := 1, slots := 5, locals := 18 } : Room) s m #[(.ref ca), (.int (0 : Int32)), (.int (5 : Int32))] below meth c s₁ [] 0 0 := Stand.of_body Bd
  have e0 : s₁.heap = h0 := by rw [← hh, Bd.state]; rfl
  have N0 := Fr.nil n0
  suffices hR : ∀ P : State → Prop, (∀ s₂ o v L, s₂.status = .running → Ended s₂ below o → o = .returned v → Q_rmCp5 Z ca kc d0 d1 d2 d3 d4 h0 n0 v s₂.heap L → FrameEnd s o s₂ L ({ frames := 1, cells := 1, slots := 5, locals := 18 } : Room).cells ({ frames := 1, cells := 1, slots := 5, locals := 18 } : Room).slots → P s₂) → Rch p.tables e below P (s₁.setTop (mkF m 0 #[.val (.ref ca), .val (.int (0 : Int32)), .val (.int (5 : Int32)), .unset, .unset, .unset] [])) by
    obtain ⟨s₂, h1, o, h2⟩ := hR (fun s₂ => ∃ o, s₂.status = .running ∧ Ended s₂ below o ∧ ∃ v L, o = .returned v ∧ Q_rmCp5 Z ca kc d0 d1 d2 d3 d4 h0 n0 v s₂.heap L ∧ FrameEnd s o s₂ L ({ frames := 1, cells := 1, slots := 5, locals := 18 } : Room).cells ({ frames := 1, cells := 1, slots := 5, locals := 18 } : Room).slots) (fun s₂ o v L q1 q2 q3 q4 q5 => ⟨o, q1, q2, v, L, q3, q4, q5⟩)
    exact ⟨s₂, o, castTop (ef_rmCp5 m ca) h1, h2⟩
  intro P hPd
  refine Rch.go (fun zt zk => XS.iloadN X0.here hx rfl (hb hby d13_0) rfl zk) ?_
  obtain ⟨T101, h101, k101, X101, e101, E101, A101, st101⟩ := newP X0 hx hZ (aty := .byte) (ow23 hw) e0 (g := (mkF m 1 #[.val (.ref ca), .val (.int (0 : Int32)), .val (.int (5 : Int32)), .unset, .unset, .unset] [(.int (5 : Int32))])) rfl (hb hby d13_1) rfl (by decide) (cap := 5) (by decide) (by decide) (by decide) (by decide)
  obtain ⟨b101, g101⟩ : ∃ z, z = h0.size := ⟨_, rfl⟩
  rw [← g101] at A101 st101
  refine Rch.go st101 ?_
  have ne_ca_b101 : ca ≠ b101 := by have q := P0.lt; rw [g101]; exact Nat.ne_of_lt q
  have ge101 : n0 ≤ b101 := by rw [g101]; exact Z0
  have gk101 : h0.size ≤ b101 := by rw [g101]; exact (Keep.refl h0 []).1
  have K101 := (Keep.refl h0 []).ext E101
  have V101 : Arv Z h101 b101 k101 .byte (5 : Int32) [(.int (0 : Int32)), (.int (0 : Int32)), (.int (0 : Int32)), (.int (0 : Int32)), (.int (0 : Int32))] (.int (0 : Int32)) := (Arv.new A101 (by decide)).pad (pad_rep [] (.int (0 : Int32)) 5)
  refine Rch.go (fun zt zk => XS.astoreN X101.here hx rfl (hb hby d13_3) rfl rfl (l' := #[.val (.ref ca), .val (.int (0 : Int32)), .val (.int (5 : Int32)), .val (.ref b101), .unset, .unset]) rfl zk) ?_
  refine Rch.go (fun zt zk => XS.aloadN X101.here hx rfl (hb hby d13_4) rfl rfl zk) ?_
  show Rch _ _ _ _ (T101.setTop (mkF m 5 #[.val (.ref ca), .val (.int (0 : Int32)), .val (.int (5 : Int32)), .val (.ref b101), .unset, .unset] [(.ref ca)]))
  refine Rch.go (fun zt zk => XS.iloadN X101.here hx rfl (hb hby d13_5) rfl zk) ?_
  refine Rch.go (fun zt zk => XS.aloadN X101.here hx rfl (hb hby d13_6) rfl rfl zk) ?_
  refine Rch.go (fun zt zk => XS.iconst X101.here hx rfl (hb hby d13_7) zk) ?_
  refine Rch.go (fun zt zk => XS.iloadN X101.here hx rfl (hb hby d13_8) rfl zk) ?_
  show Rch _ _ _ _ (T101.setTop (mkF m 9 #[.val (.ref ca), .val (.int (0 : Int32)), .val (.int (5 : Int32)), .val (.ref b101), .unset, .unset] [(.int (5 : Int32)), (.int (0 : Int32)), (.ref b101), (.int (0 : Int32)), (.ref ca)]))
  have f103 := (P0.ext E101)
  have f104 := (Nat.le_trans Z0 E101.1)
  obtain ⟨_, _, ⟨T102, L102, k102, n102⟩, -, X102, ⟨Lc102, hQ102, l102, y102, z102⟩, st102⟩ := Jvm.LawKit.callS X101 hx (y := (⟨"java/lang/StringUTF16", "compress", "([CI[BII)I"⟩ : MethodName)) hown (mvT hZ (ow67 hw)) (mvT hZ (ow68 hw)) (mvT hZ (ow65 hw)) (mvT hZ (ow69 hw)) (by decide) (backOf (W := 0) (rmCpL5 l Z a0 hw [] (ca) (b101) (kc) (k101) (d0) (d1) (d2) (d3) (d4) h101 n0 f104 (f103) (V101) (ne_ca_b101) (ge101) (r_d0) (r_d1) (r_d2) (r_d3) (r_d4)) hZ (ow69 hw) (ow65 hw) (by decide) (by decide)) (g := (mkF m 9 #[.val (.ref ca), .val (.int (0 : Int32)), .val (.int (5 : Int32)), .val (.ref b101), .unset, .unset] [(.int (5 : Int32)), (.int (0 : Int32)), (.ref b101), (.int (0 : Int32)), (.ref ca)])) rfl (by rw [hml]; rfl) (argsL := [(.ref ca), (.int (0 : Int32)), (.ref b101), (.int (0 : Int32)), (.int (5 : Int32))]) (rest := []) (lenOf pd___CI_BII_I rfl) rfl (by show 2 * 0 + _ ≤ _; exact Nat.le_of_eq rfl) (hb hby d13_9) (fun _ _ => ⟨rfl, e101, (by decide : 1 + 0 ≤ _), (by decide : 5 + 0 ≤ _)⟩)
  dsimp only [Pt.U, Pt.locs, Pt.cells, Pt.slots] at X102 l102 y102 z102 st102 hQ102
  rw [l102, y102, z102] at X102
  obtain ⟨rfl, N102q, K102q, O102_0⟩ := hQ102
  have N102 := Fr.app N0 N102q
  have K102 := Keep.trans K101 K102q (allS (Or.inr gk101) all0)
  refine Rch.go st102 ?_
  refine Rch.go (fun zt zk => XS.istore X102.here hx rfl (hb hby d13_12) rfl (l' := #[.val (.ref ca), .val (.int (0 : Int32)), .val (.int (5 : Int32)), .val (.ref b101), .val (.int (5 : Int32)), .unset]) rfl zk) ?_
  refine Rch.go (fun zt zk => XS.iload X102.here hx rfl (hb hby d13_14) rfl zk) ?_
  refine Rch.go (fun zt zk => XS.iloadN X102.here hx rfl (hb hby d13_16) rfl zk) ?_
  show Rch _ _ _ _ (T102.setTop (mkF m 17 #[.val (.ref ca), .val (.int (0 : Int32)), .val (.int (5 : Int32)), .val (.ref b101), .val (.int (5 : Int32)), .unset] [(.int (5 : Int32)), (.int (5 : Int32))]))
  refine Rch.go (fun zt zk => XS.icmpYes X102.here hx rfl (pc0 := 17) (pc' := 57) rfl (hb hby d13_17) rfl (teq (by decide : (5 : Int32) = (5 : Int32))).1 (by decide) (by decide) zk) ?_
  refine Rch.go (fun zt zk => XS.aloadN X102.here hx rfl (hb hby d13_57) rfl rfl zk) ?_
  obtain ⟨fs, hr, hrun, hended, hW, hsame⟩ := X102.leave (v := some (.ref b101)) (fun h => by rw [Bd.returns] at h; cases h)
  have hend : Steps p.tables e below (T102.setTop (mkF m 58 #[.val (.ref ca), .val (.int (0 : Int32)), .val (.int (5 : Int32)), .val (.ref b101), .val (.int (5 : Int32)), .unset] [(.ref b101)])) (T102.setFrames fs) := by
    jvm_step X102.here [X102.here.top, hx, (hb hby d13_58), X102.method', Bd.returns, Value.isRef, FieldType.isReference]
    first | (intro acts; rw [hr _ acts rfl rfl rfl]) | rw [hr _ _ rfl rfl rfl]
    exact Steps.refl _
  refine Rch.mk (hend) (hPd _ _ _ _ hrun hended rfl ?_ ⟨⟨_, rfl⟩, hW, hsame.mono (by decide) (by decide)⟩)
  show Q_rmCp5 Z ca kc d0 d1 d2 d3 d4 h0 n0 _ T102.heap _
  exact ⟨⟨b101, _, rfl, ge101, gk101, O102_0⟩, N102, K102⟩
theorem ef_rmCi5 (m : MethodId) (a1 : Addr) (ca : Addr) : entryFrame m #[(.ref a1), (.ref ca), (.int (0 : Int32)), (.int (5 : Int32)), .null] 6 = mkF m 0 #[.val (.ref a1), .val (.ref ca), .val (.int (0 : Int32)), .val (.int (5 : Int32)), .val .null, .unset] [] := by first | (simp [entryFrame, mkF, argsToLocals, Value.category]; done) | rfl
def Q_rmCi5 (Z : State) (a1 : Addr) (ca : Addr) (kc : ClassId) (cz : Int32) (d0 : Int32) (d1 : Int32) (d2 : Int32) (d3 : Int32) (d4 : Int32) (h0 : Heap) (n0 : Nat) (v : Option Value) (h : Heap) (L : List Loc) : Prop := v = none ∧ Fr n0 L ∧ Keep h0 h [a1] ∧ Exa Z h a1 "java/lang/String" ∧ Fld Z h a1 "java/lang/String" "coder" "B" (.int (nar .byte (0 : Int32))) ∧ ∃ (b : Addr) (kb : ClassId), n0 ≤ b ∧ h0.size ≤ b ∧ Fld Z h a1 "java/lang/String" "value" "[B" (.ref b) ∧ Arv Z h b kb .byte (5 : Int32) [(.int (bOf d0)), (.int (bOf d1)), (.int (bOf d2)), (.int (bOf d3)), (.int (bOf d4))] (.int (0 : Int32))
set_option maxRecDepth 65536 in
set_option maxHeartbeats 40000000 in
theorem rmCi5 (l : Launch) (Z : State) (a0 : Array Value) (hw : ∀ d ∈ tables_1, d.before a0 Z = true) (ws : List Jvm.Cond) (a1 : Addr) (ca : Addr) (kc : ClassId) (cz : Int32) (d0 : Int32) (d1 : Int32) (d2 : Int32) (d3 : Int32) (d4 : Int32) (h0 : Heap) (n0 : Nat) (Z0 : n0 ≤ h0.size) (P0 : Exa Z h0 a1 "java/lang/String") (P1 : Fld Z h0 a1 "java/lang/String" "value" "[B" .null) (P2 : Fld Z h0 a1 "java/lang/String" "coder" "B" (.int (0 : Int32))) (P3 : Arv Z h0 ca kc .char (5 : Int32) [(.int d0), (.int d1), (.int d2), (.int d3), (.int d4)] (.int (0 : Int32))) (P4 : Old Z n0 h0) (P5 : Sta Z Z.heap "java/lang/String" "COMPACT_STRINGS" "Z" (.int cz)) (Pn0 : ca ≠ a1) (Pg_a1 : n0 ≤ a1) (r_d0 : R8 d0) (r_d1 : R8 d1) (r_d2 : R8 d2) (r_d3 : R8 d3) (r_d4 : R8 d4) (hcz : ¬ (cz = (0 : Int32))) :
    MetFree l (⟨"java/lang/String", "<init>", "([CIILjava/lang/Void;)V"⟩ : MethodName) (head1 (Jvm.Cond.code (⟨"java/lang/String", "<init>", "([CIILjava/lang/Void;)V"⟩ : MethodName) jdk_42_method_149_code 6 none :: ws) ({ frames := 2, cells := 1, slots := 5, locals := 35 } : Room)) (fun a U => a = #[(.ref a1), (.ref ca), (.int (0 : Int32)), (.int (5 : Int32)), .null] ∧ Z.Warmed39 U.vm ∧ U.heap = h0) (fun _ _ _ _ _ => True) (fun _ U o U' => ∃ v L, o = .returned v ∧ Q_rmCi5 Z a1 ca kc cz d0 d1 d2 d3 d4 h0 n0 v U'.heap L ∧ FrameEnd U o U' L ({ frames := 2, cells := 1, slots := 5, locals := 35 } : Room).cells ({ frames := 2, cells := 1, slots := 5, locals := 35 } : Room).slots) := by
  refine MetFree.of_bodySF (plainFor_of_name pn_java_lang_String) hisR ?_
  intro p e s m args below meth c s₁ Bd hml0 hP hK
  obtain ⟨rfl, hZ, hh⟩ := hP
  have hx := Bd.exec
  have hby := Bd.bytes
  have hml : c.maxLocals = 6 := hml0
  have hown : s.vm.findClass "java/lang/String" = some m.cls := findClass_of_methodNamed Bd.named
  have hnm := (name_of_methodNamed Bd.named Bd.method).1
  have X0 : Stand p l e ({ frames := 2, cells := 1, slots := 5, locals := 35 } : Room) s m #[(.ref a1), (.ref ca), (.int (0 : Int32)), (.int (5 : Int32)), .null] below meth c s₁ [] 0 0 := Stand.of_body Bd
  have e0 : s₁.heap = h0 := by rw [← hh, Bd.state]; rfl
  have N0 := Fr.nil n0
  suffices hR : ∀ P : State → Prop, (∀ s₂ o v L, s₂.status = .running → Ended s₂ below o → o = .returned v → Q_rmCi5 Z a1 ca kc cz d0 d1 d2 d3 d4 h0 n0 v s₂.heap L → FrameEnd s o s₂ L ({ frames := 2, cells := 1, slots := 5, locals := 35 } : Room).cells ({ frames := 2, cells := 1, slots := 5, locals := 35 } : Room).slots → P s₂) → Rch p.tables e below P (s₁.setTop (mkF m 0 #[.val (.ref a1), .val (.ref ca), .val (.int (0 : Int32)), .val (.int (5 : Int32)), .val .null, .unset] [])) by
    obtain ⟨s₂, h1, o, h2⟩ := hR (fun s₂ => ∃ o, s₂.status = .running ∧ Ended s₂ below o ∧ ∃ v L, o = .returned v ∧ Q_rmCi5 Z a1 ca kc cz d0 d1 d2 d3 d4 h0 n0 v s₂.heap L ∧ FrameEnd s o s₂ L ({ frames := 2, cells := 1, slots := 5, locals := 35 } : Room).cells ({ frames := 2, cells := 1, slots := 5, locals := 35 } : Room).slots) (fun s₂ o v L q1 q2 q3 q4 q5 => ⟨o, q1, q2, v, L, q3, q4, q5⟩)
    exact ⟨s₂, o, castTop (ef_rmCi5 m a1 ca) h1, h2⟩
  intro P hPd
  refine Rch.go (fun zt zk => XS.aloadN X0.here hx rfl (hb hby d4_0) rfl rfl zk) ?_
  obtain ⟨T101, X101, e101, st101⟩ := initO X0 hx hZ hown (ow19 hw) (ow20 hw) (ow21 hw) e0 (g := (mkF m 1 #[.val (.ref a1), .val (.ref ca), .val (.int (0 : Int32)), .val (.int (5 : Int32)), .val .null, .unset] [(.ref a1)])) rfl (by rw [hml]; rfl) rfl (hb hby d4_1) (by decide) (W := 0) (by show 2 * 0 + _ ≤ _; exact Nat.le_of_eq rfl) (by decide)
  refine Rch.go st101 ?_
  refine Rch.go (fun zt zk => XS.iloadN X101.here hx rfl (hb hby d4_4) rfl zk) ?_
  refine Rch.go (fun zt zk => XS.ifYes X101.here hx rfl (pc0 := 5) (pc' := 27) rfl (hb hby d4_5) rfl ((if0 _ _).trans (feq (by decide : ¬ ((5 : Int32) = (0 : Int32)))).2) (by decide) (by decide) zk) ?_
  show Rch _ _ _ _ (T101.setTop (mkF m 27 #[.val (.ref a1), .val (.ref ca), .val (.int (0 : Int32)), .val (.int (5 : Int32)), .val .null, .unset] []))
  have f102 := P5.ext P4.2
  obtain ⟨T103, X103, e103, st103⟩ := getS2 X101 hx hZ hown (host := "") (Or.inl (ow44 hw)) Via.refl e101 f102 (g := (mkF m 27 #[.val (.ref a1), .val (.ref ca), .val (.int (0 : Int32)), .val (.int (5 : Int32)), .val .null, .unset] [])) rfl (hb hby d4_27)
  refine Rch.go st103 ?_
  refine Rch.go (fun zt zk => XS.ifNo X103.here hx rfl (hb hby d4_30) rfl ((if0 _ _).trans (feq (hcz : ¬ (cz = (0 : Int32)))).1) zk) ?_
  refine Rch.go (fun zt zk => XS.aloadN X103.here hx rfl (hb hby d4_33) rfl rfl zk) ?_
  refine Rch.go (fun zt zk => XS.iloadN X103.here hx rfl (hb hby d4_34) rfl zk) ?_
  show Rch _ _ _ _ (T103.setTop (mkF m 35 #[.val (.ref a1), .val (.ref ca), .val (.int (0 : Int32)), .val (.int (5 : Int32)), .val .null, .unset] [(.int (0 : Int32)), (.ref ca)]))
  refine Rch.go (fun zt zk => XS.iloadN X103.here hx rfl (hb hby d4_35) rfl zk) ?_
  obtain ⟨_, _, ⟨T104, L104, k104, n104⟩, -, X104, ⟨Lc104, hQ104, l104, y104, z104⟩, st104⟩ := Jvm.LawKit.callS X103 hx (y := (⟨"java/lang/StringUTF16", "compress", "([CII)[B"⟩ : MethodName)) hown (mvT hZ (ow63 hw)) (mvT hZ (ow64 hw)) (mvT hZ (ow65 hw)) (mvT hZ (ow66 hw)) (by decide) (backOf (W := 0) (rmCp5 l Z a0 hw [] (ca) (kc) (d0) (d1) (d2) (d3) (d4) h0 n0 Z0 (P3) (r_d0) (r_d1) (r_d2) (r_d3) (r_d4)) hZ (ow66 hw) (ow65 hw) (by decide) (by decide)) (g := (mkF m 36 #[.val (.ref a1), .val (.ref ca), .val (.int (0 : Int32)), .val (.int (5 : Int32)), .val .null, .unset] [(.int (5 : Int32)), (.int (0 : Int32)), (.ref ca)])) rfl (by rw [hml]; rfl) (argsL := [(.ref ca), (.int (0 : Int32)), (.int (5 : Int32))]) (rest := []) (lenOf pd___CII__B rfl) rfl (by show 2 * 0 + _ ≤ _; exact Nat.le_of_eq rfl) (hb hby d4_36) (fun _ _ => ⟨rfl, e103, (by decide : 0 + 1 ≤ _), (by decide : 0 + 5 ≤ _)⟩)
  dsimp only [Pt.U, Pt.locs, Pt.cells, Pt.slots] at X104 l104 y104 z104 st104 hQ104
  rw [l104, y104, z104] at X104
  obtain ⟨⟨b104, kb104, rfl, gb104, gh104, V104⟩, N104q, K104q⟩ := hQ104
  have N104 := Fr.app N0 N104q
  have ne_a1_b104 : a1 ≠ b104 := Nat.ne_of_lt (Nat.lt_of_lt_of_le P0.lt gh104)
  have ne_ca_b104 : ca ≠ b104 := Nat.ne_of_lt (Nat.lt_of_lt_of_le P3.lt gh104)
  have gk104 : h0.size ≤ b104 := Nat.le_trans (Keep.refl h0 [a1]).1 gh104
  have K104 := Keep.trans (Keep.refl h0 [a1]) K104q all0
  refine Rch.go st104 ?_
  refine Rch.go (fun zt zk => XS.astore X104.here hx rfl (hb hby d4_39) rfl rfl (l' := #[.val (.ref a1), .val (.ref ca), .val (.int (0 : Int32)), .val (.int (5 : Int32)), .val .null, .val (.ref b104)]) rfl zk) ?_
  refine Rch.go (fun zt zk => XS.aloadN X104.here hx rfl (hb hby d4_41) rfl rfl zk) ?_
  show Rch _ _ _ _ (T104.setTop (mkF m 42 #[.val (.ref a1), .val (.ref ca), .val (.int (0 : Int32)), .val (.int (5 : Int32)), .val .null, .val (.ref b104)] [(.ref a1)]))
  refine Rch.go (fun zt zk => XS.aload X104.here hx rfl (hb hby d4_42) rfl rfl zk) ?_
  refine Rch.go (fun zt zk => XS.iloadN X104.here hx rfl (hb hby d4_44) rfl zk) ?_
  have f106 := (Nat.le_trans Z0 K104q.1)
  obtain ⟨_, _, ⟨T105, L105, k105, n105⟩, -, X105, ⟨Lc105, hQ105, l105, y105, z105⟩, st105⟩ := Jvm.LawKit.callS X104 hx (y := (⟨"java/lang/StringUTF16", "coderFromArrayLen", "([BI)B"⟩ : MethodName)) hown (mvT hZ (ow70 hw)) (mvT hZ (ow71 hw)) (mvT hZ (ow65 hw)) (mvT hZ (ow72 hw)) (by decide) (backOf (W := 1) (rm15 l Z a0 hw [] (b104) ((5 : Int32)) (kb104) ((5 : Int32)) ([(.int (bOf d0)), (.int (bOf d1)), (.int (bOf d2)), (.int (bOf d3)), (.int (bOf d4))]) T104.heap n0 f106 (V104)) hZ (ow72 hw) (ow65 hw) (by decide) (by decide)) (g := (mkF m 45 #[.val (.ref a1), .val (.ref ca), .val (.int (0 : Int32)), .val (.int (5 : Int32)), .val .null, .val (.ref b104)] [(.int (5 : Int32)), (.ref b104), (.ref a1)])) rfl (by rw [hml]; rfl) (argsL := [(.ref b104), (.int (5 : Int32))]) (rest := [(.ref a1)]) (lenOf pd___BI_B rfl) rfl (by show 2 * 0 + _ ≤ _; exact Nat.le_of_eq rfl) (hb hby d4_45) (fun _ _ => ⟨rfl, rfl, (by decide : 1 + 0 ≤ _), (by decide : 5 + 0 ≤ _)⟩)
  dsimp only [Pt.U, Pt.locs, Pt.cells, Pt.slots] at X105 l105 y105 z105 st105 hQ105
  rw [l105, y105, z105] at X105
  obtain ⟨rfl, N105q, eq105⟩ := hQ105
  have N105 := Fr.app N104 N105q
  refine Rch.go st105 ?_
  have hcd : (nar .byte (((((5 : Int32) - (5 : Int32)).toUInt32 >>> ((31 : Int32) &&& 31).toUInt32).toInt32).toInt8.toInt32)) = (0 : Int32) := by decide
  rw [hcd]
  show Rch _ _ _ _ (T105.setTop (mkF m 48 #[.val (.ref a1), .val (.ref ca), .val (.int (0 : Int32)), .val (.int (5 : Int32)), .val .null, .val (.ref b104)] [(.int (0 : Int32)), (.ref a1)]))
  have f107 := (P0.keep K104q)
  have f108 := (P2.keep K104q nin0)
  obtain ⟨T109, h109, X109, e109, W109, st109⟩ := putFN X105 hx hZ hown (ow29 hw) Via.refl eq105 f108 f107 (Or.inr ⟨(ow25 hw), rfl, hnm⟩) (ow10 hw) (ty := .byte) (v' := (.int (nar .byte (0 : Int32)))) (by decide) rfl (fits_nar_byte _) (g := (mkF m 48 #[.val (.ref a1), .val (.ref ca), .val (.int (0 : Int32)), .val (.int (5 : Int32)), .val .null, .val (.ref b104)] [(.int (0 : Int32)), (.ref a1)])) rfl rfl (hb hby d4_48)
  refine Rch.go st109 ?_
  have Fw109 := f108.same W109
  have N109 := Fr.snoc X109 N105 Pg_a1
  have K109 : Keep h0 h109 [a1] := Keep.wr K104 W109 (Or.inl (List.mem_of_getElem? (i := 0) rfl))
  refine Rch.go (fun zt zk => XS.aloadN X109.here hx rfl (hb hby d4_51) rfl rfl zk) ?_
  refine Rch.go (fun zt zk => XS.aload X109.here hx rfl (hb hby d4_52) rfl rfl zk) ?_
  have f110 := (f107.wr W109)
  have f111 := ((P1.keep K104q nin0).other W109 (Or.inr (slot_ne (Or.inr (ow24 hw)) (Or.inr (ow25 hw)) (by decide) (t := (.array .byte)) (t' := .byte) (by decide) (by decide))))
  obtain ⟨T112, h112, X112, e112, W112, st112⟩ := putF X109 hx hZ hown (host := "") (Or.inl (ow28 hw)) Via.refl e109 f111 f110 (Or.inr ⟨(ow24 hw), rfl, hnm⟩) (ow10 hw) (ty := (.array .byte)) (by decide) rfl rfl (g := (mkF m 54 #[.val (.ref a1), .val (.ref ca), .val (.int (0 : Int32)), .val (.int (5 : Int32)), .val .null, .val (.ref b104)] [(.ref b104), (.ref a1)])) rfl rfl (hb hby d4_54)
  refine Rch.go st112 ?_
  have Fw112 := f111.same W112
  have N112 := Fr.snoc X112 N109 Pg_a1
  have K112 : Keep h0 h112 [a1] := Keep.wr K109 W112 (Or.inl (List.mem_of_getElem? (i := 0) rfl))
  show Rch _ _ _ _ (T112.setTop (mkF m 57 #[.val (.ref a1), .val (.ref ca), .val (.int (0 : Int32)), .val (.int (5 : Int32)), .val .null, .val (.ref b104)] []))
  obtain ⟨fs, hr, hrun, hended, hW, hsame⟩ := X112.leave (v := none) (fun _ => rfl)
  refine Rch.mk (X112.returnOut hx Bd.returns (hb hby d4_57) hr) (hPd _ _ _ _ hrun hended rfl ?_ ⟨⟨_, rfl⟩, hW, hsame.mono (by decide) (by decide)⟩)
  show Q_rmCi5 Z a1 ca kc cz d0 d1 d2 d3 d4 h0 n0 _ T112.heap _
  rw [e112]
  have f113 := (f110.wr W112)
  have f114 := (Fw109.other W112 (Or.inr (slot_ne (Or.inr (ow25 hw)) (Or.inr (ow24 hw)) (by decide) (t := .byte) (t' := (.array .byte)) (by decide) (by decide))))
  have f115 := ((V104.other W109 (Ne.symm ne_a1_b104)).other W112 (Ne.symm ne_a1_b104))
  exact ⟨rfl, N112, K112, f113, f114, b104, _, gb104, gk104, Fw112, f115⟩
theorem ef_rmC5 (m : MethodId) (a1 : Addr) (ca : Addr) : entryFrame m #[(.ref a1), (.ref ca)] 2 = mkF m 0 #[.val (.ref a1), .val (.ref ca)] [] := by first | (simp [entryFrame, mkF, argsToLocals, Value.category]; done) | rfl
def Q_rmC5 (Z : State) (a1 : Addr) (ca : Addr) (kc : ClassId) (cz : Int32) (d0 : Int32) (d1 : Int32) (d2 : Int32) (d3 : Int32) (d4 : Int32) (h0 : Heap) (n0 : Nat) (v : Option Value) (h : Heap) (L : List Loc) : Prop := v = none ∧ Fr n0 L ∧ Keep h0 h [a1] ∧ Exa Z h a1 "java/lang/String" ∧ Fld Z h a1 "java/lang/String" "coder" "B" (.int (nar .byte (0 : Int32))) ∧ ∃ (b : Addr) (kb : ClassId), n0 ≤ b ∧ h0.size ≤ b ∧ Fld Z h a1 "java/lang/String" "value" "[B" (.ref b) ∧ Arv Z h b kb .byte (5 : Int32) [(.int (bOf d0)), (.int (bOf d1)), (.int (bOf d2)), (.int (bOf d3)), (.int (bOf d4))] (.int (0 : Int32))
set_option maxRecDepth 65536 in
set_option maxHeartbeats 40000000 in
theorem rmC5 (l : Launch) (Z : State) (a0 : Array Value) (hw : ∀ d ∈ tables_1, d.before a0 Z = true) (ws : List Jvm.Cond) (a1 : Addr) (ca : Addr) (kc : ClassId) (cz : Int32) (d0 : Int32) (d1 : Int32) (d2 : Int32) (d3 : Int32) (d4 : Int32) (h0 : Heap) (n0 : Nat) (Z0 : n0 ≤ h0.size) (P0 : Exa Z h0 a1 "java/lang/String") (P1 : Fld Z h0 a1 "java/lang/String" "value" "[B" .null) (P2 : Fld Z h0 a1 "java/lang/String" "coder" "B" (.int (0 : Int32))) (P3 : Arv Z h0 ca kc .char (5 : Int32) [(.int d0), (.int d1), (.int d2), (.int d3), (.int d4)] (.int (0 : Int32))) (P4 : Old Z n0 h0) (P5 : Sta Z Z.heap "java/lang/String" "COMPACT_STRINGS" "Z" (.int cz)) (Pn0 : ca ≠ a1) (Pg_a1 : n0 ≤ a1) (r_d0 : R8 d0) (r_d1 : R8 d1) (r_d2 : R8 d2) (r_d3 : R8 d3) (r_d4 : R8 d4) (hcz : ¬ (cz = (0 : Int32))) :
    MetFree l (⟨"java/lang/String", "<init>", "([C)V"⟩ : MethodName) (head1 (Jvm.Cond.code (⟨"java/lang/String", "<init>", "([C)V"⟩ : MethodName) jdk_42_method_3_code 2 none :: ws) ({ frames := 3, cells := 1, slots := 5, locals := 52 } : Room)) (fun a U => a = #[(.ref a1), (.ref ca)] ∧ Z.Warmed39 U.vm ∧ U.heap = h0) (fun _ _ _ _ _ => True) (fun _ U o U' => ∃ v L, o = .returned v ∧ Q_rmC5 Z a1 ca kc cz d0 d1 d2 d3 d4 h0 n0 v U'.heap L ∧ FrameEnd U o U' L ({ frames := 3, cells := 1, slots := 5, locals := 52 } : Room).cells ({ frames := 3, cells := 1, slots := 5, locals := 52 } : Room).slots) := by
  refine MetFree.of_bodySF (plainFor_of_name pn_java_lang_String) hisR ?_
  intro p e s m args below meth c s₁ Bd hml0 hP hK
  obtain ⟨rfl, hZ, hh⟩ := hP
  have hx := Bd.exec
  have hby := Bd.bytes
  have hml : c.maxLocals = 2 := hml0
  have hown : s.vm.findClass "java/lang/String" = some m.cls := findClass_of_methodNamed Bd.named
  have hnm := (name_of_methodNamed Bd.named Bd.method).1
  have X0 : Stand p l e ({ frames := 3, cells := 1, slots := 5, locals := 52 } : Room) s m #[(.ref a1), (.ref ca)] below meth c s₁ [] 0 0 := Stand.of_body Bd
  have e0 : s₁.heap = h0 := by rw [← hh, Bd.state]; rfl
  have N0 := Fr.nil n0
  suffices hR : ∀ P : State → Prop, (∀ s₂ o v L, s₂.status = .running → Ended s₂ below o → o = .returned v → Q_rmC5 Z a1 ca kc cz d0 d1 d2 d3 d4 h0 n0 v s₂.heap L → FrameEnd s o s₂ L ({ frames := 3, cells := 1, slots := 5, locals := 52 } : Room).cells ({ frames := 3, cells := 1, slots := 5, locals := 52 } : Room).slots → P s₂) → Rch p.tables e below P (s₁.setTop (mkF m 0 #[.val (.ref a1), .val (.ref ca)] [])) by
    obtain ⟨s₂, h1, o, h2⟩ := hR (fun s₂ => ∃ o, s₂.status = .running ∧ Ended s₂ below o ∧ ∃ v L, o = .returned v ∧ Q_rmC5 Z a1 ca kc cz d0 d1 d2 d3 d4 h0 n0 v s₂.heap L ∧ FrameEnd s o s₂ L ({ frames := 3, cells := 1, slots := 5, locals := 52 } : Room).cells ({ frames := 3, cells := 1, slots := 5, locals := 52 } : Room).slots) (fun s₂ o v L q1 q2 q3 q4 q5 => ⟨o, q1, q2, v, L, q3, q4, q5⟩)
    exact ⟨s₂, o, castTop (ef_rmC5 m a1 ca) h1, h2⟩
  intro P hPd
  refine Rch.go (fun zt zk => XS.aloadN X0.here hx rfl (hb hby d3_0) rfl rfl zk) ?_
  refine Rch.go (fun zt zk => XS.aloadN X0.here hx rfl (hb hby d3_1) rfl rfl zk) ?_
  refine Rch.go (fun zt zk => XS.iconst X0.here hx rfl (hb hby d3_2) zk) ?_
  refine Rch.go (fun zt zk => XS.aloadN X0.here hx rfl (hb hby d3_3) rfl rfl zk) ?_
  show Rch _ _ _ _ (s₁.setTop (mkF m 4 #[.val (.ref a1), .val (.ref ca)] [(.ref ca), (.int (0 : Int32)), (.ref ca), (.ref a1)]))
  obtain ⟨cl101, Ar101, q101, S101, M101, H101, G101⟩ := id P3
  refine Rch.go (X0.arraylength hx (by rw [e0]; exact Ar101.1) (State.isArrayOf_alike hZ.alike Ar101.2.1) (g := (mkF m 4 #[.val (.ref a1), .val (.ref ca)] [(.ref ca), (.int (0 : Int32)), (.ref ca), (.ref a1)])) rfl rfl (hb hby d3_4)) ?_
  rw [len_of S101 M101]
  refine Rch.go (fun zt zk => XS.aconstNull X0.here hx rfl (hb hby d3_5) zk) ?_
  obtain ⟨_, _, ⟨T102, L102, k102, n102⟩, -, X102, ⟨Lc102, hQ102, l102, y102, z102⟩, st102⟩ := X0.specialBack hx (y := (⟨"java/lang/String", "<init>", "([CIILjava/lang/Void;)V"⟩ : MethodName)) rfl hown (mvT hZ (ow15 hw)) (mvT hZ (ow16 hw)) (mvT hZ (ow18 hw)) (by decide) (backOf (W := 0) (rmCi5 l Z a0 hw [] (a1) (ca) (kc) (cz) (d0) (d1) (d2) (d3) (d4) h0 n0 Z0 (P0) (P1) (P2) (P3) (P4) (P5) (Pn0) (Pg_a1) (r_d0) (r_d1) (r_d2) (r_d3) (r_d4) (hcz)) hZ (ow18 hw) (ow11 hw) (by decide) (by decide)) (g := (mkF m 6 #[.val (.ref a1), .val (.ref ca)] [.null, (.int (5 : Int32)), (.int (0 : Int32)), (.ref ca), (.ref a1)])) rfl (by rw [hml]; rfl) (Steps.refl _) (a := a1) (argsL := [(.ref ca), (.int (0 : Int32)), (.int (5 : Int32)), .null]) (rest := []) (lenOf pd___CIILjava_lang_Void__V rfl) rfl (by show 2 * 0 + _ ≤ _; exact Nat.le_of_eq rfl) (hb hby d3_6) (fun _ _ => ⟨rfl, e0, (by decide : 0 + 1 ≤ _), (by decide : 0 + 5 ≤ _)⟩)
  dsimp only [Pt.U, Pt.locs, Pt.cells, Pt.slots] at X102 l102 y102 z102 st102 hQ102
  rw [l102, y102, z102] at X102
  obtain ⟨rfl, N102q, K102q, E102, C102, b102, kb102, gb102, gh102, U102, V102⟩ := hQ102
  have N102 := Fr.app N0 N102q
  have ne_a1_b102 : a1 ≠ b102 := Nat.ne_of_lt (Nat.lt_of_lt_of_le P0.lt gh102)
  have ne_ca_b102 : ca ≠ b102 := Nat.ne_of_lt (Nat.lt_of_lt_of_le P3.lt gh102)
  have gk102 : h0.size ≤ b102 := Nat.le_trans (Keep.refl h0 [a1]).1 gh102
  have K102 := Keep.trans (Keep.refl h0 [a1]) K102q (allS (Or.inl (List.mem_of_getElem? (i := 0) rfl)) all0)
  refine Rch.go (fun zt zk => st102.trans zk) ?_
  obtain ⟨fs, hr, hrun, hended, hW, hsame⟩ := X102.leave (v := none) (fun _ => rfl)
  refine Rch.mk (X102.returnOut hx Bd.returns (hb hby d3_9) hr) (hPd _ _ _ _ hrun hended rfl ?_ ⟨⟨_, rfl⟩, hW, hsame.mono (by decide) (by decide)⟩)
  show Q_rmC5 Z a1 ca kc cz d0 d1 d2 d3 d4 h0 n0 _ T102.heap _
  exact ⟨rfl, N102, K102, E102, C102, b102, _, gb102, gk102, U102, V102⟩
theorem ef_rmMk1 (m : MethodId) (ca : Addr) : entryFrame m #[(.int (1 : Int32)), (.ref ca)] 2 = mkF m 0 #[.val (.int (1 : Int32)), .val (.ref ca)] [] := by first | (simp [entryFrame, mkF, argsToLocals, Value.category]; done) | rfl
theorem d2_0 : decode method_6_code 0 = .ok (.iload_n 0, 1) := by decide +kernel
theorem d2_1 : decode method_6_code 1 = .ok (.ifCond .ne 14, 3) := by decide +kernel
theorem d2_15 : decode method_6_code 15 = .ok (.iload_n 0, 1) := by decide +kernel
theorem d2_16 : decode method_6_code 16 = .ok (.iconst 1, 1) := by decide +kernel
theorem d2_17 : decode method_6_code 17 = .ok (.if_icmp .ne 20, 3) := by decide +kernel
theorem d2_20 : decode method_6_code 20 = .ok (.new 29, 3) := by decide +kernel
theorem d2_23 : decode method_6_code 23 = .ok (.dup, 1) := by decide +kernel
theorem d2_24 : decode method_6_code 24 = .ok (.iconst 1, 1) := by decide +kernel
theorem d2_25 : decode method_6_code 25 = .ok (.newarray .char, 2) := by decide +kernel
theorem d2_27 : decode method_6_code 27 = .ok (.dup, 1) := by decide +kernel
theorem d2_28 : decode method_6_code 28 = .ok (.iconst 0, 1) := by decide +kernel
theorem d2_29 : decode method_6_code 29 = .ok (.aload_n 1, 1) := by decide +kernel
theorem d2_30 : decode method_6_code 30 = .ok (.iconst 0, 1) := by decide +kernel
theorem d2_31 : decode method_6_code 31 = .ok (.caload, 1) := by decide +kernel
theorem d2_32 : decode method_6_code 32 = .ok (.castore, 1) := by decide +kernel
theorem d2_33 : decode method_6_code 33 = .ok (.invokespecial 41, 3) := by decide +kernel
theorem pd___C_V : parseMethodDescriptor "([C)V" = some ⟨[(.array .char)], none⟩ := by decide +kernel
theorem d2_36 : decode method_6_code 36 = .ok (.areturn, 1) := by decide +kernel
def Q_rmMk1 (Z : State) (ca : Addr) (kc : ClassId) (cz : Int32) (c0 : Int32) (c1 : Int32) (c2 : Int32) (c3 : Int32) (c4 : Int32) (h0 : Heap) (n0 : Nat) (v : Option Value) (h : Heap) (L : List Loc) : Prop := (∃ (r b : Addr) (kb : ClassId) (w2 : Int32), v = some (.ref r) ∧ w2 = (0 : Int32) ∧ Exa Z h r "java/lang/String" ∧ Fld Z h r "java/lang/String" "coder" "B" (.int w2) ∧ Fld Z h r "java/lang/String" "value" "[B" (.ref b) ∧ Arv Z h b kb .byte (1 : Int32) [(.int (bOf c0))] (.int (0 : Int32))) ∧ Fr n0 L ∧ Keep h0 h []
set_option maxRecDepth 65536 in
set_option maxHeartbeats 40000000 in
theorem rmMk1 (l : Launch) (Z : State) (a0 : Array Value) (hw : ∀ d ∈ tables_1, d.before a0 Z = true) (ws : List Jvm.Cond) (ca : Addr) (kc : ClassId) (cz : Int32) (c0 : Int32) (c1 : Int32) (c2 : Int32) (c3 : Int32) (c4 : Int32) (h0 : Heap) (n0 : Nat) (Z0 : n0 ≤ h0.size) (P0 : Arv Z h0 ca kc .char (5 : Int32) [(.int c0), (.int c1), (.int c2), (.int c3), (.int c4)] (.int (0 : Int32))) (P1 : Old Z n0 h0) (P2 : Sta Z Z.heap "java/lang/String" "COMPACT_STRINGS" "Z" (.int cz)) (r_c0 : R8 c0) (hcz : ¬ (cz = (0 : Int32))) :
    MetFree l (⟨"com/example/keepwire/keepwire/ResponseHeadTrimSpacesPinLaw", "make", "(I[C)Ljava/lang/String;"⟩ : MethodName) (head1 (Jvm.Cond.code (⟨"com/example/keepwire/keepwire/ResponseHeadTrimSpacesPinLaw", "make", "(I[C)Ljava/lang/String;"⟩ : MethodName) method_6_code 2 (some (.object "java/lang/String")) :: ws) ({ frames := 4, cells := 3, slots := 6, locals := 66 } : Room)) (fun a U => a = #[(.int (1 : Int32)), (.ref ca)] ∧ Z.Warmed39 U.vm ∧ U.heap = h0) (fun _ _ _ _ _ => True) (fun _ U o U' => ∃ v L, o = .returned v ∧ Q_rmMk1 Z ca kc cz c0 c1 c2 c3 c4 h0 n0 v U'.heap L ∧ FrameEnd U o U' L ({ frames := 4, cells := 3, slots := 6, locals := 66 } : Room).cells ({ frames := 4, cells := 3, slots := 6, locals := 66 } : Room).slots) := by
  refine MetFree.of_bodySF (plainFor_of_name pn_com_example_keepwire_keepwire_ResponseHeadTrimSpacesPinLaw) hisR ?_
  intro p e s m args below meth c s₁ Bd hml0 hP hK
  obtain ⟨rfl, hZ, hh⟩ := hP
  have hx := Bd.exec
  have hby := Bd.bytes
  have hml : c.maxLocals = 2 := hml0
  have hown : s.vm.findClass "com/example/keepwire/keepwire/ResponseHeadTrimSpacesPinLaw" = some m.cls := findClass_of_methodNamed Bd.named
  have hnm := (name_of_methodNamed Bd.named Bd.method).1
  have X0 : Stand p l e ({ frames := 4, cells := 3, slots := 6, locals := 66 } : Room) s m #[(.int (1 : Int32)), (.ref ca)] below meth c s₁ [] 0 0 := Stand.of_body Bd
  have e0 : s₁.heap = h0 := by rw [← hh, Bd.state]; rfl
  have N0 := Fr.nil n0
  suffices hR : ∀ P : State → Prop, (∀ s₂ o v L, s₂.status = .running → Ended s₂ below o → o = .returned v → Q_rmMk1 Z ca kc cz c0 c1 c2 c3 c4 h0 n0 v s₂.heap L → FrameEnd s o s₂ L ({ frames := 4, cells := 3, slots := 6, locals := 66 } : Room).cells ({ frames := 4, cells := 3, slots := 6, locals := 66 } : Room).slots → P s₂) → Rch p.tables e below P (s₁.setTop (mkF m 0 #[.val (.int (1 : Int32)), .val (.ref ca)] [])) by
    obtain ⟨s₂, h1, o, h2⟩ := hR (fun s₂ => ∃ o, s₂.status = .running ∧ Ended s₂ below o ∧ ∃ v L, o = .returned v ∧ Q_rmMk1 Z ca kc cz c0 c1 c2 c3 c4 h0 n0 v s₂.heap L ∧ FrameEnd s o s₂ L ({ frames := 4, cells := 3, slots := 6, locals := 66 } : Room).cells ({ frames := 4, cells := 3, slots := 6, locals := 66 } : Room).slots) (fun s₂ o v L q1 q2 q3 q4 q5 => ⟨o, q1, q2, v, L, q3, q4, q5⟩)
    exact ⟨s₂, o, castTop (ef_rmMk1 m ca) h1, h2⟩
  intro P hPd
  refine Rch.go (fun zt zk => XS.iloadN X0.here hx rfl (hb hby d2_0) rfl zk) ?_
  refine Rch.go (fun zt zk => XS.ifYes X0.here hx rfl (pc0 := 1) (pc' := 15) rfl (hb hby d2_1) rfl ((if0 _ _).trans (feq (by decide : ¬ ((1 : Int32) = (0 : Int32)))).2) (by decide) (by decide) zk) ?_
  refine Rch.go (fun zt zk => XS.iloadN X0.here hx rfl (hb hby d2_15) rfl zk) ?_
  refine Rch.go (fun zt zk => XS.iconst X0.here hx rfl (hb hby d2_16) zk) ?_
  show Rch _ _ _ _ (s₁.setTop (mkF m 17 #[.val (.int (1 : Int32)), .val (.ref ca)] [(.int (1 : Int32)), (.int (1 : Int32))]))
  refine Rch.go (fun zt zk => XS.icmpNo X0.here hx rfl (hb hby d2_17) rfl (teq (by decide : (1 : Int32) = (1 : Int32))).2 zk) ?_
  obtain ⟨T101, h101, X101, e101, E101, A101, D101, -, st101⟩ := newO X0 hx hZ hown (ow9 hw) (ow10 hw) (ow11 hw) e0 (g := (mkF m 20 #[.val (.int (1 : Int32)), .val (.ref ca)] [])) rfl (hb hby d2_20) (by decide) (by decide)
  obtain ⟨b101, g101⟩ : ∃ z, z = h0.size := ⟨_, rfl⟩
  rw [← g101] at A101 D101 st101
  refine Rch.go st101 ?_
  have ne_ca_b101 : ca ≠ b101 := by have q := P0.lt; rw [g101]; exact Nat.ne_of_lt q
  have ge101 : n0 ≤ b101 := by rw [g101]; exact Z0
  have gk101 : h0.size ≤ b101 := by rw [g101]; exact (Keep.refl h0 []).1
  have K101 := (Keep.refl h0 []).ext E101
  have F101_value : Fld Z h101 b101 "java/lang/String" "value" "[B" .null := D101 (Or.inr (ow24 hw)) (ty := (.array .byte)) (by decide)
  have F101_coder : Fld Z h101 b101 "java/lang/String" "coder" "B" (.int (0 : Int32)) := D101 (Or.inr (ow25 hw)) (ty := .byte) (by decide)
  refine Rch.go (fun zt zk => XS.dup X101.here hx rfl (hb hby d2_23) rfl rfl zk) ?_
  refine Rch.go (fun zt zk => XS.iconst X101.here hx rfl (hb hby d2_24) zk) ?_
  show Rch _ _ _ _ (T101.setTop (mkF m 25 #[.val (.int (1 : Int32)), .val (.ref ca)] [(.int (1 : Int32)), (.ref b101), (.ref b101)]))
  have f102 := (P0.ext E101)
  have f103 := (Nat.le_trans Z0 E101.1)
  obtain ⟨T104, h104, k104, X104, e104, E104, A104, st104⟩ := newP X101 hx hZ (aty := .char) (ow1 hw) e101 (g := (mkF m 25 #[.val (.int (1 : Int32)), .val (.ref ca)] [(.int (1 : Int32)), (.ref b101), (.ref b101)])) rfl (hb hby d2_25) rfl (by decide) (cap := 1) (by decide) (by decide) (by decide) (by decide)
  obtain ⟨b104, g104⟩ : ∃ z, z = h101.size := ⟨_, rfl⟩
  rw [← g104] at A104 st104
  refine Rch.go st104 ?_
  have ne_ca_b104 : ca ≠ b104 := by have q := f102.lt; rw [g104]; exact Nat.ne_of_lt q
  have ne_b101_b104 : b101 ≠ b104 := by have q := A101.lt; rw [g104]; exact Nat.ne_of_lt q
  have ge104 : n0 ≤ b104 := by rw [g104]; exact f103
  have gk104 : h0.size ≤ b104 := by rw [g104]; exact K101.1
  have K104 := K101.ext E104
  have V104 : Arv Z h104 b104 k104 .char (1 : Int32) [(.int (0 : Int32))] (.int (0 : Int32)) := (Arv.new A104 (by decide)).pad (pad_rep [] (.int (0 : Int32)) 1)
  refine Rch.go (fun zt zk => XS.dup X104.here hx rfl (hb hby d2_27) rfl rfl zk) ?_
  refine Rch.go (fun zt zk => XS.iconst X104.here hx rfl (hb hby d2_28) zk) ?_
  refine Rch.go (fun zt zk => XS.aloadN X104.here hx rfl (hb hby d2_29) rfl rfl zk) ?_
  show Rch _ _ _ _ (T104.setTop (mkF m 30 #[.val (.int (1 : Int32)), .val (.ref ca)] [(.ref ca), (.int (0 : Int32)), (.ref b104), (.ref b104), (.ref b101), (.ref b101)]))
  refine Rch.go (fun zt zk => XS.iconst X104.here hx rfl (hb hby d2_30) zk) ?_
  have f105 := (f102.ext E104)
  obtain ⟨cl106, Ar106, q106, S106, M106, H106, G106⟩ := id f105
  have hin106 := inb_of (j := (0 : Int32)) S106 ⟨by decide, by decide⟩
  refine Rch.go (X104.caload hx (j := (0 : Int32)) (v := (.int c0)) (by rw [e104]; exact Ar106.1) (State.isArrayOf_alike hZ.alike Ar106.2.1) Ar106.2.2 hin106 (Has.at H106 hin106 rfl) (g := (mkF m 31 #[.val (.int (1 : Int32)), .val (.ref ca)] [(.int (0 : Int32)), (.ref ca), (.int (0 : Int32)), (.ref b104), (.ref b104), (.ref b101), (.ref b101)])) rfl rfl (hb hby d2_31)) ?_
  obtain ⟨cl107, Ar107, q107, S107, M107, H107, G107⟩ := id V104
  obtain ⟨T107, h107, X107, e107, W107, st107⟩ := stC X104 hx hZ e104 Ar107 (j := (0 : Int32)) (inb_of S107 ⟨by decide, by decide⟩) (g := (mkF m 32 #[.val (.int (1 : Int32)), .val (.ref ca)] [(.int c0), (.int (0 : Int32)), (.ref b104), (.ref b104), (.ref b101), (.ref b101)])) rfl rfl (hb hby d2_32)
  refine Rch.go st107 ?_
  have V107 : Arv Z h107 b104 k104 .char (1 : Int32) [(.int (nar .char c0))] (.int (0 : Int32)) := Arv.set Ar107 q107 S107 M107 H107 G107 (fits_nar_char _) W107 0 rfl (Nat.le_of_ble_eq_true rfl)
  have N107 := Fr.snoc X107 N0 ge104
  have K107 := K104.wr W107 (Or.inr gk104)
  have f109 := ((A101.ext E104).wr W107)
  have f110 := ((F101_value.ext E104).other W107 (Or.inl ne_b101_b104))
  have f111 := ((F101_coder.ext E104).other W107 (Or.inl ne_b101_b104))
  have f112 := (((P1.ext E101).ext E104).wr W107 ge104)
  have f113 := (Nat.le_trans (Nat.le_trans f103 E104.1) (Keep.of_wr W107).1)
  obtain ⟨_, _, ⟨T108, L108, k108, n108⟩, -, X108, ⟨Lc108, hQ108, l108, y108, z108⟩, st108⟩ := X107.specialBack hx (y := (⟨"java/lang/String", "<init>", "([C)V"⟩ : MethodName)) rfl hown (mvT hZ (ow12 hw)) (mvT hZ (ow13 hw)) (mvT hZ (ow14 hw)) (by decide) (backOf (W := 1) (rmC1 l Z a0 hw [] (b101) (b104) (k104) (cz) ((nar .char c0)) h107 n0 f113 (f109) (f110) (f111) (V107) (f112) (P2) ((Ne.symm ne_b101_b104)) (ge101) ((by rw [own_narC r_c0]; exact r_c0)) (hcz)) hZ (ow14 hw) (ow11 hw) (by decide) (by decide)) (g := (mkF m 33 #[.val (.int (1 : Int32)), .val (.ref ca)] [(.ref b104), (.ref b101), (.ref b101)])) rfl (by rw [hml]; rfl) (Steps.refl _) (a := b101) (argsL := [(.ref b104)]) (rest := [(.ref b101)]) (lenOf pd___C_V rfl) rfl (by show 2 * 0 + _ ≤ _; exact Nat.le_of_eq rfl) (hb hby d2_33) (fun _ _ => ⟨rfl, e107, (by decide : 2 + 1 ≤ _), (by decide : 5 + 1 ≤ _)⟩)
  dsimp only [Pt.U, Pt.locs, Pt.cells, Pt.slots] at X108 l108 y108 z108 st108 hQ108
  rw [l108, y108, z108] at X108
  obtain ⟨rfl, N108q, K108q, E108, C108, b108, kb108, gb108, gh108, U108, V108⟩ := hQ108
  have N108 := Fr.app N107 N108q
  have f114 := (f105.other W107 ne_ca_b104)
  have ne_ca_b108 : ca ≠ b108 := Nat.ne_of_lt (Nat.lt_of_lt_of_le f114.lt gh108)
  have ne_b101_b108 : b101 ≠ b108 := Nat.ne_of_lt (Nat.lt_of_lt_of_le f109.lt gh108)
  have ne_b104_b108 : b104 ≠ b108 := Nat.ne_of_lt (Nat.lt_of_lt_of_le V107.lt gh108)
  have gk108 : h0.size ≤ b108 := Nat.le_trans K107.1 gh108
  have K108 := Keep.trans K107 K108q (allS (Or.inr gk101) all0)
  refine Rch.go (fun zt zk => st108.trans zk) ?_
  show Rch _ _ _ _ (T108.setTop (mkF m 36 #[.val (.int (1 : Int32)), .val (.ref ca)] [(.ref b101)]))
  obtain ⟨fs, hr, hrun, hended, hW, hsame⟩ := X108.leave (v := some (.ref b101)) (fun h => by rw [Bd.returns] at h; cases h)
  have hend : Steps p.tables e below (T108.setTop (mkF m 36 #[.val (.int (1 : Int32)), .val (.ref ca)] [(.ref b101)])) (T108.setFrames fs) := by
    jvm_step X108.here [X108.here.top, hx, (hb hby d2_36), X108.method', Bd.returns, Value.isRef, FieldType.isReference]
    first | (intro acts; rw [hr _ acts rfl rfl rfl]) | rw [hr _ _ rfl rfl rfl]
    exact Steps.refl _
  refine Rch.mk (hend) (hPd _ _ _ _ hrun hended rfl ?_ ⟨⟨_, rfl⟩, hW, hsame.mono (by decide) (by decide)⟩)
  show Q_rmMk1 Z ca kc cz c0 c1 c2 c3 c4 h0 n0 _ T108.heap _
  have VZ := V108
  simp only [own_narC r_c0] at VZ
  exact ⟨⟨b101, b108, _, _, rfl, rfl, E108, C108, U108, VZ⟩, N108, K108⟩
theorem ef_rmMk2 (m : MethodId) (ca : Addr) : entryFrame m #[(.int (2 : Int32)), (.ref ca)] 2 = mkF m 0 #[.val (.int (2 : Int32)), .val (.ref ca)] [] := by first | (simp [entryFrame, mkF, argsToLocals, Value.category]; done) | rfl
theorem d2_37 : decode method_6_code 37 = .ok (.iload_n 0, 1) := by decide +kernel
theorem d2_38 : decode method_6_code 38 = .ok (.iconst 2, 1) := by decide +kernel
theorem d2_39 : decode method_6_code 39 = .ok (.if_icmp .ne 26, 3) := by decide +kernel
theorem d2_42 : decode method_6_code 42 = .ok (.new 29, 3) := by decide +kernel
theorem d2_45 : decode method_6_code 45 = .ok (.dup, 1) := by decide +kernel
theorem d2_46 : decode method_6_code 46 = .ok (.iconst 2, 1) := by decide +kernel
theorem d2_47 : decode method_6_code 47 = .ok (.newarray .char, 2) := by decide +kernel
theorem d2_49 : decode method_6_code 49 = .ok (.dup, 1) := by decide +kernel
theorem d2_50 : decode method_6_code 50 = .ok (.iconst 0, 1) := by decide +kernel
theorem d2_51 : decode method_6_code 51 = .ok (.aload_n 1, 1) := by decide +kernel
theorem d2_52 : decode method_6_code 52 = .ok (.iconst 0, 1) := by decide +kernel
theorem d2_53 : decode method_6_code 53 = .ok (.caload, 1) := by decide +kernel
theorem d2_54 : decode method_6_code 54 = .ok (.castore, 1) := by decide +kernel
theorem d2_55 : decode method_6_code 55 = .ok (.dup, 1) := by decide +kernel
theorem d2_56 : decode method_6_code 56 = .ok (.iconst 1, 1) := by decide +kernel
theorem d2_57 : decode method_6_code 57 = .ok (.aload_n 1, 1) := by decide +kernel
theorem d2_58 : decode method_6_code 58 = .ok (.iconst 1, 1) := by decide +kernel
theorem d2_59 : decode method_6_code 59 = .ok (.caload, 1) := by decide +kernel
theorem d2_60 : decode method_6_code 60 = .ok (.castore, 1) := by decide +kernel
theorem d2_61 : decode method_6_code 61 = .ok (.invokespecial 41, 3) := by decide +kernel
theorem d2_64 : decode method_6_code 64 = .ok (.areturn, 1) := by decide +kernel
def Q_rmMk2 (Z : State) (ca : Addr) (kc : ClassId) (cz : Int32) (c0 : Int32) (c1 : Int32) (c2 : Int32) (c3 : Int32) (c4 : Int32) (h0 : Heap) (n0 : Nat) (v : Option Value) (h : Heap) (L : List Loc) : Prop := (∃ (r b : Addr) (kb : ClassId) (w2 : Int32), v = some (.ref r) ∧ w2 = (0 : Int32) ∧ Exa Z h r "java/lang/String" ∧ Fld Z h r "java/lang/String" "coder" "B" (.int w2) ∧ Fld Z h r "java/lang/String" "value" "[B" (.ref b) ∧ Arv Z h b kb .byte (2 : Int32) [(.int (bOf c0)), (.int (bOf c1))] (.int (0 : Int32))) ∧ Fr n0 L ∧ Keep h0 h []
set_option maxRecDepth 65536 in
set_option maxHeartbeats 40000000 in
theorem rmMk2 (l : Launch) (Z : State) (a0 : Array Value) (hw : ∀ d ∈ tables_1, d.before a0 Z = true) (ws : List Jvm.Cond) (ca : Addr) (kc : ClassId) (cz : Int32) (c0 : Int32) (c1 : Int32) (c2 : Int32) (c3 : Int32) (c4 : Int32) (h0 : Heap) (n0 : Nat) (Z0 : n0 ≤ h0.size) (P0 : Arv Z h0 ca kc .char (5 : Int32) [(.int c0), (.int c1), (.int c2), (.int c3), (.int c4)] (.int (0 : Int32))) (P1 : Old Z n0 h0) (P2 : Sta Z Z.heap "java/lang/String" "COMPACT_STRINGS" "Z" (.int cz)) (r_c0 : R8 c0) (r_c1 : R8 c1) (hcz : ¬ (cz = (0 : Int32))) :
    MetFree l (⟨"com/example/keepwire/keepwire/ResponseHeadTrimSpacesPinLaw", "make", "(I[C)Ljava/lang/String;"⟩ : MethodName) (head1 (Jvm.Cond.code (⟨"com/example/keepwire/keepwire/ResponseHeadTrimSpacesPinLaw", "make", "(I[C)Ljava/lang/String;"⟩ : MethodName) method_6_code 2 (some (.object "java/lang/String")) :: ws) ({ frames := 4, cells := 3, slots := 8, locals := 66 } : Room)) (fun a U => a = #[(.int (2 : Int32)), (.ref ca)] ∧ Z.Warmed39 U.vm ∧ U.heap = h0) (fun _ _ _ _ _ => True) (fun _ U o U' => ∃ v L, o = .returned v ∧ Q_rmMk2 Z ca kc cz c0 c1 c2 c3 c4 h0 n0 v U'.heap L ∧ FrameEnd U o U' L ({ frames := 4, cells := 3, slots := 8, locals := 66 } : Room).cells ({ frames := 4, cells := 3, slots := 8, locals := 66 } : Room).slots) := by
  refine MetFree.of_bodySF (plainFor_of_name pn_com_example_keepwire_keepwire_ResponseHeadTrimSpacesPinLaw) hisR ?_
  intro p e s m args below meth c s₁ Bd hml0 hP hK
  obtain ⟨rfl, hZ, hh⟩ := hP
  have hx := Bd.exec
  have hby := Bd.bytes
  have hml : c.maxLocals = 2 := hml0
  have hown : s.vm.findClass "com/example/keepwire/keepwire/ResponseHeadTrimSpacesPinLaw" = some m.cls := findClass_of_methodNamed Bd.named
  have hnm := (name_of_methodNamed Bd.named Bd.method).1
  have X0 : Stand p l e ({ frames := 4, cells := 3, slots := 8, locals := 66 } : Room) s m #[(.int (2 : Int32)), (.ref ca)] below meth c s₁ [] 0 0 := Stand.of_body Bd
  have e0 : s₁.heap = h0 := by rw [← hh, Bd.state]; rfl
  have N0 := Fr.nil n0
  suffices hR : ∀ P : State → Prop, (∀ s₂ o v L, s₂.status = .running → Ended s₂ below o → o = .returned v → Q_rmMk2 Z ca kc cz c0 c1 c2 c3 c4 h0 n0 v s₂.heap L → FrameEnd s o s₂ L ({ frames := 4, cells := 3, slots := 8, locals := 66 } : Room).cells ({ frames := 4, cells := 3, slots := 8, locals := 66 } : Room).slots → P s₂) → Rch p.tables e below P (s₁.setTop (mkF m 0 #[.val (.int (2 : Int32)), .val (.ref ca)] [])) by
    obtain ⟨s₂, h1, o, h2⟩ := hR (fun s₂ => ∃ o, s₂.status = .running ∧ Ended s₂ below o ∧ ∃ v L, o = .returned v ∧ Q_rmMk2 Z ca kc cz c0 c1 c2 c3 c4 h0 n0 v s₂.heap L ∧ FrameEnd s o s₂ L ({ frames := 4, cells := 3, slots := 8, locals := 66 } : Room).cells ({ frames := 4, cells := 3, slots := 8, locals := 66 } : Room).slots) (fun s₂ o v L q1 q2 q3 q4 q5 => ⟨o, q1, q2, v, L, q3, q4, q5⟩)
    exact ⟨s₂, o, castTop (ef_rmMk2 m ca) h1, h2⟩
  intro P hPd
  refine Rch.go (fun zt zk => XS.iloadN X0.here hx rfl (hb hby d2_0) rfl zk) ?_
  refine Rch.go (fun zt zk => XS.ifYes X0.here hx rfl (pc0 := 1) (pc' := 15) rfl (hb hby d2_1) rfl ((if0 _ _).trans (feq (by decide : ¬ ((2 : Int32) = (0 : Int32)))).2) (by decide) (by decide) zk) ?_
  refine Rch.go (fun zt zk => XS.iloadN X0.here hx rfl (hb hby d2_15) rfl zk) ?_
  refine Rch.go (fun zt zk => XS.iconst X0.here hx rfl (hb hby d2_16) zk) ?_
  show Rch _ _ _ _ (s₁.setTop (mkF m 17 #[.val (.int (2 : Int32)), .val (.ref ca)] [(.int (1 : Int32)), (.int (2 : Int32))]))
  refine Rch.go (fun zt zk => XS.icmpYes X0.here hx rfl (pc0 := 17) (pc' := 37) rfl (hb hby d2_17) rfl (feq (by decide : ¬ ((2 : Int32) = (1 : Int32)))).2 (by decide) (by decide) zk) ?_
  refine Rch.go (fun zt zk => XS.iloadN X0.here hx rfl (hb hby d2_37) rfl zk) ?_
  refine Rch.go (fun zt zk => XS.iconst X0.here hx rfl (hb hby d2_38) zk) ?_
  refine Rch.go (fun zt zk => XS.icmpNo X0.here hx rfl (hb hby d2_39) rfl (teq (by decide : (2 : Int32) = (2 : Int32))).2 zk) ?_
  show Rch _ _ _ _ (s₁.setTop (mkF m 42 #[.val (.int (2 : Int32)), .val (.ref ca)] []))
  obtain ⟨T101, h101, X101, e101, E101, A101, D101, -, st101⟩ := newO X0 hx hZ hown (ow9 hw) (ow10 hw) (ow11 hw) e0 (g := (mkF m 42 #[.val (.int (2 : Int32)), .val (.ref ca)] [])) rfl (hb hby d2_42) (by decide) (by decide)
  obtain ⟨b101, g101⟩ : ∃ z, z = h0.size := ⟨_, rfl⟩
  rw [← g101] at A101 D101 st101
  refine Rch.go st101 ?_
  have ne_ca_b101 : ca ≠ b101 := by have q := P0.lt; rw [g101]; exact Nat.ne_of_lt q
  have ge101 : n0 ≤ b101 := by rw [g101]; exact Z0
  have gk101 : h0.size ≤ b101 := by rw [g101]; exact (Keep.refl h0 []).1
  have K101 := (Keep.refl h0 []).ext E101
  have F101_value : Fld Z h101 b101 "java/lang/String" "value" "[B" .null := D101 (Or.inr (ow24 hw)) (ty := (.array .byte)) (by decide)
  have F101_coder : Fld Z h101 b101 "java/lang/String" "coder" "B" (.int (0 : Int32)) := D101 (Or.inr (ow25 hw)) (ty := .byte) (by decide)
  refine Rch.go (fun zt zk => XS.dup X101.here hx rfl (hb hby d2_45) rfl rfl zk) ?_
  refine Rch.go (fun zt zk => XS.iconst X101.here hx rfl (hb hby d2_46) zk) ?_
  have f102 := (P0.ext E101)
  have f103 := (Nat.le_trans Z0 E101.1)
  obtain ⟨T104, h104, k104, X104, e104, E104, A104, st104⟩ := newP X101 hx hZ (aty := .char) (ow1 hw) e101 (g := (mkF m 47 #[.val (.int (2 : Int32)), .val (.ref ca)] [(.int (2 : Int32)), (.ref b101), (.ref b101)])) rfl (hb hby d2_47) rfl (by decide) (cap := 2) (by decide) (by decide) (by decide) (by decide)
  obtain ⟨b104, g104⟩ : ∃ z, z = h101.size := ⟨_, rfl⟩
  rw [← g104] at A104 st104
  refine Rch.go st104 ?_
  have ne_ca_b104 : ca ≠ b104 := by have q := f102.lt; rw [g104]; exact Nat.ne_of_lt q
  have ne_b101_b104 : b101 ≠ b104 := by have q := A101.lt; rw [g104]; exact Nat.ne_of_lt q
  have ge104 : n0 ≤ b104 := by rw [g104]; exact f103
  have gk104 : h0.size ≤ b104 := by rw [g104]; exact K101.1
  have K104 := K101.ext E104
  have V104 : Arv Z h104 b104 k104 .char (2 : Int32) [(.int (0 : Int32)), (.int (0 : Int32))] (.int (0 : Int32)) := (Arv.new A104 (by decide)).pad (pad_rep [] (.int (0 : Int32)) 2)
  show Rch _ _ _ _ (T104.setTop (mkF m 49 #[.val (.int (2 : Int32)), .val (.ref ca)] [(.ref b104), (.ref b101), (.ref b101)]))
  refine Rch.go (fun zt zk => XS.dup X104.here hx rfl (hb hby d2_49) rfl rfl zk) ?_
  refine Rch.go (fun zt zk => XS.iconst X104.here hx rfl (hb hby d2_50) zk) ?_
  refine Rch.go (fun zt zk => XS.aloadN X104.here hx rfl (hb hby d2_51) rfl rfl zk) ?_
  refine Rch.go (fun zt zk => XS.iconst X104.here hx rfl (hb hby d2_52) zk) ?_
  show Rch _ _ _ _ (T104.setTop (mkF m 53 #[.val (.int (2 : Int32)), .val (.ref ca)] [(.int (0 : Int32)), (.ref ca), (.int (0 : Int32)), (.ref b104), (.ref b104), (.ref b101), (.ref b101)]))
  have f105 := (f102.ext E104)
  obtain ⟨cl106, Ar106, q106, S106, M106, H106, G106⟩ := id f105
  have hin106 := inb_of (j := (0 : Int32)) S106 ⟨by decide, by decide⟩
  refine Rch.go (X104.caload hx (j := (0 : Int32)) (v := (.int c0)) (by rw [e104]; exact Ar106.1) (State.isArrayOf_alike hZ.alike Ar106.2.1) Ar106.2.2 hin106 (Has.at H106 hin106 rfl) (g := (mkF m 53 #[.val (.int (2 : Int32)), .val (.ref ca)] [(.int (0 : Int32)), (.ref ca), (.int (0 : Int32)), (.ref b104), (.ref b104), (.ref b101), (.ref b101)])) rfl rfl (hb hby d2_53)) ?_
  obtain ⟨cl107, Ar107, q107, S107, M107, H107, G107⟩ := id V104
  obtain ⟨T107, h107, X107, e107, W107, st107⟩ := stC X104 hx hZ e104 Ar107 (j := (0 : Int32)) (inb_of S107 ⟨by decide, by decide⟩) (g := (mkF m 54 #[.val (.int (2 : Int32)), .val (.ref ca)] [(.int c0), (.int (0 : Int32)), (.ref b104), (.ref b104), (.ref b101), (.ref b101)])) rfl rfl (hb hby d2_54)
  refine Rch.go st107 ?_
  have V107 : Arv Z h107 b104 k104 .char (2 : Int32) [(.int (nar .char c0)), (.int (0 : Int32))] (.int (0 : Int32)) := Arv.set Ar107 q107 S107 M107 H107 G107 (fits_nar_char _) W107 0 rfl (Nat.le_of_ble_eq_true rfl)
  have N107 := Fr.snoc X107 N0 ge104
  have K107 := K104.wr W107 (Or.inr gk104)
  refine Rch.go (fun zt zk => XS.dup X107.here hx rfl (hb hby d2_55) rfl rfl zk) ?_
  refine Rch.go (fun zt zk => XS.iconst X107.here hx rfl (hb hby d2_56) zk) ?_
  show Rch _ _ _ _ (T107.setTop (mkF m 57 #[.val (.int (2 : Int32)), .val (.ref ca)] [(.int (1 : Int32)), (.ref b104), (.ref b104), (.ref b101), (.ref b101)]))
  refine Rch.go (fun zt zk => XS.aloadN X107.here hx rfl (hb hby d2_57) rfl rfl zk) ?_
  refine Rch.go (fun zt zk => XS.iconst X107.here hx rfl (hb hby d2_58) zk) ?_
  have f108 := (f105.other W107 ne_ca_b104)
  obtain ⟨cl109, Ar109, q109, S109, M109, H109, G109⟩ := id f108
  have hin109 := inb_of (j := (1 : Int32)) S109 ⟨by decide, by decide⟩
  refine Rch.go (X107.caload hx (j := (1 : Int32)) (v := (.int c1)) (by rw [e107]; exact Ar109.1) (State.isArrayOf_alike hZ.alike Ar109.2.1) Ar109.2.2 hin109 (Has.at H109 hin109 rfl) (g := (mkF m 59 #[.val (.int (2 : Int32)), .val (.ref ca)] [(.int (1 : Int32)), (.ref ca), (.int (1 : Int32)), (.ref b104), (.ref b104), (.ref b101), (.ref b101)])) rfl rfl (hb hby d2_59)) ?_
  obtain ⟨cl110, Ar110, q110, S110, M110, H110, G110⟩ := id V107
  obtain ⟨T110, h110, X110, e110, W110, st110⟩ := stC X107 hx hZ e107 Ar110 (j := (1 : Int32)) (inb_of S110 ⟨by decide, by decide⟩) (g := (mkF m 60 #[.val (.int (2 : Int32)), .val (.ref ca)] [(.int c1), (.int (1 : Int32)), (.ref b104), (.ref b104), (.ref b101), (.ref b101)])) rfl rfl (hb hby d2_60)
  refine Rch.go st110 ?_
  have V110 : Arv Z h110 b104 k104 .char (2 : Int32) [(.int (nar .char c0)), (.int (nar .char c1))] (.int (0 : Int32)) := Arv.set Ar110 q110 S110 M110 H110 G110 (fits_nar_char _) W110 1 rfl (Nat.le_of_ble_eq_true rfl)
  have N110 := Fr.snoc X110 N107 ge104
  have K110 := K107.wr W110 (Or.inr gk104)
  show Rch _ _ _ _ (T110.setTop (mkF m 61 #[.val (.int (2 : Int32)), .val (.ref ca)] [(.ref b104), (.ref b101), (.ref b101)]))
  have f112 := (((A101.ext E104).wr W107).wr W110)
  have f113 := (((F101_value.ext E104).other W107 (Or.inl ne_b101_b104)).other W110 (Or.inl ne_b101_b104))
  have f114 := (((F101_coder.ext E104).other W107 (Or.inl ne_b101_b104)).other W110 (Or.inl ne_b101_b104))
  have f115 := ((((P1.ext E101).ext E104).wr W107 ge104).wr W110 ge104)
  have f116 := (Nat.le_trans (Nat.le_trans (Nat.le_trans f103 E104.1) (Keep.of_wr W107).1) (Keep.of_wr W110).1)
  obtain ⟨_, _, ⟨T111, L111, k111, n111⟩, -, X111, ⟨Lc111, hQ111, l111, y111, z111⟩, st111⟩ := X110.specialBack hx (y := (⟨"java/lang/String", "<init>", "([C)V"⟩ : MethodName)) rfl hown (mvT hZ (ow12 hw)) (mvT hZ (ow13 hw)) (mvT hZ (ow14 hw)) (by decide) (backOf (W := 1) (rmC2 l Z a0 hw [] (b101) (b104) (k104) (cz) ((nar .char c0)) ((nar .char c1)) h110 n0 f116 (f112) (f113) (f114) (V110) (f115) (P2) ((Ne.symm ne_b101_b104)) (ge101) ((by rw [own_narC r_c0]; exact r_c0)) ((by rw [own_narC r_c1]; exact r_c1)) (hcz)) hZ (ow14 hw) (ow11 hw) (by decide) (by decide)) (g := (mkF m 61 #[.val (.int (2 : Int32)), .val (.ref ca)] [(.ref b104), (.ref b101), (.ref b101)])) rfl (by rw [hml]; rfl) (Steps.refl _) (a := b101) (argsL := [(.ref b104)]) (rest := [(.ref b101)]) (lenOf pd___C_V rfl) rfl (by show 2 * 0 + _ ≤ _; exact Nat.le_of_eq rfl) (hb hby d2_61) (fun _ _ => ⟨rfl, e110, (by decide : 2 + 1 ≤ _), (by decide : 6 + 2 ≤ _)⟩)
  dsimp only [Pt.U, Pt.locs, Pt.cells, Pt.slots] at X111 l111 y111 z111 st111 hQ111
  rw [l111, y111, z111] at X111
  obtain ⟨rfl, N111q, K111q, E111, C111, b111, kb111, gb111, gh111, U111, V111⟩ := hQ111
  have N111 := Fr.app N110 N111q
  have f117 := (f108.other W110 ne_ca_b104)
  have ne_ca_b111 : ca ≠ b111 := Nat.ne_of_lt (Nat.lt_of_lt_of_le f117.lt gh111)
  have ne_b101_b111 : b101 ≠ b111 := Nat.ne_of_lt (Nat.lt_of_lt_of_le f112.lt gh111)
  have ne_b104_b111 : b104 ≠ b111 := Nat.ne_of_lt (Nat.lt_of_lt_of_le V110.lt gh111)
  have gk111 : h0.size ≤ b111 := Nat.le_trans K110.1 gh111
  have K111 := Keep.trans K110 K111q (allS (Or.inr gk101) all0)
  refine Rch.go (fun zt zk => st111.trans zk) ?_
  obtain ⟨fs, hr, hrun, hended, hW, hsame⟩ := X111.leave (v := some (.ref b101)) (fun h => by rw [Bd.returns] at h; cases h)
  have hend : Steps p.tables e below (T111.setTop (mkF m 64 #[.val (.int (2 : Int32)), .val (.ref ca)] [(.ref b101)])) (T111.setFrames fs) := by
    jvm_step X111.here [X111.here.top, hx, (hb hby d2_64), X111.method', Bd.returns, Value.isRef, FieldType.isReference]
    first | (intro acts; rw [hr _ acts rfl rfl rfl]) | rw [hr _ _ rfl rfl rfl]
    exact Steps.refl _
  refine Rch.mk (hend) (hPd _ _ _ _ hrun hended rfl ?_ ⟨⟨_, rfl⟩, hW, hsame.mono (by decide) (by decide)⟩)
  show Q_rmMk2 Z ca kc cz c0 c1 c2 c3 c4 h0 n0 _ T111.heap _
  have VZ := V111
  simp only [own_narC r_c0, own_narC r_c1] at VZ
  exact ⟨⟨b101, b111, _, _, rfl, rfl, E111, C111, U111, VZ⟩, N111, K111⟩
theorem ef_rmMk3 (m : MethodId) (ca : Addr) : entryFrame m #[(.int (3 : Int32)), (.ref ca)] 2 = mkF m 0 #[.val (.int (3 : Int32)), .val (.ref ca)] [] := by first | (simp [entryFrame, mkF, argsToLocals, Value.category]; done) | rfl
theorem d2_65 : decode method_6_code 65 = .ok (.iload_n 0, 1) := by decide +kernel
theorem d2_66 : decode method_6_code 66 = .ok (.iconst 3, 1) := by decide +kernel
theorem d2_67 : decode method_6_code 67 = .ok (.if_icmp .ne 32, 3) := by decide +kernel
theorem d2_70 : decode method_6_code 70 = .ok (.new 29, 3) := by decide +kernel
theorem d2_73 : decode method_6_code 73 = .ok (.dup, 1) := by decide +kernel
theorem d2_74 : decode method_6_code 74 = .ok (.iconst 3, 1) := by decide +kernel
theorem d2_75 : decode method_6_code 75 = .ok (.newarray .char, 2) := by decide +kernel
theorem d2_77 : decode method_6_code 77 = .ok (.dup, 1) := by decide +kernel
theorem d2_78 : decode method_6_code 78 = .ok (.iconst 0, 1) := by decide +kernel
theorem d2_79 : decode method_6_code 79 = .ok (.aload_n 1, 1) := by decide +kernel
theorem d2_80 : decode method_6_code 80 = .ok (.iconst 0, 1) := by decide +kernel
theorem d2_81 : decode method_6_code 81 = .ok (.caload, 1) := by decide +kernel
theorem d2_82 : decode method_6_code 82 = .ok (.castore, 1) := by decide +kernel
theorem d2_83 : decode method_6_code 83 = .ok (.dup, 1) := by decide +kernel
theorem d2_84 : decode method_6_code 84 = .ok (.iconst 1, 1) := by decide +kernel
theorem d2_85 : decode method_6_code 85 = .ok (.aload_n 1, 1) := by decide +kernel
theorem d2_86 : decode method_6_code 86 = .ok (.iconst 1, 1) := by decide +kernel
theorem d2_87 : decode method_6_code 87 = .ok (.caload, 1) := by decide +kernel
theorem d2_88 : decode method_6_code 88 = .ok (.castore, 1) := by decide +kernel
theorem d2_89 : decode method_6_code 89 = .ok (.dup, 1) := by decide +kernel
theorem d2_90 : decode method_6_code 90 = .ok (.iconst 2, 1) := by decide +kernel
theorem d2_91 : decode method_6_code 91 = .ok (.aload_n 1, 1) := by decide +kernel
theorem d2_92 : decode method_6_code 92 = .ok (.iconst 2, 1) := by decide +kernel
theorem d2_93 : decode method_6_code 93 = .ok (.caload, 1) := by decide +kernel
theorem d2_94 : decode method_6_code 94 = .ok (.castore, 1) := by decide +kernel
theorem d2_95 : decode method_6_code 95 = .ok (.invokespecial 41, 3) := by decide +kernel
theorem d2_98 : decode method_6_code 98 = .ok (.areturn, 1) := by decide +kernel
def Q_rmMk3 (Z : State) (ca : Addr) (kc : ClassId) (cz : Int32) (c0 : Int32) (c1 : Int32) (c2 : Int32) (c3 : Int32) (c4 : Int32) (h0 : Heap) (n0 : Nat) (v : Option Value) (h : Heap) (L : List Loc) : Prop := (∃ (r b : Addr) (kb : ClassId) (w2 : Int32), v = some (.ref r) ∧ w2 = (0 : Int32) ∧ Exa Z h r "java/lang/String" ∧ Fld Z h r "java/lang/String" "coder" "B" (.int w2) ∧ Fld Z h r "java/lang/String" "value" "[B" (.ref b) ∧ Arv Z h b kb .byte (3 : Int32) [(.int (bOf c0)), (.int (bOf c1)), (.int (bOf c2))] (.int (0 : Int32))) ∧ Fr n0 L ∧ Keep h0 h []
set_option maxRecDepth 65536 in
set_option maxHeartbeats 40000000 in
theorem rmMk3 (l : Launch) (Z : State) (a0 : Array Value) (hw : ∀ d ∈ tables_1, d.before a0 Z = true) (ws : List Jvm.Cond) (ca : Addr) (kc : ClassId) (cz : Int32) (c0 : Int32) (c1 : Int32) (c2 : Int32) (c3 : Int32) (c4 : Int32) (h0 : Heap) (n0 : Nat) (Z0 : n0 ≤ h0.size) (P0 : Arv Z h0 ca kc .char (5 : Int32) [(.int c0), (.int c1), (.int c2), (.int c3), (.int c4)] (.int (0 : Int32))) (P1 : Old Z n0 h0) (P2 : Sta Z Z.heap "java/lang/String" "COMPACT_STRINGS" "Z" (.int cz)) (r_c0 : R8 c0) (r_c1 : R8 c1) (r_c2 : R8 c2) (hcz : ¬ (cz = (0 : Int32))) :
    MetFree l (⟨"com/example/keepwire/keepwire/ResponseHeadTrimSpacesPinLaw", "make", "(I[C)Ljava/lang/String;"⟩ : MethodName) (head1 (Jvm.Cond.code (⟨"com/example/keepwire/keepwire/ResponseHeadTrimSpacesPinLaw", "make", "(I[C)Ljava/lang/String;"⟩ : MethodName) method_6_code 2 (some (.object "java/lang/String")) :: ws) ({ frames := 4, cells := 3, slots := 10, locals := 66 } : Room)) (fun a U => a = #[(.int (3 : Int32)), (.ref ca)] ∧ Z.Warmed39 U.vm ∧ U.heap = h0) (fun _ _ _ _ _ => True) (fun _ U o U' => ∃ v L, o = .returned v ∧ Q_rmMk3 Z ca kc cz c0 c1 c2 c3 c4 h0 n0 v U'.heap L ∧ FrameEnd U o U' L ({ frames := 4, cells := 3, slots := 10, locals := 66 } : Room).cells ({ frames := 4, cells := 3, slots := 10, locals := 66 } : Room).slots) := by
  refine MetFree.of_bodySF (plainFor_of_name pn_com_example_keepwire_keepwire_ResponseHeadTrimSpacesPinLaw) hisR ?_
  intro p e s m args below meth c s₁ Bd hml0 hP hK
  obtain ⟨rfl, hZ, hh⟩ := hP
  have hx := Bd.exec
  have hby := Bd.bytes
  have hml : c.maxLocals = 2 := hml0
  have hown : s.vm.findClass "com/example/keepwire/keepwire/ResponseHeadTrimSpacesPinLaw" = some m.cls := findClass_of_methodNamed Bd.named
  have hnm := (name_of_methodNamed Bd.named Bd.method).1
  have X0 : Stand p l e ({ frames := 4, cells := 3, slots := 10, locals := 66 } : Room) s m #[(.int (3 : Int32)), (.ref ca)] below meth c s₁ [] 0 0 := Stand.of_body Bd
  have e0 : s₁.heap = h0 := by rw [← hh, Bd.state]; rfl
  have N0 := Fr.nil n0
  suffices hR : ∀ P : State → Prop, (∀ s₂ o v L, s₂.status = .running → Ended s₂ below o → o = .returned v → Q_rmMk3 Z ca kc cz c0 c1 c2 c3 c4 h0 n0 v s₂.heap L → FrameEnd s o s₂ L ({ frames := 4, cells := 3, slots := 10, locals := 66 } : Room).cells ({ frames := 4, cells := 3, slots := 10, locals := 66 } : Room).slots → P s₂) → Rch p.tables e below P (s₁.setTop (mkF m 0 #[.val (.int (3 : Int32)), .val (.ref ca)] [])) by
    obtain ⟨s₂, h1, o, h2⟩ := hR (fun s₂ => ∃ o, s₂.status = .running ∧ Ended s₂ below o ∧ ∃ v L, o = .returned v ∧ Q_rmMk3 Z ca kc cz c0 c1 c2 c3 c4 h0 n0 v s₂.heap L ∧ FrameEnd s o s₂ L ({ frames := 4, cells := 3, slots := 10, locals := 66 } : Room).cells ({ frames := 4, cells := 3, slots := 10, locals := 66 } : Room).slots) (fun s₂ o v L q1 q2 q3 q4 q5 => ⟨o, q1, q2, v, L, q3, q4, q5⟩)
    exact ⟨s₂, o, castTop (ef_rmMk3 m ca) h1, h2⟩
  intro P hPd
  refine Rch.go (fun zt zk => XS.iloadN X0.here hx rfl (hb hby d2_0) rfl zk) ?_
  refine Rch.go (fun zt zk => XS.ifYes X0.here hx rfl (pc0 := 1) (pc' := 15) rfl (hb hby d2_1) rfl ((if0 _ _).trans (feq (by decide : ¬ ((3 : Int32) = (0 : Int32)))).2) (by decide) (by decide) zk) ?_
  refine Rch.go (fun zt zk => XS.iloadN X0.here hx rfl (hb hby d2_15) rfl zk) ?_
  refine Rch.go (fun zt zk => XS.iconst X0.here hx rfl (hb hby d2_16) zk) ?_
  show Rch _ _ _ _ (s₁.setTop (mkF m 17 #[.val (.int (3 : Int32)), .val (.ref ca)] [(.int (1 : Int32)), (.int (3 : Int32))]))
  refine Rch.go (fun zt zk => XS.icmpYes X0.here hx rfl (pc0 := 17) (pc' := 37) rfl (hb hby d2_17) rfl (feq (by decide : ¬ ((3 : Int32) = (1 : Int32)))).2 (by decide) (by decide) zk) ?_
  refine Rch.go (fun zt zk => XS.iloadN X0.here hx rfl (hb hby d2_37) rfl zk) ?_
  refine Rch.go (fun zt zk => XS.iconst X0.here hx rfl (hb hby d2_38) zk) ?_
  refine Rch.go (fun zt zk => XS.icmpYes X0.here hx rfl (pc0 := 39) (pc' := 65) rfl (hb hby d2_39) rfl (feq (by decide : ¬ ((3 : Int32) = (2 : Int32)))).2 (by decide) (by decide) zk) ?_
  show Rch _ _ _ _ (s₁.setTop (mkF m 65 #[.val (.int (3 : Int32)), .val (.ref ca)] []))
  refine Rch.go (fun zt zk => XS.iloadN X0.here hx rfl (hb hby d2_65) rfl zk) ?_
  refine Rch.go (fun zt zk => XS.iconst X0.here hx rfl (hb hby d2_66) zk) ?_
  refine Rch.go (fun zt zk => XS.icmpNo X0.here hx rfl (hb hby d2_67) rfl (teq (by decide : (3 : Int32) = (3 : Int32))).2 zk) ?_
  obtain ⟨T101, h101, X101, e101, E101, A101, D101, -, st101⟩ := newO X0 hx hZ hown (ow9 hw) (ow10 hw) (ow11 hw) e0 (g := (mkF m 70 #[.val (.int (3 : Int32)), .val (.ref ca)] [])) rfl (hb hby d2_70) (by decide) (by decide)
  obtain ⟨b101, g101⟩ : ∃ z, z = h0.size := ⟨_, rfl⟩
  rw [← g101] at A101 D101 st101
  refine Rch.go st101 ?_
  have ne_ca_b101 : ca ≠ b101 := by have q := P0.lt; rw [g101]; exact Nat.ne_of_lt q
  have ge101 : n0 ≤ b101 := by rw [g101]; exact Z0
  have gk101 : h0.size ≤ b101 := by rw [g101]; exact (Keep.refl h0 []).1
  have K101 := (Keep.refl h0 []).ext E101
  have F101_value : Fld Z h101 b101 "java/lang/String" "value" "[B" .null := D101 (Or.inr (ow24 hw)) (ty := (.array .byte)) (by decide)
  have F101_coder : Fld Z h101 b101 "java/lang/String" "coder" "B" (.int (0 : Int32)) := D101 (Or.inr (ow25 hw)) (ty := .byte) (by decide)
  show Rch _ _ _ _ (T101.setTop (mkF m 73 #[.val (.int (3 : Int32)), .val (.ref ca)] [(.ref b101)]))
  refine Rch.go (fun zt zk => XS.dup X101.here hx rfl (hb hby d2_73) rfl rfl zk) ?_
  refine Rch.go (fun zt zk => XS.iconst X101.here hx rfl (hb hby d2_74) zk) ?_
  have f102 := (P0.ext E101)
  have f103 := (Nat.le_trans Z0 E101.1)
  obtain ⟨T104, h104, k104, X104, e104, E104, A104, st104⟩ := newP X101 hx hZ (aty := .char) (ow1 hw) e101 (g := (mkF m 75 #[.val (.int (3 : Int32)), .val (.ref ca)] [(.int (3 : Int32)), (.ref b101), (.ref b101)])) rfl (hb hby d2_75) rfl (by decide) (cap := 3) (by decide) (by decide) (by decide) (by decide)
  obtain ⟨b104, g104⟩ : ∃ z, z = h101.size := ⟨_, rfl⟩
  rw [← g104] at A104 st104
  refine Rch.go st104 ?_
  have ne_ca_b104 : ca ≠ b104 := by have q := f102.lt; rw [g104]; exact Nat.ne_of_lt q
  have ne_b101_b104 : b101 ≠ b104 := by have q := A101.lt; rw [g104]; exact Nat.ne_of_lt q
  have ge104 : n0 ≤ b104 := by rw [g104]; exact f103
  have gk104 : h0.size ≤ b104 := by rw [g104]; exact K101.1
  have K104 := K101.ext E104
  have V104 : Arv Z h104 b104 k104 .char (3 : Int32) [(.int (0 : Int32)), (.int (0 : Int32)), (.int (0 : Int32))] (.int (0 : Int32)) := (Arv.new A104 (by decide)).pad (pad_rep [] (.int (0 : Int32)) 3)
  refine Rch.go (fun zt zk => XS.dup X104.here hx rfl (hb hby d2_77) rfl rfl zk) ?_
  show Rch _ _ _ _ (T104.setTop (mkF m 78 #[.val (.int (3 : Int32)), .val (.ref ca)] [(.ref b104), (.ref b104), (.ref b101), (.ref b101)]))
  refine Rch.go (fun zt zk => XS.iconst X104.here hx rfl (hb hby d2_78) zk) ?_
  refine Rch.go (fun zt zk => XS.aloadN X104.here hx rfl (hb hby d2_79) rfl rfl zk) ?_
  refine Rch.go (fun zt zk => XS.iconst X104.here hx rfl (hb hby d2_80) zk) ?_
  have f105 := (f102.ext E104)
  obtain ⟨cl106, Ar106, q106, S106, M106, H106, G106⟩ := id f105
  have hin106 := inb_of (j := (0 : Int32)) S106 ⟨by decide, by decide⟩
  refine Rch.go (X104.caload hx (j := (0 : Int32)) (v := (.int c0)) (by rw [e104]; exact Ar106.1) (State.isArrayOf_alike hZ.alike Ar106.2.1) Ar106.2.2 hin106 (Has.at H106 hin106 rfl) (g := (mkF m 81 #[.val (.int (3 : Int32)), .val (.ref ca)] [(.int (0 : Int32)), (.ref ca), (.int (0 : Int32)), (.ref b104), (.ref b104), (.ref b101), (.ref b101)])) rfl rfl (hb hby d2_81)) ?_
  show Rch _ _ _ _ (T104.setTop (mkF m 82 #[.val (.int (3 : Int32)), .val (.ref ca)] [(.int c0), (.int (0 : Int32)), (.ref b104), (.ref b104), (.ref b101), (.ref b101)]))
  obtain ⟨cl107, Ar107, q107, S107, M107, H107, G107⟩ := id V104
  obtain ⟨T107, h107, X107, e107, W107, st107⟩ := stC X104 hx hZ e104 Ar107 (j := (0 : Int32)) (inb_of S107 ⟨by decide, by decide⟩) (g := (mkF m 82 #[.val (.int (3 : Int32)), .val (.ref ca)] [(.int c0), (.int (0 : Int32)), (.ref b104), (.ref b104), (.ref b101), (.ref b101)])) rfl rfl (hb hby d2_82)
  refine Rch.go st107 ?_
  have V107 : Arv Z h107 b104 k104 .char (3 : Int32) [(.int (nar .char c0)), (.int (0 : Int32)), (.int (0 : Int32))] (.int (0 : Int32)) := Arv.set Ar107 q107 S107 M107 H107 G107 (fits_nar_char _) W107 0 rfl (Nat.le_of_ble_eq_true rfl)
  have N107 := Fr.snoc X107 N0 ge104
  have K107 := K104.wr W107 (Or.inr gk104)
  refine Rch.go (fun zt zk => XS.dup X107.here hx rfl (hb hby d2_83) rfl rfl zk) ?_
  refine Rch.go (fun zt zk => XS.iconst X107.here hx rfl (hb hby d2_84) zk) ?_
  refine Rch.go (fun zt zk => XS.aloadN X107.here hx rfl (hb hby d2_85) rfl rfl zk) ?_
  show Rch _ _ _ _ (T107.setTop (mkF m 86 #[.val (.int (3 : Int32)), .val (.ref ca)] [(.ref ca), (.int (1 : Int32)), (.ref b104), (.ref b104), (.ref b101), (.ref b101)]))
  refine Rch.go (fun zt zk => XS.iconst X107.here hx rfl (hb hby d2_86) zk) ?_
  have f108 := (f105.other W107 ne_ca_b104)
  obtain ⟨cl109, Ar109, q109, S109, M109, H109, G109⟩ := id f108
  have hin109 := inb_of (j := (1 : Int32)) S109 ⟨by decide, by decide⟩
  refine Rch.go (X107.caload hx (j := (1 : Int32)) (v := (.int c1)) (by rw [e107]; exact Ar109.1) (State.isArrayOf_alike hZ.alike Ar109.2.1) Ar109.2.2 hin109 (Has.at H109 hin109 rfl) (g := (mkF m 87 #[.val (.int (3 : Int32)), .val (.ref ca)] [(.int (1 : Int32)), (.ref ca), (.int (1 : Int32)), (.ref b104), (.ref b104), (.ref b101), (.ref b101)])) rfl rfl (hb hby d2_87)) ?_
  obtain ⟨cl110, Ar110, q110, S110, M110, H110, G110⟩ := id V107
  obtain ⟨T110, h110, X110, e110, W110, st110⟩ := stC X107 hx hZ e107 Ar110 (j := (1 : Int32)) (inb_of S110 ⟨by decide, by decide⟩) (g := (mkF m 88 #[.val (.int (3 : Int32)), .val (.ref ca)] [(.int c1), (.int (1 : Int32)), (.ref b104), (.ref b104), (.ref b101), (.ref b101)])) rfl rfl (hb hby d2_88)
  refine Rch.go st110 ?_
  have V110 : Arv Z h110 b104 k104 .char (3 : Int32) [(.int (nar .char c0)), (.int (nar .char c1)), (.int (0 : Int32))] (.int (0 : Int32)) := Arv.set Ar110 q110 S110 M110 H110 G110 (fits_nar_char _) W110 1 rfl (Nat.le_of_ble_eq_true rfl)
  have N110 := Fr.snoc X110 N107 ge104
  have K110 := K107.wr W110 (Or.inr gk104)
  refine Rch.go (fun zt zk => XS.dup X110.here hx rfl (hb hby d2_89) rfl rfl zk) ?_
  show Rch _ _ _ _ (T110.setTop (mkF m 90 #[.val (.int (3 : Int32)), .val (.ref ca)] [(.ref b104), (.ref b104), (.ref b101), (.ref b101)]))
  refine Rch.go (fun zt zk => XS.iconst X110.here hx rfl (hb hby d2_90) zk) ?_
  refine Rch.go (fun zt zk => XS.aloadN X110.here hx rfl (hb hby d2_91) rfl rfl zk) ?_
  refine Rch.go (fun zt zk => XS.iconst X110.here hx rfl (hb hby d2_92) zk) ?_
  have f111 := (f108.other W110 ne_ca_b104)
  obtain ⟨cl112, Ar112, q112, S112, M112, H112, G112⟩ := id f111
  have hin112 := inb_of (j := (2 : Int32)) S112 ⟨by decide, by decide⟩
  refine Rch.go (X110.caload hx (j := (2 : Int32)) (v := (.int c2)) (by rw [e110]; exact Ar112.1) (State.isArrayOf_alike hZ.alike Ar112.2.1) Ar112.2.2 hin112 (Has.at H112 hin112 rfl) (g := (mkF m 93 #[.val (.int (3 : Int32)), .val (.ref ca)] [(.int (2 : Int32)), (.ref ca), (.int (2 : Int32)), (.ref b104), (.ref b104), (.ref b101), (.ref b101)])) rfl rfl (hb hby d2_93)) ?_
  show Rch _ _ _ _ (T110.setTop (mkF m 94 #[.val (.int (3 : Int32)), .val (.ref ca)] [(.int c2), (.int (2 : Int32)), (.ref b104), (.ref b104), (.ref b101), (.ref b101)]))
  obtain ⟨cl113, Ar113, q113, S113, M113, H113, G113⟩ := id V110
  obtain ⟨T113, h113, X113, e113, W113, st113⟩ := stC X110 hx hZ e110 Ar113 (j := (2 : Int32)) (inb_of S113 ⟨by decide, by decide⟩) (g := (mkF m 94 #[.val (.int (3 : Int32)), .val (.ref ca)] [(.int c2), (.int (2 : Int32)), (.ref b104), (.ref b104), (.ref b101), (.ref b101)])) rfl rfl (hb hby d2_94)
  refine Rch.go st113 ?_
  have V113 : Arv Z h113 b104 k104 .char (3 : Int32) [(.int (nar .char c0)), (.int (nar .char c1)), (.int (nar .char c2))] (.int (0 : Int32)) := Arv.set Ar113 q113 S113 M113 H113 G113 (fits_nar_char _) W113 2 rfl (Nat.le_of_ble_eq_true rfl)
  have N113 := Fr.snoc X113 N110 ge104
  have K113 := K110.wr W113 (Or.inr gk104)
  have f115 := ((((A101.ext E104).wr W107).wr W110).wr W113)
  have f116 := ((((F101_value.ext E104).other W107 (Or.inl ne_b101_b104)).other W110 (Or.inl ne_b101_b104)).other W113 (Or.inl ne_b101_b104))
  have f117 := ((((F101_coder.ext E104).other W107 (Or.inl ne_b101_b104)).other W110 (Or.inl ne_b101_b104)).other W113 (Or.inl ne_b101_b104))
  have f118 := (((((P1.ext E101).ext E104).wr W107 ge104).wr W110 ge104).wr W113 ge104)
  have f119 := (Nat.le_trans (Nat.le_trans (Nat.le_trans (Nat.le_trans f103 E104.1) (Keep.of_wr W107).1) (Keep.of_wr W110).1) (Keep.of_wr W113).1)
  obtain ⟨_, _, ⟨T114, L114, k114, n114⟩, -, X114, ⟨Lc114, hQ114, l114, y114, z114⟩, st114⟩ := X113.specialBack hx (y := (⟨"java/lang/String", "<init>", "([C)V"⟩ : MethodName)) rfl hown (mvT hZ (ow12 hw)) (mvT hZ (ow13 hw)) (mvT hZ (ow14 hw)) (by decide) (backOf (W := 1) (rmC3 l Z a0 hw [] (b101) (b104) (k104) (cz) ((nar .char c0)) ((nar .char c1)) ((nar .char c2)) h113 n0 f119 (f115) (f116) (f117) (V113) (f118) (P2) ((Ne.symm ne_b101_b104)) (ge101) ((by rw [own_narC r_c0]; exact r_c0)) ((by rw [own_narC r_c1]; exact r_c1)) ((by rw [own_narC r_c2]; exact r_c2)) (hcz)) hZ (ow14 hw) (ow11 hw) (by decide) (by decide)) (g := (mkF m 95 #[.val (.int (3 : Int32)), .val (.ref ca)] [(.ref b104), (.ref b101), (.ref b101)])) rfl (by rw [hml]; rfl) (Steps.refl _) (a := b101) (argsL := [(.ref b104)]) (rest := [(.ref b101)]) (lenOf pd___C_V rfl) rfl (by show 2 * 0 + _ ≤ _; exact Nat.le_of_eq rfl) (hb hby d2_95) (fun _ _ => ⟨rfl, e113, (by decide : 2 + 1 ≤ _), (by decide : 7 + 3 ≤ _)⟩)
  dsimp only [Pt.U, Pt.locs, Pt.cells, Pt.slots] at X114 l114 y114 z114 st114 hQ114
  rw [l114, y114, z114] at X114
  obtain ⟨rfl, N114q, K114q, E114, C114, b114, kb114, gb114, gh114, U114, V114⟩ := hQ114
  have N114 := Fr.app N113 N114q
  have f120 := (f111.other W113 ne_ca_b104)
  have ne_ca_b114 : ca ≠ b114 := Nat.ne_of_lt (Nat.lt_of_lt_of_le f120.lt gh114)
  have ne_b101_b114 : b101 ≠ b114 := Nat.ne_of_lt (Nat.lt_of_lt_of_le f115.lt gh114)
  have ne_b104_b114 : b104 ≠ b114 := Nat.ne_of_lt (Nat.lt_of_lt_of_le V113.lt gh114)
  have gk114 : h0.size ≤ b114 := Nat.le_trans K113.1 gh114
  have K114 := Keep.trans K113 K114q (allS (Or.inr gk101) all0)
  refine Rch.go (fun zt zk => st114.trans zk) ?_
  obtain ⟨fs, hr, hrun, hended, hW, hsame⟩ := X114.leave (v := some (.ref b101)) (fun h => by rw [Bd.returns] at h; cases h)
  have hend : Steps p.tables e below (T114.setTop (mkF m 98 #[.val (.int (3 : Int32)), .val (.ref ca)] [(.ref b101)])) (T114.setFrames fs) := by
    jvm_step X114.here [X114.here.top, hx, (hb hby d2_98), X114.method', Bd.returns, Value.isRef, FieldType.isReference]
    first | (intro acts; rw [hr _ acts rfl rfl rfl]) | rw [hr _ _ rfl rfl rfl]
    exact Steps.refl _
  refine Rch.mk (hend) (hPd _ _ _ _ hrun hended rfl ?_ ⟨⟨_, rfl⟩, hW, hsame.mono (by decide) (by decide)⟩)
  show Q_rmMk3 Z ca kc cz c0 c1 c2 c3 c4 h0 n0 _ T114.heap _
  have VZ := V114
  simp only [own_narC r_c0, own_narC r_c1, own_narC r_c2] at VZ
  exact ⟨⟨b101, b114, _, _, rfl, rfl, E114, C114, U114, VZ⟩, N114, K114⟩
theorem ef_rmMk4 (m : MethodId) (ca : Addr) : entryFrame m #[(.int (4 : Int32)), (.ref ca)] 2 = mkF m 0 #[.val (.int (4 : Int32)), .val (.ref ca)] [] := by first | (simp [entryFrame, mkF, argsToLocals, Value.category]; done) | rfl
theorem d2_99 : decode method_6_code 99 = .ok (.iload_n 0, 1) := by decide +kernel
theorem d2_100 : decode method_6_code 100 = .ok (.iconst 4, 1) := by decide +kernel
theorem d2_101 : decode method_6_code 101 = .ok (.if_icmp .ne 38, 3) := by decide +kernel
theorem d2_104 : decode method_6_code 104 = .ok (.new 29, 3) := by decide +kernel
theorem d2_107 : decode method_6_code 107 = .ok (.dup, 1) := by decide +kernel
theorem d2_108 : decode method_6_code 108 = .ok (.iconst 4, 1) := by decide +kernel
theorem d2_109 : decode method_6_code 109 = .ok (.newarray .char, 2) := by decide +kernel
theorem d2_111 : decode method_6_code 111 = .ok (.dup, 1) := by decide +kernel
theorem d2_112 : decode method_6_code 112 = .ok (.iconst 0, 1) := by decide +kernel
theorem d2_113 : decode method_6_code 113 = .ok (.aload_n 1, 1) := by decide +kernel
theorem d2_114 : decode method_6_code 114 = .ok (.iconst 0, 1) := by decide +kernel
theorem d2_115 : decode method_6_code 115 = .ok (.caload, 1) := by decide +kernel
theorem d2_116 : decode method_6_code 116 = .ok (.castore, 1) := by decide +kernel
theorem d2_117 : decode method_6_code 117 = .ok (.dup, 1) := by decide +kernel
theorem d2_118 : decode method_6_code 118 = .ok (.iconst 1, 1) := by decide +kernel
theorem d2_119 : decode method_6_code 119 = .ok (.aload_n 1, 1) := by decide +kernel
theorem d2_120 : decode method_6_code 120 = .ok (.iconst 1, 1) := by decide +kernel
theorem d2_121 : decode method_6_code 121 = .ok (.caload, 1) := by decide +kernel
theorem d2_122 : decode method_6_code 122 = .ok (.castore, 1) := by decide +kernel
theorem d2_123 : decode method_6_code 123 = .ok (.dup, 1) := by decide +kernel
theorem d2_124 : decode method_6_code 124 = .ok (.iconst 2, 1) := by decide +kernel
theorem d2_125 : decode method_6_code 125 = .ok (.aload_n 1, 1) := by decide +kernel
theorem d2_126 : decode method_6_code 126 = .ok (.iconst 2, 1) := by decide +kernel
theorem d2_127 : decode method_6_code 127 = .ok (.caload, 1) := by decide +kernel
theorem d2_128 : decode method_6_code 128 = .ok (.castore, 1) := by decide +kernel
theorem d2_129 : decode method_6_code 129 = .ok (.dup, 1) := by decide +kernel
theorem d2_130 : decode method_6_code 130 = .ok (.iconst 3, 1) := by decide +kernel
theorem d2_131 : decode method_6_code 131 = .ok (.aload_n 1, 1) := by decide +kernel
theorem d2_132 : decode method_6_code 132 = .ok (.iconst 3, 1) := by decide +kernel
theorem d2_133 : decode method_6_code 133 = .ok (.caload, 1) := by decide +kernel
theorem d2_134 : decode method_6_code 134 = .ok (.castore, 1) := by decide +kernel
theorem d2_135 : decode method_6_code 135 = .ok (.invokespecial 41, 3) := by decide +kernel
theorem d2_138 : decode method_6_code 138 = .ok (.areturn, 1) := by decide +kernel
def Q_rmMk4 (Z : State) (ca : Addr) (kc : ClassId) (cz : Int32) (c0 : Int32) (c1 : Int32) (c2 : Int32) (c3 : Int32) (c4 : Int32) (h0 : Heap) (n0 : Nat) (v : Option Value) (h : Heap) (L : List Loc) : Prop := (∃ (r b : Addr) (kb : ClassId) (w2 : Int32), v = some (.ref r) ∧ w2 = (0 : Int32) ∧ Exa Z h r "java/lang/String" ∧ Fld Z h r "java/lang/String" "coder" "B" (.int w2) ∧ Fld Z h r "java/lang/String" "value" "[B" (.ref b) ∧ Arv Z h b kb .byte (4 : Int32) [(.int (bOf c0)), (.int (bOf c1)), (.int (bOf c2)), (.int (bOf c3))] (.int (0 : Int32))) ∧ Fr n0 L ∧ Keep h0 h []
set_option maxRecDepth 65536 in
set_option maxHeartbeats 40000000 in
theorem rmMk4 (l : Launch) (Z : State) (a0 : Array Value) (hw : ∀ d ∈ tables_1, d.before a0 Z = true) (ws : List Jvm.Cond) (ca : Addr) (kc : ClassId) (cz : Int32) (c0 : Int32) (c1 : Int32) (c2 : Int32) (c3 : Int32) (c4 : Int32) (h0 : Heap) (n0 : Nat) (Z0 : n0 ≤ h0.size) (P0 : Arv Z h0 ca kc .char (5 : Int32) [(.int c0), (.int c1), (.int c2), (.int c3), (.int c4)] (.int (0 : Int32))) (P1 : Old Z n0 h0) (P2 : Sta Z Z.heap "java/lang/String" "COMPACT_STRINGS" "Z" (.int cz)) (r_c0 : R8 c0) (r_c1 : R8 c1) (r_c2 : R8 c2) (r_c3 : R8 c3) (hcz : ¬ (cz = (0 : Int32))) :
    MetFree l (⟨"com/example/keepwire/keepwire/ResponseHeadTrimSpacesPinLaw", "make", "(I[C)Ljava/lang/String;"⟩ : MethodName) (head1 (Jvm.Cond.code (⟨"com/example/keepwire/keepwire/ResponseHeadTrimSpacesPinLaw", "make", "(I[C)Ljava/lang/String;"⟩ : MethodName) method_6_code 2 (some (.object "java/lang/String")) :: ws) ({ frames := 4, cells := 3, slots := 12, locals := 66 } : Room)) (fun a U => a = #[(.int (4 : Int32)), (.ref ca)] ∧ Z.Warmed39 U.vm ∧ U.heap = h0) (fun _ _ _ _ _ => True) (fun _ U o U' => ∃ v L, o = .returned v ∧ Q_rmMk4 Z ca kc cz c0 c1 c2 c3 c4 h0 n0 v U'.heap L ∧ FrameEnd U o U' L ({ frames := 4, cells := 3, slots := 12, locals := 66 } : Room).cells ({ frames := 4, cells := 3, slots := 12, locals := 66 } : Room).slots) := by
  refine MetFree.of_bodySF (plainFor_of_name pn_com_example_keepwire_keepwire_ResponseHeadTrimSpacesPinLaw) hisR ?_
  intro p e s m args below meth c s₁ Bd hml0 hP hK
  obtain ⟨rfl, hZ, hh⟩ := hP
  have hx := Bd.exec
  have hby := Bd.bytes
  have hml : c.maxLocals = 2 := hml0
  have hown : s.vm.findClass "com/example/keepwire/keepwire/ResponseHeadTrimSpacesPinLaw" = some m.cls := findClass_of_methodNamed Bd.named
  have hnm := (name_of_methodNamed Bd.named Bd.method).1
  have X0 : Stand p l e ({ frames := 4, cells := 3, slots := 12, locals := 66 } : Room) s m #[(.int (4 : Int32)), (.ref ca)] below meth c s₁ [] 0 0 := Stand.of_body Bd
  have e0 : s₁.heap = h0 := by rw [← hh, Bd.state]; rfl
  have N0 := Fr.nil n0
  suffices hR : ∀ P : State → Prop, (∀ s₂ o v L, s₂.status = .running → Ended s₂ below o → o = .returned v → Q_rmMk4 Z ca kc cz c0 c1 c2 c3 c4 h0 n0 v s₂.heap L → FrameEnd s o s₂ L ({ frames := 4, cells := 3, slots := 12, locals := 66 } : Room).cells ({ frames := 4, cells := 3, slots := 12, locals := 66 } : Room).slots → P s₂) → Rch p.tables e below P (s₁.setTop (mkF m 0 #[.val (.int (4 : Int32)), .val (.ref ca)] [])) by
    obtain ⟨s₂, h1, o, h2⟩ := hR (fun s₂ => ∃ o, s₂.status = .running ∧ Ended s₂ below o ∧ ∃ v L, o = .returned v ∧ Q_rmMk4 Z ca kc cz c0 c1 c2 c3 c4 h0 n0 v s₂.heap L ∧ FrameEnd s o s₂ L ({ frames := 4, cells := 3, slots := 12, locals := 66 } : Room).cells ({ frames := 4, cells := 3, slots := 12, locals := 66 } : Room).slots) (fun s₂ o v L q1 q2 q3 q4 q5 => ⟨o, q1, q2, v, L, q3, q4, q5⟩)
    exact ⟨s₂, o, castTop (ef_rmMk4 m ca) h1, h2⟩
  intro P hPd
  refine Rch.go (fun zt zk => XS.iloadN X0.here hx rfl (hb hby d2_0) rfl zk) ?_
  refine Rch.go (fun zt zk => XS.ifYes X0.here hx rfl (pc0 := 1) (pc' := 15) rfl (hb hby d2_1) rfl ((if0 _ _).trans (feq (by decide : ¬ ((4 : Int32) = (0 : Int32)))).2) (by decide) (by decide) zk) ?_
  refine Rch.go (fun zt zk => XS.iloadN X0.here hx rfl (hb hby d2_15) rfl zk) ?_
  refine Rch.go (fun zt zk => XS.iconst X0.here hx rfl (hb hby d2_16) zk) ?_
  show Rch _ _ _ _ (s₁.setTop (mkF m 17 #[.val (.int (4 : Int32)), .val (.ref ca)] [(.int (1 : Int32)), (.int (4 : Int32))]))
  refine Rch.go (fun zt zk => XS.icmpYes X0.here hx rfl (pc0 := 17) (pc' := 37) rfl (hb hby d2_17) rfl (feq (by decide : ¬ ((4 : Int32) = (1 : Int32)))).2 (by decide) (by decide) zk) ?_
  refine Rch.go (fun zt zk => XS.iloadN X0.here hx rfl (hb hby d2_37) rfl zk) ?_
  refine Rch.go (fun zt zk => XS.iconst X0.here hx rfl (hb hby d2_38) zk) ?_
  refine Rch.go (fun zt zk => XS.icmpYes X0.here hx rfl (pc0 := 39) (pc' := 65) rfl (hb hby d2_39) rfl (feq (by decide : ¬ ((4 : Int32) = (2 : Int32)))).2 (by decide) (by decide) zk) ?_
  show Rch _ _ _ _ (s₁.setTop (mkF m 65 #[.val (.int (4 : Int32)), .val (.ref ca)] []))
  refine Rch.go (fun zt zk => XS.iloadN X0.here hx rfl (hb hby d2_65) rfl zk) ?_
  refine Rch.go (fun zt zk => XS.iconst X0.here hx rfl (hb hby d2_66) zk) ?_
  refine Rch.go (fun zt zk => XS.icmpYes X0.here hx rfl (pc0 := 67) (pc' := 99) rfl (hb hby d2_67) rfl (feq (by decide : ¬ ((4 : Int32) = (3 : Int32)))).2 (by decide) (by decide) zk) ?_
  refine Rch.go (fun zt zk => XS.iloadN X0.here hx rfl (hb hby d2_99) rfl zk) ?_
  show Rch _ _ _ _ (s₁.setTop (mkF m 100 #[.val (.int (4 : Int32)), .val (.ref ca)] [(.int (4 : Int32))]))
  refine Rch.go (fun zt zk => XS.iconst X0.here hx rfl (hb hby d2_100) zk) ?_
  refine Rch.go (fun zt zk => XS.icmpNo X0.here hx rfl (hb hby d2_101) rfl (teq (by decide : (4 : Int32) = (4 : Int32))).2 zk) ?_
  obtain ⟨T101, h101, X101, e101, E101, A101, D101, -, st101⟩ := newO X0 hx hZ hown (ow9 hw) (ow10 hw) (ow11 hw) e0 (g := (mkF m 104 #[.val (.int (4 : Int32)), .val (.ref ca)] [])) rfl (hb hby d2_104) (by decide) (by decide)
  obtain ⟨b101, g101⟩ : ∃ z, z = h0.size := ⟨_, rfl⟩
  rw [← g101] at A101 D101 st101
  refine Rch.go st101 ?_
  have ne_ca_b101 : ca ≠ b101 := by have q := P0.lt; rw [g101]; exact Nat.ne_of_lt q
  have ge101 : n0 ≤ b101 := by rw [g101]; exact Z0
  have gk101 : h0.size ≤ b101 := by rw [g101]; exact (Keep.refl h0 []).1
  have K101 := (Keep.refl h0 []).ext E101
  have F101_value : Fld Z h101 b101 "java/lang/String" "value" "[B" .null := D101 (Or.inr (ow24 hw)) (ty := (.array .byte)) (by decide)
  have F101_coder : Fld Z h101 b101 "java/lang/String" "coder" "B" (.int (0 : Int32)) := D101 (Or.inr (ow25 hw)) (ty := .byte) (by decide)
  refine Rch.go (fun zt zk => XS.dup X101.here hx rfl (hb hby d2_107) rfl rfl zk) ?_
  show Rch _ _ _ _ (T101.setTop (mkF m 108 #[.val (.int (4 : Int32)), .val (.ref ca)] [(.ref b101), (.ref b101)]))
  refine Rch.go (fun zt zk => XS.iconst X101.here hx rfl (hb hby d2_108) zk) ?_
  have f102 := (P0.ext E101)
  have f103 := (Nat.le_trans Z0 E101.1)
  obtain ⟨T104, h104, k104, X104, e104, E104, A104, st104⟩ := newP X101 hx hZ (aty := .char) (ow1 hw) e101 (g := (mkF m 109 #[.val (.int (4 : Int32)), .val (.ref ca)] [(.int (4 : Int32)), (.ref b101), (.ref b101)])) rfl (hb hby d2_109) rfl (by decide) (cap := 4) (by decide) (by decide) (by decide) (by decide)
  obtain ⟨b104, g104⟩ : ∃ z, z = h101.size := ⟨_, rfl⟩
  rw [← g104] at A104 st104
  refine Rch.go st104 ?_
  have ne_ca_b104 : ca ≠ b104 := by have q := f102.lt; rw [g104]; exact Nat.ne_of_lt q
  have ne_b101_b104 : b101 ≠ b104 := by have q := A101.lt; rw [g104]; exact Nat.ne_of_lt q
  have ge104 : n0 ≤ b104 := by rw [g104]; exact f103
  have gk104 : h0.size ≤ b104 := by rw [g104]; exact K101.1
  have K104 := K101.ext E104
  have V104 : Arv Z h104 b104 k104 .char (4 : Int32) [(.int (0 : Int32)), (.int (0 : Int32)), (.int (0 : Int32)), (.int (0 : Int32))] (.int (0 : Int32)) := (Arv.new A104 (by decide)).pad (pad_rep [] (.int (0 : Int32)) 4)
  refine Rch.go (fun zt zk => XS.dup X104.here hx rfl (hb hby d2_111) rfl rfl zk) ?_
  refine Rch.go (fun zt zk => XS.iconst X104.here hx rfl (hb hby d2_112) zk) ?_
  show Rch _ _ _ _ (T104.setTop (mkF m 113 #[.val (.int (4 : Int32)), .val (.ref ca)] [(.int (0 : Int32)), (.ref b104), (.ref b104), (.ref b101), (.ref b101)]))
  refine Rch.go (fun zt zk => XS.aloadN X104.here hx rfl (hb hby d2_113) rfl rfl zk) ?_
  refine Rch.go (fun zt zk => XS.iconst X104.here hx rfl (hb hby d2_114) zk) ?_
  have f105 := (f102.ext E104)
  obtain ⟨cl106, Ar106, q106, S106, M106, H106, G106⟩ := id f105
  have hin106 := inb_of (j := (0 : Int32)) S106 ⟨by decide, by decide⟩
  refine Rch.go (X104.caload hx (j := (0 : Int32)) (v := (.int c0)) (by rw [e104]; exact Ar106.1) (State.isArrayOf_alike hZ.alike Ar106.2.1) Ar106.2.2 hin106 (Has.at H106 hin106 rfl) (g := (mkF m 115 #[.val (.int (4 : Int32)), .val (.ref ca)] [(.int (0 : Int32)), (.ref ca), (.int (0 : Int32)), (.ref b104), (.ref b104), (.ref b101), (.ref b101)])) rfl rfl (hb hby d2_115)) ?_
  obtain ⟨cl107, Ar107, q107, S107, M107, H107, G107⟩ := id V104
  obtain ⟨T107, h107, X107, e107, W107, st107⟩ := stC X104 hx hZ e104 Ar107 (j := (0 : Int32)) (inb_of S107 ⟨by decide, by decide⟩) (g := (mkF m 116 #[.val (.int (4 : Int32)), .val (.ref ca)] [(.int c0), (.int (0 : Int32)), (.ref b104), (.ref b104), (.ref b101), (.ref b101)])) rfl rfl (hb hby d2_116)
  refine Rch.go st107 ?_
  have V107 : Arv Z h107 b104 k104 .char (4 : Int32) [(.int (nar .char c0)), (.int (0 : Int32)), (.int (0 : Int32)), (.int (0 : Int32))] (.int (0 : Int32)) := Arv.set Ar107 q107 S107 M107 H107 G107 (fits_nar_char _) W107 0 rfl (Nat.le_of_ble_eq_true rfl)
  have N107 := Fr.snoc X107 N0 ge104
  have K107 := K104.wr W107 (Or.inr gk104)
  show Rch _ _ _ _ (T107.setTop (mkF m 117 #[.val (.int (4 : Int32)), .val (.ref ca)] [(.ref b104), (.ref b101), (.ref b101)]))
  refine Rch.go (fun zt zk => XS.dup X107.here hx rfl (hb hby d2_117) rfl rfl zk) ?_
  refine Rch.go (fun zt zk => XS.iconst X107.here hx rfl (hb hby d2_118) zk) ?_
  refine Rch.go (fun zt zk => XS.aloadN X107.here hx rfl (hb hby d2_119) rfl rfl zk) ?_
  refine Rch.go (fun zt zk => XS.iconst X107.here hx rfl (hb hby d2_120) zk) ?_
  show Rch _ _ _ _ (T107.setTop (mkF m 121 #[.val (.int (4 : Int32)), .val (.ref ca)] [(.int (1 : Int32)), (.ref ca), (.int (1 : Int32)), (.ref b104), (.ref b104), (.ref b101), (.ref b101)]))
  have f108 := (f105.other W107 ne_ca_b104)
  obtain ⟨cl109, Ar109, q109, S109, M109, H109, G109⟩ := id f108
  have hin109 := inb_of (j := (1 : Int32)) S109 ⟨by decide, by decide⟩
  refine Rch.go (X107.caload hx (j := (1 : Int32)) (v := (.int c1)) (by rw [e107]; exact Ar109.1) (State.isArrayOf_alike hZ.alike Ar109.2.1) Ar109.2.2 hin109 (Has.at H109 hin109 rfl) (g := (mkF m 121 #[.val (.int (4 : Int32)), .val (.ref ca)] [(.int (1 : Int32)), (.ref ca), (.int (1 : Int32)), (.ref b104), (.ref b104), (.ref b101), (.ref b101)])) rfl rfl (hb hby d2_121)) ?_
  obtain ⟨cl110, Ar110, q110, S110, M110, H110, G110⟩ := id V107
  obtain ⟨T110, h110, X110, e110, W110, st110⟩ := stC X107 hx hZ e107 Ar110 (j := (1 : Int32)) (inb_of S110 ⟨by decide, by decide⟩) (g := (mkF m 122 #[.val (.int (4 : Int32)), .val (.ref ca)] [(.int c1), (.int (1 : Int32)), (.ref b104), (.ref b104), (.ref b101), (.ref b101)])) rfl rfl (hb hby d2_122)
  refine Rch.go st110 ?_
  have V110 : Arv Z h110 b104 k104 .char (4 : Int32) [(.int (nar .char c0)), (.int (nar .char c1)), (.int (0 : Int32)), (.int (0 : Int32))] (.int (0 : Int32)) := Arv.set Ar110 q110 S110 M110 H110 G110 (fits_nar_char _) W110 1 rfl (Nat.le_of_ble_eq_true rfl)
  have N110 := Fr.snoc X110 N107 ge104
  have K110 := K107.wr W110 (Or.inr gk104)
  refine Rch.go (fun zt zk => XS.dup X110.here hx rfl (hb hby d2_123) rfl rfl zk) ?_
  refine Rch.go (fun zt zk => XS.iconst X110.here hx rfl (hb hby d2_124) zk) ?_
  show Rch _ _ _ _ (T110.setTop (mkF m 125 #[.val (.int (4 : Int32)), .val (.ref ca)] [(.int (2 : Int32)), (.ref b104), (.ref b104), (.ref b101), (.ref b101)]))
  refine Rch.go (fun zt zk => XS.aloadN X110.here hx rfl (hb hby d2_125) rfl rfl zk) ?_
  refine Rch.go (fun zt zk => XS.iconst X110.here hx rfl (hb hby d2_126) zk) ?_
  have f111 := (f108.other W110 ne_ca_b104)
  obtain ⟨cl112, Ar112, q112, S112, M112, H112, G112⟩ := id f111
  have hin112 := inb_of (j := (2 : Int32)) S112 ⟨by decide, by decide⟩
  refine Rch.go (X110.caload hx (j := (2 : Int32)) (v := (.int c2)) (by rw [e110]; exact Ar112.1) (State.isArrayOf_alike hZ.alike Ar112.2.1) Ar112.2.2 hin112 (Has.at H112 hin112 rfl) (g := (mkF m 127 #[.val (.int (4 : Int32)), .val (.ref ca)] [(.int (2 : Int32)), (.ref ca), (.int (2 : Int32)), (.ref b104), (.ref b104), (.ref b101), (.ref b101)])) rfl rfl (hb hby d2_127)) ?_
  obtain ⟨cl113, Ar113, q113, S113, M113, H113, G113⟩ := id V110
  obtain ⟨T113, h113, X113, e113, W113, st113⟩ := stC X110 hx hZ e110 Ar113 (j := (2 : Int32)) (inb_of S113 ⟨by decide, by decide⟩) (g := (mkF m 128 #[.val (.int (4 : Int32)), .val (.ref ca)] [(.int c2), (.int (2 : Int32)), (.ref b104), (.ref b104), (.ref b101), (.ref b101)])) rfl rfl (hb hby d2_128)
  refine Rch.go st113 ?_
  have V113 : Arv Z h113 b104 k104 .char (4 : Int32) [(.int (nar .char c0)), (.int (nar .char c1)), (.int (nar .char c2)), (.int (0 : Int32))] (.int (0 : Int32)) := Arv.set Ar113 q113 S113 M113 H113 G113 (fits_nar_char _) W113 2 rfl (Nat.le_of_ble_eq_true rfl)
  have N113 := Fr.snoc X113 N110 ge104
  have K113 := K110.wr W113 (Or.inr gk104)
  show Rch _ _ _ _ (T113.setTop (mkF m 129 #[.val (.int (4 : Int32)), .val (.ref ca)] [(.ref b104), (.ref b101), (.ref b101)]))
  refine Rch.go (fun zt zk => XS.dup X113.here hx rfl (hb hby d2_129) rfl rfl zk) ?_
  refine Rch.go (fun zt zk => XS.iconst X113.here hx rfl (hb hby d2_130) zk) ?_
  refine Rch.go (fun zt zk => XS.aloadN X113.here hx rfl (hb hby d2_131) rfl rfl zk) ?_
  refine Rch.go (fun zt zk => XS.iconst X113.here hx rfl (hb hby d2_132) zk) ?_
  show Rch _ _ _ _ (T113.setTop (mkF m 133 #[.val (.int (4 : Int32)), .val (.ref ca)] [(.int (3 : Int32)), (.ref ca), (.int (3 : Int32)), (.ref b104), (.ref b104), (.ref b101), (.ref b101)]))
  have f114 := (f111.other W113 ne_ca_b104)
  obtain ⟨cl115, Ar115, q115, S115, M115, H115, G115⟩ := id f114
  have hin115 := inb_of (j := (3 : Int32)) S115 ⟨by decide, by decide⟩
  refine Rch.go (X113.caload hx (j := (3 : Int32)) (v := (.int c3)) (by rw [e113]; exact Ar115.1) (State.isArrayOf_alike hZ.alike Ar115.2.1) Ar115.2.2 hin115 (Has.at H115 hin115 rfl) (g := (mkF m 133 #[.val (.int (4 : Int32)), .val (.ref ca)] [(.int (3 : Int32)), (.ref ca), (.int (3 : Int32)), (.ref b104), (.ref b104), (.ref b101), (.ref b101)])) rfl rfl (hb hby d2_133)) ?_
  obtain ⟨cl116, Ar116, q116, S116, M116, H116, G116⟩ := id V113
  obtain ⟨T116, h116, X116, e116, W116, st116⟩ := stC X113 hx hZ e113 Ar116 (j := (3 : Int32)) (inb_of S116 ⟨by decide, by decide⟩) (g := (mkF m 134 #[.val (.int (4 : Int32)), .val (.ref ca)] [(.int c3), (.int (3 : Int32)), (.ref b104), (.ref b104), (.ref b101), (.ref b101)])) rfl rfl (hb hby d2_134)
  refine Rch.go st116 ?_
  have V116 : Arv Z h116 b104 k104 .char (4 : Int32) [(.int (nar .char c0)), (.int (nar .char c1)), (.int (nar .char c2)), (.int (nar .char c3))] (.int (0 : Int32)) := Arv.set Ar116 q116 S116 M116 H116 G116 (fits_nar_char _) W116 3 rfl (Nat.le_of_ble_eq_true rfl)
  have N116 := Fr.snoc X116 N113 ge104
  have K116 := K113.wr W116 (Or.inr gk104)
  have f118 := (((((A101.ext E104).wr W107).wr W110).wr W113).wr W116)
  have f119 := (((((F101_value.ext E104).other W107 (Or.inl ne_b101_b104)).other W110 (Or.inl ne_b101_b104)).other W113 (Or.inl ne_b101_b104)).other W116 (Or.inl ne_b101_b104))
  have f120 := (((((F101_coder.ext E104).other W107 (Or.inl ne_b101_b104)).other W110 (Or.inl ne_b101_b104)).other W113 (Or.inl ne_b101_b104)).other W116 (Or.inl ne_b101_b104))
  have f121 := ((((((P1.ext E101).ext E104).wr W107 ge104).wr W110 ge104).wr W113 ge104).wr W116 ge104)
  have f122 := (Nat.le_trans (Nat.le_trans (Nat.le_trans (Nat.le_trans (Nat.le_trans f103 E104.1) (Keep.of_wr W107).1) (Keep.of_wr W110).1) (Keep.of_wr W113).1) (Keep.of_wr W116).1)
  obtain ⟨_, _, ⟨T117, L117, k117, n117⟩, -, X117, ⟨Lc117, hQ117, l117, y117, z117⟩, st117⟩ := X116.specialBack hx (y := (⟨"java/lang/String", "<init>", "([C)V"⟩ : MethodName)) rfl hown (mvT hZ (ow12 hw)) (mvT hZ (ow13 hw)) (mvT hZ (ow14 hw)) (by decide) (backOf (W := 1) (rmC4 l Z a0 hw [] (b101) (b104) (k104) (cz) ((nar .char c0)) ((nar .char c1)) ((nar .char c2)) ((nar .char c3)) h116 n0 f122 (f118) (f119) (f120) (V116) (f121) (P2) ((Ne.symm ne_b101_b104)) (ge101) ((by rw [own_narC r_c0]; exact r_c0)) ((by rw [own_narC r_c1]; exact r_c1)) ((by rw [own_narC r_c2]; exact r_c2)) ((by rw [own_narC r_c3]; exact r_c3)) (hcz)) hZ (ow14 hw) (ow11 hw) (by decide) (by decide)) (g := (mkF m 135 #[.val (.int (4 : Int32)), .val (.ref ca)] [(.ref b104), (.ref b101), (.ref b101)])) rfl (by rw [hml]; rfl) (Steps.refl _) (a := b101) (argsL := [(.ref b104)]) (rest := [(.ref b101)]) (lenOf pd___C_V rfl) rfl (by show 2 * 0 + _ ≤ _; exact Nat.le_of_eq rfl) (hb hby d2_135) (fun _ _ => ⟨rfl, e116, (by decide : 2 + 1 ≤ _), (by decide : 8 + 4 ≤ _)⟩)
  dsimp only [Pt.U, Pt.locs, Pt.cells, Pt.slots] at X117 l117 y117 z117 st117 hQ117
  rw [l117, y117, z117] at X117
  obtain ⟨rfl, N117q, K117q, E117, C117, b117, kb117, gb117, gh117, U117, V117⟩ := hQ117
  have N117 := Fr.app N116 N117q
  have f123 := (f114.other W116 ne_ca_b104)
  have ne_ca_b117 : ca ≠ b117 := Nat.ne_of_lt (Nat.lt_of_lt_of_le f123.lt gh117)
  have ne_b101_b117 : b101 ≠ b117 := Nat.ne_of_lt (Nat.lt_of_lt_of_le f118.lt gh117)
  have ne_b104_b117 : b104 ≠ b117 := Nat.ne_of_lt (Nat.lt_of_lt_of_le V116.lt gh117)
  have gk117 : h0.size ≤ b117 := Nat.le_trans K116.1 gh117
  have K117 := Keep.trans K116 K117q (allS (Or.inr gk101) all0)
  refine Rch.go (fun zt zk => st117.trans zk) ?_
  obtain ⟨fs, hr, hrun, hended, hW, hsame⟩ := X117.leave (v := some (.ref b101)) (fun h => by rw [Bd.returns] at h; cases h)
  have hend : Steps p.tables e below (T117.setTop (mkF m 138 #[.val (.int (4 : Int32)), .val (.ref ca)] [(.ref b101)])) (T117.setFrames fs) := by
    jvm_step X117.here [X117.here.top, hx, (hb hby d2_138), X117.method', Bd.returns, Value.isRef, FieldType.isReference]
    first | (intro acts; rw [hr _ acts rfl rfl rfl]) | rw [hr _ _ rfl rfl rfl]
    exact Steps.refl _
  refine Rch.mk (hend) (hPd _ _ _ _ hrun hended rfl ?_ ⟨⟨_, rfl⟩, hW, hsame.mono (by decide) (by decide)⟩)
  show Q_rmMk4 Z ca kc cz c0 c1 c2 c3 c4 h0 n0 _ T117.heap _
  have VZ := V117
  simp only [own_narC r_c0, own_narC r_c1, own_narC r_c2, own_narC r_c3] at VZ
  exact ⟨⟨b101, b117, _, _, rfl, rfl, E117, C117, U117, VZ⟩, N117, K117⟩
theorem ef_rmMk5 (m : MethodId) (ca : Addr) : entryFrame m #[(.int (5 : Int32)), (.ref ca)] 2 = mkF m 0 #[.val (.int (5 : Int32)), .val (.ref ca)] [] := by first | (simp [entryFrame, mkF, argsToLocals, Value.category]; done) | rfl
theorem d2_139 : decode method_6_code 139 = .ok (.new 29, 3) := by decide +kernel
theorem d2_142 : decode method_6_code 142 = .ok (.dup, 1) := by decide +kernel
theorem d2_143 : decode method_6_code 143 = .ok (.iconst 5, 1) := by decide +kernel
theorem d2_144 : decode method_6_code 144 = .ok (.newarray .char, 2) := by decide +kernel
theorem d2_146 : decode method_6_code 146 = .ok (.dup, 1) := by decide +kernel
theorem d2_147 : decode method_6_code 147 = .ok (.iconst 0, 1) := by decide +kernel
theorem d2_148 : decode method_6_code 148 = .ok (.aload_n 1, 1) := by decide +kernel
theorem d2_149 : decode method_6_code 149 = .ok (.iconst 0, 1) := by decide +kernel
theorem d2_150 : decode method_6_code 150 = .ok (.caload, 1) := by decide +kernel
theorem d2_151 : decode method_6_code 151 = .ok (.castore, 1) := by decide +kernel
theorem d2_152 : decode method_6_code 152 = .ok (.dup, 1) := by decide +kernel
theorem d2_153 : decode method_6_code 153 = .ok (.iconst 1, 1) := by decide +kernel
theorem d2_154 : decode method_6_code 154 = .ok (.aload_n 1, 1) := by decide +kernel
theorem d2_155 : decode method_6_code 155 = .ok (.iconst 1, 1) := by decide +kernel
theorem d2_156 : decode method_6_code 156 = .ok (.caload, 1) := by decide +kernel
theorem d2_157 : decode method_6_code 157 = .ok (.castore, 1) := by decide +kernel
theorem d2_158 : decode method_6_code 158 = .ok (.dup, 1) := by decide +kernel
theorem d2_159 : decode method_6_code 159 = .ok (.iconst 2, 1) := by decide +kernel
theorem d2_160 : decode method_6_code 160 = .ok (.aload_n 1, 1) := by decide +kernel
theorem d2_161 : decode method_6_code 161 = .ok (.iconst 2, 1) := by decide +kernel
theorem d2_162 : decode method_6_code 162 = .ok (.caload, 1) := by decide +kernel
theorem d2_163 : decode method_6_code 163 = .ok (.castore, 1) := by decide +kernel
theorem d2_164 : decode method_6_code 164 = .ok (.dup, 1) := by decide +kernel
theorem d2_165 : decode method_6_code 165 = .ok (.iconst 3, 1) := by decide +kernel
theorem d2_166 : decode method_6_code 166 = .ok (.aload_n 1, 1) := by decide +kernel
theorem d2_167 : decode method_6_code 167 = .ok (.iconst 3, 1) := by decide +kernel
theorem d2_168 : decode method_6_code 168 = .ok (.caload, 1) := by decide +kernel
theorem d2_169 : decode method_6_code 169 = .ok (.castore, 1) := by decide +kernel
theorem d2_170 : decode method_6_code 170 = .ok (.dup, 1) := by decide +kernel
theorem d2_171 : decode method_6_code 171 = .ok (.iconst 4, 1) := by decide +kernel
theorem d2_172 : decode method_6_code 172 = .ok (.aload_n 1, 1) := by decide +kernel
theorem d2_173 : decode method_6_code 173 = .ok (.iconst 4, 1) := by decide +kernel
theorem d2_174 : decode method_6_code 174 = .ok (.caload, 1) := by decide +kernel
theorem d2_175 : decode method_6_code 175 = .ok (.castore, 1) := by decide +kernel
theorem d2_176 : decode method_6_code 176 = .ok (.invokespecial 41, 3) := by decide +kernel
theorem d2_179 : decode method_6_code 179 = .ok (.areturn, 1) := by decide +kernel
def Q_rmMk5 (Z : State) (ca : Addr) (kc : ClassId) (cz : Int32) (c0 : Int32) (c1 : Int32) (c2 : Int32) (c3 : Int32) (c4 : Int32) (h0 : Heap) (n0 : Nat) (v : Option Value) (h : Heap) (L : List Loc) : Prop := (∃ (r b : Addr) (kb : ClassId) (w2 : Int32), v = some (.ref r) ∧ w2 = (0 : Int32) ∧ Exa Z h r "java/lang/String" ∧ Fld Z h r "java/lang/String" "coder" "B" (.int w2) ∧ Fld Z h r "java/lang/String" "value" "[B" (.ref b) ∧ Arv Z h b kb .byte (5 : Int32) [(.int (bOf c0)), (.int (bOf c1)), (.int (bOf c2)), (.int (bOf c3)), (.int (bOf c4))] (.int (0 : Int32))) ∧ Fr n0 L ∧ Keep h0 h []
set_option maxRecDepth 65536 in
set_option maxHeartbeats 40000000 in
theorem rmMk5 (l : Launch) (Z : State) (a0 : Array Value) (hw : ∀ d ∈ tables_1, d.before a0 Z = true) (ws : List Jvm.Cond) (ca : Addr) (kc : ClassId) (cz : Int32) (c0 : Int32) (c1 : Int32) (c2 : Int32) (c3 : Int32) (c4 : Int32) (h0 : Heap) (n0 : Nat) (Z0 : n0 ≤ h0.size) (P0 : Arv Z h0 ca kc .char (5 : Int32) [(.int c0), (.int c1), (.int c2), (.int c3), (.int c4)] (.int (0 : Int32))) (P1 : Old Z n0 h0) (P2 : Sta Z Z.heap "java/lang/String" "COMPACT_STRINGS" "Z" (.int cz)) (r_c0 : R8 c0) (r_c1 : R8 c1) (r_c2 : R8 c2) (r_c3 : R8 c3) (r_c4 : R8 c4) (hcz : ¬ (cz = (0 : Int32))) :
    MetFree l (⟨"com/example/keepwire/keepwire/ResponseHeadTrimSpacesPinLaw", "make", "(I[C)Ljava/lang/String;"⟩ : MethodName) (head1 (Jvm.Cond.code (⟨"com/example/keepwire/keepwire/ResponseHeadTrimSpacesPinLaw", "make", "(I[C)Ljava/lang/String;"⟩ : MethodName) method_6_code 2 (some (.object "java/lang/String")) :: ws) ({ frames := 4, cells := 3, slots := 14, locals := 66 } : Room)) (fun a U => a = #[(.int (5 : Int32)), (.ref ca)] ∧ Z.Warmed39 U.vm ∧ U.heap = h0) (fun _ _ _ _ _ => True) (fun _ U o U' => ∃ v L, o = .returned v ∧ Q_rmMk5 Z ca kc cz c0 c1 c2 c3 c4 h0 n0 v U'.heap L ∧ FrameEnd U o U' L ({ frames := 4, cells := 3, slots := 14, locals := 66 } : Room).cells ({ frames := 4, cells := 3, slots := 14, locals := 66 } : Room).slots) := by
  refine MetFree.of_bodySF (plainFor_of_name pn_com_example_keepwire_keepwire_ResponseHeadTrimSpacesPinLaw) hisR ?_
  intro p e s m args below meth c s₁ Bd hml0 hP hK
  obtain ⟨rfl, hZ, hh⟩ := hP
  have hx := Bd.exec
  have hby := Bd.bytes
  have hml : c.maxLocals = 2 := hml0
  have hown : s.vm.findClass "com/example/keepwire/keepwire/ResponseHeadTrimSpacesPinLaw" = some m.cls := findClass_of_methodNamed Bd.named
  have hnm := (name_of_methodNamed Bd.named Bd.method).1
  have X0 : Stand p l e ({ frames := 4, cells := 3, slots := 14, locals := 66 } : Room) s m #[(.int (5 : Int32)), (.ref ca)] below meth c s₁ [] 0 0 := Stand.of_body Bd
  have e0 : s₁.heap = h0 := by rw [← hh, Bd.state]; rfl
  have N0 := Fr.nil n0
  suffices hR : ∀ P : State → Prop, (∀ s₂ o v L, s₂.status = .running → Ended s₂ below o → o = .returned v → Q_rmMk5 Z ca kc cz c0 c1 c2 c3 c4 h0 n0 v s₂.heap L → FrameEnd s o s₂ L ({ frames := 4, cells := 3, slots := 14, locals := 66 } : Room).cells ({ frames := 4, cells := 3, slots := 14, locals := 66 } : Room).slots → P s₂) → Rch p.tables e below P (s₁.setTop (mkF m 0 #[.val (.int (5 : Int32)), .val (.ref ca)] [])) by
    obtain ⟨s₂, h1, o, h2⟩ := hR (fun s₂ => ∃ o, s₂.status = .running ∧ Ended s₂ below o ∧ ∃ v L, o = .returned v ∧ Q_rmMk5 Z ca kc cz c0 c1 c2 c3 c4 h0 n0 v s₂.heap L ∧ FrameEnd s o s₂ L ({ frames := 4, cells := 3, slots := 14, locals := 66 } : Room).cells ({ frames := 4, cells := 3, slots := 14, locals := 66 } : Room).slots) (fun s₂ o v L q1 q2 q3 q4 q5 => ⟨o, q1, q2, v, L, q3, q4, q5⟩)
    exact ⟨s₂, o, castTop (ef_rmMk5 m ca) h1, h2⟩
  intro P hPd
  refine Rch.go (fun zt zk => XS.iloadN X0.here hx rfl (hb hby d2_0) rfl zk) ?_
  refine Rch.go (fun zt zk => XS.ifYes X0.here hx rfl (pc0 := 1) (pc' := 15) rfl (hb hby d2_1) rfl ((if0 _ _).trans (feq (by decide : ¬ ((5 : Int32) = (0 : Int32)))).2) (by decide) (by decide) zk) ?_
  refine Rch.go (fun zt zk => XS.iloadN X0.here hx rfl (hb hby d2_15) rfl zk) ?_
  refine Rch.go (fun zt zk => XS.iconst X0.here hx rfl (hb hby d2_16) zk) ?_
  show Rch _ _ _ _ (s₁.setTop (mkF m 17 #[.val (.int (5 : Int32)), .val (.ref ca)] [(.int (1 : Int32)), (.int (5 : Int32))]))
  refine Rch.go (fun zt zk => XS.icmpYes X0.here hx rfl (pc0 := 17) (pc' := 37) rfl (hb hby d2_17) rfl (feq (by decide : ¬ ((5 : Int32) = (1 : Int32)))).2 (by decide) (by decide) zk) ?_
  refine Rch.go (fun zt zk => XS.iloadN X0.here hx rfl (hb hby d2_37) rfl zk) ?_
  refine Rch.go (fun zt zk => XS.iconst X0.here hx rfl (hb hby d2_38) zk) ?_
  refine Rch.go (fun zt zk => XS.icmpYes X0.here hx rfl (pc0 := 39) (pc' := 65) rfl (hb hby d2_39) rfl (feq (by decide : ¬ ((5 : Int32) = (2 : Int32)))).2 (by decide) (by decide) zk) ?_
  show Rch _ _ _ _ (s₁.setTop (mkF m 65 #[.val (.int (5 : Int32)), .val (.ref ca)] []))
  refine Rch.go (fun zt zk => XS.iloadN X0.here hx rfl (hb hby d2_65) rfl zk) ?_
  refine Rch.go (fun zt zk => XS.iconst X0.here hx rfl (hb hby d2_66) zk) ?_
  refine Rch.go (fun zt zk => XS.icmpYes X0.here hx rfl (pc0 := 67) (pc' := 99) rfl (hb hby d2_67) rfl (feq (by decide : ¬ ((5 : Int32) = (3 : Int32)))).2 (by decide) (by decide) zk) ?_
  refine Rch.go (fun zt zk => XS.iloadN X0.here hx rfl (hb hby d2_99) rfl zk) ?_
  show Rch _ _ _ _ (s₁.setTop (mkF m 100 #[.val (.int (5 : Int32)), .val (.ref ca)] [(.int (5 : Int32))]))
  refine Rch.go (fun zt zk => XS.iconst X0.here hx rfl (hb hby d2_100) zk) ?_
  refine Rch.go (fun zt zk => XS.icmpYes X0.here hx rfl (pc0 := 101) (pc' := 139) rfl (hb hby d2_101) rfl (feq (by decide : ¬ ((5 : Int32) = (4 : Int32)))).2 (by decide) (by decide) zk) ?_
  obtain ⟨T101, h101, X101, e101, E101, A101, D101, -, st101⟩ := newO X0 hx hZ hown (ow9 hw) (ow10 hw) (ow11 hw) e0 (g := (mkF m 139 #[.val (.int (5 : Int32)), .val (.ref ca)] [])) rfl (hb hby d2_139) (by decide) (by decide)
  obtain ⟨b101, g101⟩ : ∃ z, z = h0.size := ⟨_, rfl⟩
  rw [← g101] at A101 D101 st101
  refine Rch.go st101 ?_
  have ne_ca_b101 : ca ≠ b101 := by have q := P0.lt; rw [g101]; exact Nat.ne_of_lt q
  have ge101 : n0 ≤ b101 := by rw [g101]; exact Z0
  have gk101 : h0.size ≤ b101 := by rw [g101]; exact (Keep.refl h0 []).1
  have K101 := (Keep.refl h0 []).ext E101
  have F101_value : Fld Z h101 b101 "java/lang/String" "value" "[B" .null := D101 (Or.inr (ow24 hw)) (ty := (.array .byte)) (by decide)
  have F101_coder : Fld Z h101 b101 "java/lang/String" "coder" "B" (.int (0 : Int32)) := D101 (Or.inr (ow25 hw)) (ty := .byte) (by decide)
  refine Rch.go (fun zt zk => XS.dup X101.here hx rfl (hb hby d2_142) rfl rfl zk) ?_
  show Rch _ _ _ _ (T101.setTop (mkF m 143 #[.val (.int (5 : Int32)), .val (.ref ca)] [(.ref b101), (.ref b101)]))
  refine Rch.go (fun zt zk => XS.iconst X101.here hx rfl (hb hby d2_143) zk) ?_
  have f102 := (P0.ext E101)
  have f103 := (Nat.le_trans Z0 E101.1)
  obtain ⟨T104, h104, k104, X104, e104, E104, A104, st104⟩ := newP X101 hx hZ (aty := .char) (ow1 hw) e101 (g := (mkF m 144 #[.val (.int (5 : Int32)), .val (.ref ca)] [(.int (5 : Int32)), (.ref b101), (.ref b101)])) rfl (hb hby d2_144) rfl (by decide) (cap := 5) (by decide) (by decide) (by decide) (by decide)
  obtain ⟨b104, g104⟩ : ∃ z, z = h101.size := ⟨_, rfl⟩
  rw [← g104] at A104 st104
  refine Rch.go st104 ?_
  have ne_ca_b104 : ca ≠ b104 := by have q := f102.lt; rw [g104]; exact Nat.ne_of_lt q
  have ne_b101_b104 : b101 ≠ b104 := by have q := A101.lt; rw [g104]; exact Nat.ne_of_lt q
  have ge104 : n0 ≤ b104 := by rw [g104]; exact f103
  have gk104 : h0.size ≤ b104 := by rw [g104]; exact K101.1
  have K104 := K101.ext E104
  have V104 : Arv Z h104 b104 k104 .char (5 : Int32) [(.int (0 : Int32)), (.int (0 : Int32)), (.int (0 : Int32)), (.int (0 : Int32)), (.int (0 : Int32))] (.int (0 : Int32)) := (Arv.new A104 (by decide)).pad (pad_rep [] (.int (0 : Int32)) 5)
  refine Rch.go (fun zt zk => XS.dup X104.here hx rfl (hb hby d2_146) rfl rfl zk) ?_
  refine Rch.go (fun zt zk => XS.iconst X104.here hx rfl (hb hby d2_147) zk) ?_
  show Rch _ _ _ _ (T104.setTop (mkF m 148 #[.val (.int (5 : Int32)), .val (.ref ca)] [(.int (0 : Int32)), (.ref b104), (.ref b104), (.ref b101), (.ref b101)]))
  refine Rch.go (fun zt zk => XS.aloadN X104.here hx rfl (hb hby d2_148) rfl rfl zk) ?_
  refine Rch.go (fun zt zk => XS.iconst X104.here hx rfl (hb hby d2_149) zk) ?_
  have f105 := (f102.ext E104)
  obtain ⟨cl106, Ar106, q106, S106, M106, H106, G106⟩ := id f105
  have hin106 := inb_of (j := (0 : Int32)) S106 ⟨by decide, by decide⟩
  refine Rch.go (X104.caload hx (j := (0 : Int32)) (v := (.int c0)) (by rw [e104]; exact Ar106.1) (State.isArrayOf_alike hZ.alike Ar106.2.1) Ar106.2.2 hin106 (Has.at H106 hin106 rfl) (g := (mkF m 150 #[.val (.int (5 : Int32)), .val (.ref ca)] [(.int (0 : Int32)), (.ref ca), (.int (0 : Int32)), (.ref b104), (.ref b104), (.ref b101), (.ref b101)])) rfl rfl (hb hby d2_150)) ?_
  obtain ⟨cl107, Ar107, q107, S107, M107, H107, G107⟩ := id V104
  obtain ⟨T107, h107, X107, e107, W107, st107⟩ := stC X104 hx hZ e104 Ar107 (j := (0 : Int32)) (inb_of S107 ⟨by decide, by decide⟩) (g := (mkF m 151 #[.val (.int (5 : Int32)), .val (.ref ca)] [(.int c0), (.int (0 : Int32)), (.ref b104), (.ref b104), (.ref b101), (.ref b101)])) rfl rfl (hb hby d2_151)
  refine Rch.go st107 ?_
  have V107 : Arv Z h107 b104 k104 .char (5 : Int32) [(.int (nar .char c0)), (.int (0 : Int32)), (.int (0 : Int32)), (.int (0 : Int32)), (.int (0 : Int32))] (.int (0 : Int32)) := Arv.set Ar107 q107 S107 M107 H107 G107 (fits_nar_char _) W107 0 rfl (Nat.le_of_ble_eq_true rfl)
  have N107 := Fr.snoc X107 N0 ge104
  have K107 := K104.wr W107 (Or.inr gk104)
  show Rch _ _ _ _ (T107.setTop (mkF m 152 #[.val (.int (5 : Int32)), .val (.ref ca)] [(.ref b104), (.ref b101), (.ref b101)]))
  refine Rch.go (fun zt zk => XS.dup X107.here hx rfl (hb hby d2_152) rfl rfl zk) ?_
  refine Rch.go (fun zt zk => XS.iconst X107.here hx rfl (hb hby d2_153) zk) ?_
  refine Rch.go (fun zt zk => XS.aloadN X107.here hx rfl (hb hby d2_154) rfl rfl zk) ?_
  refine Rch.go (fun zt zk => XS.iconst X107.here hx rfl (hb hby d2_155) zk) ?_
  show Rch _ _ _ _ (T107.setTop (mkF m 156 #[.val (.int (5 : Int32)), .val (.ref ca)] [(.int (1 : Int32)), (.ref ca), (.int (1 : Int32)), (.ref b104), (.ref b104), (.ref b101), (.ref b101)]))
  have f108 := (f105.other W107 ne_ca_b104)
  obtain ⟨cl109, Ar109, q109, S109, M109, H109, G109⟩ := id f108
  have hin109 := inb_of (j := (1 : Int32)) S109 ⟨by decide, by decide⟩
  refine Rch.go (X107.caload hx (j := (1 : Int32)) (v := (.int c1)) (by rw [e107]; exact Ar109.1) (State.isArrayOf_alike hZ.alike Ar109.2.1) Ar109.2.2 hin109 (Has.at H109 hin109 rfl) (g := (mkF m 156 #[.val (.int (5 : Int32)), .val (.ref ca)] [(.int (1 : Int32)), (.ref ca), (.int (1 : Int32)), (.ref b104), (.ref b104), (.ref b101), (.ref b101)])) rfl rfl (hb hby d2_156)) ?_
  obtain ⟨cl110, Ar110, q110, S110, M110, H110, G110⟩ := id V107
  obtain ⟨T110, h110, X110, e110, W110, st110⟩ := stC X107 hx hZ e107 Ar110 (j := (1 : Int32)) (inb_of S110 ⟨by decide, by decide⟩) (g := (mkF m 157 #[.val (.int (5 : Int32)), .val (.ref ca)] [(.int c1), (.int (1 : Int32)), (.ref b104), (.ref b104), (.ref b101), (.ref b101)])) rfl rfl (hb hby d2_157)
  refine Rch.go st110 ?_
  have V110 : Arv Z h110 b104 k104 .char (5 : Int32) [(.int (nar .char c0)), (.int (nar .char c1)), (.int (0 : Int32)), (.int (0 : Int32)), (.int (0 : Int32))] (.int (0 : Int32)) := Arv.set Ar110 q110 S110 M110 H110 G110 (fits_nar_char _) W110 1 rfl (Nat.le_of_ble_eq_true rfl)
  have N110 := Fr.snoc X110 N107 ge104
  have K110 := K107.wr W110 (Or.inr gk104)
  refine Rch.go (fun zt zk => XS.dup X110.here hx rfl (hb hby d2_158) rfl rfl zk) ?_
  refine Rch.go (fun zt zk => XS.iconst X110.here hx rfl (hb hby d2_159) zk) ?_
  show Rch _ _ _ _ (T110.setTop (mkF m 160 #[.val (.int (5 : Int32)), .val (.ref ca)] [(.int (2 : Int32)), (.ref b104), (.ref b104), (.ref b101), (.ref b101)]))
  refine Rch.go (fun zt zk => XS.aloadN X110.here hx rfl (hb hby d2_160) rfl rfl zk) ?_
  refine Rch.go (fun zt zk => XS.iconst X110.here hx rfl (hb hby d2_161) zk) ?_
  have f111 := (f108.other W110 ne_ca_b104)
  obtain ⟨cl112, Ar112, q112, S112, M112, H112, G112⟩ := id f111
  have hin112 := inb_of (j := (2 : Int32)) S112 ⟨by decide, by decide⟩
  refine Rch.go (X110.caload hx (j := (2 : Int32)) (v := (.int c2)) (by rw [e110]; exact Ar112.1) (State.isArrayOf_alike hZ.alike Ar112.2.1) Ar112.2.2 hin112 (Has.at H112 hin112 rfl) (g := (mkF m 162 #[.val (.int (5 : Int32)), .val (.ref ca)] [(.int (2 : Int32)), (.ref ca), (.int (2 : Int32)), (.ref b104), (.ref b104), (.ref b101), (.ref b101)])) rfl rfl (hb hby d2_162)) ?_
  obtain ⟨cl113, Ar113, q113, S113, M113, H113, G113⟩ := id V110
  obtain ⟨T113, h113, X113, e113, W113, st113⟩ := stC X110 hx hZ e110 Ar113 (j := (2 : Int32)) (inb_of S113 ⟨by decide, by decide⟩) (g := (mkF m 163 #[.val (.int (5 : Int32)), .val (.ref ca)] [(.int c2), (.int (2 : Int32)), (.ref b104), (.ref b104), (.ref b101), (.ref b101)])) rfl rfl (hb hby d2_163)
  refine Rch.go st113 ?_
  have V113 : Arv Z h113 b104 k104 .char (5 : Int32) [(.int (nar .char c0)), (.int (nar .char c1)), (.int (nar .char c2)), (.int (0 : Int32)), (.int (0 : Int32))] (.int (0 : Int32)) := Arv.set Ar113 q113 S113 M113 H113 G113 (fits_nar_char _) W113 2 rfl (Nat.le_of_ble_eq_true rfl)
  have N113 := Fr.snoc X113 N110 ge104
  have K113 := K110.wr W113 (Or.inr gk104)
  show Rch _ _ _ _ (T113.setTop (mkF m 164 #[.val (.int (5 : Int32)), .val (.ref ca)] [(.ref b104), (.ref b101), (.ref b101)]))
  refine Rch.go (fun zt zk => XS.dup X113.here hx rfl (hb hby d2_164) rfl rfl zk) ?_
  refine Rch.go (fun zt zk => XS.iconst X113.here hx rfl (hb hby d2_165) zk) ?_
  refine Rch.go (fun zt zk => XS.aloadN X113.here hx rfl (hb hby d2_166) rfl rfl zk) ?_
  refine Rch.go (fun zt zk => XS.iconst X113.here hx rfl (hb hby d2_167) zk) ?_
  show Rch _ _ _ _ (T113.setTop (mkF m 168 #[.val (.int (5 : Int32)), .val (.ref ca)] [(.int (3 : Int32)), (.ref ca), (.int (3 : Int32)), (.ref b104), (.ref b104), (.ref b101), (.ref b101)]))
  have f114 := (f111.other W113 ne_ca_b104)
  obtain ⟨cl115, Ar115, q115, S115, M115, H115, G115⟩ := id f114
  have hin115 := inb_of (j := (3 : Int32)) S115 ⟨by decide, by decide⟩
  refine Rch.go (X113.caload hx (j := (3 : Int32)) (v := (.int c3)) (by rw [e113]; exact Ar115.1) (State.isArrayOf_alike hZ.alike Ar115.2.1) Ar115.2.2 hin115 (Has.at H115 hin115 rfl) (g := (mkF m 168 #[.val (.int (5 : Int32)), .val (.ref ca)] [(.int (3 : Int32)), (.ref ca), (.int (3 : Int32)), (.ref b104), (.ref b104), (.ref b101), (.ref b101)])) rfl rfl (hb hby d2_168)) ?_
  obtain ⟨cl116, Ar116, q116, S116, M116, H116, G116⟩ := id V113
  obtain ⟨T116, h116, X116, e116, W116, st116⟩ := stC X113 hx hZ e113 Ar116 (j := (3 : Int32)) (inb_of S116 ⟨by decide, by decide⟩) (g := (mkF m 169 #[.val (.int (5 : Int32)), .val (.ref ca)] [(.int c3), (.int (3 : Int32)), (.ref b104), (.ref b104), (.ref b101), (.ref b101)])) rfl rfl (hb hby d2_169)
  refine Rch.go st116 ?_
  have V116 : Arv Z h116 b104 k104 .char (5 : Int32) [(.int (nar .char c0)), (.int (nar .char c1)), (.int (nar .char c2)), (.int (nar .char c3)), (.int (0 : Int32))] (.int (0 : Int32)) := Arv.set Ar116 q116 S116 M116 H116 G116 (fits_nar_char _) W116 3 rfl (Nat.le_of_ble_eq_true rfl)
  have N116 := Fr.snoc X116 N113 ge104
  have K116 := K113.wr W116 (Or.inr gk104)
  refine Rch.go (fun zt zk => XS.dup X116.here hx rfl (hb hby d2_170) rfl rfl zk) ?_
  refine Rch.go (fun zt zk => XS.iconst X116.here hx rfl (hb hby d2_171) zk) ?_
  show Rch _ _ _ _ (T116.setTop (mkF m 172 #[.val (.int (5 : Int32)), .val (.ref ca)] [(.int (4 : Int32)), (.ref b104), (.ref b104), (.ref b101), (.ref b101)]))
  refine Rch.go (fun zt zk => XS.aloadN X116.here hx rfl (hb hby d2_172) rfl rfl zk) ?_
  refine Rch.go (fun zt zk => XS.iconst X116.here hx rfl (hb hby d2_173) zk) ?_
  have f117 := (f114.other W116 ne_ca_b104)
  obtain ⟨cl118, Ar118, q118, S118, M118, H118, G118⟩ := id f117
  have hin118 := inb_of (j := (4 : Int32)) S118 ⟨by decide, by decide⟩
  refine Rch.go (X116.caload hx (j := (4 : Int32)) (v := (.int c4)) (by rw [e116]; exact Ar118.1) (State.isArrayOf_alike hZ.alike Ar118.2.1) Ar118.2.2 hin118 (Has.at H118 hin118 rfl) (g := (mkF m 174 #[.val (.int (5 : Int32)), .val (.ref ca)] [(.int (4 : Int32)), (.ref ca), (.int (4 : Int32)), (.ref b104), (.ref b104), (.ref b101), (.ref b101)])) rfl rfl (hb hby d2_174)) ?_
  obtain ⟨cl119, Ar119, q119, S119, M119, H119, G119⟩ := id V116
  obtain ⟨T119, h119, X119, e119, W119, st119⟩ := stC X116 hx hZ e116 Ar119 (j := (4 : Int32)) (inb_of S119 ⟨by decide, by decide⟩) (g := (mkF m 175 #[.val (.int (5 : Int32)), .val (.ref ca)] [(.int c4), (.int (4 : Int32)), (.ref b104), (.ref b104), (.ref b101), (.ref b101)])) rfl rfl (hb hby d2_175)
  refine Rch.go st119 ?_
  have V119 : Arv Z h119 b104 k104 .char (5 : Int32) [(.int (nar .char c0)), (.int (nar .char c1)), (.int (nar .char c2)), (.int (nar .char c3)), (.int (nar .char c4))] (.int (0 : Int32)) := Arv.set Ar119 q119 S119 M119 H119 G119 (fits_nar_char _) W119 4 rfl (Nat.le_of_ble_eq_true rfl)
  have N119 := Fr.snoc X119 N116 ge104
  have K119 := K116.wr W119 (Or.inr gk104)
  show Rch _ _ _ _ (T119.setTop (mkF m 176 #[.val (.int (5 : Int32)), .val (.ref ca)] [(.ref b104), (.ref b101), (.ref b101)]))
  have f121 := ((((((A101.ext E104).wr W107).wr W110).wr W113).wr W116).wr W119)
  have f122 := ((((((F101_value.ext E104).other W107 (Or.inl ne_b101_b104)).other W110 (Or.inl ne_b101_b104)).other W113 (Or.inl ne_b101_b104)).other W116 (Or.inl ne_b101_b104)).other W119 (Or.inl ne_b101_b104))
  have f123 := ((((((F101_coder.ext E104).other W107 (Or.inl ne_b101_b104)).other W110 (Or.inl ne_b101_b104)).other W113 (Or.inl ne_b101_b104)).other W116 (Or.inl ne_b101_b104)).other W119 (Or.inl ne_b101_b104))
  have f124 := (((((((P1.ext E101).ext E104).wr W107 ge104).wr W110 ge104).wr W113 ge104).wr W116 ge104).wr W119 ge104)
  have f125 := (Nat.le_trans (Nat.le_trans (Nat.le_trans (Nat.le_trans (Nat.le_trans (Nat.le_trans f103 E104.1) (Keep.of_wr W107).1) (Keep.of_wr W110).1) (Keep.of_wr W113).1) (Keep.of_wr W116).1) (Keep.of_wr W119).1)
  obtain ⟨_, _, ⟨T120, L120, k120, n120⟩, -, X120, ⟨Lc120, hQ120, l120, y120, z120⟩, st120⟩ := X119.specialBack hx (y := (⟨"java/lang/String", "<init>", "([C)V"⟩ : MethodName)) rfl hown (mvT hZ (ow12 hw)) (mvT hZ (ow13 hw)) (mvT hZ (ow14 hw)) (by decide) (backOf (W := 1) (rmC5 l Z a0 hw [] (b101) (b104) (k104) (cz) ((nar .char c0)) ((nar .char c1)) ((nar .char c2)) ((nar .char c3)) ((nar .char c4)) h119 n0 f125 (f121) (f122) (f123) (V119) (f124) (P2) ((Ne.symm ne_b101_b104)) (ge101) ((by rw [own_narC r_c0]; exact r_c0)) ((by rw [own_narC r_c1]; exact r_c1)) ((by rw [own_narC r_c2]; exact r_c2)) ((by rw [own_narC r_c3]; exact r_c3)) ((by rw [own_narC r_c4]; exact r_c4)) (hcz)) hZ (ow14 hw) (ow11 hw) (by decide) (by decide)) (g := (mkF m 176 #[.val (.int (5 : Int32)), .val (.ref ca)] [(.ref b104), (.ref b101), (.ref b101)])) rfl (by rw [hml]; rfl) (Steps.refl _) (a := b101) (argsL := [(.ref b104)]) (rest := [(.ref b101)]) (lenOf pd___C_V rfl) rfl (by show 2 * 0 + _ ≤ _; exact Nat.le_of_eq rfl) (hb hby d2_176) (fun _ _ => ⟨rfl, e119, (by decide : 2 + 1 ≤ _), (by decide : 9 + 5 ≤ _)⟩)
  dsimp only [Pt.U, Pt.locs, Pt.cells, Pt.slots] at X120 l120 y120 z120 st120 hQ120
  rw [l120, y120, z120] at X120
  obtain ⟨rfl, N120q, K120q, E120, C120, b120, kb120, gb120, gh120, U120, V120⟩ := hQ120
  have N120 := Fr.app N119 N120q
  have f126 := (f117.other W119 ne_ca_b104)
  have ne_ca_b120 : ca ≠ b120 := Nat.ne_of_lt (Nat.lt_of_lt_of_le f126.lt gh120)
  have ne_b101_b120 : b101 ≠ b120 := Nat.ne_of_lt (Nat.lt_of_lt_of_le f121.lt gh120)
  have ne_b104_b120 : b104 ≠ b120 := Nat.ne_of_lt (Nat.lt_of_lt_of_le V119.lt gh120)
  have gk120 : h0.size ≤ b120 := Nat.le_trans K119.1 gh120
  have K120 := Keep.trans K119 K120q (allS (Or.inr gk101) all0)
  refine Rch.go (fun zt zk => st120.trans zk) ?_
  obtain ⟨fs, hr, hrun, hended, hW, hsame⟩ := X120.leave (v := some (.ref b101)) (fun h => by rw [Bd.returns] at h; cases h)
  have hend : Steps p.tables e below (T120.setTop (mkF m 179 #[.val (.int (5 : Int32)), .val (.ref ca)] [(.ref b101)])) (T120.setFrames fs) := by
    jvm_step X120.here [X120.here.top, hx, (hb hby d2_179), X120.method', Bd.returns, Value.isRef, FieldType.isReference]
    first | (intro acts; rw [hr _ acts rfl rfl rfl]) | rw [hr _ _ rfl rfl rfl]
    exact Steps.refl _
  refine Rch.mk (hend) (hPd _ _ _ _ hrun hended rfl ?_ ⟨⟨_, rfl⟩, hW, hsame.mono (by decide) (by decide)⟩)
  show Q_rmMk5 Z ca kc cz c0 c1 c2 c3 c4 h0 n0 _ T120.heap _
  have VZ := V120
  simp only [own_narC r_c0, own_narC r_c1, own_narC r_c2, own_narC r_c3, own_narC r_c4] at VZ
  exact ⟨⟨b101, b120, _, _, rfl, rfl, E120, C120, U120, VZ⟩, N120, K120⟩
theorem ef_rmTs0 (m : MethodId) (a1 : Addr) : entryFrame m #[(.ref a1)] 3 = mkF m 0 #[.val (.ref a1), .unset, .unset] [] := by first | (simp [entryFrame, mkF, argsToLocals, Value.category]; done) | rfl
theorem d6_0 : decode prog_30_method_20_code 0 = .ok (.iconst 0, 1) := by decide +kernel
theorem d6_1 : decode prog_30_method_20_code 1 = .ok (.istore_n 1, 1) := by decide +kernel
theorem d6_2 : decode prog_30_method_20_code 2 = .ok (.aload_n 0, 1) := by decide +kernel
theorem d6_3 : decode prog_30_method_20_code 3 = .ok (.invokevirtual 34, 3) := by decide +kernel
theorem d6_6 : decode prog_30_method_20_code 6 = .ok (.istore_n 2, 1) := by decide +kernel
theorem d6_7 : decode prog_30_method_20_code 7 = .ok (.iload_n 1, 1) := by decide +kernel
theorem d6_8 : decode prog_30_method_20_code 8 = .ok (.iload_n 2, 1) := by decide +kernel
theorem d6_9 : decode prog_30_method_20_code 9 = .ok (.if_icmp .ge 20, 3) := by decide +kernel
theorem d6_29 : decode prog_30_method_20_code 29 = .ok (.iload_n 2, 1) := by decide +kernel
theorem d6_30 : decode prog_30_method_20_code 30 = .ok (.iload_n 1, 1) := by decide +kernel
theorem d6_31 : decode prog_30_method_20_code 31 = .ok (.if_icmp .le 22, 3) := by decide +kernel
theorem d6_53 : decode prog_30_method_20_code 53 = .ok (.aload_n 0, 1) := by decide +kernel
theorem d6_54 : decode prog_30_method_20_code 54 = .ok (.iload_n 1, 1) := by decide +kernel
theorem d6_55 : decode prog_30_method_20_code 55 = .ok (.iload_n 2, 1) := by decide +kernel
theorem d6_56 : decode prog_30_method_20_code 56 = .ok (.invokevirtual 184, 3) := by decide +kernel
theorem pd__II_Ljava_lang_String_ : parseMethodDescriptor "(II)Ljava/lang/String;" = some ⟨[.int, .int], some (.object "java/lang/String")⟩ := by decide +kernel
theorem d6_59 : decode prog_30_method_20_code 59 = .ok (.areturn, 1) := by decide +kernel
def Q_rmTs0 (Z : State) (a1 : Addr) (b0 : Addr) (kb : ClassId) (w2 : Int32) (cz : Int32) (rG : Value) (h0 : Heap) (n0 : Nat) (v : Option Value) (h : Heap) (L : List Loc) : Prop := (∃ (r b : Addr) (kb : ClassId) (w2 m : Int32) (vs : List Value), v = some (.ref r) ∧ w2 = (0 : Int32) ∧ Exa Z h r "java/lang/String" ∧ Fld Z h r "java/lang/String" "coder" "B" (.int w2) ∧ Fld Z h r "java/lang/String" "value" "[B" (.ref b) ∧ Arv Z h b kb .byte m vs (.int (0 : Int32)) ∧ ((m = (0 : Int32) ∧ vs = []))) ∧ Fr n0 L ∧ Keep h0 h []
set_option maxRecDepth 65536 in
set_option maxHeartbeats 40000000 in
theorem rmTs0 (l : Launch) (Z : State) (a0 : Array Value) (hw : ∀ d ∈ tables_1, d.before a0 Z = true) (ws : List Jvm.Cond) (a1 : Addr) (b0 : Addr) (kb : ClassId) (w2 : Int32) (cz : Int32) (rG : Value) (h0 : Heap) (n0 : Nat) (Z0 : n0 ≤ h0.size) (P0 : Old Z n0 h0) (P1 : Sta Z Z.heap "java/lang/String" "COMPACT_STRINGS" "Z" (.int cz)) (P2 : Sta Z Z.heap "jdk/internal/util/Preconditions" "SIOOBE_FORMATTER" "Ljava/util/function/BiFunction;" rG) (P3 : Exa Z h0 a1 "java/lang/String") (P4 : Fld Z h0 a1 "java/lang/String" "coder" "B" (.int w2)) (P5 : Fld Z h0 a1 "java/lang/String" "value" "[B" (.ref b0)) (P6 : Arv Z h0 b0 kb .byte (0 : Int32) [] (.int (0 : Int32))) (hrG : rG.isRef = true) (hcz : ¬ (cz = (0 : Int32))) (hw2 : w2 = (0 : Int32)) :
    MetFree l (⟨"com/example/keepwire/keepwire/ResponseHead", "trimSpaces", "(Ljava/lang/String;)Ljava/lang/String;"⟩ : MethodName) (head1 (Jvm.Cond.code (⟨"com/example/keepwire/keepwire/ResponseHead", "trimSpaces", "(Ljava/lang/String;)Ljava/lang/String;"⟩ : MethodName) prog_30_method_20_code 3 (some (.object "java/lang/String")) :: ws) ({ frames := 3, cells := 0, slots := 0, locals := 45 } : Room)) (fun a U => a = #[(.ref a1)] ∧ Z.Warmed39 U.vm ∧ U.heap = h0) (fun _ _ _ _ _ => True) (fun _ U o U' => ∃ v L, o = .returned v ∧ Q_rmTs0 Z a1 b0 kb w2 cz rG h0 n0 v U'.heap L ∧ FrameEnd U o U' L ({ frames := 3, cells := 0, slots := 0, locals := 45 } : Room).cells ({ frames := 3, cells := 0, slots := 0, locals := 45 } : Room).slots) := by
  refine MetFree.of_bodySF (plainFor_of_name pn_com_example_keepwire_keepwire_ResponseHead) hisR ?_
  intro p e s m args below meth c s₁ Bd hml0 hP hK
  obtain ⟨rfl, hZ, hh⟩ := hP
  have hx := Bd.exec
  have hby := Bd.bytes
  have hml : c.maxLocals = 3 := hml0
  have hown : s.vm.findClass "com/example/keepwire/keepwire/ResponseHead" = some m.cls := findClass_of_methodNamed Bd.named
  have hnm := (name_of_methodNamed Bd.named Bd.method).1
  have X0 : Stand p l e ({ frames := 3, cells := 0, slots := 0, locals := 45 } : Room) s m #[(.ref a1)] below meth c s₁ [] 0 0 := Stand.of_body Bd
  have e0 : s₁.heap = h0 := by rw [← hh, Bd.state]; rfl
  have N0 := Fr.nil n0
  suffices hR : ∀ P : State → Prop, (∀ s₂ o v L, s₂.status = .running → Ended s₂ below o → o = .returned v → Q_rmTs0 Z a1 b0 kb w2 cz rG h0 n0 v s₂.heap L → FrameEnd s o s₂ L ({ frames := 3, cells := 0, slots := 0, locals := 45 } : Room).cells ({ frames := 3, cells := 0, slots := 0, locals := 45 } : Room).slots → P s₂) → Rch p.tables e below P (s₁.setTop (mkF m 0 #[.val (.ref a1), .unset, .unset] [])) by
    obtain ⟨s₂, h1, o, h2⟩ := hR (fun s₂ => ∃ o, s₂.status = .running ∧ Ended s₂ below o ∧ ∃ v L, o = .returned v ∧ Q_rmTs0 Z a1 b0 kb w2 cz rG h0 n0 v s₂.heap L ∧ FrameEnd s o s₂ L ({ frames := 3, cells := 0, slots := 0, locals := 45 } : Room).cells ({ frames := 3, cells := 0, slots := 0, locals := 45 } : Room).slots) (fun s₂ o v L q1 q2 q3 q4 q5 => ⟨o, q1, q2, v, L, q3, q4, q5⟩)
    exact ⟨s₂, o, castTop (ef_rmTs0 m a1) h1, h2⟩
  intro P hPd
  refine Rch.go (fun zt zk => XS.iconst X0.here hx rfl (hb hby d6_0) zk) ?_
  refine Rch.go (fun zt zk => XS.istoreN X0.here hx rfl (hb hby d6_1) rfl (l' := #[.val (.ref a1), .val (.int (0 : Int32)), .unset]) rfl zk) ?_
  refine Rch.go (fun zt zk => XS.aloadN X0.here hx rfl (hb hby d6_2) rfl rfl zk) ?_
  obtain ⟨cq101, kq101, q101a, q101b, q101c⟩ := isOf hZ e0 P3
  obtain ⟨_, _, ⟨T101, L101, k101, n101⟩, -, X101, ⟨Lc101, hQ101, l101, y101, z101⟩, st101⟩ := X0.virtualBack hx (y := (⟨"java/lang/String", "length", "()I"⟩ : MethodName)) (z := (⟨"java/lang/String", "length", "()I"⟩ : MethodName)) hown (mvT hZ (ow34 hw)) (mvT hZ (ow35 hw)) (notFace_of_selects (args := #[]) (mvT hZ (ow37 hw))) (mvT hZ (ow37 hw)) (mvT hZ (ow36 hw)) (by decide) (backOf (W := 0) (rm7 l Z a0 hw [] (a1) (b0) (kb) ((0 : Int32)) ([]) (w2) (cz) h0 n0 Z0 (P0) (P1) (P3) (P4) (P5) (P6) (hcz) (hw2)) hZ (ow38 hw) (ow11 hw) (by decide) (by decide)) q101a q101c (g := (mkF m 3 #[.val (.ref a1), .val (.int (0 : Int32)), .unset] [(.ref a1)])) rfl (by rw [hml]; rfl) (Steps.refl _) (argsL := []) (rest := []) (lenOf pd___I rfl) rfl (by show 2 * 0 + _ ≤ _; exact Nat.le_of_eq rfl) (hb hby d6_3) (fun _ _ => ⟨rfl, e0, (by decide : 0 + 0 ≤ _), (by decide : 0 + 0 ≤ _)⟩)
  dsimp only [Pt.U, Pt.locs, Pt.cells, Pt.slots] at X101 l101 y101 z101 st101 hQ101
  rw [l101, y101, z101] at X101
  obtain ⟨rfl, N101q, eq101⟩ := hQ101
  have N101 := Fr.app N0 N101q
  refine Rch.go (fun zt zk => st101.trans zk) ?_
  show Rch _ _ _ _ (T101.setTop (mkF m 6 #[.val (.ref a1), .val (.int (0 : Int32)), .unset] [(.int (0 : Int32))]))
  refine Rch.go (fun zt zk => XS.istoreN X101.here hx rfl (hb hby d6_6) rfl (l' := #[.val (.ref a1), .val (.int (0 : Int32)), .val (.int (0 : Int32))]) rfl zk) ?_
  refine Rch.go (fun zt zk => XS.iloadN X101.here hx rfl (hb hby d6_7) rfl zk) ?_
  refine Rch.go (fun zt zk => XS.iloadN X101.here hx rfl (hb hby d6_8) rfl zk) ?_
  refine Rch.go (fun zt zk => XS.icmpYes X101.here hx rfl (pc0 := 9) (pc' := 29) rfl (hb hby d6_9) rfl (flt (by decide : ¬ ((0 : Int32) < (0 : Int32)))).2.1 (by decide) (by decide) zk) ?_
  show Rch _ _ _ _ (T101.setTop (mkF m 29 #[.val (.ref a1), .val (.int (0 : Int32)), .val (.int (0 : Int32))] []))
  refine Rch.go (fun zt zk => XS.iloadN X101.here hx rfl (hb hby d6_29) rfl zk) ?_
  refine Rch.go (fun zt zk => XS.iloadN X101.here hx rfl (hb hby d6_30) rfl zk) ?_
  refine Rch.go (fun zt zk => XS.icmpYes X101.here hx rfl (pc0 := 31) (pc' := 53) rfl (hb hby d6_31) rfl (flt (by decide : ¬ ((0 : Int32) < (0 : Int32)))).2.2.2 (by decide) (by decide) zk) ?_
  refine Rch.go (fun zt zk => XS.aloadN X101.here hx rfl (hb hby d6_53) rfl rfl zk) ?_
  show Rch _ _ _ _ (T101.setTop (mkF m 54 #[.val (.ref a1), .val (.int (0 : Int32)), .val (.int (0 : Int32))] [(.ref a1)]))
  refine Rch.go (fun zt zk => XS.iloadN X101.here hx rfl (hb hby d6_54) rfl zk) ?_
  refine Rch.go (fun zt zk => XS.iloadN X101.here hx rfl (hb hby d6_55) rfl zk) ?_
  obtain ⟨cq102, kq102, q102a, q102b, q102c⟩ := isOf hZ eq101 P3
  obtain ⟨_, _, ⟨T102, L102, k102, n102⟩, -, X102, ⟨Lc102, hQ102, l102, y102, z102⟩, st102⟩ := X101.virtualBack hx (y := (⟨"java/lang/String", "substring", "(II)Ljava/lang/String;"⟩ : MethodName)) (z := (⟨"java/lang/String", "substring", "(II)Ljava/lang/String;"⟩ : MethodName)) hown (mvT hZ (ow45 hw)) (mvT hZ (ow46 hw)) (notFace_of_selects (args := #[]) (mvT hZ (ow48 hw))) (mvT hZ (ow48 hw)) (mvT hZ (ow47 hw)) (by decide) (backOf (W := 0) (rmSubT l Z a0 hw [] (a1) ((0 : Int32)) ((0 : Int32)) (b0) (kb) ((0 : Int32)) ([]) (w2) (cz) (rG) h0 n0 Z0 (P0) (P1) (P2) (P3) (P4) (P5) (P6) (⟨by decide, by decide, by decide, by decide⟩) (hrG) (hcz) (hw2) (⟨rfl, rfl⟩)) hZ (ow49 hw) (ow11 hw) (by decide) (by decide)) q102a q102c (g := (mkF m 56 #[.val (.ref a1), .val (.int (0 : Int32)), .val (.int (0 : Int32))] [(.int (0 : Int32)), (.int (0 : Int32)), (.ref a1)])) rfl (by rw [hml]; rfl) (Steps.refl _) (argsL := [(.int (0 : Int32)), (.int (0 : Int32))]) (rest := []) (lenOf pd__II_Ljava_lang_String_ rfl) rfl (by show 2 * 0 + _ ≤ _; exact Nat.le_of_eq rfl) (hb hby d6_56) (fun _ _ => ⟨rfl, eq101, (by decide : 0 + 0 ≤ _), (by decide : 0 + 0 ≤ _)⟩)
  dsimp only [Pt.U, Pt.locs, Pt.cells, Pt.slots] at X102 l102 y102 z102 st102 hQ102
  rw [l102, y102, z102] at X102
  obtain ⟨rfl, N102q, eq102⟩ := hQ102
  have N102 := Fr.app N101 N102q
  refine Rch.go (fun zt zk => st102.trans zk) ?_
  obtain ⟨fs, hr, hrun, hended, hW, hsame⟩ := X102.leave (v := some (.ref a1)) (fun h => by rw [Bd.returns] at h; cases h)
  have hend : Steps p.tables e below (T102.setTop (mkF m 59 #[.val (.ref a1), .val (.int (0 : Int32)), .val (.int (0 : Int32))] [(.ref a1)])) (T102.setFrames fs) := by
    jvm_step X102.here [X102.here.top, hx, (hb hby d6_59), X102.method', Bd.returns, Value.isRef, FieldType.isReference]
    first | (intro acts; rw [hr _ acts rfl rfl rfl]) | rw [hr _ _ rfl rfl rfl]
    exact Steps.refl _
  refine Rch.mk (hend) (hPd _ _ _ _ hrun hended rfl ?_ ⟨⟨_, rfl⟩, hW, hsame.mono (by decide) (by decide)⟩)
  show Q_rmTs0 Z a1 b0 kb w2 cz rG h0 n0 _ T102.heap _
  rw [eq102]
  exact ⟨⟨a1, b0, _, _, _, _, rfl, hw2, P3, P4, P5, P6, ⟨by decide, rfl⟩⟩, N102, (Keep.refl h0 [])⟩
theorem own_backS {p : Program} {l : Launch} {e : Env} {R : Room} {s : State} {args : Array Value} {below : List Frame} {Z : State} {a0 : Array Value} {h : Heap} {y : MethodName} {bytes : ByteArray} {maxL : Nat} {ret : Option FieldType} {rm : Room} {len W : Nat} {as' : Array Value} {Q : Option Value → Heap → List Loc → Prop}
    (hM : MetFree l y (head1 [Cond.code y bytes maxL ret] rm) (fun a U => a = as' ∧ Z.Warmed39 U.vm ∧ U.heap = h ∧ U.vm.interned = Z.vm.interned) (fun _ _ _ _ _ => True) (fun _ U o U' => ∃ v L, o = .returned v ∧ Q v U'.heap L ∧ ReturnedEndW U o U' L rm.cells rm.slots))
    (hZ : Z.Warmed39 s.vm) (wc : (Cond.code y bytes maxL ret).before a0 Z = true) (wz : (Cond.initialized y.cls).before a0 Z = true) (hf : rm.frames + 1 ≤ R.frames) (hl : W + (maxL + 11) + rm.locals ≤ R.locals) :
    BackS l R p e below s args y len W (fun A a => a = as' ∧ A.U.heap = h ∧ A.cells + rm.cells ≤ R.cells ∧ A.slots + rm.slots ≤ R.slots ∧ A.U.vm.interned = Z.vm.interned)
      (fun A _ v B => ∃ L, Q v B.U.heap L ∧ B.locs = A.locs ++ L ∧ B.cells = A.cells + rm.cells ∧ B.slots = A.slots + rm.slots) :=
  BackS.of_freeW (bytes := bytes) (maxL := maxL) (ret := ret) (E := fun _ _ o t L k n => k = rm.cells ∧ n = rm.slots ∧ ∃ v, o = .returned v ∧ Q v t.heap L) hM hf hl
    (fun m meth c A a Y hp => have hU : Z.Warmed39 A.U.vm := wtrans hZ Y.warmed
      ⟨by show (Cond.and _ .tt).before a A.U = true; rw [Cond.before_and, mv hU wc]; rfl, mv hU wc, mv hU wz, hp.2.2.1, hp.2.2.2.1⟩)
    (fun m meth c A a g mk Y hp => ⟨hp.1, wtrans hZ Y.warmed, hp.2.1, hp.2.2.2.2⟩) (fun _ _ _ _ _ _ _ _ _ => trivial)
    (fun _ _ _ _ ⟨v, L, h1, h2, h3⟩ => ⟨L, _, _, h3, rfl, rfl, v, h1, h2⟩)
    (fun m meth c A a g mk v t L k n Y hp _ _ ⟨e1, e2, v', e3, e4⟩ => by cases e3; subst e1 e2; exact ⟨L, e4, rfl, rfl, rfl⟩)
theorem own_wS {a0 : Array Value} {Z : State} (hw : ∀ d ∈ tables_1, d.before a0 Z = true) : ∀ a ∈ Bundle.stringAtoms, a.before a0 Z = true := fun a ha => by
  simp only [Bundle.stringAtoms, List.mem_cons, List.not_mem_nil, or_false] at ha
  rcases ha with rfl | rfl | rfl | rfl | rfl | rfl | rfl
  · exact (ow11 hw)
  · exact (ow10 hw)
  · exact (ow23 hw)
  · exact (ow24 hw)
  · exact (ow25 hw)
  · exact (ow26 hw)
  · exact (ow27 hw)
theorem own_IB {Z s : State} (hI : s.vm.interned = Z.vm.interned) : IB Z s.vm [] := ⟨#[], by rw [hI]; simp, fun q hq => by simp at hq⟩
theorem ef_rmNs0 (m : MethodId) (b0 : Addr) (p1 : Int32) : entryFrame m #[(.ref b0), (.int p1), (.int (0 : Int32))] 3 = mkF m 0 #[.val (.ref b0), .val (.int p1), .val (.int (0 : Int32))] [] := by first | (simp [entryFrame, mkF, argsToLocals, Value.category]; done) | rfl
theorem d22_4 : decode jdk_43_method_47_code 4 = .ok (.ldc 151, 2) := by decide +kernel
theorem d22_6 : decode jdk_43_method_47_code 6 = .ok (.areturn, 1) := by decide +kernel
def Q_rmNs0 (Z : State) (b0 : Addr) (p1 : Int32) (h0 : Heap) (n0 : Nat) (v : Option Value) (h : Heap) (L : List Loc) : Prop := (∃ (r b : Addr) (kb : ClassId) (w2 : Int32), v = some (.ref r) ∧ w2 = (0 : Int32) ∧ Exa Z h r "java/lang/String" ∧ Fld Z h r "java/lang/String" "coder" "B" (.int w2) ∧ Fld Z h r "java/lang/String" "value" "[B" (.ref b) ∧ Arv Z h b kb .byte (0 : Int32) [] (.int (0 : Int32))) ∧ Fr n0 L ∧ Keep h0 h []
set_option maxRecDepth 65536 in
set_option maxHeartbeats 40000000 in
theorem rmNs0 (l : Launch) (Z : State) (a0 : Array Value) (hw : ∀ d ∈ tables_1, d.before a0 Z = true) (ws : List Jvm.Cond) (b0 : Addr) (p1 : Int32) (h0 : Heap) (n0 : Nat) (Z0 : n0 ≤ h0.size) (P0 : Old Z n0 h0) (hlit : Jvm.Lit.constHeld Z "java/lang/StringLatin1" 151) (hcw : Jvm.Lit.compactW.before a0 Z = true) :
    MetFree l (⟨"java/lang/StringLatin1", "newString", "([BII)Ljava/lang/String;"⟩ : MethodName) (head1 (Jvm.Cond.code (⟨"java/lang/StringLatin1", "newString", "([BII)Ljava/lang/String;"⟩ : MethodName) jdk_43_method_47_code 3 (some (.object "java/lang/String")) :: ws) ({ frames := 0, cells := 2, slots := 4, locals := 0 } : Room)) (fun a U => a = #[(.ref b0), (.int p1), (.int (0 : Int32))] ∧ Z.Warmed39 U.vm ∧ U.heap = h0 ∧ U.vm.interned = Z.vm.interned) (fun _ _ _ _ _ => True) (fun _ U o U' => ∃ v L, o = .returned v ∧ Q_rmNs0 Z b0 p1 h0 n0 v U'.heap L ∧ ReturnedEndW U o U' L ({ frames := 0, cells := 2, slots := 4, locals := 0 } : Room).cells ({ frames := 0, cells := 2, slots := 4, locals := 0 } : Room).slots) := by
  refine MetFree.of_bodySF (plainFor_of_name pn_java_lang_StringLatin1) hisR ?_
  intro p e s m args below meth c s₁ Bd hml0 hP hK
  obtain ⟨rfl, hZ, hh, hI⟩ := hP
  have hx := Bd.exec
  have hby := Bd.bytes
  have hml : c.maxLocals = 3 := hml0
  have hown : s.vm.findClass "java/lang/StringLatin1" = some m.cls := findClass_of_methodNamed Bd.named
  have hnm := (name_of_methodNamed Bd.named Bd.method).1
  have X0 : Stand p l e ({ frames := 0, cells := 2, slots := 4, locals := 0 } : Room) s m #[(.ref b0), (.int p1), (.int (0 : Int32))] below meth c s₁ [] 0 0 := Stand.of_body Bd
  have e0 : s₁.heap = h0 := by rw [← hh, Bd.state]; rfl
  have N0 := Fr.nil n0
  suffices hR : ∀ P : State → Prop, (∀ s₂ o v L, s₂.status = .running → Ended s₂ below o → o = .returned v → Q_rmNs0 Z b0 p1 h0 n0 v s₂.heap L → ReturnedEndW s o s₂ L ({ frames := 0, cells := 2, slots := 4, locals := 0 } : Room).cells ({ frames := 0, cells := 2, slots := 4, locals := 0 } : Room).slots → P s₂) → Rch p.tables e below P (s₁.setTop (mkF m 0 #[.val (.ref b0), .val (.int p1), .val (.int (0 : Int32))] [])) by
    obtain ⟨s₂, h1, o, h2⟩ := hR (fun s₂ => ∃ o, s₂.status = .running ∧ Ended s₂ below o ∧ ∃ v L, o = .returned v ∧ Q_rmNs0 Z b0 p1 h0 n0 v s₂.heap L ∧ ReturnedEndW s o s₂ L ({ frames := 0, cells := 2, slots := 4, locals := 0 } : Room).cells ({ frames := 0, cells := 2, slots := 4, locals := 0 } : Room).slots) (fun s₂ o v L q1 q2 q3 q4 q5 => ⟨o, q1, q2, v, L, q3, q4, q5⟩)
    exact ⟨s₂, o, castTop (ef_rmNs0 m b0 p1) h1, h2⟩
  intro P hPd
  refine Rch.go (fun zt zk => XS.iloadN X0.here hx rfl (hb hby d22_0) rfl zk) ?_
  refine Rch.go (fun zt zk => XS.ifNo X0.here hx rfl (hb hby d22_1) rfl ((if0 _ _).trans (teq (rfl : (0 : Int32) = (0 : Int32))).2) zk) ?_
  obtain ⟨a101, T101, h101, q101, b101, kb101, X101, e101, E101, hS101, hk101, hZ, hown, EX101, FC101, FV101, VV101, -, -, -, LT101, st101⟩ := ldcSVL (s := s) (vm0 := s.vm) (Ts := []) (text := "") X0 hx hZ hown (ow125 hw) (own_wS hw) e0 ((State.WarmedH.refl s).since 0) (Nat.zero_le _) (Fr.nil _) (fun b cl q => by rw [hh]; exact P0.2.2 b cl q) (own_IB hI) (by simp) hlit hcw (vs := []) (z := (0 : Int32)) ⟨by decide, by decide⟩ (by decide) (by decide) (g := (mkF m 4 #[.val (.ref b0), .val (.int p1), .val (.int (0 : Int32))] [])) rfl (hb hby d22_4) (n := 0) (by decide) (by decide) (by decide) (by decide)
  have K101 := (Keep.refl h0 []).ext E101
  refine Rch.go st101 ?_
  obtain ⟨fs, hr, hrun, hended, qw1, qw2, qw3, hsame⟩ := Stand.leaveW (s := s) (vm₁ := T101.vm) X101 hS101 (by rw [e101]; exact hk101) (v := some (.ref a101)) (fun h => by rw [Bd.returns] at h; cases h)
  have hend : Steps p.tables e below (T101.setTop (mkF m 6 #[.val (.ref b0), .val (.int p1), .val (.int (0 : Int32))] [(.ref a101)])) (T101.setFrames fs) := by
    jvm_step X101.here [X101.here.top, hx, (hb hby d22_6), X101.method', Bd.returns, Value.isRef, FieldType.isReference]
    first | (intro acts; rw [hr _ acts rfl rfl rfl]) | rw [hr _ _ rfl rfl rfl]
    exact Steps.refl _
  refine Rch.mk (hend) (hPd _ _ _ _ hrun hended rfl ?_ ⟨⟨_, rfl⟩, qw2, qw3, hsame.mono (by decide) (by decide)⟩)
  show Q_rmNs0 Z b0 p1 h0 n0 _ T101.heap _
  rw [e101]
  exact ⟨⟨a101, b101, _, _, rfl, rfl, EX101, FC101, FV101, VV101⟩, N0, K101⟩
theorem ef_rmSubC (m : MethodId) (a1 : Addr) (p1 : Int32) (p2 : Int32) : entryFrame m #[(.ref a1), (.int p1), (.int p2)] 5 = mkF m 0 #[.val (.ref a1), .val (.int p1), .val (.int p2), .unset, .unset] [] := by first | (simp [entryFrame, mkF, argsToLocals, Value.category]; done) | rfl
def Q_rmSubC (Z : State) (a1 : Addr) (p1 : Int32) (p2 : Int32) (b0 : Addr) (kb : ClassId) (zz : Int32) (vs : List Value) (w2 : Int32) (cz : Int32) (rG : Value) (h0 : Heap) (n0 : Nat) (v : Option Value) (h : Heap) (L : List Loc) : Prop := (∃ (r b : Addr) (kb : ClassId) (w2 : Int32), v = some (.ref r) ∧ w2 = (0 : Int32) ∧ Exa Z h r "java/lang/String" ∧ Fld Z h r "java/lang/String" "coder" "B" (.int w2) ∧ Fld Z h r "java/lang/String" "value" "[B" (.ref b) ∧ Arv Z h b kb .byte (0 : Int32) [] (.int (0 : Int32))) ∧ Fr n0 L ∧ Keep h0 h []
set_option maxRecDepth 65536 in
set_option maxHeartbeats 40000000 in
theorem rmSubC (l : Launch) (Z : State) (a0 : Array Value) (hw : ∀ d ∈ tables_1, d.before a0 Z = true) (ws : List Jvm.Cond) (a1 : Addr) (p1 : Int32) (p2 : Int32) (b0 : Addr) (kb : ClassId) (zz : Int32) (vs : List Value) (w2 : Int32) (cz : Int32) (rG : Value) (h0 : Heap) (n0 : Nat) (Z0 : n0 ≤ h0.size) (P0 : Old Z n0 h0) (P1 : Sta Z Z.heap "java/lang/String" "COMPACT_STRINGS" "Z" (.int cz)) (P2 : Sta Z Z.heap "jdk/internal/util/Preconditions" "SIOOBE_FORMATTER" "Ljava/util/function/BiFunction;" rG) (P3 : Exa Z h0 a1 "java/lang/String") (P4 : Fld Z h0 a1 "java/lang/String" "coder" "B" (.int w2)) (P5 : Fld Z h0 a1 "java/lang/String" "value" "[B" (.ref b0)) (P6 : Arv Z h0 b0 kb .byte zz vs (.int (0 : Int32))) (hs : 0 ≤ p1.toInt ∧ p1.toInt ≤ p2.toInt ∧ p2.toInt ≤ zz.toInt ∧ zz.toInt ≤ 8) (hrG : rG.isRef = true) (hcz : ¬ (cz = (0 : Int32))) (hw2 : w2 = (0 : Int32)) (hcold : ¬ (p1 = (0 : Int32)) ∧ p1 = p2) (hlit : Jvm.Lit.constHeld Z "java/lang/StringLatin1" 151) (hcw : Jvm.Lit.compactW.before a0 Z = true) :
    MetFree l (⟨"java/lang/String", "substring", "(II)Ljava/lang/String;"⟩ : MethodName) (head1 (Jvm.Cond.code (⟨"java/lang/String", "substring", "(II)Ljava/lang/String;"⟩ : MethodName) jdk_42_method_92_code 5 (some (.object "java/lang/String")) :: ws) ({ frames := 2, cells := 2, slots := 4, locals := 29 } : Room)) (fun a U => a = #[(.ref a1), (.int p1), (.int p2)] ∧ Z.Warmed39 U.vm ∧ U.heap = h0 ∧ U.vm.interned = Z.vm.interned) (fun _ _ _ _ _ => True) (fun _ U o U' => ∃ v L, o = .returned v ∧ Q_rmSubC Z a1 p1 p2 b0 kb zz vs w2 cz rG h0 n0 v U'.heap L ∧ ReturnedEndW U o U' L ({ frames := 2, cells := 2, slots := 4, locals := 29 } : Room).cells ({ frames := 2, cells := 2, slots := 4, locals := 29 } : Room).slots) := by
  refine MetFree.of_bodySF (plainFor_of_name pn_java_lang_String) hisR ?_
  intro p e s m args below meth c s₁ Bd hml0 hP hK
  obtain ⟨rfl, hZ, hh, hI⟩ := hP
  have hx := Bd.exec
  have hby := Bd.bytes
  have hml : c.maxLocals = 5 := hml0
  have hown : s.vm.findClass "java/lang/String" = some m.cls := findClass_of_methodNamed Bd.named
  have hnm := (name_of_methodNamed Bd.named Bd.method).1
  have X0 : Stand p l e ({ frames := 2, cells := 2, slots := 4, locals := 29 } : Room) s m #[(.ref a1), (.int p1), (.int p2)] below meth c s₁ [] 0 0 := Stand.of_body Bd
  have e0 : s₁.heap = h0 := by rw [← hh, Bd.state]; rfl
  have N0 := Fr.nil n0
  suffices hR : ∀ P : State → Prop, (∀ s₂ o v L, s₂.status = .running → Ended s₂ below o → o = .returned v → Q_rmSubC Z a1 p1 p2 b0 kb zz vs w2 cz rG h0 n0 v s₂.heap L → ReturnedEndW s o s₂ L ({ frames := 2, cells := 2, slots := 4, locals := 29 } : Room).cells ({ frames := 2, cells := 2, slots := 4, locals := 29 } : Room).slots → P s₂) → Rch p.tables e below P (s₁.setTop (mkF m 0 #[.val (.ref a1), .val (.int p1), .val (.int p2), .unset, .unset] [])) by
    obtain ⟨s₂, h1, o, h2⟩ := hR (fun s₂ => ∃ o, s₂.status = .running ∧ Ended s₂ below o ∧ ∃ v L, o = .returned v ∧ Q_rmSubC Z a1 p1 p2 b0 kb zz vs w2 cz rG h0 n0 v s₂.heap L ∧ ReturnedEndW s o s₂ L ({ frames := 2, cells := 2, slots := 4, locals := 29 } : Room).cells ({ frames := 2, cells := 2, slots := 4, locals := 29 } : Room).slots) (fun s₂ o v L q1 q2 q3 q4 q5 => ⟨o, q1, q2, v, L, q3, q4, q5⟩)
    exact ⟨s₂, o, castTop (ef_rmSubC m a1 p1 p2) h1, h2⟩
  intro P hPd
  refine Rch.go (fun zt zk => XS.aloadN X0.here hx rfl (hb hby d9_0) rfl rfl zk) ?_
  obtain ⟨cq101, kq101, q101a, q101b, q101c⟩ := isOf hZ e0 P3
  obtain ⟨_, _, ⟨T101, L101, k101, n101⟩, -, X101, ⟨Lc101, hQ101, l101, y101, z101⟩, st101⟩ := X0.virtualBack hx (y := (⟨"java/lang/String", "length", "()I"⟩ : MethodName)) (z := (⟨"java/lang/String", "length", "()I"⟩ : MethodName)) hown (mvT hZ (ow50 hw)) (mvT hZ (ow35 hw)) (notFace_of_selects (args := #[]) (mvT hZ (ow37 hw))) (mvT hZ (ow37 hw)) (mvT hZ (ow36 hw)) (by decide) (backOf (W := 0) (rm7 l Z a0 hw [] (a1) (b0) (kb) (zz) (vs) (w2) (cz) h0 n0 Z0 (P0) (P1) (P3) (P4) (P5) (P6) (hcz) (hw2)) hZ (ow38 hw) (ow11 hw) (by decide) (by decide)) q101a q101c (g := (mkF m 1 #[.val (.ref a1), .val (.int p1), .val (.int p2), .unset, .unset] [(.ref a1)])) rfl (by rw [hml]; rfl) (Steps.refl _) (argsL := []) (rest := []) (lenOf pd___I rfl) rfl (by show 2 * 0 + _ ≤ _; exact Nat.le_of_eq rfl) (hb hby d9_1) (fun _ _ => ⟨rfl, e0, (by decide : 0 + 0 ≤ _), (by decide : 0 + 0 ≤ _)⟩)
  dsimp only [Pt.U, Pt.locs, Pt.cells, Pt.slots] at X101 l101 y101 z101 st101 hQ101
  rw [l101, y101, z101] at X101
  obtain ⟨rfl, N101q, eq101⟩ := hQ101
  have N101 := Fr.app N0 N101q
  refine Rch.go (fun zt zk => st101.trans zk) ?_
  refine Rch.go (fun zt zk => XS.istoreN X101.here hx rfl (hb hby d9_4) rfl (l' := #[.val (.ref a1), .val (.int p1), .val (.int p2), .val (.int zz), .unset]) rfl zk) ?_
  refine Rch.go (fun zt zk => XS.iloadN X101.here hx rfl (hb hby d9_5) rfl zk) ?_
  show Rch _ _ _ _ (T101.setTop (mkF m 6 #[.val (.ref a1), .val (.int p1), .val (.int p2), .val (.int zz), .unset] [(.int p1)]))
  refine Rch.go (fun zt zk => XS.iloadN X101.here hx rfl (hb hby d9_6) rfl zk) ?_
  refine Rch.go (fun zt zk => XS.iloadN X101.here hx rfl (hb hby d9_7) rfl zk) ?_
  obtain ⟨_, _, ⟨T102, L102, k102, n102⟩, -, X102, ⟨Lc102, hQ102, l102, y102, z102⟩, st102⟩ := Jvm.LawKit.callS X101 hx (y := (⟨"java/lang/String", "checkBoundsBeginEnd", "(III)V"⟩ : MethodName)) hown (mvT hZ (ow51 hw)) (mvT hZ (ow52 hw)) (mvT hZ (ow11 hw)) (mvT hZ (ow53 hw)) (by decide) (backOf (W := 0) (rm10 l Z a0 hw [] (p1) (p2) (zz) (rG) h0 n0 Z0 (P0) (P2) (⟨hs.1, hs.2.1, hs.2.2.1⟩) (hrG)) hZ (ow53 hw) (ow11 hw) (by decide) (by decide)) (g := (mkF m 8 #[.val (.ref a1), .val (.int p1), .val (.int p2), .val (.int zz), .unset] [(.int zz), (.int p2), (.int p1)])) rfl (by rw [hml]; rfl) (argsL := [(.int p1), (.int p2), (.int zz)]) (rest := []) (lenOf pd__III_V rfl) rfl (by show 2 * 0 + _ ≤ _; exact Nat.le_of_eq rfl) (hb hby d9_8) (fun _ _ => ⟨rfl, eq101, (by decide : 0 + 0 ≤ _), (by decide : 0 + 0 ≤ _)⟩)
  dsimp only [Pt.U, Pt.locs, Pt.cells, Pt.slots] at X102 l102 y102 z102 st102 hQ102
  rw [l102, y102, z102] at X102
  obtain ⟨rfl, N102q, eq102⟩ := hQ102
  have N102 := Fr.app N101 N102q
  refine Rch.go st102 ?_
  refine Rch.go (fun zt zk => XS.iloadN X102.here hx rfl (hb hby d9_11) rfl zk) ?_
  show Rch _ _ _ _ (T102.setTop (mkF m 12 #[.val (.ref a1), .val (.int p1), .val (.int p2), .val (.int zz), .unset] [(.int p1)]))
  refine Rch.go (fun zt zk => XS.ifYes X102.here hx rfl (pc0 := 12) (pc' := 22) rfl (hb hby d9_12) rfl ((if0 _ _).trans (feq (hcold.1 : ¬ (p1 = (0 : Int32)))).2) (by decide) (by decide) zk) ?_
  refine Rch.go (fun zt zk => XS.iloadN X102.here hx rfl (hb hby d9_22) rfl zk) ?_
  refine Rch.go (fun zt zk => XS.iloadN X102.here hx rfl (hb hby d9_23) rfl zk) ?_
  refine Rch.go (fun zt zk => XS.isub X102.here hx rfl (hb hby d9_24) rfl zk) ?_
  show Rch _ _ _ _ (T102.setTop (mkF m 25 #[.val (.ref a1), .val (.int p1), .val (.int p2), .val (.int zz), .unset] [(.int (p2 - p1))]))
  refine Rch.go (fun zt zk => XS.istore X102.here hx rfl (hb hby d9_25) rfl (l' := #[.val (.ref a1), .val (.int p1), .val (.int p2), .val (.int zz), .val (.int (p2 - p1))]) rfl zk) ?_
  refine Rch.go (fun zt zk => XS.aloadN X102.here hx rfl (hb hby d9_27) rfl rfl zk) ?_
  obtain ⟨cq103, kq103, q103a, q103b, q103c⟩ := isOf hZ eq102 P3
  obtain ⟨_, _, ⟨T103, L103, k103, n103⟩, -, X103, ⟨Lc103, hQ103, l103, y103, z103⟩, st103⟩ := X102.virtualBack hx (y := (⟨"java/lang/String", "isLatin1", "()Z"⟩ : MethodName)) (z := (⟨"java/lang/String", "isLatin1", "()Z"⟩ : MethodName)) hown (mvT hZ (ow78 hw)) (mvT hZ (ow79 hw)) (notFace_of_selects (args := #[]) (mvT hZ (ow81 hw))) (mvT hZ (ow81 hw)) (mvT hZ (ow80 hw)) (by decide) (backOf (W := 0) (rm17 l Z a0 hw [] (a1) (w2) (cz) h0 n0 Z0 (P0) (P1) (P4) (hcz) (hw2)) hZ (ow82 hw) (ow11 hw) (by decide) (by decide)) q103a q103c (g := (mkF m 28 #[.val (.ref a1), .val (.int p1), .val (.int p2), .val (.int zz), .val (.int (p2 - p1))] [(.ref a1)])) rfl (by rw [hml]; rfl) (Steps.refl _) (argsL := []) (rest := []) (lenOf pd___Z rfl) rfl (by show 2 * 0 + _ ≤ _; exact Nat.le_of_eq rfl) (hb hby d9_28) (fun _ _ => ⟨rfl, eq102, (by decide : 0 + 0 ≤ _), (by decide : 0 + 0 ≤ _)⟩)
  dsimp only [Pt.U, Pt.locs, Pt.cells, Pt.slots] at X103 l103 y103 z103 st103 hQ103
  rw [l103, y103, z103] at X103
  obtain ⟨rfl, N103q, eq103⟩ := hQ103
  have N103 := Fr.app N102 N103q
  refine Rch.go (fun zt zk => st103.trans zk) ?_
  refine Rch.go (fun zt zk => XS.ifNo X103.here hx rfl (hb hby d9_31) rfl ((if0 _ _).trans (feq (by decide : ¬ ((1 : Int32) = (0 : Int32)))).1) zk) ?_
  show Rch _ _ _ _ (T103.setTop (mkF m 34 #[.val (.ref a1), .val (.int p1), .val (.int p2), .val (.int zz), .val (.int (p2 - p1))] []))
  refine Rch.go (fun zt zk => XS.aloadN X103.here hx rfl (hb hby d9_34) rfl rfl zk) ?_
  obtain ⟨T104, X104, e104, st104⟩ := getF X103 hx hZ hown (host := "") (Or.inl (ow28 hw)) Via.refl eq103 P5 (g := (mkF m 35 #[.val (.ref a1), .val (.int p1), .val (.int p2), .val (.int zz), .val (.int (p2 - p1))] [(.ref a1)])) rfl rfl (hb hby d9_35)
  refine Rch.go st104 ?_
  refine Rch.go (fun zt zk => XS.iloadN X104.here hx rfl (hb hby d9_38) rfl zk) ?_
  refine Rch.go (fun zt zk => XS.iload X104.here hx rfl (hb hby d9_39) rfl zk) ?_
  show Rch _ _ _ _ (T104.setTop (mkF m 41 #[.val (.ref a1), .val (.int p1), .val (.int p2), .val (.int zz), .val (.int (p2 - p1))] [(.int (p2 - p1)), (.int p1), (.ref b0)]))
  have hz0 : (p2 - p1) = (0 : Int32) := by rw [hcold.2]; exact Int32.sub_self _
  simp only [hz0]
  obtain ⟨_, _, ⟨T105, L105, k105, n105⟩, -, X105, hS105, hgr105, ⟨Lc105, hQ105, l105, y105, z105⟩, st105⟩ := callSS X104 hx (y := (⟨"java/lang/StringLatin1", "newString", "([BII)Ljava/lang/String;"⟩ : MethodName)) hown (mvT hZ (ow96 hw)) (mvT hZ (ow97 hw)) (mvT hZ (ow85 hw)) (mvT hZ (ow98 hw)) (by decide) (own_backS (W := 0) (rmNs0 l Z a0 hw [] (b0) (p1) h0 n0 Z0 (P0) (hlit) (hcw)) hZ (ow98 hw) (ow85 hw) (by decide) (by decide)) (g := (mkF m 41 #[.val (.ref a1), .val (.int p1), .val (.int p2), .val (.int zz), .val (.int (0 : Int32))] [(.int (0 : Int32)), (.int p1), (.ref b0)])) rfl (by rw [hml]; rfl) (argsL := [(.ref b0), (.int p1), (.int (0 : Int32))]) (rest := []) (lenOf pd___BII_Ljava_lang_String_ rfl) rfl (by show 2 * 0 + _ ≤ _; exact Nat.le_of_eq rfl) (hb hby d9_41) (fun vmq hWq => ⟨rfl, e104, (by decide : 0 + 2 ≤ _), (by decide : 0 + 4 ≤ _), (State.WarmedH.interned_eq hWq).trans hI⟩)
  dsimp only [Pt.U, Pt.locs, Pt.cells, Pt.slots] at X105 l105 y105 z105 st105 hQ105 hS105 hgr105
  rw [l105, y105, z105] at X105
  have hZ : Z.Warmed39 (s.setVm T105.vm).vm := State.Warmed39.trans (t := s) hZ hS105.1
  have hown : (s.setVm T105.vm).vm.findClass "java/lang/String" = some m.cls := (hS105.1.alike.findClass _ _).trans hown
  obtain ⟨⟨r105, b105, kb105, w105, rfl, hw105, E105, C105, U105, V105⟩, N105q, K105q⟩ := hQ105
  have N105 := Fr.app N103 N105q
  have K105 := Keep.trans (Keep.refl h0 []) K105q all0
  have ZS105 : T105.heap.size ≤ T105.heap.size := Nat.le_refl _
  refine Rch.go (fun zt zk => st105.trans zk) ?_
  refine Rch.go (fun zt zk => XS.goto X105.here hx rfl (pc0 := 44) (pc' := 57) rfl (hb hby d9_44) (by decide) (by decide) zk) ?_
  obtain ⟨fs, hr, hrun, hended, qw1, qw2, qw3, hsame⟩ := Stand.leaveW (s := s) (vm₁ := T105.vm) X105 hS105 ZS105 (v := some (.ref r105)) (fun h => by rw [Bd.returns] at h; cases h)
  have hend : Steps p.tables e below (T105.setTop (mkF m 57 #[.val (.ref a1), .val (.int p1), .val (.int p2), .val (.int zz), .val (.int (0 : Int32))] [(.ref r105)])) (T105.setFrames fs) := by
    jvm_step X105.here [X105.here.top, hx, (hb hby d9_57), X105.method', Bd.returns, Value.isRef, FieldType.isReference]
    first | (intro acts; rw [hr _ acts rfl rfl rfl]) | rw [hr _ _ rfl rfl rfl]
    exact Steps.refl _
  refine Rch.mk (hend) (hPd _ _ _ _ hrun hended rfl ?_ ⟨⟨_, rfl⟩, qw2, qw3, hsame.mono (by decide) (by decide)⟩)
  show Q_rmSubC Z a1 p1 p2 b0 kb zz vs w2 cz rG h0 n0 _ T105.heap _
  exact ⟨⟨r105, b105, _, _, rfl, hw105, E105, C105, U105, V105⟩, N105, K105⟩
theorem ef_rmCi0 (m : MethodId) (a1 : Addr) (ca : Addr) : entryFrame m #[(.ref a1), (.ref ca), (.int (0 : Int32)), (.int (0 : Int32)), .null] 6 = mkF m 0 #[.val (.ref a1), .val (.ref ca), .val (.int (0 : Int32)), .val (.int (0 : Int32)), .val .null, .unset] [] := by first | (simp [entryFrame, mkF, argsToLocals, Value.category]; done) | rfl
theorem d4_8 : decode jdk_42_method_149_code 8 = .ok (.aload_n 0, 1) := by decide +kernel
theorem d4_9 : decode jdk_42_method_149_code 9 = .ok (.ldc 7, 2) := by decide +kernel
theorem d4_11 : decode jdk_42_method_149_code 11 = .ok (.getfield 9, 3) := by decide +kernel
theorem d4_14 : decode jdk_42_method_149_code 14 = .ok (.putfield 9, 3) := by decide +kernel
theorem d4_17 : decode jdk_42_method_149_code 17 = .ok (.aload_n 0, 1) := by decide +kernel
theorem d4_18 : decode jdk_42_method_149_code 18 = .ok (.ldc 7, 2) := by decide +kernel
theorem d4_20 : decode jdk_42_method_149_code 20 = .ok (.getfield 15, 3) := by decide +kernel
theorem d4_23 : decode jdk_42_method_149_code 23 = .ok (.putfield 15, 3) := by decide +kernel
theorem d4_26 : decode jdk_42_method_149_code 26 = .ok (.return_, 1) := by decide +kernel
def Q_rmCi0 (Z : State) (a1 : Addr) (ca : Addr) (h0 : Heap) (n0 : Nat) (v : Option Value) (h : Heap) (L : List Loc) : Prop := v = none ∧ Fr n0 L ∧ Keep h0 h [a1] ∧ Exa Z h a1 "java/lang/String" ∧ Fld Z h a1 "java/lang/String" "coder" "B" (.int (nar .byte (0 : Int32))) ∧ ∃ (b : Addr) (kb : ClassId), Fld Z h a1 "java/lang/String" "value" "[B" (.ref b) ∧ Arv Z h b kb .byte (0 : Int32) [] (.int (0 : Int32))
set_option maxRecDepth 65536 in
set_option maxHeartbeats 40000000 in
theorem rmCi0 (l : Launch) (Z : State) (a0 : Array Value) (hw : ∀ d ∈ tables_1, d.before a0 Z = true) (ws : List Jvm.Cond) (a1 : Addr) (ca : Addr) (h0 : Heap) (n0 : Nat) (Z0 : n0 ≤ h0.size) (P0 : Exa Z h0 a1 "java/lang/String") (P1 : Fld Z h0 a1 "java/lang/String" "value" "[B" .null) (P2 : Fld Z h0 a1 "java/lang/String" "coder" "B" (.int (0 : Int32))) (P3 : Old Z n0 h0) (Pg_a1 : n0 ≤ a1) (hlit : Jvm.Lit.constHeld Z "java/lang/String" 7) (hcw : Jvm.Lit.compactW.before a0 Z = true) :
    MetFree l (⟨"java/lang/String", "<init>", "([CIILjava/lang/Void;)V"⟩ : MethodName) (head1 (Jvm.Cond.code (⟨"java/lang/String", "<init>", "([CIILjava/lang/Void;)V"⟩ : MethodName) jdk_42_method_149_code 6 none :: ws) ({ frames := 1, cells := 2, slots := 4, locals := 12 } : Room)) (fun a U => a = #[(.ref a1), (.ref ca), (.int (0 : Int32)), (.int (0 : Int32)), .null] ∧ Z.Warmed39 U.vm ∧ U.heap = h0 ∧ U.vm.interned = Z.vm.interned) (fun _ _ _ _ _ => True) (fun _ U o U' => ∃ v L, o = .returned v ∧ Q_rmCi0 Z a1 ca h0 n0 v U'.heap L ∧ ReturnedEndW U o U' L ({ frames := 1, cells := 2, slots := 4, locals := 12 } : Room).cells ({ frames := 1, cells := 2, slots := 4, locals := 12 } : Room).slots) := by
  refine MetFree.of_bodySF (plainFor_of_name pn_java_lang_String) hisR ?_
  intro p e s m args below meth c s₁ Bd hml0 hP hK
  obtain ⟨rfl, hZ, hh, hI⟩ := hP
  have hx := Bd.exec
  have hby := Bd.bytes
  have hml : c.maxLocals = 6 := hml0
  have hown : s.vm.findClass "java/lang/String" = some m.cls := findClass_of_methodNamed Bd.named
  have hnm := (name_of_methodNamed Bd.named Bd.method).1
  have X0 : Stand p l e ({ frames := 1, cells := 2, slots := 4, locals := 12 } : Room) s m #[(.ref a1), (.ref ca), (.int (0 : Int32)), (.int (0 : Int32)), .null] below meth c s₁ [] 0 0 := Stand.of_body Bd
  have e0 : s₁.heap = h0 := by rw [← hh, Bd.state]; rfl
  have N0 := Fr.nil n0
  suffices hR : ∀ P : State → Prop, (∀ s₂ o v L, s₂.status = .running → Ended s₂ below o → o = .returned v → Q_rmCi0 Z a1 ca h0 n0 v s₂.heap L → ReturnedEndW s o s₂ L ({ frames := 1, cells := 2, slots := 4, locals := 12 } : Room).cells ({ frames := 1, cells := 2, slots := 4, locals := 12 } : Room).slots → P s₂) → Rch p.tables e below P (s₁.setTop (mkF m 0 #[.val (.ref a1), .val (.ref ca), .val (.int (0 : Int32)), .val (.int (0 : Int32)), .val .null, .unset] [])) by
    obtain ⟨s₂, h1, o, h2⟩ := hR (fun s₂ => ∃ o, s₂.status = .running ∧ Ended s₂ below o ∧ ∃ v L, o = .returned v ∧ Q_rmCi0 Z a1 ca h0 n0 v s₂.heap L ∧ ReturnedEndW s o s₂ L ({ frames := 1, cells := 2, slots := 4, locals := 12 } : Room).cells ({ frames := 1, cells := 2, slots := 4, locals := 12 } : Room).slots) (fun s₂ o v L q1 q2 q3 q4 q5 => ⟨o, q1, q2, v, L, q3, q4, q5⟩)
    exact ⟨s₂, o, castTop (ef_rmCi0 m a1 ca) h1, h2⟩
  intro P hPd
  refine Rch.go (fun zt zk => XS.aloadN X0.here hx rfl (hb hby d4_0) rfl rfl zk) ?_
  obtain ⟨T101, X101, e101, st101⟩ := initO X0 hx hZ hown (ow19 hw) (ow20 hw) (ow21 hw) e0 (g := (mkF m 1 #[.val (.ref a1), .val (.ref ca), .val (.int (0 : Int32)), .val (.int (0 : Int32)), .val .null, .unset] [(.ref a1)])) rfl (by rw [hml]; rfl) rfl (hb hby d4_1) (by decide) (W := 0) (by show 2 * 0 + _ ≤ _; exact Nat.le_of_eq rfl) (by decide)
  refine Rch.go st101 ?_
  refine Rch.go (fun zt zk => XS.iloadN X101.here hx rfl (hb hby d4_4) rfl zk) ?_
  refine Rch.go (fun zt zk => XS.ifNo X101.here hx rfl (hb hby d4_5) rfl ((if0 _ _).trans (teq (by decide : (0 : Int32) = (0 : Int32))).2) zk) ?_
  show Rch _ _ _ _ (T101.setTop (mkF m 8 #[.val (.ref a1), .val (.ref ca), .val (.int (0 : Int32)), .val (.int (0 : Int32)), .val .null, .unset] []))
  refine Rch.go (fun zt zk => XS.aloadN X101.here hx rfl (hb hby d4_8) rfl rfl zk) ?_
  obtain ⟨a102, T102, h102, q102, b102, kb102, X102, e102, E102, hS102, hk102, hZ, hown, EX102, FC102, FV102, VV102, -, -, -, LT102, st102⟩ := ldcSVL (s := s) (vm0 := s.vm) (Ts := []) (text := "") X101 hx hZ hown (ow22 hw) (own_wS hw) e101 ((State.WarmedH.refl s).since 0) (Nat.zero_le _) (Fr.nil _) (fun b cl q => by rw [hh]; exact P3.2.2 b cl q) (own_IB hI) (by simp) hlit hcw (vs := []) (z := (0 : Int32)) ⟨by decide, by decide⟩ (by decide) (by decide) (g := (mkF m 9 #[.val (.ref a1), .val (.ref ca), .val (.int (0 : Int32)), .val (.int (0 : Int32)), .val .null, .unset] [(.ref a1)])) rfl (hb hby d4_9) (n := 0) (by decide) (by decide) (by decide) (by decide)
  have K102 := (Keep.refl h0 [a1]).ext E102
  refine Rch.go st102 ?_
  have f103 := (P1.ext E102)
  have ne_lit : a102 ≠ a1 := Fld.ne FV102 f103 (by intro q; cases q)
  have f104 := (P0.ext E102)
  have ne_lb : a1 ≠ b102 := Exa.neArv f104 VV102 (ow10 hw)
  obtain ⟨T105, X105, e105, st105⟩ := getF X102 hx hZ hown (host := "") (Or.inl (ow28 hw)) Via.refl e102 FV102 (g := (mkF m 11 #[.val (.ref a1), .val (.ref ca), .val (.int (0 : Int32)), .val (.int (0 : Int32)), .val .null, .unset] [(.ref a102), (.ref a1)])) rfl rfl (hb hby d4_11)
  refine Rch.go st105 ?_
  show Rch _ _ _ _ (T105.setTop (mkF m 14 #[.val (.ref a1), .val (.ref ca), .val (.int (0 : Int32)), .val (.int (0 : Int32)), .val .null, .unset] [(.ref b102), (.ref a1)]))
  obtain ⟨T106, h106, X106, e106, W106, st106⟩ := putF X105 hx hZ hown (host := "") (Or.inl (ow28 hw)) Via.refl e105 f103 f104 (Or.inr ⟨(ow24 hw), rfl, hnm⟩) (ow10 hw) (ty := (.array .byte)) (by decide) rfl rfl (g := (mkF m 14 #[.val (.ref a1), .val (.ref ca), .val (.int (0 : Int32)), .val (.int (0 : Int32)), .val .null, .unset] [(.ref b102), (.ref a1)])) rfl rfl (hb hby d4_14)
  refine Rch.go st106 ?_
  have Fw106 := f103.same W106
  have N106 := Fr.snoc X106 N0 Pg_a1
  have K106 : Keep h0 h106 [a1] := Keep.wr K102 W106 (Or.inl (List.mem_of_getElem? (i := 0) rfl))
  refine Rch.go (fun zt zk => XS.aloadN X106.here hx rfl (hb hby d4_17) rfl rfl zk) ?_
  refine Rch.go (ldcAgain (s := s) (vm0 := T102.vm) X106 hx hZ hown (ow22 hw) LT102 (g := (mkF m 18 #[.val (.ref a1), .val (.ref ca), .val (.int (0 : Int32)), .val (.int (0 : Int32)), .val .null, .unset] [(.ref a1)])) rfl (hb hby d4_18)) ?_
  have f107 := (FC102.other W106 (Or.inl ne_lit))
  obtain ⟨T108, X108, e108, st108⟩ := getF X106 hx hZ hown (host := "") (Or.inl (ow29 hw)) Via.refl e106 f107 (g := (mkF m 20 #[.val (.ref a1), .val (.ref ca), .val (.int (0 : Int32)), .val (.int (0 : Int32)), .val .null, .unset] [(.ref a102), (.ref a1)])) rfl rfl (hb hby d4_20)
  refine Rch.go st108 ?_
  show Rch _ _ _ _ (T108.setTop (mkF m 23 #[.val (.ref a1), .val (.ref ca), .val (.int (0 : Int32)), .val (.int (0 : Int32)), .val .null, .unset] [(.int (0 : Int32)), (.ref a1)]))
  have f109 := (f104.wr W106)
  have f110 := ((P2.ext E102).other W106 (Or.inr (slot_ne (Or.inr (ow25 hw)) (Or.inr (ow24 hw)) (by decide) (t := .byte) (t' := (.array .byte)) (by decide) (by decide))))
  obtain ⟨T111, h111, X111, e111, W111, st111⟩ := putFN X108 hx hZ hown (ow29 hw) Via.refl e108 f110 f109 (Or.inr ⟨(ow25 hw), rfl, hnm⟩) (ow10 hw) (ty := .byte) (v' := (.int (nar .byte (0 : Int32)))) (by decide) rfl (fits_nar_byte _) (g := (mkF m 23 #[.val (.ref a1), .val (.ref ca), .val (.int (0 : Int32)), .val (.int (0 : Int32)), .val .null, .unset] [(.int (0 : Int32)), (.ref a1)])) rfl rfl (hb hby d4_23)
  refine Rch.go st111 ?_
  have Fw111 := f110.same W111
  have N111 := Fr.snoc X111 N106 Pg_a1
  have K111 : Keep h0 h111 [a1] := Keep.wr K106 W111 (Or.inl (List.mem_of_getElem? (i := 0) rfl))
  have f112 := (Nat.le_trans (Nat.le_trans hk102 (Keep.of_wr W106).1) (Keep.of_wr W111).1)
  obtain ⟨fs, hr, hrun, hended, qw1, qw2, qw3, hsame⟩ := Stand.leaveW (s := s) (vm₁ := T102.vm) X111 hS102 (by rw [e111]; exact f112) (v := none) (fun _ => rfl)
  refine Rch.mk (X111.returnOut hx Bd.returns (hb hby d4_26) hr) (hPd _ _ _ _ hrun hended rfl ?_ ⟨⟨_, rfl⟩, qw2, qw3, hsame.mono (by decide) (by decide)⟩)
  show Q_rmCi0 Z a1 ca h0 n0 _ T111.heap _
  rw [e111]
  have f113 := (f109.wr W111)
  have f114 := (Fw106.other W111 (Or.inr (slot_ne (Or.inr (ow24 hw)) (Or.inr (ow25 hw)) (by decide) (t := (.array .byte)) (t' := .byte) (by decide) (by decide))))
  have f115 := ((VV102.other W106 (Ne.symm ne_lb)).other W111 (Ne.symm ne_lb))
  exact ⟨rfl, N111, K111, f113, Fw111, b102, _, f114, f115⟩
theorem ef_rmC0 (m : MethodId) (a1 : Addr) (ca : Addr) : entryFrame m #[(.ref a1), (.ref ca)] 2 = mkF m 0 #[.val (.ref a1), .val (.ref ca)] [] := by first | (simp [entryFrame, mkF, argsToLocals, Value.category]; done) | rfl
def Q_rmC0 (Z : State) (a1 : Addr) (ca : Addr) (kc : ClassId) (h0 : Heap) (n0 : Nat) (v : Option Value) (h : Heap) (L : List Loc) : Prop := v = none ∧ Fr n0 L ∧ Keep h0 h [a1] ∧ Exa Z h a1 "java/lang/String" ∧ Fld Z h a1 "java/lang/String" "coder" "B" (.int (nar .byte (0 : Int32))) ∧ ∃ (b : Addr) (kb : ClassId), Fld Z h a1 "java/lang/String" "value" "[B" (.ref b) ∧ Arv Z h b kb .byte (0 : Int32) [] (.int (0 : Int32))
set_option maxRecDepth 65536 in
set_option maxHeartbeats 40000000 in
theorem rmC0 (l : Launch) (Z : State) (a0 : Array Value) (hw : ∀ d ∈ tables_1, d.before a0 Z = true) (ws : List Jvm.Cond) (a1 : Addr) (ca : Addr) (kc : ClassId) (h0 : Heap) (n0 : Nat) (Z0 : n0 ≤ h0.size) (P0 : Exa Z h0 a1 "java/lang/String") (P1 : Fld Z h0 a1 "java/lang/String" "value" "[B" .null) (P2 : Fld Z h0 a1 "java/lang/String" "coder" "B" (.int (0 : Int32))) (P3 : Old Z n0 h0) (P4 : Arv Z h0 ca kc .char (0 : Int32) [] (.int (0 : Int32))) (Pg_a1 : n0 ≤ a1) (hlit : Jvm.Lit.constHeld Z "java/lang/String" 7) (hcw : Jvm.Lit.compactW.before a0 Z = true) :
    MetFree l (⟨"java/lang/String", "<init>", "([C)V"⟩ : MethodName) (head1 (Jvm.Cond.code (⟨"java/lang/String", "<init>", "([C)V"⟩ : MethodName) jdk_42_method_3_code 2 none :: ws) ({ frames := 2, cells := 2, slots := 4, locals := 29 } : Room)) (fun a U => a = #[(.ref a1), (.ref ca)] ∧ Z.Warmed39 U.vm ∧ U.heap = h0 ∧ U.vm.interned = Z.vm.interned) (fun _ _ _ _ _ => True) (fun _ U o U' => ∃ v L, o = .returned v ∧ Q_rmC0 Z a1 ca kc h0 n0 v U'.heap L ∧ ReturnedEndW U o U' L ({ frames := 2, cells := 2, slots := 4, locals := 29 } : Room).cells ({ frames := 2, cells := 2, slots := 4, locals := 29 } : Room).slots) := by
  refine MetFree.of_bodySF (plainFor_of_name pn_java_lang_String) hisR ?_
  intro p e s m args below meth c s₁ Bd hml0 hP hK
  obtain ⟨rfl, hZ, hh, hI⟩ := hP
  have hx := Bd.exec
  have hby := Bd.bytes
  have hml : c.maxLocals = 2 := hml0
  have hown : s.vm.findClass "java/lang/String" = some m.cls := findClass_of_methodNamed Bd.named
  have hnm := (name_of_methodNamed Bd.named Bd.method).1
  have X0 : Stand p l e ({ frames := 2, cells := 2, slots := 4, locals := 29 } : Room) s m #[(.ref a1), (.ref ca)] below meth c s₁ [] 0 0 := Stand.of_body Bd
  have e0 : s₁.heap = h0 := by rw [← hh, Bd.state]; rfl
  have N0 := Fr.nil n0
  suffices hR : ∀ P : State → Prop, (∀ s₂ o v L, s₂.status = .running → Ended s₂ below o → o = .returned v → Q_rmC0 Z a1 ca kc h0 n0 v s₂.heap L → ReturnedEndW s o s₂ L ({ frames := 2, cells := 2, slots := 4, locals := 29 } : Room).cells ({ frames := 2, cells := 2, slots := 4, locals := 29 } : Room).slots → P s₂) → Rch p.tables e below P (s₁.setTop (mkF m 0 #[.val (.ref a1), .val (.ref ca)] [])) by
    obtain ⟨s₂, h1, o, h2⟩ := hR (fun s₂ => ∃ o, s₂.status = .running ∧ Ended s₂ below o ∧ ∃ v L, o = .returned v ∧ Q_rmC0 Z a1 ca kc h0 n0 v s₂.heap L ∧ ReturnedEndW s o s₂ L ({ frames := 2, cells := 2, slots := 4, locals := 29 } : Room).cells ({ frames := 2, cells := 2, slots := 4, locals := 29 } : Room).slots) (fun s₂ o v L q1 q2 q3 q4 q5 => ⟨o, q1, q2, v, L, q3, q4, q5⟩)
    exact ⟨s₂, o, castTop (ef_rmC0 m a1 ca) h1, h2⟩
  intro P hPd
  refine Rch.go (fun zt zk => XS.aloadN X0.here hx rfl (hb hby d3_0) rfl rfl zk) ?_
  refine Rch.go (fun zt zk => XS.aloadN X0.here hx rfl (hb hby d3_1) rfl rfl zk) ?_
  refine Rch.go (fun zt zk => XS.iconst X0.here hx rfl (hb hby d3_2) zk) ?_
  refine Rch.go (fun zt zk => XS.aloadN X0.here hx rfl (hb hby d3_3) rfl rfl zk) ?_
  show Rch _ _ _ _ (s₁.setTop (mkF m 4 #[.val (.ref a1), .val (.ref ca)] [(.ref ca), (.int (0 : Int32)), (.ref ca), (.ref a1)]))
  obtain ⟨cl101, Ar101, q101, S101, M101, H101, G101⟩ := id P4
  refine Rch.go (X0.arraylength hx (by rw [e0]; exact Ar101.1) (State.isArrayOf_alike hZ.alike Ar101.2.1) (g := (mkF m 4 #[.val (.ref a1), .val (.ref ca)] [(.ref ca), (.int (0 : Int32)), (.ref ca), (.ref a1)])) rfl rfl (hb hby d3_4)) ?_
  rw [len_of S101 M101]
  refine Rch.go (fun zt zk => XS.aconstNull X0.here hx rfl (hb hby d3_5) zk) ?_
  obtain ⟨_, _, ⟨T102, L102, k102, n102⟩, -, X102, hS102, hgr102, ⟨Lc102, hQ102, l102, y102, z102⟩, st102⟩ := X0.specialBackS hx (y := (⟨"java/lang/String", "<init>", "([CIILjava/lang/Void;)V"⟩ : MethodName)) rfl hown (mvT hZ (ow15 hw)) (mvT hZ (ow16 hw)) (mvT hZ (ow18 hw)) (by decide) (own_backS (W := 0) (rmCi0 l Z a0 hw [] (a1) (ca) h0 n0 Z0 (P0) (P1) (P2) (P3) (Pg_a1) (hlit) (hcw)) hZ (ow18 hw) (ow11 hw) (by decide) (by decide)) (g := (mkF m 6 #[.val (.ref a1), .val (.ref ca)] [.null, (.int (0 : Int32)), (.int (0 : Int32)), (.ref ca), (.ref a1)])) rfl (by rw [hml]; rfl) (Steps.refl _) (a := a1) (argsL := [(.ref ca), (.int (0 : Int32)), (.int (0 : Int32)), .null]) (rest := []) (lenOf pd___CIILjava_lang_Void__V rfl) rfl (by show 2 * 0 + _ ≤ _; exact Nat.le_of_eq rfl) (hb hby d3_6) (fun vmq hWq => ⟨rfl, e0, (by decide : 0 + 2 ≤ _), (by decide : 0 + 4 ≤ _), (State.WarmedH.interned_eq hWq).trans hI⟩)
  dsimp only [Pt.U, Pt.locs, Pt.cells, Pt.slots] at X102 l102 y102 z102 st102 hQ102 hS102 hgr102
  rw [l102, y102, z102] at X102
  have hZ : Z.Warmed39 (s.setVm T102.vm).vm := State.Warmed39.trans (t := s) hZ hS102.1
  have hown : (s.setVm T102.vm).vm.findClass "java/lang/String" = some m.cls := (hS102.1.alike.findClass _ _).trans hown
  obtain ⟨rfl, N102q, K102q, E102, C102, b102, kb102, U102, V102⟩ := hQ102
  have N102 := Fr.app N0 N102q
  have K102 := Keep.trans (Keep.refl h0 [a1]) K102q (allS (Or.inl (List.mem_of_getElem? (i := 0) rfl)) all0)
  have ZS102 : T102.heap.size ≤ T102.heap.size := Nat.le_refl _
  refine Rch.go (fun zt zk => st102.trans zk) ?_
  obtain ⟨fs, hr, hrun, hended, qw1, qw2, qw3, hsame⟩ := Stand.leaveW (s := s) (vm₁ := T102.vm) X102 hS102 ZS102 (v := none) (fun _ => rfl)
  refine Rch.mk (X102.returnOut hx Bd.returns (hb hby d3_9) hr) (hPd _ _ _ _ hrun hended rfl ?_ ⟨⟨_, rfl⟩, qw2, qw3, hsame.mono (by decide) (by decide)⟩)
  show Q_rmC0 Z a1 ca kc h0 n0 _ T102.heap _
  exact ⟨rfl, N102, K102, E102, C102, b102, _, U102, V102⟩
theorem ef_rmMk0 (m : MethodId) (ca : Addr) : entryFrame m #[(.int (0 : Int32)), (.ref ca)] 2 = mkF m 0 #[.val (.int (0 : Int32)), .val (.ref ca)] [] := by first | (simp [entryFrame, mkF, argsToLocals, Value.category]; done) | rfl
theorem d2_4 : decode method_6_code 4 = .ok (.new 29, 3) := by decide +kernel
theorem d2_7 : decode method_6_code 7 = .ok (.dup, 1) := by decide +kernel
theorem d2_8 : decode method_6_code 8 = .ok (.iconst 0, 1) := by decide +kernel
theorem d2_9 : decode method_6_code 9 = .ok (.newarray .char, 2) := by decide +kernel
theorem d2_11 : decode method_6_code 11 = .ok (.invokespecial 41, 3) := by decide +kernel
theorem d2_14 : decode method_6_code 14 = .ok (.areturn, 1) := by decide +kernel
def Q_rmMk0 (Z : State) (ca : Addr) (h0 : Heap) (n0 : Nat) (v : Option Value) (h : Heap) (L : List Loc) : Prop := (∃ (r b : Addr) (kb : ClassId) (w2 : Int32), v = some (.ref r) ∧ w2 = (0 : Int32) ∧ Exa Z h r "java/lang/String" ∧ Fld Z h r "java/lang/String" "coder" "B" (.int w2) ∧ Fld Z h r "java/lang/String" "value" "[B" (.ref b) ∧ Arv Z h b kb .byte (0 : Int32) [] (.int (0 : Int32))) ∧ Fr n0 L ∧ Keep h0 h []
set_option maxRecDepth 65536 in
set_option maxHeartbeats 40000000 in
theorem rmMk0 (l : Launch) (Z : State) (a0 : Array Value) (hw : ∀ d ∈ tables_1, d.before a0 Z = true) (ws : List Jvm.Cond) (ca : Addr) (h0 : Heap) (n0 : Nat) (Z0 : n0 ≤ h0.size) (P0 : Old Z n0 h0) (hlit : Jvm.Lit.constHeld Z "java/lang/String" 7) (hcw : Jvm.Lit.compactW.before a0 Z = true) :
    MetFree l (⟨"com/example/keepwire/keepwire/ResponseHeadTrimSpacesPinLaw", "make", "(I[C)Ljava/lang/String;"⟩ : MethodName) (head1 (Jvm.Cond.code (⟨"com/example/keepwire/keepwire/ResponseHeadTrimSpacesPinLaw", "make", "(I[C)Ljava/lang/String;"⟩ : MethodName) method_6_code 2 (some (.object "java/lang/String")) :: ws) ({ frames := 3, cells := 4, slots := 8, locals := 43 } : Room)) (fun a U => a = #[(.int (0 : Int32)), (.ref ca)] ∧ Z.Warmed39 U.vm ∧ U.heap = h0 ∧ U.vm.interned = Z.vm.interned) (fun _ _ _ _ _ => True) (fun _ U o U' => ∃ v L, o = .returned v ∧ Q_rmMk0 Z ca h0 n0 v U'.heap L ∧ ReturnedEndW U o U' L ({ frames := 3, cells := 4, slots := 8, locals := 43 } : Room).cells ({ frames := 3, cells := 4, slots := 8, locals := 43 } : Room).slots) := by
  refine MetFree.of_bodySF (plainFor_of_name pn_com_example_keepwire_keepwire_ResponseHeadTrimSpacesPinLaw) hisR ?_
  intro p e s m args below meth c s₁ Bd hml0 hP hK
  obtain ⟨rfl, hZ, hh, hI⟩ := hP
  have hx := Bd.exec
  have hby := Bd.bytes
  have hml : c.maxLocals = 2 := hml0
  have hown : s.vm.findClass "com/example/keepwire/keepwire/ResponseHeadTrimSpacesPinLaw" = some m.cls := findClass_of_methodNamed Bd.named
  have hnm := (name_of_methodNamed Bd.named Bd.method).1
  have X0 : Stand p l e ({ frames := 3, cells := 4, slots := 8, locals := 43 } : Room) s m #[(.int (0 : Int32)), (.ref ca)] below meth c s₁ [] 0 0 := Stand.of_body Bd
  have e0 : s₁.heap = h0 := by rw [← hh, Bd.state]; rfl
  have N0 := Fr.nil n0
  suffices hR : ∀ P : State → Prop, (∀ s₂ o v L, s₂.status = .running → Ended s₂ below o → o = .returned v → Q_rmMk0 Z ca h0 n0 v s₂.heap L → ReturnedEndW s o s₂ L ({ frames := 3, cells := 4, slots := 8, locals := 43 } : Room).cells ({ frames := 3, cells := 4, slots := 8, locals := 43 } : Room).slots → P s₂) → Rch p.tables e below P (s₁.setTop (mkF m 0 #[.val (.int (0 : Int32)), .val (.ref ca)] [])) by
    obtain ⟨s₂, h1, o, h2⟩ := hR (fun s₂ => ∃ o, s₂.status = .running ∧ Ended s₂ below o ∧ ∃ v L, o = .returned v ∧ Q_rmMk0 Z ca h0 n0 v s₂.heap L ∧ ReturnedEndW s o s₂ L ({ frames := 3, cells := 4, slots := 8, locals := 43 } : Room).cells ({ frames := 3, cells := 4, slots := 8, locals := 43 } : Room).slots) (fun s₂ o v L q1 q2 q3 q4 q5 => ⟨o, q1, q2, v, L, q3, q4, q5⟩)
    exact ⟨s₂, o, castTop (ef_rmMk0 m ca) h1, h2⟩
  intro P hPd
  refine Rch.go (fun zt zk => XS.iloadN X0.here hx rfl (hb hby d2_0) rfl zk) ?_
  refine Rch.go (fun zt zk => XS.ifNo X0.here hx rfl (hb hby d2_1) rfl ((if0 _ _).trans (teq (by decide : (0 : Int32) = (0 : Int32))).2) zk) ?_
  obtain ⟨T101, h101, X101, e101, E101, A101, D101, -, st101⟩ := newO X0 hx hZ hown (ow9 hw) (ow10 hw) (ow11 hw) e0 (g := (mkF m 4 #[.val (.int (0 : Int32)), .val (.ref ca)] [])) rfl (hb hby d2_4) (by decide) (by decide)
  obtain ⟨b101, g101⟩ : ∃ z, z = h0.size := ⟨_, rfl⟩
  rw [← g101] at A101 D101 st101
  refine Rch.go st101 ?_
  have ge101 : n0 ≤ b101 := by rw [g101]; exact Z0
  have gk101 : h0.size ≤ b101 := by rw [g101]; exact (Keep.refl h0 []).1
  have K101 := (Keep.refl h0 []).ext E101
  have F101_value : Fld Z h101 b101 "java/lang/String" "value" "[B" .null := D101 (Or.inr (ow24 hw)) (ty := (.array .byte)) (by decide)
  have F101_coder : Fld Z h101 b101 "java/lang/String" "coder" "B" (.int (0 : Int32)) := D101 (Or.inr (ow25 hw)) (ty := .byte) (by decide)
  refine Rch.go (fun zt zk => XS.dup X101.here hx rfl (hb hby d2_7) rfl rfl zk) ?_
  show Rch _ _ _ _ (T101.setTop (mkF m 8 #[.val (.int (0 : Int32)), .val (.ref ca)] [(.ref b101), (.ref b101)]))
  refine Rch.go (fun zt zk => XS.iconst X101.here hx rfl (hb hby d2_8) zk) ?_
  have f102 := (Nat.le_trans Z0 E101.1)
  obtain ⟨T103, h103, k103, X103, e103, E103, A103, st103⟩ := newP X101 hx hZ (aty := .char) (ow1 hw) e101 (g := (mkF m 9 #[.val (.int (0 : Int32)), .val (.ref ca)] [(.int (0 : Int32)), (.ref b101), (.ref b101)])) rfl (hb hby d2_9) rfl (by decide) (cap := 0) (by decide) (by decide) (by decide) (by decide)
  obtain ⟨b103, g103⟩ : ∃ z, z = h101.size := ⟨_, rfl⟩
  rw [← g103] at A103 st103
  refine Rch.go st103 ?_
  have ne_b101_b103 : b101 ≠ b103 := by have q := A101.lt; rw [g103]; exact Nat.ne_of_lt q
  have ge103 : n0 ≤ b103 := by rw [g103]; exact f102
  have gk103 : h0.size ≤ b103 := by rw [g103]; exact K101.1
  have K103 := K101.ext E103
  have V103 : Arv Z h103 b103 k103 .char (0 : Int32) [] (.int (0 : Int32)) := Arv.new A103 (by decide)
  have f105 := (A101.ext E103)
  have f106 := (F101_value.ext E103)
  have f107 := (F101_coder.ext E103)
  have f108 := ((P0.ext E101).ext E103)
  have f109 := (Nat.le_trans f102 E103.1)
  obtain ⟨_, _, ⟨T104, L104, k104, n104⟩, -, X104, hS104, hgr104, ⟨Lc104, hQ104, l104, y104, z104⟩, st104⟩ := X103.specialBackS hx (y := (⟨"java/lang/String", "<init>", "([C)V"⟩ : MethodName)) rfl hown (mvT hZ (ow12 hw)) (mvT hZ (ow13 hw)) (mvT hZ (ow14 hw)) (by decide) (own_backS (W := 1) (rmC0 l Z a0 hw [] (b101) (b103) (k103) h103 n0 f109 (f105) (f106) (f107) (f108) (V103) (ge101) (hlit) (hcw)) hZ (ow14 hw) (ow11 hw) (by decide) (by decide)) (g := (mkF m 11 #[.val (.int (0 : Int32)), .val (.ref ca)] [(.ref b103), (.ref b101), (.ref b101)])) rfl (by rw [hml]; rfl) (Steps.refl _) (a := b101) (argsL := [(.ref b103)]) (rest := [(.ref b101)]) (lenOf pd___C_V rfl) rfl (by show 2 * 0 + _ ≤ _; exact Nat.le_of_eq rfl) (hb hby d2_11) (fun vmq hWq => ⟨rfl, e103, (by decide : 2 + 2 ≤ _), (by decide : 4 + 4 ≤ _), (State.WarmedH.interned_eq hWq).trans hI⟩)
  dsimp only [Pt.U, Pt.locs, Pt.cells, Pt.slots] at X104 l104 y104 z104 st104 hQ104 hS104 hgr104
  rw [l104, y104, z104] at X104
  have hZ : Z.Warmed39 (s.setVm T104.vm).vm := State.Warmed39.trans (t := s) hZ hS104.1
  have hown : (s.setVm T104.vm).vm.findClass "com/example/keepwire/keepwire/ResponseHeadTrimSpacesPinLaw" = some m.cls := (hS104.1.alike.findClass _ _).trans hown
  obtain ⟨rfl, N104q, K104q, E104, C104, b104, kb104, U104, V104⟩ := hQ104
  have N104 := Fr.app N0 N104q
  have K104 := Keep.trans K103 K104q (allS (Or.inr gk101) all0)
  have ZS104 : T104.heap.size ≤ T104.heap.size := Nat.le_refl _
  refine Rch.go (fun zt zk => st104.trans zk) ?_
  obtain ⟨fs, hr, hrun, hended, qw1, qw2, qw3, hsame⟩ := Stand.leaveW (s := s) (vm₁ := T104.vm) X104 hS104 ZS104 (v := some (.ref b101)) (fun h => by rw [Bd.returns] at h; cases h)
  have hend : Steps p.tables e below (T104.setTop (mkF m 14 #[.val (.int (0 : Int32)), .val (.ref ca)] [(.ref b101)])) (T104.setFrames fs) := by
    jvm_step X104.here [X104.here.top, hx, (hb hby d2_14), X104.method', Bd.returns, Value.isRef, FieldType.isReference]
    first | (intro acts; rw [hr _ acts rfl rfl rfl]) | rw [hr _ _ rfl rfl rfl]
    exact Steps.refl _
  refine Rch.mk (hend) (hPd _ _ _ _ hrun hended rfl ?_ ⟨⟨_, rfl⟩, qw2, qw3, hsame.mono (by decide) (by decide)⟩)
  show Q_rmMk0 Z ca h0 n0 _ T104.heap _
  exact ⟨⟨b101, b104, _, _, rfl, rfl, E104, C104, U104, V104⟩, N104, K104⟩
theorem ef_rmAtG (m : MethodId) (a1 : Addr) (ca : Addr) (p1 : Int32) (p2 : Int32) (k1 : Int32) : entryFrame m #[(.ref a1), (.ref ca), (.int p1), (.int p2), (.int k1)] 5 = mkF m 0 #[.val (.ref a1), .val (.ref ca), .val (.int p1), .val (.int p2), .val (.int k1)] [] := by first | (simp [entryFrame, mkF, argsToLocals, Value.category]; done) | rfl
theorem d12_0 : decode method_3_code 0 = .ok (.iload 4, 2) := by decide +kernel
theorem d12_2 : decode method_3_code 2 = .ok (.iload_n 3, 1) := by decide +kernel
theorem d12_3 : decode method_3_code 3 = .ok (.if_icmp .ge 18, 3) := by decide +kernel
theorem d12_21 : decode method_3_code 21 = .ok (.iconst 1, 1) := by decide +kernel
theorem d12_22 : decode method_3_code 22 = .ok (.goto 4, 3) := by decide +kernel
theorem d12_26 : decode method_3_code 26 = .ok (.ireturn, 1) := by decide +kernel
def Q_rmAtG (Z : State) (a1 : Addr) (ca : Addr) (p1 : Int32) (p2 : Int32) (k1 : Int32) (h0 : Heap) (n0 : Nat) (v : Option Value) (h : Heap) (L : List Loc) : Prop := v = some (.int (1 : Int32)) ∧ Fr n0 L ∧ h = h0
set_option maxRecDepth 65536 in
set_option maxHeartbeats 40000000 in
theorem rmAtG (l : Launch) (Z : State) (a0 : Array Value) (hw : ∀ d ∈ tables_1, d.before a0 Z = true) (ws : List Jvm.Cond) (a1 : Addr) (ca : Addr) (p1 : Int32) (p2 : Int32) (k1 : Int32) (h0 : Heap) (n0 : Nat) (Z0 : n0 ≤ h0.size) (hge : ¬ (k1 < p2)) :
    MetFree l (⟨"com/example/keepwire/keepwire/ResponseHeadTrimSpacesPinLaw", "at", "(Ljava/lang/String;[CIII)Z"⟩ : MethodName) (head1 (Jvm.Cond.code (⟨"com/example/keepwire/keepwire/ResponseHeadTrimSpacesPinLaw", "at", "(Ljava/lang/String;[CIII)Z"⟩ : MethodName) method_3_code 5 (some .boolean) :: ws) ({ frames := 0, cells := 0, slots := 0, locals := 0 } : Room)) (fun a U => a = #[(.ref a1), (.ref ca), (.int p1), (.int p2), (.int k1)] ∧ Z.Warmed39 U.vm ∧ U.heap = h0) (fun _ _ _ _ _ => True) (fun _ U o U' => ∃ v L, o = .returned v ∧ Q_rmAtG Z a1 ca p1 p2 k1 h0 n0 v U'.heap L ∧ FrameEnd U o U' L ({ frames := 0, cells := 0, slots := 0, locals := 0 } : Room).cells ({ frames := 0, cells := 0, slots := 0, locals := 0 } : Room).slots) := by
  refine MetFree.of_bodySF (plainFor_of_name pn_com_example_keepwire_keepwire_ResponseHeadTrimSpacesPinLaw) hisR ?_
  intro p e s m args below meth c s₁ Bd hml0 hP hK
  obtain ⟨rfl, hZ, hh⟩ := hP
  have hx := Bd.exec
  have hby := Bd.bytes
  have hml : c.maxLocals = 5 := hml0
  have hown : s.vm.findClass "com/example/keepwire/keepwire/ResponseHeadTrimSpacesPinLaw" = some m.cls := findClass_of_methodNamed Bd.named
  have hnm := (name_of_methodNamed Bd.named Bd.method).1
  have X0 : Stand p l e ({ frames := 0, cells := 0, slots := 0, locals := 0 } : Room) s m #[(.ref a1), (.ref ca), (.int p1), (.int p2), (.int k1)] below meth c s₁ [] 0 0 := Stand.of_body Bd
  have e0 : s₁.heap = h0 := by rw [← hh, Bd.state]; rfl
  have N0 := Fr.nil n0
  suffices hR : ∀ P : State → Prop, (∀ s₂ o v L, s₂.status = .running → Ended s₂ below o → o = .returned v → Q_rmAtG Z a1 ca p1 p2 k1 h0 n0 v s₂.heap L → FrameEnd s o s₂ L ({ frames := 0, cells := 0, slots := 0, locals := 0 } : Room).cells ({ frames := 0, cells := 0, slots := 0, locals := 0 } : Room).slots → P s₂) → Rch p.tables e below P (s₁.setTop (mkF m 0 #[.val (.ref a1), .val (.ref ca), .val (.int p1), .val (.int p2), .val (.int k1)] [])) by
    obtain ⟨s₂, h1, o, h2⟩ := hR (fun s₂ => ∃ o, s₂.status = .running ∧ Ended s₂ below o ∧ ∃ v L, o = .returned v ∧ Q_rmAtG Z a1 ca p1 p2 k1 h0 n0 v s₂.heap L ∧ FrameEnd s o s₂ L ({ frames := 0, cells := 0, slots := 0, locals := 0 } : Room).cells ({ frames := 0, cells := 0, slots := 0, locals := 0 } : Room).slots) (fun s₂ o v L q1 q2 q3 q4 q5 => ⟨o, q1, q2, v, L, q3, q4, q5⟩)
    exact ⟨s₂, o, castTop (ef_rmAtG m a1 ca p1 p2 k1) h1, h2⟩
  intro P hPd
  refine Rch.go (fun zt zk => XS.iload X0.here hx rfl (hb hby d12_0) rfl zk) ?_
  refine Rch.go (fun zt zk => XS.iloadN X0.here hx rfl (hb hby d12_2) rfl zk) ?_
  refine Rch.go (fun zt zk => XS.icmpYes X0.here hx rfl (pc0 := 3) (pc' := 21) rfl (hb hby d12_3) rfl (flt (hge : ¬ (k1 < p2))).2.1 (by decide) (by decide) zk) ?_
  refine Rch.go (fun zt zk => XS.iconst X0.here hx rfl (hb hby d12_21) zk) ?_
  show Rch _ _ _ _ (s₁.setTop (mkF m 22 #[.val (.ref a1), .val (.ref ca), .val (.int p1), .val (.int p2), .val (.int k1)] [(.int (1 : Int32))]))
  refine Rch.go (fun zt zk => XS.goto X0.here hx rfl (pc0 := 22) (pc' := 26) rfl (hb hby d12_22) (by decide) (by decide) zk) ?_
  obtain ⟨fs, hr, hrun, hended, hW, hsame⟩ := X0.leave (v := some (.int (1 : Int32))) (fun h => by rw [Bd.returns] at h; cases h)
  refine Rch.mk (retN X0 hx (t := .boolean) Bd.returns (by simp) (hb hby d12_26) hr) (hPd _ _ _ _ hrun hended rfl ?_ ⟨⟨_, rfl⟩, hW, hsame.mono (by decide) (by decide)⟩)
  show Q_rmAtG Z a1 ca p1 p2 k1 h0 n0 _ s₁.heap _
  rw [e0]
  exact ⟨rfl, N0, rfl⟩
theorem ef_rmAtL (m : MethodId) (a1 : Addr) (ca : Addr) (p1 : Int32) (p2 : Int32) (k1 : Int32) : entryFrame m #[(.ref a1), (.ref ca), (.int p1), (.int p2), (.int k1)] 5 = mkF m 0 #[.val (.ref a1), .val (.ref ca), .val (.int p1), .val (.int p2), .val (.int k1)] [] := by first | (simp [entryFrame, mkF, argsToLocals, Value.category]; done) | rfl
theorem d12_6 : decode method_3_code 6 = .ok (.aload_n 0, 1) := by decide +kernel
theorem d12_7 : decode method_3_code 7 = .ok (.iload 4, 2) := by decide +kernel
theorem d12_9 : decode method_3_code 9 = .ok (.invokevirtual 38, 3) := by decide +kernel
theorem pd__I_C : parseMethodDescriptor "(I)C" = some ⟨[.int], some .char⟩ := by decide +kernel
theorem d12_12 : decode method_3_code 12 = .ok (.aload_n 1, 1) := by decide +kernel
theorem d12_13 : decode method_3_code 13 = .ok (.iload_n 2, 1) := by decide +kernel
theorem d12_14 : decode method_3_code 14 = .ok (.iload 4, 2) := by decide +kernel
theorem d12_16 : decode method_3_code 16 = .ok (.iadd, 1) := by decide +kernel
theorem d12_17 : decode method_3_code 17 = .ok (.caload, 1) := by decide +kernel
theorem d12_18 : decode method_3_code 18 = .ok (.if_icmp .ne 7, 3) := by decide +kernel
def Q_rmAtL (Z : State) (a1 : Addr) (ca : Addr) (p1 : Int32) (p2 : Int32) (k1 : Int32) (b0 : Addr) (kb : ClassId) (zz : Int32) (vs : List Value) (w2 : Int32) (cz : Int32) (c1 : Int32) (rG : Value) (kc : ClassId) (cv : List Value) (h0 : Heap) (n0 : Nat) (v : Option Value) (h : Heap) (L : List Loc) : Prop := v = some (.int (1 : Int32)) ∧ Fr n0 L ∧ h = h0
set_option maxRecDepth 65536 in
set_option maxHeartbeats 40000000 in
theorem rmAtL (l : Launch) (Z : State) (a0 : Array Value) (hw : ∀ d ∈ tables_1, d.before a0 Z = true) (ws : List Jvm.Cond) (a1 : Addr) (ca : Addr) (p1 : Int32) (p2 : Int32) (k1 : Int32) (b0 : Addr) (kb : ClassId) (zz : Int32) (vs : List Value) (w2 : Int32) (cz : Int32) (c1 : Int32) (rG : Value) (kc : ClassId) (cv : List Value) (h0 : Heap) (n0 : Nat) (Z0 : n0 ≤ h0.size) (P0 : Old Z n0 h0) (P1 : Sta Z Z.heap "java/lang/String" "COMPACT_STRINGS" "Z" (.int cz)) (P2 : Sta Z Z.heap "jdk/internal/util/Preconditions" "SIOOBE_FORMATTER" "Ljava/util/function/BiFunction;" rG) (P3 : Exa Z h0 a1 "java/lang/String") (P4 : Fld Z h0 a1 "java/lang/String" "coder" "B" (.int w2)) (P5 : Fld Z h0 a1 "java/lang/String" "value" "[B" (.ref b0)) (P6 : Arv Z h0 b0 kb .byte zz vs (.int (0 : Int32))) (P7 : Arv Z h0 ca kc .char (5 : Int32) cv (.int (0 : Int32))) (hlt : k1 < p2) (hin : ¬ ((p1 + k1) < (0 : Int32)) ∧ (p1 + k1) < (5 : Int32)) (hcv : cv.getD (p1 + k1).toNatClampNeg (.int (0 : Int32)) = .int c1) (hk : 0 ≤ k1.toInt ∧ k1.toInt < zz.toInt) (hbv : vs.getD k1.toNatClampNeg (.int (0 : Int32)) = .int (bOf c1)) (hc : R8 c1) (hrG : rG.isRef = true) (hcz : ¬ (cz = (0 : Int32))) (hw2 : w2 = (0 : Int32)) :
    MetFree l (⟨"com/example/keepwire/keepwire/ResponseHeadTrimSpacesPinLaw", "at", "(Ljava/lang/String;[CIII)Z"⟩ : MethodName) (head1 (Jvm.Cond.code (⟨"com/example/keepwire/keepwire/ResponseHeadTrimSpacesPinLaw", "at", "(Ljava/lang/String;[CIII)Z"⟩ : MethodName) method_3_code 5 (some .boolean) :: ws) ({ frames := 4, cells := 0, slots := 0, locals := 53 } : Room)) (fun a U => a = #[(.ref a1), (.ref ca), (.int p1), (.int p2), (.int k1)] ∧ Z.Warmed39 U.vm ∧ U.heap = h0) (fun _ _ _ _ _ => True) (fun _ U o U' => ∃ v L, o = .returned v ∧ Q_rmAtL Z a1 ca p1 p2 k1 b0 kb zz vs w2 cz c1 rG kc cv h0 n0 v U'.heap L ∧ FrameEnd U o U' L ({ frames := 4, cells := 0, slots := 0, locals := 53 } : Room).cells ({ frames := 4, cells := 0, slots := 0, locals := 53 } : Room).slots) := by
  refine MetFree.of_bodySF (plainFor_of_name pn_com_example_keepwire_keepwire_ResponseHeadTrimSpacesPinLaw) hisR ?_
  intro p e s m args below meth c s₁ Bd hml0 hP hK
  obtain ⟨rfl, hZ, hh⟩ := hP
  have hx := Bd.exec
  have hby := Bd.bytes
  have hml : c.maxLocals = 5 := hml0
  have hown : s.vm.findClass "com/example/keepwire/keepwire/ResponseHeadTrimSpacesPinLaw" = some m.cls := findClass_of_methodNamed Bd.named
  have hnm := (name_of_methodNamed Bd.named Bd.method).1
  have X0 : Stand p l e ({ frames := 4, cells := 0, slots := 0, locals := 53 } : Room) s m #[(.ref a1), (.ref ca), (.int p1), (.int p2), (.int k1)] below meth c s₁ [] 0 0 := Stand.of_body Bd
  have e0 : s₁.heap = h0 := by rw [← hh, Bd.state]; rfl
  have N0 := Fr.nil n0
  suffices hR : ∀ P : State → Prop, (∀ s₂ o v L, s₂.status = .running → Ended s₂ below o → o = .returned v → Q_rmAtL Z a1 ca p1 p2 k1 b0 kb zz vs w2 cz c1 rG kc cv h0 n0 v s₂.heap L → FrameEnd s o s₂ L ({ frames := 4, cells := 0, slots := 0, locals := 53 } : Room).cells ({ frames := 4, cells := 0, slots := 0, locals := 53 } : Room).slots → P s₂) → Rch p.tables e below P (s₁.setTop (mkF m 0 #[.val (.ref a1), .val (.ref ca), .val (.int p1), .val (.int p2), .val (.int k1)] [])) by
    obtain ⟨s₂, h1, o, h2⟩ := hR (fun s₂ => ∃ o, s₂.status = .running ∧ Ended s₂ below o ∧ ∃ v L, o = .returned v ∧ Q_rmAtL Z a1 ca p1 p2 k1 b0 kb zz vs w2 cz c1 rG kc cv h0 n0 v s₂.heap L ∧ FrameEnd s o s₂ L ({ frames := 4, cells := 0, slots := 0, locals := 53 } : Room).cells ({ frames := 4, cells := 0, slots := 0, locals := 53 } : Room).slots) (fun s₂ o v L q1 q2 q3 q4 q5 => ⟨o, q1, q2, v, L, q3, q4, q5⟩)
    exact ⟨s₂, o, castTop (ef_rmAtL m a1 ca p1 p2 k1) h1, h2⟩
  intro P hPd
  refine Rch.go (fun zt zk => XS.iload X0.here hx rfl (hb hby d12_0) rfl zk) ?_
  refine Rch.go (fun zt zk => XS.iloadN X0.here hx rfl (hb hby d12_2) rfl zk) ?_
  refine Rch.go (fun zt zk => XS.icmpNo X0.here hx rfl (hb hby d12_3) rfl (tlt (hlt : k1 < p2)).2.1 zk) ?_
  refine Rch.go (fun zt zk => XS.aloadN X0.here hx rfl (hb hby d12_6) rfl rfl zk) ?_
  show Rch _ _ _ _ (s₁.setTop (mkF m 7 #[.val (.ref a1), .val (.ref ca), .val (.int p1), .val (.int p2), .val (.int k1)] [(.ref a1)]))
  refine Rch.go (fun zt zk => XS.iload X0.here hx rfl (hb hby d12_7) rfl zk) ?_
  obtain ⟨cq101, kq101, q101a, q101b, q101c⟩ := isOf hZ e0 P3
  obtain ⟨_, _, ⟨T101, L101, k101, n101⟩, -, X101, ⟨Lc101, hQ101, l101, y101, z101⟩, st101⟩ := X0.virtualBack hx (y := (⟨"java/lang/String", "charAt", "(I)C"⟩ : MethodName)) (z := (⟨"java/lang/String", "charAt", "(I)C"⟩ : MethodName)) hown (mvT hZ (ow124 hw)) (mvT hZ (ow74 hw)) (notFace_of_selects (args := #[]) (mvT hZ (ow76 hw))) (mvT hZ (ow76 hw)) (mvT hZ (ow75 hw)) (by decide) (backOf (W := 0) (rm16 l Z a0 hw [] (a1) (k1) (b0) (kb) (zz) (vs) (w2) (cz) (c1) (rG) h0 n0 Z0 (P0) (P1) (P2) (P3) (P4) (P5) (P6) (hk) (hbv) (hc) (hrG) (hcz) (hw2)) hZ (ow77 hw) (ow11 hw) (by decide) (by decide)) q101a q101c (g := (mkF m 9 #[.val (.ref a1), .val (.ref ca), .val (.int p1), .val (.int p2), .val (.int k1)] [(.int k1), (.ref a1)])) rfl (by rw [hml]; rfl) (Steps.refl _) (argsL := [(.int k1)]) (rest := []) (lenOf pd__I_C rfl) rfl (by show 2 * 0 + _ ≤ _; exact Nat.le_of_eq rfl) (hb hby d12_9) (fun _ _ => ⟨rfl, e0, (by decide : 0 + 0 ≤ _), (by decide : 0 + 0 ≤ _)⟩)
  dsimp only [Pt.U, Pt.locs, Pt.cells, Pt.slots] at X101 l101 y101 z101 st101 hQ101
  rw [l101, y101, z101] at X101
  obtain ⟨rfl, N101q, eq101⟩ := hQ101
  have N101 := Fr.app N0 N101q
  refine Rch.go (fun zt zk => st101.trans zk) ?_
  refine Rch.go (fun zt zk => XS.aloadN X101.here hx rfl (hb hby d12_12) rfl rfl zk) ?_
  refine Rch.go (fun zt zk => XS.iloadN X101.here hx rfl (hb hby d12_13) rfl zk) ?_
  show Rch _ _ _ _ (T101.setTop (mkF m 14 #[.val (.ref a1), .val (.ref ca), .val (.int p1), .val (.int p2), .val (.int k1)] [(.int p1), (.ref ca), (.int c1)]))
  refine Rch.go (fun zt zk => XS.iload X101.here hx rfl (hb hby d12_14) rfl zk) ?_
  refine Rch.go (fun zt zk => XS.iadd X101.here hx rfl (hb hby d12_16) rfl zk) ?_
  obtain ⟨cl102, Ar102, q102, S102, M102, H102, G102⟩ := id P7
  have hin102 := inb_of (j := (p1 + k1)) S102 hin
  refine Rch.go (X101.caload hx (j := (p1 + k1)) (v := (.int c1)) (by rw [eq101]; exact Ar102.1) (State.isArrayOf_alike hZ.alike Ar102.2.1) Ar102.2.2 hin102 (Has.at H102 hin102 hcv) (g := (mkF m 17 #[.val (.ref a1), .val (.ref ca), .val (.int p1), .val (.int p2), .val (.int k1)] [(.int (p1 + k1)), (.ref ca), (.int c1)])) rfl rfl (hb hby d12_17)) ?_
  refine Rch.go (fun zt zk => XS.icmpNo X101.here hx rfl (hb hby d12_18) rfl (teq (rfl : c1 = c1)).2 zk) ?_
  show Rch _ _ _ _ (T101.setTop (mkF m 21 #[.val (.ref a1), .val (.ref ca), .val (.int p1), .val (.int p2), .val (.int k1)] []))
  refine Rch.go (fun zt zk => XS.iconst X101.here hx rfl (hb hby d12_21) zk) ?_
  refine Rch.go (fun zt zk => XS.goto X101.here hx rfl (pc0 := 22) (pc' := 26) rfl (hb hby d12_22) (by decide) (by decide) zk) ?_
  obtain ⟨fs, hr, hrun, hended, hW, hsame⟩ := X101.leave (v := some (.int (1 : Int32))) (fun h => by rw [Bd.returns] at h; cases h)
  refine Rch.mk (retN X101 hx (t := .boolean) Bd.returns (by simp) (hb hby d12_26) hr) (hPd _ _ _ _ hrun hended rfl ?_ ⟨⟨_, rfl⟩, hW, hsame.mono (by decide) (by decide)⟩)
  show Q_rmAtL Z a1 ca p1 p2 k1 b0 kb zz vs w2 cz c1 rG kc cv h0 n0 _ T101.heap _
  rw [eq101]
  exact ⟨rfl, N101, rfl⟩
def ChS (zz : Int32) (vs : List Value) (ch : Nat → Int32) : Prop := 0 ≤ zz.toInt ∧ zz.toInt ≤ 5 ∧ ∀ i : Nat, (i : Int) < zz.toInt → vs.getD i (.int (0 : Int32)) = .int (bOf (ch i)) ∧ R8 (ch i)
def TrimOK (zz : Int32) (ch : Nat → Int32) (m : Int32) (vs : List Value) : Prop := ∃ bi ei : Int32, 0 ≤ bi.toInt ∧ bi.toInt ≤ ei.toInt ∧ ei.toInt ≤ zz.toInt ∧ (∀ j : Nat, (j : Int) < bi.toInt → ¬ (fIsp (ch j) = (0 : Int32))) ∧ (∀ j : Nat, ei.toInt ≤ (j : Int) → (j : Int) < zz.toInt → ¬ (fIsp (ch j) = (0 : Int32))) ∧ (bi.toInt < ei.toInt → fIsp (ch bi.toNatClampNeg) = (0 : Int32) ∧ fIsp (ch (ei - (1 : Int32)).toNatClampNeg) = (0 : Int32)) ∧ m = ei - bi ∧ ∀ j : Nat, (j : Int) < m.toInt → vs.getD j (.int (0 : Int32)) = .int (bOf (ch (bi.toNatClampNeg + j)))
theorem own_nat {i : Int32} (h : 0 ≤ i.toInt) : ((i.toNatClampNeg : Nat) : Int) = i.toInt := by simp only [Int32.toNatClampNeg]; omega
theorem own_m1 {e : Int32} (h : 0 < e.toInt) : (e - (1 : Int32)).toInt = e.toInt - 1 ∧ e + (-1 : Int32) = e - (1 : Int32) := by
  have h1 := c_isub e (1 : Int32); have h2 := rng32 (e - 1); have h3 := rng32 e; have e1 : (1 : Int32).toInt = 1 := by decide
  have h4 := c_iadd e (-1 : Int32); have h5 := rng32 (e + (-1 : Int32)); have e2 : (-1 : Int32).toInt = -1 := by decide
  exact ⟨by omega, Int32.toInt_inj.mp (by omega)⟩
theorem own_p1 {i z : Int32} (h : i.toInt < z.toInt) : (i + (1 : Int32)).toInt = i.toInt + 1 := by
  have h1 := c_iadd i (1 : Int32); have h2 := rng32 (i + 1); have h3 := rng32 i; have h4 := rng32 z; have e1 : (1 : Int32).toInt = 1 := by decide
  omega
theorem own_slc {vs : List Value} {a n : Int32} {j : Nat} (h : j < n.toNatClampNeg) : (SLc vs a n).getD j (.int (0 : Int32)) = vs.getD (a.toNatClampNeg + j) (.int (0 : Int32)) := by
  unfold SLc
  rw [List.getD_eq_getElem?_getD, List.getElem?_map, List.getElem?_range h]; rfl
theorem own_tThis {zz : Int32} {vs : List Value} {ch : Nat → Int32} (H : ChS zz vs ch) (ns : 0 < zz.toInt → fIsp (ch 0) = (0 : Int32) ∧ fIsp (ch (zz - (1 : Int32)).toNatClampNeg) = (0 : Int32)) : TrimOK zz ch zz vs := by
  have e0 : (0 : Int32).toInt = 0 := by decide
  have n0 : (0 : Int32).toNatClampNeg = 0 := by decide
  refine ⟨0, zz, by omega, by rw [e0]; exact H.1, Int.le_refl _, fun j hj => by omega, fun j h1 h2 => by omega, fun h => by rw [n0]; exact ns (by omega), by rw [Int32.sub_zero], fun j hj => by rw [n0, Nat.zero_add]; exact (H.2.2 j hj).1⟩
theorem own_tNew {zz i e : Int32} {vs : List Value} {ch : Nat → Int32} (H : ChS zz vs ch) (h0 : 0 ≤ i.toInt) (h1 : i.toInt < e.toInt) (h2 : e.toInt ≤ zz.toInt) (hs : ∀ j : Nat, (j : Int) < i.toInt → ¬ (fIsp (ch j) = (0 : Int32))) (he : ∀ j : Nat, e.toInt ≤ (j : Int) → (j : Int) < zz.toInt → ¬ (fIsp (ch j) = (0 : Int32))) (n1 : fIsp (ch i.toNatClampNeg) = (0 : Int32)) (n2 : fIsp (ch (e - (1 : Int32)).toNatClampNeg) = (0 : Int32)) : TrimOK zz ch (e - i) (SLc vs i (e - i)) := by
  have hsub := own_sub h0 (Int.le_of_lt h1)
  refine ⟨i, e, h0, Int.le_of_lt h1, h2, hs, he, fun _ => ⟨n1, n2⟩, rfl, fun j hj => ?_⟩
  have hi := own_nat h0
  rw [own_slc (by have := own_nat (i := e - i) (by omega); omega)]
  exact (H.2.2 _ (by omega)).1
theorem own_tCold {zz i : Int32} {ch : Nat → Int32} (h0 : 0 ≤ i.toInt) (h2 : i.toInt ≤ zz.toInt) (hs : ∀ j : Nat, (j : Int) < i.toInt → ¬ (fIsp (ch j) = (0 : Int32))) (he : ∀ j : Nat, i.toInt ≤ (j : Int) → (j : Int) < zz.toInt → ¬ (fIsp (ch j) = (0 : Int32))) : TrimOK zz ch (0 : Int32) [] := by
  have e0 : (0 : Int32).toInt = 0 := by decide
  exact ⟨i, i, h0, Int.le_refl _, h2, hs, he, fun h => absurd h (Int.lt_irrefl _), (Int32.sub_self _).symm, fun j hj => by omega⟩
theorem ef_rmTsG (m : MethodId) (a1 : Addr) : entryFrame m #[(.ref a1)] 3 = mkF m 0 #[.val (.ref a1), .unset, .unset] [] := by first | (simp [entryFrame, mkF, argsToLocals, Value.category]; done) | rfl
theorem d6_34 : decode prog_30_method_20_code 34 = .ok (.aload_n 0, 1) := by decide +kernel
theorem d6_35 : decode prog_30_method_20_code 35 = .ok (.iload_n 2, 1) := by decide +kernel
theorem d6_36 : decode prog_30_method_20_code 36 = .ok (.iconst 1, 1) := by decide +kernel
theorem d6_37 : decode prog_30_method_20_code 37 = .ok (.isub, 1) := by decide +kernel
theorem d6_38 : decode prog_30_method_20_code 38 = .ok (.invokevirtual 50, 3) := by decide +kernel
theorem d6_41 : decode prog_30_method_20_code 41 = .ok (.invokestatic 86, 3) := by decide +kernel
theorem pd__C_Z : parseMethodDescriptor "(C)Z" = some ⟨[.char], some .boolean⟩ := by decide +kernel
theorem d6_44 : decode prog_30_method_20_code 44 = .ok (.ifCond .eq 9, 3) := by decide +kernel
theorem d6_47 : decode prog_30_method_20_code 47 = .ok (.iinc 2 (-1), 3) := by decide +kernel
theorem d6_50 : decode prog_30_method_20_code 50 = .ok (.goto (-21), 3) := by decide +kernel
theorem d6_12 : decode prog_30_method_20_code 12 = .ok (.aload_n 0, 1) := by decide +kernel
theorem d6_13 : decode prog_30_method_20_code 13 = .ok (.iload_n 1, 1) := by decide +kernel
theorem d6_14 : decode prog_30_method_20_code 14 = .ok (.invokevirtual 50, 3) := by decide +kernel
theorem d6_17 : decode prog_30_method_20_code 17 = .ok (.invokestatic 86, 3) := by decide +kernel
theorem d6_20 : decode prog_30_method_20_code 20 = .ok (.ifCond .eq 9, 3) := by decide +kernel
theorem d6_23 : decode prog_30_method_20_code 23 = .ok (.iinc 1 1, 3) := by decide +kernel
theorem d6_26 : decode prog_30_method_20_code 26 = .ok (.goto (-19), 3) := by decide +kernel
def Q_rmTsG (Z : State) (a1 : Addr) (b0 : Addr) (kb : ClassId) (zz : Int32) (vs : List Value) (w2 : Int32) (cz : Int32) (rG : Value) (ch : Nat → Int32) (h0 : Heap) (n0 : Nat) (v : Option Value) (h : Heap) (L : List Loc) : Prop := (∃ (r b : Addr) (kb : ClassId) (w2 m : Int32) (vs : List Value), v = some (.ref r) ∧ w2 = (0 : Int32) ∧ Exa Z h r "java/lang/String" ∧ Fld Z h r "java/lang/String" "coder" "B" (.int w2) ∧ Fld Z h r "java/lang/String" "value" "[B" (.ref b) ∧ Arv Z h b kb .byte m vs (.int (0 : Int32)) ∧ TrimOK zz ch m vs) ∧ Fr n0 L ∧ Keep h0 h []
set_option maxRecDepth 65536 in
set_option maxHeartbeats 40000000 in
theorem rmTsG (l : Launch) (Z : State) (a0 : Array Value) (hw : ∀ d ∈ tables_1, d.before a0 Z = true) (ws : List Jvm.Cond) (a1 : Addr) (b0 : Addr) (kb : ClassId) (zz : Int32) (vs : List Value) (w2 : Int32) (cz : Int32) (rG : Value) (ch : Nat → Int32) (h0 : Heap) (n0 : Nat) (Z0 : n0 ≤ h0.size) (P0 : Old Z n0 h0) (P1 : Sta Z Z.heap "java/lang/String" "COMPACT_STRINGS" "Z" (.int cz)) (P2 : Sta Z Z.heap "jdk/internal/util/Preconditions" "SIOOBE_FORMATTER" "Ljava/util/function/BiFunction;" rG) (P3 : Exa Z h0 a1 "java/lang/String") (P4 : Fld Z h0 a1 "java/lang/String" "coder" "B" (.int w2)) (P5 : Fld Z h0 a1 "java/lang/String" "value" "[B" (.ref b0)) (P6 : Arv Z h0 b0 kb .byte zz vs (.int (0 : Int32))) (hrG : rG.isRef = true) (hcz : ¬ (cz = (0 : Int32))) (hw2 : w2 = (0 : Int32)) (hch : ChS zz vs ch) (hlit : Jvm.Lit.constHeld Z "java/lang/StringLatin1" 151) (hcw : Jvm.Lit.compactW.before a0 Z = true) :
    MetFree l (⟨"com/example/keepwire/keepwire/ResponseHead", "trimSpaces", "(Ljava/lang/String;)Ljava/lang/String;"⟩ : MethodName) (head1 (Jvm.Cond.code (⟨"com/example/keepwire/keepwire/ResponseHead", "trimSpaces", "(Ljava/lang/String;)Ljava/lang/String;"⟩ : MethodName) prog_30_method_20_code 3 (some (.object "java/lang/String")) :: ws) ({ frames := 5, cells := 2, slots := 12, locals := 102 } : Room)) (fun a U => a = #[(.ref a1)] ∧ Z.Warmed39 U.vm ∧ U.heap = h0 ∧ U.vm.interned = Z.vm.interned) (fun _ _ _ _ _ => True) (fun _ U o U' => ∃ v L, o = .returned v ∧ Q_rmTsG Z a1 b0 kb zz vs w2 cz rG ch h0 n0 v U'.heap L ∧ ReturnedEndW U o U' L ({ frames := 5, cells := 2, slots := 12, locals := 102 } : Room).cells ({ frames := 5, cells := 2, slots := 12, locals := 102 } : Room).slots) := by
  refine MetFree.of_bodySF (plainFor_of_name pn_com_example_keepwire_keepwire_ResponseHead) hisR ?_
  intro p e s m args below meth c s₁ Bd hml0 hP hK
  obtain ⟨rfl, hZ, hh, hI⟩ := hP
  have hx := Bd.exec
  have hby := Bd.bytes
  have hml : c.maxLocals = 3 := hml0
  have hown : s.vm.findClass "com/example/keepwire/keepwire/ResponseHead" = some m.cls := findClass_of_methodNamed Bd.named
  have hnm := (name_of_methodNamed Bd.named Bd.method).1
  have X0 : Stand p l e ({ frames := 5, cells := 2, slots := 12, locals := 102 } : Room) s m #[(.ref a1)] below meth c s₁ [] 0 0 := Stand.of_body Bd
  have e0 : s₁.heap = h0 := by rw [← hh, Bd.state]; rfl
  have N0 := Fr.nil n0
  suffices hR : ∀ P : State → Prop, (∀ s₂ o v L, s₂.status = .running → Ended s₂ below o → o = .returned v → Q_rmTsG Z a1 b0 kb zz vs w2 cz rG ch h0 n0 v s₂.heap L → ReturnedEndW s o s₂ L ({ frames := 5, cells := 2, slots := 12, locals := 102 } : Room).cells ({ frames := 5, cells := 2, slots := 12, locals := 102 } : Room).slots → P s₂) → Rch p.tables e below P (s₁.setTop (mkF m 0 #[.val (.ref a1), .unset, .unset] [])) by
    obtain ⟨s₂, h1, o, h2⟩ := hR (fun s₂ => ∃ o, s₂.status = .running ∧ Ended s₂ below o ∧ ∃ v L, o = .returned v ∧ Q_rmTsG Z a1 b0 kb zz vs w2 cz rG ch h0 n0 v s₂.heap L ∧ ReturnedEndW s o s₂ L ({ frames := 5, cells := 2, slots := 12, locals := 102 } : Room).cells ({ frames := 5, cells := 2, slots := 12, locals := 102 } : Room).slots) (fun s₂ o v L q1 q2 q3 q4 q5 => ⟨o, q1, q2, v, L, q3, q4, q5⟩)
    exact ⟨s₂, o, castTop (ef_rmTsG m a1) h1, h2⟩
  intro P hPd
  refine Rch.go (fun zt zk => XS.iconst X0.here hx rfl (hb hby d6_0) zk) ?_
  refine Rch.go (fun zt zk => XS.istoreN X0.here hx rfl (hb hby d6_1) rfl (l' := #[.val (.ref a1), .val (.int (0 : Int32)), .unset]) rfl zk) ?_
  refine Rch.go (fun zt zk => XS.aloadN X0.here hx rfl (hb hby d6_2) rfl rfl zk) ?_
  obtain ⟨cq101, kq101, q101a, q101b, q101c⟩ := isOf hZ e0 P3
  obtain ⟨_, _, ⟨T101, L101, k101, n101⟩, -, X101, ⟨Lc101, hQ101, l101, y101, z101⟩, st101⟩ := X0.virtualBack hx (y := (⟨"java/lang/String", "length", "()I"⟩ : MethodName)) (z := (⟨"java/lang/String", "length", "()I"⟩ : MethodName)) hown (mvT hZ (ow34 hw)) (mvT hZ (ow35 hw)) (notFace_of_selects (args := #[]) (mvT hZ (ow37 hw))) (mvT hZ (ow37 hw)) (mvT hZ (ow36 hw)) (by decide) (backOf (W := 0) (rm7 l Z a0 hw [] (a1) (b0) (kb) (zz) (vs) (w2) (cz) h0 n0 Z0 (P0) (P1) (P3) (P4) (P5) (P6) (hcz) (hw2)) hZ (ow38 hw) (ow11 hw) (by decide) (by decide)) q101a q101c (g := (mkF m 3 #[.val (.ref a1), .val (.int (0 : Int32)), .unset] [(.ref a1)])) rfl (by rw [hml]; rfl) (Steps.refl _) (argsL := []) (rest := []) (lenOf pd___I rfl) rfl (by show 2 * 0 + _ ≤ _; exact Nat.le_of_eq rfl) (hb hby d6_3) (fun _ _ => ⟨rfl, e0, (by decide : 0 + 0 ≤ _), (by decide : 0 + 0 ≤ _)⟩)
  dsimp only [Pt.U, Pt.locs, Pt.cells, Pt.slots] at X101 l101 y101 z101 st101 hQ101
  rw [l101, y101, z101] at X101
  obtain ⟨rfl, N101q, eq101⟩ := hQ101
  have N101 := Fr.app N0 N101q
  refine Rch.go (fun zt zk => st101.trans zk) ?_
  show Rch _ _ _ _ (T101.setTop (mkF m 6 #[.val (.ref a1), .val (.int (0 : Int32)), .unset] [(.int zz)]))
  refine Rch.go (fun zt zk => XS.istoreN X101.here hx rfl (hb hby d6_6) rfl (l' := #[.val (.ref a1), .val (.int (0 : Int32)), .val (.int zz)]) rfl zk) ?_
  have l2 : ∀ (k : Nat) (i : Int32) (e2 : Int32) (Tl2 : State) (Ll2 : List Loc) (hl2 : Heap) (_ : Stand p l e ({ frames := 5, cells := 2, slots := 12, locals := 102 } : Room) s m #[(.ref a1)] below meth c Tl2 Ll2 0 0) (_ : Tl2.heap = hl2) (_ : Fr n0 Ll2) (_ : n0 ≤ hl2.size) (_ : Keep h0 hl2 []) (_ : Old Z n0 hl2) (_ : Sta Z Z.heap "java/lang/String" "COMPACT_STRINGS" "Z" (.int cz)) (_ : Sta Z Z.heap "jdk/internal/util/Preconditions" "SIOOBE_FORMATTER" "Ljava/util/function/BiFunction;" rG) (_ : Exa Z hl2 a1 "java/lang/String") (_ : Fld Z hl2 a1 "java/lang/String" "coder" "B" (.int w2)) (_ : Fld Z hl2 a1 "java/lang/String" "value" "[B" (.ref b0)) (_ : Arv Z hl2 b0 kb .byte zz vs (.int (0 : Int32))), (e2.toInt - i.toInt ≤ (k : Int)) → (0 ≤ i.toInt) → (i.toInt ≤ e2.toInt) → (e2.toInt ≤ zz.toInt) → (∀ j : Nat, (j : Int) < i.toInt → ¬ (fIsp (ch j) = (0 : Int32))) → (i.toInt < zz.toInt → fIsp (ch i.toNatClampNeg) = (0 : Int32)) → (∀ j : Nat, e2.toInt ≤ (j : Int) → (j : Int) < zz.toInt → ¬ (fIsp (ch j) = (0 : Int32))) → Rch p.tables e below P (Tl2.setTop (mkF m 29 #[.val (.ref a1), .val (.int i), .val (.int e2)] [])) := by
    intro k
    induction k with
    | zero =>
      intro i e2 Tl2 Ll2 hl2 Xl2 el2 Nl2 Zl2 Kl2 Fl2_0 Fl2_1 Fl2_2 Fl2_3 Fl2_4 Fl2_5 Fl2_6 hk hi0 hie1 hez hsp hni hse
      have hstop : ¬ (i < e2) := by rw [Int32.lt_iff_toInt_lt]; have := hk; omega
      refine Rch.go (fun zt zk => XS.iloadN Xl2.here hx rfl (hb hby d6_29) rfl zk) ?_
      refine Rch.go (fun zt zk => XS.iloadN Xl2.here hx rfl (hb hby d6_30) rfl zk) ?_
      refine Rch.go (fun zt zk => XS.icmpYes Xl2.here hx rfl (pc0 := 31) (pc' := 53) rfl (hb hby d6_31) rfl (flt hstop).2.2.2 (by decide) (by decide) zk) ?_
      show Rch _ _ _ _ (Tl2.setTop (mkF m 53 #[.val (.ref a1), .val (.int i), .val (.int e2)] []))
      refine Rch.go (fun zt zk => XS.aloadN Xl2.here hx rfl (hb hby d6_53) rfl rfl zk) ?_
      refine Rch.go (fun zt zk => XS.iloadN Xl2.here hx rfl (hb hby d6_54) rfl zk) ?_
      refine Rch.go (fun zt zk => XS.iloadN Xl2.here hx rfl (hb hby d6_55) rfl zk) ?_
      have hieq : i = e2 := Int32.toInt_inj.mp (by have q := hstop; rw [Int32.lt_iff_toInt_lt] at q; omega)
      have hse' : ∀ j : Nat, i.toInt ≤ (j : Int) → (j : Int) < zz.toInt → ¬ (fIsp (ch j) = (0 : Int32)) := by rw [hieq]; exact hse
      have hiz : i.toInt = zz.toInt := by
        by_cases hq : i.toInt < zz.toInt
        · exact absurd (hni hq) (hse' _ (by rw [own_nat hi0]; exact Int.le_refl _) (by rw [own_nat hi0]; exact hq))
        · omega
      by_cases h00 : i = (0 : Int32)
      · skip
        obtain ⟨cq102, kq102, q102a, q102b, q102c⟩ := isOf hZ el2 Fl2_3
        obtain ⟨_, _, ⟨T102, L102, k102, n102⟩, -, X102, ⟨Lc102, hQ102, l102, y102, z102⟩, st102⟩ := Xl2.virtualBack hx (y := (⟨"java/lang/String", "substring", "(II)Ljava/lang/String;"⟩ : MethodName)) (z := (⟨"java/lang/String", "substring", "(II)Ljava/lang/String;"⟩ : MethodName)) hown (mvT hZ (ow45 hw)) (mvT hZ (ow46 hw)) (notFace_of_selects (args := #[]) (mvT hZ (ow48 hw))) (mvT hZ (ow48 hw)) (mvT hZ (ow47 hw)) (by decide) (backOf (W := 0) (rmSubT l Z a0 hw [] (a1) (i) (e2) (b0) (kb) (zz) (vs) (w2) (cz) (rG) hl2 n0 Zl2 (Fl2_0) (Fl2_1) (Fl2_2) (Fl2_3) (Fl2_4) (Fl2_5) (Fl2_6) (⟨hi0, hie1, hez, by have := hch.2.1; omega⟩) (hrG) (hcz) (hw2) (⟨h00, Int32.toInt_inj.mp (by rw [← hieq]; exact hiz)⟩)) hZ (ow49 hw) (ow11 hw) (by decide) (by decide)) q102a q102c (g := (mkF m 56 #[.val (.ref a1), .val (.int i), .val (.int e2)] [(.int e2), (.int i), (.ref a1)])) rfl (by rw [hml]; rfl) (Steps.refl _) (argsL := [(.int i), (.int e2)]) (rest := []) (lenOf pd__II_Ljava_lang_String_ rfl) rfl (by show 2 * 0 + _ ≤ _; exact Nat.le_of_eq rfl) (hb hby d6_56) (fun _ _ => ⟨rfl, el2, (by decide : 0 + 0 ≤ _), (by decide : 0 + 0 ≤ _)⟩)
        dsimp only [Pt.U, Pt.locs, Pt.cells, Pt.slots] at X102 l102 y102 z102 st102 hQ102
        rw [l102, y102, z102] at X102
        obtain ⟨rfl, N102q, eq102⟩ := hQ102
        have N102 := Fr.app Nl2 N102q
        refine Rch.go (fun zt zk => st102.trans zk) ?_
        show Rch _ _ _ _ (T102.setTop (mkF m 59 #[.val (.ref a1), .val (.int i), .val (.int e2)] [(.ref a1)]))
        obtain ⟨fs, hr, hrun, hended, qw1, qw2, qw3, hsame⟩ := Stand.leaveW (s := s) (vm₁ := s.vm) X102 ((State.WarmedH.refl s).since 0) (Nat.zero_le _) (v := some (.ref a1)) (fun h => by rw [Bd.returns] at h; cases h)
        have hend : Steps p.tables e below (T102.setTop (mkF m 59 #[.val (.ref a1), .val (.int i), .val (.int e2)] [(.ref a1)])) (T102.setFrames fs) := by
          jvm_step X102.here [X102.here.top, hx, (hb hby d6_59), X102.method', Bd.returns, Value.isRef, FieldType.isReference]
          first | (intro acts; rw [hr _ acts rfl rfl rfl]) | rw [hr _ _ rfl rfl rfl]
          exact Steps.refl _
        refine Rch.mk (hend) (hPd _ _ _ _ hrun hended rfl ?_ ⟨⟨_, rfl⟩, qw2, qw3, hsame.mono (by decide) (by decide)⟩)
        show Q_rmTsG Z a1 b0 kb zz vs w2 cz rG ch h0 n0 _ T102.heap _
        rw [eq102]
        exact ⟨⟨a1, b0, _, _, _, _, rfl, hw2, Fl2_3, Fl2_4, Fl2_5, Fl2_6, own_tThis hch (fun h => absurd h (by rw [← hiz, h00]; decide))⟩, N102, Kl2⟩
      · skip
        obtain ⟨cq103, kq103, q103a, q103b, q103c⟩ := isOf hZ el2 Fl2_3
        obtain ⟨_, _, ⟨T103, L103, k103, n103⟩, -, X103, hS103, hgr103, ⟨Lc103, hQ103, l103, y103, z103⟩, st103⟩ := Xl2.virtualBackS hx (y := (⟨"java/lang/String", "substring", "(II)Ljava/lang/String;"⟩ : MethodName)) (z := (⟨"java/lang/String", "substring", "(II)Ljava/lang/String;"⟩ : MethodName)) hown (mvT hZ (ow45 hw)) (mvT hZ (ow46 hw)) (notFace_of_selects (args := #[]) (mvT hZ (ow48 hw))) (mvT hZ (ow48 hw)) (mvT hZ (ow47 hw)) (by decide) (own_backS (W := 0) (rmSubC l Z a0 hw [] (a1) (i) (e2) (b0) (kb) (zz) (vs) (w2) (cz) (rG) hl2 n0 Zl2 (Fl2_0) (Fl2_1) (Fl2_2) (Fl2_3) (Fl2_4) (Fl2_5) (Fl2_6) (⟨hi0, hie1, hez, by have := hch.2.1; omega⟩) (hrG) (hcz) (hw2) (⟨h00, hieq⟩) (hlit) (hcw)) hZ (ow49 hw) (ow11 hw) (by decide) (by decide)) q103a q103c (g := (mkF m 56 #[.val (.ref a1), .val (.int i), .val (.int e2)] [(.int e2), (.int i), (.ref a1)])) rfl (by rw [hml]; rfl) (Steps.refl _) (argsL := [(.int i), (.int e2)]) (rest := []) (lenOf pd__II_Ljava_lang_String_ rfl) rfl (by show 2 * 0 + _ ≤ _; exact Nat.le_of_eq rfl) (hb hby d6_56) (fun vmq hWq => ⟨rfl, el2, (by decide : 0 + 2 ≤ _), (by decide : 0 + 4 ≤ _), (State.WarmedH.interned_eq hWq).trans hI⟩)
        dsimp only [Pt.U, Pt.locs, Pt.cells, Pt.slots] at X103 l103 y103 z103 st103 hQ103 hS103 hgr103
        rw [l103, y103, z103] at X103
        have hZ : Z.Warmed39 (s.setVm T103.vm).vm := State.Warmed39.trans (t := s) hZ hS103.1
        have hown : (s.setVm T103.vm).vm.findClass "com/example/keepwire/keepwire/ResponseHead" = some m.cls := (hS103.1.alike.findClass _ _).trans hown
        obtain ⟨⟨r103, b103, kb103, w103, rfl, hw103, E103, C103, U103, V103⟩, N103q, K103q⟩ := hQ103
        have N103 := Fr.app Nl2 N103q
        have K103 := Keep.trans Kl2 K103q all0
        have ZS103 : T103.heap.size ≤ T103.heap.size := Nat.le_refl _
        refine Rch.go (fun zt zk => st103.trans zk) ?_
        obtain ⟨fs, hr, hrun, hended, qw1, qw2, qw3, hsame⟩ := Stand.leaveW (s := s) (vm₁ := T103.vm) X103 hS103 ZS103 (v := some (.ref r103)) (fun h => by rw [Bd.returns] at h; cases h)
        have hend : Steps p.tables e below (T103.setTop (mkF m 59 #[.val (.ref a1), .val (.int i), .val (.int e2)] [(.ref r103)])) (T103.setFrames fs) := by
          jvm_step X103.here [X103.here.top, hx, (hb hby d6_59), X103.method', Bd.returns, Value.isRef, FieldType.isReference]
          first | (intro acts; rw [hr _ acts rfl rfl rfl]) | rw [hr _ _ rfl rfl rfl]
          exact Steps.refl _
        refine Rch.mk (hend) (hPd _ _ _ _ hrun hended rfl ?_ ⟨⟨_, rfl⟩, qw2, qw3, hsame.mono (by decide) (by decide)⟩)
        show Q_rmTsG Z a1 b0 kb zz vs w2 cz rG ch h0 n0 _ T103.heap _
        exact ⟨⟨r103, b103, _, _, _, _, rfl, hw103, E103, C103, U103, V103, own_tCold hi0 (by omega) hsp hse'⟩, N103, K103⟩
    | succ k ih =>
      intro i e2 Tl2 Ll2 hl2 Xl2 el2 Nl2 Zl2 Kl2 Fl2_0 Fl2_1 Fl2_2 Fl2_3 Fl2_4 Fl2_5 Fl2_6 hk hi0 hie1 hez hsp hni hse
      refine Rch.go (fun zt zk => XS.iloadN Xl2.here hx rfl (hb hby d6_29) rfl zk) ?_
      refine Rch.go (fun zt zk => XS.iloadN Xl2.here hx rfl (hb hby d6_30) rfl zk) ?_
      by_cases hc31_104 : i < e2
      · skip
        refine Rch.go (fun zt zk => XS.icmpNo Xl2.here hx rfl (hb hby d6_31) rfl (tlt hc31_104).2.2.2 zk) ?_
        show Rch _ _ _ _ (Tl2.setTop (mkF m 34 #[.val (.ref a1), .val (.int i), .val (.int e2)] []))
        refine Rch.go (fun zt zk => XS.aloadN Xl2.here hx rfl (hb hby d6_34) rfl rfl zk) ?_
        refine Rch.go (fun zt zk => XS.iloadN Xl2.here hx rfl (hb hby d6_35) rfl zk) ?_
        refine Rch.go (fun zt zk => XS.iconst Xl2.here hx rfl (hb hby d6_36) zk) ?_
        refine Rch.go (fun zt zk => XS.isub Xl2.here hx rfl (hb hby d6_37) rfl zk) ?_
        show Rch _ _ _ _ (Tl2.setTop (mkF m 38 #[.val (.ref a1), .val (.int i), .val (.int e2)] [(.int (e2 - (1 : Int32))), (.ref a1)]))
        have hie := Int32.lt_iff_toInt_lt.mp hc31_104
        have hm1 := own_m1 (e := e2) (by omega)
        have hlt2 : 0 ≤ (e2 - (1 : Int32)).toInt ∧ (e2 - (1 : Int32)).toInt < zz.toInt := ⟨by omega, by omega⟩
        obtain ⟨cq105, kq105, q105a, q105b, q105c⟩ := isOf hZ el2 Fl2_3
        obtain ⟨_, _, ⟨T105, L105, k105, n105⟩, -, X105, ⟨Lc105, hQ105, l105, y105, z105⟩, st105⟩ := Xl2.virtualBack hx (y := (⟨"java/lang/String", "charAt", "(I)C"⟩ : MethodName)) (z := (⟨"java/lang/String", "charAt", "(I)C"⟩ : MethodName)) hown (mvT hZ (ow73 hw)) (mvT hZ (ow74 hw)) (notFace_of_selects (args := #[]) (mvT hZ (ow76 hw))) (mvT hZ (ow76 hw)) (mvT hZ (ow75 hw)) (by decide) (backOf (W := 0) (rm16 l Z a0 hw [] (a1) ((e2 - (1 : Int32))) (b0) (kb) (zz) (vs) (w2) (cz) ((ch (e2 - (1 : Int32)).toNatClampNeg)) (rG) hl2 n0 Zl2 (Fl2_0) (Fl2_1) (Fl2_2) (Fl2_3) (Fl2_4) (Fl2_5) (Fl2_6) (hlt2) ((hch.2.2 _ (by rw [own_nat hlt2.1]; exact hlt2.2)).1) ((hch.2.2 _ (by rw [own_nat hlt2.1]; exact hlt2.2)).2) (hrG) (hcz) (hw2)) hZ (ow77 hw) (ow11 hw) (by decide) (by decide)) q105a q105c (g := (mkF m 38 #[.val (.ref a1), .val (.int i), .val (.int e2)] [(.int (e2 - (1 : Int32))), (.ref a1)])) rfl (by rw [hml]; rfl) (Steps.refl _) (argsL := [(.int (e2 - (1 : Int32)))]) (rest := []) (lenOf pd__I_C rfl) rfl (by show 2 * 0 + _ ≤ _; exact Nat.le_of_eq rfl) (hb hby d6_38) (fun _ _ => ⟨rfl, el2, (by decide : 0 + 0 ≤ _), (by decide : 0 + 0 ≤ _)⟩)
        dsimp only [Pt.U, Pt.locs, Pt.cells, Pt.slots] at X105 l105 y105 z105 st105 hQ105
        rw [l105, y105, z105] at X105
        obtain ⟨rfl, N105q, eq105⟩ := hQ105
        have N105 := Fr.app Nl2 N105q
        refine Rch.go (fun zt zk => st105.trans zk) ?_
        obtain ⟨_, _, ⟨T106, L106, k106, n106⟩, -, X106, ⟨Lc106, hQ106, l106, y106, z106⟩, st106⟩ := Jvm.LawKit.callS X105 hx (y := (⟨"com/example/keepwire/keepwire/ResponseHead", "isSpace", "(C)Z"⟩ : MethodName)) hown (mvT hZ (ow93 hw)) (mvT hZ (ow94 hw)) (mvT hZ (ow32 hw)) (mvT hZ (ow95 hw)) (by decide) (backOf (W := 0) (rm21 l Z a0 hw [] (ch (e2 - (1 : Int32)).toNatClampNeg) hl2 n0 Zl2 ) hZ (ow95 hw) (ow32 hw) (by decide) (by decide)) (g := (mkF m 41 #[.val (.ref a1), .val (.int i), .val (.int e2)] [(.int (ch (e2 - (1 : Int32)).toNatClampNeg))])) rfl (by rw [hml]; rfl) (argsL := [(.int (ch (e2 - (1 : Int32)).toNatClampNeg))]) (rest := []) (lenOf pd__C_Z rfl) rfl (by show 2 * 0 + _ ≤ _; exact Nat.le_of_eq rfl) (hb hby d6_41) (fun _ _ => ⟨rfl, eq105, (by decide : 0 + 0 ≤ _), (by decide : 0 + 0 ≤ _)⟩)
        dsimp only [Pt.U, Pt.locs, Pt.cells, Pt.slots] at X106 l106 y106 z106 st106 hQ106
        rw [l106, y106, z106] at X106
        obtain ⟨rfl, N106q, eq106⟩ := hQ106
        have N106 := Fr.app N105 N106q
        refine Rch.go st106 ?_
        by_cases hc44_107 : (fIsp (ch (e2 - (1 : Int32)).toNatClampNeg)) = (0 : Int32)
        · skip
          refine Rch.go (fun zt zk => XS.ifYes X106.here hx rfl (pc0 := 44) (pc' := 53) rfl (hb hby d6_44) rfl ((if0 _ _).trans (teq hc44_107).1) (by decide) (by decide) zk) ?_
          refine Rch.go (fun zt zk => XS.aloadN X106.here hx rfl (hb hby d6_53) rfl rfl zk) ?_
          show Rch _ _ _ _ (T106.setTop (mkF m 54 #[.val (.ref a1), .val (.int i), .val (.int e2)] [(.ref a1)]))
          refine Rch.go (fun zt zk => XS.iloadN X106.here hx rfl (hb hby d6_54) rfl zk) ?_
          refine Rch.go (fun zt zk => XS.iloadN X106.here hx rfl (hb hby d6_55) rfl zk) ?_
          have hn1 : fIsp (ch i.toNatClampNeg) = (0 : Int32) := hni (by omega)
          by_cases hth : i = (0 : Int32) ∧ e2 = zz
          · skip
            obtain ⟨cq108, kq108, q108a, q108b, q108c⟩ := isOf hZ eq106 Fl2_3
            obtain ⟨_, _, ⟨T108, L108, k108, n108⟩, -, X108, ⟨Lc108, hQ108, l108, y108, z108⟩, st108⟩ := X106.virtualBack hx (y := (⟨"java/lang/String", "substring", "(II)Ljava/lang/String;"⟩ : MethodName)) (z := (⟨"java/lang/String", "substring", "(II)Ljava/lang/String;"⟩ : MethodName)) hown (mvT hZ (ow45 hw)) (mvT hZ (ow46 hw)) (notFace_of_selects (args := #[]) (mvT hZ (ow48 hw))) (mvT hZ (ow48 hw)) (mvT hZ (ow47 hw)) (by decide) (backOf (W := 0) (rmSubT l Z a0 hw [] (a1) (i) (e2) (b0) (kb) (zz) (vs) (w2) (cz) (rG) hl2 n0 Zl2 (Fl2_0) (Fl2_1) (Fl2_2) (Fl2_3) (Fl2_4) (Fl2_5) (Fl2_6) (⟨hi0, hie1, hez, by have := hch.2.1; omega⟩) (hrG) (hcz) (hw2) (hth)) hZ (ow49 hw) (ow11 hw) (by decide) (by decide)) q108a q108c (g := (mkF m 56 #[.val (.ref a1), .val (.int i), .val (.int e2)] [(.int e2), (.int i), (.ref a1)])) rfl (by rw [hml]; rfl) (Steps.refl _) (argsL := [(.int i), (.int e2)]) (rest := []) (lenOf pd__II_Ljava_lang_String_ rfl) rfl (by show 2 * 0 + _ ≤ _; exact Nat.le_of_eq rfl) (hb hby d6_56) (fun _ _ => ⟨rfl, eq106, (by decide : 0 + 0 ≤ _), (by decide : 0 + 0 ≤ _)⟩)
            dsimp only [Pt.U, Pt.locs, Pt.cells, Pt.slots] at X108 l108 y108 z108 st108 hQ108
            rw [l108, y108, z108] at X108
            obtain ⟨rfl, N108q, eq108⟩ := hQ108
            have N108 := Fr.app N106 N108q
            refine Rch.go (fun zt zk => st108.trans zk) ?_
            obtain ⟨fs, hr, hrun, hended, qw1, qw2, qw3, hsame⟩ := Stand.leaveW (s := s) (vm₁ := s.vm) X108 ((State.WarmedH.refl s).since 0) (Nat.zero_le _) (v := some (.ref a1)) (fun h => by rw [Bd.returns] at h; cases h)
            have hend : Steps p.tables e below (T108.setTop (mkF m 59 #[.val (.ref a1), .val (.int i), .val (.int e2)] [(.ref a1)])) (T108.setFrames fs) := by
              jvm_step X108.here [X108.here.top, hx, (hb hby d6_59), X108.method', Bd.returns, Value.isRef, FieldType.isReference]
              first | (intro acts; rw [hr _ acts rfl rfl rfl]) | rw [hr _ _ rfl rfl rfl]
              exact Steps.refl _
            refine Rch.mk (hend) (hPd _ _ _ _ hrun hended rfl ?_ ⟨⟨_, rfl⟩, qw2, qw3, hsame.mono (by decide) (by decide)⟩)
            show Q_rmTsG Z a1 b0 kb zz vs w2 cz rG ch h0 n0 _ T108.heap _
            rw [eq108]
            exact ⟨⟨a1, b0, _, _, _, _, rfl, hw2, Fl2_3, Fl2_4, Fl2_5, Fl2_6, own_tThis hch (fun _ => ⟨by have q := hn1; rw [hth.1] at q; exact q, by have q := hc44_107; rw [hth.2] at q; exact q⟩)⟩, N108, Kl2⟩
          · skip
            obtain ⟨cq109, kq109, q109a, q109b, q109c⟩ := isOf hZ eq106 Fl2_3
            obtain ⟨_, _, ⟨T109, L109, k109, n109⟩, -, X109, ⟨Lc109, hQ109, l109, y109, z109⟩, st109⟩ := X106.virtualBack hx (y := (⟨"java/lang/String", "substring", "(II)Ljava/lang/String;"⟩ : MethodName)) (z := (⟨"java/lang/String", "substring", "(II)Ljava/lang/String;"⟩ : MethodName)) hown (mvT hZ (ow45 hw)) (mvT hZ (ow46 hw)) (notFace_of_selects (args := #[]) (mvT hZ (ow48 hw))) (mvT hZ (ow48 hw)) (mvT hZ (ow47 hw)) (by decide) (backOf (W := 0) (rmSubN l Z a0 hw [] (a1) (i) (e2) (b0) (kb) (zz) (vs) (w2) (cz) (rG) hl2 n0 Zl2 (Fl2_0) (Fl2_1) (Fl2_2) (Fl2_3) (Fl2_4) (Fl2_5) (Fl2_6) (⟨hi0, hie1, hez, by have := hch.2.1; omega⟩) (hrG) (hcz) (hw2) (hie) (hth)) hZ (ow49 hw) (ow11 hw) (by decide) (by decide)) q109a q109c (g := (mkF m 56 #[.val (.ref a1), .val (.int i), .val (.int e2)] [(.int e2), (.int i), (.ref a1)])) rfl (by rw [hml]; rfl) (Steps.refl _) (argsL := [(.int i), (.int e2)]) (rest := []) (lenOf pd__II_Ljava_lang_String_ rfl) rfl (by show 2 * 0 + _ ≤ _; exact Nat.le_of_eq rfl) (hb hby d6_56) (fun _ _ => ⟨rfl, eq106, (by decide : 0 + 2 ≤ _), (by decide : 0 + 12 ≤ _)⟩)
            dsimp only [Pt.U, Pt.locs, Pt.cells, Pt.slots] at X109 l109 y109 z109 st109 hQ109
            rw [l109, y109, z109] at X109
            obtain ⟨⟨r109, b109, kb109, w109, rfl, hw109, E109, C109, U109, V109⟩, N109q, K109q⟩ := hQ109
            have N109 := Fr.app N106 N109q
            have K109 := Keep.trans Kl2 K109q all0
            refine Rch.go (fun zt zk => st109.trans zk) ?_
            show Rch _ _ _ _ (T109.setTop (mkF m 59 #[.val (.ref a1), .val (.int i), .val (.int e2)] [(.ref r109)]))
            obtain ⟨fs, hr, hrun, hended, qw1, qw2, qw3, hsame⟩ := Stand.leaveW (s := s) (vm₁ := s.vm) X109 ((State.WarmedH.refl s).since 0) (Nat.zero_le _) (v := some (.ref r109)) (fun h => by rw [Bd.returns] at h; cases h)
            have hend : Steps p.tables e below (T109.setTop (mkF m 59 #[.val (.ref a1), .val (.int i), .val (.int e2)] [(.ref r109)])) (T109.setFrames fs) := by
              jvm_step X109.here [X109.here.top, hx, (hb hby d6_59), X109.method', Bd.returns, Value.isRef, FieldType.isReference]
              first | (intro acts; rw [hr _ acts rfl rfl rfl]) | rw [hr _ _ rfl rfl rfl]
              exact Steps.refl _
            refine Rch.mk (hend) (hPd _ _ _ _ hrun hended rfl ?_ ⟨⟨_, rfl⟩, qw2, qw3, hsame.mono (by decide) (by decide)⟩)
            show Q_rmTsG Z a1 b0 kb zz vs w2 cz rG ch h0 n0 _ T109.heap _
            exact ⟨⟨r109, b109, _, _, _, _, rfl, hw109, E109, C109, U109, V109, own_tNew hch hi0 hie hez hsp hse hn1 hc44_107⟩, N109, K109⟩
        · skip
          refine Rch.go (fun zt zk => XS.ifNo X106.here hx rfl (hb hby d6_44) rfl ((if0 _ _).trans (feq hc44_107).1) zk) ?_
          refine Rch.go (fun zt zk => XS.iinc X106.here hx rfl (hb hby d6_47) rfl (l' := #[.val (.ref a1), .val (.int i), .val (.int (e2 + (-1 : Int32)))]) rfl zk) ?_
          refine Rch.go (fun zt zk => XS.goto X106.here hx rfl (pc0 := 50) (pc' := 29) rfl (hb hby d6_50) (by decide) (by decide) zk) ?_
          exact ih i (e2 + (-1 : Int32)) _ _ _ X106 eq106 N106 Zl2 Kl2 Fl2_0 Fl2_1 Fl2_2 Fl2_3 Fl2_4 Fl2_5 Fl2_6 (by rw [hm1.2]; omega) hi0 (by rw [hm1.2]; omega) (by rw [hm1.2]; omega) hsp hni (fun j h1 h2 => by
            rw [hm1.2] at h1
            by_cases hj : (j : Int) < e2.toInt
            · have hjj : j = (e2 - (1 : Int32)).toNatClampNeg := by have := own_nat hlt2.1; omega
              rw [hjj]; exact hc44_107
            · exact hse j (by omega) h2)
      · skip
        refine Rch.go (fun zt zk => XS.icmpYes Xl2.here hx rfl (pc0 := 31) (pc' := 53) rfl (hb hby d6_31) rfl (flt hc31_104).2.2.2 (by decide) (by decide) zk) ?_
        show Rch _ _ _ _ (Tl2.setTop (mkF m 53 #[.val (.ref a1), .val (.int i), .val (.int e2)] []))
        refine Rch.go (fun zt zk => XS.aloadN Xl2.here hx rfl (hb hby d6_53) rfl rfl zk) ?_
        refine Rch.go (fun zt zk => XS.iloadN Xl2.here hx rfl (hb hby d6_54) rfl zk) ?_
        refine Rch.go (fun zt zk => XS.iloadN Xl2.here hx rfl (hb hby d6_55) rfl zk) ?_
        have hieq : i = e2 := Int32.toInt_inj.mp (by have q := hc31_104; rw [Int32.lt_iff_toInt_lt] at q; omega)
        have hse' : ∀ j : Nat, i.toInt ≤ (j : Int) → (j : Int) < zz.toInt → ¬ (fIsp (ch j) = (0 : Int32)) := by rw [hieq]; exact hse
        have hiz : i.toInt = zz.toInt := by
          by_cases hq : i.toInt < zz.toInt
          · exact absurd (hni hq) (hse' _ (by rw [own_nat hi0]; exact Int.le_refl _) (by rw [own_nat hi0]; exact hq))
          · omega
        by_cases h00 : i = (0 : Int32)
        · skip
          obtain ⟨cq110, kq110, q110a, q110b, q110c⟩ := isOf hZ el2 Fl2_3
          obtain ⟨_, _, ⟨T110, L110, k110, n110⟩, -, X110, ⟨Lc110, hQ110, l110, y110, z110⟩, st110⟩ := Xl2.virtualBack hx (y := (⟨"java/lang/String", "substring", "(II)Ljava/lang/String;"⟩ : MethodName)) (z := (⟨"java/lang/String", "substring", "(II)Ljava/lang/String;"⟩ : MethodName)) hown (mvT hZ (ow45 hw)) (mvT hZ (ow46 hw)) (notFace_of_selects (args := #[]) (mvT hZ (ow48 hw))) (mvT hZ (ow48 hw)) (mvT hZ (ow47 hw)) (by decide) (backOf (W := 0) (rmSubT l Z a0 hw [] (a1) (i) (e2) (b0) (kb) (zz) (vs) (w2) (cz) (rG) hl2 n0 Zl2 (Fl2_0) (Fl2_1) (Fl2_2) (Fl2_3) (Fl2_4) (Fl2_5) (Fl2_6) (⟨hi0, hie1, hez, by have := hch.2.1; omega⟩) (hrG) (hcz) (hw2) (⟨h00, Int32.toInt_inj.mp (by rw [← hieq]; exact hiz)⟩)) hZ (ow49 hw) (ow11 hw) (by decide) (by decide)) q110a q110c (g := (mkF m 56 #[.val (.ref a1), .val (.int i), .val (.int e2)] [(.int e2), (.int i), (.ref a1)])) rfl (by rw [hml]; rfl) (Steps.refl _) (argsL := [(.int i), (.int e2)]) (rest := []) (lenOf pd__II_Ljava_lang_String_ rfl) rfl (by show 2 * 0 + _ ≤ _; exact Nat.le_of_eq rfl) (hb hby d6_56) (fun _ _ => ⟨rfl, el2, (by decide : 0 + 0 ≤ _), (by decide : 0 + 0 ≤ _)⟩)
          dsimp only [Pt.U, Pt.locs, Pt.cells, Pt.slots] at X110 l110 y110 z110 st110 hQ110
          rw [l110, y110, z110] at X110
          obtain ⟨rfl, N110q, eq110⟩ := hQ110
          have N110 := Fr.app Nl2 N110q
          refine Rch.go (fun zt zk => st110.trans zk) ?_
          show Rch _ _ _ _ (T110.setTop (mkF m 59 #[.val (.ref a1), .val (.int i), .val (.int e2)] [(.ref a1)]))
          obtain ⟨fs, hr, hrun, hended, qw1, qw2, qw3, hsame⟩ := Stand.leaveW (s := s) (vm₁ := s.vm) X110 ((State.WarmedH.refl s).since 0) (Nat.zero_le _) (v := some (.ref a1)) (fun h => by rw [Bd.returns] at h; cases h)
          have hend : Steps p.tables e below (T110.setTop (mkF m 59 #[.val (.ref a1), .val (.int i), .val (.int e2)] [(.ref a1)])) (T110.setFrames fs) := by
            jvm_step X110.here [X110.here.top, hx, (hb hby d6_59), X110.method', Bd.returns, Value.isRef, FieldType.isReference]
            first | (intro acts; rw [hr _ acts rfl rfl rfl]) | rw [hr _ _ rfl rfl rfl]
            exact Steps.refl _
          refine Rch.mk (hend) (hPd _ _ _ _ hrun hended rfl ?_ ⟨⟨_, rfl⟩, qw2, qw3, hsame.mono (by decide) (by decide)⟩)
          show Q_rmTsG Z a1 b0 kb zz vs w2 cz rG ch h0 n0 _ T110.heap _
          rw [eq110]
          exact ⟨⟨a1, b0, _, _, _, _, rfl, hw2, Fl2_3, Fl2_4, Fl2_5, Fl2_6, own_tThis hch (fun h => absurd h (by rw [← hiz, h00]; decide))⟩, N110, Kl2⟩
        · skip
          obtain ⟨cq111, kq111, q111a, q111b, q111c⟩ := isOf hZ el2 Fl2_3
          obtain ⟨_, _, ⟨T111, L111, k111, n111⟩, -, X111, hS111, hgr111, ⟨Lc111, hQ111, l111, y111, z111⟩, st111⟩ := Xl2.virtualBackS hx (y := (⟨"java/lang/String", "substring", "(II)Ljava/lang/String;"⟩ : MethodName)) (z := (⟨"java/lang/String", "substring", "(II)Ljava/lang/String;"⟩ : MethodName)) hown (mvT hZ (ow45 hw)) (mvT hZ (ow46 hw)) (notFace_of_selects (args := #[]) (mvT hZ (ow48 hw))) (mvT hZ (ow48 hw)) (mvT hZ (ow47 hw)) (by decide) (own_backS (W := 0) (rmSubC l Z a0 hw [] (a1) (i) (e2) (b0) (kb) (zz) (vs) (w2) (cz) (rG) hl2 n0 Zl2 (Fl2_0) (Fl2_1) (Fl2_2) (Fl2_3) (Fl2_4) (Fl2_5) (Fl2_6) (⟨hi0, hie1, hez, by have := hch.2.1; omega⟩) (hrG) (hcz) (hw2) (⟨h00, hieq⟩) (hlit) (hcw)) hZ (ow49 hw) (ow11 hw) (by decide) (by decide)) q111a q111c (g := (mkF m 56 #[.val (.ref a1), .val (.int i), .val (.int e2)] [(.int e2), (.int i), (.ref a1)])) rfl (by rw [hml]; rfl) (Steps.refl _) (argsL := [(.int i), (.int e2)]) (rest := []) (lenOf pd__II_Ljava_lang_String_ rfl) rfl (by show 2 * 0 + _ ≤ _; exact Nat.le_of_eq rfl) (hb hby d6_56) (fun vmq hWq => ⟨rfl, el2, (by decide : 0 + 2 ≤ _), (by decide : 0 + 4 ≤ _), (State.WarmedH.interned_eq hWq).trans hI⟩)
          dsimp only [Pt.U, Pt.locs, Pt.cells, Pt.slots] at X111 l111 y111 z111 st111 hQ111 hS111 hgr111
          rw [l111, y111, z111] at X111
          have hZ : Z.Warmed39 (s.setVm T111.vm).vm := State.Warmed39.trans (t := s) hZ hS111.1
          have hown : (s.setVm T111.vm).vm.findClass "com/example/keepwire/keepwire/ResponseHead" = some m.cls := (hS111.1.alike.findClass _ _).trans hown
          obtain ⟨⟨r111, b111, kb111, w111, rfl, hw111, E111, C111, U111, V111⟩, N111q, K111q⟩ := hQ111
          have N111 := Fr.app Nl2 N111q
          have K111 := Keep.trans Kl2 K111q all0
          have ZS111 : T111.heap.size ≤ T111.heap.size := Nat.le_refl _
          refine Rch.go (fun zt zk => st111.trans zk) ?_
          obtain ⟨fs, hr, hrun, hended, qw1, qw2, qw3, hsame⟩ := Stand.leaveW (s := s) (vm₁ := T111.vm) X111 hS111 ZS111 (v := some (.ref r111)) (fun h => by rw [Bd.returns] at h; cases h)
          have hend : Steps p.tables e below (T111.setTop (mkF m 59 #[.val (.ref a1), .val (.int i), .val (.int e2)] [(.ref r111)])) (T111.setFrames fs) := by
            jvm_step X111.here [X111.here.top, hx, (hb hby d6_59), X111.method', Bd.returns, Value.isRef, FieldType.isReference]
            first | (intro acts; rw [hr _ acts rfl rfl rfl]) | rw [hr _ _ rfl rfl rfl]
            exact Steps.refl _
          refine Rch.mk (hend) (hPd _ _ _ _ hrun hended rfl ?_ ⟨⟨_, rfl⟩, qw2, qw3, hsame.mono (by decide) (by decide)⟩)
          show Q_rmTsG Z a1 b0 kb zz vs w2 cz rG ch h0 n0 _ T111.heap _
          exact ⟨⟨r111, b111, _, _, _, _, rfl, hw111, E111, C111, U111, V111, own_tCold hi0 (by omega) hsp hse'⟩, N111, K111⟩
  have l1 : ∀ (k : Nat) (i : Int32) (Tl1 : State) (Ll1 : List Loc) (hl1 : Heap) (_ : Stand p l e ({ frames := 5, cells := 2, slots := 12, locals := 102 } : Room) s m #[(.ref a1)] below meth c Tl1 Ll1 0 0) (_ : Tl1.heap = hl1) (_ : Fr n0 Ll1) (_ : n0 ≤ hl1.size) (_ : Keep h0 hl1 []) (_ : Old Z n0 hl1) (_ : Sta Z Z.heap "java/lang/String" "COMPACT_STRINGS" "Z" (.int cz)) (_ : Sta Z Z.heap "jdk/internal/util/Preconditions" "SIOOBE_FORMATTER" "Ljava/util/function/BiFunction;" rG) (_ : Exa Z hl1 a1 "java/lang/String") (_ : Fld Z hl1 a1 "java/lang/String" "coder" "B" (.int w2)) (_ : Fld Z hl1 a1 "java/lang/String" "value" "[B" (.ref b0)) (_ : Arv Z hl1 b0 kb .byte zz vs (.int (0 : Int32))), (zz.toInt - i.toInt ≤ (k : Int)) → (0 ≤ i.toInt) → (i.toInt ≤ zz.toInt) → (∀ j : Nat, (j : Int) < i.toInt → ¬ (fIsp (ch j) = (0 : Int32))) → Rch p.tables e below P (Tl1.setTop (mkF m 7 #[.val (.ref a1), .val (.int i), .val (.int zz)] [])) := by
    intro k
    induction k with
    | zero =>
      intro i Tl1 Ll1 hl1 Xl1 el1 Nl1 Zl1 Kl1 Fl1_0 Fl1_1 Fl1_2 Fl1_3 Fl1_4 Fl1_5 Fl1_6 hk hi0 hi1 hsp
      have hstop : ¬ (i < zz) := by rw [Int32.lt_iff_toInt_lt]; have := hk; omega
      refine Rch.go (fun zt zk => XS.iloadN Xl1.here hx rfl (hb hby d6_7) rfl zk) ?_
      refine Rch.go (fun zt zk => XS.iloadN Xl1.here hx rfl (hb hby d6_8) rfl zk) ?_
      refine Rch.go (fun zt zk => XS.icmpYes Xl1.here hx rfl (pc0 := 9) (pc' := 29) rfl (hb hby d6_9) rfl (flt hstop).2.1 (by decide) (by decide) zk) ?_
      show Rch _ _ _ _ (Tl1.setTop (mkF m 29 #[.val (.ref a1), .val (.int i), .val (.int zz)] []))
      exact l2 5 i zz _ _ _ Xl1 el1 Nl1 Zl1 Kl1 Fl1_0 Fl1_1 Fl1_2 Fl1_3 Fl1_4 Fl1_5 Fl1_6 (by have := hch.2.1; omega) hi0 hi1 (Int.le_refl _) hsp (fun h => absurd (Int32.lt_iff_toInt_lt.mpr h) hstop) (fun j h1 h2 => by omega)
    | succ k ih =>
      intro i Tl1 Ll1 hl1 Xl1 el1 Nl1 Zl1 Kl1 Fl1_0 Fl1_1 Fl1_2 Fl1_3 Fl1_4 Fl1_5 Fl1_6 hk hi0 hi1 hsp
      refine Rch.go (fun zt zk => XS.iloadN Xl1.here hx rfl (hb hby d6_7) rfl zk) ?_
      refine Rch.go (fun zt zk => XS.iloadN Xl1.here hx rfl (hb hby d6_8) rfl zk) ?_
      by_cases hc9_112 : i < zz
      · skip
        refine Rch.go (fun zt zk => XS.icmpNo Xl1.here hx rfl (hb hby d6_9) rfl (tlt hc9_112).2.1 zk) ?_
        refine Rch.go (fun zt zk => XS.aloadN Xl1.here hx rfl (hb hby d6_12) rfl rfl zk) ?_
        show Rch _ _ _ _ (Tl1.setTop (mkF m 13 #[.val (.ref a1), .val (.int i), .val (.int zz)] [(.ref a1)]))
        refine Rch.go (fun zt zk => XS.iloadN Xl1.here hx rfl (hb hby d6_13) rfl zk) ?_
        have hlt1 : 0 ≤ i.toInt ∧ i.toInt < zz.toInt := ⟨hi0, Int32.lt_iff_toInt_lt.mp hc9_112⟩
        obtain ⟨cq113, kq113, q113a, q113b, q113c⟩ := isOf hZ el1 Fl1_3
        obtain ⟨_, _, ⟨T113, L113, k113, n113⟩, -, X113, ⟨Lc113, hQ113, l113, y113, z113⟩, st113⟩ := Xl1.virtualBack hx (y := (⟨"java/lang/String", "charAt", "(I)C"⟩ : MethodName)) (z := (⟨"java/lang/String", "charAt", "(I)C"⟩ : MethodName)) hown (mvT hZ (ow73 hw)) (mvT hZ (ow74 hw)) (notFace_of_selects (args := #[]) (mvT hZ (ow76 hw))) (mvT hZ (ow76 hw)) (mvT hZ (ow75 hw)) (by decide) (backOf (W := 0) (rm16 l Z a0 hw [] (a1) (i) (b0) (kb) (zz) (vs) (w2) (cz) ((ch i.toNatClampNeg)) (rG) hl1 n0 Zl1 (Fl1_0) (Fl1_1) (Fl1_2) (Fl1_3) (Fl1_4) (Fl1_5) (Fl1_6) (hlt1) ((hch.2.2 _ (by rw [own_nat hlt1.1]; exact hlt1.2)).1) ((hch.2.2 _ (by rw [own_nat hlt1.1]; exact hlt1.2)).2) (hrG) (hcz) (hw2)) hZ (ow77 hw) (ow11 hw) (by decide) (by decide)) q113a q113c (g := (mkF m 14 #[.val (.ref a1), .val (.int i), .val (.int zz)] [(.int i), (.ref a1)])) rfl (by rw [hml]; rfl) (Steps.refl _) (argsL := [(.int i)]) (rest := []) (lenOf pd__I_C rfl) rfl (by show 2 * 0 + _ ≤ _; exact Nat.le_of_eq rfl) (hb hby d6_14) (fun _ _ => ⟨rfl, el1, (by decide : 0 + 0 ≤ _), (by decide : 0 + 0 ≤ _)⟩)
        dsimp only [Pt.U, Pt.locs, Pt.cells, Pt.slots] at X113 l113 y113 z113 st113 hQ113
        rw [l113, y113, z113] at X113
        obtain ⟨rfl, N113q, eq113⟩ := hQ113
        have N113 := Fr.app Nl1 N113q
        refine Rch.go (fun zt zk => st113.trans zk) ?_
        obtain ⟨_, _, ⟨T114, L114, k114, n114⟩, -, X114, ⟨Lc114, hQ114, l114, y114, z114⟩, st114⟩ := Jvm.LawKit.callS X113 hx (y := (⟨"com/example/keepwire/keepwire/ResponseHead", "isSpace", "(C)Z"⟩ : MethodName)) hown (mvT hZ (ow93 hw)) (mvT hZ (ow94 hw)) (mvT hZ (ow32 hw)) (mvT hZ (ow95 hw)) (by decide) (backOf (W := 0) (rm21 l Z a0 hw [] (ch i.toNatClampNeg) hl1 n0 Zl1 ) hZ (ow95 hw) (ow32 hw) (by decide) (by decide)) (g := (mkF m 17 #[.val (.ref a1), .val (.int i), .val (.int zz)] [(.int (ch i.toNatClampNeg))])) rfl (by rw [hml]; rfl) (argsL := [(.int (ch i.toNatClampNeg))]) (rest := []) (lenOf pd__C_Z rfl) rfl (by show 2 * 0 + _ ≤ _; exact Nat.le_of_eq rfl) (hb hby d6_17) (fun _ _ => ⟨rfl, eq113, (by decide : 0 + 0 ≤ _), (by decide : 0 + 0 ≤ _)⟩)
        dsimp only [Pt.U, Pt.locs, Pt.cells, Pt.slots] at X114 l114 y114 z114 st114 hQ114
        rw [l114, y114, z114] at X114
        obtain ⟨rfl, N114q, eq114⟩ := hQ114
        have N114 := Fr.app N113 N114q
        refine Rch.go st114 ?_
        by_cases hc20_115 : (fIsp (ch i.toNatClampNeg)) = (0 : Int32)
        · skip
          refine Rch.go (fun zt zk => XS.ifYes X114.here hx rfl (pc0 := 20) (pc' := 29) rfl (hb hby d6_20) rfl ((if0 _ _).trans (teq hc20_115).1) (by decide) (by decide) zk) ?_
          show Rch _ _ _ _ (T114.setTop (mkF m 29 #[.val (.ref a1), .val (.int i), .val (.int zz)] []))
          exact l2 5 i zz _ _ _ X114 eq114 N114 Zl1 Kl1 Fl1_0 Fl1_1 Fl1_2 Fl1_3 Fl1_4 Fl1_5 Fl1_6 (by have := hch.2.1; omega) hi0 hi1 (Int.le_refl _) hsp (fun _ => hc20_115) (fun j h1 h2 => by omega)
        · skip
          refine Rch.go (fun zt zk => XS.ifNo X114.here hx rfl (hb hby d6_20) rfl ((if0 _ _).trans (feq hc20_115).1) zk) ?_
          refine Rch.go (fun zt zk => XS.iinc X114.here hx rfl (hb hby d6_23) rfl (l' := #[.val (.ref a1), .val (.int (i + (1 : Int32))), .val (.int zz)]) rfl zk) ?_
          refine Rch.go (fun zt zk => XS.goto X114.here hx rfl (pc0 := 26) (pc' := 7) rfl (hb hby d6_26) (by decide) (by decide) zk) ?_
          have hpp := own_p1 hlt1.2
          exact ih (i + (1 : Int32)) _ _ _ X114 eq114 N114 Zl1 Kl1 Fl1_0 Fl1_1 Fl1_2 Fl1_3 Fl1_4 Fl1_5 Fl1_6 (by omega) (by omega) (by omega) (fun j hj => by
            by_cases hjj : (j : Int) < i.toInt
            · exact hsp j hjj
            · have hje : j = i.toNatClampNeg := by have := own_nat hi0; omega
              rw [hje]; exact hc20_115)
      · skip
        refine Rch.go (fun zt zk => XS.icmpYes Xl1.here hx rfl (pc0 := 9) (pc' := 29) rfl (hb hby d6_9) rfl (flt hc9_112).2.1 (by decide) (by decide) zk) ?_
        show Rch _ _ _ _ (Tl1.setTop (mkF m 29 #[.val (.ref a1), .val (.int i), .val (.int zz)] []))
        exact l2 5 i zz _ _ _ Xl1 el1 Nl1 Zl1 Kl1 Fl1_0 Fl1_1 Fl1_2 Fl1_3 Fl1_4 Fl1_5 Fl1_6 (by have := hch.2.1; omega) hi0 hi1 (Int.le_refl _) hsp (fun h => absurd (Int32.lt_iff_toInt_lt.mpr h) hc9_112) (fun j h1 h2 => by omega)
  exact l1 5 _ _ _ _ X101 eq101 N101 Z0 (Keep.refl h0 []) P0 P1 P2 P3 P4 P5 P6 (by have := hch.2.1; have e0 := own_e0; omega) (by decide) (by rw [own_e0]; exact hch.1) (fun j hj => by rw [own_e0] at hj; omega)
def cf5 (c0 c1 c2 c3 c4 : Int32) (i : Nat) : Int32 := [c0, c1, c2, c3, c4].getD i (0 : Int32)
def stS (v k ln c prev : Int32) : Int32 := if k < ln then (if (fSp c) = (0 : Int32) then v else prev) else prev
def InvS (ch : Nat → Int32) (ln : Int32) (k : Nat) (s : Int32) : Prop := 0 ≤ s.toInt ∧ s.toInt ≤ ln.toInt ∧ (∀ j : Nat, k ≤ j → (j : Int) < s.toInt → ¬ (fIsp (ch j) = (0 : Int32))) ∧ (s.toInt < ln.toInt → (k : Int) ≤ s.toInt ∧ fIsp (ch s.toNatClampNeg) = (0 : Int32))
def InvE (ch : Nat → Int32) (ln : Int32) (k : Nat) (e : Int32) : Prop := 0 ≤ e.toInt ∧ e.toInt ≤ ln.toInt ∧ e.toInt ≤ (k : Int) ∧ (∀ j : Nat, e.toInt ≤ (j : Int) → j < k → (j : Int) < ln.toInt → ¬ (fIsp (ch j) = (0 : Int32))) ∧ (0 < e.toInt → fIsp (ch (e - (1 : Int32)).toNatClampNeg) = (0 : Int32))
theorem own_stS {ch : Nat → Int32} {ln k c s : Int32} {n : Nat} (hk : k.toInt = (n : Int)) (hc : ch n = c) (h : InvS ch ln (n + 1) s) : InvS ch ln n (stS k k ln c s) := by
  obtain ⟨h0, h1, h2, h3⟩ := h
  have hn : k.toNatClampNeg = n := by simp only [Int32.toNatClampNeg]; omega
  unfold stS
  by_cases q1 : k < ln
  · have q1' := Int32.lt_iff_toInt_lt.mp q1
    rw [if_pos q1]
    by_cases q2 : (fSp c) = (0 : Int32)
    · rw [if_pos q2]
      exact ⟨by omega, by omega, fun j a b => by omega, fun _ => ⟨by omega, by rw [hn, hc]; exact q2⟩⟩
    · rw [if_neg q2]
      refine ⟨h0, h1, fun j a b => ?_, fun a => ⟨by have := (h3 a).1; omega, (h3 a).2⟩⟩
      by_cases e : j = n
      · rw [e, hc]; exact q2
      · exact h2 j (by omega) b
  · rw [if_neg q1]
    rw [Int32.lt_iff_toInt_lt] at q1
    exact ⟨h0, h1, fun j a b => by omega, fun a => by have := (h3 a).1; omega⟩
theorem own_stE {ch : Nat → Int32} {ln k v c e : Int32} {n : Nat} (hk : k.toInt = (n : Int)) (hv : v.toInt = (n : Int) + 1) (hvk : v - (1 : Int32) = k) (hc : ch n = c) (h : InvE ch ln n e) : InvE ch ln (n + 1) (stS v k ln c e) := by
  obtain ⟨h0, h1, h2, h3, h4⟩ := h
  have hn : k.toNatClampNeg = n := by simp only [Int32.toNatClampNeg]; omega
  unfold stS
  by_cases q1 : k < ln
  · have q1' := Int32.lt_iff_toInt_lt.mp q1
    rw [if_pos q1]
    by_cases q2 : (fSp c) = (0 : Int32)
    · rw [if_pos q2]
      exact ⟨by omega, by omega, by omega, fun j a b _ => by omega, fun _ => by rw [hvk, hn, hc]; exact q2⟩
    · rw [if_neg q2]
      refine ⟨h0, h1, by omega, fun j a b d => ?_, h4⟩
      by_cases e' : j = n
      · rw [e', hc]; exact q2
      · exact h3 j a (by omega) d
  · rw [if_neg q1]
    rw [Int32.lt_iff_toInt_lt] at q1
    exact ⟨h0, h1, by omega, fun j a b d => h3 j a (by omega) d, h4⟩
theorem own_i0 {ch : Nat → Int32} {ln : Int32} (h : 0 ≤ ln.toInt ∧ ln.toInt ≤ 5) : InvS ch ln 5 ln := ⟨h.1, Int.le_refl _, fun j a b => by omega, fun a => by omega⟩
theorem own_e0' {ch : Nat → Int32} {ln : Int32} (h : 0 ≤ ln.toInt ∧ ln.toInt ≤ 5) : InvE ch ln 0 (0 : Int32) := by
  have e0 := own_e0
  exact ⟨by omega, by omega, by omega, fun j a b => by omega, fun a => by omega⟩
/-- the plain law: what the law reckons is what was cut -/
theorem own_final {ch : Nat → Int32} {ln s e m : Int32} {vs : List Value} (hl : 0 ≤ ln.toInt ∧ ln.toInt ≤ 5) (S : InvS ch ln 0 s) (E : InvE ch ln 5 e) (T : TrimOK ln ch m vs) :
    (s < e → e - s = m ∧ 0 ≤ s.toInt ∧ s.toInt + m.toInt ≤ ln.toInt ∧ ∀ j : Nat, (j : Int) < m.toInt → vs.getD j (.int (0 : Int32)) = .int (bOf (ch (s.toNatClampNeg + j)))) ∧ (¬ s < e → (0 : Int32) = m) := by
  obtain ⟨s0, s1, s2, s3⟩ := S
  obtain ⟨e0, e1, -, e3, e4⟩ := E
  obtain ⟨bi, ei, t0, t1, t2, t3, t4, t5, t6, t7⟩ := T
  have nb := own_nat t0
  have ns := own_nat s0
  by_cases hlt : bi.toInt < ei.toInt
  · obtain ⟨n1, n2⟩ := t5 hlt
    have m1 := (own_m1 (e := ei) (by omega)).1
    have nm := own_nat (i := ei - (1 : Int32)) (by omega)
    have hs : s = bi := by
      apply Int32.toInt_inj.mp
      by_cases a : s.toInt < bi.toInt
      · exact absurd ((s3 (by omega)).2) (t3 _ (by omega))
      · by_cases b : bi.toInt < s.toInt
        · exact absurd n1 (s2 _ (Nat.zero_le _) (by omega))
        · omega
    have he : e = ei := by
      apply Int32.toInt_inj.mp
      by_cases a : e.toInt < ei.toInt
      · exact absurd n2 (e3 _ (by omega) (by omega) (by omega))
      · by_cases b : ei.toInt < e.toInt
        · have m2 := (own_m1 (e := e) (by omega)).1
          have nn := own_nat (i := e - (1 : Int32)) (by omega)
          exact absurd (e4 (by omega)) (t4 _ (by omega) (by omega))
        · omega
    subst hs he
    have hsub := own_sub t0 t1
    exact ⟨fun _ => ⟨t6.symm, t0, by rw [t6]; omega, t7⟩, fun h => absurd (own_lt hlt) h⟩
  · have hsp : ∀ j : Nat, (j : Int) < ln.toInt → ¬ (fIsp (ch j) = (0 : Int32)) := fun j hj => by
      by_cases a : (j : Int) < bi.toInt
      · exact t3 j a
      · exact t4 j (by omega) hj
    have hm : m = (0 : Int32) := by rw [t6]; apply Int32.toInt_inj.mp; rw [own_sub t0 t1, own_e0]; omega
    have hs : ¬ s.toInt < ln.toInt := fun a => hsp _ (by omega) (s3 a).2
    have he : ¬ 0 < e.toInt := fun a => by
      have m2 := (own_m1 (e := e) a).1
      have nn := own_nat (i := e - (1 : Int32)) (by omega)
      exact hsp _ (by omega) (e4 a)
    exact ⟨fun a => by rw [Int32.lt_iff_toInt_lt] at a; omega, fun _ => hm.symm⟩
def AtOK (vs cv : List Value) (zz s m k : Int32) : Prop := k < m → (0 ≤ k.toInt ∧ k.toInt < zz.toInt) ∧ ∃ c : Int32, vs.getD k.toNatClampNeg (.int (0 : Int32)) = .int (bOf c) ∧ R8 c ∧ (¬ ((s + k) < (0 : Int32)) ∧ (s + k) < (5 : Int32)) ∧ cv.getD (s + k).toNatClampNeg (.int (0 : Int32)) = .int c
theorem ef_rmAtA (m : MethodId) (a1 : Addr) (ca : Addr) (p1 : Int32) (p2 : Int32) (k1 : Int32) : entryFrame m #[(.ref a1), (.ref ca), (.int p1), (.int p2), (.int k1)] 5 = mkF m 0 #[.val (.ref a1), .val (.ref ca), .val (.int p1), .val (.int p2), .val (.int k1)] [] := by first | (simp [entryFrame, mkF, argsToLocals, Value.category]; done) | rfl
def Q_rmAtA (Z : State) (a1 : Addr) (ca : Addr) (p1 : Int32) (p2 : Int32) (k1 : Int32) (b0 : Addr) (kb : ClassId) (zz : Int32) (vs : List Value) (w2 : Int32) (cz : Int32) (rG : Value) (kc : ClassId) (cv : List Value) (h0 : Heap) (n0 : Nat) (v : Option Value) (h : Heap) (L : List Loc) : Prop := v = some (.int (1 : Int32)) ∧ Fr n0 L ∧ h = h0
set_option maxRecDepth 65536 in
set_option maxHeartbeats 40000000 in
theorem rmAtA (l : Launch) (Z : State) (a0 : Array Value) (hw : ∀ d ∈ tables_1, d.before a0 Z = true) (ws : List Jvm.Cond) (a1 : Addr) (ca : Addr) (p1 : Int32) (p2 : Int32) (k1 : Int32) (b0 : Addr) (kb : ClassId) (zz : Int32) (vs : List Value) (w2 : Int32) (cz : Int32) (rG : Value) (kc : ClassId) (cv : List Value) (h0 : Heap) (n0 : Nat) (Z0 : n0 ≤ h0.size) (P0 : Old Z n0 h0) (P1 : Sta Z Z.heap "java/lang/String" "COMPACT_STRINGS" "Z" (.int cz)) (P2 : Sta Z Z.heap "jdk/internal/util/Preconditions" "SIOOBE_FORMATTER" "Ljava/util/function/BiFunction;" rG) (P3 : Exa Z h0 a1 "java/lang/String") (P4 : Fld Z h0 a1 "java/lang/String" "coder" "B" (.int w2)) (P5 : Fld Z h0 a1 "java/lang/String" "value" "[B" (.ref b0)) (P6 : Arv Z h0 b0 kb .byte zz vs (.int (0 : Int32))) (P7 : Arv Z h0 ca kc .char (5 : Int32) cv (.int (0 : Int32))) (hat : AtOK vs cv zz p1 p2 k1) (hrG : rG.isRef = true) (hcz : ¬ (cz = (0 : Int32))) (hw2 : w2 = (0 : Int32)) :
    MetFree l (⟨"com/example/keepwire/keepwire/ResponseHeadTrimSpacesPinLaw", "at", "(Ljava/lang/String;[CIII)Z"⟩ : MethodName) (head1 (Jvm.Cond.code (⟨"com/example/keepwire/keepwire/ResponseHeadTrimSpacesPinLaw", "at", "(Ljava/lang/String;[CIII)Z"⟩ : MethodName) method_3_code 5 (some .boolean) :: ws) ({ frames := 4, cells := 0, slots := 0, locals := 53 } : Room)) (fun a U => a = #[(.ref a1), (.ref ca), (.int p1), (.int p2), (.int k1)] ∧ Z.Warmed39 U.vm ∧ U.heap = h0) (fun _ _ _ _ _ => True) (fun _ U o U' => ∃ v L, o = .returned v ∧ Q_rmAtA Z a1 ca p1 p2 k1 b0 kb zz vs w2 cz rG kc cv h0 n0 v U'.heap L ∧ FrameEnd U o U' L ({ frames := 4, cells := 0, slots := 0, locals := 53 } : Room).cells ({ frames := 4, cells := 0, slots := 0, locals := 53 } : Room).slots) := by
  refine MetFree.of_bodySF (plainFor_of_name pn_com_example_keepwire_keepwire_ResponseHeadTrimSpacesPinLaw) hisR ?_
  intro p e s m args below meth c s₁ Bd hml0 hP hK
  obtain ⟨rfl, hZ, hh⟩ := hP
  have hx := Bd.exec
  have hby := Bd.bytes
  have hml : c.maxLocals = 5 := hml0
  have hown : s.vm.findClass "com/example/keepwire/keepwire/ResponseHeadTrimSpacesPinLaw" = some m.cls := findClass_of_methodNamed Bd.named
  have hnm := (name_of_methodNamed Bd.named Bd.method).1
  have X0 : Stand p l e ({ frames := 4, cells := 0, slots := 0, locals := 53 } : Room) s m #[(.ref a1), (.ref ca), (.int p1), (.int p2), (.int k1)] below meth c s₁ [] 0 0 := Stand.of_body Bd
  have e0 : s₁.heap = h0 := by rw [← hh, Bd.state]; rfl
  have N0 := Fr.nil n0
  suffices hR : ∀ P : State → Prop, (∀ s₂ o v L, s₂.status = .running → Ended s₂ below o → o = .returned v → Q_rmAtA Z a1 ca p1 p2 k1 b0 kb zz vs w2 cz rG kc cv h0 n0 v s₂.heap L → FrameEnd s o s₂ L ({ frames := 4, cells := 0, slots := 0, locals := 53 } : Room).cells ({ frames := 4, cells := 0, slots := 0, locals := 53 } : Room).slots → P s₂) → Rch p.tables e below P (s₁.setTop (mkF m 0 #[.val (.ref a1), .val (.ref ca), .val (.int p1), .val (.int p2), .val (.int k1)] [])) by
    obtain ⟨s₂, h1, o, h2⟩ := hR (fun s₂ => ∃ o, s₂.status = .running ∧ Ended s₂ below o ∧ ∃ v L, o = .returned v ∧ Q_rmAtA Z a1 ca p1 p2 k1 b0 kb zz vs w2 cz rG kc cv h0 n0 v s₂.heap L ∧ FrameEnd s o s₂ L ({ frames := 4, cells := 0, slots := 0, locals := 53 } : Room).cells ({ frames := 4, cells := 0, slots := 0, locals := 53 } : Room).slots) (fun s₂ o v L q1 q2 q3 q4 q5 => ⟨o, q1, q2, v, L, q3, q4, q5⟩)
    exact ⟨s₂, o, castTop (ef_rmAtA m a1 ca p1 p2 k1) h1, h2⟩
  intro P hPd
  refine Rch.go (fun zt zk => XS.iload X0.here hx rfl (hb hby d12_0) rfl zk) ?_
  refine Rch.go (fun zt zk => XS.iloadN X0.here hx rfl (hb hby d12_2) rfl zk) ?_
  by_cases hc3_101 : k1 < p2
  · skip
    refine Rch.go (fun zt zk => XS.icmpNo X0.here hx rfl (hb hby d12_3) rfl (tlt hc3_101).2.1 zk) ?_
    obtain ⟨hk, c1, hbv, hc, hin, hcv⟩ := hat hc3_101
    refine Rch.go (fun zt zk => XS.aloadN X0.here hx rfl (hb hby d12_6) rfl rfl zk) ?_
    show Rch _ _ _ _ (s₁.setTop (mkF m 7 #[.val (.ref a1), .val (.ref ca), .val (.int p1), .val (.int p2), .val (.int k1)] [(.ref a1)]))
    refine Rch.go (fun zt zk => XS.iload X0.here hx rfl (hb hby d12_7) rfl zk) ?_
    obtain ⟨cq102, kq102, q102a, q102b, q102c⟩ := isOf hZ e0 P3
    obtain ⟨_, _, ⟨T102, L102, k102, n102⟩, -, X102, ⟨Lc102, hQ102, l102, y102, z102⟩, st102⟩ := X0.virtualBack hx (y := (⟨"java/lang/String", "charAt", "(I)C"⟩ : MethodName)) (z := (⟨"java/lang/String", "charAt", "(I)C"⟩ : MethodName)) hown (mvT hZ (ow124 hw)) (mvT hZ (ow74 hw)) (notFace_of_selects (args := #[]) (mvT hZ (ow76 hw))) (mvT hZ (ow76 hw)) (mvT hZ (ow75 hw)) (by decide) (backOf (W := 0) (rm16 l Z a0 hw [] (a1) (k1) (b0) (kb) (zz) (vs) (w2) (cz) (c1) (rG) h0 n0 Z0 (P0) (P1) (P2) (P3) (P4) (P5) (P6) (hk) (hbv) (hc) (hrG) (hcz) (hw2)) hZ (ow77 hw) (ow11 hw) (by decide) (by decide)) q102a q102c (g := (mkF m 9 #[.val (.ref a1), .val (.ref ca), .val (.int p1), .val (.int p2), .val (.int k1)] [(.int k1), (.ref a1)])) rfl (by rw [hml]; rfl) (Steps.refl _) (argsL := [(.int k1)]) (rest := []) (lenOf pd__I_C rfl) rfl (by show 2 * 0 + _ ≤ _; exact Nat.le_of_eq rfl) (hb hby d12_9) (fun _ _ => ⟨rfl, e0, (by decide : 0 + 0 ≤ _), (by decide : 0 + 0 ≤ _)⟩)
    dsimp only [Pt.U, Pt.locs, Pt.cells, Pt.slots] at X102 l102 y102 z102 st102 hQ102
    rw [l102, y102, z102] at X102
    obtain ⟨rfl, N102q, eq102⟩ := hQ102
    have N102 := Fr.app N0 N102q
    refine Rch.go (fun zt zk => st102.trans zk) ?_
    refine Rch.go (fun zt zk => XS.aloadN X102.here hx rfl (hb hby d12_12) rfl rfl zk) ?_
    refine Rch.go (fun zt zk => XS.iloadN X102.here hx rfl (hb hby d12_13) rfl zk) ?_
    show Rch _ _ _ _ (T102.setTop (mkF m 14 #[.val (.ref a1), .val (.ref ca), .val (.int p1), .val (.int p2), .val (.int k1)] [(.int p1), (.ref ca), (.int c1)]))
    refine Rch.go (fun zt zk => XS.iload X102.here hx rfl (hb hby d12_14) rfl zk) ?_
    refine Rch.go (fun zt zk => XS.iadd X102.here hx rfl (hb hby d12_16) rfl zk) ?_
    obtain ⟨cl103, Ar103, q103, S103, M103, H103, G103⟩ := id P7
    have hin103 := inb_of (j := (p1 + k1)) S103 hin
    refine Rch.go (X102.caload hx (j := (p1 + k1)) (v := (.int c1)) (by rw [eq102]; exact Ar103.1) (State.isArrayOf_alike hZ.alike Ar103.2.1) Ar103.2.2 hin103 (Has.at H103 hin103 hcv) (g := (mkF m 17 #[.val (.ref a1), .val (.ref ca), .val (.int p1), .val (.int p2), .val (.int k1)] [(.int (p1 + k1)), (.ref ca), (.int c1)])) rfl rfl (hb hby d12_17)) ?_
    refine Rch.go (fun zt zk => XS.icmpNo X102.here hx rfl (hb hby d12_18) rfl (teq (rfl : c1 = c1)).2 zk) ?_
    show Rch _ _ _ _ (T102.setTop (mkF m 21 #[.val (.ref a1), .val (.ref ca), .val (.int p1), .val (.int p2), .val (.int k1)] []))
    refine Rch.go (fun zt zk => XS.iconst X102.here hx rfl (hb hby d12_21) zk) ?_
    refine Rch.go (fun zt zk => XS.goto X102.here hx rfl (pc0 := 22) (pc' := 26) rfl (hb hby d12_22) (by decide) (by decide) zk) ?_
    obtain ⟨fs, hr, hrun, hended, hW, hsame⟩ := X102.leave (v := some (.int (1 : Int32))) (fun h => by rw [Bd.returns] at h; cases h)
    refine Rch.mk (retN X102 hx (t := .boolean) Bd.returns (by simp) (hb hby d12_26) hr) (hPd _ _ _ _ hrun hended rfl ?_ ⟨⟨_, rfl⟩, hW, hsame.mono (by decide) (by decide)⟩)
    show Q_rmAtA Z a1 ca p1 p2 k1 b0 kb zz vs w2 cz rG kc cv h0 n0 _ T102.heap _
    rw [eq102]
    exact ⟨rfl, N102, rfl⟩
  · skip
    refine Rch.go (fun zt zk => XS.icmpYes X0.here hx rfl (pc0 := 3) (pc' := 21) rfl (hb hby d12_3) rfl (flt hc3_101).2.1 (by decide) (by decide) zk) ?_
    refine Rch.go (fun zt zk => XS.iconst X0.here hx rfl (hb hby d12_21) zk) ?_
    show Rch _ _ _ _ (s₁.setTop (mkF m 22 #[.val (.ref a1), .val (.ref ca), .val (.int p1), .val (.int p2), .val (.int k1)] [(.int (1 : Int32))]))
    refine Rch.go (fun zt zk => XS.goto X0.here hx rfl (pc0 := 22) (pc' := 26) rfl (hb hby d12_22) (by decide) (by decide) zk) ?_
    obtain ⟨fs, hr, hrun, hended, hW, hsame⟩ := X0.leave (v := some (.int (1 : Int32))) (fun h => by rw [Bd.returns] at h; cases h)
    refine Rch.mk (retN X0 hx (t := .boolean) Bd.returns (by simp) (hb hby d12_26) hr) (hPd _ _ _ _ hrun hended rfl ?_ ⟨⟨_, rfl⟩, hW, hsame.mono (by decide) (by decide)⟩)
    show Q_rmAtA Z a1 ca p1 p2 k1 b0 kb zz vs w2 cz rG kc cv h0 n0 _ s₁.heap _
    rw [e0]
    exact ⟨rfl, N0, rfl⟩
theorem own_six {p z : Int32} (h : z = (p &&& (2147483647 : Int32)) % (6 : Int32)) : z = (0 : Int32) ∨ z = (1 : Int32) ∨ z = (2 : Int32) ∨ z = (3 : Int32) ∨ z = (4 : Int32) ∨ z = (5 : Int32) := by
  have h1 := c_mask p (2147483647 : Int32) 31 (by decide) (by decide)
  have h2 : z.toInt = (p &&& (2147483647 : Int32)).toInt.tmod 6 := by
    rw [h, Int32.toInt_mod]; rfl
  have h3 : 0 ≤ (p &&& (2147483647 : Int32)).toInt := by omega
  rw [Int.tmod_eq_emod_of_nonneg h3] at h2
  have e : ∀ k : Int32, z.toInt = k.toInt → z = k := fun k q => Int32.toInt_inj.mp q
  have c0 : (0 : Int32).toInt = 0 := by decide
  have c1 : (1 : Int32).toInt = 1 := by decide
  have c2 : (2 : Int32).toInt = 2 := by decide
  have c3 : (3 : Int32).toInt = 3 := by decide
  have c4 : (4 : Int32).toInt = 4 := by decide
  have c5 : (5 : Int32).toInt = 5 := by decide
  have hr : z.toInt = 0 ∨ z.toInt = 1 ∨ z.toInt = 2 ∨ z.toInt = 3 ∨ z.toInt = 4 ∨ z.toInt = 5 := by omega
  rcases hr with q | q | q | q | q | q
  · exact Or.inl (e _ (by omega))
  · exact Or.inr (Or.inl (e _ (by omega)))
  · exact Or.inr (Or.inr (Or.inl (e _ (by omega))))
  · exact Or.inr (Or.inr (Or.inr (Or.inl (e _ (by omega)))))
  · exact Or.inr (Or.inr (Or.inr (Or.inr (Or.inl (e _ (by omega))))))
  · exact Or.inr (Or.inr (Or.inr (Or.inr (Or.inr (e _ (by omega))))))
theorem own_r5 {c0 c1 c2 c3 c4 : Int32} (r0 : R8 c0) (r1 : R8 c1) (r2 : R8 c2) (r3 : R8 c3) (r4 : R8 c4) (i : Nat) (h : i < 5) : R8 (cf5 c0 c1 c2 c3 c4 i) := by
  rcases i with _ | _ | _ | _ | _ | i
  · exact r0
  · exact r1
  · exact r2
  · exact r3
  · exact r4
  · omega
theorem own_cv {c0 c1 c2 c3 c4 : Int32} (i : Nat) : [Value.int c0, .int c1, .int c2, .int c3, .int c4].getD i (.int (0 : Int32)) = .int (cf5 c0 c1 c2 c3 c4 i) := by
  rcases i with _ | _ | _ | _ | _ | i <;> rfl
theorem own_at {c0 c1 c2 c3 c4 ln s m : Int32} {vs : List Value} (r0 : R8 c0) (r1 : R8 c1) (r2 : R8 c2) (r3 : R8 c3) (r4 : R8 c4) (hl : ln.toInt ≤ 5) (h0 : 0 ≤ s.toInt) (hm : s.toInt + m.toInt ≤ ln.toInt)
    (hv : ∀ j : Nat, (j : Int) < m.toInt → vs.getD j (.int (0 : Int32)) = .int (bOf (cf5 c0 c1 c2 c3 c4 (s.toNatClampNeg + j)))) (k : Int32) (hk0 : 0 ≤ k.toInt) : AtOK vs [.int c0, .int c1, .int c2, .int c3, .int c4] m s m k := fun hk => by
  have hk' := Int32.lt_iff_toInt_lt.mp hk
  have nk := own_nat hk0
  have ns := own_nat h0
  have ha := c_iadd s k; have hr := rng32 (s + k)
  have hadd : (s + k).toInt = s.toInt + k.toInt := by omega
  have na := own_nat (i := s + k) (by omega)
  have e5 : (5 : Int32).toInt = 5 := by decide
  refine ⟨⟨hk0, hk'⟩, cf5 c0 c1 c2 c3 c4 (s.toNatClampNeg + k.toNatClampNeg), hv _ (by omega), own_r5 r0 r1 r2 r3 r4 _ (by omega), ⟨own_nneg (by omega), own_lt (by omega)⟩, ?_⟩
  rw [show (s + k).toNatClampNeg = s.toNatClampNeg + k.toNatClampNeg by omega]
  exact own_cv _
theorem ef_rm0 (m : MethodId) (p1 : Int32) (p2 : Int32) (p3 : Int32) (p4 : Int32) (p5 : Int32) (p6 : Int32) : entryFrame m #[(.int p1), (.int p2), (.int p3), (.int p4), (.int p5), (.int p6)] maxLocals = mkF m 0 #[.val (.int p1), .val (.int p2), .val (.int p3), .val (.int p4), .val (.int p5), .val (.int p6), .unset, .unset, .unset, .unset, .unset, .unset, .unset] [] := by first | (simp [entryFrame, mkF, argsToLocals, Value.category, maxLocals]; done) | rfl
theorem pd__Ljava_lang_String__CIII_Z : parseMethodDescriptor "(Ljava/lang/String;[CIII)Z" = some ⟨[(.object "java/lang/String"), (.array .char), .int, .int, .int], some .boolean⟩ := by decide +kernel
theorem pd__I_C_Ljava_lang_String_ : parseMethodDescriptor "(I[C)Ljava/lang/String;" = some ⟨[.int, (.array .char)], some (.object "java/lang/String")⟩ := by decide +kernel
theorem pd__Ljava_lang_String__Ljava_lang_String_ : parseMethodDescriptor "(Ljava/lang/String;)Ljava/lang/String;" = some ⟨[(.object "java/lang/String")], some (.object "java/lang/String")⟩ := by decide +kernel
def Q_rm0 (Z : State) (p1 : Int32) (p2 : Int32) (p3 : Int32) (p4 : Int32) (p5 : Int32) (p6 : Int32) (cz : Int32) (rG : Value) (h0 : Heap) (n0 : Nat) (v : Option Value) (h : Heap) (L : List Loc) : Prop := v = some (.int (1 : Int32)) ∧ Fr n0 L
set_option maxRecDepth 65536 in
set_option maxHeartbeats 40000000 in
theorem rm0 (l : Launch) (Z : State) (a0 : Array Value) (hw : ∀ d ∈ tables_1, d.before a0 Z = true) (ws : List Jvm.Cond) (p1 : Int32) (p2 : Int32) (p3 : Int32) (p4 : Int32) (p5 : Int32) (p6 : Int32) (cz : Int32) (rG : Value) (h0 : Heap) (n0 : Nat) (Z0 : n0 ≤ h0.size) (PO : Old Z n0 h0) (PZ : Sta Z Z.heap "java/lang/String" "COMPACT_STRINGS" "Z" (.int cz)) (PF : Sta Z Z.heap "jdk/internal/util/Preconditions" "SIOOBE_FORMATTER" "Ljava/util/function/BiFunction;" rG) (hcz : ¬ (cz = (0 : Int32))) (hrG : rG.isRef = true) (hlit : Jvm.Lit.constHeld Z "java/lang/String" 7) (hlit2 : Jvm.Lit.constHeld Z "java/lang/StringLatin1" 151) (hcw : Jvm.Lit.compactW.before a0 Z = true) :
    MetFree l x (head1 (Jvm.Cond.code x code maxLocals ret :: ws) room_1) (fun a U => a = #[(.int p1), (.int p2), (.int p3), (.int p4), (.int p5), (.int p6)] ∧ Z.Warmed39 U.vm ∧ U.heap = h0 ∧ U.vm.interned = Z.vm.interned) (fun _ _ _ _ _ => True) (fun _ U o U' => ∃ v L, o = .returned v ∧ Q_rm0 Z p1 p2 p3 p4 p5 p6 cz rG h0 n0 v U'.heap L ∧ ReturnedEndW U o U' L room_1.cells room_1.slots) := by
  refine MetFree.of_bodySF (plainFor_of_name pn_com_example_keepwire_keepwire_ResponseHeadTrimSpacesPinLaw) hisR ?_
  intro p e s m args below meth c s₁ Bd hml0 hP hK
  obtain ⟨rfl, hZ, hh, hI⟩ := hP
  have hx := Bd.exec
  have hby := Bd.bytes
  have hml : c.maxLocals = 13 := hml0
  have hown : s.vm.findClass "com/example/keepwire/keepwire/ResponseHeadTrimSpacesPinLaw" = some m.cls := findClass_of_methodNamed Bd.named
  have hnm := (name_of_methodNamed Bd.named Bd.method).1
  have X0 : Stand p l e room_1 s m #[(.int p1), (.int p2), (.int p3), (.int p4), (.int p5), (.int p6)] below meth c s₁ [] 0 0 := Stand.of_body Bd
  have e0 : s₁.heap = h0 := by rw [← hh, Bd.state]; rfl
  have N0 := Fr.nil n0
  suffices hR : ∀ P : State → Prop, (∀ s₂ o v L, s₂.status = .running → Ended s₂ below o → o = .returned v → Q_rm0 Z p1 p2 p3 p4 p5 p6 cz rG h0 n0 v s₂.heap L → ReturnedEndW s o s₂ L room_1.cells room_1.slots → P s₂) → Rch p.tables e below P (s₁.setTop (mkF m 0 #[.val (.int p1), .val (.int p2), .val (.int p3), .val (.int p4), .val (.int p5), .val (.int p6), .unset, .unset, .unset, .unset, .unset, .unset, .unset] [])) by
    obtain ⟨s₂, h1, o, h2⟩ := hR (fun s₂ => ∃ o, s₂.status = .running ∧ Ended s₂ below o ∧ ∃ v L, o = .returned v ∧ Q_rm0 Z p1 p2 p3 p4 p5 p6 cz rG h0 n0 v s₂.heap L ∧ ReturnedEndW s o s₂ L room_1.cells room_1.slots) (fun s₂ o v L q1 q2 q3 q4 q5 => ⟨o, q1, q2, v, L, q3, q4, q5⟩)
    exact ⟨s₂, o, castTop (ef_rm0 m p1 p2 p3 p4 p5 p6) h1, h2⟩
  intro P hPd
  refine Rch.go (fun zt zk => XS.iloadN X0.here hx rfl (hb hby at_0) rfl zk) ?_
  refine Rch.go (X0.ldcInt hx hown (mvT hZ (ow0 hw)) (g := (mkF m 1 #[.val (.int p1), .val (.int p2), .val (.int p3), .val (.int p4), .val (.int p5), .val (.int p6), .unset, .unset, .unset, .unset, .unset, .unset, .unset] [(.int p1)])) rfl (hb hby at_1)) ?_
  refine Rch.go (fun zt zk => XS.iand X0.here hx rfl (hb hby at_3) rfl zk) ?_
  refine Rch.go (fun zt zk => XS.bipush X0.here hx rfl (hb hby at_4) zk) ?_
  show Rch _ _ _ _ (s₁.setTop (mkF m 6 #[.val (.int p1), .val (.int p2), .val (.int p3), .val (.int p4), .val (.int p5), .val (.int p6), .unset, .unset, .unset, .unset, .unset, .unset, .unset] [(.int (6 : Int32)), (.int (p1 &&& (2147483647 : Int32)))]))
  refine Rch.go (fun zt zk => iremM X0 hx rfl (hb hby at_6) rfl (by decide : ¬ ((6 : Int32) = (0 : Int32))) zk) ?_
  refine Rch.go (fun zt zk => XS.istore X0.here hx rfl (hb hby at_7) rfl (l' := #[.val (.int p1), .val (.int p2), .val (.int p3), .val (.int p4), .val (.int p5), .val (.int p6), .val (.int ((p1 &&& (2147483647 : Int32)) % (6 : Int32))), .unset, .unset, .unset, .unset, .unset, .unset]) rfl zk) ?_
  obtain ⟨ln0, hln⟩ : ∃ z, z = ((p1 &&& (2147483647 : Int32)) % (6 : Int32)) := ⟨_, rfl⟩
  rw [← hln]
  refine Rch.go (fun zt zk => XS.iconst X0.here hx rfl (hb hby at_9) zk) ?_
  show Rch _ _ _ _ (s₁.setTop (mkF m 10 #[.val (.int p1), .val (.int p2), .val (.int p3), .val (.int p4), .val (.int p5), .val (.int p6), .val (.int ln0), .unset, .unset, .unset, .unset, .unset, .unset] [(.int (5 : Int32))]))
  obtain ⟨T101, h101, k101, X101, e101, E101, A101, st101⟩ := newP X0 hx hZ (aty := .char) (ow1 hw) e0 (g := (mkF m 10 #[.val (.int p1), .val (.int p2), .val (.int p3), .val (.int p4), .val (.int p5), .val (.int p6), .val (.int ln0), .unset, .unset, .unset, .unset, .unset, .unset] [(.int (5 : Int32))])) rfl (hb hby at_10) rfl (by decide) (cap := 5) (by decide) (by decide) (by decide) (by decide)
  obtain ⟨b101, g101⟩ : ∃ z, z = h0.size := ⟨_, rfl⟩
  rw [← g101] at A101 st101
  refine Rch.go st101 ?_
  have ge101 : n0 ≤ b101 := by rw [g101]; exact Z0
  have gk101 : h0.size ≤ b101 := by rw [g101]; exact (Keep.refl h0 []).1
  have K101 := (Keep.refl h0 []).ext E101
  have V101 : Arv Z h101 b101 k101 .char (5 : Int32) [(.int (0 : Int32)), (.int (0 : Int32)), (.int (0 : Int32)), (.int (0 : Int32)), (.int (0 : Int32))] (.int (0 : Int32)) := (Arv.new A101 (by decide)).pad (pad_rep [] (.int (0 : Int32)) 5)
  refine Rch.go (fun zt zk => XS.astore X101.here hx rfl (hb hby at_12) rfl rfl (l' := #[.val (.int p1), .val (.int p2), .val (.int p3), .val (.int p4), .val (.int p5), .val (.int p6), .val (.int ln0), .val (.ref b101), .unset, .unset, .unset, .unset, .unset]) rfl zk) ?_
  refine Rch.go (fun zt zk => XS.aload X101.here hx rfl (hb hby at_14) rfl rfl zk) ?_
  refine Rch.go (fun zt zk => XS.iconst X101.here hx rfl (hb hby at_16) zk) ?_
  show Rch _ _ _ _ (T101.setTop (mkF m 17 #[.val (.int p1), .val (.int p2), .val (.int p3), .val (.int p4), .val (.int p5), .val (.int p6), .val (.int ln0), .val (.ref b101), .unset, .unset, .unset, .unset, .unset] [(.int (0 : Int32)), (.ref b101)]))
  refine Rch.go (fun zt zk => XS.iloadN X101.here hx rfl (hb hby at_17) rfl zk) ?_
  have f103 := (Nat.le_trans Z0 E101.1)
  obtain ⟨_, _, ⟨T102, L102, k102, n102⟩, -, X102, ⟨Lc102, hQ102, l102, y102, z102⟩, st102⟩ := Jvm.LawKit.callS X101 hx (y := (⟨"com/example/keepwire/keepwire/ResponseHeadTrimSpacesPinLaw", "pick", "(I)C"⟩ : MethodName)) hown (mvT hZ (ow2 hw)) (mvT hZ (ow3 hw)) (mvT hZ (ow4 hw)) (mvT hZ (ow5 hw)) (by decide) (backOf (W := 2) (rm1 l Z a0 hw [] p2 h101 n0 f103 ) hZ (ow5 hw) (ow4 hw) (by decide) (by decide)) (g := (mkF m 18 #[.val (.int p1), .val (.int p2), .val (.int p3), .val (.int p4), .val (.int p5), .val (.int p6), .val (.int ln0), .val (.ref b101), .unset, .unset, .unset, .unset, .unset] [(.int p2), (.int (0 : Int32)), (.ref b101)])) rfl (by rw [hml]; rfl) (argsL := [(.int p2)]) (rest := [(.int (0 : Int32)), (.ref b101)]) (lenOf pd__I_C rfl) rfl (by show 2 * 0 + _ ≤ _; exact Nat.le_of_eq rfl) (hb hby at_18) (fun _ _ => ⟨rfl, e101, (by decide : 1 + 0 ≤ _), (by decide : 5 + 0 ≤ _)⟩)
  dsimp only [Pt.U, Pt.locs, Pt.cells, Pt.slots] at X102 l102 y102 z102 st102 hQ102
  rw [l102, y102, z102] at X102
  obtain ⟨rfl, N102q, eq102⟩ := hQ102
  have N102 := Fr.app N0 N102q
  refine Rch.go st102 ?_
  obtain ⟨cl104, Ar104, q104, S104, M104, H104, G104⟩ := id V101
  obtain ⟨T104, h104, X104, e104, W104, st104⟩ := stC X102 hx hZ eq102 Ar104 (j := (0 : Int32)) (inb_of S104 ⟨by decide, by decide⟩) (g := (mkF m 21 #[.val (.int p1), .val (.int p2), .val (.int p3), .val (.int p4), .val (.int p5), .val (.int p6), .val (.int ln0), .val (.ref b101), .unset, .unset, .unset, .unset, .unset] [(.int (fPick p2)), (.int (0 : Int32)), (.ref b101)])) rfl rfl (hb hby at_21)
  refine Rch.go st104 ?_
  have V104 : Arv Z h104 b101 k101 .char (5 : Int32) [(.int (nar .char (fPick p2))), (.int (0 : Int32)), (.int (0 : Int32)), (.int (0 : Int32)), (.int (0 : Int32))] (.int (0 : Int32)) := Arv.set Ar104 q104 S104 M104 H104 G104 (fits_nar_char _) W104 0 rfl (Nat.le_of_ble_eq_true rfl)
  have N104 := Fr.snoc X104 N102 ge101
  have K104 := K101.wr W104 (Or.inr gk101)
  refine Rch.go (fun zt zk => XS.aload X104.here hx rfl (hb hby at_22) rfl rfl zk) ?_
  show Rch _ _ _ _ (T104.setTop (mkF m 24 #[.val (.int p1), .val (.int p2), .val (.int p3), .val (.int p4), .val (.int p5), .val (.int p6), .val (.int ln0), .val (.ref b101), .unset, .unset, .unset, .unset, .unset] [(.ref b101)]))
  refine Rch.go (fun zt zk => XS.iconst X104.here hx rfl (hb hby at_24) zk) ?_
  refine Rch.go (fun zt zk => XS.iloadN X104.here hx rfl (hb hby at_25) rfl zk) ?_
  have f106 := (Nat.le_trans f103 (Keep.of_wr W104).1)
  obtain ⟨_, _, ⟨T105, L105, k105, n105⟩, -, X105, ⟨Lc105, hQ105, l105, y105, z105⟩, st105⟩ := Jvm.LawKit.callS X104 hx (y := (⟨"com/example/keepwire/keepwire/ResponseHeadTrimSpacesPinLaw", "pick", "(I)C"⟩ : MethodName)) hown (mvT hZ (ow2 hw)) (mvT hZ (ow3 hw)) (mvT hZ (ow4 hw)) (mvT hZ (ow5 hw)) (by decide) (backOf (W := 2) (rm1 l Z a0 hw [] p3 h104 n0 f106 ) hZ (ow5 hw) (ow4 hw) (by decide) (by decide)) (g := (mkF m 26 #[.val (.int p1), .val (.int p2), .val (.int p3), .val (.int p4), .val (.int p5), .val (.int p6), .val (.int ln0), .val (.ref b101), .unset, .unset, .unset, .unset, .unset] [(.int p3), (.int (1 : Int32)), (.ref b101)])) rfl (by rw [hml]; rfl) (argsL := [(.int p3)]) (rest := [(.int (1 : Int32)), (.ref b101)]) (lenOf pd__I_C rfl) rfl (by show 2 * 0 + _ ≤ _; exact Nat.le_of_eq rfl) (hb hby at_26) (fun _ _ => ⟨rfl, e104, (by decide : 1 + 0 ≤ _), (by decide : 5 + 0 ≤ _)⟩)
  dsimp only [Pt.U, Pt.locs, Pt.cells, Pt.slots] at X105 l105 y105 z105 st105 hQ105
  rw [l105, y105, z105] at X105
  obtain ⟨rfl, N105q, eq105⟩ := hQ105
  have N105 := Fr.app N104 N105q
  refine Rch.go st105 ?_
  obtain ⟨cl107, Ar107, q107, S107, M107, H107, G107⟩ := id V104
  obtain ⟨T107, h107, X107, e107, W107, st107⟩ := stC X105 hx hZ eq105 Ar107 (j := (1 : Int32)) (inb_of S107 ⟨by decide, by decide⟩) (g := (mkF m 29 #[.val (.int p1), .val (.int p2), .val (.int p3), .val (.int p4), .val (.int p5), .val (.int p6), .val (.int ln0), .val (.ref b101), .unset, .unset, .unset, .unset, .unset] [(.int (fPick p3)), (.int (1 : Int32)), (.ref b101)])) rfl rfl (hb hby at_29)
  refine Rch.go st107 ?_
  have V107 : Arv Z h107 b101 k101 .char (5 : Int32) [(.int (nar .char (fPick p2))), (.int (nar .char (fPick p3))), (.int (0 : Int32)), (.int (0 : Int32)), (.int (0 : Int32))] (.int (0 : Int32)) := Arv.set Ar107 q107 S107 M107 H107 G107 (fits_nar_char _) W107 1 rfl (Nat.le_of_ble_eq_true rfl)
  have N107 := Fr.snoc X107 N105 ge101
  have K107 := K104.wr W107 (Or.inr gk101)
  show Rch _ _ _ _ (T107.setTop (mkF m 30 #[.val (.int p1), .val (.int p2), .val (.int p3), .val (.int p4), .val (.int p5), .val (.int p6), .val (.int ln0), .val (.ref b101), .unset, .unset, .unset, .unset, .unset] []))
  refine Rch.go (fun zt zk => XS.aload X107.here hx rfl (hb hby at_30) rfl rfl zk) ?_
  refine Rch.go (fun zt zk => XS.iconst X107.here hx rfl (hb hby at_32) zk) ?_
  refine Rch.go (fun zt zk => XS.iloadN X107.here hx rfl (hb hby at_33) rfl zk) ?_
  have f109 := (Nat.le_trans f106 (Keep.of_wr W107).1)
  obtain ⟨_, _, ⟨T108, L108, k108, n108⟩, -, X108, ⟨Lc108, hQ108, l108, y108, z108⟩, st108⟩ := Jvm.LawKit.callS X107 hx (y := (⟨"com/example/keepwire/keepwire/ResponseHeadTrimSpacesPinLaw", "pick", "(I)C"⟩ : MethodName)) hown (mvT hZ (ow2 hw)) (mvT hZ (ow3 hw)) (mvT hZ (ow4 hw)) (mvT hZ (ow5 hw)) (by decide) (backOf (W := 2) (rm1 l Z a0 hw [] p4 h107 n0 f109 ) hZ (ow5 hw) (ow4 hw) (by decide) (by decide)) (g := (mkF m 34 #[.val (.int p1), .val (.int p2), .val (.int p3), .val (.int p4), .val (.int p5), .val (.int p6), .val (.int ln0), .val (.ref b101), .unset, .unset, .unset, .unset, .unset] [(.int p4), (.int (2 : Int32)), (.ref b101)])) rfl (by rw [hml]; rfl) (argsL := [(.int p4)]) (rest := [(.int (2 : Int32)), (.ref b101)]) (lenOf pd__I_C rfl) rfl (by show 2 * 0 + _ ≤ _; exact Nat.le_of_eq rfl) (hb hby at_34) (fun _ _ => ⟨rfl, e107, (by decide : 1 + 0 ≤ _), (by decide : 5 + 0 ≤ _)⟩)
  dsimp only [Pt.U, Pt.locs, Pt.cells, Pt.slots] at X108 l108 y108 z108 st108 hQ108
  rw [l108, y108, z108] at X108
  obtain ⟨rfl, N108q, eq108⟩ := hQ108
  have N108 := Fr.app N107 N108q
  refine Rch.go st108 ?_
  show Rch _ _ _ _ (T108.setTop (mkF m 37 #[.val (.int p1), .val (.int p2), .val (.int p3), .val (.int p4), .val (.int p5), .val (.int p6), .val (.int ln0), .val (.ref b101), .unset, .unset, .unset, .unset, .unset] [(.int (fPick p4)), (.int (2 : Int32)), (.ref b101)]))
  obtain ⟨cl110, Ar110, q110, S110, M110, H110, G110⟩ := id V107
  obtain ⟨T110, h110, X110, e110, W110, st110⟩ := stC X108 hx hZ eq108 Ar110 (j := (2 : Int32)) (inb_of S110 ⟨by decide, by decide⟩) (g := (mkF m 37 #[.val (.int p1), .val (.int p2), .val (.int p3), .val (.int p4), .val (.int p5), .val (.int p6), .val (.int ln0), .val (.ref b101), .unset, .unset, .unset, .unset, .unset] [(.int (fPick p4)), (.int (2 : Int32)), (.ref b101)])) rfl rfl (hb hby at_37)
  refine Rch.go st110 ?_
  have V110 : Arv Z h110 b101 k101 .char (5 : Int32) [(.int (nar .char (fPick p2))), (.int (nar .char (fPick p3))), (.int (nar .char (fPick p4))), (.int (0 : Int32)), (.int (0 : Int32))] (.int (0 : Int32)) := Arv.set Ar110 q110 S110 M110 H110 G110 (fits_nar_char _) W110 2 rfl (Nat.le_of_ble_eq_true rfl)
  have N110 := Fr.snoc X110 N108 ge101
  have K110 := K107.wr W110 (Or.inr gk101)
  refine Rch.go (fun zt zk => XS.aload X110.here hx rfl (hb hby at_38) rfl rfl zk) ?_
  refine Rch.go (fun zt zk => XS.iconst X110.here hx rfl (hb hby at_40) zk) ?_
  refine Rch.go (fun zt zk => XS.iload X110.here hx rfl (hb hby at_41) rfl zk) ?_
  show Rch _ _ _ _ (T110.setTop (mkF m 43 #[.val (.int p1), .val (.int p2), .val (.int p3), .val (.int p4), .val (.int p5), .val (.int p6), .val (.int ln0), .val (.ref b101), .unset, .unset, .unset, .unset, .unset] [(.int p5), (.int (3 : Int32)), (.ref b101)]))
  have f112 := (Nat.le_trans f109 (Keep.of_wr W110).1)
  obtain ⟨_, _, ⟨T111, L111, k111, n111⟩, -, X111, ⟨Lc111, hQ111, l111, y111, z111⟩, st111⟩ := Jvm.LawKit.callS X110 hx (y := (⟨"com/example/keepwire/keepwire/ResponseHeadTrimSpacesPinLaw", "pick", "(I)C"⟩ : MethodName)) hown (mvT hZ (ow2 hw)) (mvT hZ (ow3 hw)) (mvT hZ (ow4 hw)) (mvT hZ (ow5 hw)) (by decide) (backOf (W := 2) (rm1 l Z a0 hw [] p5 h110 n0 f112 ) hZ (ow5 hw) (ow4 hw) (by decide) (by decide)) (g := (mkF m 43 #[.val (.int p1), .val (.int p2), .val (.int p3), .val (.int p4), .val (.int p5), .val (.int p6), .val (.int ln0), .val (.ref b101), .unset, .unset, .unset, .unset, .unset] [(.int p5), (.int (3 : Int32)), (.ref b101)])) rfl (by rw [hml]; rfl) (argsL := [(.int p5)]) (rest := [(.int (3 : Int32)), (.ref b101)]) (lenOf pd__I_C rfl) rfl (by show 2 * 0 + _ ≤ _; exact Nat.le_of_eq rfl) (hb hby at_43) (fun _ _ => ⟨rfl, e110, (by decide : 1 + 0 ≤ _), (by decide : 5 + 0 ≤ _)⟩)
  dsimp only [Pt.U, Pt.locs, Pt.cells, Pt.slots] at X111 l111 y111 z111 st111 hQ111
  rw [l111, y111, z111] at X111
  obtain ⟨rfl, N111q, eq111⟩ := hQ111
  have N111 := Fr.app N110 N111q
  refine Rch.go st111 ?_
  obtain ⟨cl113, Ar113, q113, S113, M113, H113, G113⟩ := id V110
  obtain ⟨T113, h113, X113, e113, W113, st113⟩ := stC X111 hx hZ eq111 Ar113 (j := (3 : Int32)) (inb_of S113 ⟨by decide, by decide⟩) (g := (mkF m 46 #[.val (.int p1), .val (.int p2), .val (.int p3), .val (.int p4), .val (.int p5), .val (.int p6), .val (.int ln0), .val (.ref b101), .unset, .unset, .unset, .unset, .unset] [(.int (fPick p5)), (.int (3 : Int32)), (.ref b101)])) rfl rfl (hb hby at_46)
  refine Rch.go st113 ?_
  have V113 : Arv Z h113 b101 k101 .char (5 : Int32) [(.int (nar .char (fPick p2))), (.int (nar .char (fPick p3))), (.int (nar .char (fPick p4))), (.int (nar .char (fPick p5))), (.int (0 : Int32))] (.int (0 : Int32)) := Arv.set Ar113 q113 S113 M113 H113 G113 (fits_nar_char _) W113 3 rfl (Nat.le_of_ble_eq_true rfl)
  have N113 := Fr.snoc X113 N111 ge101
  have K113 := K110.wr W113 (Or.inr gk101)
  refine Rch.go (fun zt zk => XS.aload X113.here hx rfl (hb hby at_47) rfl rfl zk) ?_
  refine Rch.go (fun zt zk => XS.iconst X113.here hx rfl (hb hby at_49) zk) ?_
  show Rch _ _ _ _ (T113.setTop (mkF m 50 #[.val (.int p1), .val (.int p2), .val (.int p3), .val (.int p4), .val (.int p5), .val (.int p6), .val (.int ln0), .val (.ref b101), .unset, .unset, .unset, .unset, .unset] [(.int (4 : Int32)), (.ref b101)]))
  refine Rch.go (fun zt zk => XS.iload X113.here hx rfl (hb hby at_50) rfl zk) ?_
  have f115 := (Nat.le_trans f112 (Keep.of_wr W113).1)
  obtain ⟨_, _, ⟨T114, L114, k114, n114⟩, -, X114, ⟨Lc114, hQ114, l114, y114, z114⟩, st114⟩ := Jvm.LawKit.callS X113 hx (y := (⟨"com/example/keepwire/keepwire/ResponseHeadTrimSpacesPinLaw", "pick", "(I)C"⟩ : MethodName)) hown (mvT hZ (ow2 hw)) (mvT hZ (ow3 hw)) (mvT hZ (ow4 hw)) (mvT hZ (ow5 hw)) (by decide) (backOf (W := 2) (rm1 l Z a0 hw [] p6 h113 n0 f115 ) hZ (ow5 hw) (ow4 hw) (by decide) (by decide)) (g := (mkF m 52 #[.val (.int p1), .val (.int p2), .val (.int p3), .val (.int p4), .val (.int p5), .val (.int p6), .val (.int ln0), .val (.ref b101), .unset, .unset, .unset, .unset, .unset] [(.int p6), (.int (4 : Int32)), (.ref b101)])) rfl (by rw [hml]; rfl) (argsL := [(.int p6)]) (rest := [(.int (4 : Int32)), (.ref b101)]) (lenOf pd__I_C rfl) rfl (by show 2 * 0 + _ ≤ _; exact Nat.le_of_eq rfl) (hb hby at_52) (fun _ _ => ⟨rfl, e113, (by decide : 1 + 0 ≤ _), (by decide : 5 + 0 ≤ _)⟩)
  dsimp only [Pt.U, Pt.locs, Pt.cells, Pt.slots] at X114 l114 y114 z114 st114 hQ114
  rw [l114, y114, z114] at X114
  obtain ⟨rfl, N114q, eq114⟩ := hQ114
  have N114 := Fr.app N113 N114q
  refine Rch.go st114 ?_
  obtain ⟨cl116, Ar116, q116, S116, M116, H116, G116⟩ := id V113
  obtain ⟨T116, h116, X116, e116, W116, st116⟩ := stC X114 hx hZ eq114 Ar116 (j := (4 : Int32)) (inb_of S116 ⟨by decide, by decide⟩) (g := (mkF m 55 #[.val (.int p1), .val (.int p2), .val (.int p3), .val (.int p4), .val (.int p5), .val (.int p6), .val (.int ln0), .val (.ref b101), .unset, .unset, .unset, .unset, .unset] [(.int (fPick p6)), (.int (4 : Int32)), (.ref b101)])) rfl rfl (hb hby at_55)
  refine Rch.go st116 ?_
  have V116 : Arv Z h116 b101 k101 .char (5 : Int32) [(.int (nar .char (fPick p2))), (.int (nar .char (fPick p3))), (.int (nar .char (fPick p4))), (.int (nar .char (fPick p5))), (.int (nar .char (fPick p6)))] (.int (0 : Int32)) := Arv.set Ar116 q116 S116 M116 H116 G116 (fits_nar_char _) W116 4 rfl (Nat.le_of_ble_eq_true rfl)
  have N116 := Fr.snoc X116 N114 ge101
  have K116 := K113.wr W116 (Or.inr gk101)
  obtain ⟨c0, g_c0⟩ : ∃ z, z = (nar .char (fPick p2)) := ⟨_, rfl⟩
  have r_c0 : R8 c0 := by rw [g_c0]; exact own_pick _
  obtain ⟨c1, g_c1⟩ : ∃ z, z = (nar .char (fPick p3)) := ⟨_, rfl⟩
  have r_c1 : R8 c1 := by rw [g_c1]; exact own_pick _
  obtain ⟨c2, g_c2⟩ : ∃ z, z = (nar .char (fPick p4)) := ⟨_, rfl⟩
  have r_c2 : R8 c2 := by rw [g_c2]; exact own_pick _
  obtain ⟨c3, g_c3⟩ : ∃ z, z = (nar .char (fPick p5)) := ⟨_, rfl⟩
  have r_c3 : R8 c3 := by rw [g_c3]; exact own_pick _
  obtain ⟨c4, g_c4⟩ : ∃ z, z = (nar .char (fPick p6)) := ⟨_, rfl⟩
  have r_c4 : R8 c4 := by rw [g_c4]; exact own_pick _
  have VA := V116
  rw [← g_c0, ← g_c1, ← g_c2, ← g_c3, ← g_c4] at VA
  have j72 : ∀ (ln : Int32) (rt : Addr) (r : Addr) (b : Addr) (kb : ClassId) (w : Int32) (mq : Int32) (vs : List Value) (vmq : Vm) (kq : Nat) (Tj72 : State) (Lj72 : List Loc) (hj72 : Heap) (_ : Stand p l e room_1 (s.setVm vmq) m #[(.int p1), (.int p2), (.int p3), (.int p4), (.int p5), (.int p6)] below meth c Tj72 Lj72 20 1000) (_ : Tj72.heap = hj72) (_ : Fr n0 Lj72) (_ : n0 ≤ hj72.size) (_ : Keep h0 hj72 []) (_ : Old Z n0 hj72) (_ : Sta Z Z.heap "java/lang/String" "COMPACT_STRINGS" "Z" (.int cz)) (_ : Sta Z Z.heap "jdk/internal/util/Preconditions" "SIOOBE_FORMATTER" "Ljava/util/function/BiFunction;" rG) (_ : Arv Z hj72 b101 k101 .char (5 : Int32) [(.int c0), (.int c1), (.int c2), (.int c3), (.int c4)] (.int (0 : Int32))) (_ : Exa Z hj72 r "java/lang/String") (_ : Fld Z hj72 r "java/lang/String" "coder" "B" (.int w)) (_ : Fld Z hj72 r "java/lang/String" "value" "[B" (.ref b)) (_ : Arv Z hj72 b kb .byte mq vs (.int (0 : Int32))), (s.Since vmq kq) → (Z.Warmed39 (s.setVm vmq).vm) → ((s.setVm vmq).vm.findClass "com/example/keepwire/keepwire/ResponseHeadTrimSpacesPinLaw" = some m.cls) → (w = (0 : Int32)) → (0 ≤ ln.toInt ∧ ln.toInt ≤ 5) → (TrimOK ln (cf5 c0 c1 c2 c3 c4) mq vs) → (kq ≤ hj72.size) → Rch p.tables e below P (Tj72.setTop (mkF m 72 #[.val (.int p1), .val (.int p2), .val (.int p3), .val (.int p4), .val (.int p5), .val (.int p6), .val (.int ln), .val (.ref b101), .val (.ref rt), .val (.ref r), .unset, .unset, .unset] [])) := by
    intro ln rt r b kb w mq vs vmq kq Tj72 Lj72 hj72 Xj72 ej72 Nj72 Zj72 Kj72 Fj72_0 Fj72_1 Fj72_2 Fj72_3 Fj72_4 Fj72_5 Fj72_6 Fj72_7 hSq hZ hown hw2 hl5 hD hkq
    have j95 : ∀ (Tj95 : State) (Lj95 : List Loc) (_ : Stand p l e room_1 (s.setVm vmq) m #[(.int p1), (.int p2), (.int p3), (.int p4), (.int p5), (.int p6)] below meth c Tj95 Lj95 20 1000) (_ : Tj95.heap = hj72) (_ : Fr n0 Lj95) (s4 : Int32), (InvS (cf5 c0 c1 c2 c3 c4) ln 4 s4) → Rch p.tables e below P (Tj95.setTop (mkF m 95 #[.val (.int p1), .val (.int p2), .val (.int p3), .val (.int p4), .val (.int p5), .val (.int p6), .val (.int ln), .val (.ref b101), .val (.ref rt), .val (.ref r), .val (.int s4), .unset, .unset] [])) := by
      intro Tj95 Lj95 Xj95 ej95 Nj95 s4 hs4
      have j114 : ∀ (Tj114 : State) (Lj114 : List Loc) (_ : Stand p l e room_1 (s.setVm vmq) m #[(.int p1), (.int p2), (.int p3), (.int p4), (.int p5), (.int p6)] below meth c Tj114 Lj114 20 1000) (_ : Tj114.heap = hj72) (_ : Fr n0 Lj114) (s3 : Int32), (InvS (cf5 c0 c1 c2 c3 c4) ln 3 s3) → Rch p.tables e below P (Tj114.setTop (mkF m 114 #[.val (.int p1), .val (.int p2), .val (.int p3), .val (.int p4), .val (.int p5), .val (.int p6), .val (.int ln), .val (.ref b101), .val (.ref rt), .val (.ref r), .val (.int s3), .unset, .unset] [])) := by
        intro Tj114 Lj114 Xj114 ej114 Nj114 s3 hs3
        have j133 : ∀ (Tj133 : State) (Lj133 : List Loc) (_ : Stand p l e room_1 (s.setVm vmq) m #[(.int p1), (.int p2), (.int p3), (.int p4), (.int p5), (.int p6)] below meth c Tj133 Lj133 20 1000) (_ : Tj133.heap = hj72) (_ : Fr n0 Lj133) (s2 : Int32), (InvS (cf5 c0 c1 c2 c3 c4) ln 2 s2) → Rch p.tables e below P (Tj133.setTop (mkF m 133 #[.val (.int p1), .val (.int p2), .val (.int p3), .val (.int p4), .val (.int p5), .val (.int p6), .val (.int ln), .val (.ref b101), .val (.ref rt), .val (.ref r), .val (.int s2), .unset, .unset] [])) := by
          intro Tj133 Lj133 Xj133 ej133 Nj133 s2 hs2
          have j152 : ∀ (Tj152 : State) (Lj152 : List Loc) (_ : Stand p l e room_1 (s.setVm vmq) m #[(.int p1), (.int p2), (.int p3), (.int p4), (.int p5), (.int p6)] below meth c Tj152 Lj152 20 1000) (_ : Tj152.heap = hj72) (_ : Fr n0 Lj152) (s1 : Int32), (InvS (cf5 c0 c1 c2 c3 c4) ln 1 s1) → Rch p.tables e below P (Tj152.setTop (mkF m 152 #[.val (.int p1), .val (.int p2), .val (.int p3), .val (.int p4), .val (.int p5), .val (.int p6), .val (.int ln), .val (.ref b101), .val (.ref rt), .val (.ref r), .val (.int s1), .unset, .unset] [])) := by
            intro Tj152 Lj152 Xj152 ej152 Nj152 s1 hs1
            have j171 : ∀ (Tj171 : State) (Lj171 : List Loc) (_ : Stand p l e room_1 (s.setVm vmq) m #[(.int p1), (.int p2), (.int p3), (.int p4), (.int p5), (.int p6)] below meth c Tj171 Lj171 20 1000) (_ : Tj171.heap = hj72) (_ : Fr n0 Lj171) (s0 : Int32), (InvS (cf5 c0 c1 c2 c3 c4) ln 0 s0) → Rch p.tables e below P (Tj171.setTop (mkF m 171 #[.val (.int p1), .val (.int p2), .val (.int p3), .val (.int p4), .val (.int p5), .val (.int p6), .val (.int ln), .val (.ref b101), .val (.ref rt), .val (.ref r), .val (.int s0), .unset, .unset] [])) := by
              intro Tj171 Lj171 Xj171 ej171 Nj171 s0 hs0
              have j193 : ∀ (Tj193 : State) (Lj193 : List Loc) (_ : Stand p l e room_1 (s.setVm vmq) m #[(.int p1), (.int p2), (.int p3), (.int p4), (.int p5), (.int p6)] below meth c Tj193 Lj193 20 1000) (_ : Tj193.heap = hj72) (_ : Fr n0 Lj193) (e0 : Int32), (InvE (cf5 c0 c1 c2 c3 c4) ln 1 e0) → Rch p.tables e below P (Tj193.setTop (mkF m 193 #[.val (.int p1), .val (.int p2), .val (.int p3), .val (.int p4), .val (.int p5), .val (.int p6), .val (.int ln), .val (.ref b101), .val (.ref rt), .val (.ref r), .val (.int s0), .val (.int e0), .unset] [])) := by
                intro Tj193 Lj193 Xj193 ej193 Nj193 e0 he0
                have j212 : ∀ (Tj212 : State) (Lj212 : List Loc) (_ : Stand p l e room_1 (s.setVm vmq) m #[(.int p1), (.int p2), (.int p3), (.int p4), (.int p5), (.int p6)] below meth c Tj212 Lj212 20 1000) (_ : Tj212.heap = hj72) (_ : Fr n0 Lj212) (e1 : Int32), (InvE (cf5 c0 c1 c2 c3 c4) ln 2 e1) → Rch p.tables e below P (Tj212.setTop (mkF m 212 #[.val (.int p1), .val (.int p2), .val (.int p3), .val (.int p4), .val (.int p5), .val (.int p6), .val (.int ln), .val (.ref b101), .val (.ref rt), .val (.ref r), .val (.int s0), .val (.int e1), .unset] [])) := by
                  intro Tj212 Lj212 Xj212 ej212 Nj212 e1 he1
                  have j231 : ∀ (Tj231 : State) (Lj231 : List Loc) (_ : Stand p l e room_1 (s.setVm vmq) m #[(.int p1), (.int p2), (.int p3), (.int p4), (.int p5), (.int p6)] below meth c Tj231 Lj231 20 1000) (_ : Tj231.heap = hj72) (_ : Fr n0 Lj231) (e2 : Int32), (InvE (cf5 c0 c1 c2 c3 c4) ln 3 e2) → Rch p.tables e below P (Tj231.setTop (mkF m 231 #[.val (.int p1), .val (.int p2), .val (.int p3), .val (.int p4), .val (.int p5), .val (.int p6), .val (.int ln), .val (.ref b101), .val (.ref rt), .val (.ref r), .val (.int s0), .val (.int e2), .unset] [])) := by
                    intro Tj231 Lj231 Xj231 ej231 Nj231 e2 he2
                    have j250 : ∀ (Tj250 : State) (Lj250 : List Loc) (_ : Stand p l e room_1 (s.setVm vmq) m #[(.int p1), (.int p2), (.int p3), (.int p4), (.int p5), (.int p6)] below meth c Tj250 Lj250 20 1000) (_ : Tj250.heap = hj72) (_ : Fr n0 Lj250) (e3 : Int32), (InvE (cf5 c0 c1 c2 c3 c4) ln 4 e3) → Rch p.tables e below P (Tj250.setTop (mkF m 250 #[.val (.int p1), .val (.int p2), .val (.int p3), .val (.int p4), .val (.int p5), .val (.int p6), .val (.int ln), .val (.ref b101), .val (.ref rt), .val (.ref r), .val (.int s0), .val (.int e3), .unset] [])) := by
                      intro Tj250 Lj250 Xj250 ej250 Nj250 e3 he3
                      have j269 : ∀ (Tj269 : State) (Lj269 : List Loc) (_ : Stand p l e room_1 (s.setVm vmq) m #[(.int p1), (.int p2), (.int p3), (.int p4), (.int p5), (.int p6)] below meth c Tj269 Lj269 20 1000) (_ : Tj269.heap = hj72) (_ : Fr n0 Lj269) (e4 : Int32), (InvE (cf5 c0 c1 c2 c3 c4) ln 5 e4) → Rch p.tables e below P (Tj269.setTop (mkF m 269 #[.val (.int p1), .val (.int p2), .val (.int p3), .val (.int p4), .val (.int p5), .val (.int p6), .val (.int ln), .val (.ref b101), .val (.ref rt), .val (.ref r), .val (.int s0), .val (.int e4), .unset] [])) := by
                        intro Tj269 Lj269 Xj269 ej269 Nj269 e4 he4
                        have j285 : ∀ (Tj285 : State) (Lj285 : List Loc) (_ : Stand p l e room_1 (s.setVm vmq) m #[(.int p1), (.int p2), (.int p3), (.int p4), (.int p5), (.int p6)] below meth c Tj285 Lj285 20 1000) (_ : Tj285.heap = hj72) (_ : Fr n0 Lj285) (mm : Int32), (mm = mq) → (∀ k : Int32, 0 ≤ k.toInt → AtOK vs [(.int c0), (.int c1), (.int c2), (.int c3), (.int c4)] mq s0 mm k) → Rch p.tables e below P (Tj285.setTop (mkF m 285 #[.val (.int p1), .val (.int p2), .val (.int p3), .val (.int p4), .val (.int p5), .val (.int p6), .val (.int ln), .val (.ref b101), .val (.ref rt), .val (.ref r), .val (.int s0), .val (.int e4), .unset] [(.int mm)])) := by
                          intro Tj285 Lj285 Xj285 ej285 Nj285 mm hmm hAt
                          refine Rch.go (fun zt zk => XS.istore Xj285.here hx rfl (hb hby at_285) rfl (l' := #[.val (.int p1), .val (.int p2), .val (.int p3), .val (.int p4), .val (.int p5), .val (.int p6), .val (.int ln), .val (.ref b101), .val (.ref rt), .val (.ref r), .val (.int s0), .val (.int e4), .val (.int mm)]) rfl zk) ?_
                          refine Rch.go (fun zt zk => XS.aload Xj285.here hx rfl (hb hby at_287) rfl rfl zk) ?_
                          show Rch _ _ _ _ (Tj285.setTop (mkF m 289 #[.val (.int p1), .val (.int p2), .val (.int p3), .val (.int p4), .val (.int p5), .val (.int p6), .val (.int ln), .val (.ref b101), .val (.ref rt), .val (.ref r), .val (.int s0), .val (.int e4), .val (.int mm)] [(.ref r)]))
                          refine Rch.go (fun zt zk => XS.ifnullNo Xj285.here hx rfl (hb hby at_289) rfl zk) ?_
                          refine Rch.go (fun zt zk => XS.aload Xj285.here hx rfl (hb hby at_292) rfl rfl zk) ?_
                          obtain ⟨cq117, kq117, q117a, q117b, q117c⟩ := isOf hZ ej285 Fj72_4
                          obtain ⟨_, _, ⟨T117, L117, k117, n117⟩, -, X117, ⟨Lc117, hQ117, l117, y117, z117⟩, st117⟩ := Xj285.virtualBack hx (y := (⟨"java/lang/String", "length", "()I"⟩ : MethodName)) (z := (⟨"java/lang/String", "length", "()I"⟩ : MethodName)) hown (mvT hZ (ow59 hw)) (mvT hZ (ow35 hw)) (notFace_of_selects (args := #[]) (mvT hZ (ow37 hw))) (mvT hZ (ow37 hw)) (mvT hZ (ow36 hw)) (by decide) (backOf (W := 0) (rm7 l Z a0 hw [] (r) (b) (kb) (mq) (vs) (w) (cz) hj72 n0 Zj72 (Fj72_0) (Fj72_1) (Fj72_4) (Fj72_5) (Fj72_6) (Fj72_7) (hcz) (hw2)) hZ (ow38 hw) (ow11 hw) (by decide) (by decide)) q117a q117c (g := (mkF m 294 #[.val (.int p1), .val (.int p2), .val (.int p3), .val (.int p4), .val (.int p5), .val (.int p6), .val (.int ln), .val (.ref b101), .val (.ref rt), .val (.ref r), .val (.int s0), .val (.int e4), .val (.int mm)] [(.ref r)])) rfl (by rw [hml]; rfl) (Steps.refl _) (argsL := []) (rest := []) (lenOf pd___I rfl) rfl (by show 2 * 0 + _ ≤ _; exact Nat.le_of_eq rfl) (hb hby at_294) (fun _ _ => ⟨rfl, ej285, (by decide : 20 + 0 ≤ _), (by decide : 1000 + 0 ≤ _)⟩)
                          dsimp only [Pt.U, Pt.locs, Pt.cells, Pt.slots] at X117 l117 y117 z117 st117 hQ117
                          rw [l117, y117, z117] at X117
                          obtain ⟨rfl, N117q, eq117⟩ := hQ117
                          have N117 := Fr.app Nj285 N117q
                          refine Rch.go (fun zt zk => st117.trans zk) ?_
                          refine Rch.go (fun zt zk => XS.iload X117.here hx rfl (hb hby at_297) rfl zk) ?_
                          show Rch _ _ _ _ (T117.setTop (mkF m 299 #[.val (.int p1), .val (.int p2), .val (.int p3), .val (.int p4), .val (.int p5), .val (.int p6), .val (.int ln), .val (.ref b101), .val (.ref rt), .val (.ref r), .val (.int s0), .val (.int e4), .val (.int mm)] [(.int mm), (.int mq)]))
                          refine Rch.go (fun zt zk => XS.icmpYes X117.here hx rfl (pc0 := 299) (pc' := 304) rfl (hb hby at_299) rfl (teq (hmm.symm : mq = mm)).1 (by decide) (by decide) zk) ?_
                          refine Rch.go (fun zt zk => XS.aload X117.here hx rfl (hb hby at_304) rfl rfl zk) ?_
                          refine Rch.go (fun zt zk => XS.aload X117.here hx rfl (hb hby at_306) rfl rfl zk) ?_
                          refine Rch.go (fun zt zk => XS.iload X117.here hx rfl (hb hby at_308) rfl zk) ?_
                          show Rch _ _ _ _ (T117.setTop (mkF m 310 #[.val (.int p1), .val (.int p2), .val (.int p3), .val (.int p4), .val (.int p5), .val (.int p6), .val (.int ln), .val (.ref b101), .val (.ref rt), .val (.ref r), .val (.int s0), .val (.int e4), .val (.int mm)] [(.int s0), (.ref b101), (.ref r)]))
                          refine Rch.go (fun zt zk => XS.iload X117.here hx rfl (hb hby at_310) rfl zk) ?_
                          refine Rch.go (fun zt zk => XS.iconst X117.here hx rfl (hb hby at_312) zk) ?_
                          obtain ⟨_, _, ⟨T118, L118, k118, n118⟩, -, X118, ⟨Lc118, hQ118, l118, y118, z118⟩, st118⟩ := Jvm.LawKit.callS X117 hx (y := (⟨"com/example/keepwire/keepwire/ResponseHeadTrimSpacesPinLaw", "at", "(Ljava/lang/String;[CIII)Z"⟩ : MethodName)) hown (mvT hZ (ow60 hw)) (mvT hZ (ow61 hw)) (mvT hZ (ow4 hw)) (mvT hZ (ow62 hw)) (by decide) (backOf (W := 0) (rmAtA l Z a0 hw [] (r) (b101) (s0) (mm) ((0 : Int32)) (b) (kb) (mq) (vs) (w) (cz) (rG) (k101) ([(.int c0), (.int c1), (.int c2), (.int c3), (.int c4)]) hj72 n0 Zj72 (Fj72_0) (Fj72_1) (Fj72_2) (Fj72_4) (Fj72_5) (Fj72_6) (Fj72_7) (Fj72_3) (hAt _ (by decide)) (hrG) (hcz) (hw2)) hZ (ow62 hw) (ow4 hw) (by decide) (by decide)) (g := (mkF m 313 #[.val (.int p1), .val (.int p2), .val (.int p3), .val (.int p4), .val (.int p5), .val (.int p6), .val (.int ln), .val (.ref b101), .val (.ref rt), .val (.ref r), .val (.int s0), .val (.int e4), .val (.int mm)] [(.int (0 : Int32)), (.int mm), (.int s0), (.ref b101), (.ref r)])) rfl (by rw [hml]; rfl) (argsL := [(.ref r), (.ref b101), (.int s0), (.int mm), (.int (0 : Int32))]) (rest := []) (lenOf pd__Ljava_lang_String__CIII_Z rfl) rfl (by show 2 * 0 + _ ≤ _; exact Nat.le_of_eq rfl) (hb hby at_313) (fun _ _ => ⟨rfl, eq117, (by decide : 20 + 0 ≤ _), (by decide : 1000 + 0 ≤ _)⟩)
                          dsimp only [Pt.U, Pt.locs, Pt.cells, Pt.slots] at X118 l118 y118 z118 st118 hQ118
                          rw [l118, y118, z118] at X118
                          obtain ⟨rfl, N118q, eq118⟩ := hQ118
                          have N118 := Fr.app N117 N118q
                          refine Rch.go st118 ?_
                          refine Rch.go (fun zt zk => XS.ifNo X118.here hx rfl (hb hby at_316) rfl ((if0 _ _).trans (feq (by decide : ¬ ((1 : Int32) = (0 : Int32)))).1) zk) ?_
                          show Rch _ _ _ _ (T118.setTop (mkF m 319 #[.val (.int p1), .val (.int p2), .val (.int p3), .val (.int p4), .val (.int p5), .val (.int p6), .val (.int ln), .val (.ref b101), .val (.ref rt), .val (.ref r), .val (.int s0), .val (.int e4), .val (.int mm)] []))
                          refine Rch.go (fun zt zk => XS.aload X118.here hx rfl (hb hby at_319) rfl rfl zk) ?_
                          refine Rch.go (fun zt zk => XS.aload X118.here hx rfl (hb hby at_321) rfl rfl zk) ?_
                          refine Rch.go (fun zt zk => XS.iload X118.here hx rfl (hb hby at_323) rfl zk) ?_
                          refine Rch.go (fun zt zk => XS.iload X118.here hx rfl (hb hby at_325) rfl zk) ?_
                          show Rch _ _ _ _ (T118.setTop (mkF m 327 #[.val (.int p1), .val (.int p2), .val (.int p3), .val (.int p4), .val (.int p5), .val (.int p6), .val (.int ln), .val (.ref b101), .val (.ref rt), .val (.ref r), .val (.int s0), .val (.int e4), .val (.int mm)] [(.int mm), (.int s0), (.ref b101), (.ref r)]))
                          refine Rch.go (fun zt zk => XS.iconst X118.here hx rfl (hb hby at_327) zk) ?_
                          obtain ⟨_, _, ⟨T119, L119, k119, n119⟩, -, X119, ⟨Lc119, hQ119, l119, y119, z119⟩, st119⟩ := Jvm.LawKit.callS X118 hx (y := (⟨"com/example/keepwire/keepwire/ResponseHeadTrimSpacesPinLaw", "at", "(Ljava/lang/String;[CIII)Z"⟩ : MethodName)) hown (mvT hZ (ow60 hw)) (mvT hZ (ow61 hw)) (mvT hZ (ow4 hw)) (mvT hZ (ow62 hw)) (by decide) (backOf (W := 0) (rmAtA l Z a0 hw [] (r) (b101) (s0) (mm) ((1 : Int32)) (b) (kb) (mq) (vs) (w) (cz) (rG) (k101) ([(.int c0), (.int c1), (.int c2), (.int c3), (.int c4)]) hj72 n0 Zj72 (Fj72_0) (Fj72_1) (Fj72_2) (Fj72_4) (Fj72_5) (Fj72_6) (Fj72_7) (Fj72_3) (hAt _ (by decide)) (hrG) (hcz) (hw2)) hZ (ow62 hw) (ow4 hw) (by decide) (by decide)) (g := (mkF m 328 #[.val (.int p1), .val (.int p2), .val (.int p3), .val (.int p4), .val (.int p5), .val (.int p6), .val (.int ln), .val (.ref b101), .val (.ref rt), .val (.ref r), .val (.int s0), .val (.int e4), .val (.int mm)] [(.int (1 : Int32)), (.int mm), (.int s0), (.ref b101), (.ref r)])) rfl (by rw [hml]; rfl) (argsL := [(.ref r), (.ref b101), (.int s0), (.int mm), (.int (1 : Int32))]) (rest := []) (lenOf pd__Ljava_lang_String__CIII_Z rfl) rfl (by show 2 * 0 + _ ≤ _; exact Nat.le_of_eq rfl) (hb hby at_328) (fun _ _ => ⟨rfl, eq118, (by decide : 20 + 0 ≤ _), (by decide : 1000 + 0 ≤ _)⟩)
                          dsimp only [Pt.U, Pt.locs, Pt.cells, Pt.slots] at X119 l119 y119 z119 st119 hQ119
                          rw [l119, y119, z119] at X119
                          obtain ⟨rfl, N119q, eq119⟩ := hQ119
                          have N119 := Fr.app N118 N119q
                          refine Rch.go st119 ?_
                          refine Rch.go (fun zt zk => XS.ifNo X119.here hx rfl (hb hby at_331) rfl ((if0 _ _).trans (feq (by decide : ¬ ((1 : Int32) = (0 : Int32)))).1) zk) ?_
                          refine Rch.go (fun zt zk => XS.aload X119.here hx rfl (hb hby at_334) rfl rfl zk) ?_
                          show Rch _ _ _ _ (T119.setTop (mkF m 336 #[.val (.int p1), .val (.int p2), .val (.int p3), .val (.int p4), .val (.int p5), .val (.int p6), .val (.int ln), .val (.ref b101), .val (.ref rt), .val (.ref r), .val (.int s0), .val (.int e4), .val (.int mm)] [(.ref r)]))
                          refine Rch.go (fun zt zk => XS.aload X119.here hx rfl (hb hby at_336) rfl rfl zk) ?_
                          refine Rch.go (fun zt zk => XS.iload X119.here hx rfl (hb hby at_338) rfl zk) ?_
                          refine Rch.go (fun zt zk => XS.iload X119.here hx rfl (hb hby at_340) rfl zk) ?_
                          refine Rch.go (fun zt zk => XS.iconst X119.here hx rfl (hb hby at_342) zk) ?_
                          show Rch _ _ _ _ (T119.setTop (mkF m 343 #[.val (.int p1), .val (.int p2), .val (.int p3), .val (.int p4), .val (.int p5), .val (.int p6), .val (.int ln), .val (.ref b101), .val (.ref rt), .val (.ref r), .val (.int s0), .val (.int e4), .val (.int mm)] [(.int (2 : Int32)), (.int mm), (.int s0), (.ref b101), (.ref r)]))
                          obtain ⟨_, _, ⟨T120, L120, k120, n120⟩, -, X120, ⟨Lc120, hQ120, l120, y120, z120⟩, st120⟩ := Jvm.LawKit.callS X119 hx (y := (⟨"com/example/keepwire/keepwire/ResponseHeadTrimSpacesPinLaw", "at", "(Ljava/lang/String;[CIII)Z"⟩ : MethodName)) hown (mvT hZ (ow60 hw)) (mvT hZ (ow61 hw)) (mvT hZ (ow4 hw)) (mvT hZ (ow62 hw)) (by decide) (backOf (W := 0) (rmAtA l Z a0 hw [] (r) (b101) (s0) (mm) ((2 : Int32)) (b) (kb) (mq) (vs) (w) (cz) (rG) (k101) ([(.int c0), (.int c1), (.int c2), (.int c3), (.int c4)]) hj72 n0 Zj72 (Fj72_0) (Fj72_1) (Fj72_2) (Fj72_4) (Fj72_5) (Fj72_6) (Fj72_7) (Fj72_3) (hAt _ (by decide)) (hrG) (hcz) (hw2)) hZ (ow62 hw) (ow4 hw) (by decide) (by decide)) (g := (mkF m 343 #[.val (.int p1), .val (.int p2), .val (.int p3), .val (.int p4), .val (.int p5), .val (.int p6), .val (.int ln), .val (.ref b101), .val (.ref rt), .val (.ref r), .val (.int s0), .val (.int e4), .val (.int mm)] [(.int (2 : Int32)), (.int mm), (.int s0), (.ref b101), (.ref r)])) rfl (by rw [hml]; rfl) (argsL := [(.ref r), (.ref b101), (.int s0), (.int mm), (.int (2 : Int32))]) (rest := []) (lenOf pd__Ljava_lang_String__CIII_Z rfl) rfl (by show 2 * 0 + _ ≤ _; exact Nat.le_of_eq rfl) (hb hby at_343) (fun _ _ => ⟨rfl, eq119, (by decide : 20 + 0 ≤ _), (by decide : 1000 + 0 ≤ _)⟩)
                          dsimp only [Pt.U, Pt.locs, Pt.cells, Pt.slots] at X120 l120 y120 z120 st120 hQ120
                          rw [l120, y120, z120] at X120
                          obtain ⟨rfl, N120q, eq120⟩ := hQ120
                          have N120 := Fr.app N119 N120q
                          refine Rch.go st120 ?_
                          refine Rch.go (fun zt zk => XS.ifNo X120.here hx rfl (hb hby at_346) rfl ((if0 _ _).trans (feq (by decide : ¬ ((1 : Int32) = (0 : Int32)))).1) zk) ?_
                          refine Rch.go (fun zt zk => XS.aload X120.here hx rfl (hb hby at_349) rfl rfl zk) ?_
                          refine Rch.go (fun zt zk => XS.aload X120.here hx rfl (hb hby at_351) rfl rfl zk) ?_
                          show Rch _ _ _ _ (T120.setTop (mkF m 353 #[.val (.int p1), .val (.int p2), .val (.int p3), .val (.int p4), .val (.int p5), .val (.int p6), .val (.int ln), .val (.ref b101), .val (.ref rt), .val (.ref r), .val (.int s0), .val (.int e4), .val (.int mm)] [(.ref b101), (.ref r)]))
                          refine Rch.go (fun zt zk => XS.iload X120.here hx rfl (hb hby at_353) rfl zk) ?_
                          refine Rch.go (fun zt zk => XS.iload X120.here hx rfl (hb hby at_355) rfl zk) ?_
                          refine Rch.go (fun zt zk => XS.iconst X120.here hx rfl (hb hby at_357) zk) ?_
                          obtain ⟨_, _, ⟨T121, L121, k121, n121⟩, -, X121, ⟨Lc121, hQ121, l121, y121, z121⟩, st121⟩ := Jvm.LawKit.callS X120 hx (y := (⟨"com/example/keepwire/keepwire/ResponseHeadTrimSpacesPinLaw", "at", "(Ljava/lang/String;[CIII)Z"⟩ : MethodName)) hown (mvT hZ (ow60 hw)) (mvT hZ (ow61 hw)) (mvT hZ (ow4 hw)) (mvT hZ (ow62 hw)) (by decide) (backOf (W := 0) (rmAtA l Z a0 hw [] (r) (b101) (s0) (mm) ((3 : Int32)) (b) (kb) (mq) (vs) (w) (cz) (rG) (k101) ([(.int c0), (.int c1), (.int c2), (.int c3), (.int c4)]) hj72 n0 Zj72 (Fj72_0) (Fj72_1) (Fj72_2) (Fj72_4) (Fj72_5) (Fj72_6) (Fj72_7) (Fj72_3) (hAt _ (by decide)) (hrG) (hcz) (hw2)) hZ (ow62 hw) (ow4 hw) (by decide) (by decide)) (g := (mkF m 358 #[.val (.int p1), .val (.int p2), .val (.int p3), .val (.int p4), .val (.int p5), .val (.int p6), .val (.int ln), .val (.ref b101), .val (.ref rt), .val (.ref r), .val (.int s0), .val (.int e4), .val (.int mm)] [(.int (3 : Int32)), (.int mm), (.int s0), (.ref b101), (.ref r)])) rfl (by rw [hml]; rfl) (argsL := [(.ref r), (.ref b101), (.int s0), (.int mm), (.int (3 : Int32))]) (rest := []) (lenOf pd__Ljava_lang_String__CIII_Z rfl) rfl (by show 2 * 0 + _ ≤ _; exact Nat.le_of_eq rfl) (hb hby at_358) (fun _ _ => ⟨rfl, eq120, (by decide : 20 + 0 ≤ _), (by decide : 1000 + 0 ≤ _)⟩)
                          dsimp only [Pt.U, Pt.locs, Pt.cells, Pt.slots] at X121 l121 y121 z121 st121 hQ121
                          rw [l121, y121, z121] at X121
                          obtain ⟨rfl, N121q, eq121⟩ := hQ121
                          have N121 := Fr.app N120 N121q
                          refine Rch.go st121 ?_
                          show Rch _ _ _ _ (T121.setTop (mkF m 361 #[.val (.int p1), .val (.int p2), .val (.int p3), .val (.int p4), .val (.int p5), .val (.int p6), .val (.int ln), .val (.ref b101), .val (.ref rt), .val (.ref r), .val (.int s0), .val (.int e4), .val (.int mm)] [(.int (1 : Int32))]))
                          refine Rch.go (fun zt zk => XS.ifNo X121.here hx rfl (hb hby at_361) rfl ((if0 _ _).trans (feq (by decide : ¬ ((1 : Int32) = (0 : Int32)))).1) zk) ?_
                          refine Rch.go (fun zt zk => XS.aload X121.here hx rfl (hb hby at_364) rfl rfl zk) ?_
                          refine Rch.go (fun zt zk => XS.aload X121.here hx rfl (hb hby at_366) rfl rfl zk) ?_
                          refine Rch.go (fun zt zk => XS.iload X121.here hx rfl (hb hby at_368) rfl zk) ?_
                          show Rch _ _ _ _ (T121.setTop (mkF m 370 #[.val (.int p1), .val (.int p2), .val (.int p3), .val (.int p4), .val (.int p5), .val (.int p6), .val (.int ln), .val (.ref b101), .val (.ref rt), .val (.ref r), .val (.int s0), .val (.int e4), .val (.int mm)] [(.int s0), (.ref b101), (.ref r)]))
                          refine Rch.go (fun zt zk => XS.iload X121.here hx rfl (hb hby at_370) rfl zk) ?_
                          refine Rch.go (fun zt zk => XS.iconst X121.here hx rfl (hb hby at_372) zk) ?_
                          obtain ⟨_, _, ⟨T122, L122, k122, n122⟩, -, X122, ⟨Lc122, hQ122, l122, y122, z122⟩, st122⟩ := Jvm.LawKit.callS X121 hx (y := (⟨"com/example/keepwire/keepwire/ResponseHeadTrimSpacesPinLaw", "at", "(Ljava/lang/String;[CIII)Z"⟩ : MethodName)) hown (mvT hZ (ow60 hw)) (mvT hZ (ow61 hw)) (mvT hZ (ow4 hw)) (mvT hZ (ow62 hw)) (by decide) (backOf (W := 0) (rmAtA l Z a0 hw [] (r) (b101) (s0) (mm) ((4 : Int32)) (b) (kb) (mq) (vs) (w) (cz) (rG) (k101) ([(.int c0), (.int c1), (.int c2), (.int c3), (.int c4)]) hj72 n0 Zj72 (Fj72_0) (Fj72_1) (Fj72_2) (Fj72_4) (Fj72_5) (Fj72_6) (Fj72_7) (Fj72_3) (hAt _ (by decide)) (hrG) (hcz) (hw2)) hZ (ow62 hw) (ow4 hw) (by decide) (by decide)) (g := (mkF m 373 #[.val (.int p1), .val (.int p2), .val (.int p3), .val (.int p4), .val (.int p5), .val (.int p6), .val (.int ln), .val (.ref b101), .val (.ref rt), .val (.ref r), .val (.int s0), .val (.int e4), .val (.int mm)] [(.int (4 : Int32)), (.int mm), (.int s0), (.ref b101), (.ref r)])) rfl (by rw [hml]; rfl) (argsL := [(.ref r), (.ref b101), (.int s0), (.int mm), (.int (4 : Int32))]) (rest := []) (lenOf pd__Ljava_lang_String__CIII_Z rfl) rfl (by show 2 * 0 + _ ≤ _; exact Nat.le_of_eq rfl) (hb hby at_373) (fun _ _ => ⟨rfl, eq121, (by decide : 20 + 0 ≤ _), (by decide : 1000 + 0 ≤ _)⟩)
                          dsimp only [Pt.U, Pt.locs, Pt.cells, Pt.slots] at X122 l122 y122 z122 st122 hQ122
                          rw [l122, y122, z122] at X122
                          obtain ⟨rfl, N122q, eq122⟩ := hQ122
                          have N122 := Fr.app N121 N122q
                          refine Rch.go st122 ?_
                          refine Rch.go (fun zt zk => XS.ifNo X122.here hx rfl (hb hby at_376) rfl ((if0 _ _).trans (feq (by decide : ¬ ((1 : Int32) = (0 : Int32)))).1) zk) ?_
                          show Rch _ _ _ _ (T122.setTop (mkF m 379 #[.val (.int p1), .val (.int p2), .val (.int p3), .val (.int p4), .val (.int p5), .val (.int p6), .val (.int ln), .val (.ref b101), .val (.ref rt), .val (.ref r), .val (.int s0), .val (.int e4), .val (.int mm)] []))
                          refine Rch.go (fun zt zk => XS.iconst X122.here hx rfl (hb hby at_379) zk) ?_
                          refine Rch.go (fun zt zk => XS.goto X122.here hx rfl (pc0 := 380) (pc' := 384) rfl (hb hby at_380) (by decide) (by decide) zk) ?_
                          obtain ⟨fs, hr, hrun, hended, qw1, qw2, qw3, hsame⟩ := Stand.leaveW (s := s) (vm₁ := vmq) X122 hSq (by rw [eq122]; exact hkq) (v := some (.int (1 : Int32))) (fun h => by rw [Bd.returns] at h; cases h)
                          refine Rch.mk (retN X122 hx (t := .boolean) Bd.returns (by simp) (hb hby at_384) hr) (hPd _ _ _ _ hrun hended rfl ?_ ⟨⟨_, rfl⟩, qw2, qw3, hsame.mono (by decide) (by decide)⟩)
                          show Q_rm0 Z p1 p2 p3 p4 p5 p6 cz rG h0 n0 _ T122.heap _
                          exact ⟨rfl, N122⟩
                        refine Rch.go (fun zt zk => XS.iload Xj269.here hx rfl (hb hby at_269) rfl zk) ?_
                        refine Rch.go (fun zt zk => XS.iload Xj269.here hx rfl (hb hby at_271) rfl zk) ?_
                        show Rch _ _ _ _ (Tj269.setTop (mkF m 273 #[.val (.int p1), .val (.int p2), .val (.int p3), .val (.int p4), .val (.int p5), .val (.int p6), .val (.int ln), .val (.ref b101), .val (.ref rt), .val (.ref r), .val (.int s0), .val (.int e4), .unset] [(.int s0), (.int e4)]))
                        by_cases hc273_123 : s0 < e4
                        · skip
                          refine Rch.go (fun zt zk => XS.icmpNo Xj269.here hx rfl (hb hby at_273) rfl (tlt hc273_123).2.2.2 zk) ?_
                          refine Rch.go (fun zt zk => XS.iload Xj269.here hx rfl (hb hby at_276) rfl zk) ?_
                          refine Rch.go (fun zt zk => XS.iload Xj269.here hx rfl (hb hby at_278) rfl zk) ?_
                          refine Rch.go (fun zt zk => XS.isub Xj269.here hx rfl (hb hby at_280) rfl zk) ?_
                          show Rch _ _ _ _ (Tj269.setTop (mkF m 281 #[.val (.int p1), .val (.int p2), .val (.int p3), .val (.int p4), .val (.int p5), .val (.int p6), .val (.int ln), .val (.ref b101), .val (.ref rt), .val (.ref r), .val (.int s0), .val (.int e4), .unset] [(.int (e4 - s0))]))
                          refine Rch.go (fun zt zk => XS.goto Xj269.here hx rfl (pc0 := 281) (pc' := 285) rfl (hb hby at_281) (by decide) (by decide) zk) ?_
                          exact j285 _ _ Xj269 ej269 Nj269 _ ((own_final hl5 hs0 he4 hD).1 hc273_123).1 (by have q := (own_final hl5 hs0 he4 hD).1 hc273_123; rw [q.1]; exact own_at r_c0 r_c1 r_c2 r_c3 r_c4 hl5.2 q.2.1 q.2.2.1 q.2.2.2)
                        · skip
                          refine Rch.go (fun zt zk => XS.icmpYes Xj269.here hx rfl (pc0 := 273) (pc' := 284) rfl (hb hby at_273) rfl (flt hc273_123).2.2.2 (by decide) (by decide) zk) ?_
                          refine Rch.go (fun zt zk => XS.iconst Xj269.here hx rfl (hb hby at_284) zk) ?_
                          exact j285 _ _ Xj269 ej269 Nj269 _ ((own_final hl5 hs0 he4 hD).2 hc273_123) (fun k h => fun q => absurd (Int32.lt_iff_toInt_lt.mp q) (by show ¬ (k.toInt < (0 : Int32).toInt); rw [own_e0]; omega))
                      refine Rch.go (fun zt zk => XS.iconst Xj250.here hx rfl (hb hby at_250) zk) ?_
                      show Rch _ _ _ _ (Tj250.setTop (mkF m 251 #[.val (.int p1), .val (.int p2), .val (.int p3), .val (.int p4), .val (.int p5), .val (.int p6), .val (.int ln), .val (.ref b101), .val (.ref rt), .val (.ref r), .val (.int s0), .val (.int e3), .unset] [(.int (4 : Int32))]))
                      refine Rch.go (fun zt zk => XS.iload Xj250.here hx rfl (hb hby at_251) rfl zk) ?_
                      by_cases hc253_124 : (4 : Int32) < ln
                      · skip
                        refine Rch.go (fun zt zk => XS.icmpNo Xj250.here hx rfl (hb hby at_253) rfl (tlt hc253_124).2.1 zk) ?_
                        refine Rch.go (fun zt zk => XS.aload Xj250.here hx rfl (hb hby at_256) rfl rfl zk) ?_
                        refine Rch.go (fun zt zk => XS.iconst Xj250.here hx rfl (hb hby at_258) zk) ?_
                        show Rch _ _ _ _ (Tj250.setTop (mkF m 259 #[.val (.int p1), .val (.int p2), .val (.int p3), .val (.int p4), .val (.int p5), .val (.int p6), .val (.int ln), .val (.ref b101), .val (.ref rt), .val (.ref r), .val (.int s0), .val (.int e3), .unset] [(.int (4 : Int32)), (.ref b101)]))
                        obtain ⟨cl125, Ar125, q125, S125, M125, H125, G125⟩ := id Fj72_3
                        have hin125 := inb_of (j := (4 : Int32)) S125 ⟨by decide, by decide⟩
                        refine Rch.go (Xj250.caload hx (j := (4 : Int32)) (v := (.int c4)) (by rw [ej250]; exact Ar125.1) (State.isArrayOf_alike hZ.alike Ar125.2.1) Ar125.2.2 hin125 (Has.at H125 hin125 rfl) (g := (mkF m 259 #[.val (.int p1), .val (.int p2), .val (.int p3), .val (.int p4), .val (.int p5), .val (.int p6), .val (.int ln), .val (.ref b101), .val (.ref rt), .val (.ref r), .val (.int s0), .val (.int e3), .unset] [(.int (4 : Int32)), (.ref b101)])) rfl rfl (hb hby at_259)) ?_
                        obtain ⟨_, _, ⟨T126, L126, k126, n126⟩, -, X126, ⟨Lc126, hQ126, l126, y126, z126⟩, st126⟩ := Jvm.LawKit.callS Xj250 hx (y := (⟨"com/example/keepwire/keepwire/ResponseHeadTrimSpacesPinLaw", "sp", "(C)Z"⟩ : MethodName)) hown (mvT hZ (ow121 hw)) (mvT hZ (ow122 hw)) (mvT hZ (ow4 hw)) (mvT hZ (ow123 hw)) (by decide) (backOf (W := 0) (rm28 l Z a0 hw [] c4 hj72 n0 Zj72 ) hZ (ow123 hw) (ow4 hw) (by decide) (by decide)) (g := (mkF m 260 #[.val (.int p1), .val (.int p2), .val (.int p3), .val (.int p4), .val (.int p5), .val (.int p6), .val (.int ln), .val (.ref b101), .val (.ref rt), .val (.ref r), .val (.int s0), .val (.int e3), .unset] [(.int c4)])) rfl (by rw [hml]; rfl) (argsL := [(.int c4)]) (rest := []) (lenOf pd__C_Z rfl) rfl (by show 2 * 0 + _ ≤ _; exact Nat.le_of_eq rfl) (hb hby at_260) (fun _ _ => ⟨rfl, ej250, (by decide : 20 + 0 ≤ _), (by decide : 1000 + 0 ≤ _)⟩)
                        dsimp only [Pt.U, Pt.locs, Pt.cells, Pt.slots] at X126 l126 y126 z126 st126 hQ126
                        rw [l126, y126, z126] at X126
                        obtain ⟨rfl, N126q, eq126⟩ := hQ126
                        have N126 := Fr.app Nj250 N126q
                        refine Rch.go st126 ?_
                        by_cases hc263_127 : (fSp c4) = (0 : Int32)
                        · skip
                          refine Rch.go (fun zt zk => XS.ifNo X126.here hx rfl (hb hby at_263) rfl ((if0 _ _).trans (teq hc263_127).2) zk) ?_
                          refine Rch.go (fun zt zk => XS.iconst X126.here hx rfl (hb hby at_266) zk) ?_
                          show Rch _ _ _ _ (T126.setTop (mkF m 267 #[.val (.int p1), .val (.int p2), .val (.int p3), .val (.int p4), .val (.int p5), .val (.int p6), .val (.int ln), .val (.ref b101), .val (.ref rt), .val (.ref r), .val (.int s0), .val (.int e3), .unset] [(.int (5 : Int32))]))
                          refine Rch.go (fun zt zk => XS.istore X126.here hx rfl (hb hby at_267) rfl (l' := #[.val (.int p1), .val (.int p2), .val (.int p3), .val (.int p4), .val (.int p5), .val (.int p6), .val (.int ln), .val (.ref b101), .val (.ref rt), .val (.ref r), .val (.int s0), .val (.int (5 : Int32)), .unset]) rfl zk) ?_
                          exact j269 _ _ X126 eq126 N126 _ (by have q := own_stE (ch := (cf5 c0 c1 c2 c3 c4)) (ln := ln) (k := (4 : Int32)) (v := (5 : Int32)) (c := c4) (n := 4) (by decide) (by decide) (by decide) rfl he3; unfold stS at q; rw [if_pos hc253_124, if_pos hc263_127] at q; exact q)
                        · skip
                          refine Rch.go (fun zt zk => XS.ifYes X126.here hx rfl (pc0 := 263) (pc' := 269) rfl (hb hby at_263) rfl ((if0 _ _).trans (feq hc263_127).2) (by decide) (by decide) zk) ?_
                          exact j269 _ _ X126 eq126 N126 _ (by have q := own_stE (ch := (cf5 c0 c1 c2 c3 c4)) (ln := ln) (k := (4 : Int32)) (v := (5 : Int32)) (c := c4) (n := 4) (by decide) (by decide) (by decide) rfl he3; unfold stS at q; rw [if_pos hc253_124, if_neg hc263_127] at q; exact q)
                      · skip
                        refine Rch.go (fun zt zk => XS.icmpYes Xj250.here hx rfl (pc0 := 253) (pc' := 269) rfl (hb hby at_253) rfl (flt hc253_124).2.1 (by decide) (by decide) zk) ?_
                        exact j269 _ _ Xj250 ej250 Nj250 _ (by have q := own_stE (ch := (cf5 c0 c1 c2 c3 c4)) (ln := ln) (k := (4 : Int32)) (v := (5 : Int32)) (c := c4) (n := 4) (by decide) (by decide) (by decide) rfl he3; unfold stS at q; rw [if_neg hc253_124] at q; exact q)
                    refine Rch.go (fun zt zk => XS.iconst Xj231.here hx rfl (hb hby at_231) zk) ?_
                    show Rch _ _ _ _ (Tj231.setTop (mkF m 232 #[.val (.int p1), .val (.int p2), .val (.int p3), .val (.int p4), .val (.int p5), .val (.int p6), .val (.int ln), .val (.ref b101), .val (.ref rt), .val (.ref r), .val (.int s0), .val (.int e2), .unset] [(.int (3 : Int32))]))
                    refine Rch.go (fun zt zk => XS.iload Xj231.here hx rfl (hb hby at_232) rfl zk) ?_
                    by_cases hc234_128 : (3 : Int32) < ln
                    · skip
                      refine Rch.go (fun zt zk => XS.icmpNo Xj231.here hx rfl (hb hby at_234) rfl (tlt hc234_128).2.1 zk) ?_
                      refine Rch.go (fun zt zk => XS.aload Xj231.here hx rfl (hb hby at_237) rfl rfl zk) ?_
                      refine Rch.go (fun zt zk => XS.iconst Xj231.here hx rfl (hb hby at_239) zk) ?_
                      show Rch _ _ _ _ (Tj231.setTop (mkF m 240 #[.val (.int p1), .val (.int p2), .val (.int p3), .val (.int p4), .val (.int p5), .val (.int p6), .val (.int ln), .val (.ref b101), .val (.ref rt), .val (.ref r), .val (.int s0), .val (.int e2), .unset] [(.int (3 : Int32)), (.ref b101)]))
                      obtain ⟨cl129, Ar129, q129, S129, M129, H129, G129⟩ := id Fj72_3
                      have hin129 := inb_of (j := (3 : Int32)) S129 ⟨by decide, by decide⟩
                      refine Rch.go (Xj231.caload hx (j := (3 : Int32)) (v := (.int c3)) (by rw [ej231]; exact Ar129.1) (State.isArrayOf_alike hZ.alike Ar129.2.1) Ar129.2.2 hin129 (Has.at H129 hin129 rfl) (g := (mkF m 240 #[.val (.int p1), .val (.int p2), .val (.int p3), .val (.int p4), .val (.int p5), .val (.int p6), .val (.int ln), .val (.ref b101), .val (.ref rt), .val (.ref r), .val (.int s0), .val (.int e2), .unset] [(.int (3 : Int32)), (.ref b101)])) rfl rfl (hb hby at_240)) ?_
                      obtain ⟨_, _, ⟨T130, L130, k130, n130⟩, -, X130, ⟨Lc130, hQ130, l130, y130, z130⟩, st130⟩ := Jvm.LawKit.callS Xj231 hx (y := (⟨"com/example/keepwire/keepwire/ResponseHeadTrimSpacesPinLaw", "sp", "(C)Z"⟩ : MethodName)) hown (mvT hZ (ow121 hw)) (mvT hZ (ow122 hw)) (mvT hZ (ow4 hw)) (mvT hZ (ow123 hw)) (by decide) (backOf (W := 0) (rm28 l Z a0 hw [] c3 hj72 n0 Zj72 ) hZ (ow123 hw) (ow4 hw) (by decide) (by decide)) (g := (mkF m 241 #[.val (.int p1), .val (.int p2), .val (.int p3), .val (.int p4), .val (.int p5), .val (.int p6), .val (.int ln), .val (.ref b101), .val (.ref rt), .val (.ref r), .val (.int s0), .val (.int e2), .unset] [(.int c3)])) rfl (by rw [hml]; rfl) (argsL := [(.int c3)]) (rest := []) (lenOf pd__C_Z rfl) rfl (by show 2 * 0 + _ ≤ _; exact Nat.le_of_eq rfl) (hb hby at_241) (fun _ _ => ⟨rfl, ej231, (by decide : 20 + 0 ≤ _), (by decide : 1000 + 0 ≤ _)⟩)
                      dsimp only [Pt.U, Pt.locs, Pt.cells, Pt.slots] at X130 l130 y130 z130 st130 hQ130
                      rw [l130, y130, z130] at X130
                      obtain ⟨rfl, N130q, eq130⟩ := hQ130
                      have N130 := Fr.app Nj231 N130q
                      refine Rch.go st130 ?_
                      by_cases hc244_131 : (fSp c3) = (0 : Int32)
                      · skip
                        refine Rch.go (fun zt zk => XS.ifNo X130.here hx rfl (hb hby at_244) rfl ((if0 _ _).trans (teq hc244_131).2) zk) ?_
                        refine Rch.go (fun zt zk => XS.iconst X130.here hx rfl (hb hby at_247) zk) ?_
                        show Rch _ _ _ _ (T130.setTop (mkF m 248 #[.val (.int p1), .val (.int p2), .val (.int p3), .val (.int p4), .val (.int p5), .val (.int p6), .val (.int ln), .val (.ref b101), .val (.ref rt), .val (.ref r), .val (.int s0), .val (.int e2), .unset] [(.int (4 : Int32))]))
                        refine Rch.go (fun zt zk => XS.istore X130.here hx rfl (hb hby at_248) rfl (l' := #[.val (.int p1), .val (.int p2), .val (.int p3), .val (.int p4), .val (.int p5), .val (.int p6), .val (.int ln), .val (.ref b101), .val (.ref rt), .val (.ref r), .val (.int s0), .val (.int (4 : Int32)), .unset]) rfl zk) ?_
                        exact j250 _ _ X130 eq130 N130 _ (by have q := own_stE (ch := (cf5 c0 c1 c2 c3 c4)) (ln := ln) (k := (3 : Int32)) (v := (4 : Int32)) (c := c3) (n := 3) (by decide) (by decide) (by decide) rfl he2; unfold stS at q; rw [if_pos hc234_128, if_pos hc244_131] at q; exact q)
                      · skip
                        refine Rch.go (fun zt zk => XS.ifYes X130.here hx rfl (pc0 := 244) (pc' := 250) rfl (hb hby at_244) rfl ((if0 _ _).trans (feq hc244_131).2) (by decide) (by decide) zk) ?_
                        exact j250 _ _ X130 eq130 N130 _ (by have q := own_stE (ch := (cf5 c0 c1 c2 c3 c4)) (ln := ln) (k := (3 : Int32)) (v := (4 : Int32)) (c := c3) (n := 3) (by decide) (by decide) (by decide) rfl he2; unfold stS at q; rw [if_pos hc234_128, if_neg hc244_131] at q; exact q)
                    · skip
                      refine Rch.go (fun zt zk => XS.icmpYes Xj231.here hx rfl (pc0 := 234) (pc' := 250) rfl (hb hby at_234) rfl (flt hc234_128).2.1 (by decide) (by decide) zk) ?_
                      exact j250 _ _ Xj231 ej231 Nj231 _ (by have q := own_stE (ch := (cf5 c0 c1 c2 c3 c4)) (ln := ln) (k := (3 : Int32)) (v := (4 : Int32)) (c := c3) (n := 3) (by decide) (by decide) (by decide) rfl he2; unfold stS at q; rw [if_neg hc234_128] at q; exact q)
                  refine Rch.go (fun zt zk => XS.iconst Xj212.here hx rfl (hb hby at_212) zk) ?_
                  show Rch _ _ _ _ (Tj212.setTop (mkF m 213 #[.val (.int p1), .val (.int p2), .val (.int p3), .val (.int p4), .val (.int p5), .val (.int p6), .val (.int ln), .val (.ref b101), .val (.ref rt), .val (.ref r), .val (.int s0), .val (.int e1), .unset] [(.int (2 : Int32))]))
                  refine Rch.go (fun zt zk => XS.iload Xj212.here hx rfl (hb hby at_213) rfl zk) ?_
                  by_cases hc215_132 : (2 : Int32) < ln
                  · skip
                    refine Rch.go (fun zt zk => XS.icmpNo Xj212.here hx rfl (hb hby at_215) rfl (tlt hc215_132).2.1 zk) ?_
                    refine Rch.go (fun zt zk => XS.aload Xj212.here hx rfl (hb hby at_218) rfl rfl zk) ?_
                    refine Rch.go (fun zt zk => XS.iconst Xj212.here hx rfl (hb hby at_220) zk) ?_
                    show Rch _ _ _ _ (Tj212.setTop (mkF m 221 #[.val (.int p1), .val (.int p2), .val (.int p3), .val (.int p4), .val (.int p5), .val (.int p6), .val (.int ln), .val (.ref b101), .val (.ref rt), .val (.ref r), .val (.int s0), .val (.int e1), .unset] [(.int (2 : Int32)), (.ref b101)]))
                    obtain ⟨cl133, Ar133, q133, S133, M133, H133, G133⟩ := id Fj72_3
                    have hin133 := inb_of (j := (2 : Int32)) S133 ⟨by decide, by decide⟩
                    refine Rch.go (Xj212.caload hx (j := (2 : Int32)) (v := (.int c2)) (by rw [ej212]; exact Ar133.1) (State.isArrayOf_alike hZ.alike Ar133.2.1) Ar133.2.2 hin133 (Has.at H133 hin133 rfl) (g := (mkF m 221 #[.val (.int p1), .val (.int p2), .val (.int p3), .val (.int p4), .val (.int p5), .val (.int p6), .val (.int ln), .val (.ref b101), .val (.ref rt), .val (.ref r), .val (.int s0), .val (.int e1), .unset] [(.int (2 : Int32)), (.ref b101)])) rfl rfl (hb hby at_221)) ?_
                    obtain ⟨_, _, ⟨T134, L134, k134, n134⟩, -, X134, ⟨Lc134, hQ134, l134, y134, z134⟩, st134⟩ := Jvm.LawKit.callS Xj212 hx (y := (⟨"com/example/keepwire/keepwire/ResponseHeadTrimSpacesPinLaw", "sp", "(C)Z"⟩ : MethodName)) hown (mvT hZ (ow121 hw)) (mvT hZ (ow122 hw)) (mvT hZ (ow4 hw)) (mvT hZ (ow123 hw)) (by decide) (backOf (W := 0) (rm28 l Z a0 hw [] c2 hj72 n0 Zj72 ) hZ (ow123 hw) (ow4 hw) (by decide) (by decide)) (g := (mkF m 222 #[.val (.int p1), .val (.int p2), .val (.int p3), .val (.int p4), .val (.int p5), .val (.int p6), .val (.int ln), .val (.ref b101), .val (.ref rt), .val (.ref r), .val (.int s0), .val (.int e1), .unset] [(.int c2)])) rfl (by rw [hml]; rfl) (argsL := [(.int c2)]) (rest := []) (lenOf pd__C_Z rfl) rfl (by show 2 * 0 + _ ≤ _; exact Nat.le_of_eq rfl) (hb hby at_222) (fun _ _ => ⟨rfl, ej212, (by decide : 20 + 0 ≤ _), (by decide : 1000 + 0 ≤ _)⟩)
                    dsimp only [Pt.U, Pt.locs, Pt.cells, Pt.slots] at X134 l134 y134 z134 st134 hQ134
                    rw [l134, y134, z134] at X134
                    obtain ⟨rfl, N134q, eq134⟩ := hQ134
                    have N134 := Fr.app Nj212 N134q
                    refine Rch.go st134 ?_
                    by_cases hc225_135 : (fSp c2) = (0 : Int32)
                    · skip
                      refine Rch.go (fun zt zk => XS.ifNo X134.here hx rfl (hb hby at_225) rfl ((if0 _ _).trans (teq hc225_135).2) zk) ?_
                      refine Rch.go (fun zt zk => XS.iconst X134.here hx rfl (hb hby at_228) zk) ?_
                      show Rch _ _ _ _ (T134.setTop (mkF m 229 #[.val (.int p1), .val (.int p2), .val (.int p3), .val (.int p4), .val (.int p5), .val (.int p6), .val (.int ln), .val (.ref b101), .val (.ref rt), .val (.ref r), .val (.int s0), .val (.int e1), .unset] [(.int (3 : Int32))]))
                      refine Rch.go (fun zt zk => XS.istore X134.here hx rfl (hb hby at_229) rfl (l' := #[.val (.int p1), .val (.int p2), .val (.int p3), .val (.int p4), .val (.int p5), .val (.int p6), .val (.int ln), .val (.ref b101), .val (.ref rt), .val (.ref r), .val (.int s0), .val (.int (3 : Int32)), .unset]) rfl zk) ?_
                      exact j231 _ _ X134 eq134 N134 _ (by have q := own_stE (ch := (cf5 c0 c1 c2 c3 c4)) (ln := ln) (k := (2 : Int32)) (v := (3 : Int32)) (c := c2) (n := 2) (by decide) (by decide) (by decide) rfl he1; unfold stS at q; rw [if_pos hc215_132, if_pos hc225_135] at q; exact q)
                    · skip
                      refine Rch.go (fun zt zk => XS.ifYes X134.here hx rfl (pc0 := 225) (pc' := 231) rfl (hb hby at_225) rfl ((if0 _ _).trans (feq hc225_135).2) (by decide) (by decide) zk) ?_
                      exact j231 _ _ X134 eq134 N134 _ (by have q := own_stE (ch := (cf5 c0 c1 c2 c3 c4)) (ln := ln) (k := (2 : Int32)) (v := (3 : Int32)) (c := c2) (n := 2) (by decide) (by decide) (by decide) rfl he1; unfold stS at q; rw [if_pos hc215_132, if_neg hc225_135] at q; exact q)
                  · skip
                    refine Rch.go (fun zt zk => XS.icmpYes Xj212.here hx rfl (pc0 := 215) (pc' := 231) rfl (hb hby at_215) rfl (flt hc215_132).2.1 (by decide) (by decide) zk) ?_
                    exact j231 _ _ Xj212 ej212 Nj212 _ (by have q := own_stE (ch := (cf5 c0 c1 c2 c3 c4)) (ln := ln) (k := (2 : Int32)) (v := (3 : Int32)) (c := c2) (n := 2) (by decide) (by decide) (by decide) rfl he1; unfold stS at q; rw [if_neg hc215_132] at q; exact q)
                refine Rch.go (fun zt zk => XS.iconst Xj193.here hx rfl (hb hby at_193) zk) ?_
                show Rch _ _ _ _ (Tj193.setTop (mkF m 194 #[.val (.int p1), .val (.int p2), .val (.int p3), .val (.int p4), .val (.int p5), .val (.int p6), .val (.int ln), .val (.ref b101), .val (.ref rt), .val (.ref r), .val (.int s0), .val (.int e0), .unset] [(.int (1 : Int32))]))
                refine Rch.go (fun zt zk => XS.iload Xj193.here hx rfl (hb hby at_194) rfl zk) ?_
                by_cases hc196_136 : (1 : Int32) < ln
                · skip
                  refine Rch.go (fun zt zk => XS.icmpNo Xj193.here hx rfl (hb hby at_196) rfl (tlt hc196_136).2.1 zk) ?_
                  refine Rch.go (fun zt zk => XS.aload Xj193.here hx rfl (hb hby at_199) rfl rfl zk) ?_
                  refine Rch.go (fun zt zk => XS.iconst Xj193.here hx rfl (hb hby at_201) zk) ?_
                  show Rch _ _ _ _ (Tj193.setTop (mkF m 202 #[.val (.int p1), .val (.int p2), .val (.int p3), .val (.int p4), .val (.int p5), .val (.int p6), .val (.int ln), .val (.ref b101), .val (.ref rt), .val (.ref r), .val (.int s0), .val (.int e0), .unset] [(.int (1 : Int32)), (.ref b101)]))
                  obtain ⟨cl137, Ar137, q137, S137, M137, H137, G137⟩ := id Fj72_3
                  have hin137 := inb_of (j := (1 : Int32)) S137 ⟨by decide, by decide⟩
                  refine Rch.go (Xj193.caload hx (j := (1 : Int32)) (v := (.int c1)) (by rw [ej193]; exact Ar137.1) (State.isArrayOf_alike hZ.alike Ar137.2.1) Ar137.2.2 hin137 (Has.at H137 hin137 rfl) (g := (mkF m 202 #[.val (.int p1), .val (.int p2), .val (.int p3), .val (.int p4), .val (.int p5), .val (.int p6), .val (.int ln), .val (.ref b101), .val (.ref rt), .val (.ref r), .val (.int s0), .val (.int e0), .unset] [(.int (1 : Int32)), (.ref b101)])) rfl rfl (hb hby at_202)) ?_
                  obtain ⟨_, _, ⟨T138, L138, k138, n138⟩, -, X138, ⟨Lc138, hQ138, l138, y138, z138⟩, st138⟩ := Jvm.LawKit.callS Xj193 hx (y := (⟨"com/example/keepwire/keepwire/ResponseHeadTrimSpacesPinLaw", "sp", "(C)Z"⟩ : MethodName)) hown (mvT hZ (ow121 hw)) (mvT hZ (ow122 hw)) (mvT hZ (ow4 hw)) (mvT hZ (ow123 hw)) (by decide) (backOf (W := 0) (rm28 l Z a0 hw [] c1 hj72 n0 Zj72 ) hZ (ow123 hw) (ow4 hw) (by decide) (by decide)) (g := (mkF m 203 #[.val (.int p1), .val (.int p2), .val (.int p3), .val (.int p4), .val (.int p5), .val (.int p6), .val (.int ln), .val (.ref b101), .val (.ref rt), .val (.ref r), .val (.int s0), .val (.int e0), .unset] [(.int c1)])) rfl (by rw [hml]; rfl) (argsL := [(.int c1)]) (rest := []) (lenOf pd__C_Z rfl) rfl (by show 2 * 0 + _ ≤ _; exact Nat.le_of_eq rfl) (hb hby at_203) (fun _ _ => ⟨rfl, ej193, (by decide : 20 + 0 ≤ _), (by decide : 1000 + 0 ≤ _)⟩)
                  dsimp only [Pt.U, Pt.locs, Pt.cells, Pt.slots] at X138 l138 y138 z138 st138 hQ138
                  rw [l138, y138, z138] at X138
                  obtain ⟨rfl, N138q, eq138⟩ := hQ138
                  have N138 := Fr.app Nj193 N138q
                  refine Rch.go st138 ?_
                  by_cases hc206_139 : (fSp c1) = (0 : Int32)
                  · skip
                    refine Rch.go (fun zt zk => XS.ifNo X138.here hx rfl (hb hby at_206) rfl ((if0 _ _).trans (teq hc206_139).2) zk) ?_
                    refine Rch.go (fun zt zk => XS.iconst X138.here hx rfl (hb hby at_209) zk) ?_
                    show Rch _ _ _ _ (T138.setTop (mkF m 210 #[.val (.int p1), .val (.int p2), .val (.int p3), .val (.int p4), .val (.int p5), .val (.int p6), .val (.int ln), .val (.ref b101), .val (.ref rt), .val (.ref r), .val (.int s0), .val (.int e0), .unset] [(.int (2 : Int32))]))
                    refine Rch.go (fun zt zk => XS.istore X138.here hx rfl (hb hby at_210) rfl (l' := #[.val (.int p1), .val (.int p2), .val (.int p3), .val (.int p4), .val (.int p5), .val (.int p6), .val (.int ln), .val (.ref b101), .val (.ref rt), .val (.ref r), .val (.int s0), .val (.int (2 : Int32)), .unset]) rfl zk) ?_
                    exact j212 _ _ X138 eq138 N138 _ (by have q := own_stE (ch := (cf5 c0 c1 c2 c3 c4)) (ln := ln) (k := (1 : Int32)) (v := (2 : Int32)) (c := c1) (n := 1) (by decide) (by decide) (by decide) rfl he0; unfold stS at q; rw [if_pos hc196_136, if_pos hc206_139] at q; exact q)
                  · skip
                    refine Rch.go (fun zt zk => XS.ifYes X138.here hx rfl (pc0 := 206) (pc' := 212) rfl (hb hby at_206) rfl ((if0 _ _).trans (feq hc206_139).2) (by decide) (by decide) zk) ?_
                    exact j212 _ _ X138 eq138 N138 _ (by have q := own_stE (ch := (cf5 c0 c1 c2 c3 c4)) (ln := ln) (k := (1 : Int32)) (v := (2 : Int32)) (c := c1) (n := 1) (by decide) (by decide) (by decide) rfl he0; unfold stS at q; rw [if_pos hc196_136, if_neg hc206_139] at q; exact q)
                · skip
                  refine Rch.go (fun zt zk => XS.icmpYes Xj193.here hx rfl (pc0 := 196) (pc' := 212) rfl (hb hby at_196) rfl (flt hc196_136).2.1 (by decide) (by decide) zk) ?_
                  exact j212 _ _ Xj193 ej193 Nj193 _ (by have q := own_stE (ch := (cf5 c0 c1 c2 c3 c4)) (ln := ln) (k := (1 : Int32)) (v := (2 : Int32)) (c := c1) (n := 1) (by decide) (by decide) (by decide) rfl he0; unfold stS at q; rw [if_neg hc196_136] at q; exact q)
              refine Rch.go (fun zt zk => XS.iconst Xj171.here hx rfl (hb hby at_171) zk) ?_
              show Rch _ _ _ _ (Tj171.setTop (mkF m 172 #[.val (.int p1), .val (.int p2), .val (.int p3), .val (.int p4), .val (.int p5), .val (.int p6), .val (.int ln), .val (.ref b101), .val (.ref rt), .val (.ref r), .val (.int s0), .unset, .unset] [(.int (0 : Int32))]))
              refine Rch.go (fun zt zk => XS.istore Xj171.here hx rfl (hb hby at_172) rfl (l' := #[.val (.int p1), .val (.int p2), .val (.int p3), .val (.int p4), .val (.int p5), .val (.int p6), .val (.int ln), .val (.ref b101), .val (.ref rt), .val (.ref r), .val (.int s0), .val (.int (0 : Int32)), .unset]) rfl zk) ?_
              refine Rch.go (fun zt zk => XS.iconst Xj171.here hx rfl (hb hby at_174) zk) ?_
              refine Rch.go (fun zt zk => XS.iload Xj171.here hx rfl (hb hby at_175) rfl zk) ?_
              by_cases hc177_140 : (0 : Int32) < ln
              · skip
                refine Rch.go (fun zt zk => XS.icmpNo Xj171.here hx rfl (hb hby at_177) rfl (tlt hc177_140).2.1 zk) ?_
                show Rch _ _ _ _ (Tj171.setTop (mkF m 180 #[.val (.int p1), .val (.int p2), .val (.int p3), .val (.int p4), .val (.int p5), .val (.int p6), .val (.int ln), .val (.ref b101), .val (.ref rt), .val (.ref r), .val (.int s0), .val (.int (0 : Int32)), .unset] []))
                refine Rch.go (fun zt zk => XS.aload Xj171.here hx rfl (hb hby at_180) rfl rfl zk) ?_
                refine Rch.go (fun zt zk => XS.iconst Xj171.here hx rfl (hb hby at_182) zk) ?_
                obtain ⟨cl141, Ar141, q141, S141, M141, H141, G141⟩ := id Fj72_3
                have hin141 := inb_of (j := (0 : Int32)) S141 ⟨by decide, by decide⟩
                refine Rch.go (Xj171.caload hx (j := (0 : Int32)) (v := (.int c0)) (by rw [ej171]; exact Ar141.1) (State.isArrayOf_alike hZ.alike Ar141.2.1) Ar141.2.2 hin141 (Has.at H141 hin141 rfl) (g := (mkF m 183 #[.val (.int p1), .val (.int p2), .val (.int p3), .val (.int p4), .val (.int p5), .val (.int p6), .val (.int ln), .val (.ref b101), .val (.ref rt), .val (.ref r), .val (.int s0), .val (.int (0 : Int32)), .unset] [(.int (0 : Int32)), (.ref b101)])) rfl rfl (hb hby at_183)) ?_
                obtain ⟨_, _, ⟨T142, L142, k142, n142⟩, -, X142, ⟨Lc142, hQ142, l142, y142, z142⟩, st142⟩ := Jvm.LawKit.callS Xj171 hx (y := (⟨"com/example/keepwire/keepwire/ResponseHeadTrimSpacesPinLaw", "sp", "(C)Z"⟩ : MethodName)) hown (mvT hZ (ow121 hw)) (mvT hZ (ow122 hw)) (mvT hZ (ow4 hw)) (mvT hZ (ow123 hw)) (by decide) (backOf (W := 0) (rm28 l Z a0 hw [] c0 hj72 n0 Zj72 ) hZ (ow123 hw) (ow4 hw) (by decide) (by decide)) (g := (mkF m 184 #[.val (.int p1), .val (.int p2), .val (.int p3), .val (.int p4), .val (.int p5), .val (.int p6), .val (.int ln), .val (.ref b101), .val (.ref rt), .val (.ref r), .val (.int s0), .val (.int (0 : Int32)), .unset] [(.int c0)])) rfl (by rw [hml]; rfl) (argsL := [(.int c0)]) (rest := []) (lenOf pd__C_Z rfl) rfl (by show 2 * 0 + _ ≤ _; exact Nat.le_of_eq rfl) (hb hby at_184) (fun _ _ => ⟨rfl, ej171, (by decide : 20 + 0 ≤ _), (by decide : 1000 + 0 ≤ _)⟩)
                dsimp only [Pt.U, Pt.locs, Pt.cells, Pt.slots] at X142 l142 y142 z142 st142 hQ142
                rw [l142, y142, z142] at X142
                obtain ⟨rfl, N142q, eq142⟩ := hQ142
                have N142 := Fr.app Nj171 N142q
                refine Rch.go st142 ?_
                show Rch _ _ _ _ (T142.setTop (mkF m 187 #[.val (.int p1), .val (.int p2), .val (.int p3), .val (.int p4), .val (.int p5), .val (.int p6), .val (.int ln), .val (.ref b101), .val (.ref rt), .val (.ref r), .val (.int s0), .val (.int (0 : Int32)), .unset] [(.int (fSp c0))]))
                by_cases hc187_143 : (fSp c0) = (0 : Int32)
                · skip
                  refine Rch.go (fun zt zk => XS.ifNo X142.here hx rfl (hb hby at_187) rfl ((if0 _ _).trans (teq hc187_143).2) zk) ?_
                  refine Rch.go (fun zt zk => XS.iconst X142.here hx rfl (hb hby at_190) zk) ?_
                  refine Rch.go (fun zt zk => XS.istore X142.here hx rfl (hb hby at_191) rfl (l' := #[.val (.int p1), .val (.int p2), .val (.int p3), .val (.int p4), .val (.int p5), .val (.int p6), .val (.int ln), .val (.ref b101), .val (.ref rt), .val (.ref r), .val (.int s0), .val (.int (1 : Int32)), .unset]) rfl zk) ?_
                  exact j193 _ _ X142 eq142 N142 _ (by have q := own_stE (ch := (cf5 c0 c1 c2 c3 c4)) (ln := ln) (k := (0 : Int32)) (v := (1 : Int32)) (c := c0) (n := 0) (by decide) (by decide) (by decide) rfl (own_e0' hl5); unfold stS at q; rw [if_pos hc177_140, if_pos hc187_143] at q; exact q)
                · skip
                  refine Rch.go (fun zt zk => XS.ifYes X142.here hx rfl (pc0 := 187) (pc' := 193) rfl (hb hby at_187) rfl ((if0 _ _).trans (feq hc187_143).2) (by decide) (by decide) zk) ?_
                  show Rch _ _ _ _ (T142.setTop (mkF m 193 #[.val (.int p1), .val (.int p2), .val (.int p3), .val (.int p4), .val (.int p5), .val (.int p6), .val (.int ln), .val (.ref b101), .val (.ref rt), .val (.ref r), .val (.int s0), .val (.int (0 : Int32)), .unset] []))
                  exact j193 _ _ X142 eq142 N142 _ (by have q := own_stE (ch := (cf5 c0 c1 c2 c3 c4)) (ln := ln) (k := (0 : Int32)) (v := (1 : Int32)) (c := c0) (n := 0) (by decide) (by decide) (by decide) rfl (own_e0' hl5); unfold stS at q; rw [if_pos hc177_140, if_neg hc187_143] at q; exact q)
              · skip
                refine Rch.go (fun zt zk => XS.icmpYes Xj171.here hx rfl (pc0 := 177) (pc' := 193) rfl (hb hby at_177) rfl (flt hc177_140).2.1 (by decide) (by decide) zk) ?_
                exact j193 _ _ Xj171 ej171 Nj171 _ (by have q := own_stE (ch := (cf5 c0 c1 c2 c3 c4)) (ln := ln) (k := (0 : Int32)) (v := (1 : Int32)) (c := c0) (n := 0) (by decide) (by decide) (by decide) rfl (own_e0' hl5); unfold stS at q; rw [if_neg hc177_140] at q; exact q)
            refine Rch.go (fun zt zk => XS.iconst Xj152.here hx rfl (hb hby at_152) zk) ?_
            refine Rch.go (fun zt zk => XS.iload Xj152.here hx rfl (hb hby at_153) rfl zk) ?_
            by_cases hc155_144 : (0 : Int32) < ln
            · skip
              refine Rch.go (fun zt zk => XS.icmpNo Xj152.here hx rfl (hb hby at_155) rfl (tlt hc155_144).2.1 zk) ?_
              show Rch _ _ _ _ (Tj152.setTop (mkF m 158 #[.val (.int p1), .val (.int p2), .val (.int p3), .val (.int p4), .val (.int p5), .val (.int p6), .val (.int ln), .val (.ref b101), .val (.ref rt), .val (.ref r), .val (.int s1), .unset, .unset] []))
              refine Rch.go (fun zt zk => XS.aload Xj152.here hx rfl (hb hby at_158) rfl rfl zk) ?_
              refine Rch.go (fun zt zk => XS.iconst Xj152.here hx rfl (hb hby at_160) zk) ?_
              obtain ⟨cl145, Ar145, q145, S145, M145, H145, G145⟩ := id Fj72_3
              have hin145 := inb_of (j := (0 : Int32)) S145 ⟨by decide, by decide⟩
              refine Rch.go (Xj152.caload hx (j := (0 : Int32)) (v := (.int c0)) (by rw [ej152]; exact Ar145.1) (State.isArrayOf_alike hZ.alike Ar145.2.1) Ar145.2.2 hin145 (Has.at H145 hin145 rfl) (g := (mkF m 161 #[.val (.int p1), .val (.int p2), .val (.int p3), .val (.int p4), .val (.int p5), .val (.int p6), .val (.int ln), .val (.ref b101), .val (.ref rt), .val (.ref r), .val (.int s1), .unset, .unset] [(.int (0 : Int32)), (.ref b101)])) rfl rfl (hb hby at_161)) ?_
              obtain ⟨_, _, ⟨T146, L146, k146, n146⟩, -, X146, ⟨Lc146, hQ146, l146, y146, z146⟩, st146⟩ := Jvm.LawKit.callS Xj152 hx (y := (⟨"com/example/keepwire/keepwire/ResponseHeadTrimSpacesPinLaw", "sp", "(C)Z"⟩ : MethodName)) hown (mvT hZ (ow121 hw)) (mvT hZ (ow122 hw)) (mvT hZ (ow4 hw)) (mvT hZ (ow123 hw)) (by decide) (backOf (W := 0) (rm28 l Z a0 hw [] c0 hj72 n0 Zj72 ) hZ (ow123 hw) (ow4 hw) (by decide) (by decide)) (g := (mkF m 162 #[.val (.int p1), .val (.int p2), .val (.int p3), .val (.int p4), .val (.int p5), .val (.int p6), .val (.int ln), .val (.ref b101), .val (.ref rt), .val (.ref r), .val (.int s1), .unset, .unset] [(.int c0)])) rfl (by rw [hml]; rfl) (argsL := [(.int c0)]) (rest := []) (lenOf pd__C_Z rfl) rfl (by show 2 * 0 + _ ≤ _; exact Nat.le_of_eq rfl) (hb hby at_162) (fun _ _ => ⟨rfl, ej152, (by decide : 20 + 0 ≤ _), (by decide : 1000 + 0 ≤ _)⟩)
              dsimp only [Pt.U, Pt.locs, Pt.cells, Pt.slots] at X146 l146 y146 z146 st146 hQ146
              rw [l146, y146, z146] at X146
              obtain ⟨rfl, N146q, eq146⟩ := hQ146
              have N146 := Fr.app Nj152 N146q
              refine Rch.go st146 ?_
              show Rch _ _ _ _ (T146.setTop (mkF m 165 #[.val (.int p1), .val (.int p2), .val (.int p3), .val (.int p4), .val (.int p5), .val (.int p6), .val (.int ln), .val (.ref b101), .val (.ref rt), .val (.ref r), .val (.int s1), .unset, .unset] [(.int (fSp c0))]))
              by_cases hc165_147 : (fSp c0) = (0 : Int32)
              · skip
                refine Rch.go (fun zt zk => XS.ifNo X146.here hx rfl (hb hby at_165) rfl ((if0 _ _).trans (teq hc165_147).2) zk) ?_
                refine Rch.go (fun zt zk => XS.iconst X146.here hx rfl (hb hby at_168) zk) ?_
                refine Rch.go (fun zt zk => XS.istore X146.here hx rfl (hb hby at_169) rfl (l' := #[.val (.int p1), .val (.int p2), .val (.int p3), .val (.int p4), .val (.int p5), .val (.int p6), .val (.int ln), .val (.ref b101), .val (.ref rt), .val (.ref r), .val (.int (0 : Int32)), .unset, .unset]) rfl zk) ?_
                exact j171 _ _ X146 eq146 N146 _ (by have q := own_stS (ch := (cf5 c0 c1 c2 c3 c4)) (ln := ln) (k := (0 : Int32)) (c := c0) (n := 0) (by decide) rfl hs1; unfold stS at q; rw [if_pos hc155_144, if_pos hc165_147] at q; exact q)
              · skip
                refine Rch.go (fun zt zk => XS.ifYes X146.here hx rfl (pc0 := 165) (pc' := 171) rfl (hb hby at_165) rfl ((if0 _ _).trans (feq hc165_147).2) (by decide) (by decide) zk) ?_
                show Rch _ _ _ _ (T146.setTop (mkF m 171 #[.val (.int p1), .val (.int p2), .val (.int p3), .val (.int p4), .val (.int p5), .val (.int p6), .val (.int ln), .val (.ref b101), .val (.ref rt), .val (.ref r), .val (.int s1), .unset, .unset] []))
                exact j171 _ _ X146 eq146 N146 _ (by have q := own_stS (ch := (cf5 c0 c1 c2 c3 c4)) (ln := ln) (k := (0 : Int32)) (c := c0) (n := 0) (by decide) rfl hs1; unfold stS at q; rw [if_pos hc155_144, if_neg hc165_147] at q; exact q)
            · skip
              refine Rch.go (fun zt zk => XS.icmpYes Xj152.here hx rfl (pc0 := 155) (pc' := 171) rfl (hb hby at_155) rfl (flt hc155_144).2.1 (by decide) (by decide) zk) ?_
              exact j171 _ _ Xj152 ej152 Nj152 _ (by have q := own_stS (ch := (cf5 c0 c1 c2 c3 c4)) (ln := ln) (k := (0 : Int32)) (c := c0) (n := 0) (by decide) rfl hs1; unfold stS at q; rw [if_neg hc155_144] at q; exact q)
          refine Rch.go (fun zt zk => XS.iconst Xj133.here hx rfl (hb hby at_133) zk) ?_
          refine Rch.go (fun zt zk => XS.iload Xj133.here hx rfl (hb hby at_134) rfl zk) ?_
          by_cases hc136_148 : (1 : Int32) < ln
          · skip
            refine Rch.go (fun zt zk => XS.icmpNo Xj133.here hx rfl (hb hby at_136) rfl (tlt hc136_148).2.1 zk) ?_
            show Rch _ _ _ _ (Tj133.setTop (mkF m 139 #[.val (.int p1), .val (.int p2), .val (.int p3), .val (.int p4), .val (.int p5), .val (.int p6), .val (.int ln), .val (.ref b101), .val (.ref rt), .val (.ref r), .val (.int s2), .unset, .unset] []))
            refine Rch.go (fun zt zk => XS.aload Xj133.here hx rfl (hb hby at_139) rfl rfl zk) ?_
            refine Rch.go (fun zt zk => XS.iconst Xj133.here hx rfl (hb hby at_141) zk) ?_
            obtain ⟨cl149, Ar149, q149, S149, M149, H149, G149⟩ := id Fj72_3
            have hin149 := inb_of (j := (1 : Int32)) S149 ⟨by decide, by decide⟩
            refine Rch.go (Xj133.caload hx (j := (1 : Int32)) (v := (.int c1)) (by rw [ej133]; exact Ar149.1) (State.isArrayOf_alike hZ.alike Ar149.2.1) Ar149.2.2 hin149 (Has.at H149 hin149 rfl) (g := (mkF m 142 #[.val (.int p1), .val (.int p2), .val (.int p3), .val (.int p4), .val (.int p5), .val (.int p6), .val (.int ln), .val (.ref b101), .val (.ref rt), .val (.ref r), .val (.int s2), .unset, .unset] [(.int (1 : Int32)), (.ref b101)])) rfl rfl (hb hby at_142)) ?_
            obtain ⟨_, _, ⟨T150, L150, k150, n150⟩, -, X150, ⟨Lc150, hQ150, l150, y150, z150⟩, st150⟩ := Jvm.LawKit.callS Xj133 hx (y := (⟨"com/example/keepwire/keepwire/ResponseHeadTrimSpacesPinLaw", "sp", "(C)Z"⟩ : MethodName)) hown (mvT hZ (ow121 hw)) (mvT hZ (ow122 hw)) (mvT hZ (ow4 hw)) (mvT hZ (ow123 hw)) (by decide) (backOf (W := 0) (rm28 l Z a0 hw [] c1 hj72 n0 Zj72 ) hZ (ow123 hw) (ow4 hw) (by decide) (by decide)) (g := (mkF m 143 #[.val (.int p1), .val (.int p2), .val (.int p3), .val (.int p4), .val (.int p5), .val (.int p6), .val (.int ln), .val (.ref b101), .val (.ref rt), .val (.ref r), .val (.int s2), .unset, .unset] [(.int c1)])) rfl (by rw [hml]; rfl) (argsL := [(.int c1)]) (rest := []) (lenOf pd__C_Z rfl) rfl (by show 2 * 0 + _ ≤ _; exact Nat.le_of_eq rfl) (hb hby at_143) (fun _ _ => ⟨rfl, ej133, (by decide : 20 + 0 ≤ _), (by decide : 1000 + 0 ≤ _)⟩)
            dsimp only [Pt.U, Pt.locs, Pt.cells, Pt.slots] at X150 l150 y150 z150 st150 hQ150
            rw [l150, y150, z150] at X150
            obtain ⟨rfl, N150q, eq150⟩ := hQ150
            have N150 := Fr.app Nj133 N150q
            refine Rch.go st150 ?_
            show Rch _ _ _ _ (T150.setTop (mkF m 146 #[.val (.int p1), .val (.int p2), .val (.int p3), .val (.int p4), .val (.int p5), .val (.int p6), .val (.int ln), .val (.ref b101), .val (.ref rt), .val (.ref r), .val (.int s2), .unset, .unset] [(.int (fSp c1))]))
            by_cases hc146_151 : (fSp c1) = (0 : Int32)
            · skip
              refine Rch.go (fun zt zk => XS.ifNo X150.here hx rfl (hb hby at_146) rfl ((if0 _ _).trans (teq hc146_151).2) zk) ?_
              refine Rch.go (fun zt zk => XS.iconst X150.here hx rfl (hb hby at_149) zk) ?_
              refine Rch.go (fun zt zk => XS.istore X150.here hx rfl (hb hby at_150) rfl (l' := #[.val (.int p1), .val (.int p2), .val (.int p3), .val (.int p4), .val (.int p5), .val (.int p6), .val (.int ln), .val (.ref b101), .val (.ref rt), .val (.ref r), .val (.int (1 : Int32)), .unset, .unset]) rfl zk) ?_
              exact j152 _ _ X150 eq150 N150 _ (by have q := own_stS (ch := (cf5 c0 c1 c2 c3 c4)) (ln := ln) (k := (1 : Int32)) (c := c1) (n := 1) (by decide) rfl hs2; unfold stS at q; rw [if_pos hc136_148, if_pos hc146_151] at q; exact q)
            · skip
              refine Rch.go (fun zt zk => XS.ifYes X150.here hx rfl (pc0 := 146) (pc' := 152) rfl (hb hby at_146) rfl ((if0 _ _).trans (feq hc146_151).2) (by decide) (by decide) zk) ?_
              show Rch _ _ _ _ (T150.setTop (mkF m 152 #[.val (.int p1), .val (.int p2), .val (.int p3), .val (.int p4), .val (.int p5), .val (.int p6), .val (.int ln), .val (.ref b101), .val (.ref rt), .val (.ref r), .val (.int s2), .unset, .unset] []))
              exact j152 _ _ X150 eq150 N150 _ (by have q := own_stS (ch := (cf5 c0 c1 c2 c3 c4)) (ln := ln) (k := (1 : Int32)) (c := c1) (n := 1) (by decide) rfl hs2; unfold stS at q; rw [if_pos hc136_148, if_neg hc146_151] at q; exact q)
          · skip
            refine Rch.go (fun zt zk => XS.icmpYes Xj133.here hx rfl (pc0 := 136) (pc' := 152) rfl (hb hby at_136) rfl (flt hc136_148).2.1 (by decide) (by decide) zk) ?_
            exact j152 _ _ Xj133 ej133 Nj133 _ (by have q := own_stS (ch := (cf5 c0 c1 c2 c3 c4)) (ln := ln) (k := (1 : Int32)) (c := c1) (n := 1) (by decide) rfl hs2; unfold stS at q; rw [if_neg hc136_148] at q; exact q)
        refine Rch.go (fun zt zk => XS.iconst Xj114.here hx rfl (hb hby at_114) zk) ?_
        refine Rch.go (fun zt zk => XS.iload Xj114.here hx rfl (hb hby at_115) rfl zk) ?_
        by_cases hc117_152 : (2 : Int32) < ln
        · skip
          refine Rch.go (fun zt zk => XS.icmpNo Xj114.here hx rfl (hb hby at_117) rfl (tlt hc117_152).2.1 zk) ?_
          show Rch _ _ _ _ (Tj114.setTop (mkF m 120 #[.val (.int p1), .val (.int p2), .val (.int p3), .val (.int p4), .val (.int p5), .val (.int p6), .val (.int ln), .val (.ref b101), .val (.ref rt), .val (.ref r), .val (.int s3), .unset, .unset] []))
          refine Rch.go (fun zt zk => XS.aload Xj114.here hx rfl (hb hby at_120) rfl rfl zk) ?_
          refine Rch.go (fun zt zk => XS.iconst Xj114.here hx rfl (hb hby at_122) zk) ?_
          obtain ⟨cl153, Ar153, q153, S153, M153, H153, G153⟩ := id Fj72_3
          have hin153 := inb_of (j := (2 : Int32)) S153 ⟨by decide, by decide⟩
          refine Rch.go (Xj114.caload hx (j := (2 : Int32)) (v := (.int c2)) (by rw [ej114]; exact Ar153.1) (State.isArrayOf_alike hZ.alike Ar153.2.1) Ar153.2.2 hin153 (Has.at H153 hin153 rfl) (g := (mkF m 123 #[.val (.int p1), .val (.int p2), .val (.int p3), .val (.int p4), .val (.int p5), .val (.int p6), .val (.int ln), .val (.ref b101), .val (.ref rt), .val (.ref r), .val (.int s3), .unset, .unset] [(.int (2 : Int32)), (.ref b101)])) rfl rfl (hb hby at_123)) ?_
          obtain ⟨_, _, ⟨T154, L154, k154, n154⟩, -, X154, ⟨Lc154, hQ154, l154, y154, z154⟩, st154⟩ := Jvm.LawKit.callS Xj114 hx (y := (⟨"com/example/keepwire/keepwire/ResponseHeadTrimSpacesPinLaw", "sp", "(C)Z"⟩ : MethodName)) hown (mvT hZ (ow121 hw)) (mvT hZ (ow122 hw)) (mvT hZ (ow4 hw)) (mvT hZ (ow123 hw)) (by decide) (backOf (W := 0) (rm28 l Z a0 hw [] c2 hj72 n0 Zj72 ) hZ (ow123 hw) (ow4 hw) (by decide) (by decide)) (g := (mkF m 124 #[.val (.int p1), .val (.int p2), .val (.int p3), .val (.int p4), .val (.int p5), .val (.int p6), .val (.int ln), .val (.ref b101), .val (.ref rt), .val (.ref r), .val (.int s3), .unset, .unset] [(.int c2)])) rfl (by rw [hml]; rfl) (argsL := [(.int c2)]) (rest := []) (lenOf pd__C_Z rfl) rfl (by show 2 * 0 + _ ≤ _; exact Nat.le_of_eq rfl) (hb hby at_124) (fun _ _ => ⟨rfl, ej114, (by decide : 20 + 0 ≤ _), (by decide : 1000 + 0 ≤ _)⟩)
          dsimp only [Pt.U, Pt.locs, Pt.cells, Pt.slots] at X154 l154 y154 z154 st154 hQ154
          rw [l154, y154, z154] at X154
          obtain ⟨rfl, N154q, eq154⟩ := hQ154
          have N154 := Fr.app Nj114 N154q
          refine Rch.go st154 ?_
          show Rch _ _ _ _ (T154.setTop (mkF m 127 #[.val (.int p1), .val (.int p2), .val (.int p3), .val (.int p4), .val (.int p5), .val (.int p6), .val (.int ln), .val (.ref b101), .val (.ref rt), .val (.ref r), .val (.int s3), .unset, .unset] [(.int (fSp c2))]))
          by_cases hc127_155 : (fSp c2) = (0 : Int32)
          · skip
            refine Rch.go (fun zt zk => XS.ifNo X154.here hx rfl (hb hby at_127) rfl ((if0 _ _).trans (teq hc127_155).2) zk) ?_
            refine Rch.go (fun zt zk => XS.iconst X154.here hx rfl (hb hby at_130) zk) ?_
            refine Rch.go (fun zt zk => XS.istore X154.here hx rfl (hb hby at_131) rfl (l' := #[.val (.int p1), .val (.int p2), .val (.int p3), .val (.int p4), .val (.int p5), .val (.int p6), .val (.int ln), .val (.ref b101), .val (.ref rt), .val (.ref r), .val (.int (2 : Int32)), .unset, .unset]) rfl zk) ?_
            exact j133 _ _ X154 eq154 N154 _ (by have q := own_stS (ch := (cf5 c0 c1 c2 c3 c4)) (ln := ln) (k := (2 : Int32)) (c := c2) (n := 2) (by decide) rfl hs3; unfold stS at q; rw [if_pos hc117_152, if_pos hc127_155] at q; exact q)
          · skip
            refine Rch.go (fun zt zk => XS.ifYes X154.here hx rfl (pc0 := 127) (pc' := 133) rfl (hb hby at_127) rfl ((if0 _ _).trans (feq hc127_155).2) (by decide) (by decide) zk) ?_
            show Rch _ _ _ _ (T154.setTop (mkF m 133 #[.val (.int p1), .val (.int p2), .val (.int p3), .val (.int p4), .val (.int p5), .val (.int p6), .val (.int ln), .val (.ref b101), .val (.ref rt), .val (.ref r), .val (.int s3), .unset, .unset] []))
            exact j133 _ _ X154 eq154 N154 _ (by have q := own_stS (ch := (cf5 c0 c1 c2 c3 c4)) (ln := ln) (k := (2 : Int32)) (c := c2) (n := 2) (by decide) rfl hs3; unfold stS at q; rw [if_pos hc117_152, if_neg hc127_155] at q; exact q)
        · skip
          refine Rch.go (fun zt zk => XS.icmpYes Xj114.here hx rfl (pc0 := 117) (pc' := 133) rfl (hb hby at_117) rfl (flt hc117_152).2.1 (by decide) (by decide) zk) ?_
          exact j133 _ _ Xj114 ej114 Nj114 _ (by have q := own_stS (ch := (cf5 c0 c1 c2 c3 c4)) (ln := ln) (k := (2 : Int32)) (c := c2) (n := 2) (by decide) rfl hs3; unfold stS at q; rw [if_neg hc117_152] at q; exact q)
      refine Rch.go (fun zt zk => XS.iconst Xj95.here hx rfl (hb hby at_95) zk) ?_
      refine Rch.go (fun zt zk => XS.iload Xj95.here hx rfl (hb hby at_96) rfl zk) ?_
      by_cases hc98_156 : (3 : Int32) < ln
      · skip
        refine Rch.go (fun zt zk => XS.icmpNo Xj95.here hx rfl (hb hby at_98) rfl (tlt hc98_156).2.1 zk) ?_
        show Rch _ _ _ _ (Tj95.setTop (mkF m 101 #[.val (.int p1), .val (.int p2), .val (.int p3), .val (.int p4), .val (.int p5), .val (.int p6), .val (.int ln), .val (.ref b101), .val (.ref rt), .val (.ref r), .val (.int s4), .unset, .unset] []))
        refine Rch.go (fun zt zk => XS.aload Xj95.here hx rfl (hb hby at_101) rfl rfl zk) ?_
        refine Rch.go (fun zt zk => XS.iconst Xj95.here hx rfl (hb hby at_103) zk) ?_
        obtain ⟨cl157, Ar157, q157, S157, M157, H157, G157⟩ := id Fj72_3
        have hin157 := inb_of (j := (3 : Int32)) S157 ⟨by decide, by decide⟩
        refine Rch.go (Xj95.caload hx (j := (3 : Int32)) (v := (.int c3)) (by rw [ej95]; exact Ar157.1) (State.isArrayOf_alike hZ.alike Ar157.2.1) Ar157.2.2 hin157 (Has.at H157 hin157 rfl) (g := (mkF m 104 #[.val (.int p1), .val (.int p2), .val (.int p3), .val (.int p4), .val (.int p5), .val (.int p6), .val (.int ln), .val (.ref b101), .val (.ref rt), .val (.ref r), .val (.int s4), .unset, .unset] [(.int (3 : Int32)), (.ref b101)])) rfl rfl (hb hby at_104)) ?_
        obtain ⟨_, _, ⟨T158, L158, k158, n158⟩, -, X158, ⟨Lc158, hQ158, l158, y158, z158⟩, st158⟩ := Jvm.LawKit.callS Xj95 hx (y := (⟨"com/example/keepwire/keepwire/ResponseHeadTrimSpacesPinLaw", "sp", "(C)Z"⟩ : MethodName)) hown (mvT hZ (ow121 hw)) (mvT hZ (ow122 hw)) (mvT hZ (ow4 hw)) (mvT hZ (ow123 hw)) (by decide) (backOf (W := 0) (rm28 l Z a0 hw [] c3 hj72 n0 Zj72 ) hZ (ow123 hw) (ow4 hw) (by decide) (by decide)) (g := (mkF m 105 #[.val (.int p1), .val (.int p2), .val (.int p3), .val (.int p4), .val (.int p5), .val (.int p6), .val (.int ln), .val (.ref b101), .val (.ref rt), .val (.ref r), .val (.int s4), .unset, .unset] [(.int c3)])) rfl (by rw [hml]; rfl) (argsL := [(.int c3)]) (rest := []) (lenOf pd__C_Z rfl) rfl (by show 2 * 0 + _ ≤ _; exact Nat.le_of_eq rfl) (hb hby at_105) (fun _ _ => ⟨rfl, ej95, (by decide : 20 + 0 ≤ _), (by decide : 1000 + 0 ≤ _)⟩)
        dsimp only [Pt.U, Pt.locs, Pt.cells, Pt.slots] at X158 l158 y158 z158 st158 hQ158
        rw [l158, y158, z158] at X158
        obtain ⟨rfl, N158q, eq158⟩ := hQ158
        have N158 := Fr.app Nj95 N158q
        refine Rch.go st158 ?_
        show Rch _ _ _ _ (T158.setTop (mkF m 108 #[.val (.int p1), .val (.int p2), .val (.int p3), .val (.int p4), .val (.int p5), .val (.int p6), .val (.int ln), .val (.ref b101), .val (.ref rt), .val (.ref r), .val (.int s4), .unset, .unset] [(.int (fSp c3))]))
        by_cases hc108_159 : (fSp c3) = (0 : Int32)
        · skip
          refine Rch.go (fun zt zk => XS.ifNo X158.here hx rfl (hb hby at_108) rfl ((if0 _ _).trans (teq hc108_159).2) zk) ?_
          refine Rch.go (fun zt zk => XS.iconst X158.here hx rfl (hb hby at_111) zk) ?_
          refine Rch.go (fun zt zk => XS.istore X158.here hx rfl (hb hby at_112) rfl (l' := #[.val (.int p1), .val (.int p2), .val (.int p3), .val (.int p4), .val (.int p5), .val (.int p6), .val (.int ln), .val (.ref b101), .val (.ref rt), .val (.ref r), .val (.int (3 : Int32)), .unset, .unset]) rfl zk) ?_
          exact j114 _ _ X158 eq158 N158 _ (by have q := own_stS (ch := (cf5 c0 c1 c2 c3 c4)) (ln := ln) (k := (3 : Int32)) (c := c3) (n := 3) (by decide) rfl hs4; unfold stS at q; rw [if_pos hc98_156, if_pos hc108_159] at q; exact q)
        · skip
          refine Rch.go (fun zt zk => XS.ifYes X158.here hx rfl (pc0 := 108) (pc' := 114) rfl (hb hby at_108) rfl ((if0 _ _).trans (feq hc108_159).2) (by decide) (by decide) zk) ?_
          show Rch _ _ _ _ (T158.setTop (mkF m 114 #[.val (.int p1), .val (.int p2), .val (.int p3), .val (.int p4), .val (.int p5), .val (.int p6), .val (.int ln), .val (.ref b101), .val (.ref rt), .val (.ref r), .val (.int s4), .unset, .unset] []))
          exact j114 _ _ X158 eq158 N158 _ (by have q := own_stS (ch := (cf5 c0 c1 c2 c3 c4)) (ln := ln) (k := (3 : Int32)) (c := c3) (n := 3) (by decide) rfl hs4; unfold stS at q; rw [if_pos hc98_156, if_neg hc108_159] at q; exact q)
      · skip
        refine Rch.go (fun zt zk => XS.icmpYes Xj95.here hx rfl (pc0 := 98) (pc' := 114) rfl (hb hby at_98) rfl (flt hc98_156).2.1 (by decide) (by decide) zk) ?_
        exact j114 _ _ Xj95 ej95 Nj95 _ (by have q := own_stS (ch := (cf5 c0 c1 c2 c3 c4)) (ln := ln) (k := (3 : Int32)) (c := c3) (n := 3) (by decide) rfl hs4; unfold stS at q; rw [if_neg hc98_156] at q; exact q)
    refine Rch.go (fun zt zk => XS.iload Xj72.here hx rfl (hb hby at_72) rfl zk) ?_
    refine Rch.go (fun zt zk => XS.istore Xj72.here hx rfl (hb hby at_74) rfl (l' := #[.val (.int p1), .val (.int p2), .val (.int p3), .val (.int p4), .val (.int p5), .val (.int p6), .val (.int ln), .val (.ref b101), .val (.ref rt), .val (.ref r), .val (.int ln), .unset, .unset]) rfl zk) ?_
    refine Rch.go (fun zt zk => XS.iconst Xj72.here hx rfl (hb hby at_76) zk) ?_
    show Rch _ _ _ _ (Tj72.setTop (mkF m 77 #[.val (.int p1), .val (.int p2), .val (.int p3), .val (.int p4), .val (.int p5), .val (.int p6), .val (.int ln), .val (.ref b101), .val (.ref rt), .val (.ref r), .val (.int ln), .unset, .unset] [(.int (4 : Int32))]))
    refine Rch.go (fun zt zk => XS.iload Xj72.here hx rfl (hb hby at_77) rfl zk) ?_
    by_cases hc79_160 : (4 : Int32) < ln
    · skip
      refine Rch.go (fun zt zk => XS.icmpNo Xj72.here hx rfl (hb hby at_79) rfl (tlt hc79_160).2.1 zk) ?_
      refine Rch.go (fun zt zk => XS.aload Xj72.here hx rfl (hb hby at_82) rfl rfl zk) ?_
      refine Rch.go (fun zt zk => XS.iconst Xj72.here hx rfl (hb hby at_84) zk) ?_
      show Rch _ _ _ _ (Tj72.setTop (mkF m 85 #[.val (.int p1), .val (.int p2), .val (.int p3), .val (.int p4), .val (.int p5), .val (.int p6), .val (.int ln), .val (.ref b101), .val (.ref rt), .val (.ref r), .val (.int ln), .unset, .unset] [(.int (4 : Int32)), (.ref b101)]))
      obtain ⟨cl161, Ar161, q161, S161, M161, H161, G161⟩ := id Fj72_3
      have hin161 := inb_of (j := (4 : Int32)) S161 ⟨by decide, by decide⟩
      refine Rch.go (Xj72.caload hx (j := (4 : Int32)) (v := (.int c4)) (by rw [ej72]; exact Ar161.1) (State.isArrayOf_alike hZ.alike Ar161.2.1) Ar161.2.2 hin161 (Has.at H161 hin161 rfl) (g := (mkF m 85 #[.val (.int p1), .val (.int p2), .val (.int p3), .val (.int p4), .val (.int p5), .val (.int p6), .val (.int ln), .val (.ref b101), .val (.ref rt), .val (.ref r), .val (.int ln), .unset, .unset] [(.int (4 : Int32)), (.ref b101)])) rfl rfl (hb hby at_85)) ?_
      obtain ⟨_, _, ⟨T162, L162, k162, n162⟩, -, X162, ⟨Lc162, hQ162, l162, y162, z162⟩, st162⟩ := Jvm.LawKit.callS Xj72 hx (y := (⟨"com/example/keepwire/keepwire/ResponseHeadTrimSpacesPinLaw", "sp", "(C)Z"⟩ : MethodName)) hown (mvT hZ (ow121 hw)) (mvT hZ (ow122 hw)) (mvT hZ (ow4 hw)) (mvT hZ (ow123 hw)) (by decide) (backOf (W := 0) (rm28 l Z a0 hw [] c4 hj72 n0 Zj72 ) hZ (ow123 hw) (ow4 hw) (by decide) (by decide)) (g := (mkF m 86 #[.val (.int p1), .val (.int p2), .val (.int p3), .val (.int p4), .val (.int p5), .val (.int p6), .val (.int ln), .val (.ref b101), .val (.ref rt), .val (.ref r), .val (.int ln), .unset, .unset] [(.int c4)])) rfl (by rw [hml]; rfl) (argsL := [(.int c4)]) (rest := []) (lenOf pd__C_Z rfl) rfl (by show 2 * 0 + _ ≤ _; exact Nat.le_of_eq rfl) (hb hby at_86) (fun _ _ => ⟨rfl, ej72, (by decide : 20 + 0 ≤ _), (by decide : 1000 + 0 ≤ _)⟩)
      dsimp only [Pt.U, Pt.locs, Pt.cells, Pt.slots] at X162 l162 y162 z162 st162 hQ162
      rw [l162, y162, z162] at X162
      obtain ⟨rfl, N162q, eq162⟩ := hQ162
      have N162 := Fr.app Nj72 N162q
      refine Rch.go st162 ?_
      by_cases hc89_163 : (fSp c4) = (0 : Int32)
      · skip
        refine Rch.go (fun zt zk => XS.ifNo X162.here hx rfl (hb hby at_89) rfl ((if0 _ _).trans (teq hc89_163).2) zk) ?_
        refine Rch.go (fun zt zk => XS.iconst X162.here hx rfl (hb hby at_92) zk) ?_
        show Rch _ _ _ _ (T162.setTop (mkF m 93 #[.val (.int p1), .val (.int p2), .val (.int p3), .val (.int p4), .val (.int p5), .val (.int p6), .val (.int ln), .val (.ref b101), .val (.ref rt), .val (.ref r), .val (.int ln), .unset, .unset] [(.int (4 : Int32))]))
        refine Rch.go (fun zt zk => XS.istore X162.here hx rfl (hb hby at_93) rfl (l' := #[.val (.int p1), .val (.int p2), .val (.int p3), .val (.int p4), .val (.int p5), .val (.int p6), .val (.int ln), .val (.ref b101), .val (.ref rt), .val (.ref r), .val (.int (4 : Int32)), .unset, .unset]) rfl zk) ?_
        exact j95 _ _ X162 eq162 N162 _ (by have q := own_stS (ch := (cf5 c0 c1 c2 c3 c4)) (ln := ln) (k := (4 : Int32)) (c := c4) (n := 4) (by decide) rfl (own_i0 hl5); unfold stS at q; rw [if_pos hc79_160, if_pos hc89_163] at q; exact q)
      · skip
        refine Rch.go (fun zt zk => XS.ifYes X162.here hx rfl (pc0 := 89) (pc' := 95) rfl (hb hby at_89) rfl ((if0 _ _).trans (feq hc89_163).2) (by decide) (by decide) zk) ?_
        exact j95 _ _ X162 eq162 N162 _ (by have q := own_stS (ch := (cf5 c0 c1 c2 c3 c4)) (ln := ln) (k := (4 : Int32)) (c := c4) (n := 4) (by decide) rfl (own_i0 hl5); unfold stS at q; rw [if_pos hc79_160, if_neg hc89_163] at q; exact q)
    · skip
      refine Rch.go (fun zt zk => XS.icmpYes Xj72.here hx rfl (pc0 := 79) (pc' := 95) rfl (hb hby at_79) rfl (flt hc79_160).2.1 (by decide) (by decide) zk) ?_
      exact j95 _ _ Xj72 ej72 Nj72 _ (by have q := own_stS (ch := (cf5 c0 c1 c2 c3 c4)) (ln := ln) (k := (4 : Int32)) (c := c4) (n := 4) (by decide) rfl (own_i0 hl5); unfold stS at q; rw [if_neg hc79_160] at q; exact q)
  rcases own_six hln with rfl | rfl | rfl | rfl | rfl | rfl
  · skip
    show Rch _ _ _ _ (T116.setTop (mkF m 56 #[.val (.int p1), .val (.int p2), .val (.int p3), .val (.int p4), .val (.int p5), .val (.int p6), .val (.int (0 : Int32)), .val (.ref b101), .unset, .unset, .unset, .unset, .unset] []))
    refine Rch.go (fun zt zk => XS.iload X116.here hx rfl (hb hby at_56) rfl zk) ?_
    refine Rch.go (fun zt zk => XS.aload X116.here hx rfl (hb hby at_58) rfl rfl zk) ?_
    have f165 := ((((((PO.ext E101).wr W104 ge101).wr W107 ge101).wr W110 ge101).wr W113 ge101).wr W116 ge101)
    have f166 := (Nat.le_trans f115 (Keep.of_wr W116).1)
    obtain ⟨_, _, ⟨T164, L164, k164, n164⟩, -, X164, hS164, hgr164, ⟨Lc164, hQ164, l164, y164, z164⟩, st164⟩ := callSS X116 hx (y := (⟨"com/example/keepwire/keepwire/ResponseHeadTrimSpacesPinLaw", "make", "(I[C)Ljava/lang/String;"⟩ : MethodName)) hown (mvT hZ (ow6 hw)) (mvT hZ (ow7 hw)) (mvT hZ (ow4 hw)) (mvT hZ (ow8 hw)) (by decide) (own_backS (W := 0) (rmMk0 l Z a0 hw [] (b101) h116 n0 f166 (f165) (hlit) (hcw)) hZ (ow8 hw) (ow4 hw) (by decide) (by decide)) (g := (mkF m 60 #[.val (.int p1), .val (.int p2), .val (.int p3), .val (.int p4), .val (.int p5), .val (.int p6), .val (.int (0 : Int32)), .val (.ref b101), .unset, .unset, .unset, .unset, .unset] [(.ref b101), (.int (0 : Int32))])) rfl (by rw [hml]; rfl) (argsL := [(.int (0 : Int32)), (.ref b101)]) (rest := []) (lenOf pd__I_C_Ljava_lang_String_ rfl) rfl (by show 2 * 0 + _ ≤ _; exact Nat.le_of_eq rfl) (hb hby at_60) (fun vmq hWq => ⟨rfl, e116, (by decide : 1 + 4 ≤ _), (by decide : 5 + 8 ≤ _), (State.WarmedH.interned_eq hWq).trans hI⟩)
    dsimp only [Pt.U, Pt.locs, Pt.cells, Pt.slots] at X164 l164 y164 z164 st164 hQ164 hS164 hgr164
    rw [l164, y164, z164] at X164
    have hZ : Z.Warmed39 (s.setVm T164.vm).vm := State.Warmed39.trans (t := s) hZ hS164.1
    have hown : (s.setVm T164.vm).vm.findClass "com/example/keepwire/keepwire/ResponseHeadTrimSpacesPinLaw" = some m.cls := (hS164.1.alike.findClass _ _).trans hown
    obtain ⟨⟨r164, b164, kb164, w164, rfl, hw164, E164, C164, U164, V164⟩, N164q, K164q⟩ := hQ164
    have N164 := Fr.app N116 N164q
    have K164 := Keep.trans K116 K164q all0
    have ZS164 : T164.heap.size ≤ T164.heap.size := Nat.le_refl _
    refine Rch.go (fun zt zk => st164.trans zk) ?_
    refine Rch.go (fun zt zk => XS.astore X164.here hx rfl (hb hby at_63) rfl rfl (l' := #[.val (.int p1), .val (.int p2), .val (.int p3), .val (.int p4), .val (.int p5), .val (.int p6), .val (.int (0 : Int32)), .val (.ref b101), .val (.ref r164), .unset, .unset, .unset, .unset]) rfl zk) ?_
    show Rch _ _ _ _ (T164.setTop (mkF m 65 #[.val (.int p1), .val (.int p2), .val (.int p3), .val (.int p4), .val (.int p5), .val (.int p6), .val (.int (0 : Int32)), .val (.ref b101), .val (.ref r164), .unset, .unset, .unset, .unset] []))
    refine Rch.go (fun zt zk => XS.aload X164.here hx rfl (hb hby at_65) rfl rfl zk) ?_
    have f168 := (f165.keep K164q all0)
    have f169 := (Nat.le_trans f166 K164q.1)
    obtain ⟨_, _, ⟨T167, L167, k167, n167⟩, -, X167, ⟨Lc167, hQ167, l167, y167, z167⟩, st167⟩ := Jvm.LawKit.callS X164 hx (y := (⟨"com/example/keepwire/keepwire/ResponseHead", "trimSpaces", "(Ljava/lang/String;)Ljava/lang/String;"⟩ : MethodName)) hown (mvT hZ (ow30 hw)) (mvT hZ (ow31 hw)) (mvT hZ (ow32 hw)) (mvT hZ (ow33 hw)) (by decide) (backOf (W := 0) (rmTs0 l Z a0 hw [] (r164) (b164) (kb164) (w164) (cz) (rG) T164.heap n0 f169 (f168) (PZ) (PF) (E164) (C164) (U164) (V164) (hrG) (hcz) (hw164)) hZ (ow33 hw) (ow32 hw) (by decide) (by decide)) (g := (mkF m 67 #[.val (.int p1), .val (.int p2), .val (.int p3), .val (.int p4), .val (.int p5), .val (.int p6), .val (.int (0 : Int32)), .val (.ref b101), .val (.ref r164), .unset, .unset, .unset, .unset] [(.ref r164)])) rfl (by rw [hml]; rfl) (argsL := [(.ref r164)]) (rest := []) (lenOf pd__Ljava_lang_String__Ljava_lang_String_ rfl) rfl (by show 2 * 0 + _ ≤ _; exact Nat.le_of_eq rfl) (hb hby at_67) (fun _ _ => ⟨rfl, rfl, (by decide : 5 + 0 ≤ _), (by decide : 13 + 0 ≤ _)⟩)
    dsimp only [Pt.U, Pt.locs, Pt.cells, Pt.slots] at X167 l167 y167 z167 st167 hQ167
    rw [l167, y167, z167] at X167
    obtain ⟨⟨r167, b167, kb167, w167, m167, vs167, rfl, hw167, E167, C167, U167, V167, hD167⟩, N167q, K167q⟩ := hQ167
    have N167 := Fr.app N164 N167q
    have K167 := Keep.trans K164 K167q all0
    refine Rch.go st167 ?_
    refine Rch.go (fun zt zk => XS.astore X167.here hx rfl (hb hby at_70) rfl rfl (l' := #[.val (.int p1), .val (.int p2), .val (.int p3), .val (.int p4), .val (.int p5), .val (.int p6), .val (.int (0 : Int32)), .val (.ref b101), .val (.ref r164), .val (.ref r167), .unset, .unset, .unset]) rfl zk) ?_
    have f170 := (f168.keep K167q all0)
    have f171 := ((VA.keep K164q nin0).keep K167q nin0)
    have f172 := (Nat.le_trans f169 K167q.1)
    have f173 := (Nat.le_trans ZS164 K167q.1)
    exact j72 (0 : Int32) r164 r167 b167 kb167 w167 m167 vs167 T164.vm _ _ _ _ (X167.mono (by decide) (by decide)) rfl N167 f172 K167 f170 PZ PF f171 E167 C167 U167 V167 hS164 hZ hown hw167 ⟨by decide, by decide⟩ (by obtain ⟨hm, hv⟩ := hD167; rw [hm, hv]; exact own_tCold (i := (0 : Int32)) (by decide) (by decide) (fun j hj => by rw [own_e0] at hj; omega) (fun j h1 h2 => by rw [own_e0] at h2; omega)) f173
  · skip
    show Rch _ _ _ _ (T116.setTop (mkF m 56 #[.val (.int p1), .val (.int p2), .val (.int p3), .val (.int p4), .val (.int p5), .val (.int p6), .val (.int (1 : Int32)), .val (.ref b101), .unset, .unset, .unset, .unset, .unset] []))
    refine Rch.go (fun zt zk => XS.iload X116.here hx rfl (hb hby at_56) rfl zk) ?_
    refine Rch.go (fun zt zk => XS.aload X116.here hx rfl (hb hby at_58) rfl rfl zk) ?_
    have f175 := ((((((PO.ext E101).wr W104 ge101).wr W107 ge101).wr W110 ge101).wr W113 ge101).wr W116 ge101)
    have f176 := (Nat.le_trans f115 (Keep.of_wr W116).1)
    obtain ⟨_, _, ⟨T174, L174, k174, n174⟩, -, X174, ⟨Lc174, hQ174, l174, y174, z174⟩, st174⟩ := Jvm.LawKit.callS X116 hx (y := (⟨"com/example/keepwire/keepwire/ResponseHeadTrimSpacesPinLaw", "make", "(I[C)Ljava/lang/String;"⟩ : MethodName)) hown (mvT hZ (ow6 hw)) (mvT hZ (ow7 hw)) (mvT hZ (ow4 hw)) (mvT hZ (ow8 hw)) (by decide) (backOf (W := 0) (rmMk1 l Z a0 hw [] (b101) (k101) (cz) (c0) (c1) (c2) (c3) (c4) h116 n0 f176 (VA) (f175) (PZ) (r_c0) (hcz)) hZ (ow8 hw) (ow4 hw) (by decide) (by decide)) (g := (mkF m 60 #[.val (.int p1), .val (.int p2), .val (.int p3), .val (.int p4), .val (.int p5), .val (.int p6), .val (.int (1 : Int32)), .val (.ref b101), .unset, .unset, .unset, .unset, .unset] [(.ref b101), (.int (1 : Int32))])) rfl (by rw [hml]; rfl) (argsL := [(.int (1 : Int32)), (.ref b101)]) (rest := []) (lenOf pd__I_C_Ljava_lang_String_ rfl) rfl (by show 2 * 0 + _ ≤ _; exact Nat.le_of_eq rfl) (hb hby at_60) (fun _ _ => ⟨rfl, e116, (by decide : 1 + 3 ≤ _), (by decide : 5 + 6 ≤ _)⟩)
    dsimp only [Pt.U, Pt.locs, Pt.cells, Pt.slots] at X174 l174 y174 z174 st174 hQ174
    rw [l174, y174, z174] at X174
    obtain ⟨⟨r174, b174, kb174, w174, rfl, hw174, E174, C174, U174, V174⟩, N174q, K174q⟩ := hQ174
    have N174 := Fr.app N116 N174q
    have K174 := Keep.trans K116 K174q all0
    refine Rch.go st174 ?_
    refine Rch.go (fun zt zk => XS.astore X174.here hx rfl (hb hby at_63) rfl rfl (l' := #[.val (.int p1), .val (.int p2), .val (.int p3), .val (.int p4), .val (.int p5), .val (.int p6), .val (.int (1 : Int32)), .val (.ref b101), .val (.ref r174), .unset, .unset, .unset, .unset]) rfl zk) ?_
    show Rch _ _ _ _ (T174.setTop (mkF m 65 #[.val (.int p1), .val (.int p2), .val (.int p3), .val (.int p4), .val (.int p5), .val (.int p6), .val (.int (1 : Int32)), .val (.ref b101), .val (.ref r174), .unset, .unset, .unset, .unset] []))
    refine Rch.go (fun zt zk => XS.aload X174.here hx rfl (hb hby at_65) rfl rfl zk) ?_
    have f178 := (f175.keep K174q all0)
    have f179 := (Nat.le_trans f176 K174q.1)
    obtain ⟨_, _, ⟨T177, L177, k177, n177⟩, -, X177, hS177, hgr177, ⟨Lc177, hQ177, l177, y177, z177⟩, st177⟩ := callSS X174 hx (y := (⟨"com/example/keepwire/keepwire/ResponseHead", "trimSpaces", "(Ljava/lang/String;)Ljava/lang/String;"⟩ : MethodName)) hown (mvT hZ (ow30 hw)) (mvT hZ (ow31 hw)) (mvT hZ (ow32 hw)) (mvT hZ (ow33 hw)) (by decide) (own_backS (W := 0) (rmTsG l Z a0 hw [] (r174) (b174) (kb174) ((1 : Int32)) ([(.int (bOf c0))]) (w174) (cz) (rG) ((cf5 c0 c1 c2 c3 c4)) T174.heap n0 f179 (f178) (PZ) (PF) (E174) (C174) (U174) (V174) (hrG) (hcz) (hw174) (⟨by decide, by decide, fun i hi => by
      have e : (1 : Int32).toInt = 1 := by decide
      rcases i with _ | i
      · exact ⟨rfl, r_c0⟩
      · omega⟩) (hlit2) (hcw)) hZ (ow33 hw) (ow32 hw) (by decide) (by decide)) (g := (mkF m 67 #[.val (.int p1), .val (.int p2), .val (.int p3), .val (.int p4), .val (.int p5), .val (.int p6), .val (.int (1 : Int32)), .val (.ref b101), .val (.ref r174), .unset, .unset, .unset, .unset] [(.ref r174)])) rfl (by rw [hml]; rfl) (argsL := [(.ref r174)]) (rest := []) (lenOf pd__Ljava_lang_String__Ljava_lang_String_ rfl) rfl (by show 2 * 0 + _ ≤ _; exact Nat.le_of_eq rfl) (hb hby at_67) (fun vmq hWq => ⟨rfl, rfl, (by decide : 4 + 2 ≤ _), (by decide : 11 + 12 ≤ _), (State.WarmedH.interned_eq hWq).trans hI⟩)
    dsimp only [Pt.U, Pt.locs, Pt.cells, Pt.slots] at X177 l177 y177 z177 st177 hQ177 hS177 hgr177
    rw [l177, y177, z177] at X177
    have hZ : Z.Warmed39 (s.setVm T177.vm).vm := State.Warmed39.trans (t := s) hZ hS177.1
    have hown : (s.setVm T177.vm).vm.findClass "com/example/keepwire/keepwire/ResponseHeadTrimSpacesPinLaw" = some m.cls := (hS177.1.alike.findClass _ _).trans hown
    obtain ⟨⟨r177, b177, kb177, w177, m177, vs177, rfl, hw177, E177, C177, U177, V177, hD177⟩, N177q, K177q⟩ := hQ177
    have N177 := Fr.app N174 N177q
    have K177 := Keep.trans K174 K177q all0
    have ZS177 : T177.heap.size ≤ T177.heap.size := Nat.le_refl _
    refine Rch.go (fun zt zk => st177.trans zk) ?_
    refine Rch.go (fun zt zk => XS.astore X177.here hx rfl (hb hby at_70) rfl rfl (l' := #[.val (.int p1), .val (.int p2), .val (.int p3), .val (.int p4), .val (.int p5), .val (.int p6), .val (.int (1 : Int32)), .val (.ref b101), .val (.ref r174), .val (.ref r177), .unset, .unset, .unset]) rfl zk) ?_
    have f180 := (f178.keep K177q all0)
    have f181 := ((VA.keep K174q nin0).keep K177q nin0)
    have f182 := (Nat.le_trans f179 K177q.1)
    exact j72 (1 : Int32) r174 r177 b177 kb177 w177 m177 vs177 T177.vm _ _ _ _ (X177.mono (by decide) (by decide)) rfl N177 f182 K177 f180 PZ PF f181 E177 C177 U177 V177 hS177 hZ hown hw177 ⟨by decide, by decide⟩ hD177 ZS177
  · skip
    show Rch _ _ _ _ (T116.setTop (mkF m 56 #[.val (.int p1), .val (.int p2), .val (.int p3), .val (.int p4), .val (.int p5), .val (.int p6), .val (.int (2 : Int32)), .val (.ref b101), .unset, .unset, .unset, .unset, .unset] []))
    refine Rch.go (fun zt zk => XS.iload X116.here hx rfl (hb hby at_56) rfl zk) ?_
    refine Rch.go (fun zt zk => XS.aload X116.here hx rfl (hb hby at_58) rfl rfl zk) ?_
    have f184 := ((((((PO.ext E101).wr W104 ge101).wr W107 ge101).wr W110 ge101).wr W113 ge101).wr W116 ge101)
    have f185 := (Nat.le_trans f115 (Keep.of_wr W116).1)
    obtain ⟨_, _, ⟨T183, L183, k183, n183⟩, -, X183, ⟨Lc183, hQ183, l183, y183, z183⟩, st183⟩ := Jvm.LawKit.callS X116 hx (y := (⟨"com/example/keepwire/keepwire/ResponseHeadTrimSpacesPinLaw", "make", "(I[C)Ljava/lang/String;"⟩ : MethodName)) hown (mvT hZ (ow6 hw)) (mvT hZ (ow7 hw)) (mvT hZ (ow4 hw)) (mvT hZ (ow8 hw)) (by decide) (backOf (W := 0) (rmMk2 l Z a0 hw [] (b101) (k101) (cz) (c0) (c1) (c2) (c3) (c4) h116 n0 f185 (VA) (f184) (PZ) (r_c0) (r_c1) (hcz)) hZ (ow8 hw) (ow4 hw) (by decide) (by decide)) (g := (mkF m 60 #[.val (.int p1), .val (.int p2), .val (.int p3), .val (.int p4), .val (.int p5), .val (.int p6), .val (.int (2 : Int32)), .val (.ref b101), .unset, .unset, .unset, .unset, .unset] [(.ref b101), (.int (2 : Int32))])) rfl (by rw [hml]; rfl) (argsL := [(.int (2 : Int32)), (.ref b101)]) (rest := []) (lenOf pd__I_C_Ljava_lang_String_ rfl) rfl (by show 2 * 0 + _ ≤ _; exact Nat.le_of_eq rfl) (hb hby at_60) (fun _ _ => ⟨rfl, e116, (by decide : 1 + 3 ≤ _), (by decide : 5 + 8 ≤ _)⟩)
    dsimp only [Pt.U, Pt.locs, Pt.cells, Pt.slots] at X183 l183 y183 z183 st183 hQ183
    rw [l183, y183, z183] at X183
    obtain ⟨⟨r183, b183, kb183, w183, rfl, hw183, E183, C183, U183, V183⟩, N183q, K183q⟩ := hQ183
    have N183 := Fr.app N116 N183q
    have K183 := Keep.trans K116 K183q all0
    refine Rch.go st183 ?_
    refine Rch.go (fun zt zk => XS.astore X183.here hx rfl (hb hby at_63) rfl rfl (l' := #[.val (.int p1), .val (.int p2), .val (.int p3), .val (.int p4), .val (.int p5), .val (.int p6), .val (.int (2 : Int32)), .val (.ref b101), .val (.ref r183), .unset, .unset, .unset, .unset]) rfl zk) ?_
    show Rch _ _ _ _ (T183.setTop (mkF m 65 #[.val (.int p1), .val (.int p2), .val (.int p3), .val (.int p4), .val (.int p5), .val (.int p6), .val (.int (2 : Int32)), .val (.ref b101), .val (.ref r183), .unset, .unset, .unset, .unset] []))
    refine Rch.go (fun zt zk => XS.aload X183.here hx rfl (hb hby at_65) rfl rfl zk) ?_
    have f187 := (f184.keep K183q all0)
    have f188 := (Nat.le_trans f185 K183q.1)
    obtain ⟨_, _, ⟨T186, L186, k186, n186⟩, -, X186, hS186, hgr186, ⟨Lc186, hQ186, l186, y186, z186⟩, st186⟩ := callSS X183 hx (y := (⟨"com/example/keepwire/keepwire/ResponseHead", "trimSpaces", "(Ljava/lang/String;)Ljava/lang/String;"⟩ : MethodName)) hown (mvT hZ (ow30 hw)) (mvT hZ (ow31 hw)) (mvT hZ (ow32 hw)) (mvT hZ (ow33 hw)) (by decide) (own_backS (W := 0) (rmTsG l Z a0 hw [] (r183) (b183) (kb183) ((2 : Int32)) ([(.int (bOf c0)), (.int (bOf c1))]) (w183) (cz) (rG) ((cf5 c0 c1 c2 c3 c4)) T183.heap n0 f188 (f187) (PZ) (PF) (E183) (C183) (U183) (V183) (hrG) (hcz) (hw183) (⟨by decide, by decide, fun i hi => by
      have e : (2 : Int32).toInt = 2 := by decide
      rcases i with _ | _ | i
      · exact ⟨rfl, r_c0⟩
      · exact ⟨rfl, r_c1⟩
      · omega⟩) (hlit2) (hcw)) hZ (ow33 hw) (ow32 hw) (by decide) (by decide)) (g := (mkF m 67 #[.val (.int p1), .val (.int p2), .val (.int p3), .val (.int p4), .val (.int p5), .val (.int p6), .val (.int (2 : Int32)), .val (.ref b101), .val (.ref r183), .unset, .unset, .unset, .unset] [(.ref r183)])) rfl (by rw [hml]; rfl) (argsL := [(.ref r183)]) (rest := []) (lenOf pd__Ljava_lang_String__Ljava_lang_String_ rfl) rfl (by show 2 * 0 + _ ≤ _; exact Nat.le_of_eq rfl) (hb hby at_67) (fun vmq hWq => ⟨rfl, rfl, (by decide : 4 + 2 ≤ _), (by decide : 13 + 12 ≤ _), (State.WarmedH.interned_eq hWq).trans hI⟩)
    dsimp only [Pt.U, Pt.locs, Pt.cells, Pt.slots] at X186 l186 y186 z186 st186 hQ186 hS186 hgr186
    rw [l186, y186, z186] at X186
    have hZ : Z.Warmed39 (s.setVm T186.vm).vm := State.Warmed39.trans (t := s) hZ hS186.1
    have hown : (s.setVm T186.vm).vm.findClass "com/example/keepwire/keepwire/ResponseHeadTrimSpacesPinLaw" = some m.cls := (hS186.1.alike.findClass _ _).trans hown
    obtain ⟨⟨r186, b186, kb186, w186, m186, vs186, rfl, hw186, E186, C186, U186, V186, hD186⟩, N186q, K186q⟩ := hQ186
    have N186 := Fr.app N183 N186q
    have K186 := Keep.trans K183 K186q all0
    have ZS186 : T186.heap.size ≤ T186.heap.size := Nat.le_refl _
    refine Rch.go (fun zt zk => st186.trans zk) ?_
    refine Rch.go (fun zt zk => XS.astore X186.here hx rfl (hb hby at_70) rfl rfl (l' := #[.val (.int p1), .val (.int p2), .val (.int p3), .val (.int p4), .val (.int p5), .val (.int p6), .val (.int (2 : Int32)), .val (.ref b101), .val (.ref r183), .val (.ref r186), .unset, .unset, .unset]) rfl zk) ?_
    have f189 := (f187.keep K186q all0)
    have f190 := ((VA.keep K183q nin0).keep K186q nin0)
    have f191 := (Nat.le_trans f188 K186q.1)
    exact j72 (2 : Int32) r183 r186 b186 kb186 w186 m186 vs186 T186.vm _ _ _ _ (X186.mono (by decide) (by decide)) rfl N186 f191 K186 f189 PZ PF f190 E186 C186 U186 V186 hS186 hZ hown hw186 ⟨by decide, by decide⟩ hD186 ZS186
  · skip
    show Rch _ _ _ _ (T116.setTop (mkF m 56 #[.val (.int p1), .val (.int p2), .val (.int p3), .val (.int p4), .val (.int p5), .val (.int p6), .val (.int (3 : Int32)), .val (.ref b101), .unset, .unset, .unset, .unset, .unset] []))
    refine Rch.go (fun zt zk => XS.iload X116.here hx rfl (hb hby at_56) rfl zk) ?_
    refine Rch.go (fun zt zk => XS.aload X116.here hx rfl (hb hby at_58) rfl rfl zk) ?_
    have f193 := ((((((PO.ext E101).wr W104 ge101).wr W107 ge101).wr W110 ge101).wr W113 ge101).wr W116 ge101)
    have f194 := (Nat.le_trans f115 (Keep.of_wr W116).1)
    obtain ⟨_, _, ⟨T192, L192, k192, n192⟩, -, X192, ⟨Lc192, hQ192, l192, y192, z192⟩, st192⟩ := Jvm.LawKit.callS X116 hx (y := (⟨"com/example/keepwire/keepwire/ResponseHeadTrimSpacesPinLaw", "make", "(I[C)Ljava/lang/String;"⟩ : MethodName)) hown (mvT hZ (ow6 hw)) (mvT hZ (ow7 hw)) (mvT hZ (ow4 hw)) (mvT hZ (ow8 hw)) (by decide) (backOf (W := 0) (rmMk3 l Z a0 hw [] (b101) (k101) (cz) (c0) (c1) (c2) (c3) (c4) h116 n0 f194 (VA) (f193) (PZ) (r_c0) (r_c1) (r_c2) (hcz)) hZ (ow8 hw) (ow4 hw) (by decide) (by decide)) (g := (mkF m 60 #[.val (.int p1), .val (.int p2), .val (.int p3), .val (.int p4), .val (.int p5), .val (.int p6), .val (.int (3 : Int32)), .val (.ref b101), .unset, .unset, .unset, .unset, .unset] [(.ref b101), (.int (3 : Int32))])) rfl (by rw [hml]; rfl) (argsL := [(.int (3 : Int32)), (.ref b101)]) (rest := []) (lenOf pd__I_C_Ljava_lang_String_ rfl) rfl (by show 2 * 0 + _ ≤ _; exact Nat.le_of_eq rfl) (hb hby at_60) (fun _ _ => ⟨rfl, e116, (by decide : 1 + 3 ≤ _), (by decide : 5 + 10 ≤ _)⟩)
    dsimp only [Pt.U, Pt.locs, Pt.cells, Pt.slots] at X192 l192 y192 z192 st192 hQ192
    rw [l192, y192, z192] at X192
    obtain ⟨⟨r192, b192, kb192, w192, rfl, hw192, E192, C192, U192, V192⟩, N192q, K192q⟩ := hQ192
    have N192 := Fr.app N116 N192q
    have K192 := Keep.trans K116 K192q all0
    refine Rch.go st192 ?_
    refine Rch.go (fun zt zk => XS.astore X192.here hx rfl (hb hby at_63) rfl rfl (l' := #[.val (.int p1), .val (.int p2), .val (.int p3), .val (.int p4), .val (.int p5), .val (.int p6), .val (.int (3 : Int32)), .val (.ref b101), .val (.ref r192), .unset, .unset, .unset, .unset]) rfl zk) ?_
    show Rch _ _ _ _ (T192.setTop (mkF m 65 #[.val (.int p1), .val (.int p2), .val (.int p3), .val (.int p4), .val (.int p5), .val (.int p6), .val (.int (3 : Int32)), .val (.ref b101), .val (.ref r192), .unset, .unset, .unset, .unset] []))
    refine Rch.go (fun zt zk => XS.aload X192.here hx rfl (hb hby at_65) rfl rfl zk) ?_
    have f196 := (f193.keep K192q all0)
    have f197 := (Nat.le_trans f194 K192q.1)
    obtain ⟨_, _, ⟨T195, L195, k195, n195⟩, -, X195, hS195, hgr195, ⟨Lc195, hQ195, l195, y195, z195⟩, st195⟩ := callSS X192 hx (y := (⟨"com/example/keepwire/keepwire/ResponseHead", "trimSpaces", "(Ljava/lang/String;)Ljava/lang/String;"⟩ : MethodName)) hown (mvT hZ (ow30 hw)) (mvT hZ (ow31 hw)) (mvT hZ (ow32 hw)) (mvT hZ (ow33 hw)) (by decide) (own_backS (W := 0) (rmTsG l Z a0 hw [] (r192) (b192) (kb192) ((3 : Int32)) ([(.int (bOf c0)), (.int (bOf c1)), (.int (bOf c2))]) (w192) (cz) (rG) ((cf5 c0 c1 c2 c3 c4)) T192.heap n0 f197 (f196) (PZ) (PF) (E192) (C192) (U192) (V192) (hrG) (hcz) (hw192) (⟨by decide, by decide, fun i hi => by
      have e : (3 : Int32).toInt = 3 := by decide
      rcases i with _ | _ | _ | i
      · exact ⟨rfl, r_c0⟩
      · exact ⟨rfl, r_c1⟩
      · exact ⟨rfl, r_c2⟩
      · omega⟩) (hlit2) (hcw)) hZ (ow33 hw) (ow32 hw) (by decide) (by decide)) (g := (mkF m 67 #[.val (.int p1), .val (.int p2), .val (.int p3), .val (.int p4), .val (.int p5), .val (.int p6), .val (.int (3 : Int32)), .val (.ref b101), .val (.ref r192), .unset, .unset, .unset, .unset] [(.ref r192)])) rfl (by rw [hml]; rfl) (argsL := [(.ref r192)]) (rest := []) (lenOf pd__Ljava_lang_String__Ljava_lang_String_ rfl) rfl (by show 2 * 0 + _ ≤ _; exact Nat.le_of_eq rfl) (hb hby at_67) (fun vmq hWq => ⟨rfl, rfl, (by decide : 4 + 2 ≤ _), (by decide : 15 + 12 ≤ _), (State.WarmedH.interned_eq hWq).trans hI⟩)
    dsimp only [Pt.U, Pt.locs, Pt.cells, Pt.slots] at X195 l195 y195 z195 st195 hQ195 hS195 hgr195
    rw [l195, y195, z195] at X195
    have hZ : Z.Warmed39 (s.setVm T195.vm).vm := State.Warmed39.trans (t := s) hZ hS195.1
    have hown : (s.setVm T195.vm).vm.findClass "com/example/keepwire/keepwire/ResponseHeadTrimSpacesPinLaw" = some m.cls := (hS195.1.alike.findClass _ _).trans hown
    obtain ⟨⟨r195, b195, kb195, w195, m195, vs195, rfl, hw195, E195, C195, U195, V195, hD195⟩, N195q, K195q⟩ := hQ195
    have N195 := Fr.app N192 N195q
    have K195 := Keep.trans K192 K195q all0
    have ZS195 : T195.heap.size ≤ T195.heap.size := Nat.le_refl _
    refine Rch.go (fun zt zk => st195.trans zk) ?_
    refine Rch.go (fun zt zk => XS.astore X195.here hx rfl (hb hby at_70) rfl rfl (l' := #[.val (.int p1), .val (.int p2), .val (.int p3), .val (.int p4), .val (.int p5), .val (.int p6), .val (.int (3 : Int32)), .val (.ref b101), .val (.ref r192), .val (.ref r195), .unset, .unset, .unset]) rfl zk) ?_
    have f198 := (f196.keep K195q all0)
    have f199 := ((VA.keep K192q nin0).keep K195q nin0)
    have f200 := (Nat.le_trans f197 K195q.1)
    exact j72 (3 : Int32) r192 r195 b195 kb195 w195 m195 vs195 T195.vm _ _ _ _ (X195.mono (by decide) (by decide)) rfl N195 f200 K195 f198 PZ PF f199 E195 C195 U195 V195 hS195 hZ hown hw195 ⟨by decide, by decide⟩ hD195 ZS195
  · skip
    show Rch _ _ _ _ (T116.setTop (mkF m 56 #[.val (.int p1), .val (.int p2), .val (.int p3), .val (.int p4), .val (.int p5), .val (.int p6), .val (.int (4 : Int32)), .val (.ref b101), .unset, .unset, .unset, .unset, .unset] []))
    refine Rch.go (fun zt zk => XS.iload X116.here hx rfl (hb hby at_56) rfl zk) ?_
    refine Rch.go (fun zt zk => XS.aload X116.here hx rfl (hb hby at_58) rfl rfl zk) ?_
    have f202 := ((((((PO.ext E101).wr W104 ge101).wr W107 ge101).wr W110 ge101).wr W113 ge101).wr W116 ge101)
    have f203 := (Nat.le_trans f115 (Keep.of_wr W116).1)
    obtain ⟨_, _, ⟨T201, L201, k201, n201⟩, -, X201, ⟨Lc201, hQ201, l201, y201, z201⟩, st201⟩ := Jvm.LawKit.callS X116 hx (y := (⟨"com/example/keepwire/keepwire/ResponseHeadTrimSpacesPinLaw", "make", "(I[C)Ljava/lang/String;"⟩ : MethodName)) hown (mvT hZ (ow6 hw)) (mvT hZ (ow7 hw)) (mvT hZ (ow4 hw)) (mvT hZ (ow8 hw)) (by decide) (backOf (W := 0) (rmMk4 l Z a0 hw [] (b101) (k101) (cz) (c0) (c1) (c2) (c3) (c4) h116 n0 f203 (VA) (f202) (PZ) (r_c0) (r_c1) (r_c2) (r_c3) (hcz)) hZ (ow8 hw) (ow4 hw) (by decide) (by decide)) (g := (mkF m 60 #[.val (.int p1), .val (.int p2), .val (.int p3), .val (.int p4), .val (.int p5), .val (.int p6), .val (.int (4 : Int32)), .val (.ref b101), .unset, .unset, .unset, .unset, .unset] [(.ref b101), (.int (4 : Int32))])) rfl (by rw [hml]; rfl) (argsL := [(.int (4 : Int32)), (.ref b101)]) (rest := []) (lenOf pd__I_C_Ljava_lang_String_ rfl) rfl (by show 2 * 0 + _ ≤ _; exact Nat.le_of_eq rfl) (hb hby at_60) (fun _ _ => ⟨rfl, e116, (by decide : 1 + 3 ≤ _), (by decide : 5 + 12 ≤ _)⟩)
    dsimp only [Pt.U, Pt.locs, Pt.cells, Pt.slots] at X201 l201 y201 z201 st201 hQ201
    rw [l201, y201, z201] at X201
    obtain ⟨⟨r201, b201, kb201, w201, rfl, hw201, E201, C201, U201, V201⟩, N201q, K201q⟩ := hQ201
    have N201 := Fr.app N116 N201q
    have K201 := Keep.trans K116 K201q all0
    refine Rch.go st201 ?_
    refine Rch.go (fun zt zk => XS.astore X201.here hx rfl (hb hby at_63) rfl rfl (l' := #[.val (.int p1), .val (.int p2), .val (.int p3), .val (.int p4), .val (.int p5), .val (.int p6), .val (.int (4 : Int32)), .val (.ref b101), .val (.ref r201), .unset, .unset, .unset, .unset]) rfl zk) ?_
    show Rch _ _ _ _ (T201.setTop (mkF m 65 #[.val (.int p1), .val (.int p2), .val (.int p3), .val (.int p4), .val (.int p5), .val (.int p6), .val (.int (4 : Int32)), .val (.ref b101), .val (.ref r201), .unset, .unset, .unset, .unset] []))
    refine Rch.go (fun zt zk => XS.aload X201.here hx rfl (hb hby at_65) rfl rfl zk) ?_
    have f205 := (f202.keep K201q all0)
    have f206 := (Nat.le_trans f203 K201q.1)
    obtain ⟨_, _, ⟨T204, L204, k204, n204⟩, -, X204, hS204, hgr204, ⟨Lc204, hQ204, l204, y204, z204⟩, st204⟩ := callSS X201 hx (y := (⟨"com/example/keepwire/keepwire/ResponseHead", "trimSpaces", "(Ljava/lang/String;)Ljava/lang/String;"⟩ : MethodName)) hown (mvT hZ (ow30 hw)) (mvT hZ (ow31 hw)) (mvT hZ (ow32 hw)) (mvT hZ (ow33 hw)) (by decide) (own_backS (W := 0) (rmTsG l Z a0 hw [] (r201) (b201) (kb201) ((4 : Int32)) ([(.int (bOf c0)), (.int (bOf c1)), (.int (bOf c2)), (.int (bOf c3))]) (w201) (cz) (rG) ((cf5 c0 c1 c2 c3 c4)) T201.heap n0 f206 (f205) (PZ) (PF) (E201) (C201) (U201) (V201) (hrG) (hcz) (hw201) (⟨by decide, by decide, fun i hi => by
      have e : (4 : Int32).toInt = 4 := by decide
      rcases i with _ | _ | _ | _ | i
      · exact ⟨rfl, r_c0⟩
      · exact ⟨rfl, r_c1⟩
      · exact ⟨rfl, r_c2⟩
      · exact ⟨rfl, r_c3⟩
      · omega⟩) (hlit2) (hcw)) hZ (ow33 hw) (ow32 hw) (by decide) (by decide)) (g := (mkF m 67 #[.val (.int p1), .val (.int p2), .val (.int p3), .val (.int p4), .val (.int p5), .val (.int p6), .val (.int (4 : Int32)), .val (.ref b101), .val (.ref r201), .unset, .unset, .unset, .unset] [(.ref r201)])) rfl (by rw [hml]; rfl) (argsL := [(.ref r201)]) (rest := []) (lenOf pd__Ljava_lang_String__Ljava_lang_String_ rfl) rfl (by show 2 * 0 + _ ≤ _; exact Nat.le_of_eq rfl) (hb hby at_67) (fun vmq hWq => ⟨rfl, rfl, (by decide : 4 + 2 ≤ _), (by decide : 17 + 12 ≤ _), (State.WarmedH.interned_eq hWq).trans hI⟩)
    dsimp only [Pt.U, Pt.locs, Pt.cells, Pt.slots] at X204 l204 y204 z204 st204 hQ204 hS204 hgr204
    rw [l204, y204, z204] at X204
    have hZ : Z.Warmed39 (s.setVm T204.vm).vm := State.Warmed39.trans (t := s) hZ hS204.1
    have hown : (s.setVm T204.vm).vm.findClass "com/example/keepwire/keepwire/ResponseHeadTrimSpacesPinLaw" = some m.cls := (hS204.1.alike.findClass _ _).trans hown
    obtain ⟨⟨r204, b204, kb204, w204, m204, vs204, rfl, hw204, E204, C204, U204, V204, hD204⟩, N204q, K204q⟩ := hQ204
    have N204 := Fr.app N201 N204q
    have K204 := Keep.trans K201 K204q all0
    have ZS204 : T204.heap.size ≤ T204.heap.size := Nat.le_refl _
    refine Rch.go (fun zt zk => st204.trans zk) ?_
    refine Rch.go (fun zt zk => XS.astore X204.here hx rfl (hb hby at_70) rfl rfl (l' := #[.val (.int p1), .val (.int p2), .val (.int p3), .val (.int p4), .val (.int p5), .val (.int p6), .val (.int (4 : Int32)), .val (.ref b101), .val (.ref r201), .val (.ref r204), .unset, .unset, .unset]) rfl zk) ?_
    have f207 := (f205.keep K204q all0)
    have f208 := ((VA.keep K201q nin0).keep K204q nin0)
    have f209 := (Nat.le_trans f206 K204q.1)
    exact j72 (4 : Int32) r201 r204 b204 kb204 w204 m204 vs204 T204.vm _ _ _ _ (X204.mono (by decide) (by decide)) rfl N204 f209 K204 f207 PZ PF f208 E204 C204 U204 V204 hS204 hZ hown hw204 ⟨by decide, by decide⟩ hD204 ZS204
  · skip
    show Rch _ _ _ _ (T116.setTop (mkF m 56 #[.val (.int p1), .val (.int p2), .val (.int p3), .val (.int p4), .val (.int p5), .val (.int p6), .val (.int (5 : Int32)), .val (.ref b101), .unset, .unset, .unset, .unset, .unset] []))
    refine Rch.go (fun zt zk => XS.iload X116.here hx rfl (hb hby at_56) rfl zk) ?_
    refine Rch.go (fun zt zk => XS.aload X116.here hx rfl (hb hby at_58) rfl rfl zk) ?_
    have f211 := ((((((PO.ext E101).wr W104 ge101).wr W107 ge101).wr W110 ge101).wr W113 ge101).wr W116 ge101)
    have f212 := (Nat.le_trans f115 (Keep.of_wr W116).1)
    obtain ⟨_, _, ⟨T210, L210, k210, n210⟩, -, X210, ⟨Lc210, hQ210, l210, y210, z210⟩, st210⟩ := Jvm.LawKit.callS X116 hx (y := (⟨"com/example/keepwire/keepwire/ResponseHeadTrimSpacesPinLaw", "make", "(I[C)Ljava/lang/String;"⟩ : MethodName)) hown (mvT hZ (ow6 hw)) (mvT hZ (ow7 hw)) (mvT hZ (ow4 hw)) (mvT hZ (ow8 hw)) (by decide) (backOf (W := 0) (rmMk5 l Z a0 hw [] (b101) (k101) (cz) (c0) (c1) (c2) (c3) (c4) h116 n0 f212 (VA) (f211) (PZ) (r_c0) (r_c1) (r_c2) (r_c3) (r_c4) (hcz)) hZ (ow8 hw) (ow4 hw) (by decide) (by decide)) (g := (mkF m 60 #[.val (.int p1), .val (.int p2), .val (.int p3), .val (.int p4), .val (.int p5), .val (.int p6), .val (.int (5 : Int32)), .val (.ref b101), .unset, .unset, .unset, .unset, .unset] [(.ref b101), (.int (5 : Int32))])) rfl (by rw [hml]; rfl) (argsL := [(.int (5 : Int32)), (.ref b101)]) (rest := []) (lenOf pd__I_C_Ljava_lang_String_ rfl) rfl (by show 2 * 0 + _ ≤ _; exact Nat.le_of_eq rfl) (hb hby at_60) (fun _ _ => ⟨rfl, e116, (by decide : 1 + 3 ≤ _), (by decide : 5 + 14 ≤ _)⟩)
    dsimp only [Pt.U, Pt.locs, Pt.cells, Pt.slots] at X210 l210 y210 z210 st210 hQ210
    rw [l210, y210, z210] at X210
    obtain ⟨⟨r210, b210, kb210, w210, rfl, hw210, E210, C210, U210, V210⟩, N210q, K210q⟩ := hQ210
    have N210 := Fr.app N116 N210q
    have K210 := Keep.trans K116 K210q all0
    refine Rch.go st210 ?_
    refine Rch.go (fun zt zk => XS.astore X210.here hx rfl (hb hby at_63) rfl rfl (l' := #[.val (.int p1), .val (.int p2), .val (.int p3), .val (.int p4), .val (.int p5), .val (.int p6), .val (.int (5 : Int32)), .val (.ref b101), .val (.ref r210), .unset, .unset, .unset, .unset]) rfl zk) ?_
    show Rch _ _ _ _ (T210.setTop (mkF m 65 #[.val (.int p1), .val (.int p2), .val (.int p3), .val (.int p4), .val (.int p5), .val (.int p6), .val (.int (5 : Int32)), .val (.ref b101), .val (.ref r210), .unset, .unset, .unset, .unset] []))
    refine Rch.go (fun zt zk => XS.aload X210.here hx rfl (hb hby at_65) rfl rfl zk) ?_
    have f214 := (f211.keep K210q all0)
    have f215 := (Nat.le_trans f212 K210q.1)
    obtain ⟨_, _, ⟨T213, L213, k213, n213⟩, -, X213, hS213, hgr213, ⟨Lc213, hQ213, l213, y213, z213⟩, st213⟩ := callSS X210 hx (y := (⟨"com/example/keepwire/keepwire/ResponseHead", "trimSpaces", "(Ljava/lang/String;)Ljava/lang/String;"⟩ : MethodName)) hown (mvT hZ (ow30 hw)) (mvT hZ (ow31 hw)) (mvT hZ (ow32 hw)) (mvT hZ (ow33 hw)) (by decide) (own_backS (W := 0) (rmTsG l Z a0 hw [] (r210) (b210) (kb210) ((5 : Int32)) ([(.int (bOf c0)), (.int (bOf c1)), (.int (bOf c2)), (.int (bOf c3)), (.int (bOf c4))]) (w210) (cz) (rG) ((cf5 c0 c1 c2 c3 c4)) T210.heap n0 f215 (f214) (PZ) (PF) (E210) (C210) (U210) (V210) (hrG) (hcz) (hw210) (⟨by decide, by decide, fun i hi => by
      have e : (5 : Int32).toInt = 5 := by decide
      rcases i with _ | _ | _ | _ | _ | i
      · exact ⟨rfl, r_c0⟩
      · exact ⟨rfl, r_c1⟩
      · exact ⟨rfl, r_c2⟩
      · exact ⟨rfl, r_c3⟩
      · exact ⟨rfl, r_c4⟩
      · omega⟩) (hlit2) (hcw)) hZ (ow33 hw) (ow32 hw) (by decide) (by decide)) (g := (mkF m 67 #[.val (.int p1), .val (.int p2), .val (.int p3), .val (.int p4), .val (.int p5), .val (.int p6), .val (.int (5 : Int32)), .val (.ref b101), .val (.ref r210), .unset, .unset, .unset, .unset] [(.ref r210)])) rfl (by rw [hml]; rfl) (argsL := [(.ref r210)]) (rest := []) (lenOf pd__Ljava_lang_String__Ljava_lang_String_ rfl) rfl (by show 2 * 0 + _ ≤ _; exact Nat.le_of_eq rfl) (hb hby at_67) (fun vmq hWq => ⟨rfl, rfl, (by decide : 4 + 2 ≤ _), (by decide : 19 + 12 ≤ _), (State.WarmedH.interned_eq hWq).trans hI⟩)
    dsimp only [Pt.U, Pt.locs, Pt.cells, Pt.slots] at X213 l213 y213 z213 st213 hQ213 hS213 hgr213
    rw [l213, y213, z213] at X213
    have hZ : Z.Warmed39 (s.setVm T213.vm).vm := State.Warmed39.trans (t := s) hZ hS213.1
    have hown : (s.setVm T213.vm).vm.findClass "com/example/keepwire/keepwire/ResponseHeadTrimSpacesPinLaw" = some m.cls := (hS213.1.alike.findClass _ _).trans hown
    obtain ⟨⟨r213, b213, kb213, w213, m213, vs213, rfl, hw213, E213, C213, U213, V213, hD213⟩, N213q, K213q⟩ := hQ213
    have N213 := Fr.app N210 N213q
    have K213 := Keep.trans K210 K213q all0
    have ZS213 : T213.heap.size ≤ T213.heap.size := Nat.le_refl _
    refine Rch.go (fun zt zk => st213.trans zk) ?_
    refine Rch.go (fun zt zk => XS.astore X213.here hx rfl (hb hby at_70) rfl rfl (l' := #[.val (.int p1), .val (.int p2), .val (.int p3), .val (.int p4), .val (.int p5), .val (.int p6), .val (.int (5 : Int32)), .val (.ref b101), .val (.ref r210), .val (.ref r213), .unset, .unset, .unset]) rfl zk) ?_
    have f216 := (f214.keep K213q all0)
    have f217 := ((VA.keep K210q nin0).keep K213q nin0)
    have f218 := (Nat.le_trans f215 K213q.1)
    exact j72 (5 : Int32) r210 r213 b213 kb213 w213 m213 vs213 T213.vm _ _ _ _ (X213.mono (by decide) (by decide)) rfl N213 f218 K213 f216 PZ PF f217 E213 C213 U213 V213 hS213 hZ hown hw213 ⟨by decide, by decide⟩ hD213 ZS213
set_option maxRecDepth 65536 in
set_option maxHeartbeats 40000000 in
theorem comes_1 {Post : Tables → Env → Array Value → State → Outcome → State → Prop} (hpost : ∀ tb e args s v u, (limb_1_1.after args s (.returned v) u = true ∧ limb_1_2.after args s (.returned v) u = true ∧ True) → ReturnedEndW s (.returned v) u (Jvm.fieldLocs frame_1_writes args s ++ Jvm.arrayLocs frame_1_arrays args s ++ Jvm.staticLocs frame_1_statics s) 24 2176 → Post tb e args s (.returned v) u) :
    ArmFor flags0 classFile x code maxLocals ret World_1 tables_1 room_1 Calls_1 rest_1 Pre_1 Post := by
  intro l hfl _ _ p e ha hc hk s m args below hf hA hF happ hP
  obtain ⟨hcalls, hrest, hpre⟩ := hP
  obtain ⟨-, -, -, hnamed, -, -, -, hat⟩ := (Spec.applies_iff hf).mp happ
  obtain ⟨hg, hn⟩ := and_e (Cond.before_iff.mp (show (Jvm.Cond.and given_1 narrow_1).before args s = true from hpre))
  obtain ⟨g1, g2⟩ := and_e hg
  obtain ⟨ga0, gb0⟩ := and_e g2
  obtain ⟨ga1, gb1⟩ := and_e gb0
  obtain ⟨ga2, gb2⟩ := and_e gb1
  obtain ⟨ga3, gb3⟩ := and_e gb2
  obtain ⟨ga4, gb4⟩ := and_e gb3
  obtain ⟨w0, w1, w2, w3, w4, w5, rfl⟩ : ∃ w0 w1 w2 w3 w4 w5 : Value, args = #[w0, w1, w2, w3, w4, w5] := by
    have hs : args.size = 6 := by simpa [Cond.value, given_1] using g1
    obtain ⟨L⟩ := args
    match L, hs with
    | [w0, w1, w2, w3, w4, w5], _ => exact ⟨w0, w1, w2, w3, w4, w5, rfl⟩
  have hw := fun d (hd : d ∈ tables_1) => atoms_spec (ws := Jvm.Cond.code x code maxLocals ret :: tables_1) hat d (List.mem_cons_of_mem _ hd)
  have hfit : Fit s := fun {y c} hc i hi => by
    obtain ⟨ha, rfl⟩ := Array.getElem?_eq_some_iff.mp hc
    have q := List.all_eq_true.mp ((Array.all_eq_true_iff_forall_mem.mp hF) _ (Array.getElem_mem ha)) i (List.mem_range.mpr hi)
    simpa [Array.getElem?_eq_getElem hi] using q
  obtain ⟨hsets, hown0⟩ := atoms_of _ (rest_1_c_eq ▸ (show rest_1_c.before _ s = true from hrest))
  have hr0 := Cond.before_iff.mp hown0
  obtain ⟨i0, ei0⟩ := is_v ga0
  obtain rfl : w0 = (.int i0) := Option.some.inj ei0
  obtain ⟨i1, ei1⟩ := is_v ga1
  obtain rfl : w1 = (.int i1) := Option.some.inj ei1
  obtain ⟨i2, ei2⟩ := is_v ga2
  obtain rfl : w2 = (.int i2) := Option.some.inj ei2
  obtain ⟨i3, ei3⟩ := is_v ga3
  obtain rfl : w3 = (.int i3) := Option.some.inj ei3
  obtain ⟨i4, ei4⟩ := is_v ga4
  obtain rfl : w4 = (.int i4) := Option.some.inj ei4
  obtain ⟨i5, ei5⟩ := is_v gb4
  obtain rfl : w5 = (.int i5) := Option.some.inj ei5
  obtain ⟨cz, evZ⟩ := is_v (Cond.before_iff.mp (hsets _ (List.mem_of_getElem? (i := 1) rfl)))
  have TZ := Sta.start evZ (Or.inl (hsets _ (List.mem_of_getElem? (i := 0) rfl)))
  have hcz : ¬ (cz = (0 : Int32)) := fun q => by
    have h8 := not_v (Cond.before_iff.mp (hsets _ (List.mem_of_getElem? (i := 2) rfl)))
    rw [q] at evZ
    rw [eq_i evZ (Term.int_eval (0 : Int32)) rfl] at h8
    cases h8
  obtain ⟨rG, evG, hrG⟩ := isR_v (Cond.before_iff.mp (hsets _ (List.mem_of_getElem? (i := 8) rfl)))
  have TG := Sta.start evG (Or.inl (hsets _ (List.mem_of_getElem? (i := 7) rfl)))
  have hl7 : Jvm.Lit.constHeld s "java/lang/String" 7 := hcalls.1 ("java/lang/String", 7) (by simp [consts_1])
  have hl151 : Jvm.Lit.constHeld s "java/lang/StringLatin1" 151 := hcalls.1 ("java/lang/StringLatin1", 151) (by simp [consts_1])
  obtain ⟨n, o, h1, h2, h3, _, L, rfl, ⟨rfl, N⟩, hq⟩ := rm0 l s _ hw tables_1 i0 i1 i2 i3 i4 i5 cz rG s.heap s.heap.size (Nat.le_refl _) (Old.start s) TZ TG hcz hrG hl7 hl151 (hsets _ (List.mem_of_getElem? (i := 2) rfl)) p e ha hc hk s m _ below hf ((Spec.applies_iff_loose hf).mp happ).1 ⟨rfl, State.Warmed39.refl s, rfl, rfl⟩ trivial
  refine ⟨n, _, h1, h2, h3, hpost _ _ _ _ _ _ ⟨Cond.after_iff.mpr rfl, Cond.after_iff.mpr (eq_i res_at (Term.int_eval (1)) rfl), trivial⟩ ⟨hq.1, hq.2.1, hq.2.2.1, (hq.2.2.2.sift fun y hy => Or.inr (N y hy)).mono (by decide) (by decide)⟩⟩
theorem main_1_1 : Claimed_1_1 := comes_1 fun _ _ _ _ _ _ h hF => ⟨h.1, hF⟩
theorem main_1_2 : Claimed_1_2 := comes_1 fun _ _ _ _ _ _ h hF => ⟨h.2.1, hF⟩
end Jvm.Pilot.@@N@@
namespace Jvm.Pilot.@@N@@
open Jvm Jvm.ClassFile Sem Op Lib Jvm.Free Jvm.Stand Jvm.Pilot.@@N@@.Jvm.D
/-! MADE BY PROGRAM (witnessworld.py) out of the Statement's table words and the real class files: 24 classes; the members and pool entries that the words name. The judged class is class 1, her method 1. -/
namespace start1
open Jvm.ClassFile
def u (s : String) : CpInfo := .utf8 (stringToUtf16 s)
/-- a pool by its gaps: so many unusable entries, then the entry; so many at the end -/
def gap : Nat → List CpInfo → List CpInfo
  | 0, r => r
  | n + 1, r => .unusable :: gap n r
def poolList (es : List (Nat × CpInfo)) (last : Nat) : List CpInfo := es.foldr (fun e r => gap e.1 (e.2 :: r)) (gap last [])
def pool (es : List (Nat × CpInfo)) (last : Nat) : Array CpInfo := ⟨poolList es last⟩
def fileOf (pool : Array CpInfo) (this : Nat) (attrs : Array Attribute := #[]) (ms : Array MethodInfo := #[]) (fl : Nat := 33) (sup : Nat := 0) (ifs : Array Nat := #[]) (fds : Array FieldInfo := #[]) : ClassFile where
  minorVersion := 0
  majorVersion := 65
  constantPool := pool
  accessFlags := fl
  thisClass := this
  superClass := sup
  interfaces := ifs
  fields := fds
  methods := ms
  attributes := attrs
def plain (name : String) (sup : Option ClassId) : Class where
  name := name
  kind := .ordinary
  loader := none
  accessFlags := 33
  super := sup
  interfaces := #[]
  cf := none
  fields := #[]
  methods := #[]
  instanceTypes := #[]
  staticTypes := #[]
  resolved := #[]
  callSites := []
  init := .initialized
  statics := none
  mirror := none

def pool0 : Array CpInfo := pool [(5, u "<init>"), (0, u "()V"), (1, .class_ 10), (1, u "java/lang/Object")] 113

def k0c0 : Code := { maxStack := 0, maxLocals := 1, code := object_method_1_code, exceptionTable := #[], attributes := #[] }
def k0m0 : Method := { name := "<init>", desc := "()V", sig := { parameters := [], returnType := none }, accessFlags := 1, code := some k0c0 }
/-- java/lang/Object -/
def k0 : Class := { plain "java/lang/Object" none with
  accessFlags := 33
  interfaces := #[]
  cf := some (fileOf pool0 8 #[] #[{ accessFlags := 1, nameIndex := 5, descriptorIndex := 6, attributes := #[] }] 33 0 #[] #[])
  fields := #[]
  methods := #[k0m0]
  instanceTypes := #[]
  staticTypes := #[]
  resolved := Array.replicate 124 none
  statics := none }

def pool1 : Array CpInfo := pool [(2, .class_ 4), (1, u "java/lang/Object"), (0, u "<init>"), (0, u "()V"), (0, .integer 2147483647), (0, .methodref 9 10), (0, .class_ 11), (0, .nameAndType 12 13), (0, u "com/example/keepwire/keepwire/ResponseHeadTrimSpacesPinLaw"), (0, u "pick"), (0, u "(I)C"), (0, .methodref 9 15), (0, .nameAndType 16 17), (0, u "make"), (0, u "(I[C)Ljava/lang/String;"), (0, .methodref 19 20), (0, .class_ 21), (0, .nameAndType 22 23), (0, u "com/example/keepwire/keepwire/ResponseHead"), (0, u "trimSpaces"), (0, u "(Ljava/lang/String;)Ljava/lang/String;"), (0, .methodref 9 25), (0, .nameAndType 26 27), (0, u "sp"), (0, u "(C)Z"), (0, .methodref 29 30), (0, .class_ 31), (0, .nameAndType 32 33), (0, u "java/lang/String"), (0, u "length"), (0, u "()I"), (0, .methodref 9 35), (0, .nameAndType 36 37), (0, u "at"), (0, u "(Ljava/lang/String;[CIII)Z"), (0, .methodref 29 39), (0, .nameAndType 40 13), (0, u "charAt"), (0, .methodref 29 42), (0, .nameAndType 5 43), (0, u "([C)V"), (2, u "law"), (0, u "(IIIIII)Z")] 5

def k1m0 : Method := { name := "<init>", desc := "()V", sig := { parameters := [], returnType := none }, accessFlags := 1, code := none }
def k1c1 : Code := { maxStack := 5, maxLocals := 13, code := code, exceptionTable := #[], attributes := #[] }
def k1m1 : Method := { name := "law", desc := "(IIIIII)Z", sig := { parameters := [.int, .int, .int, .int, .int, .int], returnType := some .boolean }, accessFlags := 9, code := some k1c1 }
def k1c2 : Code := { maxStack := 4, maxLocals := 5, code := method_3_code, exceptionTable := #[], attributes := #[] }
def k1m2 : Method := { name := "at", desc := "(Ljava/lang/String;[CIII)Z", sig := { parameters := [(.object "java/lang/String"), (.array .char), .int, .int, .int], returnType := some .boolean }, accessFlags := 10, code := some k1c2 }
def k1c3 : Code := { maxStack := 2, maxLocals := 1, code := method_4_code, exceptionTable := #[], attributes := #[] }
def k1m3 : Method := { name := "sp", desc := "(C)Z", sig := { parameters := [.char], returnType := some .boolean }, accessFlags := 10, code := some k1c3 }
def k1c4 : Code := { maxStack := 2, maxLocals := 2, code := method_5_code, exceptionTable := #[], attributes := #[] }
def k1m4 : Method := { name := "pick", desc := "(I)C", sig := { parameters := [.int], returnType := some .char }, accessFlags := 10, code := some k1c4 }
def k1c5 : Code := { maxStack := 7, maxLocals := 2, code := method_6_code, exceptionTable := #[], attributes := #[] }
def k1m5 : Method := { name := "make", desc := "(I[C)Ljava/lang/String;", sig := { parameters := [.int, (.array .char)], returnType := some (.object "java/lang/String") }, accessFlags := 10, code := some k1c5 }
/-- com/example/keepwire/keepwire/ResponseHeadTrimSpacesPinLaw -/
def k1 : Class := { plain "com/example/keepwire/keepwire/ResponseHeadTrimSpacesPinLaw" (some 0) with
  accessFlags := 49
  interfaces := #[]
  cf := some (fileOf pool1 9 #[] #[{ accessFlags := 1, nameIndex := 5, descriptorIndex := 6, attributes := #[] }, { accessFlags := 9, nameIndex := 46, descriptorIndex := 47, attributes := #[] }, { accessFlags := 10, nameIndex := 36, descriptorIndex := 37, attributes := #[] }, { accessFlags := 10, nameIndex := 26, descriptorIndex := 27, attributes := #[] }, { accessFlags := 10, nameIndex := 12, descriptorIndex := 13, attributes := #[] }, { accessFlags := 10, nameIndex := 16, descriptorIndex := 17, attributes := #[] }] 49 2 #[] #[])
  fields := #[]
  methods := #[k1m0, k1m1, k1m2, k1m3, k1m4, k1m5]
  instanceTypes := #[]
  staticTypes := #[]
  resolved := Array.replicate 53 none
  statics := none }

def pool2 : Array CpInfo := pool [(1, .class_ 2), (0, u "java/io/Serializable"), (0, .class_ 4), (0, u "java/lang/Object")] 2

/-- java/io/Serializable -/
def k2 : Class := { plain "java/io/Serializable" (some 0) with
  accessFlags := 1537
  interfaces := #[]
  cf := some (fileOf pool2 1 #[] #[] 1537 3 #[] #[])
  fields := #[]
  methods := #[]
  instanceTypes := #[]
  staticTypes := #[]
  resolved := Array.replicate 7 none
  statics := none }

def pool3 : Array CpInfo := pool [(1, .class_ 2), (0, u "java/lang/Comparable"), (0, .class_ 4), (0, u "java/lang/Object")] 7

/-- java/lang/Comparable -/
def k3 : Class := { plain "java/lang/Comparable" (some 0) with
  accessFlags := 1537
  interfaces := #[]
  cf := some (fileOf pool3 1 #[] #[] 1537 3 #[] #[])
  fields := #[]
  methods := #[]
  instanceTypes := #[]
  staticTypes := #[]
  resolved := Array.replicate 12 none
  statics := none }

def pool4 : Array CpInfo := pool [(2, .class_ 4), (1, u "java/lang/CharSequence"), (42, .class_ 48), (0, u "java/lang/CharSequence$1CodePointIterator"), (10, .class_ 60), (0, u "java/lang/CharSequence$1CharIterator"), (5, .class_ 67), (0, u "java/lang/Object")] 63

/-- java/lang/CharSequence -/
def k4 : Class := { plain "java/lang/CharSequence" (some 0) with
  accessFlags := 1537
  interfaces := #[]
  cf := some (fileOf pool4 2 #[.nestMembers #[47, 59]] #[] 1537 66 #[] #[])
  fields := #[]
  methods := #[]
  instanceTypes := #[]
  staticTypes := #[]
  resolved := Array.replicate 131 none
  statics := none }

def pool5 : Array CpInfo := pool [(1, .class_ 2), (0, u "java/lang/constant/Constable"), (0, .class_ 4), (0, u "java/lang/Object")] 6

/-- java/lang/constant/Constable -/
def k5 : Class := { plain "java/lang/constant/Constable" (some 0) with
  accessFlags := 1537
  interfaces := #[]
  cf := some (fileOf pool5 1 #[] #[] 1537 3 #[] #[])
  fields := #[]
  methods := #[]
  instanceTypes := #[]
  staticTypes := #[]
  resolved := Array.replicate 11 none
  statics := none }

def pool6 : Array CpInfo := pool [(1, .class_ 2), (0, u "java/lang/constant/ConstantDesc"), (0, .class_ 4), (0, u "java/lang/Object")] 32

/-- java/lang/constant/ConstantDesc -/
def k6 : Class := { plain "java/lang/constant/ConstantDesc" (some 0) with
  accessFlags := 1537
  interfaces := #[]
  cf := some (fileOf pool6 1 #[] #[] 1537 3 #[] #[])
  fields := #[]
  methods := #[]
  instanceTypes := #[]
  staticTypes := #[]
  resolved := Array.replicate 37 none
  statics := none }

def pool7 : Array CpInfo := pool [(1, .methodref 2 3), (0, .class_ 4), (0, .nameAndType 5 6), (0, u "java/lang/Object"), (0, u "<init>"), (0, u "()V"), (0, .string 8), (0, u ""), (0, .fieldref 10 11), (0, .class_ 12), (0, .nameAndType 13 14), (0, u "java/lang/String"), (0, u "value"), (0, u "[B"), (0, .fieldref 10 16), (0, .nameAndType 17 18), (0, u "coder"), (0, u "B"), (2, u "hash"), (0, u "I"), (2, u "hashIsZero"), (0, u "Z"), (0, .methodref 10 28), (0, .nameAndType 5 29), (0, u "([CIILjava/lang/Void;)V"), (8, .fieldref 10 39), (0, .nameAndType 40 26), (0, u "COMPACT_STRINGS"), (1, .class_ 44), (1, u "java/lang/StringUTF16"), (0, u "compress"), (1, .methodref 42 48), (0, .nameAndType 49 50), (0, u "coderFromArrayLen"), (0, u "([BI)B"), (56, .class_ 109), (1, u "java/lang/StringLatin1"), (32, u "()Z"), (34, .methodref 42 178), (0, .nameAndType 45 179), (0, u "([CII)[B"), (31, u "([BB)V"), (122, u "()I"), (0, .methodref 10 336), (0, .nameAndType 17 337), (0, u "()B"), (25, u "([BI)C"), (27, u "(II)V"), (35, u "(I)C"), (64, .methodref 10 493), (0, .nameAndType 494 142), (0, u "isLatin1"), (0, .methodref 107 496), (0, .nameAndType 497 363), (0, u "charAt"), (3, u "checkIndex"), (3, .methodref 10 506), (0, .nameAndType 507 334), (0, u "length"), (5, u "checkFromToIndex"), (7, .methodref 10 522), (0, .nameAndType 523 524), (0, u "checkBoundsBeginEnd"), (0, u "(III)V"), (50, .class_ 576), (0, u "java/lang/CharSequence"), (22, u "CASE_INSENSITIVE_ORDER"), (0, u "Ljava/util/Comparator;"), (82, u "substring"), (0, u "(II)Ljava/lang/String;"), (0, .methodref 107 686), (0, .nameAndType 687 688), (0, u "newString"), (0, u "([BII)Ljava/lang/String;"), (321, u "([C)V"), (42, .fieldref 1054 1055), (0, .class_ 1056), (0, .nameAndType 1057 1058), (0, u "jdk/internal/util/Preconditions"), (0, u "SIOOBE_FORMATTER"), (0, u "Ljava/util/function/BiFunction;"), (0, .methodref 1054 1060), (0, .nameAndType 501 1061), (0, u "(IILjava/util/function/BiFunction;)I"), (0, .methodref 1054 1063), (0, .nameAndType 513 1064), (0, u "(IIILjava/util/function/BiFunction;)I"), (36, u "serialPersistentFields"), (0, u "[Ljava/io/ObjectStreamField;"), (0, .class_ 1104), (0, u "java/lang/String$CaseInsensitiveComparator"), (1, .class_ 1107), (0, u "java/io/Serializable"), (0, .class_ 1109), (0, u "java/lang/Comparable"), (0, .class_ 1111), (0, u "java/lang/constant/Constable"), (0, .class_ 1113), (0, u "java/lang/constant/ConstantDesc"), (2, u "serialVersionUID"), (0, u "J"), (3, u "REPL"), (0, u "C"), (2, u "LATIN1"), (1, u "UTF16")] 323

def k7m0 : Method := { name := "<init>", desc := "()V", sig := { parameters := [], returnType := none }, accessFlags := 1, code := none }
def k7c1 : Code := { maxStack := 5, maxLocals := 2, code := jdk_42_method_3_code, exceptionTable := #[], attributes := #[] }
def k7m1 : Method := { name := "<init>", desc := "([C)V", sig := { parameters := [(.array .char)], returnType := none }, accessFlags := 1, code := some k7c1 }
def k7c2 : Code := { maxStack := 2, maxLocals := 1, code := jdk_42_method_54_code, exceptionTable := #[], attributes := #[] }
def k7m2 : Method := { name := "length", desc := "()I", sig := { parameters := [], returnType := some .int }, accessFlags := 1, code := some k7c2 }
def k7c3 : Code := { maxStack := 2, maxLocals := 2, code := jdk_42_method_56_code, exceptionTable := #[], attributes := #[] }
def k7m3 : Method := { name := "charAt", desc := "(I)C", sig := { parameters := [.int], returnType := some .char }, accessFlags := 1, code := some k7c3 }
def k7c4 : Code := { maxStack := 3, maxLocals := 5, code := jdk_42_method_92_code, exceptionTable := #[], attributes := #[] }
def k7m4 : Method := { name := "substring", desc := "(II)Ljava/lang/String;", sig := { parameters := [.int, .int], returnType := some (.object "java/lang/String") }, accessFlags := 1, code := some k7c4 }
def k7c5 : Code := { maxStack := 4, maxLocals := 6, code := jdk_42_method_149_code, exceptionTable := #[], attributes := #[] }
def k7m5 : Method := { name := "<init>", desc := "([CIILjava/lang/Void;)V", sig := { parameters := [(.array .char), .int, .int, (.object "java/lang/Void")], returnType := none }, accessFlags := 2, code := some k7c5 }
def k7c6 : Code := { maxStack := 2, maxLocals := 3, code := jdk_42_method_151_code, exceptionTable := #[], attributes := #[] }
def k7m6 : Method := { name := "<init>", desc := "([BB)V", sig := { parameters := [(.array .byte), .byte], returnType := none }, accessFlags := 0, code := some k7c6 }
def k7c7 : Code := { maxStack := 1, maxLocals := 1, code := jdk_42_method_152_code, exceptionTable := #[], attributes := #[] }
def k7m7 : Method := { name := "coder", desc := "()B", sig := { parameters := [], returnType := some .byte }, accessFlags := 0, code := some k7c7 }
def k7c8 : Code := { maxStack := 1, maxLocals := 1, code := jdk_42_method_154_code, exceptionTable := #[], attributes := #[] }
def k7m8 : Method := { name := "isLatin1", desc := "()Z", sig := { parameters := [], returnType := some .boolean }, accessFlags := 0, code := some k7c8 }
def k7c9 : Code := { maxStack := 3, maxLocals := 2, code := jdk_42_method_155_code, exceptionTable := #[], attributes := #[] }
def k7m9 : Method := { name := "checkIndex", desc := "(II)V", sig := { parameters := [.int, .int], returnType := none }, accessFlags := 8, code := some k7c9 }
def k7c10 : Code := { maxStack := 4, maxLocals := 3, code := jdk_42_method_158_code, exceptionTable := #[], attributes := #[] }
def k7m10 : Method := { name := "checkBoundsBeginEnd", desc := "(III)V", sig := { parameters := [.int, .int, .int], returnType := none }, accessFlags := 8, code := some k7c10 }
/-- java/lang/String -/
def k7 : Class := { plain "java/lang/String" (some 0) with
  accessFlags := 49
  interfaces := #[2, 3, 4, 5, 6]
  cf := some (fileOf pool7 10 #[.nestMembers #[1103]] #[{ accessFlags := 1, nameIndex := 5, descriptorIndex := 6, attributes := #[] }, { accessFlags := 1, nameIndex := 5, descriptorIndex := 1010, attributes := #[] }, { accessFlags := 1, nameIndex := 507, descriptorIndex := 334, attributes := #[] }, { accessFlags := 1, nameIndex := 497, descriptorIndex := 427, attributes := #[] }, { accessFlags := 1, nameIndex := 683, descriptorIndex := 684, attributes := #[] }, { accessFlags := 2, nameIndex := 5, descriptorIndex := 29, attributes := #[] }, { accessFlags := 0, nameIndex := 5, descriptorIndex := 211, attributes := #[] }, { accessFlags := 0, nameIndex := 17, descriptorIndex := 337, attributes := #[] }, { accessFlags := 0, nameIndex := 494, descriptorIndex := 142, attributes := #[] }, { accessFlags := 8, nameIndex := 501, descriptorIndex := 391, attributes := #[] }, { accessFlags := 8, nameIndex := 523, descriptorIndex := 524, attributes := #[] }] 49 2 #[1106, 1108, 575, 1110, 1112] #[{ accessFlags := 18, nameIndex := 13, descriptorIndex := 14, attributes := #[] }, { accessFlags := 18, nameIndex := 17, descriptorIndex := 18, attributes := #[] }, { accessFlags := 2, nameIndex := 21, descriptorIndex := 22, attributes := #[] }, { accessFlags := 2, nameIndex := 25, descriptorIndex := 26, attributes := #[] }, { accessFlags := 26, nameIndex := 1116, descriptorIndex := 1117, attributes := #[] }, { accessFlags := 24, nameIndex := 40, descriptorIndex := 26, attributes := #[] }, { accessFlags := 26, nameIndex := 1101, descriptorIndex := 1102, attributes := #[] }, { accessFlags := 26, nameIndex := 1121, descriptorIndex := 1122, attributes := #[] }, { accessFlags := 25, nameIndex := 599, descriptorIndex := 600, attributes := #[] }, { accessFlags := 24, nameIndex := 1125, descriptorIndex := 18, attributes := #[] }, { accessFlags := 24, nameIndex := 1127, descriptorIndex := 18, attributes := #[] }])
  fields := #[{ name := "value", type := (.array .byte), accessFlags := 18, slot := 0, constantValue := 0 }, { name := "coder", type := .byte, accessFlags := 18, slot := 1, constantValue := 0 }, { name := "hash", type := .int, accessFlags := 2, slot := 2, constantValue := 0 }, { name := "hashIsZero", type := .boolean, accessFlags := 2, slot := 3, constantValue := 0 }, { name := "serialVersionUID", type := .long, accessFlags := 26, slot := 0, constantValue := 0 }, { name := "COMPACT_STRINGS", type := .boolean, accessFlags := 24, slot := 1, constantValue := 0 }, { name := "serialPersistentFields", type := (.array (.object "java/io/ObjectStreamField")), accessFlags := 26, slot := 2, constantValue := 0 }, { name := "REPL", type := .char, accessFlags := 26, slot := 3, constantValue := 0 }, { name := "CASE_INSENSITIVE_ORDER", type := (.object "java/util/Comparator"), accessFlags := 25, slot := 4, constantValue := 0 }, { name := "LATIN1", type := .byte, accessFlags := 24, slot := 5, constantValue := 0 }, { name := "UTF16", type := .byte, accessFlags := 24, slot := 6, constantValue := 0 }]
  methods := #[k7m0, k7m1, k7m2, k7m3, k7m4, k7m5, k7m6, k7m7, k7m8, k7m9, k7m10]
  instanceTypes := #[(.array .byte), .byte, .int, .boolean]
  staticTypes := #[.long, .boolean, (.array (.object "java/io/ObjectStreamField")), .char, (.object "java/util/Comparator"), .byte, .byte]
  resolved := Array.replicate 1451 none
  statics := some 0 }

def pool8 : Array CpInfo := pool [(2, .class_ 4), (1, u "java/lang/Object"), (0, u "<init>"), (0, u "()V"), (0, .class_ 8), (0, u "java/lang/Record")] 13

def k8m0 : Method := { name := "<init>", desc := "()V", sig := { parameters := [], returnType := none }, accessFlags := 4, code := none }
/-- java/lang/Record -/
def k8 : Class := { plain "java/lang/Record" (some 0) with
  accessFlags := 1057
  interfaces := #[]
  cf := some (fileOf pool8 7 #[] #[{ accessFlags := 4, nameIndex := 5, descriptorIndex := 6, attributes := #[] }] 1057 2 #[] #[])
  fields := #[]
  methods := #[k8m0]
  instanceTypes := #[]
  staticTypes := #[]
  resolved := Array.replicate 22 none
  statics := none }

def pool9 : Array CpInfo := pool [(2, .class_ 4), (1, u "java/lang/Record"), (3, .class_ 10), (1, u "com/example/keepwire/keepwire/ResponseHead"), (0, u "minorVersion"), (0, u "I"), (2, u "status"), (2, u "reason"), (0, u "Ljava/lang/String;"), (2, u "headers"), (0, u "Lcom/example/keepwire/keepwire/Headers;"), (10, .methodref 35 36), (0, .class_ 37), (0, .nameAndType 38 39), (0, u "java/lang/String"), (0, u "length"), (0, u "()I"), (2, u "substring"), (7, .methodref 35 51), (0, .nameAndType 52 53), (0, u "charAt"), (0, u "(I)C"), (19, .class_ 75), (1, u "com/example/keepwire/keepwire/ResponseHead$Limits"), (10, .methodref 8 87), (0, .nameAndType 88 89), (0, u "isSpace"), (0, u "(C)Z"), (5, u "(Ljava/lang/String;)Ljava/lang/String;"), (15, u "trimSpaces"), (72, .methodref 35 185), (0, .nameAndType 42 186), (0, u "(II)Ljava/lang/String;"), (140, u "MINOR_VERSION_AT"), (2, u "STATUS_END"), (1, u "MIN_STATUS"), (1, u "MAX_STATUS"), (1, u "MAX_NUMBER_DIGITS"), (1, u "QUOTE_CHARS"), (1, u "TOKEN_SYMBOLS"), (0, u "HEAD")] 74

def k9c0 : Code := { maxStack := 2, maxLocals := 1, code := prog_30_method_19_code, exceptionTable := #[], attributes := #[] }
def k9m0 : Method := { name := "isSpace", desc := "(C)Z", sig := { parameters := [.char], returnType := some .boolean }, accessFlags := 10, code := some k9c0 }
def k9c1 : Code := { maxStack := 3, maxLocals := 3, code := prog_30_method_20_code, exceptionTable := #[], attributes := #[] }
def k9m1 : Method := { name := "trimSpaces", desc := "(Ljava/lang/String;)Ljava/lang/String;", sig := { parameters := [(.object "java/lang/String")], returnType := some (.object "java/lang/String") }, accessFlags := 8, code := some k9c1 }
/-- com/example/keepwire/keepwire/ResponseHead -/
def k9 : Class := { plain "com/example/keepwire/keepwire/ResponseHead" (some 8) with
  accessFlags := 48
  interfaces := #[]
  cf := some (fileOf pool9 8 #[.nestMembers #[73]] #[{ accessFlags := 10, nameIndex := 88, descriptorIndex := 89, attributes := #[] }, { accessFlags := 8, nameIndex := 111, descriptorIndex := 95, attributes := #[] }] 48 2 #[] #[{ accessFlags := 18, nameIndex := 11, descriptorIndex := 12, attributes := #[] }, { accessFlags := 18, nameIndex := 15, descriptorIndex := 12, attributes := #[] }, { accessFlags := 18, nameIndex := 18, descriptorIndex := 19, attributes := #[] }, { accessFlags := 18, nameIndex := 22, descriptorIndex := 23, attributes := #[] }, { accessFlags := 26, nameIndex := 327, descriptorIndex := 12, attributes := #[] }, { accessFlags := 26, nameIndex := 330, descriptorIndex := 12, attributes := #[] }, { accessFlags := 26, nameIndex := 332, descriptorIndex := 12, attributes := #[] }, { accessFlags := 26, nameIndex := 334, descriptorIndex := 12, attributes := #[] }, { accessFlags := 26, nameIndex := 336, descriptorIndex := 12, attributes := #[] }, { accessFlags := 26, nameIndex := 338, descriptorIndex := 12, attributes := #[] }, { accessFlags := 26, nameIndex := 340, descriptorIndex := 19, attributes := #[] }, { accessFlags := 26, nameIndex := 341, descriptorIndex := 19, attributes := #[] }])
  fields := #[{ name := "minorVersion", type := .int, accessFlags := 18, slot := 0, constantValue := 0 }, { name := "status", type := .int, accessFlags := 18, slot := 1, constantValue := 0 }, { name := "reason", type := (.object "java/lang/String"), accessFlags := 18, slot := 2, constantValue := 0 }, { name := "headers", type := (.object "com/example/keepwire/keepwire/Headers"), accessFlags := 18, slot := 3, constantValue := 0 }, { name := "MINOR_VERSION_AT", type := .int, accessFlags := 26, slot := 0, constantValue := 0 }, { name := "STATUS_END", type := .int, accessFlags := 26, slot := 1, constantValue := 0 }, { name := "MIN_STATUS", type := .int, accessFlags := 26, slot := 2, constantValue := 0 }, { name := "MAX_STATUS", type := .int, accessFlags := 26, slot := 3, constantValue := 0 }, { name := "MAX_NUMBER_DIGITS", type := .int, accessFlags := 26, slot := 4, constantValue := 0 }, { name := "QUOTE_CHARS", type := .int, accessFlags := 26, slot := 5, constantValue := 0 }, { name := "TOKEN_SYMBOLS", type := (.object "java/lang/String"), accessFlags := 26, slot := 6, constantValue := 0 }, { name := "HEAD", type := (.object "java/lang/String"), accessFlags := 26, slot := 7, constantValue := 0 }]
  methods := #[k9m0, k9m1]
  instanceTypes := #[.int, .int, (.object "java/lang/String"), (.object "com/example/keepwire/keepwire/Headers")]
  staticTypes := #[.int, .int, .int, .int, .int, .int, (.object "java/lang/String"), (.object "java/lang/String")]
  resolved := Array.replicate 416 none
  statics := none }

def pool10 : Array CpInfo := pool [(2, .class_ 4), (1, u "java/lang/Object"), (0, u "<init>"), (0, u "()V"), (17, .class_ 26), (1, u "jdk/internal/util/Preconditions"), (6, u "checkIndex"), (13, u "checkFromToIndex"), (7, .class_ 56), (0, u "jdk/internal/util/Preconditions$4"), (57, .class_ 115), (0, u "jdk/internal/util/Preconditions$1"), (7, u "SIOOBE_FORMATTER"), (0, u "Ljava/util/function/BiFunction;"), (0, .class_ 126), (0, u "jdk/internal/util/Preconditions$2"), (3, u "AIOOBE_FORMATTER"), (0, .class_ 132), (0, u "jdk/internal/util/Preconditions$3"), (3, u "IOOBE_FORMATTER"), (41, u "(IILjava/util/function/BiFunction;)I"), (4, u "(IIILjava/util/function/BiFunction;)I")] 10

def k10m0 : Method := { name := "<init>", desc := "()V", sig := { parameters := [], returnType := none }, accessFlags := 1, code := none }
def k10c1 : Code := { maxStack := 3, maxLocals := 3, code := jdk_41_method_11_code, exceptionTable := #[], attributes := #[] }
def k10m1 : Method := { name := "checkIndex", desc := "(IILjava/util/function/BiFunction;)I", sig := { parameters := [.int, .int, (.object "java/util/function/BiFunction")], returnType := some .int }, accessFlags := 9, code := some k10c1 }
def k10c2 : Code := { maxStack := 4, maxLocals := 4, code := jdk_41_method_12_code, exceptionTable := #[], attributes := #[] }
def k10m2 : Method := { name := "checkFromToIndex", desc := "(IIILjava/util/function/BiFunction;)I", sig := { parameters := [.int, .int, .int, (.object "java/util/function/BiFunction")], returnType := some .int }, accessFlags := 9, code := some k10c2 }
/-- jdk/internal/util/Preconditions -/
def k10 : Class := { plain "jdk/internal/util/Preconditions" (some 0) with
  accessFlags := 33
  interfaces := #[]
  cf := some (fileOf pool10 24 #[.nestMembers #[55, 131, 125, 114]] #[{ accessFlags := 1, nameIndex := 5, descriptorIndex := 6, attributes := #[] }, { accessFlags := 9, nameIndex := 33, descriptorIndex := 178, attributes := #[] }, { accessFlags := 9, nameIndex := 47, descriptorIndex := 183, attributes := #[] }] 33 2 #[] #[{ accessFlags := 25, nameIndex := 123, descriptorIndex := 124, attributes := #[] }, { accessFlags := 25, nameIndex := 130, descriptorIndex := 124, attributes := #[] }, { accessFlags := 25, nameIndex := 136, descriptorIndex := 124, attributes := #[] }])
  fields := #[{ name := "SIOOBE_FORMATTER", type := (.object "java/util/function/BiFunction"), accessFlags := 25, slot := 0, constantValue := 0 }, { name := "AIOOBE_FORMATTER", type := (.object "java/util/function/BiFunction"), accessFlags := 25, slot := 1, constantValue := 0 }, { name := "IOOBE_FORMATTER", type := (.object "java/util/function/BiFunction"), accessFlags := 25, slot := 2, constantValue := 0 }]
  methods := #[k10m0, k10m1, k10m2]
  instanceTypes := #[]
  staticTypes := #[(.object "java/util/function/BiFunction"), (.object "java/util/function/BiFunction"), (.object "java/util/function/BiFunction")]
  resolved := Array.replicate 194 none
  statics := some 1 }

def pool11 : Array CpInfo := pool [(6, .class_ 8), (1, u "java/lang/Object"), (0, u "<init>"), (0, u "()V"), (1, .class_ 14), (1, u "java/lang/StringUTF16"), (31, u "$assertionsDisabled"), (0, u "Z"), (13, u "HI_BYTE_SHIFT"), (0, u "I"), (2, u "LO_BYTE_SHIFT"), (49, .methodref 12 116), (0, .nameAndType 117 118), (0, u "compress"), (0, u "([CI[BII)I"), (3, u "([CII)[B"), (138, u "coderFromArrayLen"), (0, u "([BI)B"), (106, .class_ 371), (1, u "java/lang/StringUTF16$LinesSpliterator"), (58, u "MAX_LENGTH"), (196, .class_ 628), (0, u "java/lang/StringUTF16$CodePointsSpliterator"), (0, .class_ 630), (0, u "java/lang/StringUTF16$CharsSpliterator")] 4

def k11m0 : Method := { name := "<init>", desc := "()V", sig := { parameters := [], returnType := none }, accessFlags := 0, code := none }
def k11c1 : Code := { maxStack := 2, maxLocals := 2, code := jdk_52_method_15_code, exceptionTable := #[], attributes := #[] }
def k11m1 : Method := { name := "coderFromArrayLen", desc := "([BI)B", sig := { parameters := [(.array .byte), .int], returnType := some .byte }, accessFlags := 8, code := some k11c1 }
def k11c2 : Code := { maxStack := 5, maxLocals := 6, code := jdk_52_method_16_code, exceptionTable := #[], attributes := #[] }
def k11m2 : Method := { name := "compress", desc := "([CII)[B", sig := { parameters := [(.array .char), .int, .int], returnType := some (.array .byte) }, accessFlags := 9, code := some k11c2 }
def k11c3 : Code := { maxStack := 3, maxLocals := 7, code := jdk_52_method_21_code, exceptionTable := #[], attributes := #[] }
def k11m3 : Method := { name := "compress", desc := "([CI[BII)I", sig := { parameters := [(.array .char), .int, (.array .byte), .int, .int], returnType := some .int }, accessFlags := 9, code := some k11c3 }
/-- java/lang/StringUTF16 -/
def k11 : Class := { plain "java/lang/StringUTF16" (some 0) with
  accessFlags := 48
  interfaces := #[]
  cf := some (fileOf pool11 12 #[.nestMembers #[627, 629, 369]] #[{ accessFlags := 0, nameIndex := 9, descriptorIndex := 10, attributes := #[] }, { accessFlags := 8, nameIndex := 261, descriptorIndex := 262, attributes := #[] }, { accessFlags := 9, nameIndex := 117, descriptorIndex := 122, attributes := #[] }, { accessFlags := 9, nameIndex := 117, descriptorIndex := 118, attributes := #[] }] 48 6 #[] #[{ accessFlags := 26, nameIndex := 61, descriptorIndex := 62, attributes := #[] }, { accessFlags := 26, nameIndex := 65, descriptorIndex := 62, attributes := #[] }, { accessFlags := 24, nameIndex := 430, descriptorIndex := 62, attributes := #[] }, { accessFlags := 4120, nameIndex := 46, descriptorIndex := 47, attributes := #[] }])
  fields := #[{ name := "HI_BYTE_SHIFT", type := .int, accessFlags := 26, slot := 0, constantValue := 0 }, { name := "LO_BYTE_SHIFT", type := .int, accessFlags := 26, slot := 1, constantValue := 0 }, { name := "MAX_LENGTH", type := .int, accessFlags := 24, slot := 2, constantValue := 0 }, { name := "$assertionsDisabled", type := .boolean, accessFlags := 4120, slot := 3, constantValue := 0 }]
  methods := #[k11m0, k11m1, k11m2, k11m3]
  instanceTypes := #[]
  staticTypes := #[.int, .int, .int, .boolean]
  resolved := Array.replicate 635 none
  statics := none }

def pool12 : Array CpInfo := pool [(1, .class_ 2), (0, u "java/lang/String"), (1, .class_ 6), (1, u "java/lang/Object"), (0, u "<init>"), (0, u "()V"), (0, .methodref 1 10), (0, .nameAndType 11 12), (0, u "checkIndex"), (0, u "(II)V"), (1, .class_ 16), (1, u "java/lang/StringLatin1"), (36, u "([BI)C"), (58, .methodref 1 113), (0, .nameAndType 7 114), (0, u "([BB)V"), (6, u "$assertionsDisabled"), (0, u "Z"), (8, .class_ 133), (1, u "java/util/Arrays"), (17, .string 152), (0, u ""), (43, u "newString"), (0, u "([BII)Ljava/lang/String;"), (23, .class_ 223), (1, u "java/lang/StringLatin1$LinesSpliterator"), (8, .methodref 131 233), (0, .nameAndType 234 235), (0, u "copyOfRange"), (0, u "([BII)[B"), (16, u "charAt"), (137, .class_ 391), (0, u "java/lang/StringLatin1$CharsSpliterator")] 3

def k12m0 : Method := { name := "<init>", desc := "()V", sig := { parameters := [], returnType := none }, accessFlags := 0, code := none }
def k12c1 : Code := { maxStack := 2, maxLocals := 2, code := jdk_43_method_2_code, exceptionTable := #[], attributes := #[] }
def k12m1 : Method := { name := "charAt", desc := "([BI)C", sig := { parameters := [(.array .byte), .int], returnType := some .char }, accessFlags := 9, code := some k12c1 }
def k12c2 : Code := { maxStack := 6, maxLocals := 3, code := jdk_43_method_47_code, exceptionTable := #[], attributes := #[] }
def k12m2 : Method := { name := "newString", desc := "([BII)Ljava/lang/String;", sig := { parameters := [(.array .byte), .int, .int], returnType := some (.object "java/lang/String") }, accessFlags := 9, code := some k12c2 }
/-- java/lang/StringLatin1 -/
def k12 : Class := { plain "java/lang/StringLatin1" (some 0) with
  accessFlags := 48
  interfaces := #[]
  cf := some (fileOf pool12 14 #[.nestMembers #[390, 221]] #[{ accessFlags := 0, nameIndex := 7, descriptorIndex := 8, attributes := #[] }, { accessFlags := 9, nameIndex := 252, descriptorIndex := 53, attributes := #[] }, { accessFlags := 9, nameIndex := 196, descriptorIndex := 197, attributes := #[] }] 48 4 #[] #[{ accessFlags := 4120, nameIndex := 121, descriptorIndex := 122, attributes := #[] }])
  fields := #[{ name := "$assertionsDisabled", type := .boolean, accessFlags := 4120, slot := 0, constantValue := 0 }]
  methods := #[k12m0, k12m1, k12m2]
  instanceTypes := #[]
  staticTypes := #[.boolean]
  resolved := Array.replicate 395 none
  statics := none }

def pool13 : Array CpInfo := pool [(2, .class_ 4), (1, u "java/lang/Object"), (0, u "<init>"), (0, u "()V"), (7, .class_ 16), (1, u "java/util/Arrays"), (57, .class_ 76), (1, u "java/util/Arrays$NaturalOrder"), (36, .class_ 115), (1, u "java/util/Arrays$LegacyMergeSort"), (1, u "Z"), (21, u "copyOfRange"), (10, .methodref 151 152), (0, .class_ 153), (0, .nameAndType 154 155), (0, u "java/lang/System"), (0, u "arraycopy"), (0, u "(Ljava/lang/Object;ILjava/lang/Object;II)V"), (148, .methodref 305 306), (0, .class_ 307), (0, .nameAndType 308 309), (0, u "java/lang/Math"), (0, u "min"), (0, u "(II)I"), (29, .methodref 14 340), (0, .nameAndType 341 342), (0, u "copyOfRangeByte"), (0, u "([BII)[B"), (0, .methodref 14 344), (0, .nameAndType 345 346), (0, u "checkLength"), (0, u "(II)V"), (28, .class_ 376), (0, u "java/util/Arrays$ArrayList"), (68, u "$assertionsDisabled"), (269, u "MIN_ARRAY_SORT_GRAN"), (0, u "I"), (2, u "INSERTIONSORT_THRESHOLD"), (255, .class_ 976), (0, u "java/util/Arrays$ArrayItr")] 52

def k13m0 : Method := { name := "<init>", desc := "()V", sig := { parameters := [], returnType := none }, accessFlags := 2, code := none }
def k13c1 : Code := { maxStack := 4, maxLocals := 2, code := jdk_65_method_131_code, exceptionTable := #[], attributes := #[] }
def k13m1 : Method := { name := "checkLength", desc := "(II)V", sig := { parameters := [.int, .int], returnType := none }, accessFlags := 10, code := some k13c1 }
def k13c2 : Code := { maxStack := 3, maxLocals := 3, code := jdk_65_method_132_code, exceptionTable := #[], attributes := #[] }
def k13m2 : Method := { name := "copyOfRange", desc := "([BII)[B", sig := { parameters := [(.array .byte), .int, .int], returnType := some (.array .byte) }, accessFlags := 9, code := some k13c2 }
def k13c3 : Code := { maxStack := 6, maxLocals := 5, code := jdk_65_method_133_code, exceptionTable := #[], attributes := #[] }
def k13m3 : Method := { name := "copyOfRangeByte", desc := "([BII)[B", sig := { parameters := [(.array .byte), .int, .int], returnType := some (.array .byte) }, accessFlags := 10, code := some k13c3 }
/-- java/util/Arrays -/
def k13 : Class := { plain "java/util/Arrays" (some 0) with
  accessFlags := 49
  interfaces := #[]
  cf := some (fileOf pool13 14 #[.nestMembers #[975, 375, 113, 74]] #[{ accessFlags := 2, nameIndex := 5, descriptorIndex := 6, attributes := #[] }, { accessFlags := 10, nameIndex := 345, descriptorIndex := 346, attributes := #[] }, { accessFlags := 9, nameIndex := 139, descriptorIndex := 342, attributes := #[] }, { accessFlags := 10, nameIndex := 341, descriptorIndex := 342, attributes := #[] }] 49 2 #[] #[{ accessFlags := 26, nameIndex := 715, descriptorIndex := 716, attributes := #[] }, { accessFlags := 26, nameIndex := 719, descriptorIndex := 716, attributes := #[] }, { accessFlags := 4120, nameIndex := 445, descriptorIndex := 117, attributes := #[] }])
  fields := #[{ name := "MIN_ARRAY_SORT_GRAN", type := .int, accessFlags := 26, slot := 0, constantValue := 0 }, { name := "INSERTIONSORT_THRESHOLD", type := .int, accessFlags := 26, slot := 1, constantValue := 0 }, { name := "$assertionsDisabled", type := .boolean, accessFlags := 4120, slot := 2, constantValue := 0 }]
  methods := #[k13m0, k13m1, k13m2, k13m3]
  instanceTypes := #[]
  staticTypes := #[.int, .int, .boolean]
  resolved := Array.replicate 1029 none
  statics := none }

def pool14 : Array CpInfo := pool [(1, .class_ 2), (0, u "java/lang/Math"), (1, .class_ 6), (1, u "java/lang/Object"), (0, u "<init>"), (0, u "()V"), (89, .class_ 100), (1, u "java/lang/Math$RandomNumberGeneratorHolder"), (71, u "negativeZeroFloatBits"), (0, u "J"), (2, u "negativeZeroDoubleBits"), (24, u "min"), (43, u "$assertionsDisabled"), (0, u "Z"), (88, u "(II)I"), (2, u "twoToTheDoubleScaleDown"), (0, u "D"), (4, u "twoToTheDoubleScaleUp"), (9, u "E"), (3, u "PI"), (2, u "TAU"), (2, u "DEGREES_TO_RADIANS"), (0, u "RADIANS_TO_DEGREES")] 94

def k14m0 : Method := { name := "<init>", desc := "()V", sig := { parameters := [], returnType := none }, accessFlags := 2, code := none }
def k14c1 : Code := { maxStack := 2, maxLocals := 2, code := jdk_29_method_69_code, exceptionTable := #[], attributes := #[] }
def k14m1 : Method := { name := "min", desc := "(II)I", sig := { parameters := [.int, .int], returnType := some .int }, accessFlags := 9, code := some k14c1 }
/-- java/lang/Math -/
def k14 : Class := { plain "java/lang/Math" (some 0) with
  accessFlags := 49
  interfaces := #[]
  cf := some (fileOf pool14 1 #[.nestMembers #[98]] #[{ accessFlags := 2, nameIndex := 7, descriptorIndex := 8, attributes := #[] }, { accessFlags := 9, nameIndex := 201, descriptorIndex := 335, attributes := #[] }] 49 4 #[] #[{ accessFlags := 25, nameIndex := 354, descriptorIndex := 339, attributes := #[] }, { accessFlags := 25, nameIndex := 358, descriptorIndex := 339, attributes := #[] }, { accessFlags := 25, nameIndex := 361, descriptorIndex := 339, attributes := #[] }, { accessFlags := 26, nameIndex := 364, descriptorIndex := 339, attributes := #[] }, { accessFlags := 26, nameIndex := 365, descriptorIndex := 339, attributes := #[] }, { accessFlags := 26, nameIndex := 172, descriptorIndex := 173, attributes := #[] }, { accessFlags := 26, nameIndex := 176, descriptorIndex := 173, attributes := #[] }, { accessFlags := 8, nameIndex := 344, descriptorIndex := 339, attributes := #[] }, { accessFlags := 8, nameIndex := 338, descriptorIndex := 339, attributes := #[] }, { accessFlags := 4120, nameIndex := 245, descriptorIndex := 246, attributes := #[] }])
  fields := #[{ name := "E", type := .double, accessFlags := 25, slot := 0, constantValue := 0 }, { name := "PI", type := .double, accessFlags := 25, slot := 1, constantValue := 0 }, { name := "TAU", type := .double, accessFlags := 25, slot := 2, constantValue := 0 }, { name := "DEGREES_TO_RADIANS", type := .double, accessFlags := 26, slot := 3, constantValue := 0 }, { name := "RADIANS_TO_DEGREES", type := .double, accessFlags := 26, slot := 4, constantValue := 0 }, { name := "negativeZeroFloatBits", type := .long, accessFlags := 26, slot := 5, constantValue := 0 }, { name := "negativeZeroDoubleBits", type := .long, accessFlags := 26, slot := 6, constantValue := 0 }, { name := "twoToTheDoubleScaleUp", type := .double, accessFlags := 8, slot := 7, constantValue := 0 }, { name := "twoToTheDoubleScaleDown", type := .double, accessFlags := 8, slot := 8, constantValue := 0 }, { name := "$assertionsDisabled", type := .boolean, accessFlags := 4120, slot := 9, constantValue := 0 }]
  methods := #[k14m0, k14m1]
  instanceTypes := #[]
  staticTypes := #[.double, .double, .double, .double, .double, .long, .long, .double, .double, .boolean]
  resolved := Array.replicate 460 none
  statics := none }

def pool15 : Array CpInfo := pool [(2, .class_ 4), (1, u "java/lang/Object"), (0, u "<init>"), (0, u "()V"), (1, .class_ 10), (1, u "java/lang/System"), (0, u "allowSecurityManager"), (0, u "I"), (16, u "cons"), (0, u "Ljava/io/Console;"), (77, .class_ 110), (1, u "java/lang/System$CallersHolder"), (43, u "initialErrStream"), (0, u "Ljava/io/PrintStream;"), (19, u "security"), (0, u "Ljava/lang/SecurityManager;"), (31, .class_ 209), (0, u "java/lang/System$1"), (7, u "props"), (0, u "Ljava/util/Properties;"), (2, u "lineSeparator"), (0, u "Ljava/lang/String;"), (96, .class_ 321), (1, u "java/lang/System$LoggerFinder"), (5, .class_ 328), (0, u "java/lang/System$Logger"), (67, u "err"), (2, u "out"), (91, u "notSupportedJnuEncoding"), (15, u "in"), (17, u "initialIn"), (0, u "Ljava/io/InputStream;"), (35, u "bootLayer"), (0, u "Ljava/lang/ModuleLayer;"), (99, .class_ 664), (0, u "java/lang/System$2"), (9, u "NEVER"), (2, u "MAYBE"), (49, u "arraycopy"), (0, u "(Ljava/lang/Object;ILjava/lang/Object;II)V"), (72, .class_ 802), (0, u "java/lang/System$Logger$Level")] 31

def k15m0 : Method := { name := "<init>", desc := "()V", sig := { parameters := [], returnType := none }, accessFlags := 2, code := none }
def k15m1 : Method := { name := "arraycopy", desc := "(Ljava/lang/Object;ILjava/lang/Object;II)V", sig := { parameters := [(.object "java/lang/Object"), .int, (.object "java/lang/Object"), .int, .int], returnType := none }, accessFlags := 265, code := none }
/-- java/lang/System -/
def k15 : Class := { plain "java/lang/System" (some 0) with
  accessFlags := 49
  interfaces := #[]
  cf := some (fileOf pool15 8 #[.nestMembers #[319, 327, 801, 108, 663, 208]] #[{ accessFlags := 2, nameIndex := 5, descriptorIndex := 6, attributes := #[] }, { accessFlags := 265, nameIndex := 727, descriptorIndex := 728, attributes := #[] }] 49 2 #[] #[{ accessFlags := 25, nameIndex := 507, descriptorIndex := 526, attributes := #[] }, { accessFlags := 25, nameIndex := 399, descriptorIndex := 155, attributes := #[] }, { accessFlags := 25, nameIndex := 396, descriptorIndex := 155, attributes := #[] }, { accessFlags := 10, nameIndex := 525, descriptorIndex := 526, attributes := #[] }, { accessFlags := 26, nameIndex := 674, descriptorIndex := 12, attributes := #[] }, { accessFlags := 26, nameIndex := 677, descriptorIndex := 12, attributes := #[] }, { accessFlags := 10, nameIndex := 11, descriptorIndex := 12, attributes := #[] }, { accessFlags := 74, nameIndex := 175, descriptorIndex := 176, attributes := #[] }, { accessFlags := 10, nameIndex := 491, descriptorIndex := 222, attributes := #[] }, { accessFlags := 74, nameIndex := 29, descriptorIndex := 30, attributes := #[] }, { accessFlags := 74, nameIndex := 154, descriptorIndex := 155, attributes := #[] }, { accessFlags := 10, nameIndex := 217, descriptorIndex := 218, attributes := #[] }, { accessFlags := 10, nameIndex := 221, descriptorIndex := 222, attributes := #[] }, { accessFlags := 8, nameIndex := 562, descriptorIndex := 563, attributes := #[] }])
  fields := #[{ name := "in", type := (.object "java/io/InputStream"), accessFlags := 25, slot := 0, constantValue := 0 }, { name := "out", type := (.object "java/io/PrintStream"), accessFlags := 25, slot := 1, constantValue := 0 }, { name := "err", type := (.object "java/io/PrintStream"), accessFlags := 25, slot := 2, constantValue := 0 }, { name := "initialIn", type := (.object "java/io/InputStream"), accessFlags := 10, slot := 3, constantValue := 0 }, { name := "NEVER", type := .int, accessFlags := 26, slot := 4, constantValue := 0 }, { name := "MAYBE", type := .int, accessFlags := 26, slot := 5, constantValue := 0 }, { name := "allowSecurityManager", type := .int, accessFlags := 10, slot := 6, constantValue := 0 }, { name := "security", type := (.object "java/lang/SecurityManager"), accessFlags := 74, slot := 7, constantValue := 0 }, { name := "notSupportedJnuEncoding", type := (.object "java/lang/String"), accessFlags := 10, slot := 8, constantValue := 0 }, { name := "cons", type := (.object "java/io/Console"), accessFlags := 74, slot := 9, constantValue := 0 }, { name := "initialErrStream", type := (.object "java/io/PrintStream"), accessFlags := 74, slot := 10, constantValue := 0 }, { name := "props", type := (.object "java/util/Properties"), accessFlags := 10, slot := 11, constantValue := 0 }, { name := "lineSeparator", type := (.object "java/lang/String"), accessFlags := 10, slot := 12, constantValue := 0 }, { name := "bootLayer", type := (.object "java/lang/ModuleLayer"), accessFlags := 8, slot := 13, constantValue := 0 }]
  methods := #[k15m0, k15m1]
  instanceTypes := #[]
  staticTypes := #[(.object "java/io/InputStream"), (.object "java/io/PrintStream"), (.object "java/io/PrintStream"), (.object "java/io/InputStream"), .int, .int, .int, (.object "java/lang/SecurityManager"), (.object "java/lang/String"), (.object "java/io/Console"), (.object "java/io/PrintStream"), (.object "java/util/Properties"), (.object "java/lang/String"), (.object "java/lang/ModuleLayer")]
  resolved := Array.replicate 834 none
  statics := none }

def pool16 : Array CpInfo := pool [(9, u "<init>"), (6, .class_ 18), (1, u "java/lang/Object"), (0, u "()V"), (1, .class_ 23), (1, u "jdk/internal/util/ArraysSupport"), (0, u "LOG2_ARRAY_LONG_INDEX_SCALE"), (0, u "I"), (2, u "U"), (0, u "Ljdk/internal/misc/Unsafe;"), (8, u "BIG_ENDIAN"), (0, u "Z"), (8, u "LOG2_BYTE_BIT_SIZE"), (4, u "LOG2_ARRAY_INT_INDEX_SCALE"), (54, u "JLA"), (0, u "Ljdk/internal/access/JavaLangAccess;"), (11, u "LOG2_ARRAY_BOOLEAN_INDEX_SCALE"), (9, u "LOG2_ARRAY_BYTE_INDEX_SCALE"), (5, u "LOG2_ARRAY_CHAR_INDEX_SCALE"), (5, u "LOG2_ARRAY_SHORT_INDEX_SCALE"), (18, u "LOG2_ARRAY_FLOAT_INDEX_SCALE"), (24, u "LOG2_ARRAY_DOUBLE_INDEX_SCALE"), (89, u "T_BOOLEAN"), (2, u "T_CHAR"), (1, u "T_FLOAT"), (1, u "T_DOUBLE"), (1, u "T_BYTE"), (1, u "T_SHORT"), (1, u "T_INT"), (1, u "T_LONG"), (1, u "SOFT_MAX_ARRAY_LENGTH")] 83

def k16m0 : Method := { name := "<init>", desc := "()V", sig := { parameters := [], returnType := none }, accessFlags := 2, code := none }
/-- jdk/internal/util/ArraysSupport -/
def k16 : Class := { plain "jdk/internal/util/ArraysSupport" (some 0) with
  accessFlags := 33
  interfaces := #[]
  cf := some (fileOf pool16 21 #[] #[{ accessFlags := 2, nameIndex := 9, descriptorIndex := 19, attributes := #[] }] 33 16 #[] #[{ accessFlags := 24, nameIndex := 28, descriptorIndex := 29, attributes := #[] }, { accessFlags := 26, nameIndex := 38, descriptorIndex := 39, attributes := #[] }, { accessFlags := 25, nameIndex := 121, descriptorIndex := 25, attributes := #[] }, { accessFlags := 25, nameIndex := 131, descriptorIndex := 25, attributes := #[] }, { accessFlags := 25, nameIndex := 137, descriptorIndex := 25, attributes := #[] }, { accessFlags := 25, nameIndex := 143, descriptorIndex := 25, attributes := #[] }, { accessFlags := 25, nameIndex := 53, descriptorIndex := 25, attributes := #[] }, { accessFlags := 25, nameIndex := 24, descriptorIndex := 25, attributes := #[] }, { accessFlags := 25, nameIndex := 162, descriptorIndex := 25, attributes := #[] }, { accessFlags := 25, nameIndex := 187, descriptorIndex := 25, attributes := #[] }, { accessFlags := 26, nameIndex := 48, descriptorIndex := 25, attributes := #[] }, { accessFlags := 25, nameIndex := 277, descriptorIndex := 25, attributes := #[] }, { accessFlags := 25, nameIndex := 280, descriptorIndex := 25, attributes := #[] }, { accessFlags := 25, nameIndex := 282, descriptorIndex := 25, attributes := #[] }, { accessFlags := 25, nameIndex := 284, descriptorIndex := 25, attributes := #[] }, { accessFlags := 25, nameIndex := 286, descriptorIndex := 25, attributes := #[] }, { accessFlags := 25, nameIndex := 288, descriptorIndex := 25, attributes := #[] }, { accessFlags := 25, nameIndex := 290, descriptorIndex := 25, attributes := #[] }, { accessFlags := 25, nameIndex := 292, descriptorIndex := 25, attributes := #[] }, { accessFlags := 26, nameIndex := 108, descriptorIndex := 109, attributes := #[] }, { accessFlags := 25, nameIndex := 294, descriptorIndex := 25, attributes := #[] }])
  fields := #[{ name := "U", type := (.object "jdk/internal/misc/Unsafe"), accessFlags := 24, slot := 0, constantValue := 0 }, { name := "BIG_ENDIAN", type := .boolean, accessFlags := 26, slot := 1, constantValue := 0 }, { name := "LOG2_ARRAY_BOOLEAN_INDEX_SCALE", type := .int, accessFlags := 25, slot := 2, constantValue := 0 }, { name := "LOG2_ARRAY_BYTE_INDEX_SCALE", type := .int, accessFlags := 25, slot := 3, constantValue := 0 }, { name := "LOG2_ARRAY_CHAR_INDEX_SCALE", type := .int, accessFlags := 25, slot := 4, constantValue := 0 }, { name := "LOG2_ARRAY_SHORT_INDEX_SCALE", type := .int, accessFlags := 25, slot := 5, constantValue := 0 }, { name := "LOG2_ARRAY_INT_INDEX_SCALE", type := .int, accessFlags := 25, slot := 6, constantValue := 0 }, { name := "LOG2_ARRAY_LONG_INDEX_SCALE", type := .int, accessFlags := 25, slot := 7, constantValue := 0 }, { name := "LOG2_ARRAY_FLOAT_INDEX_SCALE", type := .int, accessFlags := 25, slot := 8, constantValue := 0 }, { name := "LOG2_ARRAY_DOUBLE_INDEX_SCALE", type := .int, accessFlags := 25, slot := 9, constantValue := 0 }, { name := "LOG2_BYTE_BIT_SIZE", type := .int, accessFlags := 26, slot := 10, constantValue := 0 }, { name := "T_BOOLEAN", type := .int, accessFlags := 25, slot := 11, constantValue := 0 }, { name := "T_CHAR", type := .int, accessFlags := 25, slot := 12, constantValue := 0 }, { name := "T_FLOAT", type := .int, accessFlags := 25, slot := 13, constantValue := 0 }, { name := "T_DOUBLE", type := .int, accessFlags := 25, slot := 14, constantValue := 0 }, { name := "T_BYTE", type := .int, accessFlags := 25, slot := 15, constantValue := 0 }, { name := "T_SHORT", type := .int, accessFlags := 25, slot := 16, constantValue := 0 }, { name := "T_INT", type := .int, accessFlags := 25, slot := 17, constantValue := 0 }, { name := "T_LONG", type := .int, accessFlags := 25, slot := 18, constantValue := 0 }, { name := "JLA", type := (.object "jdk/internal/access/JavaLangAccess"), accessFlags := 26, slot := 19, constantValue := 0 }, { name := "SOFT_MAX_ARRAY_LENGTH", type := .int, accessFlags := 25, slot := 20, constantValue := 0 }]
  methods := #[k16m0]
  instanceTypes := #[]
  staticTypes := #[(.object "jdk/internal/misc/Unsafe"), .boolean, .int, .int, .int, .int, .int, .int, .int, .int, .int, .int, .int, .int, .int, .int, .int, .int, .int, (.object "jdk/internal/access/JavaLangAccess"), .int]
  resolved := Array.replicate 378 none
  statics := none }

def pool17 : Array CpInfo := pool [(1, u "java/lang/Cloneable"), (0, .class_ 1), (0, u "java/lang/Object"), (0, .class_ 3)] 3

/-- java/lang/Cloneable -/
def k17 : Class := { plain "java/lang/Cloneable" (some 0) with
  accessFlags := 1537
  interfaces := #[]
  cf := some (fileOf pool17 2 #[] #[] 1537 4 #[] #[])
  fields := #[]
  methods := #[]
  instanceTypes := #[]
  staticTypes := #[]
  resolved := Array.replicate 8 none
  statics := none }

/-- the primitive byte -/
def k18 : Class := { plain "byte" none with kind := .primitive 'B', accessFlags := 0x411 }
/-- [B -/
def k19 : Class := { plain "[B" (some 0) with kind := .array 18 .byte, interfaces := #[17, 2], accessFlags := 1041 }

/-- the primitive char -/
def k20 : Class := { plain "char" none with kind := .primitive 'C', accessFlags := 0x411 }
/-- [C -/
def k21 : Class := { plain "[C" (some 0) with kind := .array 20 .char, interfaces := #[17, 2], accessFlags := 1041 }

/-- the primitive int -/
def k22 : Class := { plain "int" none with kind := .primitive 'I', accessFlags := 0x411 }
/-- [I -/
def k23 : Class := { plain "[I" (some 0) with kind := .array 22 .int, interfaces := #[17, 2], accessFlags := 1041 }

def heap : Heap := #[{ cls := 7, slots := #[.long 0, .int 1, .null, .int 0, .null, .int 0, .int 0], vm := .statics 7 },
  { cls := 10, slots := #[.null, .null, .null], vm := .statics 10 }]
def classes : Array Class := #[k0, k1, k2, k3, k4, k5, k6, k7, k8, k9, k10, k11, k12, k13, k14, k15, k16, k17, k18, k19, k20, k21, k22, k23]
def interned : List (Array UInt16 × Addr) := []
def slotsUsed : Nat := 10
def theMethod : MethodId := ⟨1, 1⟩
def args0 : Array Value := #[.int 4, .int 0, .int 400, .int 1, .int 260, .int 7]
def aboutOver (below : List Frame) : State where
  vm := { classes := classes, interned := interned.toArray }
  heap := heap
  slotsUsed := slotsUsed
  threads := #[{ frames := .invoking theMethod args0 :: below }]
def below0 : List Frame := [.native { method := ⟨0, 0⟩, args := #[] }]
def about1 : State := aboutOver below0
def p0 : Program := .bare "" "" ""
def e0 : Env := launch0.env 0 0 0
theorem w_frames : about1.frames = Frame.invoking theMethod args0 :: below0 := rfl
set_option maxRecDepth 65536 in
theorem w_args : argsFit about1.vm theMethod args0 = true := by decide +kernel
set_option maxRecDepth 65536 in
theorem w_heap : heapFits about1 = true := by decide +kernel
set_option maxRecDepth 65536 in
theorem w_runnable : about1.curStatus? = some .runnable := by decide +kernel
set_option maxRecDepth 65536 in
theorem w_alone : about1.alone = true := by decide +kernel
set_option maxRecDepth 65536 in
theorem w_named : about1.methodNamed? x = some theMethod := by decide +kernel
set_option maxRecDepth 65536 in
theorem w_hears : about1.hears theMethod below0 = true := by decide +kernel
set_option maxRecDepth 65536 in
theorem w_ripe : about1.ripe theMethod args0 below0 = true := by decide +kernel
theorem w_running : about1.status = .running := rfl
set_option maxRecDepth 65536 in
theorem w_room : about1.hasRoom e0.platform room_1 = true :=
  launch0.hasRoom_least _ room_1 (by decide +kernel) (by decide +kernel) (by decide +kernel) (by decide +kernel) (by decide +kernel) (by decide +kernel)
theorem allAtoms_all (ts : List Jvm.Cond) (a : Array Jvm.Value) (st : Jvm.State) : (allAtoms ts).before a st = ts.all (fun c => c.before a st) := by
  induction ts with
  | nil => rfl
  | cons c t ih =>
    show (Jvm.Cond.and c (allAtoms t)).before a st = _
    rw [Jvm.Cond.before_and, ih, List.all_cons]
def words1 : List Jvm.Cond := Jvm.Cond.code x code maxLocals ret :: tables_1
/-- a 'code' word, met by the world's own term for the bytes: nothing is compared byte by byte -/
theorem code_word {y : MethodName} {bytes : ByteArray} {mx : Nat} {rt : Option FieldType} {a : Array Value} {s : State} {m : MethodId} {meth : Method} {c : Code} (h1 : s.methodNamed? y = some m) (h2 : s.vm.method? m = some meth) (h3 : meth.code = some c) (h4 : c.code = bytes)
    (h5 : (c.maxLocals == mx && c.exceptionTable.isEmpty && decide (c.maxStack ≤ mostOperands) && decide (meth.sig.returnType = rt) && !meth.locks && decide (parseMethodDescriptor y.desc = some meth.sig)) = true) : (Jvm.Cond.code y bytes mx rt).before a s = true := by
  simp only [Bool.and_eq_true, beq_iff_eq, Bool.not_eq_true', decide_eq_true_eq] at h5
  obtain ⟨⟨⟨⟨⟨g1, g2⟩, g3⟩, g4⟩, g5⟩, g6⟩ := h5
  simp [Cond.before, Cond.holds, Cond.value, h1, h2, h3, h4, g1, g2, g3, g4, g5, g6]
def isCode : Jvm.Cond → Bool
  | .code _ _ _ _ => true
  | _ => false
theorem all_split {L : List Jvm.Cond} {P : Jvm.Cond → Bool} (h1 : L.all (fun c => isCode c || P c) = true) (h2 : ∀ c ∈ L.filter isCode, P c = true) : L.all P = true := by
  refine List.all_eq_true.mpr fun c hc => ?_
  have h := List.all_eq_true.mp h1 c hc
  rcases Bool.eq_false_or_eq_true (isCode c) with hi | hi
  · exact h2 c (List.mem_filter.mpr ⟨hc, hi⟩)
  · simpa [hi] using h
set_option maxRecDepth 65536 in
theorem w_c0 : (Jvm.Cond.code x code maxLocals ret).before args0 about1 = true := code_word (m := ⟨1, 1⟩) (meth := k1m1) (c := k1c1) (by decide +kernel) rfl rfl rfl (by decide +kernel)
set_option maxRecDepth 65536 in
theorem w_c1 : (Jvm.Cond.code ({ cls := "com/example/keepwire/keepwire/ResponseHeadTrimSpacesPinLaw", name := "pick", desc := "(I)C" } : Jvm.MethodName) method_5_code (2 : Nat) (Option.some Jvm.ClassFile.FieldType.char)).before args0 about1 = true := code_word (m := ⟨1, 4⟩) (meth := k1m4) (c := k1c4) (by decide +kernel) rfl rfl rfl (by decide +kernel)
set_option maxRecDepth 65536 in
theorem w_c2 : (Jvm.Cond.code ({ cls := "com/example/keepwire/keepwire/ResponseHeadTrimSpacesPinLaw", name := "make", desc := "(I[C)Ljava/lang/String;" } : Jvm.MethodName) method_6_code (2 : Nat) (Option.some (Jvm.ClassFile.FieldType.object "java/lang/String"))).before args0 about1 = true := code_word (m := ⟨1, 5⟩) (meth := k1m5) (c := k1c5) (by decide +kernel) rfl rfl rfl (by decide +kernel)
set_option maxRecDepth 65536 in
theorem w_c3 : (Jvm.Cond.code ({ cls := "java/lang/String", name := "<init>", desc := "([C)V" } : Jvm.MethodName) jdk_42_method_3_code (2 : Nat) (Option.none : Option Jvm.ClassFile.FieldType)).before args0 about1 = true := code_word (m := ⟨7, 1⟩) (meth := k7m1) (c := k7c1) (by decide +kernel) rfl rfl rfl (by decide +kernel)
set_option maxRecDepth 65536 in
theorem w_c4 : (Jvm.Cond.code ({ cls := "java/lang/String", name := "<init>", desc := "([CIILjava/lang/Void;)V" } : Jvm.MethodName) jdk_42_method_149_code (6 : Nat) (Option.none : Option Jvm.ClassFile.FieldType)).before args0 about1 = true := code_word (m := ⟨7, 5⟩) (meth := k7m5) (c := k7c5) (by decide +kernel) rfl rfl rfl (by decide +kernel)
set_option maxRecDepth 65536 in
theorem w_c5 : (Jvm.Cond.code ({ cls := "java/lang/Object", name := "<init>", desc := "()V" } : Jvm.MethodName) object_method_1_code (1 : Nat) (Option.none : Option Jvm.ClassFile.FieldType)).before args0 about1 = true := code_word (m := ⟨0, 0⟩) (meth := k0m0) (c := k0c0) (by decide +kernel) rfl rfl rfl (by decide +kernel)
set_option maxRecDepth 65536 in
theorem w_c6 : (Jvm.Cond.code ({ cls := "com/example/keepwire/keepwire/ResponseHead", name := "trimSpaces", desc := "(Ljava/lang/String;)Ljava/lang/String;" } : Jvm.MethodName) prog_30_method_20_code (3 : Nat) (Option.some (Jvm.ClassFile.FieldType.object "java/lang/String"))).before args0 about1 = true := code_word (m := ⟨9, 1⟩) (meth := k9m1) (c := k9c1) (by decide +kernel) rfl rfl rfl (by decide +kernel)
set_option maxRecDepth 65536 in
theorem w_c7 : (Jvm.Cond.code ({ cls := "java/lang/String", name := "length", desc := "()I" } : Jvm.MethodName) jdk_42_method_54_code (1 : Nat) (Option.some Jvm.ClassFile.FieldType.int)).before args0 about1 = true := code_word (m := ⟨7, 2⟩) (meth := k7m2) (c := k7c2) (by decide +kernel) rfl rfl rfl (by decide +kernel)
set_option maxRecDepth 65536 in
theorem w_c8 : (Jvm.Cond.code ({ cls := "java/lang/String", name := "coder", desc := "()B" } : Jvm.MethodName) jdk_42_method_152_code (1 : Nat) (Option.some Jvm.ClassFile.FieldType.byte)).before args0 about1 = true := code_word (m := ⟨7, 7⟩) (meth := k7m7) (c := k7c7) (by decide +kernel) rfl rfl rfl (by decide +kernel)
set_option maxRecDepth 65536 in
theorem w_c9 : (Jvm.Cond.code ({ cls := "java/lang/String", name := "substring", desc := "(II)Ljava/lang/String;" } : Jvm.MethodName) jdk_42_method_92_code (5 : Nat) (Option.some (Jvm.ClassFile.FieldType.object "java/lang/String"))).before args0 about1 = true := code_word (m := ⟨7, 4⟩) (meth := k7m4) (c := k7c4) (by decide +kernel) rfl rfl rfl (by decide +kernel)
set_option maxRecDepth 65536 in
theorem w_c10 : (Jvm.Cond.code ({ cls := "java/lang/String", name := "checkBoundsBeginEnd", desc := "(III)V" } : Jvm.MethodName) jdk_42_method_158_code (3 : Nat) (Option.none : Option Jvm.ClassFile.FieldType)).before args0 about1 = true := code_word (m := ⟨7, 10⟩) (meth := k7m10) (c := k7c10) (by decide +kernel) rfl rfl rfl (by decide +kernel)
set_option maxRecDepth 65536 in
theorem w_c11 : (Jvm.Cond.code ({ cls := "jdk/internal/util/Preconditions", name := "checkFromToIndex", desc := "(IIILjava/util/function/BiFunction;)I" } : Jvm.MethodName) jdk_41_method_12_code (4 : Nat) (Option.some Jvm.ClassFile.FieldType.int)).before args0 about1 = true := code_word (m := ⟨10, 2⟩) (meth := k10m2) (c := k10c2) (by decide +kernel) rfl rfl rfl (by decide +kernel)
set_option maxRecDepth 65536 in
theorem w_c12 : (Jvm.Cond.code ({ cls := "com/example/keepwire/keepwire/ResponseHeadTrimSpacesPinLaw", name := "at", desc := "(Ljava/lang/String;[CIII)Z" } : Jvm.MethodName) method_3_code (5 : Nat) (Option.some Jvm.ClassFile.FieldType.boolean)).before args0 about1 = true := code_word (m := ⟨1, 2⟩) (meth := k1m2) (c := k1c2) (by decide +kernel) rfl rfl rfl (by decide +kernel)
set_option maxRecDepth 65536 in
theorem w_c13 : (Jvm.Cond.code ({ cls := "java/lang/StringUTF16", name := "compress", desc := "([CII)[B" } : Jvm.MethodName) jdk_52_method_16_code (6 : Nat) (Option.some (Jvm.ClassFile.FieldType.array Jvm.ClassFile.FieldType.byte))).before args0 about1 = true := code_word (m := ⟨11, 2⟩) (meth := k11m2) (c := k11c2) (by decide +kernel) rfl rfl rfl (by decide +kernel)
set_option maxRecDepth 65536 in
theorem w_c14 : (Jvm.Cond.code ({ cls := "java/lang/StringUTF16", name := "compress", desc := "([CI[BII)I" } : Jvm.MethodName) jdk_52_method_21_code (7 : Nat) (Option.some Jvm.ClassFile.FieldType.int)).before args0 about1 = true := code_word (m := ⟨11, 3⟩) (meth := k11m3) (c := k11c3) (by decide +kernel) rfl rfl rfl (by decide +kernel)
set_option maxRecDepth 65536 in
theorem w_c15 : (Jvm.Cond.code ({ cls := "java/lang/StringUTF16", name := "coderFromArrayLen", desc := "([BI)B" } : Jvm.MethodName) jdk_52_method_15_code (2 : Nat) (Option.some Jvm.ClassFile.FieldType.byte)).before args0 about1 = true := code_word (m := ⟨11, 1⟩) (meth := k11m1) (c := k11c1) (by decide +kernel) rfl rfl rfl (by decide +kernel)
set_option maxRecDepth 65536 in
theorem w_c16 : (Jvm.Cond.code ({ cls := "java/lang/String", name := "charAt", desc := "(I)C" } : Jvm.MethodName) jdk_42_method_56_code (2 : Nat) (Option.some Jvm.ClassFile.FieldType.char)).before args0 about1 = true := code_word (m := ⟨7, 3⟩) (meth := k7m3) (c := k7c3) (by decide +kernel) rfl rfl rfl (by decide +kernel)
set_option maxRecDepth 65536 in
theorem w_c17 : (Jvm.Cond.code ({ cls := "java/lang/String", name := "isLatin1", desc := "()Z" } : Jvm.MethodName) jdk_42_method_154_code (1 : Nat) (Option.some Jvm.ClassFile.FieldType.boolean)).before args0 about1 = true := code_word (m := ⟨7, 8⟩) (meth := k7m8) (c := k7c8) (by decide +kernel) rfl rfl rfl (by decide +kernel)
set_option maxRecDepth 65536 in
theorem w_c18 : (Jvm.Cond.code ({ cls := "java/lang/StringLatin1", name := "charAt", desc := "([BI)C" } : Jvm.MethodName) jdk_43_method_2_code (2 : Nat) (Option.some Jvm.ClassFile.FieldType.char)).before args0 about1 = true := code_word (m := ⟨12, 1⟩) (meth := k12m1) (c := k12c1) (by decide +kernel) rfl rfl rfl (by decide +kernel)
set_option maxRecDepth 65536 in
theorem w_c19 : (Jvm.Cond.code ({ cls := "java/lang/String", name := "checkIndex", desc := "(II)V" } : Jvm.MethodName) jdk_42_method_155_code (2 : Nat) (Option.none : Option Jvm.ClassFile.FieldType)).before args0 about1 = true := code_word (m := ⟨7, 9⟩) (meth := k7m9) (c := k7c9) (by decide +kernel) rfl rfl rfl (by decide +kernel)
set_option maxRecDepth 65536 in
theorem w_c20 : (Jvm.Cond.code ({ cls := "jdk/internal/util/Preconditions", name := "checkIndex", desc := "(IILjava/util/function/BiFunction;)I" } : Jvm.MethodName) jdk_41_method_11_code (3 : Nat) (Option.some Jvm.ClassFile.FieldType.int)).before args0 about1 = true := code_word (m := ⟨10, 1⟩) (meth := k10m1) (c := k10c1) (by decide +kernel) rfl rfl rfl (by decide +kernel)
set_option maxRecDepth 65536 in
theorem w_c21 : (Jvm.Cond.code ({ cls := "com/example/keepwire/keepwire/ResponseHead", name := "isSpace", desc := "(C)Z" } : Jvm.MethodName) prog_30_method_19_code (1 : Nat) (Option.some Jvm.ClassFile.FieldType.boolean)).before args0 about1 = true := code_word (m := ⟨9, 0⟩) (meth := k9m0) (c := k9c0) (by decide +kernel) rfl rfl rfl (by decide +kernel)
set_option maxRecDepth 65536 in
theorem w_c22 : (Jvm.Cond.code ({ cls := "java/lang/StringLatin1", name := "newString", desc := "([BII)Ljava/lang/String;" } : Jvm.MethodName) jdk_43_method_47_code (3 : Nat) (Option.some (Jvm.ClassFile.FieldType.object "java/lang/String"))).before args0 about1 = true := code_word (m := ⟨12, 2⟩) (meth := k12m2) (c := k12c2) (by decide +kernel) rfl rfl rfl (by decide +kernel)
set_option maxRecDepth 65536 in
theorem w_c23 : (Jvm.Cond.code ({ cls := "java/util/Arrays", name := "copyOfRange", desc := "([BII)[B" } : Jvm.MethodName) jdk_65_method_132_code (3 : Nat) (Option.some (Jvm.ClassFile.FieldType.array Jvm.ClassFile.FieldType.byte))).before args0 about1 = true := code_word (m := ⟨13, 2⟩) (meth := k13m2) (c := k13c2) (by decide +kernel) rfl rfl rfl (by decide +kernel)
set_option maxRecDepth 65536 in
theorem w_c24 : (Jvm.Cond.code ({ cls := "java/util/Arrays", name := "copyOfRangeByte", desc := "([BII)[B" } : Jvm.MethodName) jdk_65_method_133_code (5 : Nat) (Option.some (Jvm.ClassFile.FieldType.array Jvm.ClassFile.FieldType.byte))).before args0 about1 = true := code_word (m := ⟨13, 3⟩) (meth := k13m3) (c := k13c3) (by decide +kernel) rfl rfl rfl (by decide +kernel)
set_option maxRecDepth 65536 in
theorem w_c25 : (Jvm.Cond.code ({ cls := "java/util/Arrays", name := "checkLength", desc := "(II)V" } : Jvm.MethodName) jdk_65_method_131_code (2 : Nat) (Option.none : Option Jvm.ClassFile.FieldType)).before args0 about1 = true := code_word (m := ⟨13, 1⟩) (meth := k13m1) (c := k13c1) (by decide +kernel) rfl rfl rfl (by decide +kernel)
set_option maxRecDepth 65536 in
theorem w_c26 : (Jvm.Cond.code ({ cls := "java/lang/Math", name := "min", desc := "(II)I" } : Jvm.MethodName) jdk_29_method_69_code (2 : Nat) (Option.some Jvm.ClassFile.FieldType.int)).before args0 about1 = true := code_word (m := ⟨14, 1⟩) (meth := k14m1) (c := k14c1) (by decide +kernel) rfl rfl rfl (by decide +kernel)
set_option maxRecDepth 65536 in
theorem w_c27 : (Jvm.Cond.code ({ cls := "java/lang/String", name := "<init>", desc := "([BB)V" } : Jvm.MethodName) jdk_42_method_151_code (3 : Nat) (Option.none : Option Jvm.ClassFile.FieldType)).before args0 about1 = true := code_word (m := ⟨7, 6⟩) (meth := k7m6) (c := k7c6) (by decide +kernel) rfl rfl rfl (by decide +kernel)
set_option maxRecDepth 65536 in
theorem w_c28 : (Jvm.Cond.code ({ cls := "com/example/keepwire/keepwire/ResponseHeadTrimSpacesPinLaw", name := "sp", desc := "(C)Z" } : Jvm.MethodName) method_4_code (1 : Nat) (Option.some Jvm.ClassFile.FieldType.boolean)).before args0 about1 = true := code_word (m := ⟨1, 3⟩) (meth := k1m3) (c := k1c3) (by decide +kernel) rfl rfl rfl (by decide +kernel)
def codes1 : List Jvm.Cond := [Jvm.Cond.code x code maxLocals ret, Jvm.Cond.code ({ cls := "com/example/keepwire/keepwire/ResponseHeadTrimSpacesPinLaw", name := "pick", desc := "(I)C" } : Jvm.MethodName) method_5_code (2 : Nat) (Option.some Jvm.ClassFile.FieldType.char), Jvm.Cond.code ({ cls := "com/example/keepwire/keepwire/ResponseHeadTrimSpacesPinLaw", name := "make", desc := "(I[C)Ljava/lang/String;" } : Jvm.MethodName) method_6_code (2 : Nat) (Option.some (Jvm.ClassFile.FieldType.object "java/lang/String")), Jvm.Cond.code ({ cls := "java/lang/String", name := "<init>", desc := "([C)V" } : Jvm.MethodName) jdk_42_method_3_code (2 : Nat) (Option.none : Option Jvm.ClassFile.FieldType), Jvm.Cond.code ({ cls := "java/lang/String", name := "<init>", desc := "([CIILjava/lang/Void;)V" } : Jvm.MethodName) jdk_42_method_149_code (6 : Nat) (Option.none : Option Jvm.ClassFile.FieldType), Jvm.Cond.code ({ cls := "java/lang/Object", name := "<init>", desc := "()V" } : Jvm.MethodName) object_method_1_code (1 : Nat) (Option.none : Option Jvm.ClassFile.FieldType), Jvm.Cond.code ({ cls := "com/example/keepwire/keepwire/ResponseHead", name := "trimSpaces", desc := "(Ljava/lang/String;)Ljava/lang/String;" } : Jvm.MethodName) prog_30_method_20_code (3 : Nat) (Option.some (Jvm.ClassFile.FieldType.object "java/lang/String")), Jvm.Cond.code ({ cls := "java/lang/String", name := "length", desc := "()I" } : Jvm.MethodName) jdk_42_method_54_code (1 : Nat) (Option.some Jvm.ClassFile.FieldType.int), Jvm.Cond.code ({ cls := "java/lang/String", name := "coder", desc := "()B" } : Jvm.MethodName) jdk_42_method_152_code (1 : Nat) (Option.some Jvm.ClassFile.FieldType.byte), Jvm.Cond.code ({ cls := "java/lang/String", name := "substring", desc := "(II)Ljava/lang/String;" } : Jvm.MethodName) jdk_42_method_92_code (5 : Nat) (Option.some (Jvm.ClassFile.FieldType.object "java/lang/String")), Jvm.Cond.code ({ cls := "java/lang/String", name := "checkBoundsBeginEnd", desc := "(III)V" } : Jvm.MethodName) jdk_42_method_158_code (3 : Nat) (Option.none : Option Jvm.ClassFile.FieldType), Jvm.Cond.code ({ cls := "jdk/internal/util/Preconditions", name := "checkFromToIndex", desc := "(IIILjava/util/function/BiFunction;)I" } : Jvm.MethodName) jdk_41_method_12_code (4 : Nat) (Option.some Jvm.ClassFile.FieldType.int), Jvm.Cond.code ({ cls := "com/example/keepwire/keepwire/ResponseHeadTrimSpacesPinLaw", name := "at", desc := "(Ljava/lang/String;[CIII)Z" } : Jvm.MethodName) method_3_code (5 : Nat) (Option.some Jvm.ClassFile.FieldType.boolean), Jvm.Cond.code ({ cls := "java/lang/StringUTF16", name := "compress", desc := "([CII)[B" } : Jvm.MethodName) jdk_52_method_16_code (6 : Nat) (Option.some (Jvm.ClassFile.FieldType.array Jvm.ClassFile.FieldType.byte)), Jvm.Cond.code ({ cls := "java/lang/StringUTF16", name := "compress", desc := "([CI[BII)I" } : Jvm.MethodName) jdk_52_method_21_code (7 : Nat) (Option.some Jvm.ClassFile.FieldType.int), Jvm.Cond.code ({ cls := "java/lang/StringUTF16", name := "coderFromArrayLen", desc := "([BI)B" } : Jvm.MethodName) jdk_52_method_15_code (2 : Nat) (Option.some Jvm.ClassFile.FieldType.byte), Jvm.Cond.code ({ cls := "java/lang/String", name := "charAt", desc := "(I)C" } : Jvm.MethodName) jdk_42_method_56_code (2 : Nat) (Option.some Jvm.ClassFile.FieldType.char), Jvm.Cond.code ({ cls := "java/lang/String", name := "isLatin1", desc := "()Z" } : Jvm.MethodName) jdk_42_method_154_code (1 : Nat) (Option.some Jvm.ClassFile.FieldType.boolean), Jvm.Cond.code ({ cls := "java/lang/StringLatin1", name := "charAt", desc := "([BI)C" } : Jvm.MethodName) jdk_43_method_2_code (2 : Nat) (Option.some Jvm.ClassFile.FieldType.char), Jvm.Cond.code ({ cls := "java/lang/String", name := "checkIndex", desc := "(II)V" } : Jvm.MethodName) jdk_42_method_155_code (2 : Nat) (Option.none : Option Jvm.ClassFile.FieldType), Jvm.Cond.code ({ cls := "jdk/internal/util/Preconditions", name := "checkIndex", desc := "(IILjava/util/function/BiFunction;)I" } : Jvm.MethodName) jdk_41_method_11_code (3 : Nat) (Option.some Jvm.ClassFile.FieldType.int), Jvm.Cond.code ({ cls := "com/example/keepwire/keepwire/ResponseHead", name := "isSpace", desc := "(C)Z" } : Jvm.MethodName) prog_30_method_19_code (1 : Nat) (Option.some Jvm.ClassFile.FieldType.boolean), Jvm.Cond.code ({ cls := "java/lang/StringLatin1", name := "newString", desc := "([BII)Ljava/lang/String;" } : Jvm.MethodName) jdk_43_method_47_code (3 : Nat) (Option.some (Jvm.ClassFile.FieldType.object "java/lang/String")), Jvm.Cond.code ({ cls := "java/util/Arrays", name := "copyOfRange", desc := "([BII)[B" } : Jvm.MethodName) jdk_65_method_132_code (3 : Nat) (Option.some (Jvm.ClassFile.FieldType.array Jvm.ClassFile.FieldType.byte)), Jvm.Cond.code ({ cls := "java/util/Arrays", name := "copyOfRangeByte", desc := "([BII)[B" } : Jvm.MethodName) jdk_65_method_133_code (5 : Nat) (Option.some (Jvm.ClassFile.FieldType.array Jvm.ClassFile.FieldType.byte)), Jvm.Cond.code ({ cls := "java/util/Arrays", name := "checkLength", desc := "(II)V" } : Jvm.MethodName) jdk_65_method_131_code (2 : Nat) (Option.none : Option Jvm.ClassFile.FieldType), Jvm.Cond.code ({ cls := "java/lang/Math", name := "min", desc := "(II)I" } : Jvm.MethodName) jdk_29_method_69_code (2 : Nat) (Option.some Jvm.ClassFile.FieldType.int), Jvm.Cond.code ({ cls := "java/lang/String", name := "<init>", desc := "([BB)V" } : Jvm.MethodName) jdk_42_method_151_code (3 : Nat) (Option.none : Option Jvm.ClassFile.FieldType), Jvm.Cond.code ({ cls := "com/example/keepwire/keepwire/ResponseHeadTrimSpacesPinLaw", name := "sp", desc := "(C)Z" } : Jvm.MethodName) method_4_code (1 : Nat) (Option.some Jvm.ClassFile.FieldType.boolean)]
set_option maxRecDepth 65536 in
theorem codes_eq : words1.filter isCode = codes1 := rfl
theorem w_codes : ∀ c ∈ words1.filter isCode, c.before args0 about1 = true := by
  rw [codes_eq]
  intro c hc
  simp only [codes1, List.mem_cons, List.not_mem_nil, or_false] at hc
  rcases hc with rfl | rfl | rfl | rfl | rfl | rfl | rfl | rfl | rfl | rfl | rfl | rfl | rfl | rfl | rfl | rfl | rfl | rfl | rfl | rfl | rfl | rfl | rfl | rfl | rfl | rfl | rfl | rfl | rfl
  · exact w_c0
  · exact w_c1
  · exact w_c2
  · exact w_c3
  · exact w_c4
  · exact w_c5
  · exact w_c6
  · exact w_c7
  · exact w_c8
  · exact w_c9
  · exact w_c10
  · exact w_c11
  · exact w_c12
  · exact w_c13
  · exact w_c14
  · exact w_c15
  · exact w_c16
  · exact w_c17
  · exact w_c18
  · exact w_c19
  · exact w_c20
  · exact w_c21
  · exact w_c22
  · exact w_c23
  · exact w_c24
  · exact w_c25
  · exact w_c26
  · exact w_c27
  · exact w_c28
set_option maxRecDepth 65536 in
theorem w_t1 : (words1.take 24).all (fun c => isCode c || c.before args0 about1) = true := by decide +kernel
set_option maxRecDepth 65536 in
theorem w_t2 : ((words1.drop 24).take 24).all (fun c => isCode c || c.before args0 about1) = true := by decide +kernel
set_option maxRecDepth 65536 in
theorem w_t3 : (((words1.drop 24).drop 24).take 24).all (fun c => isCode c || c.before args0 about1) = true := by decide +kernel
set_option maxRecDepth 65536 in
theorem w_t4 : ((((words1.drop 24).drop 24).drop 24).take 24).all (fun c => isCode c || c.before args0 about1) = true := by decide +kernel
set_option maxRecDepth 65536 in
theorem w_t5 : (((((words1.drop 24).drop 24).drop 24).drop 24).take 24).all (fun c => isCode c || c.before args0 about1) = true := by decide +kernel
set_option maxRecDepth 65536 in
theorem w_t6 : (((((words1.drop 24).drop 24).drop 24).drop 24).drop 24).all (fun c => isCode c || c.before args0 about1) = true := by decide +kernel
theorem w_tables : (allAtoms (Jvm.Cond.code x code maxLocals ret :: tables_1)).before args0 about1 = true := by
  rw [allAtoms_all]
  show words1.all (fun c => c.before args0 about1) = true
  refine all_split ?_ w_codes
  rw [← List.take_append_drop 24 words1, List.all_append, w_t1, ← List.take_append_drop 24 (words1.drop 24), List.all_append, w_t2, ← List.take_append_drop 24 ((words1.drop 24).drop 24), List.all_append, w_t3, ← List.take_append_drop 24 (((words1.drop 24).drop 24).drop 24), List.all_append, w_t4, ← List.take_append_drop 24 ((((words1.drop 24).drop 24).drop 24).drop 24), List.all_append, w_t5, w_t6]
  rfl
set_option maxRecDepth 65536 in
theorem w_rest : rest_1_c.before args0 about1 = true := by decide +kernel
set_option maxRecDepth 65536 in
theorem w_case : (Jvm.Cond.and given_1 narrow_1).before args0 about1 = true := by decide +kernel
set_option maxRecDepth 65536 in
theorem w_consts : constsHeld consts_1 about1 := Jvm.Lit.constsHeldB_iff.mp (by decide +kernel)
theorem w_applies : (headSpec (Jvm.Cond.code x code maxLocals ret :: tables_1) room_1).applies x e0.platform about1 = true :=
  (Spec.applies_iff w_frames).mpr ⟨w_running, w_runnable, w_alone, w_named, w_hears, w_ripe, w_room, w_tables⟩
theorem atStart : AtStart classFile x code maxLocals ret World_1 tables_1 room_1 Calls_1 rest_1 Pre_1 launch0 p0 e0 about1 theMethod args0 below0 :=
  ⟨lists_1, trivial, launch0.admits_env _ _ _, launch0.least_env, fairChoices_fair.cas, fairChoices_fair.clock, w_frames, w_args, w_heap, w_applies, ⟨w_consts, trivial⟩, w_rest, w_case⟩
end start1
theorem witness_1 : WitnessClaimed_1 := ⟨start1.p0, start1.e0, start1.about1, start1.theMethod, start1.args0, start1.below0, start1.atStart⟩
end Jvm.Pilot.@@N@@
