import JvmDerived
import JvmDerived.Pilot.@@N@@Statement
import JvmDerived.Pilot.@@N@@Code
set_option linter.unusedVariables false
set_option linter.unusedSimpArgs false
namespace Jvm.RoadKit
open Sem ClassFile Op Lib Jvm.Stand Jvm.Free Jvm.LawKit
section New
variable {p : Program} {l : Launch} {e : Env} {R : Room} {s : State} {m : MethodId} {args : Array Value} {below : List Frame} {meth : Method} {c : Code} {T : State} {locs : List Loc} {cells slots : Nat}
theorem retI (X : Stand p l e R s m args below meth c T locs cells slots) (hx : p.tables.exec = Jvm.exec) {pc : Nat} {Ls : Array Slot} {z : Int32} {rest : List Value} (hret : meth.sig.returnType = some .int) (hd : decode c.code pc = .ok (.ireturn, 1)) {fs : List Frame}
    (hl : ∀ (f : JFrame) (acts : List Action), f.method = m → f.locked = none → f.entered = [] → (doReturn e (T.setTop f) acts (some (.int z))).1 = T.setFrames fs) : Steps p.tables e below (T.setTop (mkF m pc Ls (.int z :: rest))) (T.setFrames fs) := by
  have hm' : T.vm.method? m = some meth := X.method'
  have hn : narrow .int (.int z) = .int z := rfl
  show Steps p.tables e below (T.setTop { method := m, pc := pc, locals := Ls, stack := _ :: rest, locked := none }) _
  jvm_step X.here [X.here.top, hx, hd, hm', hret, hn]
  first | (intro acts; rw [hl _ acts rfl rfl rfl]) | rw [hl _ _ rfl rfl rfl]
  exact Steps.refl _
end New
end Jvm.RoadKit
namespace Jvm.Pilot.@@N@@
open Jvm Jvm.ClassFile Sem Op Lib Jvm.Free Jvm.Stand Jvm.LawKit Jvm.RoadKit Bundle Jvm.Pilot.@@N@@.Jvm.D
def Rch (tb : Tables) (e : Env) (below : List Frame) (P : State → Prop) (st : State) : Prop := ∃ t, Steps tb e below st t ∧ P t
theorem Rch.go {tb : Tables} {e : Env} {below : List Frame} {P : State → Prop} {st st' : State} (h : ∀ t, Steps tb e below st' t → Steps tb e below st t) (k : Rch tb e below P st') : Rch tb e below P st := by
  obtain ⟨t, h1, h2⟩ := k
  exact ⟨t, h t h1, h2⟩
theorem own_selP {Z s : State} {a0 args args' : Array Value} {y : MethodName} {n : Nat} (hZ : Z.Warmed39 s.vm) (wi : (Cond.instantiable y.cls n).before a0 Z = true) (wp : (Cond.privateMethod y).before a0 Z = true) (wm : (Cond.instanceMethod y).before a0 Z = true) (hy : y.cls ≠ "java/lang/invoke/MethodHandle" ∧ y.cls ≠ "java/lang/invoke/VarHandle") : (Cond.selects y.cls y y).before args' s = true := by
  obtain ⟨c, k, h1, h2, -, h3, -⟩ := Cond.instantiable_spec (show (Cond.instantiable y.cls n).before args' s = true from mvT hZ wi)
  exact Jvm.Stand.selects_self_of_private h1 h2 (by simp only [Bool.or_eq_false_iff] at h3; exact h3.1) (Cond.privateMethod_at (mvP (args := args') hZ wp)) (mvT hZ wm) hy
theorem Rch.mk {tb : Tables} {e : Env} {below : List Frame} {P : State → Prop} {st t : State} (h : Steps tb e below st t) (k : P t) : Rch tb e below P st := ⟨t, h, k⟩
theorem ow0 {a0 : Array Value} {Z : State} (hw : ∀ d ∈ tables_1, d.before a0 Z = true) : (Jvm.Cond.constant "com/example/mark_time/marktime/io/JsonCursorEndPinLaw" (7 : Nat) (2147483647 : Int32)).before a0 Z = true := hw _ (List.mem_of_getElem? (i := 0) rfl)
theorem ow1 {a0 : Array Value} {Z : State} (hw : ∀ d ∈ tables_1, d.before a0 Z = true) : (Jvm.Cond.arrayClass Jvm.ClassFile.FieldType.byte).before a0 Z = true := hw _ (List.mem_of_getElem? (i := 1) rfl)
theorem ow2 {a0 : Array Value} {Z : State} (hw : ∀ d ∈ tables_1, d.before a0 Z = true) : (Jvm.Cond.methodLink "com/example/mark_time/marktime/io/JsonCursorEndPinLaw" (8 : Nat) ({ cls := "com/example/mark_time/marktime/io/JsonCursorEndPinLaw", name := "at", desc := "(IIJJ)B" } : Jvm.MethodName)).before a0 Z = true := hw _ (List.mem_of_getElem? (i := 2) rfl)
theorem ow3 {a0 : Array Value} {Z : State} (hw : ∀ d ∈ tables_1, d.before a0 Z = true) : (Jvm.Cond.static ({ cls := "com/example/mark_time/marktime/io/JsonCursorEndPinLaw", name := "at", desc := "(IIJJ)B" } : Jvm.MethodName)).before a0 Z = true := hw _ (List.mem_of_getElem? (i := 3) rfl)
theorem ow4 {a0 : Array Value} {Z : State} (hw : ∀ d ∈ tables_1, d.before a0 Z = true) : (Jvm.Cond.initialized "com/example/mark_time/marktime/io/JsonCursorEndPinLaw").before a0 Z = true := hw _ (List.mem_of_getElem? (i := 4) rfl)
theorem ow5 {a0 : Array Value} {Z : State} (hw : ∀ d ∈ tables_1, d.before a0 Z = true) : (Jvm.Cond.code ({ cls := "com/example/mark_time/marktime/io/JsonCursorEndPinLaw", name := "at", desc := "(IIJJ)B" } : Jvm.MethodName) method_3_code (6 : Nat) (Option.some Jvm.ClassFile.FieldType.byte)).before a0 Z = true := hw _ (List.mem_of_getElem? (i := 5) rfl)
theorem ow6 {a0 : Array Value} {Z : State} (hw : ∀ d ∈ tables_1, d.before a0 Z = true) : (Jvm.Cond.constantLong "com/example/mark_time/marktime/io/JsonCursorEndPinLaw" (38 : Nat) (3 : Int64)).before a0 Z = true := hw _ (List.mem_of_getElem? (i := 6) rfl)
theorem ow7 {a0 : Array Value} {Z : State} (hw : ∀ d ∈ tables_1, d.before a0 Z = true) : (Jvm.Cond.methodLink "com/example/mark_time/marktime/io/JsonCursorEndPinLaw" (40 : Nat) ({ cls := "com/example/mark_time/marktime/io/JsonCursorEndPinLaw", name := "space", desc := "(I)B" } : Jvm.MethodName)).before a0 Z = true := hw _ (List.mem_of_getElem? (i := 7) rfl)
theorem ow8 {a0 : Array Value} {Z : State} (hw : ∀ d ∈ tables_1, d.before a0 Z = true) : (Jvm.Cond.static ({ cls := "com/example/mark_time/marktime/io/JsonCursorEndPinLaw", name := "space", desc := "(I)B" } : Jvm.MethodName)).before a0 Z = true := hw _ (List.mem_of_getElem? (i := 8) rfl)
theorem ow9 {a0 : Array Value} {Z : State} (hw : ∀ d ∈ tables_1, d.before a0 Z = true) : (Jvm.Cond.code ({ cls := "com/example/mark_time/marktime/io/JsonCursorEndPinLaw", name := "space", desc := "(I)B" } : Jvm.MethodName) method_4_code (1 : Nat) (Option.some Jvm.ClassFile.FieldType.byte)).before a0 Z = true := hw _ (List.mem_of_getElem? (i := 9) rfl)
theorem ow10 {a0 : Array Value} {Z : State} (hw : ∀ d ∈ tables_1, d.before a0 Z = true) : (Jvm.Cond.classLink "com/example/mark_time/marktime/io/JsonCursorEndPinLaw" (14 : Nat) "com/example/mark_time/marktime/io/JsonCursor").before a0 Z = true := hw _ (List.mem_of_getElem? (i := 10) rfl)
theorem ow11 {a0 : Array Value} {Z : State} (hw : ∀ d ∈ tables_1, d.before a0 Z = true) : (Jvm.Cond.instantiable "com/example/mark_time/marktime/io/JsonCursor" (2 : Nat)).before a0 Z = true := hw _ (List.mem_of_getElem? (i := 11) rfl)
theorem ow12 {a0 : Array Value} {Z : State} (hw : ∀ d ∈ tables_1, d.before a0 Z = true) : (Jvm.Cond.initialized "com/example/mark_time/marktime/io/JsonCursor").before a0 Z = true := hw _ (List.mem_of_getElem? (i := 12) rfl)
theorem ow13 {a0 : Array Value} {Z : State} (hw : ∀ d ∈ tables_1, d.before a0 Z = true) : (Jvm.Cond.methodLink "com/example/mark_time/marktime/io/JsonCursorEndPinLaw" (16 : Nat) ({ cls := "com/example/mark_time/marktime/io/JsonCursor", name := "<init>", desc := "([B)V" } : Jvm.MethodName)).before a0 Z = true := hw _ (List.mem_of_getElem? (i := 13) rfl)
theorem ow14 {a0 : Array Value} {Z : State} (hw : ∀ d ∈ tables_1, d.before a0 Z = true) : (Jvm.Cond.instanceMethod ({ cls := "com/example/mark_time/marktime/io/JsonCursor", name := "<init>", desc := "([B)V" } : Jvm.MethodName)).before a0 Z = true := hw _ (List.mem_of_getElem? (i := 14) rfl)
theorem ow15 {a0 : Array Value} {Z : State} (hw : ∀ d ∈ tables_1, d.before a0 Z = true) : (Jvm.Cond.code ({ cls := "com/example/mark_time/marktime/io/JsonCursor", name := "<init>", desc := "([B)V" } : Jvm.MethodName) prog_14_method_1_code (2 : Nat) (Option.none : Option Jvm.ClassFile.FieldType)).before a0 Z = true := hw _ (List.mem_of_getElem? (i := 15) rfl)
theorem ow16 {a0 : Array Value} {Z : State} (hw : ∀ d ∈ tables_1, d.before a0 Z = true) : (Jvm.Cond.methodLink "com/example/mark_time/marktime/io/JsonCursor" (1 : Nat) ({ cls := "java/lang/Object", name := "<init>", desc := "()V" } : Jvm.MethodName)).before a0 Z = true := hw _ (List.mem_of_getElem? (i := 16) rfl)
theorem ow17 {a0 : Array Value} {Z : State} (hw : ∀ d ∈ tables_1, d.before a0 Z = true) : (Jvm.Cond.instanceMethod ({ cls := "java/lang/Object", name := "<init>", desc := "()V" } : Jvm.MethodName)).before a0 Z = true := hw _ (List.mem_of_getElem? (i := 17) rfl)
theorem ow18 {a0 : Array Value} {Z : State} (hw : ∀ d ∈ tables_1, d.before a0 Z = true) : (Jvm.Cond.code ({ cls := "java/lang/Object", name := "<init>", desc := "()V" } : Jvm.MethodName) object_method_1_code (1 : Nat) (Option.none : Option Jvm.ClassFile.FieldType)).before a0 Z = true := hw _ (List.mem_of_getElem? (i := 18) rfl)
theorem ow19 {a0 : Array Value} {Z : State} (hw : ∀ d ∈ tables_1, d.before a0 Z = true) : (Jvm.Cond.fieldLink "com/example/mark_time/marktime/io/JsonCursor" (7 : Nat) "com/example/mark_time/marktime/io/JsonCursor" "text" "[B").before a0 Z = true := hw _ (List.mem_of_getElem? (i := 19) rfl)
theorem ow20 {a0 : Array Value} {Z : State} (hw : ∀ d ∈ tables_1, d.before a0 Z = true) : (Jvm.Cond.laysFinal "com/example/mark_time/marktime/io/JsonCursor" "com/example/mark_time/marktime/io/JsonCursor" "text" "[B").before a0 Z = true := hw _ (List.mem_of_getElem? (i := 20) rfl)
theorem ow21 {a0 : Array Value} {Z : State} (hw : ∀ d ∈ tables_1, d.before a0 Z = true) : (Jvm.Cond.methodLink "com/example/mark_time/marktime/io/JsonCursorEndPinLaw" (29 : Nat) ({ cls := "com/example/mark_time/marktime/io/JsonCursor", name := "end", desc := "()V" } : Jvm.MethodName)).before a0 Z = true := hw _ (List.mem_of_getElem? (i := 21) rfl)
theorem ow22 {a0 : Array Value} {Z : State} (hw : ∀ d ∈ tables_1, d.before a0 Z = true) : (Jvm.Cond.declares ({ cls := "com/example/mark_time/marktime/io/JsonCursor", name := "end", desc := "()V" } : Jvm.MethodName)).before a0 Z = true := hw _ (List.mem_of_getElem? (i := 22) rfl)
theorem ow23 {a0 : Array Value} {Z : State} (hw : ∀ d ∈ tables_1, d.before a0 Z = true) : (Jvm.Cond.instanceMethod ({ cls := "com/example/mark_time/marktime/io/JsonCursor", name := "end", desc := "()V" } : Jvm.MethodName)).before a0 Z = true := hw _ (List.mem_of_getElem? (i := 23) rfl)
theorem ow24 {a0 : Array Value} {Z : State} (hw : ∀ d ∈ tables_1, d.before a0 Z = true) : (Jvm.Cond.selects "com/example/mark_time/marktime/io/JsonCursor" ({ cls := "com/example/mark_time/marktime/io/JsonCursor", name := "end", desc := "()V" } : Jvm.MethodName) ({ cls := "com/example/mark_time/marktime/io/JsonCursor", name := "end", desc := "()V" } : Jvm.MethodName)).before a0 Z = true := hw _ (List.mem_of_getElem? (i := 24) rfl)
theorem ow25 {a0 : Array Value} {Z : State} (hw : ∀ d ∈ tables_1, d.before a0 Z = true) : (Jvm.Cond.code ({ cls := "com/example/mark_time/marktime/io/JsonCursor", name := "end", desc := "()V" } : Jvm.MethodName) prog_14_method_12_code (1 : Nat) (Option.none : Option Jvm.ClassFile.FieldType)).before a0 Z = true := hw _ (List.mem_of_getElem? (i := 25) rfl)
theorem ow26 {a0 : Array Value} {Z : State} (hw : ∀ d ∈ tables_1, d.before a0 Z = true) : (Jvm.Cond.methodLink "com/example/mark_time/marktime/io/JsonCursor" (13 : Nat) ({ cls := "com/example/mark_time/marktime/io/JsonCursor", name := "skipWhitespace", desc := "()V" } : Jvm.MethodName)).before a0 Z = true := hw _ (List.mem_of_getElem? (i := 26) rfl)
theorem ow27 {a0 : Array Value} {Z : State} (hw : ∀ d ∈ tables_1, d.before a0 Z = true) : (Jvm.Cond.instanceMethod ({ cls := "com/example/mark_time/marktime/io/JsonCursor", name := "skipWhitespace", desc := "()V" } : Jvm.MethodName)).before a0 Z = true := hw _ (List.mem_of_getElem? (i := 27) rfl)
theorem ow28 {a0 : Array Value} {Z : State} (hw : ∀ d ∈ tables_1, d.before a0 Z = true) : (Jvm.Cond.privateMethod ({ cls := "com/example/mark_time/marktime/io/JsonCursor", name := "skipWhitespace", desc := "()V" } : Jvm.MethodName)).before a0 Z = true := hw _ (List.mem_of_getElem? (i := 28) rfl)
theorem ow29 {a0 : Array Value} {Z : State} (hw : ∀ d ∈ tables_1, d.before a0 Z = true) : (Jvm.Cond.code ({ cls := "com/example/mark_time/marktime/io/JsonCursor", name := "skipWhitespace", desc := "()V" } : Jvm.MethodName) prog_14_method_26_code (1 : Nat) (Option.none : Option Jvm.ClassFile.FieldType)).before a0 Z = true := hw _ (List.mem_of_getElem? (i := 29) rfl)
theorem ow30 {a0 : Array Value} {Z : State} (hw : ∀ d ∈ tables_1, d.before a0 Z = true) : (Jvm.Cond.fieldLink "com/example/mark_time/marktime/io/JsonCursor" (16 : Nat) "com/example/mark_time/marktime/io/JsonCursor" "at" "I").before a0 Z = true := hw _ (List.mem_of_getElem? (i := 30) rfl)
theorem ow31 {a0 : Array Value} {Z : State} (hw : ∀ d ∈ tables_1, d.before a0 Z = true) : (Jvm.Cond.lays "com/example/mark_time/marktime/io/JsonCursor" "com/example/mark_time/marktime/io/JsonCursor" "at" "I").before a0 Z = true := hw _ (List.mem_of_getElem? (i := 31) rfl)
theorem ow32 {a0 : Array Value} {Z : State} (hw : ∀ d ∈ tables_1, d.before a0 Z = true) : (Jvm.Cond.methodLink "com/example/mark_time/marktime/io/JsonCursor" (218 : Nat) ({ cls := "com/example/mark_time/marktime/io/JsonCursor", name := "isWhitespace", desc := "(B)Z" } : Jvm.MethodName)).before a0 Z = true := hw _ (List.mem_of_getElem? (i := 32) rfl)
theorem ow33 {a0 : Array Value} {Z : State} (hw : ∀ d ∈ tables_1, d.before a0 Z = true) : (Jvm.Cond.static ({ cls := "com/example/mark_time/marktime/io/JsonCursor", name := "isWhitespace", desc := "(B)Z" } : Jvm.MethodName)).before a0 Z = true := hw _ (List.mem_of_getElem? (i := 33) rfl)
theorem ow34 {a0 : Array Value} {Z : State} (hw : ∀ d ∈ tables_1, d.before a0 Z = true) : (Jvm.Cond.code ({ cls := "com/example/mark_time/marktime/io/JsonCursor", name := "isWhitespace", desc := "(B)Z" } : Jvm.MethodName) prog_14_method_28_code (1 : Nat) (Option.some Jvm.ClassFile.FieldType.boolean)).before a0 Z = true := hw _ (List.mem_of_getElem? (i := 34) rfl)
theorem ow35 {a0 : Array Value} {Z : State} (hw : ∀ d ∈ tables_1, d.before a0 Z = true) : (Jvm.Cond.constantLong "com/example/mark_time/marktime/io/JsonCursorEndPinLaw" (32 : Nat) (15 : Int64)).before a0 Z = true := hw _ (List.mem_of_getElem? (i := 35) rfl)
theorem ow36 {a0 : Array Value} {Z : State} (hw : ∀ d ∈ tables_1, d.before a0 Z = true) : (Jvm.Cond.constantLong "com/example/mark_time/marktime/io/JsonCursorEndPinLaw" (34 : Nat) (9 : Int64)).before a0 Z = true := hw _ (List.mem_of_getElem? (i := 36) rfl)
theorem ow37 {a0 : Array Value} {Z : State} (hw : ∀ d ∈ tables_1, d.before a0 Z = true) : (Jvm.Cond.constantLong "com/example/mark_time/marktime/io/JsonCursorEndPinLaw" (36 : Nat) (10 : Int64)).before a0 Z = true := hw _ (List.mem_of_getElem? (i := 37) rfl)
theorem ow38 {a0 : Array Value} {Z : State} (hw : ∀ d ∈ tables_1, d.before a0 Z = true) : (Jvm.Cond.methodLink "com/example/mark_time/marktime/io/JsonCursorEndPinLaw" (19 : Nat) ({ cls := "com/example/mark_time/marktime/io/JsonCursor", name := "nextNumber", desc := "()Ljava/lang/String;" } : Jvm.MethodName)).before a0 Z = true := hw _ (List.mem_of_getElem? (i := 38) rfl)
theorem ow39 {a0 : Array Value} {Z : State} (hw : ∀ d ∈ tables_1, d.before a0 Z = true) : (Jvm.Cond.declares ({ cls := "com/example/mark_time/marktime/io/JsonCursor", name := "nextNumber", desc := "()Ljava/lang/String;" } : Jvm.MethodName)).before a0 Z = true := hw _ (List.mem_of_getElem? (i := 39) rfl)
theorem ow40 {a0 : Array Value} {Z : State} (hw : ∀ d ∈ tables_1, d.before a0 Z = true) : (Jvm.Cond.instanceMethod ({ cls := "com/example/mark_time/marktime/io/JsonCursor", name := "nextNumber", desc := "()Ljava/lang/String;" } : Jvm.MethodName)).before a0 Z = true := hw _ (List.mem_of_getElem? (i := 40) rfl)
theorem ow41 {a0 : Array Value} {Z : State} (hw : ∀ d ∈ tables_1, d.before a0 Z = true) : (Jvm.Cond.selects "com/example/mark_time/marktime/io/JsonCursor" ({ cls := "com/example/mark_time/marktime/io/JsonCursor", name := "nextNumber", desc := "()Ljava/lang/String;" } : Jvm.MethodName) ({ cls := "com/example/mark_time/marktime/io/JsonCursor", name := "nextNumber", desc := "()Ljava/lang/String;" } : Jvm.MethodName)).before a0 Z = true := hw _ (List.mem_of_getElem? (i := 41) rfl)
theorem ow42 {a0 : Array Value} {Z : State} (hw : ∀ d ∈ tables_1, d.before a0 Z = true) : (Jvm.Cond.code ({ cls := "com/example/mark_time/marktime/io/JsonCursor", name := "nextNumber", desc := "()Ljava/lang/String;" } : Jvm.MethodName) prog_14_method_9_code (2 : Nat) (Option.some (Jvm.ClassFile.FieldType.object "java/lang/String"))).before a0 Z = true := hw _ (List.mem_of_getElem? (i := 42) rfl)
theorem ow43 {a0 : Array Value} {Z : State} (hw : ∀ d ∈ tables_1, d.before a0 Z = true) : (Jvm.Cond.methodLink "com/example/mark_time/marktime/io/JsonCursor" (100 : Nat) ({ cls := "com/example/mark_time/marktime/io/JsonCursor", name := "consume", desc := "(CZ)Z" } : Jvm.MethodName)).before a0 Z = true := hw _ (List.mem_of_getElem? (i := 43) rfl)
theorem ow44 {a0 : Array Value} {Z : State} (hw : ∀ d ∈ tables_1, d.before a0 Z = true) : (Jvm.Cond.instanceMethod ({ cls := "com/example/mark_time/marktime/io/JsonCursor", name := "consume", desc := "(CZ)Z" } : Jvm.MethodName)).before a0 Z = true := hw _ (List.mem_of_getElem? (i := 44) rfl)
theorem ow45 {a0 : Array Value} {Z : State} (hw : ∀ d ∈ tables_1, d.before a0 Z = true) : (Jvm.Cond.privateMethod ({ cls := "com/example/mark_time/marktime/io/JsonCursor", name := "consume", desc := "(CZ)Z" } : Jvm.MethodName)).before a0 Z = true := hw _ (List.mem_of_getElem? (i := 45) rfl)
theorem ow46 {a0 : Array Value} {Z : State} (hw : ∀ d ∈ tables_1, d.before a0 Z = true) : (Jvm.Cond.code ({ cls := "com/example/mark_time/marktime/io/JsonCursor", name := "consume", desc := "(CZ)Z" } : Jvm.MethodName) prog_14_method_25_code (4 : Nat) (Option.some Jvm.ClassFile.FieldType.boolean)).before a0 Z = true := hw _ (List.mem_of_getElem? (i := 46) rfl)
theorem ow47 {a0 : Array Value} {Z : State} (hw : ∀ d ∈ tables_1, d.before a0 Z = true) : (Jvm.Cond.methodLink "com/example/mark_time/marktime/io/JsonCursor" (103 : Nat) ({ cls := "com/example/mark_time/marktime/io/JsonCursor", name := "digits", desc := "()V" } : Jvm.MethodName)).before a0 Z = true := hw _ (List.mem_of_getElem? (i := 47) rfl)
theorem ow48 {a0 : Array Value} {Z : State} (hw : ∀ d ∈ tables_1, d.before a0 Z = true) : (Jvm.Cond.instanceMethod ({ cls := "com/example/mark_time/marktime/io/JsonCursor", name := "digits", desc := "()V" } : Jvm.MethodName)).before a0 Z = true := hw _ (List.mem_of_getElem? (i := 48) rfl)
theorem ow49 {a0 : Array Value} {Z : State} (hw : ∀ d ∈ tables_1, d.before a0 Z = true) : (Jvm.Cond.privateMethod ({ cls := "com/example/mark_time/marktime/io/JsonCursor", name := "digits", desc := "()V" } : Jvm.MethodName)).before a0 Z = true := hw _ (List.mem_of_getElem? (i := 49) rfl)
theorem ow50 {a0 : Array Value} {Z : State} (hw : ∀ d ∈ tables_1, d.before a0 Z = true) : (Jvm.Cond.code ({ cls := "com/example/mark_time/marktime/io/JsonCursor", name := "digits", desc := "()V" } : Jvm.MethodName) prog_14_method_22_code (2 : Nat) (Option.none : Option Jvm.ClassFile.FieldType)).before a0 Z = true := hw _ (List.mem_of_getElem? (i := 50) rfl)
theorem ow51 {a0 : Array Value} {Z : State} (hw : ∀ d ∈ tables_1, d.before a0 Z = true) : (Jvm.Cond.methodLink "com/example/mark_time/marktime/io/JsonCursor" (117 : Nat) ({ cls := "com/example/mark_time/marktime/io/JsonCursor", name := "isDigit", desc := "(B)Z" } : Jvm.MethodName)).before a0 Z = true := hw _ (List.mem_of_getElem? (i := 51) rfl)
theorem ow52 {a0 : Array Value} {Z : State} (hw : ∀ d ∈ tables_1, d.before a0 Z = true) : (Jvm.Cond.static ({ cls := "com/example/mark_time/marktime/io/JsonCursor", name := "isDigit", desc := "(B)Z" } : Jvm.MethodName)).before a0 Z = true := hw _ (List.mem_of_getElem? (i := 52) rfl)
theorem ow53 {a0 : Array Value} {Z : State} (hw : ∀ d ∈ tables_1, d.before a0 Z = true) : (Jvm.Cond.code ({ cls := "com/example/mark_time/marktime/io/JsonCursor", name := "isDigit", desc := "(B)Z" } : Jvm.MethodName) prog_14_method_27_code (1 : Nat) (Option.some Jvm.ClassFile.FieldType.boolean)).before a0 Z = true := hw _ (List.mem_of_getElem? (i := 53) rfl)
theorem ow54 {a0 : Array Value} {Z : State} (hw : ∀ d ∈ tables_1, d.before a0 Z = true) : (Jvm.Cond.classLink "com/example/mark_time/marktime/io/JsonCursor" (106 : Nat) "java/lang/String").before a0 Z = true := hw _ (List.mem_of_getElem? (i := 54) rfl)
theorem ow55 {a0 : Array Value} {Z : State} (hw : ∀ d ∈ tables_1, d.before a0 Z = true) : (Jvm.Cond.instantiable "java/lang/String" (4 : Nat)).before a0 Z = true := hw _ (List.mem_of_getElem? (i := 55) rfl)
theorem ow56 {a0 : Array Value} {Z : State} (hw : ∀ d ∈ tables_1, d.before a0 Z = true) : (Jvm.Cond.initialized "java/lang/String").before a0 Z = true := hw _ (List.mem_of_getElem? (i := 56) rfl)
theorem ow57 {a0 : Array Value} {Z : State} (hw : ∀ d ∈ tables_1, d.before a0 Z = true) : (Jvm.Cond.fieldLink "com/example/mark_time/marktime/io/JsonCursor" (108 : Nat) "java/nio/charset/StandardCharsets" "US_ASCII" "Ljava/nio/charset/Charset;").before a0 Z = true := hw _ (List.mem_of_getElem? (i := 57) rfl)
theorem ow59 {a0 : Array Value} {Z : State} (hw : ∀ d ∈ tables_1, d.before a0 Z = true) : (Jvm.Cond.methodLink "com/example/mark_time/marktime/io/JsonCursor" (114 : Nat) ({ cls := "java/lang/String", name := "<init>", desc := "([BIILjava/nio/charset/Charset;)V" } : Jvm.MethodName)).before a0 Z = true := hw _ (List.mem_of_getElem? (i := 59) rfl)
theorem ow60 {a0 : Array Value} {Z : State} (hw : ∀ d ∈ tables_1, d.before a0 Z = true) : (Jvm.Cond.instanceMethod ({ cls := "java/lang/String", name := "<init>", desc := "([BIILjava/nio/charset/Charset;)V" } : Jvm.MethodName)).before a0 Z = true := hw _ (List.mem_of_getElem? (i := 60) rfl)
theorem ow61 {a0 : Array Value} {Z : State} (hw : ∀ d ∈ tables_1, d.before a0 Z = true) : (Jvm.Cond.code ({ cls := "java/lang/String", name := "<init>", desc := "([BIILjava/nio/charset/Charset;)V" } : Jvm.MethodName) jdk_42_method_10_code (5 : Nat) (Option.none : Option Jvm.ClassFile.FieldType)).before a0 Z = true := hw _ (List.mem_of_getElem? (i := 61) rfl)
theorem ow62 {a0 : Array Value} {Z : State} (hw : ∀ d ∈ tables_1, d.before a0 Z = true) : (Jvm.Cond.methodLink "java/lang/String" (78 : Nat) ({ cls := "java/util/Objects", name := "requireNonNull", desc := "(Ljava/lang/Object;)Ljava/lang/Object;" } : Jvm.MethodName)).before a0 Z = true := hw _ (List.mem_of_getElem? (i := 62) rfl)
theorem ow63 {a0 : Array Value} {Z : State} (hw : ∀ d ∈ tables_1, d.before a0 Z = true) : (Jvm.Cond.static ({ cls := "java/util/Objects", name := "requireNonNull", desc := "(Ljava/lang/Object;)Ljava/lang/Object;" } : Jvm.MethodName)).before a0 Z = true := hw _ (List.mem_of_getElem? (i := 63) rfl)
theorem ow64 {a0 : Array Value} {Z : State} (hw : ∀ d ∈ tables_1, d.before a0 Z = true) : (Jvm.Cond.initialized "java/util/Objects").before a0 Z = true := hw _ (List.mem_of_getElem? (i := 64) rfl)
theorem ow65 {a0 : Array Value} {Z : State} (hw : ∀ d ∈ tables_1, d.before a0 Z = true) : (Jvm.Cond.code ({ cls := "java/util/Objects", name := "requireNonNull", desc := "(Ljava/lang/Object;)Ljava/lang/Object;" } : Jvm.MethodName) jdk_31_method_10_code (1 : Nat) (Option.some (Jvm.ClassFile.FieldType.object "java/lang/Object"))).before a0 Z = true := hw _ (List.mem_of_getElem? (i := 65) rfl)
theorem ow66 {a0 : Array Value} {Z : State} (hw : ∀ d ∈ tables_1, d.before a0 Z = true) : (Jvm.Cond.classLink "java/lang/String" (84 : Nat) "java/nio/charset/Charset").before a0 Z = true := hw _ (List.mem_of_getElem? (i := 66) rfl)
theorem ow67 {a0 : Array Value} {Z : State} (hw : ∀ d ∈ tables_1, d.before a0 Z = true) : (Jvm.Cond.castable "sun/nio/cs/US_ASCII" "java/nio/charset/Charset").before a0 Z = true := hw _ (List.mem_of_getElem? (i := 67) rfl)
theorem ow68 {a0 : Array Value} {Z : State} (hw : ∀ d ∈ tables_1, d.before a0 Z = true) : (Jvm.Cond.methodLink "java/lang/String" (34 : Nat) ({ cls := "java/lang/String", name := "checkBoundsOffCount", desc := "(III)I" } : Jvm.MethodName)).before a0 Z = true := hw _ (List.mem_of_getElem? (i := 68) rfl)
theorem ow69 {a0 : Array Value} {Z : State} (hw : ∀ d ∈ tables_1, d.before a0 Z = true) : (Jvm.Cond.static ({ cls := "java/lang/String", name := "checkBoundsOffCount", desc := "(III)I" } : Jvm.MethodName)).before a0 Z = true := hw _ (List.mem_of_getElem? (i := 69) rfl)
theorem ow70 {a0 : Array Value} {Z : State} (hw : ∀ d ∈ tables_1, d.before a0 Z = true) : (Jvm.Cond.code ({ cls := "java/lang/String", name := "checkBoundsOffCount", desc := "(III)I" } : Jvm.MethodName) jdk_42_method_157_code (3 : Nat) (Option.some Jvm.ClassFile.FieldType.int)).before a0 Z = true := hw _ (List.mem_of_getElem? (i := 70) rfl)
theorem ow71 {a0 : Array Value} {Z : State} (hw : ∀ d ∈ tables_1, d.before a0 Z = true) : (Jvm.Cond.fieldLink "java/lang/String" (1053 : Nat) "jdk/internal/util/Preconditions" "SIOOBE_FORMATTER" "Ljava/util/function/BiFunction;").before a0 Z = true := hw _ (List.mem_of_getElem? (i := 71) rfl)
theorem ow72 {a0 : Array Value} {Z : State} (hw : ∀ d ∈ tables_1, d.before a0 Z = true) : (Jvm.Cond.initialized "jdk/internal/util/Preconditions").before a0 Z = true := hw _ (List.mem_of_getElem? (i := 72) rfl)
theorem ow73 {a0 : Array Value} {Z : State} (hw : ∀ d ∈ tables_1, d.before a0 Z = true) : (Jvm.Cond.methodLink "java/lang/String" (1065 : Nat) ({ cls := "jdk/internal/util/Preconditions", name := "checkFromIndexSize", desc := "(IIILjava/util/function/BiFunction;)I" } : Jvm.MethodName)).before a0 Z = true := hw _ (List.mem_of_getElem? (i := 73) rfl)
theorem ow74 {a0 : Array Value} {Z : State} (hw : ∀ d ∈ tables_1, d.before a0 Z = true) : (Jvm.Cond.static ({ cls := "jdk/internal/util/Preconditions", name := "checkFromIndexSize", desc := "(IIILjava/util/function/BiFunction;)I" } : Jvm.MethodName)).before a0 Z = true := hw _ (List.mem_of_getElem? (i := 74) rfl)
theorem ow75 {a0 : Array Value} {Z : State} (hw : ∀ d ∈ tables_1, d.before a0 Z = true) : (Jvm.Cond.code ({ cls := "jdk/internal/util/Preconditions", name := "checkFromIndexSize", desc := "(IIILjava/util/function/BiFunction;)I" } : Jvm.MethodName) jdk_41_method_13_code (4 : Nat) (Option.some Jvm.ClassFile.FieldType.int)).before a0 Z = true := hw _ (List.mem_of_getElem? (i := 75) rfl)
theorem ow76 {a0 : Array Value} {Z : State} (hw : ∀ d ∈ tables_1, d.before a0 Z = true) : (Jvm.Cond.methodLink "java/lang/String" (75 : Nat) ({ cls := "java/lang/String", name := "<init>", desc := "(Ljava/nio/charset/Charset;[BII)V" } : Jvm.MethodName)).before a0 Z = true := hw _ (List.mem_of_getElem? (i := 76) rfl)
theorem ow77 {a0 : Array Value} {Z : State} (hw : ∀ d ∈ tables_1, d.before a0 Z = true) : (Jvm.Cond.instanceMethod ({ cls := "java/lang/String", name := "<init>", desc := "(Ljava/nio/charset/Charset;[BII)V" } : Jvm.MethodName)).before a0 Z = true := hw _ (List.mem_of_getElem? (i := 77) rfl)
theorem ow79 {a0 : Array Value} {Z : State} (hw : ∀ d ∈ tables_1, d.before a0 Z = true) : (Jvm.Cond.codeWith ({ cls := "java/lang/String", name := "<init>", desc := "(Ljava/nio/charset/Charset;[BII)V" } : Jvm.MethodName) jdk_42_method_11_code (11 : Nat) (Option.none : Option Jvm.ClassFile.FieldType) [((800 : Nat), (813 : Nat), (816 : Nat), (202 : Nat))]).before a0 Z = true := hw _ (List.mem_of_getElem? (i := 79) rfl)
theorem ow80 {a0 : Array Value} {Z : State} (hw : ∀ d ∈ tables_1, d.before a0 Z = true) : (Jvm.Cond.methodLink "java/lang/String" (1 : Nat) ({ cls := "java/lang/Object", name := "<init>", desc := "()V" } : Jvm.MethodName)).before a0 Z = true := hw _ (List.mem_of_getElem? (i := 80) rfl)
theorem ow81 {a0 : Array Value} {Z : State} (hw : ∀ d ∈ tables_1, d.before a0 Z = true) : (Jvm.Cond.fieldLink "java/lang/String" (86 : Nat) "sun/nio/cs/UTF_8" "INSTANCE" "Lsun/nio/cs/UTF_8;").before a0 Z = true := hw _ (List.mem_of_getElem? (i := 81) rfl)
theorem ow83 {a0 : Array Value} {Z : State} (hw : ∀ d ∈ tables_1, d.before a0 Z = true) : (Jvm.Cond.fieldLink "java/lang/String" (116 : Nat) "sun/nio/cs/ISO_8859_1" "INSTANCE" "Lsun/nio/cs/ISO_8859_1;").before a0 Z = true := hw _ (List.mem_of_getElem? (i := 83) rfl)
theorem ow85 {a0 : Array Value} {Z : State} (hw : ∀ d ∈ tables_1, d.before a0 Z = true) : (Jvm.Cond.fieldLink "java/lang/String" (123 : Nat) "sun/nio/cs/US_ASCII" "INSTANCE" "Lsun/nio/cs/US_ASCII;").before a0 Z = true := hw _ (List.mem_of_getElem? (i := 85) rfl)
theorem ow87 {a0 : Array Value} {Z : State} (hw : ∀ d ∈ tables_1, d.before a0 Z = true) : (Jvm.Cond.fieldLink "java/lang/String" (38 : Nat) "java/lang/String" "COMPACT_STRINGS" "Z").before a0 Z = true := hw _ (List.mem_of_getElem? (i := 87) rfl)
theorem ow88 {a0 : Array Value} {Z : State} (hw : ∀ d ∈ tables_1, d.before a0 Z = true) : (Jvm.Cond.methodLink "java/lang/String" (128 : Nat) ({ cls := "java/lang/StringCoding", name := "hasNegatives", desc := "([BII)Z" } : Jvm.MethodName)).before a0 Z = true := hw _ (List.mem_of_getElem? (i := 88) rfl)
theorem ow89 {a0 : Array Value} {Z : State} (hw : ∀ d ∈ tables_1, d.before a0 Z = true) : (Jvm.Cond.static ({ cls := "java/lang/StringCoding", name := "hasNegatives", desc := "([BII)Z" } : Jvm.MethodName)).before a0 Z = true := hw _ (List.mem_of_getElem? (i := 89) rfl)
theorem ow90 {a0 : Array Value} {Z : State} (hw : ∀ d ∈ tables_1, d.before a0 Z = true) : (Jvm.Cond.initialized "java/lang/StringCoding").before a0 Z = true := hw _ (List.mem_of_getElem? (i := 90) rfl)
theorem ow91 {a0 : Array Value} {Z : State} (hw : ∀ d ∈ tables_1, d.before a0 Z = true) : (Jvm.Cond.code ({ cls := "java/lang/StringCoding", name := "hasNegatives", desc := "([BII)Z" } : Jvm.MethodName) jdk_123_method_2_code (3 : Nat) (Option.some Jvm.ClassFile.FieldType.boolean)).before a0 Z = true := hw _ (List.mem_of_getElem? (i := 91) rfl)
theorem ow92 {a0 : Array Value} {Z : State} (hw : ∀ d ∈ tables_1, d.before a0 Z = true) : (Jvm.Cond.methodLink "java/lang/StringCoding" (7 : Nat) ({ cls := "java/lang/StringCoding", name := "countPositives", desc := "([BII)I" } : Jvm.MethodName)).before a0 Z = true := hw _ (List.mem_of_getElem? (i := 92) rfl)
theorem ow93 {a0 : Array Value} {Z : State} (hw : ∀ d ∈ tables_1, d.before a0 Z = true) : (Jvm.Cond.static ({ cls := "java/lang/StringCoding", name := "countPositives", desc := "([BII)I" } : Jvm.MethodName)).before a0 Z = true := hw _ (List.mem_of_getElem? (i := 93) rfl)
theorem ow94 {a0 : Array Value} {Z : State} (hw : ∀ d ∈ tables_1, d.before a0 Z = true) : (Jvm.Cond.code ({ cls := "java/lang/StringCoding", name := "countPositives", desc := "([BII)I" } : Jvm.MethodName) jdk_123_method_3_code (5 : Nat) (Option.some Jvm.ClassFile.FieldType.int)).before a0 Z = true := hw _ (List.mem_of_getElem? (i := 94) rfl)
theorem ow95 {a0 : Array Value} {Z : State} (hw : ∀ d ∈ tables_1, d.before a0 Z = true) : (Jvm.Cond.methodLink "java/lang/String" (54 : Nat) ({ cls := "java/util/Arrays", name := "copyOfRange", desc := "([BII)[B" } : Jvm.MethodName)).before a0 Z = true := hw _ (List.mem_of_getElem? (i := 95) rfl)
theorem ow96 {a0 : Array Value} {Z : State} (hw : ∀ d ∈ tables_1, d.before a0 Z = true) : (Jvm.Cond.static ({ cls := "java/util/Arrays", name := "copyOfRange", desc := "([BII)[B" } : Jvm.MethodName)).before a0 Z = true := hw _ (List.mem_of_getElem? (i := 96) rfl)
theorem ow97 {a0 : Array Value} {Z : State} (hw : ∀ d ∈ tables_1, d.before a0 Z = true) : (Jvm.Cond.initialized "java/util/Arrays").before a0 Z = true := hw _ (List.mem_of_getElem? (i := 97) rfl)
theorem ow98 {a0 : Array Value} {Z : State} (hw : ∀ d ∈ tables_1, d.before a0 Z = true) : (Jvm.Cond.code ({ cls := "java/util/Arrays", name := "copyOfRange", desc := "([BII)[B" } : Jvm.MethodName) jdk_65_method_132_code (3 : Nat) (Option.some (Jvm.ClassFile.FieldType.array Jvm.ClassFile.FieldType.byte))).before a0 Z = true := hw _ (List.mem_of_getElem? (i := 98) rfl)
theorem ow99 {a0 : Array Value} {Z : State} (hw : ∀ d ∈ tables_1, d.before a0 Z = true) : (Jvm.Cond.methodLink "java/util/Arrays" (339 : Nat) ({ cls := "java/util/Arrays", name := "copyOfRangeByte", desc := "([BII)[B" } : Jvm.MethodName)).before a0 Z = true := hw _ (List.mem_of_getElem? (i := 99) rfl)
theorem ow100 {a0 : Array Value} {Z : State} (hw : ∀ d ∈ tables_1, d.before a0 Z = true) : (Jvm.Cond.static ({ cls := "java/util/Arrays", name := "copyOfRangeByte", desc := "([BII)[B" } : Jvm.MethodName)).before a0 Z = true := hw _ (List.mem_of_getElem? (i := 100) rfl)
theorem ow101 {a0 : Array Value} {Z : State} (hw : ∀ d ∈ tables_1, d.before a0 Z = true) : (Jvm.Cond.code ({ cls := "java/util/Arrays", name := "copyOfRangeByte", desc := "([BII)[B" } : Jvm.MethodName) jdk_65_method_133_code (5 : Nat) (Option.some (Jvm.ClassFile.FieldType.array Jvm.ClassFile.FieldType.byte))).before a0 Z = true := hw _ (List.mem_of_getElem? (i := 101) rfl)
theorem ow102 {a0 : Array Value} {Z : State} (hw : ∀ d ∈ tables_1, d.before a0 Z = true) : (Jvm.Cond.methodLink "java/util/Arrays" (343 : Nat) ({ cls := "java/util/Arrays", name := "checkLength", desc := "(II)V" } : Jvm.MethodName)).before a0 Z = true := hw _ (List.mem_of_getElem? (i := 102) rfl)
theorem ow103 {a0 : Array Value} {Z : State} (hw : ∀ d ∈ tables_1, d.before a0 Z = true) : (Jvm.Cond.static ({ cls := "java/util/Arrays", name := "checkLength", desc := "(II)V" } : Jvm.MethodName)).before a0 Z = true := hw _ (List.mem_of_getElem? (i := 103) rfl)
theorem ow104 {a0 : Array Value} {Z : State} (hw : ∀ d ∈ tables_1, d.before a0 Z = true) : (Jvm.Cond.code ({ cls := "java/util/Arrays", name := "checkLength", desc := "(II)V" } : Jvm.MethodName) jdk_65_method_131_code (2 : Nat) (Option.none : Option Jvm.ClassFile.FieldType)).before a0 Z = true := hw _ (List.mem_of_getElem? (i := 104) rfl)
theorem ow105 {a0 : Array Value} {Z : State} (hw : ∀ d ∈ tables_1, d.before a0 Z = true) : (Jvm.Cond.methodLink "java/util/Arrays" (304 : Nat) ({ cls := "java/lang/Math", name := "min", desc := "(II)I" } : Jvm.MethodName)).before a0 Z = true := hw _ (List.mem_of_getElem? (i := 105) rfl)
theorem ow106 {a0 : Array Value} {Z : State} (hw : ∀ d ∈ tables_1, d.before a0 Z = true) : (Jvm.Cond.static ({ cls := "java/lang/Math", name := "min", desc := "(II)I" } : Jvm.MethodName)).before a0 Z = true := hw _ (List.mem_of_getElem? (i := 106) rfl)
theorem ow107 {a0 : Array Value} {Z : State} (hw : ∀ d ∈ tables_1, d.before a0 Z = true) : (Jvm.Cond.initialized "java/lang/Math").before a0 Z = true := hw _ (List.mem_of_getElem? (i := 107) rfl)
theorem ow108 {a0 : Array Value} {Z : State} (hw : ∀ d ∈ tables_1, d.before a0 Z = true) : (Jvm.Cond.code ({ cls := "java/lang/Math", name := "min", desc := "(II)I" } : Jvm.MethodName) jdk_29_method_69_code (2 : Nat) (Option.some Jvm.ClassFile.FieldType.int)).before a0 Z = true := hw _ (List.mem_of_getElem? (i := 108) rfl)
theorem ow109 {a0 : Array Value} {Z : State} (hw : ∀ d ∈ tables_1, d.before a0 Z = true) : (Jvm.Cond.methodLink "java/util/Arrays" (150 : Nat) ({ cls := "java/lang/System", name := "arraycopy", desc := "(Ljava/lang/Object;ILjava/lang/Object;II)V" } : Jvm.MethodName)).before a0 Z = true := hw _ (List.mem_of_getElem? (i := 109) rfl)
theorem ow110 {a0 : Array Value} {Z : State} (hw : ∀ d ∈ tables_1, d.before a0 Z = true) : (Jvm.Cond.static ({ cls := "java/lang/System", name := "arraycopy", desc := "(Ljava/lang/Object;ILjava/lang/Object;II)V" } : Jvm.MethodName)).before a0 Z = true := hw _ (List.mem_of_getElem? (i := 110) rfl)
theorem ow111 {a0 : Array Value} {Z : State} (hw : ∀ d ∈ tables_1, d.before a0 Z = true) : (Jvm.Cond.initialized "java/lang/System").before a0 Z = true := hw _ (List.mem_of_getElem? (i := 111) rfl)
theorem ow112 {a0 : Array Value} {Z : State} (hw : ∀ d ∈ tables_1, d.before a0 Z = true) : (Jvm.Cond.native ({ cls := "java/lang/System", name := "arraycopy", desc := "(Ljava/lang/Object;ILjava/lang/Object;II)V" } : Jvm.MethodName)).before a0 Z = true := hw _ (List.mem_of_getElem? (i := 112) rfl)
theorem ow113 {a0 : Array Value} {Z : State} (hw : ∀ d ∈ tables_1, d.before a0 Z = true) : (Jvm.Cond.fieldLink "java/lang/String" (9 : Nat) "java/lang/String" "value" "[B").before a0 Z = true := hw _ (List.mem_of_getElem? (i := 113) rfl)
theorem ow114 {a0 : Array Value} {Z : State} (hw : ∀ d ∈ tables_1, d.before a0 Z = true) : (Jvm.Cond.laysFinal "java/lang/String" "java/lang/String" "value" "[B").before a0 Z = true := hw _ (List.mem_of_getElem? (i := 114) rfl)
theorem ow115 {a0 : Array Value} {Z : State} (hw : ∀ d ∈ tables_1, d.before a0 Z = true) : (Jvm.Cond.fieldLink "java/lang/String" (15 : Nat) "java/lang/String" "coder" "B").before a0 Z = true := hw _ (List.mem_of_getElem? (i := 115) rfl)
theorem ow116 {a0 : Array Value} {Z : State} (hw : ∀ d ∈ tables_1, d.before a0 Z = true) : (Jvm.Cond.laysFinal "java/lang/String" "java/lang/String" "coder" "B").before a0 Z = true := hw _ (List.mem_of_getElem? (i := 116) rfl)
theorem ow117 {a0 : Array Value} {Z : State} (hw : ∀ d ∈ tables_1, d.before a0 Z = true) : (Jvm.Cond.methodLink "com/example/mark_time/marktime/io/JsonCursorEndPinLaw" (23 : Nat) ({ cls := "java/lang/String", name := "length", desc := "()I" } : Jvm.MethodName)).before a0 Z = true := hw _ (List.mem_of_getElem? (i := 117) rfl)
theorem ow118 {a0 : Array Value} {Z : State} (hw : ∀ d ∈ tables_1, d.before a0 Z = true) : (Jvm.Cond.declares ({ cls := "java/lang/String", name := "length", desc := "()I" } : Jvm.MethodName)).before a0 Z = true := hw _ (List.mem_of_getElem? (i := 118) rfl)
theorem ow119 {a0 : Array Value} {Z : State} (hw : ∀ d ∈ tables_1, d.before a0 Z = true) : (Jvm.Cond.instanceMethod ({ cls := "java/lang/String", name := "length", desc := "()I" } : Jvm.MethodName)).before a0 Z = true := hw _ (List.mem_of_getElem? (i := 119) rfl)
theorem ow120 {a0 : Array Value} {Z : State} (hw : ∀ d ∈ tables_1, d.before a0 Z = true) : (Jvm.Cond.selects "java/lang/String" ({ cls := "java/lang/String", name := "length", desc := "()I" } : Jvm.MethodName) ({ cls := "java/lang/String", name := "length", desc := "()I" } : Jvm.MethodName)).before a0 Z = true := hw _ (List.mem_of_getElem? (i := 120) rfl)
theorem ow121 {a0 : Array Value} {Z : State} (hw : ∀ d ∈ tables_1, d.before a0 Z = true) : (Jvm.Cond.code ({ cls := "java/lang/String", name := "length", desc := "()I" } : Jvm.MethodName) jdk_42_method_54_code (1 : Nat) (Option.some Jvm.ClassFile.FieldType.int)).before a0 Z = true := hw _ (List.mem_of_getElem? (i := 121) rfl)
theorem ow122 {a0 : Array Value} {Z : State} (hw : ∀ d ∈ tables_1, d.before a0 Z = true) : (Jvm.Cond.methodLink "java/lang/String" (335 : Nat) ({ cls := "java/lang/String", name := "coder", desc := "()B" } : Jvm.MethodName)).before a0 Z = true := hw _ (List.mem_of_getElem? (i := 122) rfl)
theorem ow123 {a0 : Array Value} {Z : State} (hw : ∀ d ∈ tables_1, d.before a0 Z = true) : (Jvm.Cond.declares ({ cls := "java/lang/String", name := "coder", desc := "()B" } : Jvm.MethodName)).before a0 Z = true := hw _ (List.mem_of_getElem? (i := 123) rfl)
theorem ow124 {a0 : Array Value} {Z : State} (hw : ∀ d ∈ tables_1, d.before a0 Z = true) : (Jvm.Cond.instanceMethod ({ cls := "java/lang/String", name := "coder", desc := "()B" } : Jvm.MethodName)).before a0 Z = true := hw _ (List.mem_of_getElem? (i := 124) rfl)
theorem ow125 {a0 : Array Value} {Z : State} (hw : ∀ d ∈ tables_1, d.before a0 Z = true) : (Jvm.Cond.selects "java/lang/String" ({ cls := "java/lang/String", name := "coder", desc := "()B" } : Jvm.MethodName) ({ cls := "java/lang/String", name := "coder", desc := "()B" } : Jvm.MethodName)).before a0 Z = true := hw _ (List.mem_of_getElem? (i := 125) rfl)
theorem ow126 {a0 : Array Value} {Z : State} (hw : ∀ d ∈ tables_1, d.before a0 Z = true) : (Jvm.Cond.code ({ cls := "java/lang/String", name := "coder", desc := "()B" } : Jvm.MethodName) jdk_42_method_152_code (1 : Nat) (Option.some Jvm.ClassFile.FieldType.byte)).before a0 Z = true := hw _ (List.mem_of_getElem? (i := 126) rfl)
theorem ow127 {a0 : Array Value} {Z : State} (hw : ∀ d ∈ tables_1, d.before a0 Z = true) : (Jvm.Cond.methodLink "java/util/Arrays" (310 : Nat) ({ cls := "[B", name := "clone", desc := "()Ljava/lang/Object;" } : Jvm.MethodName)).before a0 Z = true := hw _ (List.mem_of_getElem? (i := 127) rfl)
theorem ow128 {a0 : Array Value} {Z : State} (hw : ∀ d ∈ tables_1, d.before a0 Z = true) : (Jvm.Cond.sameMethod "[B" "java/lang/Object" "clone" "()Ljava/lang/Object;").before a0 Z = true := hw _ (List.mem_of_getElem? (i := 128) rfl)
theorem ow130 {a0 : Array Value} {Z : State} (hw : ∀ d ∈ tables_1, d.before a0 Z = true) : (Jvm.Cond.instanceMethod ({ cls := "java/lang/Object", name := "clone", desc := "()Ljava/lang/Object;" } : Jvm.MethodName)).before a0 Z = true := hw _ (List.mem_of_getElem? (i := 130) rfl)
theorem ow131 {a0 : Array Value} {Z : State} (hw : ∀ d ∈ tables_1, d.before a0 Z = true) : (Jvm.Cond.selects "[B" ({ cls := "[B", name := "clone", desc := "()Ljava/lang/Object;" } : Jvm.MethodName) ({ cls := "java/lang/Object", name := "clone", desc := "()Ljava/lang/Object;" } : Jvm.MethodName)).before a0 Z = true := hw _ (List.mem_of_getElem? (i := 131) rfl)
theorem ow132 {a0 : Array Value} {Z : State} (hw : ∀ d ∈ tables_1, d.before a0 Z = true) : (Jvm.Cond.native ({ cls := "java/lang/Object", name := "clone", desc := "()Ljava/lang/Object;" } : Jvm.MethodName)).before a0 Z = true := hw _ (List.mem_of_getElem? (i := 132) rfl)
theorem ow133 {a0 : Array Value} {Z : State} (hw : ∀ d ∈ tables_1, d.before a0 Z = true) : (Jvm.Cond.castable "[B" "java/lang/Cloneable").before a0 Z = true := hw _ (List.mem_of_getElem? (i := 133) rfl)
theorem ow134 {a0 : Array Value} {Z : State} (hw : ∀ d ∈ tables_1, d.before a0 Z = true) : (Jvm.Cond.classLink "java/util/Arrays" (311 : Nat) "[B").before a0 Z = true := hw _ (List.mem_of_getElem? (i := 134) rfl)
def fSp (p1 : Int32) : Int32 := (if p1 = (0 : Int32) then (32 : Int32) else (if p1 = (1 : Int32) then (9 : Int32) else (if p1 = (2 : Int32) then (10 : Int32) else (13 : Int32))))
theorem ef_rm2 (m : MethodId) (p1 : Int32) : entryFrame m #[(.int p1)] 1 = mkF m 0 #[.val (.int p1)] [] := by first | (simp [entryFrame, mkF, argsToLocals, Value.category]; done) | rfl
theorem pn_com_example_mark_time_marktime_io_JsonCursorEndPinLaw : plainName "com/example/mark_time/marktime/io/JsonCursorEndPinLaw" = true := by first | (simp [plainName, overriddenIn]; done) | decide +kernel
theorem d2_0 : decode method_4_code 0 = .ok (.iload_n 0, 1) := by decide +kernel
theorem d2_1 : decode method_4_code 1 = .ok (.ifCond .ne 6, 3) := by decide +kernel
theorem d2_4 : decode method_4_code 4 = .ok (.bipush 32, 2) := by decide +kernel
theorem d2_6 : decode method_4_code 6 = .ok (.ireturn, 1) := by decide +kernel
theorem d2_7 : decode method_4_code 7 = .ok (.iload_n 0, 1) := by decide +kernel
theorem d2_8 : decode method_4_code 8 = .ok (.iconst 1, 1) := by decide +kernel
theorem d2_9 : decode method_4_code 9 = .ok (.if_icmp .ne 6, 3) := by decide +kernel
theorem d2_12 : decode method_4_code 12 = .ok (.bipush 9, 2) := by decide +kernel
theorem d2_14 : decode method_4_code 14 = .ok (.ireturn, 1) := by decide +kernel
theorem d2_15 : decode method_4_code 15 = .ok (.iload_n 0, 1) := by decide +kernel
theorem d2_16 : decode method_4_code 16 = .ok (.iconst 2, 1) := by decide +kernel
theorem d2_17 : decode method_4_code 17 = .ok (.if_icmp .ne 6, 3) := by decide +kernel
theorem d2_20 : decode method_4_code 20 = .ok (.bipush 10, 2) := by decide +kernel
theorem d2_22 : decode method_4_code 22 = .ok (.ireturn, 1) := by decide +kernel
theorem d2_23 : decode method_4_code 23 = .ok (.bipush 13, 2) := by decide +kernel
theorem d2_25 : decode method_4_code 25 = .ok (.ireturn, 1) := by decide +kernel
def Q_rm2 (Z : State) (p1 : Int32) (h0 : Heap) (n0 : Nat) (v : Option Value) (h : Heap) (L : List Loc) : Prop := v = some (.int (fSp p1)) ∧ Fr n0 L ∧ h = h0
set_option maxRecDepth 65536 in
set_option maxHeartbeats 40000000 in
theorem rm2 (l : Launch) (Z : State) (a0 : Array Value) (hw : ∀ d ∈ tables_1, d.before a0 Z = true) (ws : List Jvm.Cond) (p1 : Int32) (h0 : Heap) (n0 : Nat) (Z0 : n0 ≤ h0.size) :
    MetFree l (⟨"com/example/mark_time/marktime/io/JsonCursorEndPinLaw", "space", "(I)B"⟩ : MethodName) (head1 (Jvm.Cond.code (⟨"com/example/mark_time/marktime/io/JsonCursorEndPinLaw", "space", "(I)B"⟩ : MethodName) method_4_code 1 (some .byte) :: ws) ({ frames := 0, cells := 0, slots := 0, locals := 0 } : Room)) (fun a U => a = #[(.int p1)] ∧ Z.Warmed39 U.vm ∧ U.heap = h0) (fun _ _ _ _ _ => True) (fun _ U o U' => ∃ v L, o = .returned v ∧ Q_rm2 Z p1 h0 n0 v U'.heap L ∧ FrameEnd U o U' L ({ frames := 0, cells := 0, slots := 0, locals := 0 } : Room).cells ({ frames := 0, cells := 0, slots := 0, locals := 0 } : Room).slots) := by
  refine MetFree.of_bodySF (plainFor_of_name pn_com_example_mark_time_marktime_io_JsonCursorEndPinLaw) hisR ?_
  intro p e s m args below meth c s₁ Bd hml0 hP hK
  obtain ⟨rfl, hZ, hh⟩ := hP
  have hx := Bd.exec
  have hby := Bd.bytes
  have hml : c.maxLocals = 1 := hml0
  have hown : s.vm.findClass "com/example/mark_time/marktime/io/JsonCursorEndPinLaw" = some m.cls := findClass_of_methodNamed Bd.named
  have hnm := (name_of_methodNamed Bd.named Bd.method).1
  have X0 : Stand p l e ({ frames := 0, cells := 0, slots := 0, locals := 0 } : Room) s m #[(.int p1)] below meth c s₁ [] 0 0 := Stand.of_body Bd
  have e0 : s₁.heap = h0 := by rw [← hh, Bd.state]; rfl
  have N0 := Fr.nil n0
  suffices hR : ∀ P : State → Prop, (∀ s₂ o v L, s₂.status = .running → Ended s₂ below o → o = .returned v → Q_rm2 Z p1 h0 n0 v s₂.heap L → FrameEnd s o s₂ L ({ frames := 0, cells := 0, slots := 0, locals := 0 } : Room).cells ({ frames := 0, cells := 0, slots := 0, locals := 0 } : Room).slots → P s₂) → Rch p.tables e below P (s₁.setTop (mkF m 0 #[.val (.int p1)] [])) by
    obtain ⟨s₂, h1, o, h2⟩ := hR (fun s₂ => ∃ o, s₂.status = .running ∧ Ended s₂ below o ∧ ∃ v L, o = .returned v ∧ Q_rm2 Z p1 h0 n0 v s₂.heap L ∧ FrameEnd s o s₂ L ({ frames := 0, cells := 0, slots := 0, locals := 0 } : Room).cells ({ frames := 0, cells := 0, slots := 0, locals := 0 } : Room).slots) (fun s₂ o v L q1 q2 q3 q4 q5 => ⟨o, q1, q2, v, L, q3, q4, q5⟩)
    exact ⟨s₂, o, castTop (ef_rm2 m p1) h1, h2⟩
  intro P hPd
  refine Rch.go (fun zt zk => XS.iloadN X0.here hx rfl (hb hby d2_0) rfl zk) ?_
  show Rch _ _ _ _ (s₁.setTop (mkF m 1 #[.val (.int p1)] [(.int p1)]))
  by_cases hc1_101 : p1 = (0 : Int32)
  · skip
    refine Rch.go (fun zt zk => XS.ifNo X0.here hx rfl (hb hby d2_1) rfl ((if0 _ _).trans (teq hc1_101).2) zk) ?_
    show Rch _ _ _ _ (s₁.setTop (mkF m 4 #[.val (.int p1)] []))
    refine Rch.go (fun zt zk => XS.bipush X0.here hx rfl (hb hby d2_4) zk) ?_
    show Rch _ _ _ _ (s₁.setTop (mkF m 6 #[.val (.int p1)] [(.int (32 : Int32))]))
    obtain ⟨fs, hr, hrun, hended, hW, hsame⟩ := X0.leave (v := some (.int (32 : Int32))) (fun h => by rw [Bd.returns] at h; cases h)
    refine Rch.mk (retN X0 hx (t := .byte) Bd.returns (by simp) (hb hby d2_6) hr) (hPd _ _ _ _ hrun hended rfl ?_ ⟨⟨_, rfl⟩, hW, hsame.mono (by decide) (by decide)⟩)
    show Q_rm2 Z p1 h0 n0 _ s₁.heap _
    have hF : fSp p1 = (32 : Int32) := ((if_pos hc1_101).trans rfl)
    rw [e0]
    exact ⟨by rw [hF], N0, rfl⟩
  · skip
    refine Rch.go (fun zt zk => XS.ifYes X0.here hx rfl (pc0 := 1) (pc' := 7) rfl (hb hby d2_1) rfl ((if0 _ _).trans (feq hc1_101).2) (by decide) (by decide) zk) ?_
    show Rch _ _ _ _ (s₁.setTop (mkF m 7 #[.val (.int p1)] []))
    refine Rch.go (fun zt zk => XS.iloadN X0.here hx rfl (hb hby d2_7) rfl zk) ?_
    show Rch _ _ _ _ (s₁.setTop (mkF m 8 #[.val (.int p1)] [(.int p1)]))
    refine Rch.go (fun zt zk => XS.iconst X0.here hx rfl (hb hby d2_8) zk) ?_
    show Rch _ _ _ _ (s₁.setTop (mkF m 9 #[.val (.int p1)] [(.int (1 : Int32)), (.int p1)]))
    by_cases hc9_102 : p1 = (1 : Int32)
    · skip
      refine Rch.go (fun zt zk => XS.icmpNo X0.here hx rfl (hb hby d2_9) rfl (teq hc9_102).2 zk) ?_
      show Rch _ _ _ _ (s₁.setTop (mkF m 12 #[.val (.int p1)] []))
      refine Rch.go (fun zt zk => XS.bipush X0.here hx rfl (hb hby d2_12) zk) ?_
      show Rch _ _ _ _ (s₁.setTop (mkF m 14 #[.val (.int p1)] [(.int (9 : Int32))]))
      obtain ⟨fs, hr, hrun, hended, hW, hsame⟩ := X0.leave (v := some (.int (9 : Int32))) (fun h => by rw [Bd.returns] at h; cases h)
      refine Rch.mk (retN X0 hx (t := .byte) Bd.returns (by simp) (hb hby d2_14) hr) (hPd _ _ _ _ hrun hended rfl ?_ ⟨⟨_, rfl⟩, hW, hsame.mono (by decide) (by decide)⟩)
      show Q_rm2 Z p1 h0 n0 _ s₁.heap _
      have hF : fSp p1 = (9 : Int32) := ((if_neg hc1_101).trans ((if_pos hc9_102).trans rfl))
      rw [e0]
      exact ⟨by rw [hF], N0, rfl⟩
    · skip
      refine Rch.go (fun zt zk => XS.icmpYes X0.here hx rfl (pc0 := 9) (pc' := 15) rfl (hb hby d2_9) rfl (feq hc9_102).2 (by decide) (by decide) zk) ?_
      show Rch _ _ _ _ (s₁.setTop (mkF m 15 #[.val (.int p1)] []))
      refine Rch.go (fun zt zk => XS.iloadN X0.here hx rfl (hb hby d2_15) rfl zk) ?_
      show Rch _ _ _ _ (s₁.setTop (mkF m 16 #[.val (.int p1)] [(.int p1)]))
      refine Rch.go (fun zt zk => XS.iconst X0.here hx rfl (hb hby d2_16) zk) ?_
      show Rch _ _ _ _ (s₁.setTop (mkF m 17 #[.val (.int p1)] [(.int (2 : Int32)), (.int p1)]))
      by_cases hc17_103 : p1 = (2 : Int32)
      · skip
        refine Rch.go (fun zt zk => XS.icmpNo X0.here hx rfl (hb hby d2_17) rfl (teq hc17_103).2 zk) ?_
        show Rch _ _ _ _ (s₁.setTop (mkF m 20 #[.val (.int p1)] []))
        refine Rch.go (fun zt zk => XS.bipush X0.here hx rfl (hb hby d2_20) zk) ?_
        show Rch _ _ _ _ (s₁.setTop (mkF m 22 #[.val (.int p1)] [(.int (10 : Int32))]))
        obtain ⟨fs, hr, hrun, hended, hW, hsame⟩ := X0.leave (v := some (.int (10 : Int32))) (fun h => by rw [Bd.returns] at h; cases h)
        refine Rch.mk (retN X0 hx (t := .byte) Bd.returns (by simp) (hb hby d2_22) hr) (hPd _ _ _ _ hrun hended rfl ?_ ⟨⟨_, rfl⟩, hW, hsame.mono (by decide) (by decide)⟩)
        show Q_rm2 Z p1 h0 n0 _ s₁.heap _
        have hF : fSp p1 = (10 : Int32) := ((if_neg hc1_101).trans ((if_neg hc9_102).trans ((if_pos hc17_103).trans rfl)))
        rw [e0]
        exact ⟨by rw [hF], N0, rfl⟩
      · skip
        refine Rch.go (fun zt zk => XS.icmpYes X0.here hx rfl (pc0 := 17) (pc' := 23) rfl (hb hby d2_17) rfl (feq hc17_103).2 (by decide) (by decide) zk) ?_
        show Rch _ _ _ _ (s₁.setTop (mkF m 23 #[.val (.int p1)] []))
        refine Rch.go (fun zt zk => XS.bipush X0.here hx rfl (hb hby d2_23) zk) ?_
        show Rch _ _ _ _ (s₁.setTop (mkF m 25 #[.val (.int p1)] [(.int (13 : Int32))]))
        obtain ⟨fs, hr, hrun, hended, hW, hsame⟩ := X0.leave (v := some (.int (13 : Int32))) (fun h => by rw [Bd.returns] at h; cases h)
        refine Rch.mk (retN X0 hx (t := .byte) Bd.returns (by simp) (hb hby d2_25) hr) (hPd _ _ _ _ hrun hended rfl ?_ ⟨⟨_, rfl⟩, hW, hsame.mono (by decide) (by decide)⟩)
        show Q_rm2 Z p1 h0 n0 _ s₁.heap _
        have hF : fSp p1 = (13 : Int32) := ((if_neg hc1_101).trans ((if_neg hc9_102).trans ((if_neg hc17_103).trans rfl)))
        rw [e0]
        exact ⟨by rw [hF], N0, rfl⟩
def fAt0 (p2 : Int32) (q3 : Int64) (q4 : Int64) : Int32 := (if (0 : Int32) < p2 then (nar .byte (((49 : Int32) + (((q3 &&& (15 : Int64)) - ((q3 &&& (15 : Int64)) / (9 : Int64)) * (9 : Int64)).toInt32)).toInt8.toInt32)) else (nar .byte (fSp ((((q4.toUInt64 >>> (((2 : Int32) * (0 : Int32)) &&& 0x3f).toInt64.toUInt64).toInt64) &&& (3 : Int64)).toInt32))))
theorem ef_rmAt0 (m : MethodId) (p2 : Int32) (q3 : Int64) (q4 : Int64) : entryFrame m #[(.int (0 : Int32)), (.int p2), (.long q3), (.long q4)] 6 = mkF m 0 #[.val (.int (0 : Int32)), .val (.int p2), .val (.long q3), .second, .val (.long q4), .second] [] := by first | (simp [entryFrame, mkF, argsToLocals, Value.category]; done) | rfl
theorem d1_0 : decode method_3_code 0 = .ok (.iload_n 0, 1) := by decide +kernel
theorem d1_1 : decode method_3_code 1 = .ok (.iload_n 1, 1) := by decide +kernel
theorem d1_2 : decode method_3_code 2 = .ok (.if_icmp .ge 41, 3) := by decide +kernel
theorem d1_5 : decode method_3_code 5 = .ok (.iload_n 0, 1) := by decide +kernel
theorem d1_6 : decode method_3_code 6 = .ok (.ifCond .ne 18, 3) := by decide +kernel
theorem d1_9 : decode method_3_code 9 = .ok (.bipush 49, 2) := by decide +kernel
theorem d1_11 : decode method_3_code 11 = .ok (.lload_n 2, 1) := by decide +kernel
theorem d1_12 : decode method_3_code 12 = .ok (.ldc2_w 32, 3) := by decide +kernel
theorem d1_15 : decode method_3_code 15 = .ok (.land, 1) := by decide +kernel
theorem d1_16 : decode method_3_code 16 = .ok (.ldc2_w 34, 3) := by decide +kernel
theorem d1_19 : decode method_3_code 19 = .ok (.lrem, 1) := by decide +kernel
theorem d1_20 : decode method_3_code 20 = .ok (.l2i, 1) := by decide +kernel
theorem d1_21 : decode method_3_code 21 = .ok (.iadd, 1) := by decide +kernel
theorem d1_22 : decode method_3_code 22 = .ok (.i2b, 1) := by decide +kernel
theorem d1_23 : decode method_3_code 23 = .ok (.ireturn, 1) := by decide +kernel
theorem d1_43 : decode method_3_code 43 = .ok (.lload 4, 2) := by decide +kernel
theorem d1_45 : decode method_3_code 45 = .ok (.iconst 2, 1) := by decide +kernel
theorem d1_46 : decode method_3_code 46 = .ok (.iload_n 0, 1) := by decide +kernel
theorem d1_47 : decode method_3_code 47 = .ok (.imul, 1) := by decide +kernel
theorem d1_48 : decode method_3_code 48 = .ok (.lushr, 1) := by decide +kernel
theorem d1_49 : decode method_3_code 49 = .ok (.ldc2_w 38, 3) := by decide +kernel
theorem d1_52 : decode method_3_code 52 = .ok (.land, 1) := by decide +kernel
theorem d1_53 : decode method_3_code 53 = .ok (.l2i, 1) := by decide +kernel
theorem d1_54 : decode method_3_code 54 = .ok (.invokestatic 40, 3) := by decide +kernel
theorem pd__I_B : parseMethodDescriptor "(I)B" = some ⟨[.int], some .byte⟩ := by decide +kernel
theorem d1_57 : decode method_3_code 57 = .ok (.ireturn, 1) := by decide +kernel
def Q_rmAt0 (Z : State) (p2 : Int32) (q3 : Int64) (q4 : Int64) (h0 : Heap) (n0 : Nat) (v : Option Value) (h : Heap) (L : List Loc) : Prop := v = some (.int (fAt0 p2 q3 q4)) ∧ Fr n0 L ∧ h = h0
set_option maxRecDepth 65536 in
set_option maxHeartbeats 40000000 in
theorem rmAt0 (l : Launch) (Z : State) (a0 : Array Value) (hw : ∀ d ∈ tables_1, d.before a0 Z = true) (ws : List Jvm.Cond) (p2 : Int32) (q3 : Int64) (q4 : Int64) (h0 : Heap) (n0 : Nat) (Z0 : n0 ≤ h0.size) :
    MetFree l (⟨"com/example/mark_time/marktime/io/JsonCursorEndPinLaw", "at", "(IIJJ)B"⟩ : MethodName) (head1 (Jvm.Cond.code (⟨"com/example/mark_time/marktime/io/JsonCursorEndPinLaw", "at", "(IIJJ)B"⟩ : MethodName) method_3_code 6 (some .byte) :: ws) ({ frames := 1, cells := 0, slots := 0, locals := 12 } : Room)) (fun a U => a = #[(.int (0 : Int32)), (.int p2), (.long q3), (.long q4)] ∧ Z.Warmed39 U.vm ∧ U.heap = h0) (fun _ _ _ _ _ => True) (fun _ U o U' => ∃ v L, o = .returned v ∧ Q_rmAt0 Z p2 q3 q4 h0 n0 v U'.heap L ∧ FrameEnd U o U' L ({ frames := 1, cells := 0, slots := 0, locals := 12 } : Room).cells ({ frames := 1, cells := 0, slots := 0, locals := 12 } : Room).slots) := by
  refine MetFree.of_bodySF (plainFor_of_name pn_com_example_mark_time_marktime_io_JsonCursorEndPinLaw) hisR ?_
  intro p e s m args below meth c s₁ Bd hml0 hP hK
  obtain ⟨rfl, hZ, hh⟩ := hP
  have hx := Bd.exec
  have hby := Bd.bytes
  have hml : c.maxLocals = 6 := hml0
  have hown : s.vm.findClass "com/example/mark_time/marktime/io/JsonCursorEndPinLaw" = some m.cls := findClass_of_methodNamed Bd.named
  have hnm := (name_of_methodNamed Bd.named Bd.method).1
  have X0 : Stand p l e ({ frames := 1, cells := 0, slots := 0, locals := 12 } : Room) s m #[(.int (0 : Int32)), (.int p2), (.long q3), (.long q4)] below meth c s₁ [] 0 0 := Stand.of_body Bd
  have e0 : s₁.heap = h0 := by rw [← hh, Bd.state]; rfl
  have N0 := Fr.nil n0
  suffices hR : ∀ P : State → Prop, (∀ s₂ o v L, s₂.status = .running → Ended s₂ below o → o = .returned v → Q_rmAt0 Z p2 q3 q4 h0 n0 v s₂.heap L → FrameEnd s o s₂ L ({ frames := 1, cells := 0, slots := 0, locals := 12 } : Room).cells ({ frames := 1, cells := 0, slots := 0, locals := 12 } : Room).slots → P s₂) → Rch p.tables e below P (s₁.setTop (mkF m 0 #[.val (.int (0 : Int32)), .val (.int p2), .val (.long q3), .second, .val (.long q4), .second] [])) by
    obtain ⟨s₂, h1, o, h2⟩ := hR (fun s₂ => ∃ o, s₂.status = .running ∧ Ended s₂ below o ∧ ∃ v L, o = .returned v ∧ Q_rmAt0 Z p2 q3 q4 h0 n0 v s₂.heap L ∧ FrameEnd s o s₂ L ({ frames := 1, cells := 0, slots := 0, locals := 12 } : Room).cells ({ frames := 1, cells := 0, slots := 0, locals := 12 } : Room).slots) (fun s₂ o v L q1 q2 q3 q4 q5 => ⟨o, q1, q2, v, L, q3, q4, q5⟩)
    exact ⟨s₂, o, castTop (ef_rmAt0 m p2 q3 q4) h1, h2⟩
  intro P hPd
  refine Rch.go (fun zt zk => XS.iloadN X0.here hx rfl (hb hby d1_0) rfl zk) ?_
  show Rch _ _ _ _ (s₁.setTop (mkF m 1 #[.val (.int (0 : Int32)), .val (.int p2), .val (.long q3), .second, .val (.long q4), .second] [(.int (0 : Int32))]))
  refine Rch.go (fun zt zk => XS.iloadN X0.here hx rfl (hb hby d1_1) rfl zk) ?_
  show Rch _ _ _ _ (s₁.setTop (mkF m 2 #[.val (.int (0 : Int32)), .val (.int p2), .val (.long q3), .second, .val (.long q4), .second] [(.int p2), (.int (0 : Int32))]))
  by_cases hc2_101 : (0 : Int32) < p2
  · skip
    refine Rch.go (fun zt zk => XS.icmpNo X0.here hx rfl (hb hby d1_2) rfl (tlt hc2_101).2.1 zk) ?_
    show Rch _ _ _ _ (s₁.setTop (mkF m 5 #[.val (.int (0 : Int32)), .val (.int p2), .val (.long q3), .second, .val (.long q4), .second] []))
    refine Rch.go (fun zt zk => XS.iloadN X0.here hx rfl (hb hby d1_5) rfl zk) ?_
    show Rch _ _ _ _ (s₁.setTop (mkF m 6 #[.val (.int (0 : Int32)), .val (.int p2), .val (.long q3), .second, .val (.long q4), .second] [(.int (0 : Int32))]))
    refine Rch.go (fun zt zk => XS.ifNo X0.here hx rfl (hb hby d1_6) rfl ((if0 _ _).trans (teq (by decide : (0 : Int32) = (0 : Int32))).2) zk) ?_
    show Rch _ _ _ _ (s₁.setTop (mkF m 9 #[.val (.int (0 : Int32)), .val (.int p2), .val (.long q3), .second, .val (.long q4), .second] []))
    refine Rch.go (fun zt zk => XS.bipush X0.here hx rfl (hb hby d1_9) zk) ?_
    show Rch _ _ _ _ (s₁.setTop (mkF m 11 #[.val (.int (0 : Int32)), .val (.int p2), .val (.long q3), .second, .val (.long q4), .second] [(.int (49 : Int32))]))
    refine Rch.go (fun zt zk => XS.lloadN X0.here hx rfl (hb hby d1_11) rfl zk) ?_
    show Rch _ _ _ _ (s₁.setTop (mkF m 12 #[.val (.int (0 : Int32)), .val (.int p2), .val (.long q3), .second, .val (.long q4), .second] [(.long q3), (.int (49 : Int32))]))
    refine Rch.go (X0.ldc2Long hx hown (mvT hZ (ow35 hw)) (g := (mkF m 12 #[.val (.int (0 : Int32)), .val (.int p2), .val (.long q3), .second, .val (.long q4), .second] [(.long q3), (.int (49 : Int32))])) rfl (hb hby d1_12)) ?_
    show Rch _ _ _ _ (s₁.setTop (mkF m 15 #[.val (.int (0 : Int32)), .val (.int p2), .val (.long q3), .second, .val (.long q4), .second] [(.long (15 : Int64)), (.long q3), (.int (49 : Int32))]))
    refine Rch.go (fun zt zk => XS.land X0.here hx rfl (hb hby d1_15) rfl zk) ?_
    show Rch _ _ _ _ (s₁.setTop (mkF m 16 #[.val (.int (0 : Int32)), .val (.int p2), .val (.long q3), .second, .val (.long q4), .second] [(.long (q3 &&& (15 : Int64))), (.int (49 : Int32))]))
    refine Rch.go (X0.ldc2Long hx hown (mvT hZ (ow36 hw)) (g := (mkF m 16 #[.val (.int (0 : Int32)), .val (.int p2), .val (.long q3), .second, .val (.long q4), .second] [(.long (q3 &&& (15 : Int64))), (.int (49 : Int32))])) rfl (hb hby d1_16)) ?_
    show Rch _ _ _ _ (s₁.setTop (mkF m 19 #[.val (.int (0 : Int32)), .val (.int p2), .val (.long q3), .second, .val (.long q4), .second] [(.long (9 : Int64)), (.long (q3 &&& (15 : Int64))), (.int (49 : Int32))]))
    refine Rch.go (fun zt zk => XS.lrem X0.here hx rfl (hb hby d1_19) rfl (by decide : ¬ ((9 : Int64) = (0 : Int64))) zk) ?_
    show Rch _ _ _ _ (s₁.setTop (mkF m 20 #[.val (.int (0 : Int32)), .val (.int p2), .val (.long q3), .second, .val (.long q4), .second] [(.long ((q3 &&& (15 : Int64)) - ((q3 &&& (15 : Int64)) / (9 : Int64)) * (9 : Int64))), (.int (49 : Int32))]))
    refine Rch.go (fun zt zk => XS.l2i X0.here hx rfl (hb hby d1_20) rfl zk) ?_
    show Rch _ _ _ _ (s₁.setTop (mkF m 21 #[.val (.int (0 : Int32)), .val (.int p2), .val (.long q3), .second, .val (.long q4), .second] [(.int (((q3 &&& (15 : Int64)) - ((q3 &&& (15 : Int64)) / (9 : Int64)) * (9 : Int64)).toInt32)), (.int (49 : Int32))]))
    refine Rch.go (fun zt zk => XS.iadd X0.here hx rfl (hb hby d1_21) rfl zk) ?_
    show Rch _ _ _ _ (s₁.setTop (mkF m 22 #[.val (.int (0 : Int32)), .val (.int p2), .val (.long q3), .second, .val (.long q4), .second] [(.int ((49 : Int32) + (((q3 &&& (15 : Int64)) - ((q3 &&& (15 : Int64)) / (9 : Int64)) * (9 : Int64)).toInt32)))]))
    refine Rch.go (fun zt zk => XS.i2b X0.here hx rfl (hb hby d1_22) rfl zk) ?_
    show Rch _ _ _ _ (s₁.setTop (mkF m 23 #[.val (.int (0 : Int32)), .val (.int p2), .val (.long q3), .second, .val (.long q4), .second] [(.int (((49 : Int32) + (((q3 &&& (15 : Int64)) - ((q3 &&& (15 : Int64)) / (9 : Int64)) * (9 : Int64)).toInt32)).toInt8.toInt32))]))
    obtain ⟨fs, hr, hrun, hended, hW, hsame⟩ := X0.leave (v := some (.int (nar .byte (((49 : Int32) + (((q3 &&& (15 : Int64)) - ((q3 &&& (15 : Int64)) / (9 : Int64)) * (9 : Int64)).toInt32)).toInt8.toInt32)))) (fun h => by rw [Bd.returns] at h; cases h)
    refine Rch.mk (retN X0 hx (t := .byte) Bd.returns (by simp) (hb hby d1_23) hr) (hPd _ _ _ _ hrun hended rfl ?_ ⟨⟨_, rfl⟩, hW, hsame.mono (by decide) (by decide)⟩)
    show Q_rmAt0 Z p2 q3 q4 h0 n0 _ s₁.heap _
    have hF : fAt0 p2 q3 q4 = (nar .byte (((49 : Int32) + (((q3 &&& (15 : Int64)) - ((q3 &&& (15 : Int64)) / (9 : Int64)) * (9 : Int64)).toInt32)).toInt8.toInt32)) := ((if_pos hc2_101).trans rfl)
    rw [e0]
    exact ⟨by rw [hF], N0, rfl⟩
  · skip
    refine Rch.go (fun zt zk => XS.icmpYes X0.here hx rfl (pc0 := 2) (pc' := 43) rfl (hb hby d1_2) rfl (flt hc2_101).2.1 (by decide) (by decide) zk) ?_
    show Rch _ _ _ _ (s₁.setTop (mkF m 43 #[.val (.int (0 : Int32)), .val (.int p2), .val (.long q3), .second, .val (.long q4), .second] []))
    refine Rch.go (fun zt zk => XS.lload X0.here hx rfl (hb hby d1_43) rfl zk) ?_
    show Rch _ _ _ _ (s₁.setTop (mkF m 45 #[.val (.int (0 : Int32)), .val (.int p2), .val (.long q3), .second, .val (.long q4), .second] [(.long q4)]))
    refine Rch.go (fun zt zk => XS.iconst X0.here hx rfl (hb hby d1_45) zk) ?_
    show Rch _ _ _ _ (s₁.setTop (mkF m 46 #[.val (.int (0 : Int32)), .val (.int p2), .val (.long q3), .second, .val (.long q4), .second] [(.int (2 : Int32)), (.long q4)]))
    refine Rch.go (fun zt zk => XS.iloadN X0.here hx rfl (hb hby d1_46) rfl zk) ?_
    show Rch _ _ _ _ (s₁.setTop (mkF m 47 #[.val (.int (0 : Int32)), .val (.int p2), .val (.long q3), .second, .val (.long q4), .second] [(.int (0 : Int32)), (.int (2 : Int32)), (.long q4)]))
    refine Rch.go (fun zt zk => XS.imul X0.here hx rfl (hb hby d1_47) rfl zk) ?_
    show Rch _ _ _ _ (s₁.setTop (mkF m 48 #[.val (.int (0 : Int32)), .val (.int p2), .val (.long q3), .second, .val (.long q4), .second] [(.int ((2 : Int32) * (0 : Int32))), (.long q4)]))
    refine Rch.go (fun zt zk => XS.lushr X0.here hx rfl (hb hby d1_48) rfl zk) ?_
    show Rch _ _ _ _ (s₁.setTop (mkF m 49 #[.val (.int (0 : Int32)), .val (.int p2), .val (.long q3), .second, .val (.long q4), .second] [(.long ((q4.toUInt64 >>> (((2 : Int32) * (0 : Int32)) &&& 0x3f).toInt64.toUInt64).toInt64))]))
    refine Rch.go (X0.ldc2Long hx hown (mvT hZ (ow6 hw)) (g := (mkF m 49 #[.val (.int (0 : Int32)), .val (.int p2), .val (.long q3), .second, .val (.long q4), .second] [(.long ((q4.toUInt64 >>> (((2 : Int32) * (0 : Int32)) &&& 0x3f).toInt64.toUInt64).toInt64))])) rfl (hb hby d1_49)) ?_
    show Rch _ _ _ _ (s₁.setTop (mkF m 52 #[.val (.int (0 : Int32)), .val (.int p2), .val (.long q3), .second, .val (.long q4), .second] [(.long (3 : Int64)), (.long ((q4.toUInt64 >>> (((2 : Int32) * (0 : Int32)) &&& 0x3f).toInt64.toUInt64).toInt64))]))
    refine Rch.go (fun zt zk => XS.land X0.here hx rfl (hb hby d1_52) rfl zk) ?_
    show Rch _ _ _ _ (s₁.setTop (mkF m 53 #[.val (.int (0 : Int32)), .val (.int p2), .val (.long q3), .second, .val (.long q4), .second] [(.long (((q4.toUInt64 >>> (((2 : Int32) * (0 : Int32)) &&& 0x3f).toInt64.toUInt64).toInt64) &&& (3 : Int64)))]))
    refine Rch.go (fun zt zk => XS.l2i X0.here hx rfl (hb hby d1_53) rfl zk) ?_
    show Rch _ _ _ _ (s₁.setTop (mkF m 54 #[.val (.int (0 : Int32)), .val (.int p2), .val (.long q3), .second, .val (.long q4), .second] [(.int ((((q4.toUInt64 >>> (((2 : Int32) * (0 : Int32)) &&& 0x3f).toInt64.toUInt64).toInt64) &&& (3 : Int64)).toInt32))]))
    obtain ⟨_, _, ⟨T102, L102, k102, n102⟩, -, X102, ⟨Lc102, hQ102, l102, y102, z102⟩, st102⟩ := Jvm.LawKit.callS X0 hx (y := (⟨"com/example/mark_time/marktime/io/JsonCursorEndPinLaw", "space", "(I)B"⟩ : MethodName)) hown (mvT hZ (ow7 hw)) (mvT hZ (ow8 hw)) (mvT hZ (ow4 hw)) (mvT hZ (ow9 hw)) (by decide) (backOf (W := 0) (rm2 l Z a0 hw [] ((((q4.toUInt64 >>> (((2 : Int32) * (0 : Int32)) &&& 0x3f).toInt64.toUInt64).toInt64) &&& (3 : Int64)).toInt32) h0 n0 Z0 ) hZ (ow9 hw) (ow4 hw) (by decide) (by decide)) (g := (mkF m 54 #[.val (.int (0 : Int32)), .val (.int p2), .val (.long q3), .second, .val (.long q4), .second] [(.int ((((q4.toUInt64 >>> (((2 : Int32) * (0 : Int32)) &&& 0x3f).toInt64.toUInt64).toInt64) &&& (3 : Int64)).toInt32))])) rfl (by rw [hml]; rfl) (argsL := [(.int ((((q4.toUInt64 >>> (((2 : Int32) * (0 : Int32)) &&& 0x3f).toInt64.toUInt64).toInt64) &&& (3 : Int64)).toInt32))]) (rest := []) (lenOf pd__I_B rfl) rfl (by show 2 * 0 + _ ≤ _; exact Nat.le_of_eq rfl) (hb hby d1_54) (fun _ _ => ⟨rfl, e0, (by decide : 0 + 0 ≤ _), (by decide : 0 + 0 ≤ _)⟩)
    dsimp only [Pt.U, Pt.locs, Pt.cells, Pt.slots] at X102 l102 y102 z102 st102 hQ102
    subst l102 y102 z102
    obtain ⟨rfl, N102q, eq102⟩ := hQ102
    have N102 := Fr.app N0 N102q
    refine Rch.go st102 ?_
    show Rch _ _ _ _ (T102.setTop (mkF m 57 #[.val (.int (0 : Int32)), .val (.int p2), .val (.long q3), .second, .val (.long q4), .second] [(.int (fSp ((((q4.toUInt64 >>> (((2 : Int32) * (0 : Int32)) &&& 0x3f).toInt64.toUInt64).toInt64) &&& (3 : Int64)).toInt32)))]))
    obtain ⟨fs, hr, hrun, hended, hW, hsame⟩ := X102.leave (v := some (.int (nar .byte (fSp ((((q4.toUInt64 >>> (((2 : Int32) * (0 : Int32)) &&& 0x3f).toInt64.toUInt64).toInt64) &&& (3 : Int64)).toInt32))))) (fun h => by rw [Bd.returns] at h; cases h)
    refine Rch.mk (retN X102 hx (t := .byte) Bd.returns (by simp) (hb hby d1_57) hr) (hPd _ _ _ _ hrun hended rfl ?_ ⟨⟨_, rfl⟩, hW, hsame.mono (by decide) (by decide)⟩)
    show Q_rmAt0 Z p2 q3 q4 h0 n0 _ T102.heap _
    have hF : fAt0 p2 q3 q4 = (nar .byte (fSp ((((q4.toUInt64 >>> (((2 : Int32) * (0 : Int32)) &&& 0x3f).toInt64.toUInt64).toInt64) &&& (3 : Int64)).toInt32))) := ((if_neg hc2_101).trans rfl)
    rw [eq102]
    exact ⟨by rw [hF], N102, rfl⟩
def fAt1 (p2 : Int32) (q3 : Int64) (q4 : Int64) : Int32 := (if (1 : Int32) < p2 then (nar .byte (((48 : Int32) + (((((q3.toUInt64 >>> (((4 : Int32) * (1 : Int32)) &&& 0x3f).toInt64.toUInt64).toInt64) &&& (15 : Int64)) - ((((q3.toUInt64 >>> (((4 : Int32) * (1 : Int32)) &&& 0x3f).toInt64.toUInt64).toInt64) &&& (15 : Int64)) / (10 : Int64)) * (10 : Int64)).toInt32)).toInt8.toInt32)) else (nar .byte (fSp ((((q4.toUInt64 >>> (((2 : Int32) * (1 : Int32)) &&& 0x3f).toInt64.toUInt64).toInt64) &&& (3 : Int64)).toInt32))))
theorem ef_rmAt1 (m : MethodId) (p2 : Int32) (q3 : Int64) (q4 : Int64) : entryFrame m #[(.int (1 : Int32)), (.int p2), (.long q3), (.long q4)] 6 = mkF m 0 #[.val (.int (1 : Int32)), .val (.int p2), .val (.long q3), .second, .val (.long q4), .second] [] := by first | (simp [entryFrame, mkF, argsToLocals, Value.category]; done) | rfl
theorem d1_24 : decode method_3_code 24 = .ok (.bipush 48, 2) := by decide +kernel
theorem d1_26 : decode method_3_code 26 = .ok (.lload_n 2, 1) := by decide +kernel
theorem d1_27 : decode method_3_code 27 = .ok (.iconst 4, 1) := by decide +kernel
theorem d1_28 : decode method_3_code 28 = .ok (.iload_n 0, 1) := by decide +kernel
theorem d1_29 : decode method_3_code 29 = .ok (.imul, 1) := by decide +kernel
theorem d1_30 : decode method_3_code 30 = .ok (.lushr, 1) := by decide +kernel
theorem d1_31 : decode method_3_code 31 = .ok (.ldc2_w 32, 3) := by decide +kernel
theorem d1_34 : decode method_3_code 34 = .ok (.land, 1) := by decide +kernel
theorem d1_35 : decode method_3_code 35 = .ok (.ldc2_w 36, 3) := by decide +kernel
theorem d1_38 : decode method_3_code 38 = .ok (.lrem, 1) := by decide +kernel
theorem d1_39 : decode method_3_code 39 = .ok (.l2i, 1) := by decide +kernel
theorem d1_40 : decode method_3_code 40 = .ok (.iadd, 1) := by decide +kernel
theorem d1_41 : decode method_3_code 41 = .ok (.i2b, 1) := by decide +kernel
theorem d1_42 : decode method_3_code 42 = .ok (.ireturn, 1) := by decide +kernel
def Q_rmAt1 (Z : State) (p2 : Int32) (q3 : Int64) (q4 : Int64) (h0 : Heap) (n0 : Nat) (v : Option Value) (h : Heap) (L : List Loc) : Prop := v = some (.int (fAt1 p2 q3 q4)) ∧ Fr n0 L ∧ h = h0
set_option maxRecDepth 65536 in
set_option maxHeartbeats 40000000 in
theorem rmAt1 (l : Launch) (Z : State) (a0 : Array Value) (hw : ∀ d ∈ tables_1, d.before a0 Z = true) (ws : List Jvm.Cond) (p2 : Int32) (q3 : Int64) (q4 : Int64) (h0 : Heap) (n0 : Nat) (Z0 : n0 ≤ h0.size) :
    MetFree l (⟨"com/example/mark_time/marktime/io/JsonCursorEndPinLaw", "at", "(IIJJ)B"⟩ : MethodName) (head1 (Jvm.Cond.code (⟨"com/example/mark_time/marktime/io/JsonCursorEndPinLaw", "at", "(IIJJ)B"⟩ : MethodName) method_3_code 6 (some .byte) :: ws) ({ frames := 1, cells := 0, slots := 0, locals := 12 } : Room)) (fun a U => a = #[(.int (1 : Int32)), (.int p2), (.long q3), (.long q4)] ∧ Z.Warmed39 U.vm ∧ U.heap = h0) (fun _ _ _ _ _ => True) (fun _ U o U' => ∃ v L, o = .returned v ∧ Q_rmAt1 Z p2 q3 q4 h0 n0 v U'.heap L ∧ FrameEnd U o U' L ({ frames := 1, cells := 0, slots := 0, locals := 12 } : Room).cells ({ frames := 1, cells := 0, slots := 0, locals := 12 } : Room).slots) := by
  refine MetFree.of_bodySF (plainFor_of_name pn_com_example_mark_time_marktime_io_JsonCursorEndPinLaw) hisR ?_
  intro p e s m args below meth c s₁ Bd hml0 hP hK
  obtain ⟨rfl, hZ, hh⟩ := hP
  have hx := Bd.exec
  have hby := Bd.bytes
  have hml : c.maxLocals = 6 := hml0
  have hown : s.vm.findClass "com/example/mark_time/marktime/io/JsonCursorEndPinLaw" = some m.cls := findClass_of_methodNamed Bd.named
  have hnm := (name_of_methodNamed Bd.named Bd.method).1
  have X0 : Stand p l e ({ frames := 1, cells := 0, slots := 0, locals := 12 } : Room) s m #[(.int (1 : Int32)), (.int p2), (.long q3), (.long q4)] below meth c s₁ [] 0 0 := Stand.of_body Bd
  have e0 : s₁.heap = h0 := by rw [← hh, Bd.state]; rfl
  have N0 := Fr.nil n0
  suffices hR : ∀ P : State → Prop, (∀ s₂ o v L, s₂.status = .running → Ended s₂ below o → o = .returned v → Q_rmAt1 Z p2 q3 q4 h0 n0 v s₂.heap L → FrameEnd s o s₂ L ({ frames := 1, cells := 0, slots := 0, locals := 12 } : Room).cells ({ frames := 1, cells := 0, slots := 0, locals := 12 } : Room).slots → P s₂) → Rch p.tables e below P (s₁.setTop (mkF m 0 #[.val (.int (1 : Int32)), .val (.int p2), .val (.long q3), .second, .val (.long q4), .second] [])) by
    obtain ⟨s₂, h1, o, h2⟩ := hR (fun s₂ => ∃ o, s₂.status = .running ∧ Ended s₂ below o ∧ ∃ v L, o = .returned v ∧ Q_rmAt1 Z p2 q3 q4 h0 n0 v s₂.heap L ∧ FrameEnd s o s₂ L ({ frames := 1, cells := 0, slots := 0, locals := 12 } : Room).cells ({ frames := 1, cells := 0, slots := 0, locals := 12 } : Room).slots) (fun s₂ o v L q1 q2 q3 q4 q5 => ⟨o, q1, q2, v, L, q3, q4, q5⟩)
    exact ⟨s₂, o, castTop (ef_rmAt1 m p2 q3 q4) h1, h2⟩
  intro P hPd
  refine Rch.go (fun zt zk => XS.iloadN X0.here hx rfl (hb hby d1_0) rfl zk) ?_
  show Rch _ _ _ _ (s₁.setTop (mkF m 1 #[.val (.int (1 : Int32)), .val (.int p2), .val (.long q3), .second, .val (.long q4), .second] [(.int (1 : Int32))]))
  refine Rch.go (fun zt zk => XS.iloadN X0.here hx rfl (hb hby d1_1) rfl zk) ?_
  show Rch _ _ _ _ (s₁.setTop (mkF m 2 #[.val (.int (1 : Int32)), .val (.int p2), .val (.long q3), .second, .val (.long q4), .second] [(.int p2), (.int (1 : Int32))]))
  by_cases hc2_101 : (1 : Int32) < p2
  · skip
    refine Rch.go (fun zt zk => XS.icmpNo X0.here hx rfl (hb hby d1_2) rfl (tlt hc2_101).2.1 zk) ?_
    show Rch _ _ _ _ (s₁.setTop (mkF m 5 #[.val (.int (1 : Int32)), .val (.int p2), .val (.long q3), .second, .val (.long q4), .second] []))
    refine Rch.go (fun zt zk => XS.iloadN X0.here hx rfl (hb hby d1_5) rfl zk) ?_
    show Rch _ _ _ _ (s₁.setTop (mkF m 6 #[.val (.int (1 : Int32)), .val (.int p2), .val (.long q3), .second, .val (.long q4), .second] [(.int (1 : Int32))]))
    refine Rch.go (fun zt zk => XS.ifYes X0.here hx rfl (pc0 := 6) (pc' := 24) rfl (hb hby d1_6) rfl ((if0 _ _).trans (feq (by decide : ¬ ((1 : Int32) = (0 : Int32)))).2) (by decide) (by decide) zk) ?_
    show Rch _ _ _ _ (s₁.setTop (mkF m 24 #[.val (.int (1 : Int32)), .val (.int p2), .val (.long q3), .second, .val (.long q4), .second] []))
    refine Rch.go (fun zt zk => XS.bipush X0.here hx rfl (hb hby d1_24) zk) ?_
    show Rch _ _ _ _ (s₁.setTop (mkF m 26 #[.val (.int (1 : Int32)), .val (.int p2), .val (.long q3), .second, .val (.long q4), .second] [(.int (48 : Int32))]))
    refine Rch.go (fun zt zk => XS.lloadN X0.here hx rfl (hb hby d1_26) rfl zk) ?_
    show Rch _ _ _ _ (s₁.setTop (mkF m 27 #[.val (.int (1 : Int32)), .val (.int p2), .val (.long q3), .second, .val (.long q4), .second] [(.long q3), (.int (48 : Int32))]))
    refine Rch.go (fun zt zk => XS.iconst X0.here hx rfl (hb hby d1_27) zk) ?_
    show Rch _ _ _ _ (s₁.setTop (mkF m 28 #[.val (.int (1 : Int32)), .val (.int p2), .val (.long q3), .second, .val (.long q4), .second] [(.int (4 : Int32)), (.long q3), (.int (48 : Int32))]))
    refine Rch.go (fun zt zk => XS.iloadN X0.here hx rfl (hb hby d1_28) rfl zk) ?_
    show Rch _ _ _ _ (s₁.setTop (mkF m 29 #[.val (.int (1 : Int32)), .val (.int p2), .val (.long q3), .second, .val (.long q4), .second] [(.int (1 : Int32)), (.int (4 : Int32)), (.long q3), (.int (48 : Int32))]))
    refine Rch.go (fun zt zk => XS.imul X0.here hx rfl (hb hby d1_29) rfl zk) ?_
    show Rch _ _ _ _ (s₁.setTop (mkF m 30 #[.val (.int (1 : Int32)), .val (.int p2), .val (.long q3), .second, .val (.long q4), .second] [(.int ((4 : Int32) * (1 : Int32))), (.long q3), (.int (48 : Int32))]))
    refine Rch.go (fun zt zk => XS.lushr X0.here hx rfl (hb hby d1_30) rfl zk) ?_
    show Rch _ _ _ _ (s₁.setTop (mkF m 31 #[.val (.int (1 : Int32)), .val (.int p2), .val (.long q3), .second, .val (.long q4), .second] [(.long ((q3.toUInt64 >>> (((4 : Int32) * (1 : Int32)) &&& 0x3f).toInt64.toUInt64).toInt64)), (.int (48 : Int32))]))
    refine Rch.go (X0.ldc2Long hx hown (mvT hZ (ow35 hw)) (g := (mkF m 31 #[.val (.int (1 : Int32)), .val (.int p2), .val (.long q3), .second, .val (.long q4), .second] [(.long ((q3.toUInt64 >>> (((4 : Int32) * (1 : Int32)) &&& 0x3f).toInt64.toUInt64).toInt64)), (.int (48 : Int32))])) rfl (hb hby d1_31)) ?_
    show Rch _ _ _ _ (s₁.setTop (mkF m 34 #[.val (.int (1 : Int32)), .val (.int p2), .val (.long q3), .second, .val (.long q4), .second] [(.long (15 : Int64)), (.long ((q3.toUInt64 >>> (((4 : Int32) * (1 : Int32)) &&& 0x3f).toInt64.toUInt64).toInt64)), (.int (48 : Int32))]))
    refine Rch.go (fun zt zk => XS.land X0.here hx rfl (hb hby d1_34) rfl zk) ?_
    show Rch _ _ _ _ (s₁.setTop (mkF m 35 #[.val (.int (1 : Int32)), .val (.int p2), .val (.long q3), .second, .val (.long q4), .second] [(.long (((q3.toUInt64 >>> (((4 : Int32) * (1 : Int32)) &&& 0x3f).toInt64.toUInt64).toInt64) &&& (15 : Int64))), (.int (48 : Int32))]))
    refine Rch.go (X0.ldc2Long hx hown (mvT hZ (ow37 hw)) (g := (mkF m 35 #[.val (.int (1 : Int32)), .val (.int p2), .val (.long q3), .second, .val (.long q4), .second] [(.long (((q3.toUInt64 >>> (((4 : Int32) * (1 : Int32)) &&& 0x3f).toInt64.toUInt64).toInt64) &&& (15 : Int64))), (.int (48 : Int32))])) rfl (hb hby d1_35)) ?_
    show Rch _ _ _ _ (s₁.setTop (mkF m 38 #[.val (.int (1 : Int32)), .val (.int p2), .val (.long q3), .second, .val (.long q4), .second] [(.long (10 : Int64)), (.long (((q3.toUInt64 >>> (((4 : Int32) * (1 : Int32)) &&& 0x3f).toInt64.toUInt64).toInt64) &&& (15 : Int64))), (.int (48 : Int32))]))
    refine Rch.go (fun zt zk => XS.lrem X0.here hx rfl (hb hby d1_38) rfl (by decide : ¬ ((10 : Int64) = (0 : Int64))) zk) ?_
    show Rch _ _ _ _ (s₁.setTop (mkF m 39 #[.val (.int (1 : Int32)), .val (.int p2), .val (.long q3), .second, .val (.long q4), .second] [(.long ((((q3.toUInt64 >>> (((4 : Int32) * (1 : Int32)) &&& 0x3f).toInt64.toUInt64).toInt64) &&& (15 : Int64)) - ((((q3.toUInt64 >>> (((4 : Int32) * (1 : Int32)) &&& 0x3f).toInt64.toUInt64).toInt64) &&& (15 : Int64)) / (10 : Int64)) * (10 : Int64))), (.int (48 : Int32))]))
    refine Rch.go (fun zt zk => XS.l2i X0.here hx rfl (hb hby d1_39) rfl zk) ?_
    show Rch _ _ _ _ (s₁.setTop (mkF m 40 #[.val (.int (1 : Int32)), .val (.int p2), .val (.long q3), .second, .val (.long q4), .second] [(.int (((((q3.toUInt64 >>> (((4 : Int32) * (1 : Int32)) &&& 0x3f).toInt64.toUInt64).toInt64) &&& (15 : Int64)) - ((((q3.toUInt64 >>> (((4 : Int32) * (1 : Int32)) &&& 0x3f).toInt64.toUInt64).toInt64) &&& (15 : Int64)) / (10 : Int64)) * (10 : Int64)).toInt32)), (.int (48 : Int32))]))
    refine Rch.go (fun zt zk => XS.iadd X0.here hx rfl (hb hby d1_40) rfl zk) ?_
    show Rch _ _ _ _ (s₁.setTop (mkF m 41 #[.val (.int (1 : Int32)), .val (.int p2), .val (.long q3), .second, .val (.long q4), .second] [(.int ((48 : Int32) + (((((q3.toUInt64 >>> (((4 : Int32) * (1 : Int32)) &&& 0x3f).toInt64.toUInt64).toInt64) &&& (15 : Int64)) - ((((q3.toUInt64 >>> (((4 : Int32) * (1 : Int32)) &&& 0x3f).toInt64.toUInt64).toInt64) &&& (15 : Int64)) / (10 : Int64)) * (10 : Int64)).toInt32)))]))
    refine Rch.go (fun zt zk => XS.i2b X0.here hx rfl (hb hby d1_41) rfl zk) ?_
    show Rch _ _ _ _ (s₁.setTop (mkF m 42 #[.val (.int (1 : Int32)), .val (.int p2), .val (.long q3), .second, .val (.long q4), .second] [(.int (((48 : Int32) + (((((q3.toUInt64 >>> (((4 : Int32) * (1 : Int32)) &&& 0x3f).toInt64.toUInt64).toInt64) &&& (15 : Int64)) - ((((q3.toUInt64 >>> (((4 : Int32) * (1 : Int32)) &&& 0x3f).toInt64.toUInt64).toInt64) &&& (15 : Int64)) / (10 : Int64)) * (10 : Int64)).toInt32)).toInt8.toInt32))]))
    obtain ⟨fs, hr, hrun, hended, hW, hsame⟩ := X0.leave (v := some (.int (nar .byte (((48 : Int32) + (((((q3.toUInt64 >>> (((4 : Int32) * (1 : Int32)) &&& 0x3f).toInt64.toUInt64).toInt64) &&& (15 : Int64)) - ((((q3.toUInt64 >>> (((4 : Int32) * (1 : Int32)) &&& 0x3f).toInt64.toUInt64).toInt64) &&& (15 : Int64)) / (10 : Int64)) * (10 : Int64)).toInt32)).toInt8.toInt32)))) (fun h => by rw [Bd.returns] at h; cases h)
    refine Rch.mk (retN X0 hx (t := .byte) Bd.returns (by simp) (hb hby d1_42) hr) (hPd _ _ _ _ hrun hended rfl ?_ ⟨⟨_, rfl⟩, hW, hsame.mono (by decide) (by decide)⟩)
    show Q_rmAt1 Z p2 q3 q4 h0 n0 _ s₁.heap _
    have hF : fAt1 p2 q3 q4 = (nar .byte (((48 : Int32) + (((((q3.toUInt64 >>> (((4 : Int32) * (1 : Int32)) &&& 0x3f).toInt64.toUInt64).toInt64) &&& (15 : Int64)) - ((((q3.toUInt64 >>> (((4 : Int32) * (1 : Int32)) &&& 0x3f).toInt64.toUInt64).toInt64) &&& (15 : Int64)) / (10 : Int64)) * (10 : Int64)).toInt32)).toInt8.toInt32)) := ((if_pos hc2_101).trans rfl)
    rw [e0]
    exact ⟨by rw [hF], N0, rfl⟩
  · skip
    refine Rch.go (fun zt zk => XS.icmpYes X0.here hx rfl (pc0 := 2) (pc' := 43) rfl (hb hby d1_2) rfl (flt hc2_101).2.1 (by decide) (by decide) zk) ?_
    show Rch _ _ _ _ (s₁.setTop (mkF m 43 #[.val (.int (1 : Int32)), .val (.int p2), .val (.long q3), .second, .val (.long q4), .second] []))
    refine Rch.go (fun zt zk => XS.lload X0.here hx rfl (hb hby d1_43) rfl zk) ?_
    show Rch _ _ _ _ (s₁.setTop (mkF m 45 #[.val (.int (1 : Int32)), .val (.int p2), .val (.long q3), .second, .val (.long q4), .second] [(.long q4)]))
    refine Rch.go (fun zt zk => XS.iconst X0.here hx rfl (hb hby d1_45) zk) ?_
    show Rch _ _ _ _ (s₁.setTop (mkF m 46 #[.val (.int (1 : Int32)), .val (.int p2), .val (.long q3), .second, .val (.long q4), .second] [(.int (2 : Int32)), (.long q4)]))
    refine Rch.go (fun zt zk => XS.iloadN X0.here hx rfl (hb hby d1_46) rfl zk) ?_
    show Rch _ _ _ _ (s₁.setTop (mkF m 47 #[.val (.int (1 : Int32)), .val (.int p2), .val (.long q3), .second, .val (.long q4), .second] [(.int (1 : Int32)), (.int (2 : Int32)), (.long q4)]))
    refine Rch.go (fun zt zk => XS.imul X0.here hx rfl (hb hby d1_47) rfl zk) ?_
    show Rch _ _ _ _ (s₁.setTop (mkF m 48 #[.val (.int (1 : Int32)), .val (.int p2), .val (.long q3), .second, .val (.long q4), .second] [(.int ((2 : Int32) * (1 : Int32))), (.long q4)]))
    refine Rch.go (fun zt zk => XS.lushr X0.here hx rfl (hb hby d1_48) rfl zk) ?_
    show Rch _ _ _ _ (s₁.setTop (mkF m 49 #[.val (.int (1 : Int32)), .val (.int p2), .val (.long q3), .second, .val (.long q4), .second] [(.long ((q4.toUInt64 >>> (((2 : Int32) * (1 : Int32)) &&& 0x3f).toInt64.toUInt64).toInt64))]))
    refine Rch.go (X0.ldc2Long hx hown (mvT hZ (ow6 hw)) (g := (mkF m 49 #[.val (.int (1 : Int32)), .val (.int p2), .val (.long q3), .second, .val (.long q4), .second] [(.long ((q4.toUInt64 >>> (((2 : Int32) * (1 : Int32)) &&& 0x3f).toInt64.toUInt64).toInt64))])) rfl (hb hby d1_49)) ?_
    show Rch _ _ _ _ (s₁.setTop (mkF m 52 #[.val (.int (1 : Int32)), .val (.int p2), .val (.long q3), .second, .val (.long q4), .second] [(.long (3 : Int64)), (.long ((q4.toUInt64 >>> (((2 : Int32) * (1 : Int32)) &&& 0x3f).toInt64.toUInt64).toInt64))]))
    refine Rch.go (fun zt zk => XS.land X0.here hx rfl (hb hby d1_52) rfl zk) ?_
    show Rch _ _ _ _ (s₁.setTop (mkF m 53 #[.val (.int (1 : Int32)), .val (.int p2), .val (.long q3), .second, .val (.long q4), .second] [(.long (((q4.toUInt64 >>> (((2 : Int32) * (1 : Int32)) &&& 0x3f).toInt64.toUInt64).toInt64) &&& (3 : Int64)))]))
    refine Rch.go (fun zt zk => XS.l2i X0.here hx rfl (hb hby d1_53) rfl zk) ?_
    show Rch _ _ _ _ (s₁.setTop (mkF m 54 #[.val (.int (1 : Int32)), .val (.int p2), .val (.long q3), .second, .val (.long q4), .second] [(.int ((((q4.toUInt64 >>> (((2 : Int32) * (1 : Int32)) &&& 0x3f).toInt64.toUInt64).toInt64) &&& (3 : Int64)).toInt32))]))
    obtain ⟨_, _, ⟨T102, L102, k102, n102⟩, -, X102, ⟨Lc102, hQ102, l102, y102, z102⟩, st102⟩ := Jvm.LawKit.callS X0 hx (y := (⟨"com/example/mark_time/marktime/io/JsonCursorEndPinLaw", "space", "(I)B"⟩ : MethodName)) hown (mvT hZ (ow7 hw)) (mvT hZ (ow8 hw)) (mvT hZ (ow4 hw)) (mvT hZ (ow9 hw)) (by decide) (backOf (W := 0) (rm2 l Z a0 hw [] ((((q4.toUInt64 >>> (((2 : Int32) * (1 : Int32)) &&& 0x3f).toInt64.toUInt64).toInt64) &&& (3 : Int64)).toInt32) h0 n0 Z0 ) hZ (ow9 hw) (ow4 hw) (by decide) (by decide)) (g := (mkF m 54 #[.val (.int (1 : Int32)), .val (.int p2), .val (.long q3), .second, .val (.long q4), .second] [(.int ((((q4.toUInt64 >>> (((2 : Int32) * (1 : Int32)) &&& 0x3f).toInt64.toUInt64).toInt64) &&& (3 : Int64)).toInt32))])) rfl (by rw [hml]; rfl) (argsL := [(.int ((((q4.toUInt64 >>> (((2 : Int32) * (1 : Int32)) &&& 0x3f).toInt64.toUInt64).toInt64) &&& (3 : Int64)).toInt32))]) (rest := []) (lenOf pd__I_B rfl) rfl (by show 2 * 0 + _ ≤ _; exact Nat.le_of_eq rfl) (hb hby d1_54) (fun _ _ => ⟨rfl, e0, (by decide : 0 + 0 ≤ _), (by decide : 0 + 0 ≤ _)⟩)
    dsimp only [Pt.U, Pt.locs, Pt.cells, Pt.slots] at X102 l102 y102 z102 st102 hQ102
    subst l102 y102 z102
    obtain ⟨rfl, N102q, eq102⟩ := hQ102
    have N102 := Fr.app N0 N102q
    refine Rch.go st102 ?_
    show Rch _ _ _ _ (T102.setTop (mkF m 57 #[.val (.int (1 : Int32)), .val (.int p2), .val (.long q3), .second, .val (.long q4), .second] [(.int (fSp ((((q4.toUInt64 >>> (((2 : Int32) * (1 : Int32)) &&& 0x3f).toInt64.toUInt64).toInt64) &&& (3 : Int64)).toInt32)))]))
    obtain ⟨fs, hr, hrun, hended, hW, hsame⟩ := X102.leave (v := some (.int (nar .byte (fSp ((((q4.toUInt64 >>> (((2 : Int32) * (1 : Int32)) &&& 0x3f).toInt64.toUInt64).toInt64) &&& (3 : Int64)).toInt32))))) (fun h => by rw [Bd.returns] at h; cases h)
    refine Rch.mk (retN X102 hx (t := .byte) Bd.returns (by simp) (hb hby d1_57) hr) (hPd _ _ _ _ hrun hended rfl ?_ ⟨⟨_, rfl⟩, hW, hsame.mono (by decide) (by decide)⟩)
    show Q_rmAt1 Z p2 q3 q4 h0 n0 _ T102.heap _
    have hF : fAt1 p2 q3 q4 = (nar .byte (fSp ((((q4.toUInt64 >>> (((2 : Int32) * (1 : Int32)) &&& 0x3f).toInt64.toUInt64).toInt64) &&& (3 : Int64)).toInt32))) := ((if_neg hc2_101).trans rfl)
    rw [eq102]
    exact ⟨by rw [hF], N102, rfl⟩
def fAt2 (p2 : Int32) (q3 : Int64) (q4 : Int64) : Int32 := (if (2 : Int32) < p2 then (nar .byte (((48 : Int32) + (((((q3.toUInt64 >>> (((4 : Int32) * (2 : Int32)) &&& 0x3f).toInt64.toUInt64).toInt64) &&& (15 : Int64)) - ((((q3.toUInt64 >>> (((4 : Int32) * (2 : Int32)) &&& 0x3f).toInt64.toUInt64).toInt64) &&& (15 : Int64)) / (10 : Int64)) * (10 : Int64)).toInt32)).toInt8.toInt32)) else (nar .byte (fSp ((((q4.toUInt64 >>> (((2 : Int32) * (2 : Int32)) &&& 0x3f).toInt64.toUInt64).toInt64) &&& (3 : Int64)).toInt32))))
theorem ef_rmAt2 (m : MethodId) (p2 : Int32) (q3 : Int64) (q4 : Int64) : entryFrame m #[(.int (2 : Int32)), (.int p2), (.long q3), (.long q4)] 6 = mkF m 0 #[.val (.int (2 : Int32)), .val (.int p2), .val (.long q3), .second, .val (.long q4), .second] [] := by first | (simp [entryFrame, mkF, argsToLocals, Value.category]; done) | rfl
def Q_rmAt2 (Z : State) (p2 : Int32) (q3 : Int64) (q4 : Int64) (h0 : Heap) (n0 : Nat) (v : Option Value) (h : Heap) (L : List Loc) : Prop := v = some (.int (fAt2 p2 q3 q4)) ∧ Fr n0 L ∧ h = h0
set_option maxRecDepth 65536 in
set_option maxHeartbeats 40000000 in
theorem rmAt2 (l : Launch) (Z : State) (a0 : Array Value) (hw : ∀ d ∈ tables_1, d.before a0 Z = true) (ws : List Jvm.Cond) (p2 : Int32) (q3 : Int64) (q4 : Int64) (h0 : Heap) (n0 : Nat) (Z0 : n0 ≤ h0.size) :
    MetFree l (⟨"com/example/mark_time/marktime/io/JsonCursorEndPinLaw", "at", "(IIJJ)B"⟩ : MethodName) (head1 (Jvm.Cond.code (⟨"com/example/mark_time/marktime/io/JsonCursorEndPinLaw", "at", "(IIJJ)B"⟩ : MethodName) method_3_code 6 (some .byte) :: ws) ({ frames := 1, cells := 0, slots := 0, locals := 12 } : Room)) (fun a U => a = #[(.int (2 : Int32)), (.int p2), (.long q3), (.long q4)] ∧ Z.Warmed39 U.vm ∧ U.heap = h0) (fun _ _ _ _ _ => True) (fun _ U o U' => ∃ v L, o = .returned v ∧ Q_rmAt2 Z p2 q3 q4 h0 n0 v U'.heap L ∧ FrameEnd U o U' L ({ frames := 1, cells := 0, slots := 0, locals := 12 } : Room).cells ({ frames := 1, cells := 0, slots := 0, locals := 12 } : Room).slots) := by
  refine MetFree.of_bodySF (plainFor_of_name pn_com_example_mark_time_marktime_io_JsonCursorEndPinLaw) hisR ?_
  intro p e s m args below meth c s₁ Bd hml0 hP hK
  obtain ⟨rfl, hZ, hh⟩ := hP
  have hx := Bd.exec
  have hby := Bd.bytes
  have hml : c.maxLocals = 6 := hml0
  have hown : s.vm.findClass "com/example/mark_time/marktime/io/JsonCursorEndPinLaw" = some m.cls := findClass_of_methodNamed Bd.named
  have hnm := (name_of_methodNamed Bd.named Bd.method).1
  have X0 : Stand p l e ({ frames := 1, cells := 0, slots := 0, locals := 12 } : Room) s m #[(.int (2 : Int32)), (.int p2), (.long q3), (.long q4)] below meth c s₁ [] 0 0 := Stand.of_body Bd
  have e0 : s₁.heap = h0 := by rw [← hh, Bd.state]; rfl
  have N0 := Fr.nil n0
  suffices hR : ∀ P : State → Prop, (∀ s₂ o v L, s₂.status = .running → Ended s₂ below o → o = .returned v → Q_rmAt2 Z p2 q3 q4 h0 n0 v s₂.heap L → FrameEnd s o s₂ L ({ frames := 1, cells := 0, slots := 0, locals := 12 } : Room).cells ({ frames := 1, cells := 0, slots := 0, locals := 12 } : Room).slots → P s₂) → Rch p.tables e below P (s₁.setTop (mkF m 0 #[.val (.int (2 : Int32)), .val (.int p2), .val (.long q3), .second, .val (.long q4), .second] [])) by
    obtain ⟨s₂, h1, o, h2⟩ := hR (fun s₂ => ∃ o, s₂.status = .running ∧ Ended s₂ below o ∧ ∃ v L, o = .returned v ∧ Q_rmAt2 Z p2 q3 q4 h0 n0 v s₂.heap L ∧ FrameEnd s o s₂ L ({ frames := 1, cells := 0, slots := 0, locals := 12 } : Room).cells ({ frames := 1, cells := 0, slots := 0, locals := 12 } : Room).slots) (fun s₂ o v L q1 q2 q3 q4 q5 => ⟨o, q1, q2, v, L, q3, q4, q5⟩)
    exact ⟨s₂, o, castTop (ef_rmAt2 m p2 q3 q4) h1, h2⟩
  intro P hPd
  refine Rch.go (fun zt zk => XS.iloadN X0.here hx rfl (hb hby d1_0) rfl zk) ?_
  show Rch _ _ _ _ (s₁.setTop (mkF m 1 #[.val (.int (2 : Int32)), .val (.int p2), .val (.long q3), .second, .val (.long q4), .second] [(.int (2 : Int32))]))
  refine Rch.go (fun zt zk => XS.iloadN X0.here hx rfl (hb hby d1_1) rfl zk) ?_
  show Rch _ _ _ _ (s₁.setTop (mkF m 2 #[.val (.int (2 : Int32)), .val (.int p2), .val (.long q3), .second, .val (.long q4), .second] [(.int p2), (.int (2 : Int32))]))
  by_cases hc2_101 : (2 : Int32) < p2
  · skip
    refine Rch.go (fun zt zk => XS.icmpNo X0.here hx rfl (hb hby d1_2) rfl (tlt hc2_101).2.1 zk) ?_
    show Rch _ _ _ _ (s₁.setTop (mkF m 5 #[.val (.int (2 : Int32)), .val (.int p2), .val (.long q3), .second, .val (.long q4), .second] []))
    refine Rch.go (fun zt zk => XS.iloadN X0.here hx rfl (hb hby d1_5) rfl zk) ?_
    show Rch _ _ _ _ (s₁.setTop (mkF m 6 #[.val (.int (2 : Int32)), .val (.int p2), .val (.long q3), .second, .val (.long q4), .second] [(.int (2 : Int32))]))
    refine Rch.go (fun zt zk => XS.ifYes X0.here hx rfl (pc0 := 6) (pc' := 24) rfl (hb hby d1_6) rfl ((if0 _ _).trans (feq (by decide : ¬ ((2 : Int32) = (0 : Int32)))).2) (by decide) (by decide) zk) ?_
    show Rch _ _ _ _ (s₁.setTop (mkF m 24 #[.val (.int (2 : Int32)), .val (.int p2), .val (.long q3), .second, .val (.long q4), .second] []))
    refine Rch.go (fun zt zk => XS.bipush X0.here hx rfl (hb hby d1_24) zk) ?_
    show Rch _ _ _ _ (s₁.setTop (mkF m 26 #[.val (.int (2 : Int32)), .val (.int p2), .val (.long q3), .second, .val (.long q4), .second] [(.int (48 : Int32))]))
    refine Rch.go (fun zt zk => XS.lloadN X0.here hx rfl (hb hby d1_26) rfl zk) ?_
    show Rch _ _ _ _ (s₁.setTop (mkF m 27 #[.val (.int (2 : Int32)), .val (.int p2), .val (.long q3), .second, .val (.long q4), .second] [(.long q3), (.int (48 : Int32))]))
    refine Rch.go (fun zt zk => XS.iconst X0.here hx rfl (hb hby d1_27) zk) ?_
    show Rch _ _ _ _ (s₁.setTop (mkF m 28 #[.val (.int (2 : Int32)), .val (.int p2), .val (.long q3), .second, .val (.long q4), .second] [(.int (4 : Int32)), (.long q3), (.int (48 : Int32))]))
    refine Rch.go (fun zt zk => XS.iloadN X0.here hx rfl (hb hby d1_28) rfl zk) ?_
    show Rch _ _ _ _ (s₁.setTop (mkF m 29 #[.val (.int (2 : Int32)), .val (.int p2), .val (.long q3), .second, .val (.long q4), .second] [(.int (2 : Int32)), (.int (4 : Int32)), (.long q3), (.int (48 : Int32))]))
    refine Rch.go (fun zt zk => XS.imul X0.here hx rfl (hb hby d1_29) rfl zk) ?_
    show Rch _ _ _ _ (s₁.setTop (mkF m 30 #[.val (.int (2 : Int32)), .val (.int p2), .val (.long q3), .second, .val (.long q4), .second] [(.int ((4 : Int32) * (2 : Int32))), (.long q3), (.int (48 : Int32))]))
    refine Rch.go (fun zt zk => XS.lushr X0.here hx rfl (hb hby d1_30) rfl zk) ?_
    show Rch _ _ _ _ (s₁.setTop (mkF m 31 #[.val (.int (2 : Int32)), .val (.int p2), .val (.long q3), .second, .val (.long q4), .second] [(.long ((q3.toUInt64 >>> (((4 : Int32) * (2 : Int32)) &&& 0x3f).toInt64.toUInt64).toInt64)), (.int (48 : Int32))]))
    refine Rch.go (X0.ldc2Long hx hown (mvT hZ (ow35 hw)) (g := (mkF m 31 #[.val (.int (2 : Int32)), .val (.int p2), .val (.long q3), .second, .val (.long q4), .second] [(.long ((q3.toUInt64 >>> (((4 : Int32) * (2 : Int32)) &&& 0x3f).toInt64.toUInt64).toInt64)), (.int (48 : Int32))])) rfl (hb hby d1_31)) ?_
    show Rch _ _ _ _ (s₁.setTop (mkF m 34 #[.val (.int (2 : Int32)), .val (.int p2), .val (.long q3), .second, .val (.long q4), .second] [(.long (15 : Int64)), (.long ((q3.toUInt64 >>> (((4 : Int32) * (2 : Int32)) &&& 0x3f).toInt64.toUInt64).toInt64)), (.int (48 : Int32))]))
    refine Rch.go (fun zt zk => XS.land X0.here hx rfl (hb hby d1_34) rfl zk) ?_
    show Rch _ _ _ _ (s₁.setTop (mkF m 35 #[.val (.int (2 : Int32)), .val (.int p2), .val (.long q3), .second, .val (.long q4), .second] [(.long (((q3.toUInt64 >>> (((4 : Int32) * (2 : Int32)) &&& 0x3f).toInt64.toUInt64).toInt64) &&& (15 : Int64))), (.int (48 : Int32))]))
    refine Rch.go (X0.ldc2Long hx hown (mvT hZ (ow37 hw)) (g := (mkF m 35 #[.val (.int (2 : Int32)), .val (.int p2), .val (.long q3), .second, .val (.long q4), .second] [(.long (((q3.toUInt64 >>> (((4 : Int32) * (2 : Int32)) &&& 0x3f).toInt64.toUInt64).toInt64) &&& (15 : Int64))), (.int (48 : Int32))])) rfl (hb hby d1_35)) ?_
    show Rch _ _ _ _ (s₁.setTop (mkF m 38 #[.val (.int (2 : Int32)), .val (.int p2), .val (.long q3), .second, .val (.long q4), .second] [(.long (10 : Int64)), (.long (((q3.toUInt64 >>> (((4 : Int32) * (2 : Int32)) &&& 0x3f).toInt64.toUInt64).toInt64) &&& (15 : Int64))), (.int (48 : Int32))]))
    refine Rch.go (fun zt zk => XS.lrem X0.here hx rfl (hb hby d1_38) rfl (by decide : ¬ ((10 : Int64) = (0 : Int64))) zk) ?_
    show Rch _ _ _ _ (s₁.setTop (mkF m 39 #[.val (.int (2 : Int32)), .val (.int p2), .val (.long q3), .second, .val (.long q4), .second] [(.long ((((q3.toUInt64 >>> (((4 : Int32) * (2 : Int32)) &&& 0x3f).toInt64.toUInt64).toInt64) &&& (15 : Int64)) - ((((q3.toUInt64 >>> (((4 : Int32) * (2 : Int32)) &&& 0x3f).toInt64.toUInt64).toInt64) &&& (15 : Int64)) / (10 : Int64)) * (10 : Int64))), (.int (48 : Int32))]))
    refine Rch.go (fun zt zk => XS.l2i X0.here hx rfl (hb hby d1_39) rfl zk) ?_
    show Rch _ _ _ _ (s₁.setTop (mkF m 40 #[.val (.int (2 : Int32)), .val (.int p2), .val (.long q3), .second, .val (.long q4), .second] [(.int (((((q3.toUInt64 >>> (((4 : Int32) * (2 : Int32)) &&& 0x3f).toInt64.toUInt64).toInt64) &&& (15 : Int64)) - ((((q3.toUInt64 >>> (((4 : Int32) * (2 : Int32)) &&& 0x3f).toInt64.toUInt64).toInt64) &&& (15 : Int64)) / (10 : Int64)) * (10 : Int64)).toInt32)), (.int (48 : Int32))]))
    refine Rch.go (fun zt zk => XS.iadd X0.here hx rfl (hb hby d1_40) rfl zk) ?_
    show Rch _ _ _ _ (s₁.setTop (mkF m 41 #[.val (.int (2 : Int32)), .val (.int p2), .val (.long q3), .second, .val (.long q4), .second] [(.int ((48 : Int32) + (((((q3.toUInt64 >>> (((4 : Int32) * (2 : Int32)) &&& 0x3f).toInt64.toUInt64).toInt64) &&& (15 : Int64)) - ((((q3.toUInt64 >>> (((4 : Int32) * (2 : Int32)) &&& 0x3f).toInt64.toUInt64).toInt64) &&& (15 : Int64)) / (10 : Int64)) * (10 : Int64)).toInt32)))]))
    refine Rch.go (fun zt zk => XS.i2b X0.here hx rfl (hb hby d1_41) rfl zk) ?_
    show Rch _ _ _ _ (s₁.setTop (mkF m 42 #[.val (.int (2 : Int32)), .val (.int p2), .val (.long q3), .second, .val (.long q4), .second] [(.int (((48 : Int32) + (((((q3.toUInt64 >>> (((4 : Int32) * (2 : Int32)) &&& 0x3f).toInt64.toUInt64).toInt64) &&& (15 : Int64)) - ((((q3.toUInt64 >>> (((4 : Int32) * (2 : Int32)) &&& 0x3f).toInt64.toUInt64).toInt64) &&& (15 : Int64)) / (10 : Int64)) * (10 : Int64)).toInt32)).toInt8.toInt32))]))
    obtain ⟨fs, hr, hrun, hended, hW, hsame⟩ := X0.leave (v := some (.int (nar .byte (((48 : Int32) + (((((q3.toUInt64 >>> (((4 : Int32) * (2 : Int32)) &&& 0x3f).toInt64.toUInt64).toInt64) &&& (15 : Int64)) - ((((q3.toUInt64 >>> (((4 : Int32) * (2 : Int32)) &&& 0x3f).toInt64.toUInt64).toInt64) &&& (15 : Int64)) / (10 : Int64)) * (10 : Int64)).toInt32)).toInt8.toInt32)))) (fun h => by rw [Bd.returns] at h; cases h)
    refine Rch.mk (retN X0 hx (t := .byte) Bd.returns (by simp) (hb hby d1_42) hr) (hPd _ _ _ _ hrun hended rfl ?_ ⟨⟨_, rfl⟩, hW, hsame.mono (by decide) (by decide)⟩)
    show Q_rmAt2 Z p2 q3 q4 h0 n0 _ s₁.heap _
    have hF : fAt2 p2 q3 q4 = (nar .byte (((48 : Int32) + (((((q3.toUInt64 >>> (((4 : Int32) * (2 : Int32)) &&& 0x3f).toInt64.toUInt64).toInt64) &&& (15 : Int64)) - ((((q3.toUInt64 >>> (((4 : Int32) * (2 : Int32)) &&& 0x3f).toInt64.toUInt64).toInt64) &&& (15 : Int64)) / (10 : Int64)) * (10 : Int64)).toInt32)).toInt8.toInt32)) := ((if_pos hc2_101).trans rfl)
    rw [e0]
    exact ⟨by rw [hF], N0, rfl⟩
  · skip
    refine Rch.go (fun zt zk => XS.icmpYes X0.here hx rfl (pc0 := 2) (pc' := 43) rfl (hb hby d1_2) rfl (flt hc2_101).2.1 (by decide) (by decide) zk) ?_
    show Rch _ _ _ _ (s₁.setTop (mkF m 43 #[.val (.int (2 : Int32)), .val (.int p2), .val (.long q3), .second, .val (.long q4), .second] []))
    refine Rch.go (fun zt zk => XS.lload X0.here hx rfl (hb hby d1_43) rfl zk) ?_
    show Rch _ _ _ _ (s₁.setTop (mkF m 45 #[.val (.int (2 : Int32)), .val (.int p2), .val (.long q3), .second, .val (.long q4), .second] [(.long q4)]))
    refine Rch.go (fun zt zk => XS.iconst X0.here hx rfl (hb hby d1_45) zk) ?_
    show Rch _ _ _ _ (s₁.setTop (mkF m 46 #[.val (.int (2 : Int32)), .val (.int p2), .val (.long q3), .second, .val (.long q4), .second] [(.int (2 : Int32)), (.long q4)]))
    refine Rch.go (fun zt zk => XS.iloadN X0.here hx rfl (hb hby d1_46) rfl zk) ?_
    show Rch _ _ _ _ (s₁.setTop (mkF m 47 #[.val (.int (2 : Int32)), .val (.int p2), .val (.long q3), .second, .val (.long q4), .second] [(.int (2 : Int32)), (.int (2 : Int32)), (.long q4)]))
    refine Rch.go (fun zt zk => XS.imul X0.here hx rfl (hb hby d1_47) rfl zk) ?_
    show Rch _ _ _ _ (s₁.setTop (mkF m 48 #[.val (.int (2 : Int32)), .val (.int p2), .val (.long q3), .second, .val (.long q4), .second] [(.int ((2 : Int32) * (2 : Int32))), (.long q4)]))
    refine Rch.go (fun zt zk => XS.lushr X0.here hx rfl (hb hby d1_48) rfl zk) ?_
    show Rch _ _ _ _ (s₁.setTop (mkF m 49 #[.val (.int (2 : Int32)), .val (.int p2), .val (.long q3), .second, .val (.long q4), .second] [(.long ((q4.toUInt64 >>> (((2 : Int32) * (2 : Int32)) &&& 0x3f).toInt64.toUInt64).toInt64))]))
    refine Rch.go (X0.ldc2Long hx hown (mvT hZ (ow6 hw)) (g := (mkF m 49 #[.val (.int (2 : Int32)), .val (.int p2), .val (.long q3), .second, .val (.long q4), .second] [(.long ((q4.toUInt64 >>> (((2 : Int32) * (2 : Int32)) &&& 0x3f).toInt64.toUInt64).toInt64))])) rfl (hb hby d1_49)) ?_
    show Rch _ _ _ _ (s₁.setTop (mkF m 52 #[.val (.int (2 : Int32)), .val (.int p2), .val (.long q3), .second, .val (.long q4), .second] [(.long (3 : Int64)), (.long ((q4.toUInt64 >>> (((2 : Int32) * (2 : Int32)) &&& 0x3f).toInt64.toUInt64).toInt64))]))
    refine Rch.go (fun zt zk => XS.land X0.here hx rfl (hb hby d1_52) rfl zk) ?_
    show Rch _ _ _ _ (s₁.setTop (mkF m 53 #[.val (.int (2 : Int32)), .val (.int p2), .val (.long q3), .second, .val (.long q4), .second] [(.long (((q4.toUInt64 >>> (((2 : Int32) * (2 : Int32)) &&& 0x3f).toInt64.toUInt64).toInt64) &&& (3 : Int64)))]))
    refine Rch.go (fun zt zk => XS.l2i X0.here hx rfl (hb hby d1_53) rfl zk) ?_
    show Rch _ _ _ _ (s₁.setTop (mkF m 54 #[.val (.int (2 : Int32)), .val (.int p2), .val (.long q3), .second, .val (.long q4), .second] [(.int ((((q4.toUInt64 >>> (((2 : Int32) * (2 : Int32)) &&& 0x3f).toInt64.toUInt64).toInt64) &&& (3 : Int64)).toInt32))]))
    obtain ⟨_, _, ⟨T102, L102, k102, n102⟩, -, X102, ⟨Lc102, hQ102, l102, y102, z102⟩, st102⟩ := Jvm.LawKit.callS X0 hx (y := (⟨"com/example/mark_time/marktime/io/JsonCursorEndPinLaw", "space", "(I)B"⟩ : MethodName)) hown (mvT hZ (ow7 hw)) (mvT hZ (ow8 hw)) (mvT hZ (ow4 hw)) (mvT hZ (ow9 hw)) (by decide) (backOf (W := 0) (rm2 l Z a0 hw [] ((((q4.toUInt64 >>> (((2 : Int32) * (2 : Int32)) &&& 0x3f).toInt64.toUInt64).toInt64) &&& (3 : Int64)).toInt32) h0 n0 Z0 ) hZ (ow9 hw) (ow4 hw) (by decide) (by decide)) (g := (mkF m 54 #[.val (.int (2 : Int32)), .val (.int p2), .val (.long q3), .second, .val (.long q4), .second] [(.int ((((q4.toUInt64 >>> (((2 : Int32) * (2 : Int32)) &&& 0x3f).toInt64.toUInt64).toInt64) &&& (3 : Int64)).toInt32))])) rfl (by rw [hml]; rfl) (argsL := [(.int ((((q4.toUInt64 >>> (((2 : Int32) * (2 : Int32)) &&& 0x3f).toInt64.toUInt64).toInt64) &&& (3 : Int64)).toInt32))]) (rest := []) (lenOf pd__I_B rfl) rfl (by show 2 * 0 + _ ≤ _; exact Nat.le_of_eq rfl) (hb hby d1_54) (fun _ _ => ⟨rfl, e0, (by decide : 0 + 0 ≤ _), (by decide : 0 + 0 ≤ _)⟩)
    dsimp only [Pt.U, Pt.locs, Pt.cells, Pt.slots] at X102 l102 y102 z102 st102 hQ102
    subst l102 y102 z102
    obtain ⟨rfl, N102q, eq102⟩ := hQ102
    have N102 := Fr.app N0 N102q
    refine Rch.go st102 ?_
    show Rch _ _ _ _ (T102.setTop (mkF m 57 #[.val (.int (2 : Int32)), .val (.int p2), .val (.long q3), .second, .val (.long q4), .second] [(.int (fSp ((((q4.toUInt64 >>> (((2 : Int32) * (2 : Int32)) &&& 0x3f).toInt64.toUInt64).toInt64) &&& (3 : Int64)).toInt32)))]))
    obtain ⟨fs, hr, hrun, hended, hW, hsame⟩ := X102.leave (v := some (.int (nar .byte (fSp ((((q4.toUInt64 >>> (((2 : Int32) * (2 : Int32)) &&& 0x3f).toInt64.toUInt64).toInt64) &&& (3 : Int64)).toInt32))))) (fun h => by rw [Bd.returns] at h; cases h)
    refine Rch.mk (retN X102 hx (t := .byte) Bd.returns (by simp) (hb hby d1_57) hr) (hPd _ _ _ _ hrun hended rfl ?_ ⟨⟨_, rfl⟩, hW, hsame.mono (by decide) (by decide)⟩)
    show Q_rmAt2 Z p2 q3 q4 h0 n0 _ T102.heap _
    have hF : fAt2 p2 q3 q4 = (nar .byte (fSp ((((q4.toUInt64 >>> (((2 : Int32) * (2 : Int32)) &&& 0x3f).toInt64.toUInt64).toInt64) &&& (3 : Int64)).toInt32))) := ((if_neg hc2_101).trans rfl)
    rw [eq102]
    exact ⟨by rw [hF], N102, rfl⟩
def fAt3 (p2 : Int32) (q3 : Int64) (q4 : Int64) : Int32 := (if (3 : Int32) < p2 then (nar .byte (((48 : Int32) + (((((q3.toUInt64 >>> (((4 : Int32) * (3 : Int32)) &&& 0x3f).toInt64.toUInt64).toInt64) &&& (15 : Int64)) - ((((q3.toUInt64 >>> (((4 : Int32) * (3 : Int32)) &&& 0x3f).toInt64.toUInt64).toInt64) &&& (15 : Int64)) / (10 : Int64)) * (10 : Int64)).toInt32)).toInt8.toInt32)) else (nar .byte (fSp ((((q4.toUInt64 >>> (((2 : Int32) * (3 : Int32)) &&& 0x3f).toInt64.toUInt64).toInt64) &&& (3 : Int64)).toInt32))))
theorem ef_rmAt3 (m : MethodId) (p2 : Int32) (q3 : Int64) (q4 : Int64) : entryFrame m #[(.int (3 : Int32)), (.int p2), (.long q3), (.long q4)] 6 = mkF m 0 #[.val (.int (3 : Int32)), .val (.int p2), .val (.long q3), .second, .val (.long q4), .second] [] := by first | (simp [entryFrame, mkF, argsToLocals, Value.category]; done) | rfl
def Q_rmAt3 (Z : State) (p2 : Int32) (q3 : Int64) (q4 : Int64) (h0 : Heap) (n0 : Nat) (v : Option Value) (h : Heap) (L : List Loc) : Prop := v = some (.int (fAt3 p2 q3 q4)) ∧ Fr n0 L ∧ h = h0
set_option maxRecDepth 65536 in
set_option maxHeartbeats 40000000 in
theorem rmAt3 (l : Launch) (Z : State) (a0 : Array Value) (hw : ∀ d ∈ tables_1, d.before a0 Z = true) (ws : List Jvm.Cond) (p2 : Int32) (q3 : Int64) (q4 : Int64) (h0 : Heap) (n0 : Nat) (Z0 : n0 ≤ h0.size) :
    MetFree l (⟨"com/example/mark_time/marktime/io/JsonCursorEndPinLaw", "at", "(IIJJ)B"⟩ : MethodName) (head1 (Jvm.Cond.code (⟨"com/example/mark_time/marktime/io/JsonCursorEndPinLaw", "at", "(IIJJ)B"⟩ : MethodName) method_3_code 6 (some .byte) :: ws) ({ frames := 1, cells := 0, slots := 0, locals := 12 } : Room)) (fun a U => a = #[(.int (3 : Int32)), (.int p2), (.long q3), (.long q4)] ∧ Z.Warmed39 U.vm ∧ U.heap = h0) (fun _ _ _ _ _ => True) (fun _ U o U' => ∃ v L, o = .returned v ∧ Q_rmAt3 Z p2 q3 q4 h0 n0 v U'.heap L ∧ FrameEnd U o U' L ({ frames := 1, cells := 0, slots := 0, locals := 12 } : Room).cells ({ frames := 1, cells := 0, slots := 0, locals := 12 } : Room).slots) := by
  refine MetFree.of_bodySF (plainFor_of_name pn_com_example_mark_time_marktime_io_JsonCursorEndPinLaw) hisR ?_
  intro p e s m args below meth c s₁ Bd hml0 hP hK
  obtain ⟨rfl, hZ, hh⟩ := hP
  have hx := Bd.exec
  have hby := Bd.bytes
  have hml : c.maxLocals = 6 := hml0
  have hown : s.vm.findClass "com/example/mark_time/marktime/io/JsonCursorEndPinLaw" = some m.cls := findClass_of_methodNamed Bd.named
  have hnm := (name_of_methodNamed Bd.named Bd.method).1
  have X0 : Stand p l e ({ frames := 1, cells := 0, slots := 0, locals := 12 } : Room) s m #[(.int (3 : Int32)), (.int p2), (.long q3), (.long q4)] below meth c s₁ [] 0 0 := Stand.of_body Bd
  have e0 : s₁.heap = h0 := by rw [← hh, Bd.state]; rfl
  have N0 := Fr.nil n0
  suffices hR : ∀ P : State → Prop, (∀ s₂ o v L, s₂.status = .running → Ended s₂ below o → o = .returned v → Q_rmAt3 Z p2 q3 q4 h0 n0 v s₂.heap L → FrameEnd s o s₂ L ({ frames := 1, cells := 0, slots := 0, locals := 12 } : Room).cells ({ frames := 1, cells := 0, slots := 0, locals := 12 } : Room).slots → P s₂) → Rch p.tables e below P (s₁.setTop (mkF m 0 #[.val (.int (3 : Int32)), .val (.int p2), .val (.long q3), .second, .val (.long q4), .second] [])) by
    obtain ⟨s₂, h1, o, h2⟩ := hR (fun s₂ => ∃ o, s₂.status = .running ∧ Ended s₂ below o ∧ ∃ v L, o = .returned v ∧ Q_rmAt3 Z p2 q3 q4 h0 n0 v s₂.heap L ∧ FrameEnd s o s₂ L ({ frames := 1, cells := 0, slots := 0, locals := 12 } : Room).cells ({ frames := 1, cells := 0, slots := 0, locals := 12 } : Room).slots) (fun s₂ o v L q1 q2 q3 q4 q5 => ⟨o, q1, q2, v, L, q3, q4, q5⟩)
    exact ⟨s₂, o, castTop (ef_rmAt3 m p2 q3 q4) h1, h2⟩
  intro P hPd
  refine Rch.go (fun zt zk => XS.iloadN X0.here hx rfl (hb hby d1_0) rfl zk) ?_
  show Rch _ _ _ _ (s₁.setTop (mkF m 1 #[.val (.int (3 : Int32)), .val (.int p2), .val (.long q3), .second, .val (.long q4), .second] [(.int (3 : Int32))]))
  refine Rch.go (fun zt zk => XS.iloadN X0.here hx rfl (hb hby d1_1) rfl zk) ?_
  show Rch _ _ _ _ (s₁.setTop (mkF m 2 #[.val (.int (3 : Int32)), .val (.int p2), .val (.long q3), .second, .val (.long q4), .second] [(.int p2), (.int (3 : Int32))]))
  by_cases hc2_101 : (3 : Int32) < p2
  · skip
    refine Rch.go (fun zt zk => XS.icmpNo X0.here hx rfl (hb hby d1_2) rfl (tlt hc2_101).2.1 zk) ?_
    show Rch _ _ _ _ (s₁.setTop (mkF m 5 #[.val (.int (3 : Int32)), .val (.int p2), .val (.long q3), .second, .val (.long q4), .second] []))
    refine Rch.go (fun zt zk => XS.iloadN X0.here hx rfl (hb hby d1_5) rfl zk) ?_
    show Rch _ _ _ _ (s₁.setTop (mkF m 6 #[.val (.int (3 : Int32)), .val (.int p2), .val (.long q3), .second, .val (.long q4), .second] [(.int (3 : Int32))]))
    refine Rch.go (fun zt zk => XS.ifYes X0.here hx rfl (pc0 := 6) (pc' := 24) rfl (hb hby d1_6) rfl ((if0 _ _).trans (feq (by decide : ¬ ((3 : Int32) = (0 : Int32)))).2) (by decide) (by decide) zk) ?_
    show Rch _ _ _ _ (s₁.setTop (mkF m 24 #[.val (.int (3 : Int32)), .val (.int p2), .val (.long q3), .second, .val (.long q4), .second] []))
    refine Rch.go (fun zt zk => XS.bipush X0.here hx rfl (hb hby d1_24) zk) ?_
    show Rch _ _ _ _ (s₁.setTop (mkF m 26 #[.val (.int (3 : Int32)), .val (.int p2), .val (.long q3), .second, .val (.long q4), .second] [(.int (48 : Int32))]))
    refine Rch.go (fun zt zk => XS.lloadN X0.here hx rfl (hb hby d1_26) rfl zk) ?_
    show Rch _ _ _ _ (s₁.setTop (mkF m 27 #[.val (.int (3 : Int32)), .val (.int p2), .val (.long q3), .second, .val (.long q4), .second] [(.long q3), (.int (48 : Int32))]))
    refine Rch.go (fun zt zk => XS.iconst X0.here hx rfl (hb hby d1_27) zk) ?_
    show Rch _ _ _ _ (s₁.setTop (mkF m 28 #[.val (.int (3 : Int32)), .val (.int p2), .val (.long q3), .second, .val (.long q4), .second] [(.int (4 : Int32)), (.long q3), (.int (48 : Int32))]))
    refine Rch.go (fun zt zk => XS.iloadN X0.here hx rfl (hb hby d1_28) rfl zk) ?_
    show Rch _ _ _ _ (s₁.setTop (mkF m 29 #[.val (.int (3 : Int32)), .val (.int p2), .val (.long q3), .second, .val (.long q4), .second] [(.int (3 : Int32)), (.int (4 : Int32)), (.long q3), (.int (48 : Int32))]))
    refine Rch.go (fun zt zk => XS.imul X0.here hx rfl (hb hby d1_29) rfl zk) ?_
    show Rch _ _ _ _ (s₁.setTop (mkF m 30 #[.val (.int (3 : Int32)), .val (.int p2), .val (.long q3), .second, .val (.long q4), .second] [(.int ((4 : Int32) * (3 : Int32))), (.long q3), (.int (48 : Int32))]))
    refine Rch.go (fun zt zk => XS.lushr X0.here hx rfl (hb hby d1_30) rfl zk) ?_
    show Rch _ _ _ _ (s₁.setTop (mkF m 31 #[.val (.int (3 : Int32)), .val (.int p2), .val (.long q3), .second, .val (.long q4), .second] [(.long ((q3.toUInt64 >>> (((4 : Int32) * (3 : Int32)) &&& 0x3f).toInt64.toUInt64).toInt64)), (.int (48 : Int32))]))
    refine Rch.go (X0.ldc2Long hx hown (mvT hZ (ow35 hw)) (g := (mkF m 31 #[.val (.int (3 : Int32)), .val (.int p2), .val (.long q3), .second, .val (.long q4), .second] [(.long ((q3.toUInt64 >>> (((4 : Int32) * (3 : Int32)) &&& 0x3f).toInt64.toUInt64).toInt64)), (.int (48 : Int32))])) rfl (hb hby d1_31)) ?_
    show Rch _ _ _ _ (s₁.setTop (mkF m 34 #[.val (.int (3 : Int32)), .val (.int p2), .val (.long q3), .second, .val (.long q4), .second] [(.long (15 : Int64)), (.long ((q3.toUInt64 >>> (((4 : Int32) * (3 : Int32)) &&& 0x3f).toInt64.toUInt64).toInt64)), (.int (48 : Int32))]))
    refine Rch.go (fun zt zk => XS.land X0.here hx rfl (hb hby d1_34) rfl zk) ?_
    show Rch _ _ _ _ (s₁.setTop (mkF m 35 #[.val (.int (3 : Int32)), .val (.int p2), .val (.long q3), .second, .val (.long q4), .second] [(.long (((q3.toUInt64 >>> (((4 : Int32) * (3 : Int32)) &&& 0x3f).toInt64.toUInt64).toInt64) &&& (15 : Int64))), (.int (48 : Int32))]))
    refine Rch.go (X0.ldc2Long hx hown (mvT hZ (ow37 hw)) (g := (mkF m 35 #[.val (.int (3 : Int32)), .val (.int p2), .val (.long q3), .second, .val (.long q4), .second] [(.long (((q3.toUInt64 >>> (((4 : Int32) * (3 : Int32)) &&& 0x3f).toInt64.toUInt64).toInt64) &&& (15 : Int64))), (.int (48 : Int32))])) rfl (hb hby d1_35)) ?_
    show Rch _ _ _ _ (s₁.setTop (mkF m 38 #[.val (.int (3 : Int32)), .val (.int p2), .val (.long q3), .second, .val (.long q4), .second] [(.long (10 : Int64)), (.long (((q3.toUInt64 >>> (((4 : Int32) * (3 : Int32)) &&& 0x3f).toInt64.toUInt64).toInt64) &&& (15 : Int64))), (.int (48 : Int32))]))
    refine Rch.go (fun zt zk => XS.lrem X0.here hx rfl (hb hby d1_38) rfl (by decide : ¬ ((10 : Int64) = (0 : Int64))) zk) ?_
    show Rch _ _ _ _ (s₁.setTop (mkF m 39 #[.val (.int (3 : Int32)), .val (.int p2), .val (.long q3), .second, .val (.long q4), .second] [(.long ((((q3.toUInt64 >>> (((4 : Int32) * (3 : Int32)) &&& 0x3f).toInt64.toUInt64).toInt64) &&& (15 : Int64)) - ((((q3.toUInt64 >>> (((4 : Int32) * (3 : Int32)) &&& 0x3f).toInt64.toUInt64).toInt64) &&& (15 : Int64)) / (10 : Int64)) * (10 : Int64))), (.int (48 : Int32))]))
    refine Rch.go (fun zt zk => XS.l2i X0.here hx rfl (hb hby d1_39) rfl zk) ?_
    show Rch _ _ _ _ (s₁.setTop (mkF m 40 #[.val (.int (3 : Int32)), .val (.int p2), .val (.long q3), .second, .val (.long q4), .second] [(.int (((((q3.toUInt64 >>> (((4 : Int32) * (3 : Int32)) &&& 0x3f).toInt64.toUInt64).toInt64) &&& (15 : Int64)) - ((((q3.toUInt64 >>> (((4 : Int32) * (3 : Int32)) &&& 0x3f).toInt64.toUInt64).toInt64) &&& (15 : Int64)) / (10 : Int64)) * (10 : Int64)).toInt32)), (.int (48 : Int32))]))
    refine Rch.go (fun zt zk => XS.iadd X0.here hx rfl (hb hby d1_40) rfl zk) ?_
    show Rch _ _ _ _ (s₁.setTop (mkF m 41 #[.val (.int (3 : Int32)), .val (.int p2), .val (.long q3), .second, .val (.long q4), .second] [(.int ((48 : Int32) + (((((q3.toUInt64 >>> (((4 : Int32) * (3 : Int32)) &&& 0x3f).toInt64.toUInt64).toInt64) &&& (15 : Int64)) - ((((q3.toUInt64 >>> (((4 : Int32) * (3 : Int32)) &&& 0x3f).toInt64.toUInt64).toInt64) &&& (15 : Int64)) / (10 : Int64)) * (10 : Int64)).toInt32)))]))
    refine Rch.go (fun zt zk => XS.i2b X0.here hx rfl (hb hby d1_41) rfl zk) ?_
    show Rch _ _ _ _ (s₁.setTop (mkF m 42 #[.val (.int (3 : Int32)), .val (.int p2), .val (.long q3), .second, .val (.long q4), .second] [(.int (((48 : Int32) + (((((q3.toUInt64 >>> (((4 : Int32) * (3 : Int32)) &&& 0x3f).toInt64.toUInt64).toInt64) &&& (15 : Int64)) - ((((q3.toUInt64 >>> (((4 : Int32) * (3 : Int32)) &&& 0x3f).toInt64.toUInt64).toInt64) &&& (15 : Int64)) / (10 : Int64)) * (10 : Int64)).toInt32)).toInt8.toInt32))]))
    obtain ⟨fs, hr, hrun, hended, hW, hsame⟩ := X0.leave (v := some (.int (nar .byte (((48 : Int32) + (((((q3.toUInt64 >>> (((4 : Int32) * (3 : Int32)) &&& 0x3f).toInt64.toUInt64).toInt64) &&& (15 : Int64)) - ((((q3.toUInt64 >>> (((4 : Int32) * (3 : Int32)) &&& 0x3f).toInt64.toUInt64).toInt64) &&& (15 : Int64)) / (10 : Int64)) * (10 : Int64)).toInt32)).toInt8.toInt32)))) (fun h => by rw [Bd.returns] at h; cases h)
    refine Rch.mk (retN X0 hx (t := .byte) Bd.returns (by simp) (hb hby d1_42) hr) (hPd _ _ _ _ hrun hended rfl ?_ ⟨⟨_, rfl⟩, hW, hsame.mono (by decide) (by decide)⟩)
    show Q_rmAt3 Z p2 q3 q4 h0 n0 _ s₁.heap _
    have hF : fAt3 p2 q3 q4 = (nar .byte (((48 : Int32) + (((((q3.toUInt64 >>> (((4 : Int32) * (3 : Int32)) &&& 0x3f).toInt64.toUInt64).toInt64) &&& (15 : Int64)) - ((((q3.toUInt64 >>> (((4 : Int32) * (3 : Int32)) &&& 0x3f).toInt64.toUInt64).toInt64) &&& (15 : Int64)) / (10 : Int64)) * (10 : Int64)).toInt32)).toInt8.toInt32)) := ((if_pos hc2_101).trans rfl)
    rw [e0]
    exact ⟨by rw [hF], N0, rfl⟩
  · skip
    refine Rch.go (fun zt zk => XS.icmpYes X0.here hx rfl (pc0 := 2) (pc' := 43) rfl (hb hby d1_2) rfl (flt hc2_101).2.1 (by decide) (by decide) zk) ?_
    show Rch _ _ _ _ (s₁.setTop (mkF m 43 #[.val (.int (3 : Int32)), .val (.int p2), .val (.long q3), .second, .val (.long q4), .second] []))
    refine Rch.go (fun zt zk => XS.lload X0.here hx rfl (hb hby d1_43) rfl zk) ?_
    show Rch _ _ _ _ (s₁.setTop (mkF m 45 #[.val (.int (3 : Int32)), .val (.int p2), .val (.long q3), .second, .val (.long q4), .second] [(.long q4)]))
    refine Rch.go (fun zt zk => XS.iconst X0.here hx rfl (hb hby d1_45) zk) ?_
    show Rch _ _ _ _ (s₁.setTop (mkF m 46 #[.val (.int (3 : Int32)), .val (.int p2), .val (.long q3), .second, .val (.long q4), .second] [(.int (2 : Int32)), (.long q4)]))
    refine Rch.go (fun zt zk => XS.iloadN X0.here hx rfl (hb hby d1_46) rfl zk) ?_
    show Rch _ _ _ _ (s₁.setTop (mkF m 47 #[.val (.int (3 : Int32)), .val (.int p2), .val (.long q3), .second, .val (.long q4), .second] [(.int (3 : Int32)), (.int (2 : Int32)), (.long q4)]))
    refine Rch.go (fun zt zk => XS.imul X0.here hx rfl (hb hby d1_47) rfl zk) ?_
    show Rch _ _ _ _ (s₁.setTop (mkF m 48 #[.val (.int (3 : Int32)), .val (.int p2), .val (.long q3), .second, .val (.long q4), .second] [(.int ((2 : Int32) * (3 : Int32))), (.long q4)]))
    refine Rch.go (fun zt zk => XS.lushr X0.here hx rfl (hb hby d1_48) rfl zk) ?_
    show Rch _ _ _ _ (s₁.setTop (mkF m 49 #[.val (.int (3 : Int32)), .val (.int p2), .val (.long q3), .second, .val (.long q4), .second] [(.long ((q4.toUInt64 >>> (((2 : Int32) * (3 : Int32)) &&& 0x3f).toInt64.toUInt64).toInt64))]))
    refine Rch.go (X0.ldc2Long hx hown (mvT hZ (ow6 hw)) (g := (mkF m 49 #[.val (.int (3 : Int32)), .val (.int p2), .val (.long q3), .second, .val (.long q4), .second] [(.long ((q4.toUInt64 >>> (((2 : Int32) * (3 : Int32)) &&& 0x3f).toInt64.toUInt64).toInt64))])) rfl (hb hby d1_49)) ?_
    show Rch _ _ _ _ (s₁.setTop (mkF m 52 #[.val (.int (3 : Int32)), .val (.int p2), .val (.long q3), .second, .val (.long q4), .second] [(.long (3 : Int64)), (.long ((q4.toUInt64 >>> (((2 : Int32) * (3 : Int32)) &&& 0x3f).toInt64.toUInt64).toInt64))]))
    refine Rch.go (fun zt zk => XS.land X0.here hx rfl (hb hby d1_52) rfl zk) ?_
    show Rch _ _ _ _ (s₁.setTop (mkF m 53 #[.val (.int (3 : Int32)), .val (.int p2), .val (.long q3), .second, .val (.long q4), .second] [(.long (((q4.toUInt64 >>> (((2 : Int32) * (3 : Int32)) &&& 0x3f).toInt64.toUInt64).toInt64) &&& (3 : Int64)))]))
    refine Rch.go (fun zt zk => XS.l2i X0.here hx rfl (hb hby d1_53) rfl zk) ?_
    show Rch _ _ _ _ (s₁.setTop (mkF m 54 #[.val (.int (3 : Int32)), .val (.int p2), .val (.long q3), .second, .val (.long q4), .second] [(.int ((((q4.toUInt64 >>> (((2 : Int32) * (3 : Int32)) &&& 0x3f).toInt64.toUInt64).toInt64) &&& (3 : Int64)).toInt32))]))
    obtain ⟨_, _, ⟨T102, L102, k102, n102⟩, -, X102, ⟨Lc102, hQ102, l102, y102, z102⟩, st102⟩ := Jvm.LawKit.callS X0 hx (y := (⟨"com/example/mark_time/marktime/io/JsonCursorEndPinLaw", "space", "(I)B"⟩ : MethodName)) hown (mvT hZ (ow7 hw)) (mvT hZ (ow8 hw)) (mvT hZ (ow4 hw)) (mvT hZ (ow9 hw)) (by decide) (backOf (W := 0) (rm2 l Z a0 hw [] ((((q4.toUInt64 >>> (((2 : Int32) * (3 : Int32)) &&& 0x3f).toInt64.toUInt64).toInt64) &&& (3 : Int64)).toInt32) h0 n0 Z0 ) hZ (ow9 hw) (ow4 hw) (by decide) (by decide)) (g := (mkF m 54 #[.val (.int (3 : Int32)), .val (.int p2), .val (.long q3), .second, .val (.long q4), .second] [(.int ((((q4.toUInt64 >>> (((2 : Int32) * (3 : Int32)) &&& 0x3f).toInt64.toUInt64).toInt64) &&& (3 : Int64)).toInt32))])) rfl (by rw [hml]; rfl) (argsL := [(.int ((((q4.toUInt64 >>> (((2 : Int32) * (3 : Int32)) &&& 0x3f).toInt64.toUInt64).toInt64) &&& (3 : Int64)).toInt32))]) (rest := []) (lenOf pd__I_B rfl) rfl (by show 2 * 0 + _ ≤ _; exact Nat.le_of_eq rfl) (hb hby d1_54) (fun _ _ => ⟨rfl, e0, (by decide : 0 + 0 ≤ _), (by decide : 0 + 0 ≤ _)⟩)
    dsimp only [Pt.U, Pt.locs, Pt.cells, Pt.slots] at X102 l102 y102 z102 st102 hQ102
    subst l102 y102 z102
    obtain ⟨rfl, N102q, eq102⟩ := hQ102
    have N102 := Fr.app N0 N102q
    refine Rch.go st102 ?_
    show Rch _ _ _ _ (T102.setTop (mkF m 57 #[.val (.int (3 : Int32)), .val (.int p2), .val (.long q3), .second, .val (.long q4), .second] [(.int (fSp ((((q4.toUInt64 >>> (((2 : Int32) * (3 : Int32)) &&& 0x3f).toInt64.toUInt64).toInt64) &&& (3 : Int64)).toInt32)))]))
    obtain ⟨fs, hr, hrun, hended, hW, hsame⟩ := X102.leave (v := some (.int (nar .byte (fSp ((((q4.toUInt64 >>> (((2 : Int32) * (3 : Int32)) &&& 0x3f).toInt64.toUInt64).toInt64) &&& (3 : Int64)).toInt32))))) (fun h => by rw [Bd.returns] at h; cases h)
    refine Rch.mk (retN X102 hx (t := .byte) Bd.returns (by simp) (hb hby d1_57) hr) (hPd _ _ _ _ hrun hended rfl ?_ ⟨⟨_, rfl⟩, hW, hsame.mono (by decide) (by decide)⟩)
    show Q_rmAt3 Z p2 q3 q4 h0 n0 _ T102.heap _
    have hF : fAt3 p2 q3 q4 = (nar .byte (fSp ((((q4.toUInt64 >>> (((2 : Int32) * (3 : Int32)) &&& 0x3f).toInt64.toUInt64).toInt64) &&& (3 : Int64)).toInt32))) := ((if_neg hc2_101).trans rfl)
    rw [eq102]
    exact ⟨by rw [hF], N102, rfl⟩
def fAt4 (p2 : Int32) (q3 : Int64) (q4 : Int64) : Int32 := (if (4 : Int32) < p2 then (nar .byte (((48 : Int32) + (((((q3.toUInt64 >>> (((4 : Int32) * (4 : Int32)) &&& 0x3f).toInt64.toUInt64).toInt64) &&& (15 : Int64)) - ((((q3.toUInt64 >>> (((4 : Int32) * (4 : Int32)) &&& 0x3f).toInt64.toUInt64).toInt64) &&& (15 : Int64)) / (10 : Int64)) * (10 : Int64)).toInt32)).toInt8.toInt32)) else (nar .byte (fSp ((((q4.toUInt64 >>> (((2 : Int32) * (4 : Int32)) &&& 0x3f).toInt64.toUInt64).toInt64) &&& (3 : Int64)).toInt32))))
theorem ef_rmAt4 (m : MethodId) (p2 : Int32) (q3 : Int64) (q4 : Int64) : entryFrame m #[(.int (4 : Int32)), (.int p2), (.long q3), (.long q4)] 6 = mkF m 0 #[.val (.int (4 : Int32)), .val (.int p2), .val (.long q3), .second, .val (.long q4), .second] [] := by first | (simp [entryFrame, mkF, argsToLocals, Value.category]; done) | rfl
def Q_rmAt4 (Z : State) (p2 : Int32) (q3 : Int64) (q4 : Int64) (h0 : Heap) (n0 : Nat) (v : Option Value) (h : Heap) (L : List Loc) : Prop := v = some (.int (fAt4 p2 q3 q4)) ∧ Fr n0 L ∧ h = h0
set_option maxRecDepth 65536 in
set_option maxHeartbeats 40000000 in
theorem rmAt4 (l : Launch) (Z : State) (a0 : Array Value) (hw : ∀ d ∈ tables_1, d.before a0 Z = true) (ws : List Jvm.Cond) (p2 : Int32) (q3 : Int64) (q4 : Int64) (h0 : Heap) (n0 : Nat) (Z0 : n0 ≤ h0.size) :
    MetFree l (⟨"com/example/mark_time/marktime/io/JsonCursorEndPinLaw", "at", "(IIJJ)B"⟩ : MethodName) (head1 (Jvm.Cond.code (⟨"com/example/mark_time/marktime/io/JsonCursorEndPinLaw", "at", "(IIJJ)B"⟩ : MethodName) method_3_code 6 (some .byte) :: ws) ({ frames := 1, cells := 0, slots := 0, locals := 12 } : Room)) (fun a U => a = #[(.int (4 : Int32)), (.int p2), (.long q3), (.long q4)] ∧ Z.Warmed39 U.vm ∧ U.heap = h0) (fun _ _ _ _ _ => True) (fun _ U o U' => ∃ v L, o = .returned v ∧ Q_rmAt4 Z p2 q3 q4 h0 n0 v U'.heap L ∧ FrameEnd U o U' L ({ frames := 1, cells := 0, slots := 0, locals := 12 } : Room).cells ({ frames := 1, cells := 0, slots := 0, locals := 12 } : Room).slots) := by
  refine MetFree.of_bodySF (plainFor_of_name pn_com_example_mark_time_marktime_io_JsonCursorEndPinLaw) hisR ?_
  intro p e s m args below meth c s₁ Bd hml0 hP hK
  obtain ⟨rfl, hZ, hh⟩ := hP
  have hx := Bd.exec
  have hby := Bd.bytes
  have hml : c.maxLocals = 6 := hml0
  have hown : s.vm.findClass "com/example/mark_time/marktime/io/JsonCursorEndPinLaw" = some m.cls := findClass_of_methodNamed Bd.named
  have hnm := (name_of_methodNamed Bd.named Bd.method).1
  have X0 : Stand p l e ({ frames := 1, cells := 0, slots := 0, locals := 12 } : Room) s m #[(.int (4 : Int32)), (.int p2), (.long q3), (.long q4)] below meth c s₁ [] 0 0 := Stand.of_body Bd
  have e0 : s₁.heap = h0 := by rw [← hh, Bd.state]; rfl
  have N0 := Fr.nil n0
  suffices hR : ∀ P : State → Prop, (∀ s₂ o v L, s₂.status = .running → Ended s₂ below o → o = .returned v → Q_rmAt4 Z p2 q3 q4 h0 n0 v s₂.heap L → FrameEnd s o s₂ L ({ frames := 1, cells := 0, slots := 0, locals := 12 } : Room).cells ({ frames := 1, cells := 0, slots := 0, locals := 12 } : Room).slots → P s₂) → Rch p.tables e below P (s₁.setTop (mkF m 0 #[.val (.int (4 : Int32)), .val (.int p2), .val (.long q3), .second, .val (.long q4), .second] [])) by
    obtain ⟨s₂, h1, o, h2⟩ := hR (fun s₂ => ∃ o, s₂.status = .running ∧ Ended s₂ below o ∧ ∃ v L, o = .returned v ∧ Q_rmAt4 Z p2 q3 q4 h0 n0 v s₂.heap L ∧ FrameEnd s o s₂ L ({ frames := 1, cells := 0, slots := 0, locals := 12 } : Room).cells ({ frames := 1, cells := 0, slots := 0, locals := 12 } : Room).slots) (fun s₂ o v L q1 q2 q3 q4 q5 => ⟨o, q1, q2, v, L, q3, q4, q5⟩)
    exact ⟨s₂, o, castTop (ef_rmAt4 m p2 q3 q4) h1, h2⟩
  intro P hPd
  refine Rch.go (fun zt zk => XS.iloadN X0.here hx rfl (hb hby d1_0) rfl zk) ?_
  show Rch _ _ _ _ (s₁.setTop (mkF m 1 #[.val (.int (4 : Int32)), .val (.int p2), .val (.long q3), .second, .val (.long q4), .second] [(.int (4 : Int32))]))
  refine Rch.go (fun zt zk => XS.iloadN X0.here hx rfl (hb hby d1_1) rfl zk) ?_
  show Rch _ _ _ _ (s₁.setTop (mkF m 2 #[.val (.int (4 : Int32)), .val (.int p2), .val (.long q3), .second, .val (.long q4), .second] [(.int p2), (.int (4 : Int32))]))
  by_cases hc2_101 : (4 : Int32) < p2
  · skip
    refine Rch.go (fun zt zk => XS.icmpNo X0.here hx rfl (hb hby d1_2) rfl (tlt hc2_101).2.1 zk) ?_
    show Rch _ _ _ _ (s₁.setTop (mkF m 5 #[.val (.int (4 : Int32)), .val (.int p2), .val (.long q3), .second, .val (.long q4), .second] []))
    refine Rch.go (fun zt zk => XS.iloadN X0.here hx rfl (hb hby d1_5) rfl zk) ?_
    show Rch _ _ _ _ (s₁.setTop (mkF m 6 #[.val (.int (4 : Int32)), .val (.int p2), .val (.long q3), .second, .val (.long q4), .second] [(.int (4 : Int32))]))
    refine Rch.go (fun zt zk => XS.ifYes X0.here hx rfl (pc0 := 6) (pc' := 24) rfl (hb hby d1_6) rfl ((if0 _ _).trans (feq (by decide : ¬ ((4 : Int32) = (0 : Int32)))).2) (by decide) (by decide) zk) ?_
    show Rch _ _ _ _ (s₁.setTop (mkF m 24 #[.val (.int (4 : Int32)), .val (.int p2), .val (.long q3), .second, .val (.long q4), .second] []))
    refine Rch.go (fun zt zk => XS.bipush X0.here hx rfl (hb hby d1_24) zk) ?_
    show Rch _ _ _ _ (s₁.setTop (mkF m 26 #[.val (.int (4 : Int32)), .val (.int p2), .val (.long q3), .second, .val (.long q4), .second] [(.int (48 : Int32))]))
    refine Rch.go (fun zt zk => XS.lloadN X0.here hx rfl (hb hby d1_26) rfl zk) ?_
    show Rch _ _ _ _ (s₁.setTop (mkF m 27 #[.val (.int (4 : Int32)), .val (.int p2), .val (.long q3), .second, .val (.long q4), .second] [(.long q3), (.int (48 : Int32))]))
    refine Rch.go (fun zt zk => XS.iconst X0.here hx rfl (hb hby d1_27) zk) ?_
    show Rch _ _ _ _ (s₁.setTop (mkF m 28 #[.val (.int (4 : Int32)), .val (.int p2), .val (.long q3), .second, .val (.long q4), .second] [(.int (4 : Int32)), (.long q3), (.int (48 : Int32))]))
    refine Rch.go (fun zt zk => XS.iloadN X0.here hx rfl (hb hby d1_28) rfl zk) ?_
    show Rch _ _ _ _ (s₁.setTop (mkF m 29 #[.val (.int (4 : Int32)), .val (.int p2), .val (.long q3), .second, .val (.long q4), .second] [(.int (4 : Int32)), (.int (4 : Int32)), (.long q3), (.int (48 : Int32))]))
    refine Rch.go (fun zt zk => XS.imul X0.here hx rfl (hb hby d1_29) rfl zk) ?_
    show Rch _ _ _ _ (s₁.setTop (mkF m 30 #[.val (.int (4 : Int32)), .val (.int p2), .val (.long q3), .second, .val (.long q4), .second] [(.int ((4 : Int32) * (4 : Int32))), (.long q3), (.int (48 : Int32))]))
    refine Rch.go (fun zt zk => XS.lushr X0.here hx rfl (hb hby d1_30) rfl zk) ?_
    show Rch _ _ _ _ (s₁.setTop (mkF m 31 #[.val (.int (4 : Int32)), .val (.int p2), .val (.long q3), .second, .val (.long q4), .second] [(.long ((q3.toUInt64 >>> (((4 : Int32) * (4 : Int32)) &&& 0x3f).toInt64.toUInt64).toInt64)), (.int (48 : Int32))]))
    refine Rch.go (X0.ldc2Long hx hown (mvT hZ (ow35 hw)) (g := (mkF m 31 #[.val (.int (4 : Int32)), .val (.int p2), .val (.long q3), .second, .val (.long q4), .second] [(.long ((q3.toUInt64 >>> (((4 : Int32) * (4 : Int32)) &&& 0x3f).toInt64.toUInt64).toInt64)), (.int (48 : Int32))])) rfl (hb hby d1_31)) ?_
    show Rch _ _ _ _ (s₁.setTop (mkF m 34 #[.val (.int (4 : Int32)), .val (.int p2), .val (.long q3), .second, .val (.long q4), .second] [(.long (15 : Int64)), (.long ((q3.toUInt64 >>> (((4 : Int32) * (4 : Int32)) &&& 0x3f).toInt64.toUInt64).toInt64)), (.int (48 : Int32))]))
    refine Rch.go (fun zt zk => XS.land X0.here hx rfl (hb hby d1_34) rfl zk) ?_
    show Rch _ _ _ _ (s₁.setTop (mkF m 35 #[.val (.int (4 : Int32)), .val (.int p2), .val (.long q3), .second, .val (.long q4), .second] [(.long (((q3.toUInt64 >>> (((4 : Int32) * (4 : Int32)) &&& 0x3f).toInt64.toUInt64).toInt64) &&& (15 : Int64))), (.int (48 : Int32))]))
    refine Rch.go (X0.ldc2Long hx hown (mvT hZ (ow37 hw)) (g := (mkF m 35 #[.val (.int (4 : Int32)), .val (.int p2), .val (.long q3), .second, .val (.long q4), .second] [(.long (((q3.toUInt64 >>> (((4 : Int32) * (4 : Int32)) &&& 0x3f).toInt64.toUInt64).toInt64) &&& (15 : Int64))), (.int (48 : Int32))])) rfl (hb hby d1_35)) ?_
    show Rch _ _ _ _ (s₁.setTop (mkF m 38 #[.val (.int (4 : Int32)), .val (.int p2), .val (.long q3), .second, .val (.long q4), .second] [(.long (10 : Int64)), (.long (((q3.toUInt64 >>> (((4 : Int32) * (4 : Int32)) &&& 0x3f).toInt64.toUInt64).toInt64) &&& (15 : Int64))), (.int (48 : Int32))]))
    refine Rch.go (fun zt zk => XS.lrem X0.here hx rfl (hb hby d1_38) rfl (by decide : ¬ ((10 : Int64) = (0 : Int64))) zk) ?_
    show Rch _ _ _ _ (s₁.setTop (mkF m 39 #[.val (.int (4 : Int32)), .val (.int p2), .val (.long q3), .second, .val (.long q4), .second] [(.long ((((q3.toUInt64 >>> (((4 : Int32) * (4 : Int32)) &&& 0x3f).toInt64.toUInt64).toInt64) &&& (15 : Int64)) - ((((q3.toUInt64 >>> (((4 : Int32) * (4 : Int32)) &&& 0x3f).toInt64.toUInt64).toInt64) &&& (15 : Int64)) / (10 : Int64)) * (10 : Int64))), (.int (48 : Int32))]))
    refine Rch.go (fun zt zk => XS.l2i X0.here hx rfl (hb hby d1_39) rfl zk) ?_
    show Rch _ _ _ _ (s₁.setTop (mkF m 40 #[.val (.int (4 : Int32)), .val (.int p2), .val (.long q3), .second, .val (.long q4), .second] [(.int (((((q3.toUInt64 >>> (((4 : Int32) * (4 : Int32)) &&& 0x3f).toInt64.toUInt64).toInt64) &&& (15 : Int64)) - ((((q3.toUInt64 >>> (((4 : Int32) * (4 : Int32)) &&& 0x3f).toInt64.toUInt64).toInt64) &&& (15 : Int64)) / (10 : Int64)) * (10 : Int64)).toInt32)), (.int (48 : Int32))]))
    refine Rch.go (fun zt zk => XS.iadd X0.here hx rfl (hb hby d1_40) rfl zk) ?_
    show Rch _ _ _ _ (s₁.setTop (mkF m 41 #[.val (.int (4 : Int32)), .val (.int p2), .val (.long q3), .second, .val (.long q4), .second] [(.int ((48 : Int32) + (((((q3.toUInt64 >>> (((4 : Int32) * (4 : Int32)) &&& 0x3f).toInt64.toUInt64).toInt64) &&& (15 : Int64)) - ((((q3.toUInt64 >>> (((4 : Int32) * (4 : Int32)) &&& 0x3f).toInt64.toUInt64).toInt64) &&& (15 : Int64)) / (10 : Int64)) * (10 : Int64)).toInt32)))]))
    refine Rch.go (fun zt zk => XS.i2b X0.here hx rfl (hb hby d1_41) rfl zk) ?_
    show Rch _ _ _ _ (s₁.setTop (mkF m 42 #[.val (.int (4 : Int32)), .val (.int p2), .val (.long q3), .second, .val (.long q4), .second] [(.int (((48 : Int32) + (((((q3.toUInt64 >>> (((4 : Int32) * (4 : Int32)) &&& 0x3f).toInt64.toUInt64).toInt64) &&& (15 : Int64)) - ((((q3.toUInt64 >>> (((4 : Int32) * (4 : Int32)) &&& 0x3f).toInt64.toUInt64).toInt64) &&& (15 : Int64)) / (10 : Int64)) * (10 : Int64)).toInt32)).toInt8.toInt32))]))
    obtain ⟨fs, hr, hrun, hended, hW, hsame⟩ := X0.leave (v := some (.int (nar .byte (((48 : Int32) + (((((q3.toUInt64 >>> (((4 : Int32) * (4 : Int32)) &&& 0x3f).toInt64.toUInt64).toInt64) &&& (15 : Int64)) - ((((q3.toUInt64 >>> (((4 : Int32) * (4 : Int32)) &&& 0x3f).toInt64.toUInt64).toInt64) &&& (15 : Int64)) / (10 : Int64)) * (10 : Int64)).toInt32)).toInt8.toInt32)))) (fun h => by rw [Bd.returns] at h; cases h)
    refine Rch.mk (retN X0 hx (t := .byte) Bd.returns (by simp) (hb hby d1_42) hr) (hPd _ _ _ _ hrun hended rfl ?_ ⟨⟨_, rfl⟩, hW, hsame.mono (by decide) (by decide)⟩)
    show Q_rmAt4 Z p2 q3 q4 h0 n0 _ s₁.heap _
    have hF : fAt4 p2 q3 q4 = (nar .byte (((48 : Int32) + (((((q3.toUInt64 >>> (((4 : Int32) * (4 : Int32)) &&& 0x3f).toInt64.toUInt64).toInt64) &&& (15 : Int64)) - ((((q3.toUInt64 >>> (((4 : Int32) * (4 : Int32)) &&& 0x3f).toInt64.toUInt64).toInt64) &&& (15 : Int64)) / (10 : Int64)) * (10 : Int64)).toInt32)).toInt8.toInt32)) := ((if_pos hc2_101).trans rfl)
    rw [e0]
    exact ⟨by rw [hF], N0, rfl⟩
  · skip
    refine Rch.go (fun zt zk => XS.icmpYes X0.here hx rfl (pc0 := 2) (pc' := 43) rfl (hb hby d1_2) rfl (flt hc2_101).2.1 (by decide) (by decide) zk) ?_
    show Rch _ _ _ _ (s₁.setTop (mkF m 43 #[.val (.int (4 : Int32)), .val (.int p2), .val (.long q3), .second, .val (.long q4), .second] []))
    refine Rch.go (fun zt zk => XS.lload X0.here hx rfl (hb hby d1_43) rfl zk) ?_
    show Rch _ _ _ _ (s₁.setTop (mkF m 45 #[.val (.int (4 : Int32)), .val (.int p2), .val (.long q3), .second, .val (.long q4), .second] [(.long q4)]))
    refine Rch.go (fun zt zk => XS.iconst X0.here hx rfl (hb hby d1_45) zk) ?_
    show Rch _ _ _ _ (s₁.setTop (mkF m 46 #[.val (.int (4 : Int32)), .val (.int p2), .val (.long q3), .second, .val (.long q4), .second] [(.int (2 : Int32)), (.long q4)]))
    refine Rch.go (fun zt zk => XS.iloadN X0.here hx rfl (hb hby d1_46) rfl zk) ?_
    show Rch _ _ _ _ (s₁.setTop (mkF m 47 #[.val (.int (4 : Int32)), .val (.int p2), .val (.long q3), .second, .val (.long q4), .second] [(.int (4 : Int32)), (.int (2 : Int32)), (.long q4)]))
    refine Rch.go (fun zt zk => XS.imul X0.here hx rfl (hb hby d1_47) rfl zk) ?_
    show Rch _ _ _ _ (s₁.setTop (mkF m 48 #[.val (.int (4 : Int32)), .val (.int p2), .val (.long q3), .second, .val (.long q4), .second] [(.int ((2 : Int32) * (4 : Int32))), (.long q4)]))
    refine Rch.go (fun zt zk => XS.lushr X0.here hx rfl (hb hby d1_48) rfl zk) ?_
    show Rch _ _ _ _ (s₁.setTop (mkF m 49 #[.val (.int (4 : Int32)), .val (.int p2), .val (.long q3), .second, .val (.long q4), .second] [(.long ((q4.toUInt64 >>> (((2 : Int32) * (4 : Int32)) &&& 0x3f).toInt64.toUInt64).toInt64))]))
    refine Rch.go (X0.ldc2Long hx hown (mvT hZ (ow6 hw)) (g := (mkF m 49 #[.val (.int (4 : Int32)), .val (.int p2), .val (.long q3), .second, .val (.long q4), .second] [(.long ((q4.toUInt64 >>> (((2 : Int32) * (4 : Int32)) &&& 0x3f).toInt64.toUInt64).toInt64))])) rfl (hb hby d1_49)) ?_
    show Rch _ _ _ _ (s₁.setTop (mkF m 52 #[.val (.int (4 : Int32)), .val (.int p2), .val (.long q3), .second, .val (.long q4), .second] [(.long (3 : Int64)), (.long ((q4.toUInt64 >>> (((2 : Int32) * (4 : Int32)) &&& 0x3f).toInt64.toUInt64).toInt64))]))
    refine Rch.go (fun zt zk => XS.land X0.here hx rfl (hb hby d1_52) rfl zk) ?_
    show Rch _ _ _ _ (s₁.setTop (mkF m 53 #[.val (.int (4 : Int32)), .val (.int p2), .val (.long q3), .second, .val (.long q4), .second] [(.long (((q4.toUInt64 >>> (((2 : Int32) * (4 : Int32)) &&& 0x3f).toInt64.toUInt64).toInt64) &&& (3 : Int64)))]))
    refine Rch.go (fun zt zk => XS.l2i X0.here hx rfl (hb hby d1_53) rfl zk) ?_
    show Rch _ _ _ _ (s₁.setTop (mkF m 54 #[.val (.int (4 : Int32)), .val (.int p2), .val (.long q3), .second, .val (.long q4), .second] [(.int ((((q4.toUInt64 >>> (((2 : Int32) * (4 : Int32)) &&& 0x3f).toInt64.toUInt64).toInt64) &&& (3 : Int64)).toInt32))]))
    obtain ⟨_, _, ⟨T102, L102, k102, n102⟩, -, X102, ⟨Lc102, hQ102, l102, y102, z102⟩, st102⟩ := Jvm.LawKit.callS X0 hx (y := (⟨"com/example/mark_time/marktime/io/JsonCursorEndPinLaw", "space", "(I)B"⟩ : MethodName)) hown (mvT hZ (ow7 hw)) (mvT hZ (ow8 hw)) (mvT hZ (ow4 hw)) (mvT hZ (ow9 hw)) (by decide) (backOf (W := 0) (rm2 l Z a0 hw [] ((((q4.toUInt64 >>> (((2 : Int32) * (4 : Int32)) &&& 0x3f).toInt64.toUInt64).toInt64) &&& (3 : Int64)).toInt32) h0 n0 Z0 ) hZ (ow9 hw) (ow4 hw) (by decide) (by decide)) (g := (mkF m 54 #[.val (.int (4 : Int32)), .val (.int p2), .val (.long q3), .second, .val (.long q4), .second] [(.int ((((q4.toUInt64 >>> (((2 : Int32) * (4 : Int32)) &&& 0x3f).toInt64.toUInt64).toInt64) &&& (3 : Int64)).toInt32))])) rfl (by rw [hml]; rfl) (argsL := [(.int ((((q4.toUInt64 >>> (((2 : Int32) * (4 : Int32)) &&& 0x3f).toInt64.toUInt64).toInt64) &&& (3 : Int64)).toInt32))]) (rest := []) (lenOf pd__I_B rfl) rfl (by show 2 * 0 + _ ≤ _; exact Nat.le_of_eq rfl) (hb hby d1_54) (fun _ _ => ⟨rfl, e0, (by decide : 0 + 0 ≤ _), (by decide : 0 + 0 ≤ _)⟩)
    dsimp only [Pt.U, Pt.locs, Pt.cells, Pt.slots] at X102 l102 y102 z102 st102 hQ102
    subst l102 y102 z102
    obtain ⟨rfl, N102q, eq102⟩ := hQ102
    have N102 := Fr.app N0 N102q
    refine Rch.go st102 ?_
    show Rch _ _ _ _ (T102.setTop (mkF m 57 #[.val (.int (4 : Int32)), .val (.int p2), .val (.long q3), .second, .val (.long q4), .second] [(.int (fSp ((((q4.toUInt64 >>> (((2 : Int32) * (4 : Int32)) &&& 0x3f).toInt64.toUInt64).toInt64) &&& (3 : Int64)).toInt32)))]))
    obtain ⟨fs, hr, hrun, hended, hW, hsame⟩ := X102.leave (v := some (.int (nar .byte (fSp ((((q4.toUInt64 >>> (((2 : Int32) * (4 : Int32)) &&& 0x3f).toInt64.toUInt64).toInt64) &&& (3 : Int64)).toInt32))))) (fun h => by rw [Bd.returns] at h; cases h)
    refine Rch.mk (retN X102 hx (t := .byte) Bd.returns (by simp) (hb hby d1_57) hr) (hPd _ _ _ _ hrun hended rfl ?_ ⟨⟨_, rfl⟩, hW, hsame.mono (by decide) (by decide)⟩)
    show Q_rmAt4 Z p2 q3 q4 h0 n0 _ T102.heap _
    have hF : fAt4 p2 q3 q4 = (nar .byte (fSp ((((q4.toUInt64 >>> (((2 : Int32) * (4 : Int32)) &&& 0x3f).toInt64.toUInt64).toInt64) &&& (3 : Int64)).toInt32))) := ((if_neg hc2_101).trans rfl)
    rw [eq102]
    exact ⟨by rw [hF], N102, rfl⟩
def fAt5 (p2 : Int32) (q3 : Int64) (q4 : Int64) : Int32 := (if (5 : Int32) < p2 then (nar .byte (((48 : Int32) + (((((q3.toUInt64 >>> (((4 : Int32) * (5 : Int32)) &&& 0x3f).toInt64.toUInt64).toInt64) &&& (15 : Int64)) - ((((q3.toUInt64 >>> (((4 : Int32) * (5 : Int32)) &&& 0x3f).toInt64.toUInt64).toInt64) &&& (15 : Int64)) / (10 : Int64)) * (10 : Int64)).toInt32)).toInt8.toInt32)) else (nar .byte (fSp ((((q4.toUInt64 >>> (((2 : Int32) * (5 : Int32)) &&& 0x3f).toInt64.toUInt64).toInt64) &&& (3 : Int64)).toInt32))))
theorem ef_rmAt5 (m : MethodId) (p2 : Int32) (q3 : Int64) (q4 : Int64) : entryFrame m #[(.int (5 : Int32)), (.int p2), (.long q3), (.long q4)] 6 = mkF m 0 #[.val (.int (5 : Int32)), .val (.int p2), .val (.long q3), .second, .val (.long q4), .second] [] := by first | (simp [entryFrame, mkF, argsToLocals, Value.category]; done) | rfl
def Q_rmAt5 (Z : State) (p2 : Int32) (q3 : Int64) (q4 : Int64) (h0 : Heap) (n0 : Nat) (v : Option Value) (h : Heap) (L : List Loc) : Prop := v = some (.int (fAt5 p2 q3 q4)) ∧ Fr n0 L ∧ h = h0
set_option maxRecDepth 65536 in
set_option maxHeartbeats 40000000 in
theorem rmAt5 (l : Launch) (Z : State) (a0 : Array Value) (hw : ∀ d ∈ tables_1, d.before a0 Z = true) (ws : List Jvm.Cond) (p2 : Int32) (q3 : Int64) (q4 : Int64) (h0 : Heap) (n0 : Nat) (Z0 : n0 ≤ h0.size) :
    MetFree l (⟨"com/example/mark_time/marktime/io/JsonCursorEndPinLaw", "at", "(IIJJ)B"⟩ : MethodName) (head1 (Jvm.Cond.code (⟨"com/example/mark_time/marktime/io/JsonCursorEndPinLaw", "at", "(IIJJ)B"⟩ : MethodName) method_3_code 6 (some .byte) :: ws) ({ frames := 1, cells := 0, slots := 0, locals := 12 } : Room)) (fun a U => a = #[(.int (5 : Int32)), (.int p2), (.long q3), (.long q4)] ∧ Z.Warmed39 U.vm ∧ U.heap = h0) (fun _ _ _ _ _ => True) (fun _ U o U' => ∃ v L, o = .returned v ∧ Q_rmAt5 Z p2 q3 q4 h0 n0 v U'.heap L ∧ FrameEnd U o U' L ({ frames := 1, cells := 0, slots := 0, locals := 12 } : Room).cells ({ frames := 1, cells := 0, slots := 0, locals := 12 } : Room).slots) := by
  refine MetFree.of_bodySF (plainFor_of_name pn_com_example_mark_time_marktime_io_JsonCursorEndPinLaw) hisR ?_
  intro p e s m args below meth c s₁ Bd hml0 hP hK
  obtain ⟨rfl, hZ, hh⟩ := hP
  have hx := Bd.exec
  have hby := Bd.bytes
  have hml : c.maxLocals = 6 := hml0
  have hown : s.vm.findClass "com/example/mark_time/marktime/io/JsonCursorEndPinLaw" = some m.cls := findClass_of_methodNamed Bd.named
  have hnm := (name_of_methodNamed Bd.named Bd.method).1
  have X0 : Stand p l e ({ frames := 1, cells := 0, slots := 0, locals := 12 } : Room) s m #[(.int (5 : Int32)), (.int p2), (.long q3), (.long q4)] below meth c s₁ [] 0 0 := Stand.of_body Bd
  have e0 : s₁.heap = h0 := by rw [← hh, Bd.state]; rfl
  have N0 := Fr.nil n0
  suffices hR : ∀ P : State → Prop, (∀ s₂ o v L, s₂.status = .running → Ended s₂ below o → o = .returned v → Q_rmAt5 Z p2 q3 q4 h0 n0 v s₂.heap L → FrameEnd s o s₂ L ({ frames := 1, cells := 0, slots := 0, locals := 12 } : Room).cells ({ frames := 1, cells := 0, slots := 0, locals := 12 } : Room).slots → P s₂) → Rch p.tables e below P (s₁.setTop (mkF m 0 #[.val (.int (5 : Int32)), .val (.int p2), .val (.long q3), .second, .val (.long q4), .second] [])) by
    obtain ⟨s₂, h1, o, h2⟩ := hR (fun s₂ => ∃ o, s₂.status = .running ∧ Ended s₂ below o ∧ ∃ v L, o = .returned v ∧ Q_rmAt5 Z p2 q3 q4 h0 n0 v s₂.heap L ∧ FrameEnd s o s₂ L ({ frames := 1, cells := 0, slots := 0, locals := 12 } : Room).cells ({ frames := 1, cells := 0, slots := 0, locals := 12 } : Room).slots) (fun s₂ o v L q1 q2 q3 q4 q5 => ⟨o, q1, q2, v, L, q3, q4, q5⟩)
    exact ⟨s₂, o, castTop (ef_rmAt5 m p2 q3 q4) h1, h2⟩
  intro P hPd
  refine Rch.go (fun zt zk => XS.iloadN X0.here hx rfl (hb hby d1_0) rfl zk) ?_
  show Rch _ _ _ _ (s₁.setTop (mkF m 1 #[.val (.int (5 : Int32)), .val (.int p2), .val (.long q3), .second, .val (.long q4), .second] [(.int (5 : Int32))]))
  refine Rch.go (fun zt zk => XS.iloadN X0.here hx rfl (hb hby d1_1) rfl zk) ?_
  show Rch _ _ _ _ (s₁.setTop (mkF m 2 #[.val (.int (5 : Int32)), .val (.int p2), .val (.long q3), .second, .val (.long q4), .second] [(.int p2), (.int (5 : Int32))]))
  by_cases hc2_101 : (5 : Int32) < p2
  · skip
    refine Rch.go (fun zt zk => XS.icmpNo X0.here hx rfl (hb hby d1_2) rfl (tlt hc2_101).2.1 zk) ?_
    show Rch _ _ _ _ (s₁.setTop (mkF m 5 #[.val (.int (5 : Int32)), .val (.int p2), .val (.long q3), .second, .val (.long q4), .second] []))
    refine Rch.go (fun zt zk => XS.iloadN X0.here hx rfl (hb hby d1_5) rfl zk) ?_
    show Rch _ _ _ _ (s₁.setTop (mkF m 6 #[.val (.int (5 : Int32)), .val (.int p2), .val (.long q3), .second, .val (.long q4), .second] [(.int (5 : Int32))]))
    refine Rch.go (fun zt zk => XS.ifYes X0.here hx rfl (pc0 := 6) (pc' := 24) rfl (hb hby d1_6) rfl ((if0 _ _).trans (feq (by decide : ¬ ((5 : Int32) = (0 : Int32)))).2) (by decide) (by decide) zk) ?_
    show Rch _ _ _ _ (s₁.setTop (mkF m 24 #[.val (.int (5 : Int32)), .val (.int p2), .val (.long q3), .second, .val (.long q4), .second] []))
    refine Rch.go (fun zt zk => XS.bipush X0.here hx rfl (hb hby d1_24) zk) ?_
    show Rch _ _ _ _ (s₁.setTop (mkF m 26 #[.val (.int (5 : Int32)), .val (.int p2), .val (.long q3), .second, .val (.long q4), .second] [(.int (48 : Int32))]))
    refine Rch.go (fun zt zk => XS.lloadN X0.here hx rfl (hb hby d1_26) rfl zk) ?_
    show Rch _ _ _ _ (s₁.setTop (mkF m 27 #[.val (.int (5 : Int32)), .val (.int p2), .val (.long q3), .second, .val (.long q4), .second] [(.long q3), (.int (48 : Int32))]))
    refine Rch.go (fun zt zk => XS.iconst X0.here hx rfl (hb hby d1_27) zk) ?_
    show Rch _ _ _ _ (s₁.setTop (mkF m 28 #[.val (.int (5 : Int32)), .val (.int p2), .val (.long q3), .second, .val (.long q4), .second] [(.int (4 : Int32)), (.long q3), (.int (48 : Int32))]))
    refine Rch.go (fun zt zk => XS.iloadN X0.here hx rfl (hb hby d1_28) rfl zk) ?_
    show Rch _ _ _ _ (s₁.setTop (mkF m 29 #[.val (.int (5 : Int32)), .val (.int p2), .val (.long q3), .second, .val (.long q4), .second] [(.int (5 : Int32)), (.int (4 : Int32)), (.long q3), (.int (48 : Int32))]))
    refine Rch.go (fun zt zk => XS.imul X0.here hx rfl (hb hby d1_29) rfl zk) ?_
    show Rch _ _ _ _ (s₁.setTop (mkF m 30 #[.val (.int (5 : Int32)), .val (.int p2), .val (.long q3), .second, .val (.long q4), .second] [(.int ((4 : Int32) * (5 : Int32))), (.long q3), (.int (48 : Int32))]))
    refine Rch.go (fun zt zk => XS.lushr X0.here hx rfl (hb hby d1_30) rfl zk) ?_
    show Rch _ _ _ _ (s₁.setTop (mkF m 31 #[.val (.int (5 : Int32)), .val (.int p2), .val (.long q3), .second, .val (.long q4), .second] [(.long ((q3.toUInt64 >>> (((4 : Int32) * (5 : Int32)) &&& 0x3f).toInt64.toUInt64).toInt64)), (.int (48 : Int32))]))
    refine Rch.go (X0.ldc2Long hx hown (mvT hZ (ow35 hw)) (g := (mkF m 31 #[.val (.int (5 : Int32)), .val (.int p2), .val (.long q3), .second, .val (.long q4), .second] [(.long ((q3.toUInt64 >>> (((4 : Int32) * (5 : Int32)) &&& 0x3f).toInt64.toUInt64).toInt64)), (.int (48 : Int32))])) rfl (hb hby d1_31)) ?_
    show Rch _ _ _ _ (s₁.setTop (mkF m 34 #[.val (.int (5 : Int32)), .val (.int p2), .val (.long q3), .second, .val (.long q4), .second] [(.long (15 : Int64)), (.long ((q3.toUInt64 >>> (((4 : Int32) * (5 : Int32)) &&& 0x3f).toInt64.toUInt64).toInt64)), (.int (48 : Int32))]))
    refine Rch.go (fun zt zk => XS.land X0.here hx rfl (hb hby d1_34) rfl zk) ?_
    show Rch _ _ _ _ (s₁.setTop (mkF m 35 #[.val (.int (5 : Int32)), .val (.int p2), .val (.long q3), .second, .val (.long q4), .second] [(.long (((q3.toUInt64 >>> (((4 : Int32) * (5 : Int32)) &&& 0x3f).toInt64.toUInt64).toInt64) &&& (15 : Int64))), (.int (48 : Int32))]))
    refine Rch.go (X0.ldc2Long hx hown (mvT hZ (ow37 hw)) (g := (mkF m 35 #[.val (.int (5 : Int32)), .val (.int p2), .val (.long q3), .second, .val (.long q4), .second] [(.long (((q3.toUInt64 >>> (((4 : Int32) * (5 : Int32)) &&& 0x3f).toInt64.toUInt64).toInt64) &&& (15 : Int64))), (.int (48 : Int32))])) rfl (hb hby d1_35)) ?_
    show Rch _ _ _ _ (s₁.setTop (mkF m 38 #[.val (.int (5 : Int32)), .val (.int p2), .val (.long q3), .second, .val (.long q4), .second] [(.long (10 : Int64)), (.long (((q3.toUInt64 >>> (((4 : Int32) * (5 : Int32)) &&& 0x3f).toInt64.toUInt64).toInt64) &&& (15 : Int64))), (.int (48 : Int32))]))
    refine Rch.go (fun zt zk => XS.lrem X0.here hx rfl (hb hby d1_38) rfl (by decide : ¬ ((10 : Int64) = (0 : Int64))) zk) ?_
    show Rch _ _ _ _ (s₁.setTop (mkF m 39 #[.val (.int (5 : Int32)), .val (.int p2), .val (.long q3), .second, .val (.long q4), .second] [(.long ((((q3.toUInt64 >>> (((4 : Int32) * (5 : Int32)) &&& 0x3f).toInt64.toUInt64).toInt64) &&& (15 : Int64)) - ((((q3.toUInt64 >>> (((4 : Int32) * (5 : Int32)) &&& 0x3f).toInt64.toUInt64).toInt64) &&& (15 : Int64)) / (10 : Int64)) * (10 : Int64))), (.int (48 : Int32))]))
    refine Rch.go (fun zt zk => XS.l2i X0.here hx rfl (hb hby d1_39) rfl zk) ?_
    show Rch _ _ _ _ (s₁.setTop (mkF m 40 #[.val (.int (5 : Int32)), .val (.int p2), .val (.long q3), .second, .val (.long q4), .second] [(.int (((((q3.toUInt64 >>> (((4 : Int32) * (5 : Int32)) &&& 0x3f).toInt64.toUInt64).toInt64) &&& (15 : Int64)) - ((((q3.toUInt64 >>> (((4 : Int32) * (5 : Int32)) &&& 0x3f).toInt64.toUInt64).toInt64) &&& (15 : Int64)) / (10 : Int64)) * (10 : Int64)).toInt32)), (.int (48 : Int32))]))
    refine Rch.go (fun zt zk => XS.iadd X0.here hx rfl (hb hby d1_40) rfl zk) ?_
    show Rch _ _ _ _ (s₁.setTop (mkF m 41 #[.val (.int (5 : Int32)), .val (.int p2), .val (.long q3), .second, .val (.long q4), .second] [(.int ((48 : Int32) + (((((q3.toUInt64 >>> (((4 : Int32) * (5 : Int32)) &&& 0x3f).toInt64.toUInt64).toInt64) &&& (15 : Int64)) - ((((q3.toUInt64 >>> (((4 : Int32) * (5 : Int32)) &&& 0x3f).toInt64.toUInt64).toInt64) &&& (15 : Int64)) / (10 : Int64)) * (10 : Int64)).toInt32)))]))
    refine Rch.go (fun zt zk => XS.i2b X0.here hx rfl (hb hby d1_41) rfl zk) ?_
    show Rch _ _ _ _ (s₁.setTop (mkF m 42 #[.val (.int (5 : Int32)), .val (.int p2), .val (.long q3), .second, .val (.long q4), .second] [(.int (((48 : Int32) + (((((q3.toUInt64 >>> (((4 : Int32) * (5 : Int32)) &&& 0x3f).toInt64.toUInt64).toInt64) &&& (15 : Int64)) - ((((q3.toUInt64 >>> (((4 : Int32) * (5 : Int32)) &&& 0x3f).toInt64.toUInt64).toInt64) &&& (15 : Int64)) / (10 : Int64)) * (10 : Int64)).toInt32)).toInt8.toInt32))]))
    obtain ⟨fs, hr, hrun, hended, hW, hsame⟩ := X0.leave (v := some (.int (nar .byte (((48 : Int32) + (((((q3.toUInt64 >>> (((4 : Int32) * (5 : Int32)) &&& 0x3f).toInt64.toUInt64).toInt64) &&& (15 : Int64)) - ((((q3.toUInt64 >>> (((4 : Int32) * (5 : Int32)) &&& 0x3f).toInt64.toUInt64).toInt64) &&& (15 : Int64)) / (10 : Int64)) * (10 : Int64)).toInt32)).toInt8.toInt32)))) (fun h => by rw [Bd.returns] at h; cases h)
    refine Rch.mk (retN X0 hx (t := .byte) Bd.returns (by simp) (hb hby d1_42) hr) (hPd _ _ _ _ hrun hended rfl ?_ ⟨⟨_, rfl⟩, hW, hsame.mono (by decide) (by decide)⟩)
    show Q_rmAt5 Z p2 q3 q4 h0 n0 _ s₁.heap _
    have hF : fAt5 p2 q3 q4 = (nar .byte (((48 : Int32) + (((((q3.toUInt64 >>> (((4 : Int32) * (5 : Int32)) &&& 0x3f).toInt64.toUInt64).toInt64) &&& (15 : Int64)) - ((((q3.toUInt64 >>> (((4 : Int32) * (5 : Int32)) &&& 0x3f).toInt64.toUInt64).toInt64) &&& (15 : Int64)) / (10 : Int64)) * (10 : Int64)).toInt32)).toInt8.toInt32)) := ((if_pos hc2_101).trans rfl)
    rw [e0]
    exact ⟨by rw [hF], N0, rfl⟩
  · skip
    refine Rch.go (fun zt zk => XS.icmpYes X0.here hx rfl (pc0 := 2) (pc' := 43) rfl (hb hby d1_2) rfl (flt hc2_101).2.1 (by decide) (by decide) zk) ?_
    show Rch _ _ _ _ (s₁.setTop (mkF m 43 #[.val (.int (5 : Int32)), .val (.int p2), .val (.long q3), .second, .val (.long q4), .second] []))
    refine Rch.go (fun zt zk => XS.lload X0.here hx rfl (hb hby d1_43) rfl zk) ?_
    show Rch _ _ _ _ (s₁.setTop (mkF m 45 #[.val (.int (5 : Int32)), .val (.int p2), .val (.long q3), .second, .val (.long q4), .second] [(.long q4)]))
    refine Rch.go (fun zt zk => XS.iconst X0.here hx rfl (hb hby d1_45) zk) ?_
    show Rch _ _ _ _ (s₁.setTop (mkF m 46 #[.val (.int (5 : Int32)), .val (.int p2), .val (.long q3), .second, .val (.long q4), .second] [(.int (2 : Int32)), (.long q4)]))
    refine Rch.go (fun zt zk => XS.iloadN X0.here hx rfl (hb hby d1_46) rfl zk) ?_
    show Rch _ _ _ _ (s₁.setTop (mkF m 47 #[.val (.int (5 : Int32)), .val (.int p2), .val (.long q3), .second, .val (.long q4), .second] [(.int (5 : Int32)), (.int (2 : Int32)), (.long q4)]))
    refine Rch.go (fun zt zk => XS.imul X0.here hx rfl (hb hby d1_47) rfl zk) ?_
    show Rch _ _ _ _ (s₁.setTop (mkF m 48 #[.val (.int (5 : Int32)), .val (.int p2), .val (.long q3), .second, .val (.long q4), .second] [(.int ((2 : Int32) * (5 : Int32))), (.long q4)]))
    refine Rch.go (fun zt zk => XS.lushr X0.here hx rfl (hb hby d1_48) rfl zk) ?_
    show Rch _ _ _ _ (s₁.setTop (mkF m 49 #[.val (.int (5 : Int32)), .val (.int p2), .val (.long q3), .second, .val (.long q4), .second] [(.long ((q4.toUInt64 >>> (((2 : Int32) * (5 : Int32)) &&& 0x3f).toInt64.toUInt64).toInt64))]))
    refine Rch.go (X0.ldc2Long hx hown (mvT hZ (ow6 hw)) (g := (mkF m 49 #[.val (.int (5 : Int32)), .val (.int p2), .val (.long q3), .second, .val (.long q4), .second] [(.long ((q4.toUInt64 >>> (((2 : Int32) * (5 : Int32)) &&& 0x3f).toInt64.toUInt64).toInt64))])) rfl (hb hby d1_49)) ?_
    show Rch _ _ _ _ (s₁.setTop (mkF m 52 #[.val (.int (5 : Int32)), .val (.int p2), .val (.long q3), .second, .val (.long q4), .second] [(.long (3 : Int64)), (.long ((q4.toUInt64 >>> (((2 : Int32) * (5 : Int32)) &&& 0x3f).toInt64.toUInt64).toInt64))]))
    refine Rch.go (fun zt zk => XS.land X0.here hx rfl (hb hby d1_52) rfl zk) ?_
    show Rch _ _ _ _ (s₁.setTop (mkF m 53 #[.val (.int (5 : Int32)), .val (.int p2), .val (.long q3), .second, .val (.long q4), .second] [(.long (((q4.toUInt64 >>> (((2 : Int32) * (5 : Int32)) &&& 0x3f).toInt64.toUInt64).toInt64) &&& (3 : Int64)))]))
    refine Rch.go (fun zt zk => XS.l2i X0.here hx rfl (hb hby d1_53) rfl zk) ?_
    show Rch _ _ _ _ (s₁.setTop (mkF m 54 #[.val (.int (5 : Int32)), .val (.int p2), .val (.long q3), .second, .val (.long q4), .second] [(.int ((((q4.toUInt64 >>> (((2 : Int32) * (5 : Int32)) &&& 0x3f).toInt64.toUInt64).toInt64) &&& (3 : Int64)).toInt32))]))
    obtain ⟨_, _, ⟨T102, L102, k102, n102⟩, -, X102, ⟨Lc102, hQ102, l102, y102, z102⟩, st102⟩ := Jvm.LawKit.callS X0 hx (y := (⟨"com/example/mark_time/marktime/io/JsonCursorEndPinLaw", "space", "(I)B"⟩ : MethodName)) hown (mvT hZ (ow7 hw)) (mvT hZ (ow8 hw)) (mvT hZ (ow4 hw)) (mvT hZ (ow9 hw)) (by decide) (backOf (W := 0) (rm2 l Z a0 hw [] ((((q4.toUInt64 >>> (((2 : Int32) * (5 : Int32)) &&& 0x3f).toInt64.toUInt64).toInt64) &&& (3 : Int64)).toInt32) h0 n0 Z0 ) hZ (ow9 hw) (ow4 hw) (by decide) (by decide)) (g := (mkF m 54 #[.val (.int (5 : Int32)), .val (.int p2), .val (.long q3), .second, .val (.long q4), .second] [(.int ((((q4.toUInt64 >>> (((2 : Int32) * (5 : Int32)) &&& 0x3f).toInt64.toUInt64).toInt64) &&& (3 : Int64)).toInt32))])) rfl (by rw [hml]; rfl) (argsL := [(.int ((((q4.toUInt64 >>> (((2 : Int32) * (5 : Int32)) &&& 0x3f).toInt64.toUInt64).toInt64) &&& (3 : Int64)).toInt32))]) (rest := []) (lenOf pd__I_B rfl) rfl (by show 2 * 0 + _ ≤ _; exact Nat.le_of_eq rfl) (hb hby d1_54) (fun _ _ => ⟨rfl, e0, (by decide : 0 + 0 ≤ _), (by decide : 0 + 0 ≤ _)⟩)
    dsimp only [Pt.U, Pt.locs, Pt.cells, Pt.slots] at X102 l102 y102 z102 st102 hQ102
    subst l102 y102 z102
    obtain ⟨rfl, N102q, eq102⟩ := hQ102
    have N102 := Fr.app N0 N102q
    refine Rch.go st102 ?_
    show Rch _ _ _ _ (T102.setTop (mkF m 57 #[.val (.int (5 : Int32)), .val (.int p2), .val (.long q3), .second, .val (.long q4), .second] [(.int (fSp ((((q4.toUInt64 >>> (((2 : Int32) * (5 : Int32)) &&& 0x3f).toInt64.toUInt64).toInt64) &&& (3 : Int64)).toInt32)))]))
    obtain ⟨fs, hr, hrun, hended, hW, hsame⟩ := X102.leave (v := some (.int (nar .byte (fSp ((((q4.toUInt64 >>> (((2 : Int32) * (5 : Int32)) &&& 0x3f).toInt64.toUInt64).toInt64) &&& (3 : Int64)).toInt32))))) (fun h => by rw [Bd.returns] at h; cases h)
    refine Rch.mk (retN X102 hx (t := .byte) Bd.returns (by simp) (hb hby d1_57) hr) (hPd _ _ _ _ hrun hended rfl ?_ ⟨⟨_, rfl⟩, hW, hsame.mono (by decide) (by decide)⟩)
    show Q_rmAt5 Z p2 q3 q4 h0 n0 _ T102.heap _
    have hF : fAt5 p2 q3 q4 = (nar .byte (fSp ((((q4.toUInt64 >>> (((2 : Int32) * (5 : Int32)) &&& 0x3f).toInt64.toUInt64).toInt64) &&& (3 : Int64)).toInt32))) := ((if_neg hc2_101).trans rfl)
    rw [eq102]
    exact ⟨by rw [hF], N102, rfl⟩
def fAt6 (p2 : Int32) (q3 : Int64) (q4 : Int64) : Int32 := (if (6 : Int32) < p2 then (nar .byte (((48 : Int32) + (((((q3.toUInt64 >>> (((4 : Int32) * (6 : Int32)) &&& 0x3f).toInt64.toUInt64).toInt64) &&& (15 : Int64)) - ((((q3.toUInt64 >>> (((4 : Int32) * (6 : Int32)) &&& 0x3f).toInt64.toUInt64).toInt64) &&& (15 : Int64)) / (10 : Int64)) * (10 : Int64)).toInt32)).toInt8.toInt32)) else (nar .byte (fSp ((((q4.toUInt64 >>> (((2 : Int32) * (6 : Int32)) &&& 0x3f).toInt64.toUInt64).toInt64) &&& (3 : Int64)).toInt32))))
theorem ef_rmAt6 (m : MethodId) (p2 : Int32) (q3 : Int64) (q4 : Int64) : entryFrame m #[(.int (6 : Int32)), (.int p2), (.long q3), (.long q4)] 6 = mkF m 0 #[.val (.int (6 : Int32)), .val (.int p2), .val (.long q3), .second, .val (.long q4), .second] [] := by first | (simp [entryFrame, mkF, argsToLocals, Value.category]; done) | rfl
def Q_rmAt6 (Z : State) (p2 : Int32) (q3 : Int64) (q4 : Int64) (h0 : Heap) (n0 : Nat) (v : Option Value) (h : Heap) (L : List Loc) : Prop := v = some (.int (fAt6 p2 q3 q4)) ∧ Fr n0 L ∧ h = h0
set_option maxRecDepth 65536 in
set_option maxHeartbeats 40000000 in
theorem rmAt6 (l : Launch) (Z : State) (a0 : Array Value) (hw : ∀ d ∈ tables_1, d.before a0 Z = true) (ws : List Jvm.Cond) (p2 : Int32) (q3 : Int64) (q4 : Int64) (h0 : Heap) (n0 : Nat) (Z0 : n0 ≤ h0.size) :
    MetFree l (⟨"com/example/mark_time/marktime/io/JsonCursorEndPinLaw", "at", "(IIJJ)B"⟩ : MethodName) (head1 (Jvm.Cond.code (⟨"com/example/mark_time/marktime/io/JsonCursorEndPinLaw", "at", "(IIJJ)B"⟩ : MethodName) method_3_code 6 (some .byte) :: ws) ({ frames := 1, cells := 0, slots := 0, locals := 12 } : Room)) (fun a U => a = #[(.int (6 : Int32)), (.int p2), (.long q3), (.long q4)] ∧ Z.Warmed39 U.vm ∧ U.heap = h0) (fun _ _ _ _ _ => True) (fun _ U o U' => ∃ v L, o = .returned v ∧ Q_rmAt6 Z p2 q3 q4 h0 n0 v U'.heap L ∧ FrameEnd U o U' L ({ frames := 1, cells := 0, slots := 0, locals := 12 } : Room).cells ({ frames := 1, cells := 0, slots := 0, locals := 12 } : Room).slots) := by
  refine MetFree.of_bodySF (plainFor_of_name pn_com_example_mark_time_marktime_io_JsonCursorEndPinLaw) hisR ?_
  intro p e s m args below meth c s₁ Bd hml0 hP hK
  obtain ⟨rfl, hZ, hh⟩ := hP
  have hx := Bd.exec
  have hby := Bd.bytes
  have hml : c.maxLocals = 6 := hml0
  have hown : s.vm.findClass "com/example/mark_time/marktime/io/JsonCursorEndPinLaw" = some m.cls := findClass_of_methodNamed Bd.named
  have hnm := (name_of_methodNamed Bd.named Bd.method).1
  have X0 : Stand p l e ({ frames := 1, cells := 0, slots := 0, locals := 12 } : Room) s m #[(.int (6 : Int32)), (.int p2), (.long q3), (.long q4)] below meth c s₁ [] 0 0 := Stand.of_body Bd
  have e0 : s₁.heap = h0 := by rw [← hh, Bd.state]; rfl
  have N0 := Fr.nil n0
  suffices hR : ∀ P : State → Prop, (∀ s₂ o v L, s₂.status = .running → Ended s₂ below o → o = .returned v → Q_rmAt6 Z p2 q3 q4 h0 n0 v s₂.heap L → FrameEnd s o s₂ L ({ frames := 1, cells := 0, slots := 0, locals := 12 } : Room).cells ({ frames := 1, cells := 0, slots := 0, locals := 12 } : Room).slots → P s₂) → Rch p.tables e below P (s₁.setTop (mkF m 0 #[.val (.int (6 : Int32)), .val (.int p2), .val (.long q3), .second, .val (.long q4), .second] [])) by
    obtain ⟨s₂, h1, o, h2⟩ := hR (fun s₂ => ∃ o, s₂.status = .running ∧ Ended s₂ below o ∧ ∃ v L, o = .returned v ∧ Q_rmAt6 Z p2 q3 q4 h0 n0 v s₂.heap L ∧ FrameEnd s o s₂ L ({ frames := 1, cells := 0, slots := 0, locals := 12 } : Room).cells ({ frames := 1, cells := 0, slots := 0, locals := 12 } : Room).slots) (fun s₂ o v L q1 q2 q3 q4 q5 => ⟨o, q1, q2, v, L, q3, q4, q5⟩)
    exact ⟨s₂, o, castTop (ef_rmAt6 m p2 q3 q4) h1, h2⟩
  intro P hPd
  refine Rch.go (fun zt zk => XS.iloadN X0.here hx rfl (hb hby d1_0) rfl zk) ?_
  show Rch _ _ _ _ (s₁.setTop (mkF m 1 #[.val (.int (6 : Int32)), .val (.int p2), .val (.long q3), .second, .val (.long q4), .second] [(.int (6 : Int32))]))
  refine Rch.go (fun zt zk => XS.iloadN X0.here hx rfl (hb hby d1_1) rfl zk) ?_
  show Rch _ _ _ _ (s₁.setTop (mkF m 2 #[.val (.int (6 : Int32)), .val (.int p2), .val (.long q3), .second, .val (.long q4), .second] [(.int p2), (.int (6 : Int32))]))
  by_cases hc2_101 : (6 : Int32) < p2
  · skip
    refine Rch.go (fun zt zk => XS.icmpNo X0.here hx rfl (hb hby d1_2) rfl (tlt hc2_101).2.1 zk) ?_
    show Rch _ _ _ _ (s₁.setTop (mkF m 5 #[.val (.int (6 : Int32)), .val (.int p2), .val (.long q3), .second, .val (.long q4), .second] []))
    refine Rch.go (fun zt zk => XS.iloadN X0.here hx rfl (hb hby d1_5) rfl zk) ?_
    show Rch _ _ _ _ (s₁.setTop (mkF m 6 #[.val (.int (6 : Int32)), .val (.int p2), .val (.long q3), .second, .val (.long q4), .second] [(.int (6 : Int32))]))
    refine Rch.go (fun zt zk => XS.ifYes X0.here hx rfl (pc0 := 6) (pc' := 24) rfl (hb hby d1_6) rfl ((if0 _ _).trans (feq (by decide : ¬ ((6 : Int32) = (0 : Int32)))).2) (by decide) (by decide) zk) ?_
    show Rch _ _ _ _ (s₁.setTop (mkF m 24 #[.val (.int (6 : Int32)), .val (.int p2), .val (.long q3), .second, .val (.long q4), .second] []))
    refine Rch.go (fun zt zk => XS.bipush X0.here hx rfl (hb hby d1_24) zk) ?_
    show Rch _ _ _ _ (s₁.setTop (mkF m 26 #[.val (.int (6 : Int32)), .val (.int p2), .val (.long q3), .second, .val (.long q4), .second] [(.int (48 : Int32))]))
    refine Rch.go (fun zt zk => XS.lloadN X0.here hx rfl (hb hby d1_26) rfl zk) ?_
    show Rch _ _ _ _ (s₁.setTop (mkF m 27 #[.val (.int (6 : Int32)), .val (.int p2), .val (.long q3), .second, .val (.long q4), .second] [(.long q3), (.int (48 : Int32))]))
    refine Rch.go (fun zt zk => XS.iconst X0.here hx rfl (hb hby d1_27) zk) ?_
    show Rch _ _ _ _ (s₁.setTop (mkF m 28 #[.val (.int (6 : Int32)), .val (.int p2), .val (.long q3), .second, .val (.long q4), .second] [(.int (4 : Int32)), (.long q3), (.int (48 : Int32))]))
    refine Rch.go (fun zt zk => XS.iloadN X0.here hx rfl (hb hby d1_28) rfl zk) ?_
    show Rch _ _ _ _ (s₁.setTop (mkF m 29 #[.val (.int (6 : Int32)), .val (.int p2), .val (.long q3), .second, .val (.long q4), .second] [(.int (6 : Int32)), (.int (4 : Int32)), (.long q3), (.int (48 : Int32))]))
    refine Rch.go (fun zt zk => XS.imul X0.here hx rfl (hb hby d1_29) rfl zk) ?_
    show Rch _ _ _ _ (s₁.setTop (mkF m 30 #[.val (.int (6 : Int32)), .val (.int p2), .val (.long q3), .second, .val (.long q4), .second] [(.int ((4 : Int32) * (6 : Int32))), (.long q3), (.int (48 : Int32))]))
    refine Rch.go (fun zt zk => XS.lushr X0.here hx rfl (hb hby d1_30) rfl zk) ?_
    show Rch _ _ _ _ (s₁.setTop (mkF m 31 #[.val (.int (6 : Int32)), .val (.int p2), .val (.long q3), .second, .val (.long q4), .second] [(.long ((q3.toUInt64 >>> (((4 : Int32) * (6 : Int32)) &&& 0x3f).toInt64.toUInt64).toInt64)), (.int (48 : Int32))]))
    refine Rch.go (X0.ldc2Long hx hown (mvT hZ (ow35 hw)) (g := (mkF m 31 #[.val (.int (6 : Int32)), .val (.int p2), .val (.long q3), .second, .val (.long q4), .second] [(.long ((q3.toUInt64 >>> (((4 : Int32) * (6 : Int32)) &&& 0x3f).toInt64.toUInt64).toInt64)), (.int (48 : Int32))])) rfl (hb hby d1_31)) ?_
    show Rch _ _ _ _ (s₁.setTop (mkF m 34 #[.val (.int (6 : Int32)), .val (.int p2), .val (.long q3), .second, .val (.long q4), .second] [(.long (15 : Int64)), (.long ((q3.toUInt64 >>> (((4 : Int32) * (6 : Int32)) &&& 0x3f).toInt64.toUInt64).toInt64)), (.int (48 : Int32))]))
    refine Rch.go (fun zt zk => XS.land X0.here hx rfl (hb hby d1_34) rfl zk) ?_
    show Rch _ _ _ _ (s₁.setTop (mkF m 35 #[.val (.int (6 : Int32)), .val (.int p2), .val (.long q3), .second, .val (.long q4), .second] [(.long (((q3.toUInt64 >>> (((4 : Int32) * (6 : Int32)) &&& 0x3f).toInt64.toUInt64).toInt64) &&& (15 : Int64))), (.int (48 : Int32))]))
    refine Rch.go (X0.ldc2Long hx hown (mvT hZ (ow37 hw)) (g := (mkF m 35 #[.val (.int (6 : Int32)), .val (.int p2), .val (.long q3), .second, .val (.long q4), .second] [(.long (((q3.toUInt64 >>> (((4 : Int32) * (6 : Int32)) &&& 0x3f).toInt64.toUInt64).toInt64) &&& (15 : Int64))), (.int (48 : Int32))])) rfl (hb hby d1_35)) ?_
    show Rch _ _ _ _ (s₁.setTop (mkF m 38 #[.val (.int (6 : Int32)), .val (.int p2), .val (.long q3), .second, .val (.long q4), .second] [(.long (10 : Int64)), (.long (((q3.toUInt64 >>> (((4 : Int32) * (6 : Int32)) &&& 0x3f).toInt64.toUInt64).toInt64) &&& (15 : Int64))), (.int (48 : Int32))]))
    refine Rch.go (fun zt zk => XS.lrem X0.here hx rfl (hb hby d1_38) rfl (by decide : ¬ ((10 : Int64) = (0 : Int64))) zk) ?_
    show Rch _ _ _ _ (s₁.setTop (mkF m 39 #[.val (.int (6 : Int32)), .val (.int p2), .val (.long q3), .second, .val (.long q4), .second] [(.long ((((q3.toUInt64 >>> (((4 : Int32) * (6 : Int32)) &&& 0x3f).toInt64.toUInt64).toInt64) &&& (15 : Int64)) - ((((q3.toUInt64 >>> (((4 : Int32) * (6 : Int32)) &&& 0x3f).toInt64.toUInt64).toInt64) &&& (15 : Int64)) / (10 : Int64)) * (10 : Int64))), (.int (48 : Int32))]))
    refine Rch.go (fun zt zk => XS.l2i X0.here hx rfl (hb hby d1_39) rfl zk) ?_
    show Rch _ _ _ _ (s₁.setTop (mkF m 40 #[.val (.int (6 : Int32)), .val (.int p2), .val (.long q3), .second, .val (.long q4), .second] [(.int (((((q3.toUInt64 >>> (((4 : Int32) * (6 : Int32)) &&& 0x3f).toInt64.toUInt64).toInt64) &&& (15 : Int64)) - ((((q3.toUInt64 >>> (((4 : Int32) * (6 : Int32)) &&& 0x3f).toInt64.toUInt64).toInt64) &&& (15 : Int64)) / (10 : Int64)) * (10 : Int64)).toInt32)), (.int (48 : Int32))]))
    refine Rch.go (fun zt zk => XS.iadd X0.here hx rfl (hb hby d1_40) rfl zk) ?_
    show Rch _ _ _ _ (s₁.setTop (mkF m 41 #[.val (.int (6 : Int32)), .val (.int p2), .val (.long q3), .second, .val (.long q4), .second] [(.int ((48 : Int32) + (((((q3.toUInt64 >>> (((4 : Int32) * (6 : Int32)) &&& 0x3f).toInt64.toUInt64).toInt64) &&& (15 : Int64)) - ((((q3.toUInt64 >>> (((4 : Int32) * (6 : Int32)) &&& 0x3f).toInt64.toUInt64).toInt64) &&& (15 : Int64)) / (10 : Int64)) * (10 : Int64)).toInt32)))]))
    refine Rch.go (fun zt zk => XS.i2b X0.here hx rfl (hb hby d1_41) rfl zk) ?_
    show Rch _ _ _ _ (s₁.setTop (mkF m 42 #[.val (.int (6 : Int32)), .val (.int p2), .val (.long q3), .second, .val (.long q4), .second] [(.int (((48 : Int32) + (((((q3.toUInt64 >>> (((4 : Int32) * (6 : Int32)) &&& 0x3f).toInt64.toUInt64).toInt64) &&& (15 : Int64)) - ((((q3.toUInt64 >>> (((4 : Int32) * (6 : Int32)) &&& 0x3f).toInt64.toUInt64).toInt64) &&& (15 : Int64)) / (10 : Int64)) * (10 : Int64)).toInt32)).toInt8.toInt32))]))
    obtain ⟨fs, hr, hrun, hended, hW, hsame⟩ := X0.leave (v := some (.int (nar .byte (((48 : Int32) + (((((q3.toUInt64 >>> (((4 : Int32) * (6 : Int32)) &&& 0x3f).toInt64.toUInt64).toInt64) &&& (15 : Int64)) - ((((q3.toUInt64 >>> (((4 : Int32) * (6 : Int32)) &&& 0x3f).toInt64.toUInt64).toInt64) &&& (15 : Int64)) / (10 : Int64)) * (10 : Int64)).toInt32)).toInt8.toInt32)))) (fun h => by rw [Bd.returns] at h; cases h)
    refine Rch.mk (retN X0 hx (t := .byte) Bd.returns (by simp) (hb hby d1_42) hr) (hPd _ _ _ _ hrun hended rfl ?_ ⟨⟨_, rfl⟩, hW, hsame.mono (by decide) (by decide)⟩)
    show Q_rmAt6 Z p2 q3 q4 h0 n0 _ s₁.heap _
    have hF : fAt6 p2 q3 q4 = (nar .byte (((48 : Int32) + (((((q3.toUInt64 >>> (((4 : Int32) * (6 : Int32)) &&& 0x3f).toInt64.toUInt64).toInt64) &&& (15 : Int64)) - ((((q3.toUInt64 >>> (((4 : Int32) * (6 : Int32)) &&& 0x3f).toInt64.toUInt64).toInt64) &&& (15 : Int64)) / (10 : Int64)) * (10 : Int64)).toInt32)).toInt8.toInt32)) := ((if_pos hc2_101).trans rfl)
    rw [e0]
    exact ⟨by rw [hF], N0, rfl⟩
  · skip
    refine Rch.go (fun zt zk => XS.icmpYes X0.here hx rfl (pc0 := 2) (pc' := 43) rfl (hb hby d1_2) rfl (flt hc2_101).2.1 (by decide) (by decide) zk) ?_
    show Rch _ _ _ _ (s₁.setTop (mkF m 43 #[.val (.int (6 : Int32)), .val (.int p2), .val (.long q3), .second, .val (.long q4), .second] []))
    refine Rch.go (fun zt zk => XS.lload X0.here hx rfl (hb hby d1_43) rfl zk) ?_
    show Rch _ _ _ _ (s₁.setTop (mkF m 45 #[.val (.int (6 : Int32)), .val (.int p2), .val (.long q3), .second, .val (.long q4), .second] [(.long q4)]))
    refine Rch.go (fun zt zk => XS.iconst X0.here hx rfl (hb hby d1_45) zk) ?_
    show Rch _ _ _ _ (s₁.setTop (mkF m 46 #[.val (.int (6 : Int32)), .val (.int p2), .val (.long q3), .second, .val (.long q4), .second] [(.int (2 : Int32)), (.long q4)]))
    refine Rch.go (fun zt zk => XS.iloadN X0.here hx rfl (hb hby d1_46) rfl zk) ?_
    show Rch _ _ _ _ (s₁.setTop (mkF m 47 #[.val (.int (6 : Int32)), .val (.int p2), .val (.long q3), .second, .val (.long q4), .second] [(.int (6 : Int32)), (.int (2 : Int32)), (.long q4)]))
    refine Rch.go (fun zt zk => XS.imul X0.here hx rfl (hb hby d1_47) rfl zk) ?_
    show Rch _ _ _ _ (s₁.setTop (mkF m 48 #[.val (.int (6 : Int32)), .val (.int p2), .val (.long q3), .second, .val (.long q4), .second] [(.int ((2 : Int32) * (6 : Int32))), (.long q4)]))
    refine Rch.go (fun zt zk => XS.lushr X0.here hx rfl (hb hby d1_48) rfl zk) ?_
    show Rch _ _ _ _ (s₁.setTop (mkF m 49 #[.val (.int (6 : Int32)), .val (.int p2), .val (.long q3), .second, .val (.long q4), .second] [(.long ((q4.toUInt64 >>> (((2 : Int32) * (6 : Int32)) &&& 0x3f).toInt64.toUInt64).toInt64))]))
    refine Rch.go (X0.ldc2Long hx hown (mvT hZ (ow6 hw)) (g := (mkF m 49 #[.val (.int (6 : Int32)), .val (.int p2), .val (.long q3), .second, .val (.long q4), .second] [(.long ((q4.toUInt64 >>> (((2 : Int32) * (6 : Int32)) &&& 0x3f).toInt64.toUInt64).toInt64))])) rfl (hb hby d1_49)) ?_
    show Rch _ _ _ _ (s₁.setTop (mkF m 52 #[.val (.int (6 : Int32)), .val (.int p2), .val (.long q3), .second, .val (.long q4), .second] [(.long (3 : Int64)), (.long ((q4.toUInt64 >>> (((2 : Int32) * (6 : Int32)) &&& 0x3f).toInt64.toUInt64).toInt64))]))
    refine Rch.go (fun zt zk => XS.land X0.here hx rfl (hb hby d1_52) rfl zk) ?_
    show Rch _ _ _ _ (s₁.setTop (mkF m 53 #[.val (.int (6 : Int32)), .val (.int p2), .val (.long q3), .second, .val (.long q4), .second] [(.long (((q4.toUInt64 >>> (((2 : Int32) * (6 : Int32)) &&& 0x3f).toInt64.toUInt64).toInt64) &&& (3 : Int64)))]))
    refine Rch.go (fun zt zk => XS.l2i X0.here hx rfl (hb hby d1_53) rfl zk) ?_
    show Rch _ _ _ _ (s₁.setTop (mkF m 54 #[.val (.int (6 : Int32)), .val (.int p2), .val (.long q3), .second, .val (.long q4), .second] [(.int ((((q4.toUInt64 >>> (((2 : Int32) * (6 : Int32)) &&& 0x3f).toInt64.toUInt64).toInt64) &&& (3 : Int64)).toInt32))]))
    obtain ⟨_, _, ⟨T102, L102, k102, n102⟩, -, X102, ⟨Lc102, hQ102, l102, y102, z102⟩, st102⟩ := Jvm.LawKit.callS X0 hx (y := (⟨"com/example/mark_time/marktime/io/JsonCursorEndPinLaw", "space", "(I)B"⟩ : MethodName)) hown (mvT hZ (ow7 hw)) (mvT hZ (ow8 hw)) (mvT hZ (ow4 hw)) (mvT hZ (ow9 hw)) (by decide) (backOf (W := 0) (rm2 l Z a0 hw [] ((((q4.toUInt64 >>> (((2 : Int32) * (6 : Int32)) &&& 0x3f).toInt64.toUInt64).toInt64) &&& (3 : Int64)).toInt32) h0 n0 Z0 ) hZ (ow9 hw) (ow4 hw) (by decide) (by decide)) (g := (mkF m 54 #[.val (.int (6 : Int32)), .val (.int p2), .val (.long q3), .second, .val (.long q4), .second] [(.int ((((q4.toUInt64 >>> (((2 : Int32) * (6 : Int32)) &&& 0x3f).toInt64.toUInt64).toInt64) &&& (3 : Int64)).toInt32))])) rfl (by rw [hml]; rfl) (argsL := [(.int ((((q4.toUInt64 >>> (((2 : Int32) * (6 : Int32)) &&& 0x3f).toInt64.toUInt64).toInt64) &&& (3 : Int64)).toInt32))]) (rest := []) (lenOf pd__I_B rfl) rfl (by show 2 * 0 + _ ≤ _; exact Nat.le_of_eq rfl) (hb hby d1_54) (fun _ _ => ⟨rfl, e0, (by decide : 0 + 0 ≤ _), (by decide : 0 + 0 ≤ _)⟩)
    dsimp only [Pt.U, Pt.locs, Pt.cells, Pt.slots] at X102 l102 y102 z102 st102 hQ102
    subst l102 y102 z102
    obtain ⟨rfl, N102q, eq102⟩ := hQ102
    have N102 := Fr.app N0 N102q
    refine Rch.go st102 ?_
    show Rch _ _ _ _ (T102.setTop (mkF m 57 #[.val (.int (6 : Int32)), .val (.int p2), .val (.long q3), .second, .val (.long q4), .second] [(.int (fSp ((((q4.toUInt64 >>> (((2 : Int32) * (6 : Int32)) &&& 0x3f).toInt64.toUInt64).toInt64) &&& (3 : Int64)).toInt32)))]))
    obtain ⟨fs, hr, hrun, hended, hW, hsame⟩ := X102.leave (v := some (.int (nar .byte (fSp ((((q4.toUInt64 >>> (((2 : Int32) * (6 : Int32)) &&& 0x3f).toInt64.toUInt64).toInt64) &&& (3 : Int64)).toInt32))))) (fun h => by rw [Bd.returns] at h; cases h)
    refine Rch.mk (retN X102 hx (t := .byte) Bd.returns (by simp) (hb hby d1_57) hr) (hPd _ _ _ _ hrun hended rfl ?_ ⟨⟨_, rfl⟩, hW, hsame.mono (by decide) (by decide)⟩)
    show Q_rmAt6 Z p2 q3 q4 h0 n0 _ T102.heap _
    have hF : fAt6 p2 q3 q4 = (nar .byte (fSp ((((q4.toUInt64 >>> (((2 : Int32) * (6 : Int32)) &&& 0x3f).toInt64.toUInt64).toInt64) &&& (3 : Int64)).toInt32))) := ((if_neg hc2_101).trans rfl)
    rw [eq102]
    exact ⟨by rw [hF], N102, rfl⟩
def fAt7 (p2 : Int32) (q3 : Int64) (q4 : Int64) : Int32 := (if (7 : Int32) < p2 then (nar .byte (((48 : Int32) + (((((q3.toUInt64 >>> (((4 : Int32) * (7 : Int32)) &&& 0x3f).toInt64.toUInt64).toInt64) &&& (15 : Int64)) - ((((q3.toUInt64 >>> (((4 : Int32) * (7 : Int32)) &&& 0x3f).toInt64.toUInt64).toInt64) &&& (15 : Int64)) / (10 : Int64)) * (10 : Int64)).toInt32)).toInt8.toInt32)) else (nar .byte (fSp ((((q4.toUInt64 >>> (((2 : Int32) * (7 : Int32)) &&& 0x3f).toInt64.toUInt64).toInt64) &&& (3 : Int64)).toInt32))))
theorem ef_rmAt7 (m : MethodId) (p2 : Int32) (q3 : Int64) (q4 : Int64) : entryFrame m #[(.int (7 : Int32)), (.int p2), (.long q3), (.long q4)] 6 = mkF m 0 #[.val (.int (7 : Int32)), .val (.int p2), .val (.long q3), .second, .val (.long q4), .second] [] := by first | (simp [entryFrame, mkF, argsToLocals, Value.category]; done) | rfl
def Q_rmAt7 (Z : State) (p2 : Int32) (q3 : Int64) (q4 : Int64) (h0 : Heap) (n0 : Nat) (v : Option Value) (h : Heap) (L : List Loc) : Prop := v = some (.int (fAt7 p2 q3 q4)) ∧ Fr n0 L ∧ h = h0
set_option maxRecDepth 65536 in
set_option maxHeartbeats 40000000 in
theorem rmAt7 (l : Launch) (Z : State) (a0 : Array Value) (hw : ∀ d ∈ tables_1, d.before a0 Z = true) (ws : List Jvm.Cond) (p2 : Int32) (q3 : Int64) (q4 : Int64) (h0 : Heap) (n0 : Nat) (Z0 : n0 ≤ h0.size) :
    MetFree l (⟨"com/example/mark_time/marktime/io/JsonCursorEndPinLaw", "at", "(IIJJ)B"⟩ : MethodName) (head1 (Jvm.Cond.code (⟨"com/example/mark_time/marktime/io/JsonCursorEndPinLaw", "at", "(IIJJ)B"⟩ : MethodName) method_3_code 6 (some .byte) :: ws) ({ frames := 1, cells := 0, slots := 0, locals := 12 } : Room)) (fun a U => a = #[(.int (7 : Int32)), (.int p2), (.long q3), (.long q4)] ∧ Z.Warmed39 U.vm ∧ U.heap = h0) (fun _ _ _ _ _ => True) (fun _ U o U' => ∃ v L, o = .returned v ∧ Q_rmAt7 Z p2 q3 q4 h0 n0 v U'.heap L ∧ FrameEnd U o U' L ({ frames := 1, cells := 0, slots := 0, locals := 12 } : Room).cells ({ frames := 1, cells := 0, slots := 0, locals := 12 } : Room).slots) := by
  refine MetFree.of_bodySF (plainFor_of_name pn_com_example_mark_time_marktime_io_JsonCursorEndPinLaw) hisR ?_
  intro p e s m args below meth c s₁ Bd hml0 hP hK
  obtain ⟨rfl, hZ, hh⟩ := hP
  have hx := Bd.exec
  have hby := Bd.bytes
  have hml : c.maxLocals = 6 := hml0
  have hown : s.vm.findClass "com/example/mark_time/marktime/io/JsonCursorEndPinLaw" = some m.cls := findClass_of_methodNamed Bd.named
  have hnm := (name_of_methodNamed Bd.named Bd.method).1
  have X0 : Stand p l e ({ frames := 1, cells := 0, slots := 0, locals := 12 } : Room) s m #[(.int (7 : Int32)), (.int p2), (.long q3), (.long q4)] below meth c s₁ [] 0 0 := Stand.of_body Bd
  have e0 : s₁.heap = h0 := by rw [← hh, Bd.state]; rfl
  have N0 := Fr.nil n0
  suffices hR : ∀ P : State → Prop, (∀ s₂ o v L, s₂.status = .running → Ended s₂ below o → o = .returned v → Q_rmAt7 Z p2 q3 q4 h0 n0 v s₂.heap L → FrameEnd s o s₂ L ({ frames := 1, cells := 0, slots := 0, locals := 12 } : Room).cells ({ frames := 1, cells := 0, slots := 0, locals := 12 } : Room).slots → P s₂) → Rch p.tables e below P (s₁.setTop (mkF m 0 #[.val (.int (7 : Int32)), .val (.int p2), .val (.long q3), .second, .val (.long q4), .second] [])) by
    obtain ⟨s₂, h1, o, h2⟩ := hR (fun s₂ => ∃ o, s₂.status = .running ∧ Ended s₂ below o ∧ ∃ v L, o = .returned v ∧ Q_rmAt7 Z p2 q3 q4 h0 n0 v s₂.heap L ∧ FrameEnd s o s₂ L ({ frames := 1, cells := 0, slots := 0, locals := 12 } : Room).cells ({ frames := 1, cells := 0, slots := 0, locals := 12 } : Room).slots) (fun s₂ o v L q1 q2 q3 q4 q5 => ⟨o, q1, q2, v, L, q3, q4, q5⟩)
    exact ⟨s₂, o, castTop (ef_rmAt7 m p2 q3 q4) h1, h2⟩
  intro P hPd
  refine Rch.go (fun zt zk => XS.iloadN X0.here hx rfl (hb hby d1_0) rfl zk) ?_
  show Rch _ _ _ _ (s₁.setTop (mkF m 1 #[.val (.int (7 : Int32)), .val (.int p2), .val (.long q3), .second, .val (.long q4), .second] [(.int (7 : Int32))]))
  refine Rch.go (fun zt zk => XS.iloadN X0.here hx rfl (hb hby d1_1) rfl zk) ?_
  show Rch _ _ _ _ (s₁.setTop (mkF m 2 #[.val (.int (7 : Int32)), .val (.int p2), .val (.long q3), .second, .val (.long q4), .second] [(.int p2), (.int (7 : Int32))]))
  by_cases hc2_101 : (7 : Int32) < p2
  · skip
    refine Rch.go (fun zt zk => XS.icmpNo X0.here hx rfl (hb hby d1_2) rfl (tlt hc2_101).2.1 zk) ?_
    show Rch _ _ _ _ (s₁.setTop (mkF m 5 #[.val (.int (7 : Int32)), .val (.int p2), .val (.long q3), .second, .val (.long q4), .second] []))
    refine Rch.go (fun zt zk => XS.iloadN X0.here hx rfl (hb hby d1_5) rfl zk) ?_
    show Rch _ _ _ _ (s₁.setTop (mkF m 6 #[.val (.int (7 : Int32)), .val (.int p2), .val (.long q3), .second, .val (.long q4), .second] [(.int (7 : Int32))]))
    refine Rch.go (fun zt zk => XS.ifYes X0.here hx rfl (pc0 := 6) (pc' := 24) rfl (hb hby d1_6) rfl ((if0 _ _).trans (feq (by decide : ¬ ((7 : Int32) = (0 : Int32)))).2) (by decide) (by decide) zk) ?_
    show Rch _ _ _ _ (s₁.setTop (mkF m 24 #[.val (.int (7 : Int32)), .val (.int p2), .val (.long q3), .second, .val (.long q4), .second] []))
    refine Rch.go (fun zt zk => XS.bipush X0.here hx rfl (hb hby d1_24) zk) ?_
    show Rch _ _ _ _ (s₁.setTop (mkF m 26 #[.val (.int (7 : Int32)), .val (.int p2), .val (.long q3), .second, .val (.long q4), .second] [(.int (48 : Int32))]))
    refine Rch.go (fun zt zk => XS.lloadN X0.here hx rfl (hb hby d1_26) rfl zk) ?_
    show Rch _ _ _ _ (s₁.setTop (mkF m 27 #[.val (.int (7 : Int32)), .val (.int p2), .val (.long q3), .second, .val (.long q4), .second] [(.long q3), (.int (48 : Int32))]))
    refine Rch.go (fun zt zk => XS.iconst X0.here hx rfl (hb hby d1_27) zk) ?_
    show Rch _ _ _ _ (s₁.setTop (mkF m 28 #[.val (.int (7 : Int32)), .val (.int p2), .val (.long q3), .second, .val (.long q4), .second] [(.int (4 : Int32)), (.long q3), (.int (48 : Int32))]))
    refine Rch.go (fun zt zk => XS.iloadN X0.here hx rfl (hb hby d1_28) rfl zk) ?_
    show Rch _ _ _ _ (s₁.setTop (mkF m 29 #[.val (.int (7 : Int32)), .val (.int p2), .val (.long q3), .second, .val (.long q4), .second] [(.int (7 : Int32)), (.int (4 : Int32)), (.long q3), (.int (48 : Int32))]))
    refine Rch.go (fun zt zk => XS.imul X0.here hx rfl (hb hby d1_29) rfl zk) ?_
    show Rch _ _ _ _ (s₁.setTop (mkF m 30 #[.val (.int (7 : Int32)), .val (.int p2), .val (.long q3), .second, .val (.long q4), .second] [(.int ((4 : Int32) * (7 : Int32))), (.long q3), (.int (48 : Int32))]))
    refine Rch.go (fun zt zk => XS.lushr X0.here hx rfl (hb hby d1_30) rfl zk) ?_
    show Rch _ _ _ _ (s₁.setTop (mkF m 31 #[.val (.int (7 : Int32)), .val (.int p2), .val (.long q3), .second, .val (.long q4), .second] [(.long ((q3.toUInt64 >>> (((4 : Int32) * (7 : Int32)) &&& 0x3f).toInt64.toUInt64).toInt64)), (.int (48 : Int32))]))
    refine Rch.go (X0.ldc2Long hx hown (mvT hZ (ow35 hw)) (g := (mkF m 31 #[.val (.int (7 : Int32)), .val (.int p2), .val (.long q3), .second, .val (.long q4), .second] [(.long ((q3.toUInt64 >>> (((4 : Int32) * (7 : Int32)) &&& 0x3f).toInt64.toUInt64).toInt64)), (.int (48 : Int32))])) rfl (hb hby d1_31)) ?_
    show Rch _ _ _ _ (s₁.setTop (mkF m 34 #[.val (.int (7 : Int32)), .val (.int p2), .val (.long q3), .second, .val (.long q4), .second] [(.long (15 : Int64)), (.long ((q3.toUInt64 >>> (((4 : Int32) * (7 : Int32)) &&& 0x3f).toInt64.toUInt64).toInt64)), (.int (48 : Int32))]))
    refine Rch.go (fun zt zk => XS.land X0.here hx rfl (hb hby d1_34) rfl zk) ?_
    show Rch _ _ _ _ (s₁.setTop (mkF m 35 #[.val (.int (7 : Int32)), .val (.int p2), .val (.long q3), .second, .val (.long q4), .second] [(.long (((q3.toUInt64 >>> (((4 : Int32) * (7 : Int32)) &&& 0x3f).toInt64.toUInt64).toInt64) &&& (15 : Int64))), (.int (48 : Int32))]))
    refine Rch.go (X0.ldc2Long hx hown (mvT hZ (ow37 hw)) (g := (mkF m 35 #[.val (.int (7 : Int32)), .val (.int p2), .val (.long q3), .second, .val (.long q4), .second] [(.long (((q3.toUInt64 >>> (((4 : Int32) * (7 : Int32)) &&& 0x3f).toInt64.toUInt64).toInt64) &&& (15 : Int64))), (.int (48 : Int32))])) rfl (hb hby d1_35)) ?_
    show Rch _ _ _ _ (s₁.setTop (mkF m 38 #[.val (.int (7 : Int32)), .val (.int p2), .val (.long q3), .second, .val (.long q4), .second] [(.long (10 : Int64)), (.long (((q3.toUInt64 >>> (((4 : Int32) * (7 : Int32)) &&& 0x3f).toInt64.toUInt64).toInt64) &&& (15 : Int64))), (.int (48 : Int32))]))
    refine Rch.go (fun zt zk => XS.lrem X0.here hx rfl (hb hby d1_38) rfl (by decide : ¬ ((10 : Int64) = (0 : Int64))) zk) ?_
    show Rch _ _ _ _ (s₁.setTop (mkF m 39 #[.val (.int (7 : Int32)), .val (.int p2), .val (.long q3), .second, .val (.long q4), .second] [(.long ((((q3.toUInt64 >>> (((4 : Int32) * (7 : Int32)) &&& 0x3f).toInt64.toUInt64).toInt64) &&& (15 : Int64)) - ((((q3.toUInt64 >>> (((4 : Int32) * (7 : Int32)) &&& 0x3f).toInt64.toUInt64).toInt64) &&& (15 : Int64)) / (10 : Int64)) * (10 : Int64))), (.int (48 : Int32))]))
    refine Rch.go (fun zt zk => XS.l2i X0.here hx rfl (hb hby d1_39) rfl zk) ?_
    show Rch _ _ _ _ (s₁.setTop (mkF m 40 #[.val (.int (7 : Int32)), .val (.int p2), .val (.long q3), .second, .val (.long q4), .second] [(.int (((((q3.toUInt64 >>> (((4 : Int32) * (7 : Int32)) &&& 0x3f).toInt64.toUInt64).toInt64) &&& (15 : Int64)) - ((((q3.toUInt64 >>> (((4 : Int32) * (7 : Int32)) &&& 0x3f).toInt64.toUInt64).toInt64) &&& (15 : Int64)) / (10 : Int64)) * (10 : Int64)).toInt32)), (.int (48 : Int32))]))
    refine Rch.go (fun zt zk => XS.iadd X0.here hx rfl (hb hby d1_40) rfl zk) ?_
    show Rch _ _ _ _ (s₁.setTop (mkF m 41 #[.val (.int (7 : Int32)), .val (.int p2), .val (.long q3), .second, .val (.long q4), .second] [(.int ((48 : Int32) + (((((q3.toUInt64 >>> (((4 : Int32) * (7 : Int32)) &&& 0x3f).toInt64.toUInt64).toInt64) &&& (15 : Int64)) - ((((q3.toUInt64 >>> (((4 : Int32) * (7 : Int32)) &&& 0x3f).toInt64.toUInt64).toInt64) &&& (15 : Int64)) / (10 : Int64)) * (10 : Int64)).toInt32)))]))
    refine Rch.go (fun zt zk => XS.i2b X0.here hx rfl (hb hby d1_41) rfl zk) ?_
    show Rch _ _ _ _ (s₁.setTop (mkF m 42 #[.val (.int (7 : Int32)), .val (.int p2), .val (.long q3), .second, .val (.long q4), .second] [(.int (((48 : Int32) + (((((q3.toUInt64 >>> (((4 : Int32) * (7 : Int32)) &&& 0x3f).toInt64.toUInt64).toInt64) &&& (15 : Int64)) - ((((q3.toUInt64 >>> (((4 : Int32) * (7 : Int32)) &&& 0x3f).toInt64.toUInt64).toInt64) &&& (15 : Int64)) / (10 : Int64)) * (10 : Int64)).toInt32)).toInt8.toInt32))]))
    obtain ⟨fs, hr, hrun, hended, hW, hsame⟩ := X0.leave (v := some (.int (nar .byte (((48 : Int32) + (((((q3.toUInt64 >>> (((4 : Int32) * (7 : Int32)) &&& 0x3f).toInt64.toUInt64).toInt64) &&& (15 : Int64)) - ((((q3.toUInt64 >>> (((4 : Int32) * (7 : Int32)) &&& 0x3f).toInt64.toUInt64).toInt64) &&& (15 : Int64)) / (10 : Int64)) * (10 : Int64)).toInt32)).toInt8.toInt32)))) (fun h => by rw [Bd.returns] at h; cases h)
    refine Rch.mk (retN X0 hx (t := .byte) Bd.returns (by simp) (hb hby d1_42) hr) (hPd _ _ _ _ hrun hended rfl ?_ ⟨⟨_, rfl⟩, hW, hsame.mono (by decide) (by decide)⟩)
    show Q_rmAt7 Z p2 q3 q4 h0 n0 _ s₁.heap _
    have hF : fAt7 p2 q3 q4 = (nar .byte (((48 : Int32) + (((((q3.toUInt64 >>> (((4 : Int32) * (7 : Int32)) &&& 0x3f).toInt64.toUInt64).toInt64) &&& (15 : Int64)) - ((((q3.toUInt64 >>> (((4 : Int32) * (7 : Int32)) &&& 0x3f).toInt64.toUInt64).toInt64) &&& (15 : Int64)) / (10 : Int64)) * (10 : Int64)).toInt32)).toInt8.toInt32)) := ((if_pos hc2_101).trans rfl)
    rw [e0]
    exact ⟨by rw [hF], N0, rfl⟩
  · skip
    refine Rch.go (fun zt zk => XS.icmpYes X0.here hx rfl (pc0 := 2) (pc' := 43) rfl (hb hby d1_2) rfl (flt hc2_101).2.1 (by decide) (by decide) zk) ?_
    show Rch _ _ _ _ (s₁.setTop (mkF m 43 #[.val (.int (7 : Int32)), .val (.int p2), .val (.long q3), .second, .val (.long q4), .second] []))
    refine Rch.go (fun zt zk => XS.lload X0.here hx rfl (hb hby d1_43) rfl zk) ?_
    show Rch _ _ _ _ (s₁.setTop (mkF m 45 #[.val (.int (7 : Int32)), .val (.int p2), .val (.long q3), .second, .val (.long q4), .second] [(.long q4)]))
    refine Rch.go (fun zt zk => XS.iconst X0.here hx rfl (hb hby d1_45) zk) ?_
    show Rch _ _ _ _ (s₁.setTop (mkF m 46 #[.val (.int (7 : Int32)), .val (.int p2), .val (.long q3), .second, .val (.long q4), .second] [(.int (2 : Int32)), (.long q4)]))
    refine Rch.go (fun zt zk => XS.iloadN X0.here hx rfl (hb hby d1_46) rfl zk) ?_
    show Rch _ _ _ _ (s₁.setTop (mkF m 47 #[.val (.int (7 : Int32)), .val (.int p2), .val (.long q3), .second, .val (.long q4), .second] [(.int (7 : Int32)), (.int (2 : Int32)), (.long q4)]))
    refine Rch.go (fun zt zk => XS.imul X0.here hx rfl (hb hby d1_47) rfl zk) ?_
    show Rch _ _ _ _ (s₁.setTop (mkF m 48 #[.val (.int (7 : Int32)), .val (.int p2), .val (.long q3), .second, .val (.long q4), .second] [(.int ((2 : Int32) * (7 : Int32))), (.long q4)]))
    refine Rch.go (fun zt zk => XS.lushr X0.here hx rfl (hb hby d1_48) rfl zk) ?_
    show Rch _ _ _ _ (s₁.setTop (mkF m 49 #[.val (.int (7 : Int32)), .val (.int p2), .val (.long q3), .second, .val (.long q4), .second] [(.long ((q4.toUInt64 >>> (((2 : Int32) * (7 : Int32)) &&& 0x3f).toInt64.toUInt64).toInt64))]))
    refine Rch.go (X0.ldc2Long hx hown (mvT hZ (ow6 hw)) (g := (mkF m 49 #[.val (.int (7 : Int32)), .val (.int p2), .val (.long q3), .second, .val (.long q4), .second] [(.long ((q4.toUInt64 >>> (((2 : Int32) * (7 : Int32)) &&& 0x3f).toInt64.toUInt64).toInt64))])) rfl (hb hby d1_49)) ?_
    show Rch _ _ _ _ (s₁.setTop (mkF m 52 #[.val (.int (7 : Int32)), .val (.int p2), .val (.long q3), .second, .val (.long q4), .second] [(.long (3 : Int64)), (.long ((q4.toUInt64 >>> (((2 : Int32) * (7 : Int32)) &&& 0x3f).toInt64.toUInt64).toInt64))]))
    refine Rch.go (fun zt zk => XS.land X0.here hx rfl (hb hby d1_52) rfl zk) ?_
    show Rch _ _ _ _ (s₁.setTop (mkF m 53 #[.val (.int (7 : Int32)), .val (.int p2), .val (.long q3), .second, .val (.long q4), .second] [(.long (((q4.toUInt64 >>> (((2 : Int32) * (7 : Int32)) &&& 0x3f).toInt64.toUInt64).toInt64) &&& (3 : Int64)))]))
    refine Rch.go (fun zt zk => XS.l2i X0.here hx rfl (hb hby d1_53) rfl zk) ?_
    show Rch _ _ _ _ (s₁.setTop (mkF m 54 #[.val (.int (7 : Int32)), .val (.int p2), .val (.long q3), .second, .val (.long q4), .second] [(.int ((((q4.toUInt64 >>> (((2 : Int32) * (7 : Int32)) &&& 0x3f).toInt64.toUInt64).toInt64) &&& (3 : Int64)).toInt32))]))
    obtain ⟨_, _, ⟨T102, L102, k102, n102⟩, -, X102, ⟨Lc102, hQ102, l102, y102, z102⟩, st102⟩ := Jvm.LawKit.callS X0 hx (y := (⟨"com/example/mark_time/marktime/io/JsonCursorEndPinLaw", "space", "(I)B"⟩ : MethodName)) hown (mvT hZ (ow7 hw)) (mvT hZ (ow8 hw)) (mvT hZ (ow4 hw)) (mvT hZ (ow9 hw)) (by decide) (backOf (W := 0) (rm2 l Z a0 hw [] ((((q4.toUInt64 >>> (((2 : Int32) * (7 : Int32)) &&& 0x3f).toInt64.toUInt64).toInt64) &&& (3 : Int64)).toInt32) h0 n0 Z0 ) hZ (ow9 hw) (ow4 hw) (by decide) (by decide)) (g := (mkF m 54 #[.val (.int (7 : Int32)), .val (.int p2), .val (.long q3), .second, .val (.long q4), .second] [(.int ((((q4.toUInt64 >>> (((2 : Int32) * (7 : Int32)) &&& 0x3f).toInt64.toUInt64).toInt64) &&& (3 : Int64)).toInt32))])) rfl (by rw [hml]; rfl) (argsL := [(.int ((((q4.toUInt64 >>> (((2 : Int32) * (7 : Int32)) &&& 0x3f).toInt64.toUInt64).toInt64) &&& (3 : Int64)).toInt32))]) (rest := []) (lenOf pd__I_B rfl) rfl (by show 2 * 0 + _ ≤ _; exact Nat.le_of_eq rfl) (hb hby d1_54) (fun _ _ => ⟨rfl, e0, (by decide : 0 + 0 ≤ _), (by decide : 0 + 0 ≤ _)⟩)
    dsimp only [Pt.U, Pt.locs, Pt.cells, Pt.slots] at X102 l102 y102 z102 st102 hQ102
    subst l102 y102 z102
    obtain ⟨rfl, N102q, eq102⟩ := hQ102
    have N102 := Fr.app N0 N102q
    refine Rch.go st102 ?_
    show Rch _ _ _ _ (T102.setTop (mkF m 57 #[.val (.int (7 : Int32)), .val (.int p2), .val (.long q3), .second, .val (.long q4), .second] [(.int (fSp ((((q4.toUInt64 >>> (((2 : Int32) * (7 : Int32)) &&& 0x3f).toInt64.toUInt64).toInt64) &&& (3 : Int64)).toInt32)))]))
    obtain ⟨fs, hr, hrun, hended, hW, hsame⟩ := X102.leave (v := some (.int (nar .byte (fSp ((((q4.toUInt64 >>> (((2 : Int32) * (7 : Int32)) &&& 0x3f).toInt64.toUInt64).toInt64) &&& (3 : Int64)).toInt32))))) (fun h => by rw [Bd.returns] at h; cases h)
    refine Rch.mk (retN X102 hx (t := .byte) Bd.returns (by simp) (hb hby d1_57) hr) (hPd _ _ _ _ hrun hended rfl ?_ ⟨⟨_, rfl⟩, hW, hsame.mono (by decide) (by decide)⟩)
    show Q_rmAt7 Z p2 q3 q4 h0 n0 _ T102.heap _
    have hF : fAt7 p2 q3 q4 = (nar .byte (fSp ((((q4.toUInt64 >>> (((2 : Int32) * (7 : Int32)) &&& 0x3f).toInt64.toUInt64).toInt64) &&& (3 : Int64)).toInt32))) := ((if_neg hc2_101).trans rfl)
    rw [eq102]
    exact ⟨by rw [hF], N102, rfl⟩
def fWs (p1 : Int32) : Int32 := (if p1 = (32 : Int32) then (1 : Int32) else (if p1 = (9 : Int32) then (1 : Int32) else (if p1 = (10 : Int32) then (1 : Int32) else (if p1 = (13 : Int32) then (1 : Int32) else (0 : Int32)))))
theorem ef_rm7 (m : MethodId) (p1 : Int32) : entryFrame m #[(.int p1)] 1 = mkF m 0 #[.val (.int p1)] [] := by first | (simp [entryFrame, mkF, argsToLocals, Value.category]; done) | rfl
theorem pn_com_example_mark_time_marktime_io_JsonCursor : plainName "com/example/mark_time/marktime/io/JsonCursor" = true := by first | (simp [plainName, overriddenIn]; done) | decide +kernel
theorem d7_0 : decode prog_14_method_28_code 0 = .ok (.iload_n 0, 1) := by decide +kernel
theorem d7_1 : decode prog_14_method_28_code 1 = .ok (.bipush 32, 2) := by decide +kernel
theorem d7_3 : decode prog_14_method_28_code 3 = .ok (.if_icmp .eq 21, 3) := by decide +kernel
theorem d7_24 : decode prog_14_method_28_code 24 = .ok (.iconst 1, 1) := by decide +kernel
theorem d7_25 : decode prog_14_method_28_code 25 = .ok (.goto 4, 3) := by decide +kernel
theorem d7_29 : decode prog_14_method_28_code 29 = .ok (.ireturn, 1) := by decide +kernel
theorem d7_6 : decode prog_14_method_28_code 6 = .ok (.iload_n 0, 1) := by decide +kernel
theorem d7_7 : decode prog_14_method_28_code 7 = .ok (.bipush 9, 2) := by decide +kernel
theorem d7_9 : decode prog_14_method_28_code 9 = .ok (.if_icmp .eq 15, 3) := by decide +kernel
theorem d7_12 : decode prog_14_method_28_code 12 = .ok (.iload_n 0, 1) := by decide +kernel
theorem d7_13 : decode prog_14_method_28_code 13 = .ok (.bipush 10, 2) := by decide +kernel
theorem d7_15 : decode prog_14_method_28_code 15 = .ok (.if_icmp .eq 9, 3) := by decide +kernel
theorem d7_18 : decode prog_14_method_28_code 18 = .ok (.iload_n 0, 1) := by decide +kernel
theorem d7_19 : decode prog_14_method_28_code 19 = .ok (.bipush 13, 2) := by decide +kernel
theorem d7_21 : decode prog_14_method_28_code 21 = .ok (.if_icmp .ne 7, 3) := by decide +kernel
theorem d7_28 : decode prog_14_method_28_code 28 = .ok (.iconst 0, 1) := by decide +kernel
def Q_rm7 (Z : State) (p1 : Int32) (h0 : Heap) (n0 : Nat) (v : Option Value) (h : Heap) (L : List Loc) : Prop := v = some (.int (fWs p1)) ∧ Fr n0 L ∧ h = h0
set_option maxRecDepth 65536 in
set_option maxHeartbeats 40000000 in
theorem rm7 (l : Launch) (Z : State) (a0 : Array Value) (hw : ∀ d ∈ tables_1, d.before a0 Z = true) (ws : List Jvm.Cond) (p1 : Int32) (h0 : Heap) (n0 : Nat) (Z0 : n0 ≤ h0.size) :
    MetFree l (⟨"com/example/mark_time/marktime/io/JsonCursor", "isWhitespace", "(B)Z"⟩ : MethodName) (head1 (Jvm.Cond.code (⟨"com/example/mark_time/marktime/io/JsonCursor", "isWhitespace", "(B)Z"⟩ : MethodName) prog_14_method_28_code 1 (some .boolean) :: ws) ({ frames := 0, cells := 0, slots := 0, locals := 0 } : Room)) (fun a U => a = #[(.int p1)] ∧ Z.Warmed39 U.vm ∧ U.heap = h0) (fun _ _ _ _ _ => True) (fun _ U o U' => ∃ v L, o = .returned v ∧ Q_rm7 Z p1 h0 n0 v U'.heap L ∧ FrameEnd U o U' L ({ frames := 0, cells := 0, slots := 0, locals := 0 } : Room).cells ({ frames := 0, cells := 0, slots := 0, locals := 0 } : Room).slots) := by
  refine MetFree.of_bodySF (plainFor_of_name pn_com_example_mark_time_marktime_io_JsonCursor) hisR ?_
  intro p e s m args below meth c s₁ Bd hml0 hP hK
  obtain ⟨rfl, hZ, hh⟩ := hP
  have hx := Bd.exec
  have hby := Bd.bytes
  have hml : c.maxLocals = 1 := hml0
  have hown : s.vm.findClass "com/example/mark_time/marktime/io/JsonCursor" = some m.cls := findClass_of_methodNamed Bd.named
  have hnm := (name_of_methodNamed Bd.named Bd.method).1
  have X0 : Stand p l e ({ frames := 0, cells := 0, slots := 0, locals := 0 } : Room) s m #[(.int p1)] below meth c s₁ [] 0 0 := Stand.of_body Bd
  have e0 : s₁.heap = h0 := by rw [← hh, Bd.state]; rfl
  have N0 := Fr.nil n0
  suffices hR : ∀ P : State → Prop, (∀ s₂ o v L, s₂.status = .running → Ended s₂ below o → o = .returned v → Q_rm7 Z p1 h0 n0 v s₂.heap L → FrameEnd s o s₂ L ({ frames := 0, cells := 0, slots := 0, locals := 0 } : Room).cells ({ frames := 0, cells := 0, slots := 0, locals := 0 } : Room).slots → P s₂) → Rch p.tables e below P (s₁.setTop (mkF m 0 #[.val (.int p1)] [])) by
    obtain ⟨s₂, h1, o, h2⟩ := hR (fun s₂ => ∃ o, s₂.status = .running ∧ Ended s₂ below o ∧ ∃ v L, o = .returned v ∧ Q_rm7 Z p1 h0 n0 v s₂.heap L ∧ FrameEnd s o s₂ L ({ frames := 0, cells := 0, slots := 0, locals := 0 } : Room).cells ({ frames := 0, cells := 0, slots := 0, locals := 0 } : Room).slots) (fun s₂ o v L q1 q2 q3 q4 q5 => ⟨o, q1, q2, v, L, q3, q4, q5⟩)
    exact ⟨s₂, o, castTop (ef_rm7 m p1) h1, h2⟩
  intro P hPd
  refine Rch.go (fun zt zk => XS.iloadN X0.here hx rfl (hb hby d7_0) rfl zk) ?_
  show Rch _ _ _ _ (s₁.setTop (mkF m 1 #[.val (.int p1)] [(.int p1)]))
  refine Rch.go (fun zt zk => XS.bipush X0.here hx rfl (hb hby d7_1) zk) ?_
  show Rch _ _ _ _ (s₁.setTop (mkF m 3 #[.val (.int p1)] [(.int (32 : Int32)), (.int p1)]))
  by_cases hc3_101 : p1 = (32 : Int32)
  · skip
    refine Rch.go (fun zt zk => XS.icmpYes X0.here hx rfl (pc0 := 3) (pc' := 24) rfl (hb hby d7_3) rfl (teq hc3_101).1 (by decide) (by decide) zk) ?_
    show Rch _ _ _ _ (s₁.setTop (mkF m 24 #[.val (.int p1)] []))
    refine Rch.go (fun zt zk => XS.iconst X0.here hx rfl (hb hby d7_24) zk) ?_
    show Rch _ _ _ _ (s₁.setTop (mkF m 25 #[.val (.int p1)] [(.int (1 : Int32))]))
    refine Rch.go (fun zt zk => XS.goto X0.here hx rfl (pc0 := 25) (pc' := 29) rfl (hb hby d7_25) (by decide) (by decide) zk) ?_
    show Rch _ _ _ _ (s₁.setTop (mkF m 29 #[.val (.int p1)] [(.int (1 : Int32))]))
    obtain ⟨fs, hr, hrun, hended, hW, hsame⟩ := X0.leave (v := some (.int (1 : Int32))) (fun h => by rw [Bd.returns] at h; cases h)
    refine Rch.mk (retN X0 hx (t := .boolean) Bd.returns (by simp) (hb hby d7_29) hr) (hPd _ _ _ _ hrun hended rfl ?_ ⟨⟨_, rfl⟩, hW, hsame.mono (by decide) (by decide)⟩)
    show Q_rm7 Z p1 h0 n0 _ s₁.heap _
    have hF : fWs p1 = (1 : Int32) := ((if_pos hc3_101).trans rfl)
    rw [e0]
    exact ⟨by rw [hF], N0, rfl⟩
  · skip
    refine Rch.go (fun zt zk => XS.icmpNo X0.here hx rfl (hb hby d7_3) rfl (feq hc3_101).1 zk) ?_
    show Rch _ _ _ _ (s₁.setTop (mkF m 6 #[.val (.int p1)] []))
    refine Rch.go (fun zt zk => XS.iloadN X0.here hx rfl (hb hby d7_6) rfl zk) ?_
    show Rch _ _ _ _ (s₁.setTop (mkF m 7 #[.val (.int p1)] [(.int p1)]))
    refine Rch.go (fun zt zk => XS.bipush X0.here hx rfl (hb hby d7_7) zk) ?_
    show Rch _ _ _ _ (s₁.setTop (mkF m 9 #[.val (.int p1)] [(.int (9 : Int32)), (.int p1)]))
    by_cases hc9_102 : p1 = (9 : Int32)
    · skip
      refine Rch.go (fun zt zk => XS.icmpYes X0.here hx rfl (pc0 := 9) (pc' := 24) rfl (hb hby d7_9) rfl (teq hc9_102).1 (by decide) (by decide) zk) ?_
      show Rch _ _ _ _ (s₁.setTop (mkF m 24 #[.val (.int p1)] []))
      refine Rch.go (fun zt zk => XS.iconst X0.here hx rfl (hb hby d7_24) zk) ?_
      show Rch _ _ _ _ (s₁.setTop (mkF m 25 #[.val (.int p1)] [(.int (1 : Int32))]))
      refine Rch.go (fun zt zk => XS.goto X0.here hx rfl (pc0 := 25) (pc' := 29) rfl (hb hby d7_25) (by decide) (by decide) zk) ?_
      show Rch _ _ _ _ (s₁.setTop (mkF m 29 #[.val (.int p1)] [(.int (1 : Int32))]))
      obtain ⟨fs, hr, hrun, hended, hW, hsame⟩ := X0.leave (v := some (.int (1 : Int32))) (fun h => by rw [Bd.returns] at h; cases h)
      refine Rch.mk (retN X0 hx (t := .boolean) Bd.returns (by simp) (hb hby d7_29) hr) (hPd _ _ _ _ hrun hended rfl ?_ ⟨⟨_, rfl⟩, hW, hsame.mono (by decide) (by decide)⟩)
      show Q_rm7 Z p1 h0 n0 _ s₁.heap _
      have hF : fWs p1 = (1 : Int32) := ((if_neg hc3_101).trans ((if_pos hc9_102).trans rfl))
      rw [e0]
      exact ⟨by rw [hF], N0, rfl⟩
    · skip
      refine Rch.go (fun zt zk => XS.icmpNo X0.here hx rfl (hb hby d7_9) rfl (feq hc9_102).1 zk) ?_
      show Rch _ _ _ _ (s₁.setTop (mkF m 12 #[.val (.int p1)] []))
      refine Rch.go (fun zt zk => XS.iloadN X0.here hx rfl (hb hby d7_12) rfl zk) ?_
      show Rch _ _ _ _ (s₁.setTop (mkF m 13 #[.val (.int p1)] [(.int p1)]))
      refine Rch.go (fun zt zk => XS.bipush X0.here hx rfl (hb hby d7_13) zk) ?_
      show Rch _ _ _ _ (s₁.setTop (mkF m 15 #[.val (.int p1)] [(.int (10 : Int32)), (.int p1)]))
      by_cases hc15_103 : p1 = (10 : Int32)
      · skip
        refine Rch.go (fun zt zk => XS.icmpYes X0.here hx rfl (pc0 := 15) (pc' := 24) rfl (hb hby d7_15) rfl (teq hc15_103).1 (by decide) (by decide) zk) ?_
        show Rch _ _ _ _ (s₁.setTop (mkF m 24 #[.val (.int p1)] []))
        refine Rch.go (fun zt zk => XS.iconst X0.here hx rfl (hb hby d7_24) zk) ?_
        show Rch _ _ _ _ (s₁.setTop (mkF m 25 #[.val (.int p1)] [(.int (1 : Int32))]))
        refine Rch.go (fun zt zk => XS.goto X0.here hx rfl (pc0 := 25) (pc' := 29) rfl (hb hby d7_25) (by decide) (by decide) zk) ?_
        show Rch _ _ _ _ (s₁.setTop (mkF m 29 #[.val (.int p1)] [(.int (1 : Int32))]))
        obtain ⟨fs, hr, hrun, hended, hW, hsame⟩ := X0.leave (v := some (.int (1 : Int32))) (fun h => by rw [Bd.returns] at h; cases h)
        refine Rch.mk (retN X0 hx (t := .boolean) Bd.returns (by simp) (hb hby d7_29) hr) (hPd _ _ _ _ hrun hended rfl ?_ ⟨⟨_, rfl⟩, hW, hsame.mono (by decide) (by decide)⟩)
        show Q_rm7 Z p1 h0 n0 _ s₁.heap _
        have hF : fWs p1 = (1 : Int32) := ((if_neg hc3_101).trans ((if_neg hc9_102).trans ((if_pos hc15_103).trans rfl)))
        rw [e0]
        exact ⟨by rw [hF], N0, rfl⟩
      · skip
        refine Rch.go (fun zt zk => XS.icmpNo X0.here hx rfl (hb hby d7_15) rfl (feq hc15_103).1 zk) ?_
        show Rch _ _ _ _ (s₁.setTop (mkF m 18 #[.val (.int p1)] []))
        refine Rch.go (fun zt zk => XS.iloadN X0.here hx rfl (hb hby d7_18) rfl zk) ?_
        show Rch _ _ _ _ (s₁.setTop (mkF m 19 #[.val (.int p1)] [(.int p1)]))
        refine Rch.go (fun zt zk => XS.bipush X0.here hx rfl (hb hby d7_19) zk) ?_
        show Rch _ _ _ _ (s₁.setTop (mkF m 21 #[.val (.int p1)] [(.int (13 : Int32)), (.int p1)]))
        by_cases hc21_104 : p1 = (13 : Int32)
        · skip
          refine Rch.go (fun zt zk => XS.icmpNo X0.here hx rfl (hb hby d7_21) rfl (teq hc21_104).2 zk) ?_
          show Rch _ _ _ _ (s₁.setTop (mkF m 24 #[.val (.int p1)] []))
          refine Rch.go (fun zt zk => XS.iconst X0.here hx rfl (hb hby d7_24) zk) ?_
          show Rch _ _ _ _ (s₁.setTop (mkF m 25 #[.val (.int p1)] [(.int (1 : Int32))]))
          refine Rch.go (fun zt zk => XS.goto X0.here hx rfl (pc0 := 25) (pc' := 29) rfl (hb hby d7_25) (by decide) (by decide) zk) ?_
          show Rch _ _ _ _ (s₁.setTop (mkF m 29 #[.val (.int p1)] [(.int (1 : Int32))]))
          obtain ⟨fs, hr, hrun, hended, hW, hsame⟩ := X0.leave (v := some (.int (1 : Int32))) (fun h => by rw [Bd.returns] at h; cases h)
          refine Rch.mk (retN X0 hx (t := .boolean) Bd.returns (by simp) (hb hby d7_29) hr) (hPd _ _ _ _ hrun hended rfl ?_ ⟨⟨_, rfl⟩, hW, hsame.mono (by decide) (by decide)⟩)
          show Q_rm7 Z p1 h0 n0 _ s₁.heap _
          have hF : fWs p1 = (1 : Int32) := ((if_neg hc3_101).trans ((if_neg hc9_102).trans ((if_neg hc15_103).trans ((if_pos hc21_104).trans rfl))))
          rw [e0]
          exact ⟨by rw [hF], N0, rfl⟩
        · skip
          refine Rch.go (fun zt zk => XS.icmpYes X0.here hx rfl (pc0 := 21) (pc' := 28) rfl (hb hby d7_21) rfl (feq hc21_104).2 (by decide) (by decide) zk) ?_
          show Rch _ _ _ _ (s₁.setTop (mkF m 28 #[.val (.int p1)] []))
          refine Rch.go (fun zt zk => XS.iconst X0.here hx rfl (hb hby d7_28) zk) ?_
          show Rch _ _ _ _ (s₁.setTop (mkF m 29 #[.val (.int p1)] [(.int (0 : Int32))]))
          obtain ⟨fs, hr, hrun, hended, hW, hsame⟩ := X0.leave (v := some (.int (0 : Int32))) (fun h => by rw [Bd.returns] at h; cases h)
          refine Rch.mk (retN X0 hx (t := .boolean) Bd.returns (by simp) (hb hby d7_29) hr) (hPd _ _ _ _ hrun hended rfl ?_ ⟨⟨_, rfl⟩, hW, hsame.mono (by decide) (by decide)⟩)
          show Q_rm7 Z p1 h0 n0 _ s₁.heap _
          have hF : fWs p1 = (0 : Int32) := ((if_neg hc3_101).trans ((if_neg hc9_102).trans ((if_neg hc15_103).trans ((if_neg hc21_104).trans rfl))))
          rw [e0]
          exact ⟨by rw [hF], N0, rfl⟩
def fDg (p1 : Int32) : Int32 := (if p1 < (48 : Int32) then (0 : Int32) else (if (57 : Int32) < p1 then (0 : Int32) else (1 : Int32)))
theorem ef_rm11 (m : MethodId) (p1 : Int32) : entryFrame m #[(.int p1)] 1 = mkF m 0 #[.val (.int p1)] [] := by first | (simp [entryFrame, mkF, argsToLocals, Value.category]; done) | rfl
theorem d11_0 : decode prog_14_method_27_code 0 = .ok (.iload_n 0, 1) := by decide +kernel
theorem d11_1 : decode prog_14_method_27_code 1 = .ok (.bipush 48, 2) := by decide +kernel
theorem d11_3 : decode prog_14_method_27_code 3 = .ok (.if_icmp .lt 13, 3) := by decide +kernel
theorem d11_16 : decode prog_14_method_27_code 16 = .ok (.iconst 0, 1) := by decide +kernel
theorem d11_17 : decode prog_14_method_27_code 17 = .ok (.ireturn, 1) := by decide +kernel
theorem d11_6 : decode prog_14_method_27_code 6 = .ok (.iload_n 0, 1) := by decide +kernel
theorem d11_7 : decode prog_14_method_27_code 7 = .ok (.bipush 57, 2) := by decide +kernel
theorem d11_9 : decode prog_14_method_27_code 9 = .ok (.if_icmp .gt 7, 3) := by decide +kernel
theorem d11_12 : decode prog_14_method_27_code 12 = .ok (.iconst 1, 1) := by decide +kernel
theorem d11_13 : decode prog_14_method_27_code 13 = .ok (.goto 4, 3) := by decide +kernel
def Q_rm11 (Z : State) (p1 : Int32) (h0 : Heap) (n0 : Nat) (v : Option Value) (h : Heap) (L : List Loc) : Prop := v = some (.int (fDg p1)) ∧ Fr n0 L ∧ h = h0
set_option maxRecDepth 65536 in
set_option maxHeartbeats 40000000 in
theorem rm11 (l : Launch) (Z : State) (a0 : Array Value) (hw : ∀ d ∈ tables_1, d.before a0 Z = true) (ws : List Jvm.Cond) (p1 : Int32) (h0 : Heap) (n0 : Nat) (Z0 : n0 ≤ h0.size) :
    MetFree l (⟨"com/example/mark_time/marktime/io/JsonCursor", "isDigit", "(B)Z"⟩ : MethodName) (head1 (Jvm.Cond.code (⟨"com/example/mark_time/marktime/io/JsonCursor", "isDigit", "(B)Z"⟩ : MethodName) prog_14_method_27_code 1 (some .boolean) :: ws) ({ frames := 0, cells := 0, slots := 0, locals := 0 } : Room)) (fun a U => a = #[(.int p1)] ∧ Z.Warmed39 U.vm ∧ U.heap = h0) (fun _ _ _ _ _ => True) (fun _ U o U' => ∃ v L, o = .returned v ∧ Q_rm11 Z p1 h0 n0 v U'.heap L ∧ FrameEnd U o U' L ({ frames := 0, cells := 0, slots := 0, locals := 0 } : Room).cells ({ frames := 0, cells := 0, slots := 0, locals := 0 } : Room).slots) := by
  refine MetFree.of_bodySF (plainFor_of_name pn_com_example_mark_time_marktime_io_JsonCursor) hisR ?_
  intro p e s m args below meth c s₁ Bd hml0 hP hK
  obtain ⟨rfl, hZ, hh⟩ := hP
  have hx := Bd.exec
  have hby := Bd.bytes
  have hml : c.maxLocals = 1 := hml0
  have hown : s.vm.findClass "com/example/mark_time/marktime/io/JsonCursor" = some m.cls := findClass_of_methodNamed Bd.named
  have hnm := (name_of_methodNamed Bd.named Bd.method).1
  have X0 : Stand p l e ({ frames := 0, cells := 0, slots := 0, locals := 0 } : Room) s m #[(.int p1)] below meth c s₁ [] 0 0 := Stand.of_body Bd
  have e0 : s₁.heap = h0 := by rw [← hh, Bd.state]; rfl
  have N0 := Fr.nil n0
  suffices hR : ∀ P : State → Prop, (∀ s₂ o v L, s₂.status = .running → Ended s₂ below o → o = .returned v → Q_rm11 Z p1 h0 n0 v s₂.heap L → FrameEnd s o s₂ L ({ frames := 0, cells := 0, slots := 0, locals := 0 } : Room).cells ({ frames := 0, cells := 0, slots := 0, locals := 0 } : Room).slots → P s₂) → Rch p.tables e below P (s₁.setTop (mkF m 0 #[.val (.int p1)] [])) by
    obtain ⟨s₂, h1, o, h2⟩ := hR (fun s₂ => ∃ o, s₂.status = .running ∧ Ended s₂ below o ∧ ∃ v L, o = .returned v ∧ Q_rm11 Z p1 h0 n0 v s₂.heap L ∧ FrameEnd s o s₂ L ({ frames := 0, cells := 0, slots := 0, locals := 0 } : Room).cells ({ frames := 0, cells := 0, slots := 0, locals := 0 } : Room).slots) (fun s₂ o v L q1 q2 q3 q4 q5 => ⟨o, q1, q2, v, L, q3, q4, q5⟩)
    exact ⟨s₂, o, castTop (ef_rm11 m p1) h1, h2⟩
  intro P hPd
  refine Rch.go (fun zt zk => XS.iloadN X0.here hx rfl (hb hby d11_0) rfl zk) ?_
  show Rch _ _ _ _ (s₁.setTop (mkF m 1 #[.val (.int p1)] [(.int p1)]))
  refine Rch.go (fun zt zk => XS.bipush X0.here hx rfl (hb hby d11_1) zk) ?_
  show Rch _ _ _ _ (s₁.setTop (mkF m 3 #[.val (.int p1)] [(.int (48 : Int32)), (.int p1)]))
  by_cases hc3_101 : p1 < (48 : Int32)
  · skip
    refine Rch.go (fun zt zk => XS.icmpYes X0.here hx rfl (pc0 := 3) (pc' := 16) rfl (hb hby d11_3) rfl (tlt hc3_101).1 (by decide) (by decide) zk) ?_
    show Rch _ _ _ _ (s₁.setTop (mkF m 16 #[.val (.int p1)] []))
    refine Rch.go (fun zt zk => XS.iconst X0.here hx rfl (hb hby d11_16) zk) ?_
    show Rch _ _ _ _ (s₁.setTop (mkF m 17 #[.val (.int p1)] [(.int (0 : Int32))]))
    obtain ⟨fs, hr, hrun, hended, hW, hsame⟩ := X0.leave (v := some (.int (0 : Int32))) (fun h => by rw [Bd.returns] at h; cases h)
    refine Rch.mk (retN X0 hx (t := .boolean) Bd.returns (by simp) (hb hby d11_17) hr) (hPd _ _ _ _ hrun hended rfl ?_ ⟨⟨_, rfl⟩, hW, hsame.mono (by decide) (by decide)⟩)
    show Q_rm11 Z p1 h0 n0 _ s₁.heap _
    have hF : fDg p1 = (0 : Int32) := ((if_pos hc3_101).trans rfl)
    rw [e0]
    exact ⟨by rw [hF], N0, rfl⟩
  · skip
    refine Rch.go (fun zt zk => XS.icmpNo X0.here hx rfl (hb hby d11_3) rfl (flt hc3_101).1 zk) ?_
    show Rch _ _ _ _ (s₁.setTop (mkF m 6 #[.val (.int p1)] []))
    refine Rch.go (fun zt zk => XS.iloadN X0.here hx rfl (hb hby d11_6) rfl zk) ?_
    show Rch _ _ _ _ (s₁.setTop (mkF m 7 #[.val (.int p1)] [(.int p1)]))
    refine Rch.go (fun zt zk => XS.bipush X0.here hx rfl (hb hby d11_7) zk) ?_
    show Rch _ _ _ _ (s₁.setTop (mkF m 9 #[.val (.int p1)] [(.int (57 : Int32)), (.int p1)]))
    by_cases hc9_102 : (57 : Int32) < p1
    · skip
      refine Rch.go (fun zt zk => XS.icmpYes X0.here hx rfl (pc0 := 9) (pc' := 16) rfl (hb hby d11_9) rfl (tlt hc9_102).2.2.1 (by decide) (by decide) zk) ?_
      show Rch _ _ _ _ (s₁.setTop (mkF m 16 #[.val (.int p1)] []))
      refine Rch.go (fun zt zk => XS.iconst X0.here hx rfl (hb hby d11_16) zk) ?_
      show Rch _ _ _ _ (s₁.setTop (mkF m 17 #[.val (.int p1)] [(.int (0 : Int32))]))
      obtain ⟨fs, hr, hrun, hended, hW, hsame⟩ := X0.leave (v := some (.int (0 : Int32))) (fun h => by rw [Bd.returns] at h; cases h)
      refine Rch.mk (retN X0 hx (t := .boolean) Bd.returns (by simp) (hb hby d11_17) hr) (hPd _ _ _ _ hrun hended rfl ?_ ⟨⟨_, rfl⟩, hW, hsame.mono (by decide) (by decide)⟩)
      show Q_rm11 Z p1 h0 n0 _ s₁.heap _
      have hF : fDg p1 = (0 : Int32) := ((if_neg hc3_101).trans ((if_pos hc9_102).trans rfl))
      rw [e0]
      exact ⟨by rw [hF], N0, rfl⟩
    · skip
      refine Rch.go (fun zt zk => XS.icmpNo X0.here hx rfl (hb hby d11_9) rfl (flt hc9_102).2.2.1 zk) ?_
      show Rch _ _ _ _ (s₁.setTop (mkF m 12 #[.val (.int p1)] []))
      refine Rch.go (fun zt zk => XS.iconst X0.here hx rfl (hb hby d11_12) zk) ?_
      show Rch _ _ _ _ (s₁.setTop (mkF m 13 #[.val (.int p1)] [(.int (1 : Int32))]))
      refine Rch.go (fun zt zk => XS.goto X0.here hx rfl (pc0 := 13) (pc' := 17) rfl (hb hby d11_13) (by decide) (by decide) zk) ?_
      show Rch _ _ _ _ (s₁.setTop (mkF m 17 #[.val (.int p1)] [(.int (1 : Int32))]))
      obtain ⟨fs, hr, hrun, hended, hW, hsame⟩ := X0.leave (v := some (.int (1 : Int32))) (fun h => by rw [Bd.returns] at h; cases h)
      refine Rch.mk (retN X0 hx (t := .boolean) Bd.returns (by simp) (hb hby d11_17) hr) (hPd _ _ _ _ hrun hended rfl ?_ ⟨⟨_, rfl⟩, hW, hsame.mono (by decide) (by decide)⟩)
      show Q_rm11 Z p1 h0 n0 _ s₁.heap _
      have hF : fDg p1 = (1 : Int32) := ((if_neg hc3_101).trans ((if_neg hc9_102).trans rfl))
      rw [e0]
      exact ⟨by rw [hF], N0, rfl⟩
def Len (nn : Int32) (bs : List Int32) : Prop := nn.toInt = bs.length ∧ nn.toInt ≤ 8
def bAt (bs : List Int32) (i : Int32) : Int32 := bs.getD i.toNatClampNeg (0 : Int32)
theorem own_bAt (bs : List Int32) (i : Int32) : (bs.map Value.int).getD i.toNatClampNeg (.int (0 : Int32)) = .int (bAt bs i) := by
  unfold bAt
  rw [List.getD_eq_getElem?_getD, List.getD_eq_getElem?_getD, List.getElem?_map]
  cases bs[i.toNatClampNeg]? <;> rfl
theorem own_inb {nn i : Int32} (h0 : 0 ≤ i.toInt) (h1 : i < nn) : ¬ i < 0 ∧ i < nn := by
  have e0 : (0 : Int32).toInt = 0 := by decide
  exact ⟨by rw [Int32.lt_iff_toInt_lt]; omega, h1⟩
theorem own_up {nn i : Int32} {bs : List Int32} (hn : Len nn bs) (h0 : 0 ≤ i.toInt) (h1 : i < nn) : (i + (1 : Int32)).toInt = i.toInt + 1 := by
  have h2 := c_iadd i (1 : Int32); have h3 := rng32 (i + (1 : Int32)); have e1 : (1 : Int32).toInt = 1 := by decide
  rw [Int32.lt_iff_toInt_lt] at h1; have := hn.2; omega
def fSkip (nn : Int32) (bs : List Int32) : Nat → Int32 → Int32
  | 0, i => i
  | k + 1, i => if i < nn then (if fWs (bAt bs i) = (0 : Int32) then i else fSkip nn bs k (i + (1 : Int32))) else i
def fDig (nn : Int32) (bs : List Int32) : Nat → Int32 → Int32
  | 0, i => i
  | k + 1, i => if i < nn then (if fDg (bAt bs i) = (0 : Int32) then i else fDig nn bs k (i + (1 : Int32))) else i
theorem own_s0 {nn : Int32} {bs : List Int32} {k : Nat} {i : Int32} (h : ¬ (i < nn)) : fSkip nn bs k i = i := by cases k <;> simp [fSkip, h]
theorem own_s1 {nn : Int32} {bs : List Int32} {k : Nat} {i : Int32} (h : fWs (bAt bs i) = (0 : Int32)) : fSkip nn bs k i = i := by cases k <;> simp [fSkip, h]
theorem own_s2 {nn : Int32} {bs : List Int32} {k : Nat} {i : Int32} (h : i < nn) (h2 : ¬ (fWs (bAt bs i) = (0 : Int32))) : fSkip nn bs (k + 1) i = fSkip nn bs k (i + (1 : Int32)) := by simp [fSkip, h, h2]
theorem own_d0 {nn : Int32} {bs : List Int32} {k : Nat} {i : Int32} (h : ¬ (i < nn)) : fDig nn bs k i = i := by cases k <;> simp [fDig, h]
theorem own_d1 {nn : Int32} {bs : List Int32} {k : Nat} {i : Int32} (h : fDg (bAt bs i) = (0 : Int32)) : fDig nn bs k i = i := by cases k <;> simp [fDig, h]
theorem own_d2 {nn : Int32} {bs : List Int32} {k : Nat} {i : Int32} (h : i < nn) (h2 : ¬ (fDg (bAt bs i) = (0 : Int32))) : fDig nn bs (k + 1) i = fDig nn bs k (i + (1 : Int32)) := by simp [fDig, h, h2]
theorem ef_rm3 (m : MethodId) (a1 : Addr) (a2 : Addr) : entryFrame m #[(.ref a1), (.ref a2)] 2 = mkF m 0 #[.val (.ref a1), .val (.ref a2)] [] := by first | (simp [entryFrame, mkF, argsToLocals, Value.category]; done) | rfl
theorem d3_0 : decode prog_14_method_1_code 0 = .ok (.aload_n 0, 1) := by decide +kernel
theorem d3_1 : decode prog_14_method_1_code 1 = .ok (.invokespecial 1, 3) := by decide +kernel
theorem d3_4 : decode prog_14_method_1_code 4 = .ok (.aload_n 0, 1) := by decide +kernel
theorem d3_5 : decode prog_14_method_1_code 5 = .ok (.aload_n 1, 1) := by decide +kernel
theorem d3_6 : decode prog_14_method_1_code 6 = .ok (.putfield 7, 3) := by decide +kernel
theorem d3_9 : decode prog_14_method_1_code 9 = .ok (.return_, 1) := by decide +kernel
def Q_rm3 (Z : State) (a1 : Addr) (a2 : Addr) (u1 : Value) (u2 : Int32) (h0 : Heap) (n0 : Nat) (v : Option Value) (h : Heap) (L : List Loc) : Prop := v = none ∧ Fr n0 L ∧ Keep h0 h [a1] ∧ Exa Z h a1 "com/example/mark_time/marktime/io/JsonCursor" ∧ Fld Z h a1 "com/example/mark_time/marktime/io/JsonCursor" "text" "[B" (.ref a2) ∧ Fld Z h a1 "com/example/mark_time/marktime/io/JsonCursor" "at" "I" (.int u2)
set_option maxRecDepth 65536 in
set_option maxHeartbeats 40000000 in
theorem rm3 (l : Launch) (Z : State) (a0 : Array Value) (hw : ∀ d ∈ tables_1, d.before a0 Z = true) (ws : List Jvm.Cond) (a1 : Addr) (a2 : Addr) (u1 : Value) (u2 : Int32) (h0 : Heap) (n0 : Nat) (Z0 : n0 ≤ h0.size) (P0 : Exa Z h0 a1 "com/example/mark_time/marktime/io/JsonCursor") (P1 : Fld Z h0 a1 "com/example/mark_time/marktime/io/JsonCursor" "text" "[B" u1) (P2 : Fld Z h0 a1 "com/example/mark_time/marktime/io/JsonCursor" "at" "I" (.int u2)) (Pg_a1 : n0 ≤ a1) :
    MetFree l (⟨"com/example/mark_time/marktime/io/JsonCursor", "<init>", "([B)V"⟩ : MethodName) (head1 (Jvm.Cond.code (⟨"com/example/mark_time/marktime/io/JsonCursor", "<init>", "([B)V"⟩ : MethodName) prog_14_method_1_code 2 none :: ws) ({ frames := 1, cells := 0, slots := 0, locals := 12 } : Room)) (fun a U => a = #[(.ref a1), (.ref a2)] ∧ Z.Warmed39 U.vm ∧ U.heap = h0) (fun _ _ _ _ _ => True) (fun _ U o U' => ∃ v L, o = .returned v ∧ Q_rm3 Z a1 a2 u1 u2 h0 n0 v U'.heap L ∧ FrameEnd U o U' L ({ frames := 1, cells := 0, slots := 0, locals := 12 } : Room).cells ({ frames := 1, cells := 0, slots := 0, locals := 12 } : Room).slots) := by
  refine MetFree.of_bodySF (plainFor_of_name pn_com_example_mark_time_marktime_io_JsonCursor) hisR ?_
  intro p e s m args below meth c s₁ Bd hml0 hP hK
  obtain ⟨rfl, hZ, hh⟩ := hP
  have hx := Bd.exec
  have hby := Bd.bytes
  have hml : c.maxLocals = 2 := hml0
  have hown : s.vm.findClass "com/example/mark_time/marktime/io/JsonCursor" = some m.cls := findClass_of_methodNamed Bd.named
  have hnm := (name_of_methodNamed Bd.named Bd.method).1
  have X0 : Stand p l e ({ frames := 1, cells := 0, slots := 0, locals := 12 } : Room) s m #[(.ref a1), (.ref a2)] below meth c s₁ [] 0 0 := Stand.of_body Bd
  have e0 : s₁.heap = h0 := by rw [← hh, Bd.state]; rfl
  have N0 := Fr.nil n0
  suffices hR : ∀ P : State → Prop, (∀ s₂ o v L, s₂.status = .running → Ended s₂ below o → o = .returned v → Q_rm3 Z a1 a2 u1 u2 h0 n0 v s₂.heap L → FrameEnd s o s₂ L ({ frames := 1, cells := 0, slots := 0, locals := 12 } : Room).cells ({ frames := 1, cells := 0, slots := 0, locals := 12 } : Room).slots → P s₂) → Rch p.tables e below P (s₁.setTop (mkF m 0 #[.val (.ref a1), .val (.ref a2)] [])) by
    obtain ⟨s₂, h1, o, h2⟩ := hR (fun s₂ => ∃ o, s₂.status = .running ∧ Ended s₂ below o ∧ ∃ v L, o = .returned v ∧ Q_rm3 Z a1 a2 u1 u2 h0 n0 v s₂.heap L ∧ FrameEnd s o s₂ L ({ frames := 1, cells := 0, slots := 0, locals := 12 } : Room).cells ({ frames := 1, cells := 0, slots := 0, locals := 12 } : Room).slots) (fun s₂ o v L q1 q2 q3 q4 q5 => ⟨o, q1, q2, v, L, q3, q4, q5⟩)
    exact ⟨s₂, o, castTop (ef_rm3 m a1 a2) h1, h2⟩
  intro P hPd
  refine Rch.go (fun zt zk => XS.aloadN X0.here hx rfl (hb hby d3_0) rfl rfl zk) ?_
  show Rch _ _ _ _ (s₁.setTop (mkF m 1 #[.val (.ref a1), .val (.ref a2)] [(.ref a1)]))
  obtain ⟨T101, X101, e101, st101⟩ := initO X0 hx hZ hown (ow16 hw) (ow17 hw) (ow18 hw) e0 (g := (mkF m 1 #[.val (.ref a1), .val (.ref a2)] [(.ref a1)])) rfl (by rw [hml]; rfl) rfl (hb hby d3_1) (by decide) (W := 0) (by show 2 * 0 + _ ≤ _; exact Nat.le_of_eq rfl) (by decide)
  refine Rch.go st101 ?_
  show Rch _ _ _ _ (T101.setTop (mkF m 4 #[.val (.ref a1), .val (.ref a2)] []))
  refine Rch.go (fun zt zk => XS.aloadN X101.here hx rfl (hb hby d3_4) rfl rfl zk) ?_
  show Rch _ _ _ _ (T101.setTop (mkF m 5 #[.val (.ref a1), .val (.ref a2)] [(.ref a1)]))
  refine Rch.go (fun zt zk => XS.aloadN X101.here hx rfl (hb hby d3_5) rfl rfl zk) ?_
  show Rch _ _ _ _ (T101.setTop (mkF m 6 #[.val (.ref a1), .val (.ref a2)] [(.ref a2), (.ref a1)]))
  obtain ⟨T102, h102, X102, e102, W102, st102⟩ := putF X101 hx hZ hown (host := "") (Or.inl (ow19 hw)) Via.refl e101 P1 P0 (Or.inr ⟨(ow20 hw), rfl, hnm⟩) (ow11 hw) (ty := (.array .byte)) (by decide) rfl rfl (g := (mkF m 6 #[.val (.ref a1), .val (.ref a2)] [(.ref a2), (.ref a1)])) rfl rfl (hb hby d3_6)
  refine Rch.go st102 ?_
  have Fw102 := P1.same W102
  have N102 := Fr.snoc X102 N0 Pg_a1
  have K102 : Keep h0 h102 [a1] := Keep.wr (Keep.refl h0 [a1]) W102 (Or.inl (List.mem_of_getElem? (i := 0) rfl))
  show Rch _ _ _ _ (T102.setTop (mkF m 9 #[.val (.ref a1), .val (.ref a2)] []))
  obtain ⟨fs, hr, hrun, hended, hW, hsame⟩ := X102.leave (v := none) (fun _ => rfl)
  refine Rch.mk (X102.returnOut hx Bd.returns (hb hby d3_9) hr) (hPd _ _ _ _ hrun hended rfl ?_ ⟨⟨_, rfl⟩, hW, hsame.mono (by decide) (by decide)⟩)
  show Q_rm3 Z a1 a2 u1 u2 h0 n0 _ T102.heap _
  rw [e102]
  have f103 := (P0.wr W102)
  have f104 := (P2.other W102 (Or.inr (slot_ne (Or.inl (ow31 hw)) (Or.inr (ow20 hw)) (by decide) (t := .int) (t' := (.array .byte)) (by decide) (by decide))))
  exact ⟨rfl, N102, K102, f103, Fw102, f104⟩
theorem ef_rmSkip (m : MethodId) (a1 : Addr) : entryFrame m #[(.ref a1)] 1 = mkF m 0 #[.val (.ref a1)] [] := by first | (simp [entryFrame, mkF, argsToLocals, Value.category]; done) | rfl
theorem d6_0 : decode prog_14_method_26_code 0 = .ok (.aload_n 0, 1) := by decide +kernel
theorem d6_1 : decode prog_14_method_26_code 1 = .ok (.getfield 16, 3) := by decide +kernel
theorem d6_4 : decode prog_14_method_26_code 4 = .ok (.aload_n 0, 1) := by decide +kernel
theorem d6_5 : decode prog_14_method_26_code 5 = .ok (.getfield 7, 3) := by decide +kernel
theorem d6_8 : decode prog_14_method_26_code 8 = .ok (.arraylength, 1) := by decide +kernel
theorem d6_9 : decode prog_14_method_26_code 9 = .ok (.if_icmp .ge 31, 3) := by decide +kernel
theorem d6_40 : decode prog_14_method_26_code 40 = .ok (.return_, 1) := by decide +kernel
theorem d6_12 : decode prog_14_method_26_code 12 = .ok (.aload_n 0, 1) := by decide +kernel
theorem d6_13 : decode prog_14_method_26_code 13 = .ok (.getfield 7, 3) := by decide +kernel
theorem d6_16 : decode prog_14_method_26_code 16 = .ok (.aload_n 0, 1) := by decide +kernel
theorem d6_17 : decode prog_14_method_26_code 17 = .ok (.getfield 16, 3) := by decide +kernel
theorem d6_20 : decode prog_14_method_26_code 20 = .ok (.baload, 1) := by decide +kernel
theorem d6_21 : decode prog_14_method_26_code 21 = .ok (.invokestatic 218, 3) := by decide +kernel
theorem pd__B_Z : parseMethodDescriptor "(B)Z" = some ⟨[.byte], some .boolean⟩ := by decide +kernel
theorem d6_24 : decode prog_14_method_26_code 24 = .ok (.ifCond .eq 16, 3) := by decide +kernel
theorem d6_27 : decode prog_14_method_26_code 27 = .ok (.aload_n 0, 1) := by decide +kernel
theorem d6_28 : decode prog_14_method_26_code 28 = .ok (.dup, 1) := by decide +kernel
theorem d6_29 : decode prog_14_method_26_code 29 = .ok (.getfield 16, 3) := by decide +kernel
theorem d6_32 : decode prog_14_method_26_code 32 = .ok (.iconst 1, 1) := by decide +kernel
theorem d6_33 : decode prog_14_method_26_code 33 = .ok (.iadd, 1) := by decide +kernel
theorem d6_34 : decode prog_14_method_26_code 34 = .ok (.putfield 16, 3) := by decide +kernel
theorem d6_37 : decode prog_14_method_26_code 37 = .ok (.goto (-37), 3) := by decide +kernel
def Q_rmSkip (Z : State) (a1 : Addr) (ia : Int32) (t0 : Addr) (kt : ClassId) (nn : Int32) (bs : List Int32) (h0 : Heap) (n0 : Nat) (v : Option Value) (h : Heap) (L : List Loc) : Prop := v = none ∧ Fr n0 L ∧ Keep h0 h [a1] ∧ Exa Z h a1 "com/example/mark_time/marktime/io/JsonCursor" ∧ Fld Z h a1 "com/example/mark_time/marktime/io/JsonCursor" "at" "I" (.int (fSkip nn bs 8 ia)) ∧ Fld Z h a1 "com/example/mark_time/marktime/io/JsonCursor" "text" "[B" (.ref t0)
set_option maxRecDepth 65536 in
set_option maxHeartbeats 40000000 in
theorem rmSkip (l : Launch) (Z : State) (a0 : Array Value) (hw : ∀ d ∈ tables_1, d.before a0 Z = true) (ws : List Jvm.Cond) (a1 : Addr) (ia : Int32) (t0 : Addr) (kt : ClassId) (nn : Int32) (bs : List Int32) (h0 : Heap) (n0 : Nat) (Z0 : n0 ≤ h0.size) (P0 : Exa Z h0 a1 "com/example/mark_time/marktime/io/JsonCursor") (P1 : Fld Z h0 a1 "com/example/mark_time/marktime/io/JsonCursor" "at" "I" (.int ia)) (P2 : Fld Z h0 a1 "com/example/mark_time/marktime/io/JsonCursor" "text" "[B" (.ref t0)) (P3 : Arv Z h0 t0 kt .byte nn (bs.map Value.int) (.int (0 : Int32))) (Pn0 : t0 ≠ a1) (Pg_a1 : n0 ≤ a1) (hn : Len nn bs) (hi : 0 ≤ ia.toInt ∧ ia.toInt ≤ nn.toInt) :
    MetFree l (⟨"com/example/mark_time/marktime/io/JsonCursor", "skipWhitespace", "()V"⟩ : MethodName) (head1 (Jvm.Cond.code (⟨"com/example/mark_time/marktime/io/JsonCursor", "skipWhitespace", "()V"⟩ : MethodName) prog_14_method_26_code 1 none :: ws) ({ frames := 1, cells := 0, slots := 0, locals := 12 } : Room)) (fun a U => a = #[(.ref a1)] ∧ Z.Warmed39 U.vm ∧ U.heap = h0) (fun _ _ _ _ _ => True) (fun _ U o U' => ∃ v L, o = .returned v ∧ Q_rmSkip Z a1 ia t0 kt nn bs h0 n0 v U'.heap L ∧ FrameEnd U o U' L ({ frames := 1, cells := 0, slots := 0, locals := 12 } : Room).cells ({ frames := 1, cells := 0, slots := 0, locals := 12 } : Room).slots) := by
  refine MetFree.of_bodySF (plainFor_of_name pn_com_example_mark_time_marktime_io_JsonCursor) hisR ?_
  intro p e s m args below meth c s₁ Bd hml0 hP hK
  obtain ⟨rfl, hZ, hh⟩ := hP
  have hx := Bd.exec
  have hby := Bd.bytes
  have hml : c.maxLocals = 1 := hml0
  have hown : s.vm.findClass "com/example/mark_time/marktime/io/JsonCursor" = some m.cls := findClass_of_methodNamed Bd.named
  have hnm := (name_of_methodNamed Bd.named Bd.method).1
  have X0 : Stand p l e ({ frames := 1, cells := 0, slots := 0, locals := 12 } : Room) s m #[(.ref a1)] below meth c s₁ [] 0 0 := Stand.of_body Bd
  have e0 : s₁.heap = h0 := by rw [← hh, Bd.state]; rfl
  have N0 := Fr.nil n0
  suffices hR : ∀ P : State → Prop, (∀ s₂ o v L, s₂.status = .running → Ended s₂ below o → o = .returned v → Q_rmSkip Z a1 ia t0 kt nn bs h0 n0 v s₂.heap L → FrameEnd s o s₂ L ({ frames := 1, cells := 0, slots := 0, locals := 12 } : Room).cells ({ frames := 1, cells := 0, slots := 0, locals := 12 } : Room).slots → P s₂) → Rch p.tables e below P (s₁.setTop (mkF m 0 #[.val (.ref a1)] [])) by
    obtain ⟨s₂, h1, o, h2⟩ := hR (fun s₂ => ∃ o, s₂.status = .running ∧ Ended s₂ below o ∧ ∃ v L, o = .returned v ∧ Q_rmSkip Z a1 ia t0 kt nn bs h0 n0 v s₂.heap L ∧ FrameEnd s o s₂ L ({ frames := 1, cells := 0, slots := 0, locals := 12 } : Room).cells ({ frames := 1, cells := 0, slots := 0, locals := 12 } : Room).slots) (fun s₂ o v L q1 q2 q3 q4 q5 => ⟨o, q1, q2, v, L, q3, q4, q5⟩)
    exact ⟨s₂, o, castTop (ef_rmSkip m a1) h1, h2⟩
  intro P hPd
  have loop : ∀ (k : Nat) (i : Int32) (Tloop : State) (Lloop : List Loc) (hloop : Heap) (_ : Stand p l e ({ frames := 1, cells := 0, slots := 0, locals := 12 } : Room) s m #[(.ref a1)] below meth c Tloop Lloop 0 0) (_ : Tloop.heap = hloop) (_ : Fr n0 Lloop) (_ : n0 ≤ hloop.size) (_ : Keep h0 hloop [a1]) (_ : Exa Z hloop a1 "com/example/mark_time/marktime/io/JsonCursor") (_ : Fld Z hloop a1 "com/example/mark_time/marktime/io/JsonCursor" "at" "I" (.int i)) (_ : Fld Z hloop a1 "com/example/mark_time/marktime/io/JsonCursor" "text" "[B" (.ref t0)) (_ : Arv Z hloop t0 kt .byte nn (bs.map Value.int) (.int (0 : Int32))), (nn.toInt - i.toInt ≤ (k : Int)) → (0 ≤ i.toInt ∧ i.toInt ≤ nn.toInt) → (fSkip nn bs 8 ia = fSkip nn bs k i) → Rch p.tables e below P (Tloop.setTop (mkF m 0 #[.val (.ref a1)] [])) := by
    intro k
    induction k with
    | zero =>
      intro i Tloop Lloop hloop Xloop eloop Nloop Zloop Kloop Floop_0 Floop_1 Floop_2 Floop_3 hk h0i hr
      have hlt : ¬ (i < nn) := by rw [Int32.lt_iff_toInt_lt]; omega
      have hres : fSkip nn bs 8 ia = i := hr.trans (own_s0 hlt)
      refine Rch.go (fun zt zk => XS.aloadN Xloop.here hx rfl (hb hby d6_0) rfl rfl zk) ?_
      show Rch _ _ _ _ (Tloop.setTop (mkF m 1 #[.val (.ref a1)] [(.ref a1)]))
      obtain ⟨T101, X101, e101, st101⟩ := getF Xloop hx hZ hown (host := "") (Or.inl (ow30 hw)) Via.refl eloop Floop_1 (g := (mkF m 1 #[.val (.ref a1)] [(.ref a1)])) rfl rfl (hb hby d6_1)
      refine Rch.go st101 ?_
      show Rch _ _ _ _ (T101.setTop (mkF m 4 #[.val (.ref a1)] [(.int i)]))
      refine Rch.go (fun zt zk => XS.aloadN X101.here hx rfl (hb hby d6_4) rfl rfl zk) ?_
      show Rch _ _ _ _ (T101.setTop (mkF m 5 #[.val (.ref a1)] [(.ref a1), (.int i)]))
      obtain ⟨T102, X102, e102, st102⟩ := getF X101 hx hZ hown (host := "") (Or.inl (ow19 hw)) Via.refl e101 Floop_2 (g := (mkF m 5 #[.val (.ref a1)] [(.ref a1), (.int i)])) rfl rfl (hb hby d6_5)
      refine Rch.go st102 ?_
      show Rch _ _ _ _ (T102.setTop (mkF m 8 #[.val (.ref a1)] [(.ref t0), (.int i)]))
      obtain ⟨cl103, Ar103, q103, S103, M103, H103, G103⟩ := id Floop_3
      refine Rch.go (X102.arraylength hx (by rw [e102]; exact Ar103.1) (State.isArrayOf_alike hZ.alike Ar103.2.1) (g := (mkF m 8 #[.val (.ref a1)] [(.ref t0), (.int i)])) rfl rfl (hb hby d6_8)) ?_
      rw [len_of S103 M103]
      show Rch _ _ _ _ (T102.setTop (mkF m 9 #[.val (.ref a1)] [(.int nn), (.int i)]))
      refine Rch.go (fun zt zk => XS.icmpYes X102.here hx rfl (pc0 := 9) (pc' := 40) rfl (hb hby d6_9) rfl (flt hlt).2.1 (by decide) (by decide) zk) ?_
      show Rch _ _ _ _ (T102.setTop (mkF m 40 #[.val (.ref a1)] []))
      obtain ⟨fs, hr, hrun, hended, hW, hsame⟩ := X102.leave (v := none) (fun _ => rfl)
      refine Rch.mk (X102.returnOut hx Bd.returns (hb hby d6_40) hr) (hPd _ _ _ _ hrun hended rfl ?_ ⟨⟨_, rfl⟩, hW, hsame.mono (by decide) (by decide)⟩)
      show Q_rmSkip Z a1 ia t0 kt nn bs h0 n0 _ T102.heap _
      rw [e102]
      exact ⟨rfl, Nloop, Kloop, Floop_0, by rw [hres]; exact Floop_1, Floop_2⟩
    | succ k ih =>
      intro i Tloop Lloop hloop Xloop eloop Nloop Zloop Kloop Floop_0 Floop_1 Floop_2 Floop_3 hk h0i hr
      refine Rch.go (fun zt zk => XS.aloadN Xloop.here hx rfl (hb hby d6_0) rfl rfl zk) ?_
      show Rch _ _ _ _ (Tloop.setTop (mkF m 1 #[.val (.ref a1)] [(.ref a1)]))
      obtain ⟨T104, X104, e104, st104⟩ := getF Xloop hx hZ hown (host := "") (Or.inl (ow30 hw)) Via.refl eloop Floop_1 (g := (mkF m 1 #[.val (.ref a1)] [(.ref a1)])) rfl rfl (hb hby d6_1)
      refine Rch.go st104 ?_
      show Rch _ _ _ _ (T104.setTop (mkF m 4 #[.val (.ref a1)] [(.int i)]))
      refine Rch.go (fun zt zk => XS.aloadN X104.here hx rfl (hb hby d6_4) rfl rfl zk) ?_
      show Rch _ _ _ _ (T104.setTop (mkF m 5 #[.val (.ref a1)] [(.ref a1), (.int i)]))
      obtain ⟨T105, X105, e105, st105⟩ := getF X104 hx hZ hown (host := "") (Or.inl (ow19 hw)) Via.refl e104 Floop_2 (g := (mkF m 5 #[.val (.ref a1)] [(.ref a1), (.int i)])) rfl rfl (hb hby d6_5)
      refine Rch.go st105 ?_
      show Rch _ _ _ _ (T105.setTop (mkF m 8 #[.val (.ref a1)] [(.ref t0), (.int i)]))
      obtain ⟨cl106, Ar106, q106, S106, M106, H106, G106⟩ := id Floop_3
      refine Rch.go (X105.arraylength hx (by rw [e105]; exact Ar106.1) (State.isArrayOf_alike hZ.alike Ar106.2.1) (g := (mkF m 8 #[.val (.ref a1)] [(.ref t0), (.int i)])) rfl rfl (hb hby d6_8)) ?_
      rw [len_of S106 M106]
      show Rch _ _ _ _ (T105.setTop (mkF m 9 #[.val (.ref a1)] [(.int nn), (.int i)]))
      by_cases hc9_107 : i < nn
      · skip
        refine Rch.go (fun zt zk => XS.icmpNo X105.here hx rfl (hb hby d6_9) rfl (tlt hc9_107).2.1 zk) ?_
        show Rch _ _ _ _ (T105.setTop (mkF m 12 #[.val (.ref a1)] []))
        refine Rch.go (fun zt zk => XS.aloadN X105.here hx rfl (hb hby d6_12) rfl rfl zk) ?_
        show Rch _ _ _ _ (T105.setTop (mkF m 13 #[.val (.ref a1)] [(.ref a1)]))
        obtain ⟨T108, X108, e108, st108⟩ := getF X105 hx hZ hown (host := "") (Or.inl (ow19 hw)) Via.refl e105 Floop_2 (g := (mkF m 13 #[.val (.ref a1)] [(.ref a1)])) rfl rfl (hb hby d6_13)
        refine Rch.go st108 ?_
        show Rch _ _ _ _ (T108.setTop (mkF m 16 #[.val (.ref a1)] [(.ref t0)]))
        refine Rch.go (fun zt zk => XS.aloadN X108.here hx rfl (hb hby d6_16) rfl rfl zk) ?_
        show Rch _ _ _ _ (T108.setTop (mkF m 17 #[.val (.ref a1)] [(.ref a1), (.ref t0)]))
        obtain ⟨T109, X109, e109, st109⟩ := getF X108 hx hZ hown (host := "") (Or.inl (ow30 hw)) Via.refl e108 Floop_1 (g := (mkF m 17 #[.val (.ref a1)] [(.ref a1), (.ref t0)])) rfl rfl (hb hby d6_17)
        refine Rch.go st109 ?_
        show Rch _ _ _ _ (T109.setTop (mkF m 20 #[.val (.ref a1)] [(.int i), (.ref t0)]))
        obtain ⟨cl110, Ar110, q110, S110, M110, H110, G110⟩ := id Floop_3
        have hin110 := inb_of (j := i) S110 (own_inb (by omega) hc9_107)
        refine Rch.go (X109.baloadBytes hx (j := i) (v := (.int (bAt bs i))) (by rw [e109]; exact Ar110.1) (State.isArrayOf_alike hZ.alike Ar110.2.1) Ar110.2.2 hin110 (Has.at H110 hin110 (own_bAt bs _)) (g := (mkF m 20 #[.val (.ref a1)] [(.int i), (.ref t0)])) rfl rfl (hb hby d6_20)) ?_
        show Rch _ _ _ _ (T109.setTop (mkF m 21 #[.val (.ref a1)] [(.int (bAt bs i))]))
        obtain ⟨_, _, ⟨T111, L111, k111, n111⟩, -, X111, ⟨Lc111, hQ111, l111, y111, z111⟩, st111⟩ := Jvm.LawKit.callS X109 hx (y := (⟨"com/example/mark_time/marktime/io/JsonCursor", "isWhitespace", "(B)Z"⟩ : MethodName)) hown (mvT hZ (ow32 hw)) (mvT hZ (ow33 hw)) (mvT hZ (ow12 hw)) (mvT hZ (ow34 hw)) (by decide) (backOf (W := 0) (rm7 l Z a0 hw [] (bAt bs i) hloop n0 Zloop ) hZ (ow34 hw) (ow12 hw) (by decide) (by decide)) (g := (mkF m 21 #[.val (.ref a1)] [(.int (bAt bs i))])) rfl (by rw [hml]; rfl) (argsL := [(.int (bAt bs i))]) (rest := []) (lenOf pd__B_Z rfl) rfl (by show 2 * 0 + _ ≤ _; exact Nat.le_of_eq rfl) (hb hby d6_21) (fun _ _ => ⟨rfl, e109, (by decide : 0 + 0 ≤ _), (by decide : 0 + 0 ≤ _)⟩)
        dsimp only [Pt.U, Pt.locs, Pt.cells, Pt.slots] at X111 l111 y111 z111 st111 hQ111
        subst l111 y111 z111
        obtain ⟨rfl, N111q, eq111⟩ := hQ111
        have N111 := Fr.app Nloop N111q
        refine Rch.go st111 ?_
        show Rch _ _ _ _ (T111.setTop (mkF m 24 #[.val (.ref a1)] [(.int (fWs (bAt bs i)))]))
        by_cases hc24_112 : (fWs (bAt bs i)) = (0 : Int32)
        · skip
          refine Rch.go (fun zt zk => XS.ifYes X111.here hx rfl (pc0 := 24) (pc' := 40) rfl (hb hby d6_24) rfl ((if0 _ _).trans (teq hc24_112).1) (by decide) (by decide) zk) ?_
          show Rch _ _ _ _ (T111.setTop (mkF m 40 #[.val (.ref a1)] []))
          have hres : fSkip nn bs 8 ia = i := hr.trans (own_s1 hc24_112)
          obtain ⟨fs, hr, hrun, hended, hW, hsame⟩ := X111.leave (v := none) (fun _ => rfl)
          refine Rch.mk (X111.returnOut hx Bd.returns (hb hby d6_40) hr) (hPd _ _ _ _ hrun hended rfl ?_ ⟨⟨_, rfl⟩, hW, hsame.mono (by decide) (by decide)⟩)
          show Q_rmSkip Z a1 ia t0 kt nn bs h0 n0 _ T111.heap _
          rw [eq111]
          exact ⟨rfl, N111, Kloop, Floop_0, by rw [hres]; exact Floop_1, Floop_2⟩
        · skip
          refine Rch.go (fun zt zk => XS.ifNo X111.here hx rfl (hb hby d6_24) rfl ((if0 _ _).trans (feq hc24_112).1) zk) ?_
          show Rch _ _ _ _ (T111.setTop (mkF m 27 #[.val (.ref a1)] []))
          refine Rch.go (fun zt zk => XS.aloadN X111.here hx rfl (hb hby d6_27) rfl rfl zk) ?_
          show Rch _ _ _ _ (T111.setTop (mkF m 28 #[.val (.ref a1)] [(.ref a1)]))
          refine Rch.go (fun zt zk => XS.dup X111.here hx rfl (hb hby d6_28) rfl rfl zk) ?_
          show Rch _ _ _ _ (T111.setTop (mkF m 29 #[.val (.ref a1)] [(.ref a1), (.ref a1)]))
          obtain ⟨T113, X113, e113, st113⟩ := getF X111 hx hZ hown (host := "") (Or.inl (ow30 hw)) Via.refl eq111 Floop_1 (g := (mkF m 29 #[.val (.ref a1)] [(.ref a1), (.ref a1)])) rfl rfl (hb hby d6_29)
          refine Rch.go st113 ?_
          show Rch _ _ _ _ (T113.setTop (mkF m 32 #[.val (.ref a1)] [(.int i), (.ref a1)]))
          refine Rch.go (fun zt zk => XS.iconst X113.here hx rfl (hb hby d6_32) zk) ?_
          show Rch _ _ _ _ (T113.setTop (mkF m 33 #[.val (.ref a1)] [(.int (1 : Int32)), (.int i), (.ref a1)]))
          refine Rch.go (fun zt zk => XS.iadd X113.here hx rfl (hb hby d6_33) rfl zk) ?_
          show Rch _ _ _ _ (T113.setTop (mkF m 34 #[.val (.ref a1)] [(.int (i + (1 : Int32))), (.ref a1)]))
          obtain ⟨T114, h114, X114, e114, W114, st114⟩ := putF X113 hx hZ hown (host := "") (Or.inl (ow30 hw)) Via.refl e113 Floop_1 Floop_0 (Or.inl (ow31 hw)) (ow11 hw) (ty := .int) (by decide) rfl rfl (g := (mkF m 34 #[.val (.ref a1)] [(.int (i + (1 : Int32))), (.ref a1)])) rfl rfl (hb hby d6_34)
          refine Rch.go st114 ?_
          have Fw114 := Floop_1.same W114
          have N114 := Fr.snoc X114 N111 Pg_a1
          have K114 : Keep h0 h114 [a1] := Keep.wr Kloop W114 (Or.inl (List.mem_of_getElem? (i := 0) rfl))
          show Rch _ _ _ _ (T114.setTop (mkF m 37 #[.val (.ref a1)] []))
          refine Rch.go (fun zt zk => XS.goto X114.here hx rfl (pc0 := 37) (pc' := 0) rfl (hb hby d6_37) (by decide) (by decide) zk) ?_
          show Rch _ _ _ _ (T114.setTop (mkF m 0 #[.val (.ref a1)] []))
          have hu := own_up hn h0i.1 hc9_107
          have hlt2 := hc9_107; rw [Int32.lt_iff_toInt_lt] at hlt2
          have f115 := (Floop_0.wr W114)
          have f116 := (Floop_2.other W114 (Or.inr (slot_ne (Or.inr (ow20 hw)) (Or.inl (ow31 hw)) (by decide) (t := (.array .byte)) (t' := .int) (by decide) (by decide))))
          have f117 := (Floop_3.other W114 Pn0)
          have f118 := (Nat.le_trans Zloop (Keep.of_wr W114).1)
          exact ih ((i + (1 : Int32))) _ _ _ X114 e114 N114 f118 K114 f115 Fw114 f116 f117 (by omega) (⟨by omega, by omega⟩) (hr.trans (own_s2 hc9_107 hc24_112))
      · skip
        refine Rch.go (fun zt zk => XS.icmpYes X105.here hx rfl (pc0 := 9) (pc' := 40) rfl (hb hby d6_9) rfl (flt hc9_107).2.1 (by decide) (by decide) zk) ?_
        show Rch _ _ _ _ (T105.setTop (mkF m 40 #[.val (.ref a1)] []))
        have hres : fSkip nn bs 8 ia = i := hr.trans (own_s0 hc9_107)
        obtain ⟨fs, hr, hrun, hended, hW, hsame⟩ := X105.leave (v := none) (fun _ => rfl)
        refine Rch.mk (X105.returnOut hx Bd.returns (hb hby d6_40) hr) (hPd _ _ _ _ hrun hended rfl ?_ ⟨⟨_, rfl⟩, hW, hsame.mono (by decide) (by decide)⟩)
        show Q_rmSkip Z a1 ia t0 kt nn bs h0 n0 _ T105.heap _
        rw [e105]
        exact ⟨rfl, Nloop, Kloop, Floop_0, by rw [hres]; exact Floop_1, Floop_2⟩
  exact loop (8) (ia) _ _ _ X0 e0 N0 Z0 (Keep.refl h0 [a1]) P0 P1 P2 P3 (by have := hn.2; omega) (hi) (rfl)
theorem ef_rmDig (m : MethodId) (a1 : Addr) : entryFrame m #[(.ref a1)] 2 = mkF m 0 #[.val (.ref a1), .unset] [] := by first | (simp [entryFrame, mkF, argsToLocals, Value.category]; done) | rfl
theorem d10_0 : decode prog_14_method_22_code 0 = .ok (.aload_n 0, 1) := by decide +kernel
theorem d10_1 : decode prog_14_method_22_code 1 = .ok (.getfield 16, 3) := by decide +kernel
theorem d10_4 : decode prog_14_method_22_code 4 = .ok (.istore_n 1, 1) := by decide +kernel
theorem d10_5 : decode prog_14_method_22_code 5 = .ok (.aload_n 0, 1) := by decide +kernel
theorem d10_6 : decode prog_14_method_22_code 6 = .ok (.getfield 16, 3) := by decide +kernel
theorem d10_9 : decode prog_14_method_22_code 9 = .ok (.aload_n 0, 1) := by decide +kernel
theorem d10_10 : decode prog_14_method_22_code 10 = .ok (.getfield 7, 3) := by decide +kernel
theorem d10_13 : decode prog_14_method_22_code 13 = .ok (.arraylength, 1) := by decide +kernel
theorem d10_14 : decode prog_14_method_22_code 14 = .ok (.if_icmp .ge 31, 3) := by decide +kernel
theorem d10_45 : decode prog_14_method_22_code 45 = .ok (.aload_n 0, 1) := by decide +kernel
theorem d10_46 : decode prog_14_method_22_code 46 = .ok (.getfield 16, 3) := by decide +kernel
theorem d10_49 : decode prog_14_method_22_code 49 = .ok (.iload_n 1, 1) := by decide +kernel
theorem d10_50 : decode prog_14_method_22_code 50 = .ok (.if_icmp .ne 7, 3) := by decide +kernel
theorem d10_57 : decode prog_14_method_22_code 57 = .ok (.return_, 1) := by decide +kernel
theorem d10_17 : decode prog_14_method_22_code 17 = .ok (.aload_n 0, 1) := by decide +kernel
theorem d10_18 : decode prog_14_method_22_code 18 = .ok (.getfield 7, 3) := by decide +kernel
theorem d10_21 : decode prog_14_method_22_code 21 = .ok (.aload_n 0, 1) := by decide +kernel
theorem d10_22 : decode prog_14_method_22_code 22 = .ok (.getfield 16, 3) := by decide +kernel
theorem d10_25 : decode prog_14_method_22_code 25 = .ok (.baload, 1) := by decide +kernel
theorem d10_26 : decode prog_14_method_22_code 26 = .ok (.invokestatic 117, 3) := by decide +kernel
theorem d10_29 : decode prog_14_method_22_code 29 = .ok (.ifCond .eq 16, 3) := by decide +kernel
theorem d10_32 : decode prog_14_method_22_code 32 = .ok (.aload_n 0, 1) := by decide +kernel
theorem d10_33 : decode prog_14_method_22_code 33 = .ok (.dup, 1) := by decide +kernel
theorem d10_34 : decode prog_14_method_22_code 34 = .ok (.getfield 16, 3) := by decide +kernel
theorem d10_37 : decode prog_14_method_22_code 37 = .ok (.iconst 1, 1) := by decide +kernel
theorem d10_38 : decode prog_14_method_22_code 38 = .ok (.iadd, 1) := by decide +kernel
theorem d10_39 : decode prog_14_method_22_code 39 = .ok (.putfield 16, 3) := by decide +kernel
theorem d10_42 : decode prog_14_method_22_code 42 = .ok (.goto (-37), 3) := by decide +kernel
def Q_rmDig (Z : State) (a1 : Addr) (ia : Int32) (t0 : Addr) (kt : ClassId) (nn : Int32) (bs : List Int32) (h0 : Heap) (n0 : Nat) (v : Option Value) (h : Heap) (L : List Loc) : Prop := v = none ∧ Fr n0 L ∧ Keep h0 h [a1] ∧ Exa Z h a1 "com/example/mark_time/marktime/io/JsonCursor" ∧ Fld Z h a1 "com/example/mark_time/marktime/io/JsonCursor" "at" "I" (.int (fDig nn bs 8 ia)) ∧ Fld Z h a1 "com/example/mark_time/marktime/io/JsonCursor" "text" "[B" (.ref t0)
set_option maxRecDepth 65536 in
set_option maxHeartbeats 40000000 in
theorem rmDig (l : Launch) (Z : State) (a0 : Array Value) (hw : ∀ d ∈ tables_1, d.before a0 Z = true) (ws : List Jvm.Cond) (a1 : Addr) (ia : Int32) (t0 : Addr) (kt : ClassId) (nn : Int32) (bs : List Int32) (h0 : Heap) (n0 : Nat) (Z0 : n0 ≤ h0.size) (P0 : Exa Z h0 a1 "com/example/mark_time/marktime/io/JsonCursor") (P1 : Fld Z h0 a1 "com/example/mark_time/marktime/io/JsonCursor" "at" "I" (.int ia)) (P2 : Fld Z h0 a1 "com/example/mark_time/marktime/io/JsonCursor" "text" "[B" (.ref t0)) (P3 : Arv Z h0 t0 kt .byte nn (bs.map Value.int) (.int (0 : Int32))) (Pn0 : t0 ≠ a1) (Pg_a1 : n0 ≤ a1) (hn : Len nn bs) (hi : 0 ≤ ia.toInt ∧ ia.toInt ≤ nn.toInt) (hne : ¬ (fDig nn bs 8 ia = ia)) :
    MetFree l (⟨"com/example/mark_time/marktime/io/JsonCursor", "digits", "()V"⟩ : MethodName) (head1 (Jvm.Cond.code (⟨"com/example/mark_time/marktime/io/JsonCursor", "digits", "()V"⟩ : MethodName) prog_14_method_22_code 2 none :: ws) ({ frames := 1, cells := 0, slots := 0, locals := 12 } : Room)) (fun a U => a = #[(.ref a1)] ∧ Z.Warmed39 U.vm ∧ U.heap = h0) (fun _ _ _ _ _ => True) (fun _ U o U' => ∃ v L, o = .returned v ∧ Q_rmDig Z a1 ia t0 kt nn bs h0 n0 v U'.heap L ∧ FrameEnd U o U' L ({ frames := 1, cells := 0, slots := 0, locals := 12 } : Room).cells ({ frames := 1, cells := 0, slots := 0, locals := 12 } : Room).slots) := by
  refine MetFree.of_bodySF (plainFor_of_name pn_com_example_mark_time_marktime_io_JsonCursor) hisR ?_
  intro p e s m args below meth c s₁ Bd hml0 hP hK
  obtain ⟨rfl, hZ, hh⟩ := hP
  have hx := Bd.exec
  have hby := Bd.bytes
  have hml : c.maxLocals = 2 := hml0
  have hown : s.vm.findClass "com/example/mark_time/marktime/io/JsonCursor" = some m.cls := findClass_of_methodNamed Bd.named
  have hnm := (name_of_methodNamed Bd.named Bd.method).1
  have X0 : Stand p l e ({ frames := 1, cells := 0, slots := 0, locals := 12 } : Room) s m #[(.ref a1)] below meth c s₁ [] 0 0 := Stand.of_body Bd
  have e0 : s₁.heap = h0 := by rw [← hh, Bd.state]; rfl
  have N0 := Fr.nil n0
  suffices hR : ∀ P : State → Prop, (∀ s₂ o v L, s₂.status = .running → Ended s₂ below o → o = .returned v → Q_rmDig Z a1 ia t0 kt nn bs h0 n0 v s₂.heap L → FrameEnd s o s₂ L ({ frames := 1, cells := 0, slots := 0, locals := 12 } : Room).cells ({ frames := 1, cells := 0, slots := 0, locals := 12 } : Room).slots → P s₂) → Rch p.tables e below P (s₁.setTop (mkF m 0 #[.val (.ref a1), .unset] [])) by
    obtain ⟨s₂, h1, o, h2⟩ := hR (fun s₂ => ∃ o, s₂.status = .running ∧ Ended s₂ below o ∧ ∃ v L, o = .returned v ∧ Q_rmDig Z a1 ia t0 kt nn bs h0 n0 v s₂.heap L ∧ FrameEnd s o s₂ L ({ frames := 1, cells := 0, slots := 0, locals := 12 } : Room).cells ({ frames := 1, cells := 0, slots := 0, locals := 12 } : Room).slots) (fun s₂ o v L q1 q2 q3 q4 q5 => ⟨o, q1, q2, v, L, q3, q4, q5⟩)
    exact ⟨s₂, o, castTop (ef_rmDig m a1) h1, h2⟩
  intro P hPd
  refine Rch.go (fun zt zk => XS.aloadN X0.here hx rfl (hb hby d10_0) rfl rfl zk) ?_
  show Rch _ _ _ _ (s₁.setTop (mkF m 1 #[.val (.ref a1), .unset] [(.ref a1)]))
  obtain ⟨T101, X101, e101, st101⟩ := getF X0 hx hZ hown (host := "") (Or.inl (ow30 hw)) Via.refl e0 P1 (g := (mkF m 1 #[.val (.ref a1), .unset] [(.ref a1)])) rfl rfl (hb hby d10_1)
  refine Rch.go st101 ?_
  show Rch _ _ _ _ (T101.setTop (mkF m 4 #[.val (.ref a1), .unset] [(.int ia)]))
  refine Rch.go (fun zt zk => XS.istoreN X101.here hx rfl (hb hby d10_4) rfl (l' := #[.val (.ref a1), .val (.int ia)]) rfl zk) ?_
  show Rch _ _ _ _ (T101.setTop (mkF m 5 #[.val (.ref a1), .val (.int ia)] []))
  have loop : ∀ (k : Nat) (i : Int32) (Tloop : State) (Lloop : List Loc) (hloop : Heap) (_ : Stand p l e ({ frames := 1, cells := 0, slots := 0, locals := 12 } : Room) s m #[(.ref a1)] below meth c Tloop Lloop 0 0) (_ : Tloop.heap = hloop) (_ : Fr n0 Lloop) (_ : n0 ≤ hloop.size) (_ : Keep h0 hloop [a1]) (_ : Exa Z hloop a1 "com/example/mark_time/marktime/io/JsonCursor") (_ : Fld Z hloop a1 "com/example/mark_time/marktime/io/JsonCursor" "at" "I" (.int i)) (_ : Fld Z hloop a1 "com/example/mark_time/marktime/io/JsonCursor" "text" "[B" (.ref t0)) (_ : Arv Z hloop t0 kt .byte nn (bs.map Value.int) (.int (0 : Int32))), (nn.toInt - i.toInt ≤ (k : Int)) → (0 ≤ i.toInt ∧ i.toInt ≤ nn.toInt) → (fDig nn bs 8 ia = fDig nn bs k i) → Rch p.tables e below P (Tloop.setTop (mkF m 5 #[.val (.ref a1), .val (.int ia)] [])) := by
    intro k
    induction k with
    | zero =>
      intro i Tloop Lloop hloop Xloop eloop Nloop Zloop Kloop Floop_0 Floop_1 Floop_2 Floop_3 hk h0i hr
      have hlt : ¬ (i < nn) := by rw [Int32.lt_iff_toInt_lt]; omega
      have hres : fDig nn bs 8 ia = i := hr.trans (own_d0 hlt)
      refine Rch.go (fun zt zk => XS.aloadN Xloop.here hx rfl (hb hby d10_5) rfl rfl zk) ?_
      show Rch _ _ _ _ (Tloop.setTop (mkF m 6 #[.val (.ref a1), .val (.int ia)] [(.ref a1)]))
      obtain ⟨T102, X102, e102, st102⟩ := getF Xloop hx hZ hown (host := "") (Or.inl (ow30 hw)) Via.refl eloop Floop_1 (g := (mkF m 6 #[.val (.ref a1), .val (.int ia)] [(.ref a1)])) rfl rfl (hb hby d10_6)
      refine Rch.go st102 ?_
      show Rch _ _ _ _ (T102.setTop (mkF m 9 #[.val (.ref a1), .val (.int ia)] [(.int i)]))
      refine Rch.go (fun zt zk => XS.aloadN X102.here hx rfl (hb hby d10_9) rfl rfl zk) ?_
      show Rch _ _ _ _ (T102.setTop (mkF m 10 #[.val (.ref a1), .val (.int ia)] [(.ref a1), (.int i)]))
      obtain ⟨T103, X103, e103, st103⟩ := getF X102 hx hZ hown (host := "") (Or.inl (ow19 hw)) Via.refl e102 Floop_2 (g := (mkF m 10 #[.val (.ref a1), .val (.int ia)] [(.ref a1), (.int i)])) rfl rfl (hb hby d10_10)
      refine Rch.go st103 ?_
      show Rch _ _ _ _ (T103.setTop (mkF m 13 #[.val (.ref a1), .val (.int ia)] [(.ref t0), (.int i)]))
      obtain ⟨cl104, Ar104, q104, S104, M104, H104, G104⟩ := id Floop_3
      refine Rch.go (X103.arraylength hx (by rw [e103]; exact Ar104.1) (State.isArrayOf_alike hZ.alike Ar104.2.1) (g := (mkF m 13 #[.val (.ref a1), .val (.int ia)] [(.ref t0), (.int i)])) rfl rfl (hb hby d10_13)) ?_
      rw [len_of S104 M104]
      show Rch _ _ _ _ (T103.setTop (mkF m 14 #[.val (.ref a1), .val (.int ia)] [(.int nn), (.int i)]))
      refine Rch.go (fun zt zk => XS.icmpYes X103.here hx rfl (pc0 := 14) (pc' := 45) rfl (hb hby d10_14) rfl (flt hlt).2.1 (by decide) (by decide) zk) ?_
      show Rch _ _ _ _ (T103.setTop (mkF m 45 #[.val (.ref a1), .val (.int ia)] []))
      refine Rch.go (fun zt zk => XS.aloadN X103.here hx rfl (hb hby d10_45) rfl rfl zk) ?_
      show Rch _ _ _ _ (T103.setTop (mkF m 46 #[.val (.ref a1), .val (.int ia)] [(.ref a1)]))
      obtain ⟨T105, X105, e105, st105⟩ := getF X103 hx hZ hown (host := "") (Or.inl (ow30 hw)) Via.refl e103 Floop_1 (g := (mkF m 46 #[.val (.ref a1), .val (.int ia)] [(.ref a1)])) rfl rfl (hb hby d10_46)
      refine Rch.go st105 ?_
      show Rch _ _ _ _ (T105.setTop (mkF m 49 #[.val (.ref a1), .val (.int ia)] [(.int i)]))
      refine Rch.go (fun zt zk => XS.iloadN X105.here hx rfl (hb hby d10_49) rfl zk) ?_
      show Rch _ _ _ _ (T105.setTop (mkF m 50 #[.val (.ref a1), .val (.int ia)] [(.int ia), (.int i)]))
      refine Rch.go (fun zt zk => XS.icmpYes X105.here hx rfl (pc0 := 50) (pc' := 57) rfl (hb hby d10_50) rfl (feq (fun q => hne (hres.trans q) : ¬ (i = ia))).2 (by decide) (by decide) zk) ?_
      show Rch _ _ _ _ (T105.setTop (mkF m 57 #[.val (.ref a1), .val (.int ia)] []))
      obtain ⟨fs, hr, hrun, hended, hW, hsame⟩ := X105.leave (v := none) (fun _ => rfl)
      refine Rch.mk (X105.returnOut hx Bd.returns (hb hby d10_57) hr) (hPd _ _ _ _ hrun hended rfl ?_ ⟨⟨_, rfl⟩, hW, hsame.mono (by decide) (by decide)⟩)
      show Q_rmDig Z a1 ia t0 kt nn bs h0 n0 _ T105.heap _
      rw [e105]
      exact ⟨rfl, Nloop, Kloop, Floop_0, by rw [hres]; exact Floop_1, Floop_2⟩
    | succ k ih =>
      intro i Tloop Lloop hloop Xloop eloop Nloop Zloop Kloop Floop_0 Floop_1 Floop_2 Floop_3 hk h0i hr
      refine Rch.go (fun zt zk => XS.aloadN Xloop.here hx rfl (hb hby d10_5) rfl rfl zk) ?_
      show Rch _ _ _ _ (Tloop.setTop (mkF m 6 #[.val (.ref a1), .val (.int ia)] [(.ref a1)]))
      obtain ⟨T106, X106, e106, st106⟩ := getF Xloop hx hZ hown (host := "") (Or.inl (ow30 hw)) Via.refl eloop Floop_1 (g := (mkF m 6 #[.val (.ref a1), .val (.int ia)] [(.ref a1)])) rfl rfl (hb hby d10_6)
      refine Rch.go st106 ?_
      show Rch _ _ _ _ (T106.setTop (mkF m 9 #[.val (.ref a1), .val (.int ia)] [(.int i)]))
      refine Rch.go (fun zt zk => XS.aloadN X106.here hx rfl (hb hby d10_9) rfl rfl zk) ?_
      show Rch _ _ _ _ (T106.setTop (mkF m 10 #[.val (.ref a1), .val (.int ia)] [(.ref a1), (.int i)]))
      obtain ⟨T107, X107, e107, st107⟩ := getF X106 hx hZ hown (host := "") (Or.inl (ow19 hw)) Via.refl e106 Floop_2 (g := (mkF m 10 #[.val (.ref a1), .val (.int ia)] [(.ref a1), (.int i)])) rfl rfl (hb hby d10_10)
      refine Rch.go st107 ?_
      show Rch _ _ _ _ (T107.setTop (mkF m 13 #[.val (.ref a1), .val (.int ia)] [(.ref t0), (.int i)]))
      obtain ⟨cl108, Ar108, q108, S108, M108, H108, G108⟩ := id Floop_3
      refine Rch.go (X107.arraylength hx (by rw [e107]; exact Ar108.1) (State.isArrayOf_alike hZ.alike Ar108.2.1) (g := (mkF m 13 #[.val (.ref a1), .val (.int ia)] [(.ref t0), (.int i)])) rfl rfl (hb hby d10_13)) ?_
      rw [len_of S108 M108]
      show Rch _ _ _ _ (T107.setTop (mkF m 14 #[.val (.ref a1), .val (.int ia)] [(.int nn), (.int i)]))
      by_cases hc14_109 : i < nn
      · skip
        refine Rch.go (fun zt zk => XS.icmpNo X107.here hx rfl (hb hby d10_14) rfl (tlt hc14_109).2.1 zk) ?_
        show Rch _ _ _ _ (T107.setTop (mkF m 17 #[.val (.ref a1), .val (.int ia)] []))
        refine Rch.go (fun zt zk => XS.aloadN X107.here hx rfl (hb hby d10_17) rfl rfl zk) ?_
        show Rch _ _ _ _ (T107.setTop (mkF m 18 #[.val (.ref a1), .val (.int ia)] [(.ref a1)]))
        obtain ⟨T110, X110, e110, st110⟩ := getF X107 hx hZ hown (host := "") (Or.inl (ow19 hw)) Via.refl e107 Floop_2 (g := (mkF m 18 #[.val (.ref a1), .val (.int ia)] [(.ref a1)])) rfl rfl (hb hby d10_18)
        refine Rch.go st110 ?_
        show Rch _ _ _ _ (T110.setTop (mkF m 21 #[.val (.ref a1), .val (.int ia)] [(.ref t0)]))
        refine Rch.go (fun zt zk => XS.aloadN X110.here hx rfl (hb hby d10_21) rfl rfl zk) ?_
        show Rch _ _ _ _ (T110.setTop (mkF m 22 #[.val (.ref a1), .val (.int ia)] [(.ref a1), (.ref t0)]))
        obtain ⟨T111, X111, e111, st111⟩ := getF X110 hx hZ hown (host := "") (Or.inl (ow30 hw)) Via.refl e110 Floop_1 (g := (mkF m 22 #[.val (.ref a1), .val (.int ia)] [(.ref a1), (.ref t0)])) rfl rfl (hb hby d10_22)
        refine Rch.go st111 ?_
        show Rch _ _ _ _ (T111.setTop (mkF m 25 #[.val (.ref a1), .val (.int ia)] [(.int i), (.ref t0)]))
        obtain ⟨cl112, Ar112, q112, S112, M112, H112, G112⟩ := id Floop_3
        have hin112 := inb_of (j := i) S112 (own_inb (by omega) hc14_109)
        refine Rch.go (X111.baloadBytes hx (j := i) (v := (.int (bAt bs i))) (by rw [e111]; exact Ar112.1) (State.isArrayOf_alike hZ.alike Ar112.2.1) Ar112.2.2 hin112 (Has.at H112 hin112 (own_bAt bs _)) (g := (mkF m 25 #[.val (.ref a1), .val (.int ia)] [(.int i), (.ref t0)])) rfl rfl (hb hby d10_25)) ?_
        show Rch _ _ _ _ (T111.setTop (mkF m 26 #[.val (.ref a1), .val (.int ia)] [(.int (bAt bs i))]))
        obtain ⟨_, _, ⟨T113, L113, k113, n113⟩, -, X113, ⟨Lc113, hQ113, l113, y113, z113⟩, st113⟩ := Jvm.LawKit.callS X111 hx (y := (⟨"com/example/mark_time/marktime/io/JsonCursor", "isDigit", "(B)Z"⟩ : MethodName)) hown (mvT hZ (ow51 hw)) (mvT hZ (ow52 hw)) (mvT hZ (ow12 hw)) (mvT hZ (ow53 hw)) (by decide) (backOf (W := 0) (rm11 l Z a0 hw [] (bAt bs i) hloop n0 Zloop ) hZ (ow53 hw) (ow12 hw) (by decide) (by decide)) (g := (mkF m 26 #[.val (.ref a1), .val (.int ia)] [(.int (bAt bs i))])) rfl (by rw [hml]; rfl) (argsL := [(.int (bAt bs i))]) (rest := []) (lenOf pd__B_Z rfl) rfl (by show 2 * 0 + _ ≤ _; exact Nat.le_of_eq rfl) (hb hby d10_26) (fun _ _ => ⟨rfl, e111, (by decide : 0 + 0 ≤ _), (by decide : 0 + 0 ≤ _)⟩)
        dsimp only [Pt.U, Pt.locs, Pt.cells, Pt.slots] at X113 l113 y113 z113 st113 hQ113
        subst l113 y113 z113
        obtain ⟨rfl, N113q, eq113⟩ := hQ113
        have N113 := Fr.app Nloop N113q
        refine Rch.go st113 ?_
        show Rch _ _ _ _ (T113.setTop (mkF m 29 #[.val (.ref a1), .val (.int ia)] [(.int (fDg (bAt bs i)))]))
        by_cases hc29_114 : (fDg (bAt bs i)) = (0 : Int32)
        · skip
          refine Rch.go (fun zt zk => XS.ifYes X113.here hx rfl (pc0 := 29) (pc' := 45) rfl (hb hby d10_29) rfl ((if0 _ _).trans (teq hc29_114).1) (by decide) (by decide) zk) ?_
          show Rch _ _ _ _ (T113.setTop (mkF m 45 #[.val (.ref a1), .val (.int ia)] []))
          have hres : fDig nn bs 8 ia = i := hr.trans (own_d1 hc29_114)
          refine Rch.go (fun zt zk => XS.aloadN X113.here hx rfl (hb hby d10_45) rfl rfl zk) ?_
          show Rch _ _ _ _ (T113.setTop (mkF m 46 #[.val (.ref a1), .val (.int ia)] [(.ref a1)]))
          obtain ⟨T115, X115, e115, st115⟩ := getF X113 hx hZ hown (host := "") (Or.inl (ow30 hw)) Via.refl eq113 Floop_1 (g := (mkF m 46 #[.val (.ref a1), .val (.int ia)] [(.ref a1)])) rfl rfl (hb hby d10_46)
          refine Rch.go st115 ?_
          show Rch _ _ _ _ (T115.setTop (mkF m 49 #[.val (.ref a1), .val (.int ia)] [(.int i)]))
          refine Rch.go (fun zt zk => XS.iloadN X115.here hx rfl (hb hby d10_49) rfl zk) ?_
          show Rch _ _ _ _ (T115.setTop (mkF m 50 #[.val (.ref a1), .val (.int ia)] [(.int ia), (.int i)]))
          refine Rch.go (fun zt zk => XS.icmpYes X115.here hx rfl (pc0 := 50) (pc' := 57) rfl (hb hby d10_50) rfl (feq (fun q => hne (hres.trans q) : ¬ (i = ia))).2 (by decide) (by decide) zk) ?_
          show Rch _ _ _ _ (T115.setTop (mkF m 57 #[.val (.ref a1), .val (.int ia)] []))
          obtain ⟨fs, hr, hrun, hended, hW, hsame⟩ := X115.leave (v := none) (fun _ => rfl)
          refine Rch.mk (X115.returnOut hx Bd.returns (hb hby d10_57) hr) (hPd _ _ _ _ hrun hended rfl ?_ ⟨⟨_, rfl⟩, hW, hsame.mono (by decide) (by decide)⟩)
          show Q_rmDig Z a1 ia t0 kt nn bs h0 n0 _ T115.heap _
          rw [e115]
          exact ⟨rfl, N113, Kloop, Floop_0, by rw [hres]; exact Floop_1, Floop_2⟩
        · skip
          refine Rch.go (fun zt zk => XS.ifNo X113.here hx rfl (hb hby d10_29) rfl ((if0 _ _).trans (feq hc29_114).1) zk) ?_
          show Rch _ _ _ _ (T113.setTop (mkF m 32 #[.val (.ref a1), .val (.int ia)] []))
          refine Rch.go (fun zt zk => XS.aloadN X113.here hx rfl (hb hby d10_32) rfl rfl zk) ?_
          show Rch _ _ _ _ (T113.setTop (mkF m 33 #[.val (.ref a1), .val (.int ia)] [(.ref a1)]))
          refine Rch.go (fun zt zk => XS.dup X113.here hx rfl (hb hby d10_33) rfl rfl zk) ?_
          show Rch _ _ _ _ (T113.setTop (mkF m 34 #[.val (.ref a1), .val (.int ia)] [(.ref a1), (.ref a1)]))
          obtain ⟨T116, X116, e116, st116⟩ := getF X113 hx hZ hown (host := "") (Or.inl (ow30 hw)) Via.refl eq113 Floop_1 (g := (mkF m 34 #[.val (.ref a1), .val (.int ia)] [(.ref a1), (.ref a1)])) rfl rfl (hb hby d10_34)
          refine Rch.go st116 ?_
          show Rch _ _ _ _ (T116.setTop (mkF m 37 #[.val (.ref a1), .val (.int ia)] [(.int i), (.ref a1)]))
          refine Rch.go (fun zt zk => XS.iconst X116.here hx rfl (hb hby d10_37) zk) ?_
          show Rch _ _ _ _ (T116.setTop (mkF m 38 #[.val (.ref a1), .val (.int ia)] [(.int (1 : Int32)), (.int i), (.ref a1)]))
          refine Rch.go (fun zt zk => XS.iadd X116.here hx rfl (hb hby d10_38) rfl zk) ?_
          show Rch _ _ _ _ (T116.setTop (mkF m 39 #[.val (.ref a1), .val (.int ia)] [(.int (i + (1 : Int32))), (.ref a1)]))
          obtain ⟨T117, h117, X117, e117, W117, st117⟩ := putF X116 hx hZ hown (host := "") (Or.inl (ow30 hw)) Via.refl e116 Floop_1 Floop_0 (Or.inl (ow31 hw)) (ow11 hw) (ty := .int) (by decide) rfl rfl (g := (mkF m 39 #[.val (.ref a1), .val (.int ia)] [(.int (i + (1 : Int32))), (.ref a1)])) rfl rfl (hb hby d10_39)
          refine Rch.go st117 ?_
          have Fw117 := Floop_1.same W117
          have N117 := Fr.snoc X117 N113 Pg_a1
          have K117 : Keep h0 h117 [a1] := Keep.wr Kloop W117 (Or.inl (List.mem_of_getElem? (i := 0) rfl))
          show Rch _ _ _ _ (T117.setTop (mkF m 42 #[.val (.ref a1), .val (.int ia)] []))
          refine Rch.go (fun zt zk => XS.goto X117.here hx rfl (pc0 := 42) (pc' := 5) rfl (hb hby d10_42) (by decide) (by decide) zk) ?_
          show Rch _ _ _ _ (T117.setTop (mkF m 5 #[.val (.ref a1), .val (.int ia)] []))
          have hu := own_up hn h0i.1 hc14_109
          have hlt2 := hc14_109; rw [Int32.lt_iff_toInt_lt] at hlt2
          have f118 := (Floop_0.wr W117)
          have f119 := (Floop_2.other W117 (Or.inr (slot_ne (Or.inr (ow20 hw)) (Or.inl (ow31 hw)) (by decide) (t := (.array .byte)) (t' := .int) (by decide) (by decide))))
          have f120 := (Floop_3.other W117 Pn0)
          have f121 := (Nat.le_trans Zloop (Keep.of_wr W117).1)
          exact ih ((i + (1 : Int32))) _ _ _ X117 e117 N117 f121 K117 f118 Fw117 f119 f120 (by omega) (⟨by omega, by omega⟩) (hr.trans (own_d2 hc14_109 hc29_114))
      · skip
        refine Rch.go (fun zt zk => XS.icmpYes X107.here hx rfl (pc0 := 14) (pc' := 45) rfl (hb hby d10_14) rfl (flt hc14_109).2.1 (by decide) (by decide) zk) ?_
        show Rch _ _ _ _ (T107.setTop (mkF m 45 #[.val (.ref a1), .val (.int ia)] []))
        have hres : fDig nn bs 8 ia = i := hr.trans (own_d0 hc14_109)
        refine Rch.go (fun zt zk => XS.aloadN X107.here hx rfl (hb hby d10_45) rfl rfl zk) ?_
        show Rch _ _ _ _ (T107.setTop (mkF m 46 #[.val (.ref a1), .val (.int ia)] [(.ref a1)]))
        obtain ⟨T122, X122, e122, st122⟩ := getF X107 hx hZ hown (host := "") (Or.inl (ow30 hw)) Via.refl e107 Floop_1 (g := (mkF m 46 #[.val (.ref a1), .val (.int ia)] [(.ref a1)])) rfl rfl (hb hby d10_46)
        refine Rch.go st122 ?_
        show Rch _ _ _ _ (T122.setTop (mkF m 49 #[.val (.ref a1), .val (.int ia)] [(.int i)]))
        refine Rch.go (fun zt zk => XS.iloadN X122.here hx rfl (hb hby d10_49) rfl zk) ?_
        show Rch _ _ _ _ (T122.setTop (mkF m 50 #[.val (.ref a1), .val (.int ia)] [(.int ia), (.int i)]))
        refine Rch.go (fun zt zk => XS.icmpYes X122.here hx rfl (pc0 := 50) (pc' := 57) rfl (hb hby d10_50) rfl (feq (fun q => hne (hres.trans q) : ¬ (i = ia))).2 (by decide) (by decide) zk) ?_
        show Rch _ _ _ _ (T122.setTop (mkF m 57 #[.val (.ref a1), .val (.int ia)] []))
        obtain ⟨fs, hr, hrun, hended, hW, hsame⟩ := X122.leave (v := none) (fun _ => rfl)
        refine Rch.mk (X122.returnOut hx Bd.returns (hb hby d10_57) hr) (hPd _ _ _ _ hrun hended rfl ?_ ⟨⟨_, rfl⟩, hW, hsame.mono (by decide) (by decide)⟩)
        show Q_rmDig Z a1 ia t0 kt nn bs h0 n0 _ T122.heap _
        rw [e122]
        exact ⟨rfl, Nloop, Kloop, Floop_0, by rw [hres]; exact Floop_1, Floop_2⟩
  exact loop (8) (ia) _ _ _ X101 e101 N0 Z0 (Keep.refl h0 [a1]) P0 P1 P2 P3 (by have := hn.2; omega) (hi) (rfl)
theorem ef_rmCons (m : MethodId) (a1 : Addr) (p2 : Int32) : entryFrame m #[(.ref a1), (.int p2), (.int (0 : Int32))] 4 = mkF m 0 #[.val (.ref a1), .val (.int p2), .val (.int (0 : Int32)), .unset] [] := by first | (simp [entryFrame, mkF, argsToLocals, Value.category]; done) | rfl
theorem d9_0 : decode prog_14_method_25_code 0 = .ok (.iload_n 2, 1) := by decide +kernel
theorem d9_1 : decode prog_14_method_25_code 1 = .ok (.ifCond .eq 7, 3) := by decide +kernel
theorem d9_8 : decode prog_14_method_25_code 8 = .ok (.aload_n 0, 1) := by decide +kernel
theorem d9_9 : decode prog_14_method_25_code 9 = .ok (.getfield 16, 3) := by decide +kernel
theorem d9_12 : decode prog_14_method_25_code 12 = .ok (.aload_n 0, 1) := by decide +kernel
theorem d9_13 : decode prog_14_method_25_code 13 = .ok (.getfield 7, 3) := by decide +kernel
theorem d9_16 : decode prog_14_method_25_code 16 = .ok (.arraylength, 1) := by decide +kernel
theorem d9_17 : decode prog_14_method_25_code 17 = .ok (.if_icmp .ge 20, 3) := by decide +kernel
theorem d9_20 : decode prog_14_method_25_code 20 = .ok (.aload_n 0, 1) := by decide +kernel
theorem d9_21 : decode prog_14_method_25_code 21 = .ok (.getfield 7, 3) := by decide +kernel
theorem d9_24 : decode prog_14_method_25_code 24 = .ok (.aload_n 0, 1) := by decide +kernel
theorem d9_25 : decode prog_14_method_25_code 25 = .ok (.getfield 16, 3) := by decide +kernel
theorem d9_28 : decode prog_14_method_25_code 28 = .ok (.baload, 1) := by decide +kernel
theorem d9_29 : decode prog_14_method_25_code 29 = .ok (.iload_n 1, 1) := by decide +kernel
theorem d9_30 : decode prog_14_method_25_code 30 = .ok (.if_icmp .ne 7, 3) := by decide +kernel
theorem d9_37 : decode prog_14_method_25_code 37 = .ok (.iconst 0, 1) := by decide +kernel
theorem d9_38 : decode prog_14_method_25_code 38 = .ok (.istore_n 3, 1) := by decide +kernel
theorem d9_39 : decode prog_14_method_25_code 39 = .ok (.iload_n 3, 1) := by decide +kernel
theorem d9_40 : decode prog_14_method_25_code 40 = .ok (.ifCond .eq 13, 3) := by decide +kernel
theorem d9_53 : decode prog_14_method_25_code 53 = .ok (.iload_n 3, 1) := by decide +kernel
theorem d9_54 : decode prog_14_method_25_code 54 = .ok (.ireturn, 1) := by decide +kernel
def Q_rmCons (Z : State) (a1 : Addr) (p2 : Int32) (ia : Int32) (t0 : Addr) (kt : ClassId) (nn : Int32) (bs : List Int32) (h0 : Heap) (n0 : Nat) (v : Option Value) (h : Heap) (L : List Loc) : Prop := v = some (.int (0 : Int32)) ∧ Fr n0 L ∧ h = h0
set_option maxRecDepth 65536 in
set_option maxHeartbeats 40000000 in
theorem rmCons (l : Launch) (Z : State) (a0 : Array Value) (hw : ∀ d ∈ tables_1, d.before a0 Z = true) (ws : List Jvm.Cond) (a1 : Addr) (p2 : Int32) (ia : Int32) (t0 : Addr) (kt : ClassId) (nn : Int32) (bs : List Int32) (h0 : Heap) (n0 : Nat) (Z0 : n0 ≤ h0.size) (P0 : Exa Z h0 a1 "com/example/mark_time/marktime/io/JsonCursor") (P1 : Fld Z h0 a1 "com/example/mark_time/marktime/io/JsonCursor" "at" "I" (.int ia)) (P2 : Fld Z h0 a1 "com/example/mark_time/marktime/io/JsonCursor" "text" "[B" (.ref t0)) (P3 : Arv Z h0 t0 kt .byte nn (bs.map Value.int) (.int (0 : Int32))) (hn : Len nn bs) (hi : 0 ≤ ia.toInt ∧ ia.toInt ≤ nn.toInt) (hno : ia < nn → ¬ (bAt bs ia = p2)) :
    MetFree l (⟨"com/example/mark_time/marktime/io/JsonCursor", "consume", "(CZ)Z"⟩ : MethodName) (head1 (Jvm.Cond.code (⟨"com/example/mark_time/marktime/io/JsonCursor", "consume", "(CZ)Z"⟩ : MethodName) prog_14_method_25_code 4 (some .boolean) :: ws) ({ frames := 0, cells := 0, slots := 0, locals := 0 } : Room)) (fun a U => a = #[(.ref a1), (.int p2), (.int (0 : Int32))] ∧ Z.Warmed39 U.vm ∧ U.heap = h0) (fun _ _ _ _ _ => True) (fun _ U o U' => ∃ v L, o = .returned v ∧ Q_rmCons Z a1 p2 ia t0 kt nn bs h0 n0 v U'.heap L ∧ FrameEnd U o U' L ({ frames := 0, cells := 0, slots := 0, locals := 0 } : Room).cells ({ frames := 0, cells := 0, slots := 0, locals := 0 } : Room).slots) := by
  refine MetFree.of_bodySF (plainFor_of_name pn_com_example_mark_time_marktime_io_JsonCursor) hisR ?_
  intro p e s m args below meth c s₁ Bd hml0 hP hK
  obtain ⟨rfl, hZ, hh⟩ := hP
  have hx := Bd.exec
  have hby := Bd.bytes
  have hml : c.maxLocals = 4 := hml0
  have hown : s.vm.findClass "com/example/mark_time/marktime/io/JsonCursor" = some m.cls := findClass_of_methodNamed Bd.named
  have hnm := (name_of_methodNamed Bd.named Bd.method).1
  have X0 : Stand p l e ({ frames := 0, cells := 0, slots := 0, locals := 0 } : Room) s m #[(.ref a1), (.int p2), (.int (0 : Int32))] below meth c s₁ [] 0 0 := Stand.of_body Bd
  have e0 : s₁.heap = h0 := by rw [← hh, Bd.state]; rfl
  have N0 := Fr.nil n0
  suffices hR : ∀ P : State → Prop, (∀ s₂ o v L, s₂.status = .running → Ended s₂ below o → o = .returned v → Q_rmCons Z a1 p2 ia t0 kt nn bs h0 n0 v s₂.heap L → FrameEnd s o s₂ L ({ frames := 0, cells := 0, slots := 0, locals := 0 } : Room).cells ({ frames := 0, cells := 0, slots := 0, locals := 0 } : Room).slots → P s₂) → Rch p.tables e below P (s₁.setTop (mkF m 0 #[.val (.ref a1), .val (.int p2), .val (.int (0 : Int32)), .unset] [])) by
    obtain ⟨s₂, h1, o, h2⟩ := hR (fun s₂ => ∃ o, s₂.status = .running ∧ Ended s₂ below o ∧ ∃ v L, o = .returned v ∧ Q_rmCons Z a1 p2 ia t0 kt nn bs h0 n0 v s₂.heap L ∧ FrameEnd s o s₂ L ({ frames := 0, cells := 0, slots := 0, locals := 0 } : Room).cells ({ frames := 0, cells := 0, slots := 0, locals := 0 } : Room).slots) (fun s₂ o v L q1 q2 q3 q4 q5 => ⟨o, q1, q2, v, L, q3, q4, q5⟩)
    exact ⟨s₂, o, castTop (ef_rmCons m a1 p2) h1, h2⟩
  intro P hPd
  refine Rch.go (fun zt zk => XS.iloadN X0.here hx rfl (hb hby d9_0) rfl zk) ?_
  show Rch _ _ _ _ (s₁.setTop (mkF m 1 #[.val (.ref a1), .val (.int p2), .val (.int (0 : Int32)), .unset] [(.int (0 : Int32))]))
  refine Rch.go (fun zt zk => XS.ifYes X0.here hx rfl (pc0 := 1) (pc' := 8) rfl (hb hby d9_1) rfl ((if0 _ _).trans (teq (by decide : (0 : Int32) = (0 : Int32))).1) (by decide) (by decide) zk) ?_
  show Rch _ _ _ _ (s₁.setTop (mkF m 8 #[.val (.ref a1), .val (.int p2), .val (.int (0 : Int32)), .unset] []))
  refine Rch.go (fun zt zk => XS.aloadN X0.here hx rfl (hb hby d9_8) rfl rfl zk) ?_
  show Rch _ _ _ _ (s₁.setTop (mkF m 9 #[.val (.ref a1), .val (.int p2), .val (.int (0 : Int32)), .unset] [(.ref a1)]))
  obtain ⟨T101, X101, e101, st101⟩ := getF X0 hx hZ hown (host := "") (Or.inl (ow30 hw)) Via.refl e0 P1 (g := (mkF m 9 #[.val (.ref a1), .val (.int p2), .val (.int (0 : Int32)), .unset] [(.ref a1)])) rfl rfl (hb hby d9_9)
  refine Rch.go st101 ?_
  show Rch _ _ _ _ (T101.setTop (mkF m 12 #[.val (.ref a1), .val (.int p2), .val (.int (0 : Int32)), .unset] [(.int ia)]))
  refine Rch.go (fun zt zk => XS.aloadN X101.here hx rfl (hb hby d9_12) rfl rfl zk) ?_
  show Rch _ _ _ _ (T101.setTop (mkF m 13 #[.val (.ref a1), .val (.int p2), .val (.int (0 : Int32)), .unset] [(.ref a1), (.int ia)]))
  obtain ⟨T102, X102, e102, st102⟩ := getF X101 hx hZ hown (host := "") (Or.inl (ow19 hw)) Via.refl e101 P2 (g := (mkF m 13 #[.val (.ref a1), .val (.int p2), .val (.int (0 : Int32)), .unset] [(.ref a1), (.int ia)])) rfl rfl (hb hby d9_13)
  refine Rch.go st102 ?_
  show Rch _ _ _ _ (T102.setTop (mkF m 16 #[.val (.ref a1), .val (.int p2), .val (.int (0 : Int32)), .unset] [(.ref t0), (.int ia)]))
  obtain ⟨cl103, Ar103, q103, S103, M103, H103, G103⟩ := id P3
  refine Rch.go (X102.arraylength hx (by rw [e102]; exact Ar103.1) (State.isArrayOf_alike hZ.alike Ar103.2.1) (g := (mkF m 16 #[.val (.ref a1), .val (.int p2), .val (.int (0 : Int32)), .unset] [(.ref t0), (.int ia)])) rfl rfl (hb hby d9_16)) ?_
  rw [len_of S103 M103]
  show Rch _ _ _ _ (T102.setTop (mkF m 17 #[.val (.ref a1), .val (.int p2), .val (.int (0 : Int32)), .unset] [(.int nn), (.int ia)]))
  by_cases hc17_104 : ia < nn
  · skip
    refine Rch.go (fun zt zk => XS.icmpNo X102.here hx rfl (hb hby d9_17) rfl (tlt hc17_104).2.1 zk) ?_
    show Rch _ _ _ _ (T102.setTop (mkF m 20 #[.val (.ref a1), .val (.int p2), .val (.int (0 : Int32)), .unset] []))
    refine Rch.go (fun zt zk => XS.aloadN X102.here hx rfl (hb hby d9_20) rfl rfl zk) ?_
    show Rch _ _ _ _ (T102.setTop (mkF m 21 #[.val (.ref a1), .val (.int p2), .val (.int (0 : Int32)), .unset] [(.ref a1)]))
    obtain ⟨T105, X105, e105, st105⟩ := getF X102 hx hZ hown (host := "") (Or.inl (ow19 hw)) Via.refl e102 P2 (g := (mkF m 21 #[.val (.ref a1), .val (.int p2), .val (.int (0 : Int32)), .unset] [(.ref a1)])) rfl rfl (hb hby d9_21)
    refine Rch.go st105 ?_
    show Rch _ _ _ _ (T105.setTop (mkF m 24 #[.val (.ref a1), .val (.int p2), .val (.int (0 : Int32)), .unset] [(.ref t0)]))
    refine Rch.go (fun zt zk => XS.aloadN X105.here hx rfl (hb hby d9_24) rfl rfl zk) ?_
    show Rch _ _ _ _ (T105.setTop (mkF m 25 #[.val (.ref a1), .val (.int p2), .val (.int (0 : Int32)), .unset] [(.ref a1), (.ref t0)]))
    obtain ⟨T106, X106, e106, st106⟩ := getF X105 hx hZ hown (host := "") (Or.inl (ow30 hw)) Via.refl e105 P1 (g := (mkF m 25 #[.val (.ref a1), .val (.int p2), .val (.int (0 : Int32)), .unset] [(.ref a1), (.ref t0)])) rfl rfl (hb hby d9_25)
    refine Rch.go st106 ?_
    show Rch _ _ _ _ (T106.setTop (mkF m 28 #[.val (.ref a1), .val (.int p2), .val (.int (0 : Int32)), .unset] [(.int ia), (.ref t0)]))
    obtain ⟨cl107, Ar107, q107, S107, M107, H107, G107⟩ := id P3
    have hin107 := inb_of (j := ia) S107 (own_inb (by omega) hc17_104)
    refine Rch.go (X106.baloadBytes hx (j := ia) (v := (.int (bAt bs ia))) (by rw [e106]; exact Ar107.1) (State.isArrayOf_alike hZ.alike Ar107.2.1) Ar107.2.2 hin107 (Has.at H107 hin107 (own_bAt bs _)) (g := (mkF m 28 #[.val (.ref a1), .val (.int p2), .val (.int (0 : Int32)), .unset] [(.int ia), (.ref t0)])) rfl rfl (hb hby d9_28)) ?_
    show Rch _ _ _ _ (T106.setTop (mkF m 29 #[.val (.ref a1), .val (.int p2), .val (.int (0 : Int32)), .unset] [(.int (bAt bs ia))]))
    refine Rch.go (fun zt zk => XS.iloadN X106.here hx rfl (hb hby d9_29) rfl zk) ?_
    show Rch _ _ _ _ (T106.setTop (mkF m 30 #[.val (.ref a1), .val (.int p2), .val (.int (0 : Int32)), .unset] [(.int p2), (.int (bAt bs ia))]))
    refine Rch.go (fun zt zk => XS.icmpYes X106.here hx rfl (pc0 := 30) (pc' := 37) rfl (hb hby d9_30) rfl (feq (hno hc17_104 : ¬ ((bAt bs ia) = p2))).2 (by decide) (by decide) zk) ?_
    show Rch _ _ _ _ (T106.setTop (mkF m 37 #[.val (.ref a1), .val (.int p2), .val (.int (0 : Int32)), .unset] []))
    refine Rch.go (fun zt zk => XS.iconst X106.here hx rfl (hb hby d9_37) zk) ?_
    show Rch _ _ _ _ (T106.setTop (mkF m 38 #[.val (.ref a1), .val (.int p2), .val (.int (0 : Int32)), .unset] [(.int (0 : Int32))]))
    refine Rch.go (fun zt zk => XS.istoreN X106.here hx rfl (hb hby d9_38) rfl (l' := #[.val (.ref a1), .val (.int p2), .val (.int (0 : Int32)), .val (.int (0 : Int32))]) rfl zk) ?_
    show Rch _ _ _ _ (T106.setTop (mkF m 39 #[.val (.ref a1), .val (.int p2), .val (.int (0 : Int32)), .val (.int (0 : Int32))] []))
    refine Rch.go (fun zt zk => XS.iloadN X106.here hx rfl (hb hby d9_39) rfl zk) ?_
    show Rch _ _ _ _ (T106.setTop (mkF m 40 #[.val (.ref a1), .val (.int p2), .val (.int (0 : Int32)), .val (.int (0 : Int32))] [(.int (0 : Int32))]))
    refine Rch.go (fun zt zk => XS.ifYes X106.here hx rfl (pc0 := 40) (pc' := 53) rfl (hb hby d9_40) rfl ((if0 _ _).trans (teq (by decide : (0 : Int32) = (0 : Int32))).1) (by decide) (by decide) zk) ?_
    show Rch _ _ _ _ (T106.setTop (mkF m 53 #[.val (.ref a1), .val (.int p2), .val (.int (0 : Int32)), .val (.int (0 : Int32))] []))
    refine Rch.go (fun zt zk => XS.iloadN X106.here hx rfl (hb hby d9_53) rfl zk) ?_
    show Rch _ _ _ _ (T106.setTop (mkF m 54 #[.val (.ref a1), .val (.int p2), .val (.int (0 : Int32)), .val (.int (0 : Int32))] [(.int (0 : Int32))]))
    obtain ⟨fs, hr, hrun, hended, hW, hsame⟩ := X106.leave (v := some (.int (0 : Int32))) (fun h => by rw [Bd.returns] at h; cases h)
    refine Rch.mk (retN X106 hx (t := .boolean) Bd.returns (by simp) (hb hby d9_54) hr) (hPd _ _ _ _ hrun hended rfl ?_ ⟨⟨_, rfl⟩, hW, hsame.mono (by decide) (by decide)⟩)
    show Q_rmCons Z a1 p2 ia t0 kt nn bs h0 n0 _ T106.heap _
    rw [e106]
    exact ⟨rfl, N0, rfl⟩
  · skip
    refine Rch.go (fun zt zk => XS.icmpYes X102.here hx rfl (pc0 := 17) (pc' := 37) rfl (hb hby d9_17) rfl (flt hc17_104).2.1 (by decide) (by decide) zk) ?_
    show Rch _ _ _ _ (T102.setTop (mkF m 37 #[.val (.ref a1), .val (.int p2), .val (.int (0 : Int32)), .unset] []))
    refine Rch.go (fun zt zk => XS.iconst X102.here hx rfl (hb hby d9_37) zk) ?_
    show Rch _ _ _ _ (T102.setTop (mkF m 38 #[.val (.ref a1), .val (.int p2), .val (.int (0 : Int32)), .unset] [(.int (0 : Int32))]))
    refine Rch.go (fun zt zk => XS.istoreN X102.here hx rfl (hb hby d9_38) rfl (l' := #[.val (.ref a1), .val (.int p2), .val (.int (0 : Int32)), .val (.int (0 : Int32))]) rfl zk) ?_
    show Rch _ _ _ _ (T102.setTop (mkF m 39 #[.val (.ref a1), .val (.int p2), .val (.int (0 : Int32)), .val (.int (0 : Int32))] []))
    refine Rch.go (fun zt zk => XS.iloadN X102.here hx rfl (hb hby d9_39) rfl zk) ?_
    show Rch _ _ _ _ (T102.setTop (mkF m 40 #[.val (.ref a1), .val (.int p2), .val (.int (0 : Int32)), .val (.int (0 : Int32))] [(.int (0 : Int32))]))
    refine Rch.go (fun zt zk => XS.ifYes X102.here hx rfl (pc0 := 40) (pc' := 53) rfl (hb hby d9_40) rfl ((if0 _ _).trans (teq (by decide : (0 : Int32) = (0 : Int32))).1) (by decide) (by decide) zk) ?_
    show Rch _ _ _ _ (T102.setTop (mkF m 53 #[.val (.ref a1), .val (.int p2), .val (.int (0 : Int32)), .val (.int (0 : Int32))] []))
    refine Rch.go (fun zt zk => XS.iloadN X102.here hx rfl (hb hby d9_53) rfl zk) ?_
    show Rch _ _ _ _ (T102.setTop (mkF m 54 #[.val (.ref a1), .val (.int p2), .val (.int (0 : Int32)), .val (.int (0 : Int32))] [(.int (0 : Int32))]))
    obtain ⟨fs, hr, hrun, hended, hW, hsame⟩ := X102.leave (v := some (.int (0 : Int32))) (fun h => by rw [Bd.returns] at h; cases h)
    refine Rch.mk (retN X102 hx (t := .boolean) Bd.returns (by simp) (hb hby d9_54) hr) (hPd _ _ _ _ hrun hended rfl ?_ ⟨⟨_, rfl⟩, hW, hsame.mono (by decide) (by decide)⟩)
    show Q_rmCons Z a1 p2 ia t0 kt nn bs h0 n0 _ T102.heap _
    rw [e102]
    exact ⟨rfl, N0, rfl⟩
theorem ef_rmEnd (m : MethodId) (a1 : Addr) : entryFrame m #[(.ref a1)] 1 = mkF m 0 #[.val (.ref a1)] [] := by first | (simp [entryFrame, mkF, argsToLocals, Value.category]; done) | rfl
theorem d5_0 : decode prog_14_method_12_code 0 = .ok (.aload_n 0, 1) := by decide +kernel
theorem d5_1 : decode prog_14_method_12_code 1 = .ok (.invokevirtual 13, 3) := by decide +kernel
theorem pd___V : parseMethodDescriptor "()V" = some ⟨[], none⟩ := by decide +kernel
theorem d5_4 : decode prog_14_method_12_code 4 = .ok (.aload_n 0, 1) := by decide +kernel
theorem d5_5 : decode prog_14_method_12_code 5 = .ok (.getfield 16, 3) := by decide +kernel
theorem d5_8 : decode prog_14_method_12_code 8 = .ok (.aload_n 0, 1) := by decide +kernel
theorem d5_9 : decode prog_14_method_12_code 9 = .ok (.getfield 7, 3) := by decide +kernel
theorem d5_12 : decode prog_14_method_12_code 12 = .ok (.arraylength, 1) := by decide +kernel
theorem d5_13 : decode prog_14_method_12_code 13 = .ok (.if_icmp .ge 13, 3) := by decide +kernel
theorem d5_26 : decode prog_14_method_12_code 26 = .ok (.return_, 1) := by decide +kernel
def Q_rmEnd (Z : State) (a1 : Addr) (ia : Int32) (t0 : Addr) (kt : ClassId) (nn : Int32) (bs : List Int32) (h0 : Heap) (n0 : Nat) (v : Option Value) (h : Heap) (L : List Loc) : Prop := v = none ∧ Fr n0 L ∧ Keep h0 h [a1] ∧ Exa Z h a1 "com/example/mark_time/marktime/io/JsonCursor" ∧ Fld Z h a1 "com/example/mark_time/marktime/io/JsonCursor" "at" "I" (.int (fSkip nn bs 8 ia)) ∧ Fld Z h a1 "com/example/mark_time/marktime/io/JsonCursor" "text" "[B" (.ref t0)
set_option maxRecDepth 65536 in
set_option maxHeartbeats 40000000 in
theorem rmEnd (l : Launch) (Z : State) (a0 : Array Value) (hw : ∀ d ∈ tables_1, d.before a0 Z = true) (ws : List Jvm.Cond) (a1 : Addr) (ia : Int32) (t0 : Addr) (kt : ClassId) (nn : Int32) (bs : List Int32) (h0 : Heap) (n0 : Nat) (Z0 : n0 ≤ h0.size) (P0 : Exa Z h0 a1 "com/example/mark_time/marktime/io/JsonCursor") (P1 : Fld Z h0 a1 "com/example/mark_time/marktime/io/JsonCursor" "at" "I" (.int ia)) (P2 : Fld Z h0 a1 "com/example/mark_time/marktime/io/JsonCursor" "text" "[B" (.ref t0)) (P3 : Arv Z h0 t0 kt .byte nn (bs.map Value.int) (.int (0 : Int32))) (Pn0 : t0 ≠ a1) (Pg_a1 : n0 ≤ a1) (hn : Len nn bs) (hi : 0 ≤ ia.toInt ∧ ia.toInt ≤ nn.toInt) (hend : ¬ (fSkip nn bs 8 ia < nn)) :
    MetFree l (⟨"com/example/mark_time/marktime/io/JsonCursor", "end", "()V"⟩ : MethodName) (head1 (Jvm.Cond.code (⟨"com/example/mark_time/marktime/io/JsonCursor", "end", "()V"⟩ : MethodName) prog_14_method_12_code 1 none :: ws) ({ frames := 2, cells := 0, slots := 0, locals := 24 } : Room)) (fun a U => a = #[(.ref a1)] ∧ Z.Warmed39 U.vm ∧ U.heap = h0) (fun _ _ _ _ _ => True) (fun _ U o U' => ∃ v L, o = .returned v ∧ Q_rmEnd Z a1 ia t0 kt nn bs h0 n0 v U'.heap L ∧ FrameEnd U o U' L ({ frames := 2, cells := 0, slots := 0, locals := 24 } : Room).cells ({ frames := 2, cells := 0, slots := 0, locals := 24 } : Room).slots) := by
  refine MetFree.of_bodySF (plainFor_of_name pn_com_example_mark_time_marktime_io_JsonCursor) hisR ?_
  intro p e s m args below meth c s₁ Bd hml0 hP hK
  obtain ⟨rfl, hZ, hh⟩ := hP
  have hx := Bd.exec
  have hby := Bd.bytes
  have hml : c.maxLocals = 1 := hml0
  have hown : s.vm.findClass "com/example/mark_time/marktime/io/JsonCursor" = some m.cls := findClass_of_methodNamed Bd.named
  have hnm := (name_of_methodNamed Bd.named Bd.method).1
  have X0 : Stand p l e ({ frames := 2, cells := 0, slots := 0, locals := 24 } : Room) s m #[(.ref a1)] below meth c s₁ [] 0 0 := Stand.of_body Bd
  have e0 : s₁.heap = h0 := by rw [← hh, Bd.state]; rfl
  have N0 := Fr.nil n0
  suffices hR : ∀ P : State → Prop, (∀ s₂ o v L, s₂.status = .running → Ended s₂ below o → o = .returned v → Q_rmEnd Z a1 ia t0 kt nn bs h0 n0 v s₂.heap L → FrameEnd s o s₂ L ({ frames := 2, cells := 0, slots := 0, locals := 24 } : Room).cells ({ frames := 2, cells := 0, slots := 0, locals := 24 } : Room).slots → P s₂) → Rch p.tables e below P (s₁.setTop (mkF m 0 #[.val (.ref a1)] [])) by
    obtain ⟨s₂, h1, o, h2⟩ := hR (fun s₂ => ∃ o, s₂.status = .running ∧ Ended s₂ below o ∧ ∃ v L, o = .returned v ∧ Q_rmEnd Z a1 ia t0 kt nn bs h0 n0 v s₂.heap L ∧ FrameEnd s o s₂ L ({ frames := 2, cells := 0, slots := 0, locals := 24 } : Room).cells ({ frames := 2, cells := 0, slots := 0, locals := 24 } : Room).slots) (fun s₂ o v L q1 q2 q3 q4 q5 => ⟨o, q1, q2, v, L, q3, q4, q5⟩)
    exact ⟨s₂, o, castTop (ef_rmEnd m a1) h1, h2⟩
  intro P hPd
  refine Rch.go (fun zt zk => XS.aloadN X0.here hx rfl (hb hby d5_0) rfl rfl zk) ?_
  show Rch _ _ _ _ (s₁.setTop (mkF m 1 #[.val (.ref a1)] [(.ref a1)]))
  obtain ⟨cq101, q101, q101'⟩ := P0.cell
  obtain ⟨_, _, ⟨T101, L101, k101, n101⟩, -, X101, ⟨Lc101, hQ101, l101, y101, z101⟩, st101⟩ := X0.privateBack hx (y := (⟨"com/example/mark_time/marktime/io/JsonCursor", "skipWhitespace", "()V"⟩ : MethodName)) hown (mvT hZ (ow26 hw)) (mvT hZ (ow27 hw)) (own_selP (args := #[]) hZ (ow11 hw) (ow28 hw) (ow27 hw) (by decide)) (Cond.privateMethod_at (mvP hZ (ow28 hw) (args := #[]))) (mvT hZ (ow29 hw)) (by decide) (backOf (W := 0) (rmSkip l Z a0 hw [] (a1) (ia) (t0) (kt) (nn) (bs) h0 n0 Z0 (P0) (P1) (P2) (P3) (Pn0) (Pg_a1) (hn) (hi)) hZ (ow29 hw) (ow12 hw) (by decide) (by decide)) (g := (mkF m 1 #[.val (.ref a1)] [(.ref a1)])) rfl (by rw [hml]; rfl) (Steps.refl _) (a := a1) (by rw [e0]; exact q101) q101' (argsL := []) (rest := []) (lenOf pd___V rfl) rfl (by show 2 * 0 + _ ≤ _; exact Nat.le_of_eq rfl) (hb hby d5_1) (fun _ _ => ⟨rfl, e0, (by decide : 0 + 0 ≤ _), (by decide : 0 + 0 ≤ _)⟩)
  dsimp only [Pt.U, Pt.locs, Pt.cells, Pt.slots] at X101 l101 y101 z101 st101 hQ101
  subst l101 y101 z101
  obtain ⟨rfl, N101q, K101q, O101_0, O101_1, O101_2⟩ := hQ101
  have N101 := Fr.app N0 N101q
  have K101 := Keep.trans (Keep.refl h0 [a1]) K101q (allS (Or.inl (List.mem_of_getElem? (i := 0) rfl)) all0)
  refine Rch.go (fun zt zk => st101.trans zk) ?_
  show Rch _ _ _ _ (T101.setTop (mkF m 4 #[.val (.ref a1)] []))
  refine Rch.go (fun zt zk => XS.aloadN X101.here hx rfl (hb hby d5_4) rfl rfl zk) ?_
  show Rch _ _ _ _ (T101.setTop (mkF m 5 #[.val (.ref a1)] [(.ref a1)]))
  obtain ⟨T102, X102, e102, st102⟩ := getF X101 hx hZ hown (host := "") (Or.inl (ow30 hw)) Via.refl rfl O101_1 (g := (mkF m 5 #[.val (.ref a1)] [(.ref a1)])) rfl rfl (hb hby d5_5)
  refine Rch.go st102 ?_
  show Rch _ _ _ _ (T102.setTop (mkF m 8 #[.val (.ref a1)] [(.int (fSkip nn bs 8 ia))]))
  refine Rch.go (fun zt zk => XS.aloadN X102.here hx rfl (hb hby d5_8) rfl rfl zk) ?_
  show Rch _ _ _ _ (T102.setTop (mkF m 9 #[.val (.ref a1)] [(.ref a1), (.int (fSkip nn bs 8 ia))]))
  obtain ⟨T103, X103, e103, st103⟩ := getF X102 hx hZ hown (host := "") (Or.inl (ow19 hw)) Via.refl e102 O101_2 (g := (mkF m 9 #[.val (.ref a1)] [(.ref a1), (.int (fSkip nn bs 8 ia))])) rfl rfl (hb hby d5_9)
  refine Rch.go st103 ?_
  show Rch _ _ _ _ (T103.setTop (mkF m 12 #[.val (.ref a1)] [(.ref t0), (.int (fSkip nn bs 8 ia))]))
  have f104 := (P3.keep K101q (ninS Pn0 nin0))
  obtain ⟨cl105, Ar105, q105, S105, M105, H105, G105⟩ := id f104
  refine Rch.go (X103.arraylength hx (by rw [e103]; exact Ar105.1) (State.isArrayOf_alike hZ.alike Ar105.2.1) (g := (mkF m 12 #[.val (.ref a1)] [(.ref t0), (.int (fSkip nn bs 8 ia))])) rfl rfl (hb hby d5_12)) ?_
  rw [len_of S105 M105]
  show Rch _ _ _ _ (T103.setTop (mkF m 13 #[.val (.ref a1)] [(.int nn), (.int (fSkip nn bs 8 ia))]))
  refine Rch.go (fun zt zk => XS.icmpYes X103.here hx rfl (pc0 := 13) (pc' := 26) rfl (hb hby d5_13) rfl (flt (hend : ¬ ((fSkip nn bs 8 ia) < nn))).2.1 (by decide) (by decide) zk) ?_
  show Rch _ _ _ _ (T103.setTop (mkF m 26 #[.val (.ref a1)] []))
  obtain ⟨fs, hr, hrun, hended, hW, hsame⟩ := X103.leave (v := none) (fun _ => rfl)
  refine Rch.mk (X103.returnOut hx Bd.returns (hb hby d5_26) hr) (hPd _ _ _ _ hrun hended rfl ?_ ⟨⟨_, rfl⟩, hW, hsame.mono (by decide) (by decide)⟩)
  show Q_rmEnd Z a1 ia t0 kt nn bs h0 n0 _ T103.heap _
  rw [e103]
  exact ⟨rfl, N101, K101, O101_0, O101_1, O101_2⟩
def fMin (p1 : Int32) (p2 : Int32) : Int32 := (if p2 < p1 then p2 else p1)
theorem ef_rm22 (m : MethodId) (p1 : Int32) (p2 : Int32) : entryFrame m #[(.int p1), (.int p2)] 2 = mkF m 0 #[.val (.int p1), .val (.int p2)] [] := by first | (simp [entryFrame, mkF, argsToLocals, Value.category]; done) | rfl
theorem d22_0 : decode jdk_29_method_69_code 0 = .ok (.iload_n 0, 1) := by decide +kernel
theorem d22_1 : decode jdk_29_method_69_code 1 = .ok (.iload_n 1, 1) := by decide +kernel
theorem d22_2 : decode jdk_29_method_69_code 2 = .ok (.if_icmp .gt 7, 3) := by decide +kernel
theorem d22_9 : decode jdk_29_method_69_code 9 = .ok (.iload_n 1, 1) := by decide +kernel
theorem d22_10 : decode jdk_29_method_69_code 10 = .ok (.ireturn, 1) := by decide +kernel
theorem d22_5 : decode jdk_29_method_69_code 5 = .ok (.iload_n 0, 1) := by decide +kernel
theorem d22_6 : decode jdk_29_method_69_code 6 = .ok (.goto 4, 3) := by decide +kernel
def Q_rm22 (Z : State) (p1 : Int32) (p2 : Int32) (h0 : Heap) (n0 : Nat) (v : Option Value) (h : Heap) (L : List Loc) : Prop := v = some (.int (fMin p1 p2)) ∧ Fr n0 L ∧ h = h0
set_option maxRecDepth 65536 in
set_option maxHeartbeats 40000000 in
theorem rm22 (l : Launch) (Z : State) (a0 : Array Value) (hw : ∀ d ∈ tables_1, d.before a0 Z = true) (ws : List Jvm.Cond) (p1 : Int32) (p2 : Int32) (h0 : Heap) (n0 : Nat) (Z0 : n0 ≤ h0.size) :
    MetFree l (⟨"java/lang/Math", "min", "(II)I"⟩ : MethodName) (head1 (Jvm.Cond.code (⟨"java/lang/Math", "min", "(II)I"⟩ : MethodName) jdk_29_method_69_code 2 (some .int) :: ws) ({ frames := 0, cells := 0, slots := 0, locals := 0 } : Room)) (fun a U => a = #[(.int p1), (.int p2)] ∧ Z.Warmed39 U.vm ∧ U.heap = h0) (fun _ _ _ _ _ => True) (fun _ U o U' => ∃ v L, o = .returned v ∧ Q_rm22 Z p1 p2 h0 n0 v U'.heap L ∧ FrameEnd U o U' L ({ frames := 0, cells := 0, slots := 0, locals := 0 } : Room).cells ({ frames := 0, cells := 0, slots := 0, locals := 0 } : Room).slots) := by
  refine MetFree.of_bodySF (Jvm.Free.JP.mathPlain rfl (by decide +kernel)) hisR ?_
  intro p e s m args below meth c s₁ Bd hml0 hP hK
  obtain ⟨rfl, hZ, hh⟩ := hP
  have hx := Bd.exec
  have hby := Bd.bytes
  have hml : c.maxLocals = 2 := hml0
  have hown : s.vm.findClass "java/lang/Math" = some m.cls := findClass_of_methodNamed Bd.named
  have hnm := (name_of_methodNamed Bd.named Bd.method).1
  have X0 : Stand p l e ({ frames := 0, cells := 0, slots := 0, locals := 0 } : Room) s m #[(.int p1), (.int p2)] below meth c s₁ [] 0 0 := Stand.of_body Bd
  have e0 : s₁.heap = h0 := by rw [← hh, Bd.state]; rfl
  have N0 := Fr.nil n0
  suffices hR : ∀ P : State → Prop, (∀ s₂ o v L, s₂.status = .running → Ended s₂ below o → o = .returned v → Q_rm22 Z p1 p2 h0 n0 v s₂.heap L → FrameEnd s o s₂ L ({ frames := 0, cells := 0, slots := 0, locals := 0 } : Room).cells ({ frames := 0, cells := 0, slots := 0, locals := 0 } : Room).slots → P s₂) → Rch p.tables e below P (s₁.setTop (mkF m 0 #[.val (.int p1), .val (.int p2)] [])) by
    obtain ⟨s₂, h1, o, h2⟩ := hR (fun s₂ => ∃ o, s₂.status = .running ∧ Ended s₂ below o ∧ ∃ v L, o = .returned v ∧ Q_rm22 Z p1 p2 h0 n0 v s₂.heap L ∧ FrameEnd s o s₂ L ({ frames := 0, cells := 0, slots := 0, locals := 0 } : Room).cells ({ frames := 0, cells := 0, slots := 0, locals := 0 } : Room).slots) (fun s₂ o v L q1 q2 q3 q4 q5 => ⟨o, q1, q2, v, L, q3, q4, q5⟩)
    exact ⟨s₂, o, castTop (ef_rm22 m p1 p2) h1, h2⟩
  intro P hPd
  refine Rch.go (fun zt zk => XS.iloadN X0.here hx rfl (hb hby d22_0) rfl zk) ?_
  show Rch _ _ _ _ (s₁.setTop (mkF m 1 #[.val (.int p1), .val (.int p2)] [(.int p1)]))
  refine Rch.go (fun zt zk => XS.iloadN X0.here hx rfl (hb hby d22_1) rfl zk) ?_
  show Rch _ _ _ _ (s₁.setTop (mkF m 2 #[.val (.int p1), .val (.int p2)] [(.int p2), (.int p1)]))
  by_cases hc2_101 : p2 < p1
  · skip
    refine Rch.go (fun zt zk => XS.icmpYes X0.here hx rfl (pc0 := 2) (pc' := 9) rfl (hb hby d22_2) rfl (tlt hc2_101).2.2.1 (by decide) (by decide) zk) ?_
    show Rch _ _ _ _ (s₁.setTop (mkF m 9 #[.val (.int p1), .val (.int p2)] []))
    refine Rch.go (fun zt zk => XS.iloadN X0.here hx rfl (hb hby d22_9) rfl zk) ?_
    show Rch _ _ _ _ (s₁.setTop (mkF m 10 #[.val (.int p1), .val (.int p2)] [(.int p2)]))
    obtain ⟨fs, hr, hrun, hended, hW, hsame⟩ := X0.leave (v := some (.int p2)) (fun h => by rw [Bd.returns] at h; cases h)
    refine Rch.mk (retI X0 hx Bd.returns (hb hby d22_10) hr) (hPd _ _ _ _ hrun hended rfl ?_ ⟨⟨_, rfl⟩, hW, hsame.mono (by decide) (by decide)⟩)
    show Q_rm22 Z p1 p2 h0 n0 _ s₁.heap _
    have hF : fMin p1 p2 = p2 := ((if_pos hc2_101).trans rfl)
    rw [e0]
    exact ⟨by rw [hF], N0, rfl⟩
  · skip
    refine Rch.go (fun zt zk => XS.icmpNo X0.here hx rfl (hb hby d22_2) rfl (flt hc2_101).2.2.1 zk) ?_
    show Rch _ _ _ _ (s₁.setTop (mkF m 5 #[.val (.int p1), .val (.int p2)] []))
    refine Rch.go (fun zt zk => XS.iloadN X0.here hx rfl (hb hby d22_5) rfl zk) ?_
    show Rch _ _ _ _ (s₁.setTop (mkF m 6 #[.val (.int p1), .val (.int p2)] [(.int p1)]))
    refine Rch.go (fun zt zk => XS.goto X0.here hx rfl (pc0 := 6) (pc' := 10) rfl (hb hby d22_6) (by decide) (by decide) zk) ?_
    show Rch _ _ _ _ (s₁.setTop (mkF m 10 #[.val (.int p1), .val (.int p2)] [(.int p1)]))
    obtain ⟨fs, hr, hrun, hended, hW, hsame⟩ := X0.leave (v := some (.int p1)) (fun h => by rw [Bd.returns] at h; cases h)
    refine Rch.mk (retI X0 hx Bd.returns (hb hby d22_10) hr) (hPd _ _ _ _ hrun hended rfl ?_ ⟨⟨_, rfl⟩, hW, hsame.mono (by decide) (by decide)⟩)
    show Q_rm22 Z p1 p2 h0 n0 _ s₁.heap _
    have hF : fMin p1 p2 = p1 := ((if_neg hc2_101).trans rfl)
    rw [e0]
    exact ⟨by rw [hF], N0, rfl⟩
theorem ef_rm21 (m : MethodId) (p1 : Int32) (p2 : Int32) : entryFrame m #[(.int p1), (.int p2)] 2 = mkF m 0 #[.val (.int p1), .val (.int p2)] [] := by first | (simp [entryFrame, mkF, argsToLocals, Value.category]; done) | rfl
theorem pn_java_util_Arrays : plainName "java/util/Arrays" = true := by first | (simp [plainName, overriddenIn]; done) | decide +kernel
theorem d21_0 : decode jdk_65_method_131_code 0 = .ok (.iload_n 1, 1) := by decide +kernel
theorem d21_1 : decode jdk_65_method_131_code 1 = .ok (.iload_n 0, 1) := by decide +kernel
theorem d21_2 : decode jdk_65_method_131_code 2 = .ok (.if_icmp .ge 35, 3) := by decide +kernel
theorem d21_37 : decode jdk_65_method_131_code 37 = .ok (.return_, 1) := by decide +kernel
def Q_rm21 (Z : State) (p1 : Int32) (p2 : Int32) (h0 : Heap) (n0 : Nat) (v : Option Value) (h : Heap) (L : List Loc) : Prop := v = none ∧ Fr n0 L ∧ h = h0
set_option maxRecDepth 65536 in
set_option maxHeartbeats 40000000 in
theorem rm21 (l : Launch) (Z : State) (a0 : Array Value) (hw : ∀ d ∈ tables_1, d.before a0 Z = true) (ws : List Jvm.Cond) (p1 : Int32) (p2 : Int32) (h0 : Heap) (n0 : Nat) (Z0 : n0 ≤ h0.size) (hcl : ¬ (p2 < p1)) :
    MetFree l (⟨"java/util/Arrays", "checkLength", "(II)V"⟩ : MethodName) (head1 (Jvm.Cond.code (⟨"java/util/Arrays", "checkLength", "(II)V"⟩ : MethodName) jdk_65_method_131_code 2 none :: ws) ({ frames := 0, cells := 0, slots := 0, locals := 0 } : Room)) (fun a U => a = #[(.int p1), (.int p2)] ∧ Z.Warmed39 U.vm ∧ U.heap = h0) (fun _ _ _ _ _ => True) (fun _ U o U' => ∃ v L, o = .returned v ∧ Q_rm21 Z p1 p2 h0 n0 v U'.heap L ∧ FrameEnd U o U' L ({ frames := 0, cells := 0, slots := 0, locals := 0 } : Room).cells ({ frames := 0, cells := 0, slots := 0, locals := 0 } : Room).slots) := by
  refine MetFree.of_bodySF (plainFor_of_name pn_java_util_Arrays) hisR ?_
  intro p e s m args below meth c s₁ Bd hml0 hP hK
  obtain ⟨rfl, hZ, hh⟩ := hP
  have hx := Bd.exec
  have hby := Bd.bytes
  have hml : c.maxLocals = 2 := hml0
  have hown : s.vm.findClass "java/util/Arrays" = some m.cls := findClass_of_methodNamed Bd.named
  have hnm := (name_of_methodNamed Bd.named Bd.method).1
  have X0 : Stand p l e ({ frames := 0, cells := 0, slots := 0, locals := 0 } : Room) s m #[(.int p1), (.int p2)] below meth c s₁ [] 0 0 := Stand.of_body Bd
  have e0 : s₁.heap = h0 := by rw [← hh, Bd.state]; rfl
  have N0 := Fr.nil n0
  suffices hR : ∀ P : State → Prop, (∀ s₂ o v L, s₂.status = .running → Ended s₂ below o → o = .returned v → Q_rm21 Z p1 p2 h0 n0 v s₂.heap L → FrameEnd s o s₂ L ({ frames := 0, cells := 0, slots := 0, locals := 0 } : Room).cells ({ frames := 0, cells := 0, slots := 0, locals := 0 } : Room).slots → P s₂) → Rch p.tables e below P (s₁.setTop (mkF m 0 #[.val (.int p1), .val (.int p2)] [])) by
    obtain ⟨s₂, h1, o, h2⟩ := hR (fun s₂ => ∃ o, s₂.status = .running ∧ Ended s₂ below o ∧ ∃ v L, o = .returned v ∧ Q_rm21 Z p1 p2 h0 n0 v s₂.heap L ∧ FrameEnd s o s₂ L ({ frames := 0, cells := 0, slots := 0, locals := 0 } : Room).cells ({ frames := 0, cells := 0, slots := 0, locals := 0 } : Room).slots) (fun s₂ o v L q1 q2 q3 q4 q5 => ⟨o, q1, q2, v, L, q3, q4, q5⟩)
    exact ⟨s₂, o, castTop (ef_rm21 m p1 p2) h1, h2⟩
  intro P hPd
  refine Rch.go (fun zt zk => XS.iloadN X0.here hx rfl (hb hby d21_0) rfl zk) ?_
  show Rch _ _ _ _ (s₁.setTop (mkF m 1 #[.val (.int p1), .val (.int p2)] [(.int p2)]))
  refine Rch.go (fun zt zk => XS.iloadN X0.here hx rfl (hb hby d21_1) rfl zk) ?_
  show Rch _ _ _ _ (s₁.setTop (mkF m 2 #[.val (.int p1), .val (.int p2)] [(.int p1), (.int p2)]))
  refine Rch.go (fun zt zk => XS.icmpYes X0.here hx rfl (pc0 := 2) (pc' := 37) rfl (hb hby d21_2) rfl (flt (hcl : ¬ (p2 < p1))).2.1 (by decide) (by decide) zk) ?_
  show Rch _ _ _ _ (s₁.setTop (mkF m 37 #[.val (.int p1), .val (.int p2)] []))
  obtain ⟨fs, hr, hrun, hended, hW, hsame⟩ := X0.leave (v := none) (fun _ => rfl)
  refine Rch.mk (X0.returnOut hx Bd.returns (hb hby d21_37) hr) (hPd _ _ _ _ hrun hended rfl ?_ ⟨⟨_, rfl⟩, hW, hsame.mono (by decide) (by decide)⟩)
  show Q_rm21 Z p1 p2 h0 n0 _ s₁.heap _
  rw [e0]
  exact ⟨rfl, N0, rfl⟩
theorem own_z {nn : Int32} {bs : List Int32} (hn : Len nn bs) : 0 ≤ (0 : Int32).toInt ∧ (0 : Int32).toInt ≤ nn.toInt := by
  have e0 : (0 : Int32).toInt = 0 := by decide
  rw [e0]; have := hn.1; omega
theorem own_nneg {p : Int32} (h : 0 ≤ p.toInt) : ¬ (p < (0 : Int32)) := by
  have e0 : (0 : Int32).toInt = 0 := by decide
  rw [Int32.lt_iff_toInt_lt]; omega
theorem own_cap {p nn : Int32} {bs : List Int32} (hn : Len nn bs) (hp : 0 ≤ p.toInt ∧ p.toInt ≤ nn.toInt) : (p - (0 : Int32)).toNatClampNeg ≤ 8 := by
  rw [Int32.sub_zero]; have := hn.2; simp only [Int32.toNatClampNeg]; omega
theorem own_mn0 {p nn : Int32} (h : p.toInt ≤ nn.toInt) : fMin (nn - (0 : Int32)) (p - (0 : Int32)) = p := by
  rw [Int32.sub_zero, Int32.sub_zero]
  unfold fMin
  by_cases h1 : p < nn
  · rw [if_pos h1]
  · rw [if_neg h1]; rw [Int32.lt_iff_toInt_lt] at h1; exact Int32.toInt_inj.mp (by omega)
theorem own_cp {p nn : Int32} {bs : List Int32} (hn : Len nn bs) (hp : 0 ≤ p.toInt ∧ p.toInt ≤ nn.toInt) : (0 : Int32).toNatClampNeg + p.toNatClampNeg ≤ nn.toNatClampNeg ∧ (0 : Int32).toNatClampNeg + p.toNatClampNeg ≤ (p - (0 : Int32)).toNatClampNeg ∧ (0 : Int32).toNatClampNeg + p.toNatClampNeg ≤ 8 := by
  have e0 : (0 : Int32).toNatClampNeg = 0 := by decide
  rw [Int32.sub_zero, e0]; have := hn.2; simp only [Int32.toNatClampNeg]; omega
theorem ef_rm20 (m : MethodId) (t0 : Addr) (p3 : Int32) : entryFrame m #[(.ref t0), (.int (0 : Int32)), (.int p3)] 5 = mkF m 0 #[.val (.ref t0), .val (.int (0 : Int32)), .val (.int p3), .unset, .unset] [] := by first | (simp [entryFrame, mkF, argsToLocals, Value.category]; done) | rfl
theorem d20_0 : decode jdk_65_method_133_code 0 = .ok (.iload_n 1, 1) := by decide +kernel
theorem d20_1 : decode jdk_65_method_133_code 1 = .ok (.iload_n 2, 1) := by decide +kernel
theorem d20_2 : decode jdk_65_method_133_code 2 = .ok (.invokestatic 343, 3) := by decide +kernel
theorem pd__II_V : parseMethodDescriptor "(II)V" = some ⟨[.int, .int], none⟩ := by decide +kernel
theorem d20_5 : decode jdk_65_method_133_code 5 = .ok (.iload_n 2, 1) := by decide +kernel
theorem d20_6 : decode jdk_65_method_133_code 6 = .ok (.iload_n 1, 1) := by decide +kernel
theorem d20_7 : decode jdk_65_method_133_code 7 = .ok (.isub, 1) := by decide +kernel
theorem d20_8 : decode jdk_65_method_133_code 8 = .ok (.istore_n 3, 1) := by decide +kernel
theorem d20_9 : decode jdk_65_method_133_code 9 = .ok (.iload_n 3, 1) := by decide +kernel
theorem d20_10 : decode jdk_65_method_133_code 10 = .ok (.newarray .byte, 2) := by decide +kernel
theorem d20_12 : decode jdk_65_method_133_code 12 = .ok (.astore 4, 2) := by decide +kernel
theorem d20_14 : decode jdk_65_method_133_code 14 = .ok (.aload_n 0, 1) := by decide +kernel
theorem d20_15 : decode jdk_65_method_133_code 15 = .ok (.iload_n 1, 1) := by decide +kernel
theorem d20_16 : decode jdk_65_method_133_code 16 = .ok (.aload 4, 2) := by decide +kernel
theorem d20_18 : decode jdk_65_method_133_code 18 = .ok (.iconst 0, 1) := by decide +kernel
theorem d20_19 : decode jdk_65_method_133_code 19 = .ok (.aload_n 0, 1) := by decide +kernel
theorem d20_20 : decode jdk_65_method_133_code 20 = .ok (.arraylength, 1) := by decide +kernel
theorem d20_21 : decode jdk_65_method_133_code 21 = .ok (.iload_n 1, 1) := by decide +kernel
theorem d20_22 : decode jdk_65_method_133_code 22 = .ok (.isub, 1) := by decide +kernel
theorem d20_23 : decode jdk_65_method_133_code 23 = .ok (.iload_n 3, 1) := by decide +kernel
theorem d20_24 : decode jdk_65_method_133_code 24 = .ok (.invokestatic 304, 3) := by decide +kernel
theorem pd__II_I : parseMethodDescriptor "(II)I" = some ⟨[.int, .int], some .int⟩ := by decide +kernel
theorem d20_27 : decode jdk_65_method_133_code 27 = .ok (.invokestatic 150, 3) := by decide +kernel
theorem d20_30 : decode jdk_65_method_133_code 30 = .ok (.aload 4, 2) := by decide +kernel
theorem d20_32 : decode jdk_65_method_133_code 32 = .ok (.areturn, 1) := by decide +kernel
def Q_rm20 (Z : State) (t0 : Addr) (kt : ClassId) (nn : Int32) (bs : List Int32) (p3 : Int32) (h0 : Heap) (n0 : Nat) (v : Option Value) (h : Heap) (L : List Loc) : Prop := (∃ (b : Addr) (kb : ClassId) (vs : List Value), v = some (.ref b) ∧ n0 ≤ b ∧ h0.size ≤ b ∧ Arv Z h b kb .byte p3 vs (.int (0 : Int32))) ∧ Fr n0 L ∧ Keep h0 h []
set_option maxRecDepth 65536 in
set_option maxHeartbeats 40000000 in
theorem rm20 (l : Launch) (Z : State) (a0 : Array Value) (hw : ∀ d ∈ tables_1, d.before a0 Z = true) (ws : List Jvm.Cond) (t0 : Addr) (kt : ClassId) (nn : Int32) (bs : List Int32) (p3 : Int32) (h0 : Heap) (n0 : Nat) (Z0 : n0 ≤ h0.size) (P0 : Arv Z h0 t0 kt .byte nn (bs.map Value.int) (.int (0 : Int32))) (hn : Len nn bs) (hp : 0 ≤ p3.toInt ∧ p3.toInt ≤ nn.toInt) :
    MetFree l (⟨"java/util/Arrays", "copyOfRangeByte", "([BII)[B"⟩ : MethodName) (head1 (Jvm.Cond.code (⟨"java/util/Arrays", "copyOfRangeByte", "([BII)[B"⟩ : MethodName) jdk_65_method_133_code 5 (some (.array .byte)) :: ws) ({ frames := 1, cells := 1, slots := 8, locals := 40 } : Room)) (fun a U => a = #[(.ref t0), (.int (0 : Int32)), (.int p3)] ∧ Z.Warmed39 U.vm ∧ U.heap = h0) (fun _ _ _ _ _ => True) (fun _ U o U' => ∃ v L, o = .returned v ∧ Q_rm20 Z t0 kt nn bs p3 h0 n0 v U'.heap L ∧ FrameEnd U o U' L ({ frames := 1, cells := 1, slots := 8, locals := 40 } : Room).cells ({ frames := 1, cells := 1, slots := 8, locals := 40 } : Room).slots) := by
  refine MetFree.of_bodySF (plainFor_of_name pn_java_util_Arrays) hisR ?_
  intro p e s m args below meth c s₁ Bd hml0 hP hK
  obtain ⟨rfl, hZ, hh⟩ := hP
  have hx := Bd.exec
  have hby := Bd.bytes
  have hml : c.maxLocals = 5 := hml0
  have hown : s.vm.findClass "java/util/Arrays" = some m.cls := findClass_of_methodNamed Bd.named
  have hnm := (name_of_methodNamed Bd.named Bd.method).1
  have X0 : Stand p l e ({ frames := 1, cells := 1, slots := 8, locals := 40 } : Room) s m #[(.ref t0), (.int (0 : Int32)), (.int p3)] below meth c s₁ [] 0 0 := Stand.of_body Bd
  have e0 : s₁.heap = h0 := by rw [← hh, Bd.state]; rfl
  have N0 := Fr.nil n0
  suffices hR : ∀ P : State → Prop, (∀ s₂ o v L, s₂.status = .running → Ended s₂ below o → o = .returned v → Q_rm20 Z t0 kt nn bs p3 h0 n0 v s₂.heap L → FrameEnd s o s₂ L ({ frames := 1, cells := 1, slots := 8, locals := 40 } : Room).cells ({ frames := 1, cells := 1, slots := 8, locals := 40 } : Room).slots → P s₂) → Rch p.tables e below P (s₁.setTop (mkF m 0 #[.val (.ref t0), .val (.int (0 : Int32)), .val (.int p3), .unset, .unset] [])) by
    obtain ⟨s₂, h1, o, h2⟩ := hR (fun s₂ => ∃ o, s₂.status = .running ∧ Ended s₂ below o ∧ ∃ v L, o = .returned v ∧ Q_rm20 Z t0 kt nn bs p3 h0 n0 v s₂.heap L ∧ FrameEnd s o s₂ L ({ frames := 1, cells := 1, slots := 8, locals := 40 } : Room).cells ({ frames := 1, cells := 1, slots := 8, locals := 40 } : Room).slots) (fun s₂ o v L q1 q2 q3 q4 q5 => ⟨o, q1, q2, v, L, q3, q4, q5⟩)
    exact ⟨s₂, o, castTop (ef_rm20 m t0 p3) h1, h2⟩
  intro P hPd
  refine Rch.go (fun zt zk => XS.iloadN X0.here hx rfl (hb hby d20_0) rfl zk) ?_
  show Rch _ _ _ _ (s₁.setTop (mkF m 1 #[.val (.ref t0), .val (.int (0 : Int32)), .val (.int p3), .unset, .unset] [(.int (0 : Int32))]))
  refine Rch.go (fun zt zk => XS.iloadN X0.here hx rfl (hb hby d20_1) rfl zk) ?_
  show Rch _ _ _ _ (s₁.setTop (mkF m 2 #[.val (.ref t0), .val (.int (0 : Int32)), .val (.int p3), .unset, .unset] [(.int p3), (.int (0 : Int32))]))
  obtain ⟨_, _, ⟨T101, L101, k101, n101⟩, -, X101, ⟨Lc101, hQ101, l101, y101, z101⟩, st101⟩ := Jvm.LawKit.callS X0 hx (y := (⟨"java/util/Arrays", "checkLength", "(II)V"⟩ : MethodName)) hown (mvT hZ (ow102 hw)) (mvT hZ (ow103 hw)) (mvT hZ (ow97 hw)) (mvT hZ (ow104 hw)) (by decide) (backOf (W := 0) (rm21 l Z a0 hw [] ((0 : Int32)) (p3) h0 n0 Z0 (own_nneg hp.1)) hZ (ow104 hw) (ow97 hw) (by decide) (by decide)) (g := (mkF m 2 #[.val (.ref t0), .val (.int (0 : Int32)), .val (.int p3), .unset, .unset] [(.int p3), (.int (0 : Int32))])) rfl (by rw [hml]; rfl) (argsL := [(.int (0 : Int32)), (.int p3)]) (rest := []) (lenOf pd__II_V rfl) rfl (by show 2 * 0 + _ ≤ _; exact Nat.le_of_eq rfl) (hb hby d20_2) (fun _ _ => ⟨rfl, e0, (by decide : 0 + 0 ≤ _), (by decide : 0 + 0 ≤ _)⟩)
  dsimp only [Pt.U, Pt.locs, Pt.cells, Pt.slots] at X101 l101 y101 z101 st101 hQ101
  subst l101 y101 z101
  obtain ⟨rfl, N101q, eq101⟩ := hQ101
  have N101 := Fr.app N0 N101q
  refine Rch.go st101 ?_
  show Rch _ _ _ _ (T101.setTop (mkF m 5 #[.val (.ref t0), .val (.int (0 : Int32)), .val (.int p3), .unset, .unset] []))
  refine Rch.go (fun zt zk => XS.iloadN X101.here hx rfl (hb hby d20_5) rfl zk) ?_
  show Rch _ _ _ _ (T101.setTop (mkF m 6 #[.val (.ref t0), .val (.int (0 : Int32)), .val (.int p3), .unset, .unset] [(.int p3)]))
  refine Rch.go (fun zt zk => XS.iloadN X101.here hx rfl (hb hby d20_6) rfl zk) ?_
  show Rch _ _ _ _ (T101.setTop (mkF m 7 #[.val (.ref t0), .val (.int (0 : Int32)), .val (.int p3), .unset, .unset] [(.int (0 : Int32)), (.int p3)]))
  refine Rch.go (fun zt zk => XS.isub X101.here hx rfl (hb hby d20_7) rfl zk) ?_
  show Rch _ _ _ _ (T101.setTop (mkF m 8 #[.val (.ref t0), .val (.int (0 : Int32)), .val (.int p3), .unset, .unset] [(.int (p3 - (0 : Int32)))]))
  refine Rch.go (fun zt zk => XS.istoreN X101.here hx rfl (hb hby d20_8) rfl (l' := #[.val (.ref t0), .val (.int (0 : Int32)), .val (.int p3), .val (.int (p3 - (0 : Int32))), .unset]) rfl zk) ?_
  show Rch _ _ _ _ (T101.setTop (mkF m 9 #[.val (.ref t0), .val (.int (0 : Int32)), .val (.int p3), .val (.int (p3 - (0 : Int32))), .unset] []))
  refine Rch.go (fun zt zk => XS.iloadN X101.here hx rfl (hb hby d20_9) rfl zk) ?_
  show Rch _ _ _ _ (T101.setTop (mkF m 10 #[.val (.ref t0), .val (.int (0 : Int32)), .val (.int p3), .val (.int (p3 - (0 : Int32))), .unset] [(.int (p3 - (0 : Int32)))]))
  obtain ⟨T102, h102, k102, X102, e102, E102, A102, st102⟩ := newP X101 hx hZ (aty := .byte) (ow1 hw) eq101 (g := (mkF m 10 #[.val (.ref t0), .val (.int (0 : Int32)), .val (.int p3), .val (.int (p3 - (0 : Int32))), .unset] [(.int (p3 - (0 : Int32)))])) rfl (hb hby d20_10) rfl (by rw [Int32.sub_zero]; exact own_nneg hp.1) (cap := 8) (own_cap hn hp) (by decide) (by decide) (by decide)
  obtain ⟨b102, g102⟩ : ∃ z, z = h0.size := ⟨_, rfl⟩
  rw [← g102] at A102 st102
  refine Rch.go st102 ?_
  have ne_t0_b102 : t0 ≠ b102 := by have q := P0.lt; rw [g102]; exact Nat.ne_of_lt q
  have ge102 : n0 ≤ b102 := by rw [g102]; exact Z0
  have gk102 : h0.size ≤ b102 := by rw [g102]; exact (Keep.refl h0 []).1
  have K102 := (Keep.refl h0 []).ext E102
  have V102 : Arv Z h102 b102 k102 .byte (p3 - (0 : Int32)) [] (.int (0 : Int32)) := Arv.new A102 (by rw [Int32.sub_zero]; exact own_nneg hp.1)
  show Rch _ _ _ _ (T102.setTop (mkF m 12 #[.val (.ref t0), .val (.int (0 : Int32)), .val (.int p3), .val (.int (p3 - (0 : Int32))), .unset] [(.ref b102)]))
  refine Rch.go (fun zt zk => XS.astore X102.here hx rfl (hb hby d20_12) rfl rfl (l' := #[.val (.ref t0), .val (.int (0 : Int32)), .val (.int p3), .val (.int (p3 - (0 : Int32))), .val (.ref b102)]) rfl zk) ?_
  show Rch _ _ _ _ (T102.setTop (mkF m 14 #[.val (.ref t0), .val (.int (0 : Int32)), .val (.int p3), .val (.int (p3 - (0 : Int32))), .val (.ref b102)] []))
  refine Rch.go (fun zt zk => XS.aloadN X102.here hx rfl (hb hby d20_14) rfl rfl zk) ?_
  show Rch _ _ _ _ (T102.setTop (mkF m 15 #[.val (.ref t0), .val (.int (0 : Int32)), .val (.int p3), .val (.int (p3 - (0 : Int32))), .val (.ref b102)] [(.ref t0)]))
  refine Rch.go (fun zt zk => XS.iloadN X102.here hx rfl (hb hby d20_15) rfl zk) ?_
  show Rch _ _ _ _ (T102.setTop (mkF m 16 #[.val (.ref t0), .val (.int (0 : Int32)), .val (.int p3), .val (.int (p3 - (0 : Int32))), .val (.ref b102)] [(.int (0 : Int32)), (.ref t0)]))
  refine Rch.go (fun zt zk => XS.aload X102.here hx rfl (hb hby d20_16) rfl rfl zk) ?_
  show Rch _ _ _ _ (T102.setTop (mkF m 18 #[.val (.ref t0), .val (.int (0 : Int32)), .val (.int p3), .val (.int (p3 - (0 : Int32))), .val (.ref b102)] [(.ref b102), (.int (0 : Int32)), (.ref t0)]))
  refine Rch.go (fun zt zk => XS.iconst X102.here hx rfl (hb hby d20_18) zk) ?_
  show Rch _ _ _ _ (T102.setTop (mkF m 19 #[.val (.ref t0), .val (.int (0 : Int32)), .val (.int p3), .val (.int (p3 - (0 : Int32))), .val (.ref b102)] [(.int (0 : Int32)), (.ref b102), (.int (0 : Int32)), (.ref t0)]))
  refine Rch.go (fun zt zk => XS.aloadN X102.here hx rfl (hb hby d20_19) rfl rfl zk) ?_
  show Rch _ _ _ _ (T102.setTop (mkF m 20 #[.val (.ref t0), .val (.int (0 : Int32)), .val (.int p3), .val (.int (p3 - (0 : Int32))), .val (.ref b102)] [(.ref t0), (.int (0 : Int32)), (.ref b102), (.int (0 : Int32)), (.ref t0)]))
  have f103 := (P0.ext E102)
  obtain ⟨cl104, Ar104, q104, S104, M104, H104, G104⟩ := id f103
  refine Rch.go (X102.arraylength hx (by rw [e102]; exact Ar104.1) (State.isArrayOf_alike hZ.alike Ar104.2.1) (g := (mkF m 20 #[.val (.ref t0), .val (.int (0 : Int32)), .val (.int p3), .val (.int (p3 - (0 : Int32))), .val (.ref b102)] [(.ref t0), (.int (0 : Int32)), (.ref b102), (.int (0 : Int32)), (.ref t0)])) rfl rfl (hb hby d20_20)) ?_
  rw [len_of S104 M104]
  show Rch _ _ _ _ (T102.setTop (mkF m 21 #[.val (.ref t0), .val (.int (0 : Int32)), .val (.int p3), .val (.int (p3 - (0 : Int32))), .val (.ref b102)] [(.int nn), (.int (0 : Int32)), (.ref b102), (.int (0 : Int32)), (.ref t0)]))
  refine Rch.go (fun zt zk => XS.iloadN X102.here hx rfl (hb hby d20_21) rfl zk) ?_
  show Rch _ _ _ _ (T102.setTop (mkF m 22 #[.val (.ref t0), .val (.int (0 : Int32)), .val (.int p3), .val (.int (p3 - (0 : Int32))), .val (.ref b102)] [(.int (0 : Int32)), (.int nn), (.int (0 : Int32)), (.ref b102), (.int (0 : Int32)), (.ref t0)]))
  refine Rch.go (fun zt zk => XS.isub X102.here hx rfl (hb hby d20_22) rfl zk) ?_
  show Rch _ _ _ _ (T102.setTop (mkF m 23 #[.val (.ref t0), .val (.int (0 : Int32)), .val (.int p3), .val (.int (p3 - (0 : Int32))), .val (.ref b102)] [(.int (nn - (0 : Int32))), (.int (0 : Int32)), (.ref b102), (.int (0 : Int32)), (.ref t0)]))
  refine Rch.go (fun zt zk => XS.iloadN X102.here hx rfl (hb hby d20_23) rfl zk) ?_
  show Rch _ _ _ _ (T102.setTop (mkF m 24 #[.val (.ref t0), .val (.int (0 : Int32)), .val (.int p3), .val (.int (p3 - (0 : Int32))), .val (.ref b102)] [(.int (p3 - (0 : Int32))), (.int (nn - (0 : Int32))), (.int (0 : Int32)), (.ref b102), (.int (0 : Int32)), (.ref t0)]))
  have f106 := (Nat.le_trans Z0 E102.1)
  obtain ⟨_, _, ⟨T105, L105, k105, n105⟩, -, X105, ⟨Lc105, hQ105, l105, y105, z105⟩, st105⟩ := Jvm.LawKit.callS X102 hx (y := (⟨"java/lang/Math", "min", "(II)I"⟩ : MethodName)) hown (mvT hZ (ow105 hw)) (mvT hZ (ow106 hw)) (mvT hZ (ow107 hw)) (mvT hZ (ow108 hw)) (by decide) (backOf (W := 4) (rm22 l Z a0 hw [] (nn - (0 : Int32)) (p3 - (0 : Int32)) h102 n0 f106 ) hZ (ow108 hw) (ow107 hw) (by decide) (by decide)) (g := (mkF m 24 #[.val (.ref t0), .val (.int (0 : Int32)), .val (.int p3), .val (.int (p3 - (0 : Int32))), .val (.ref b102)] [(.int (p3 - (0 : Int32))), (.int (nn - (0 : Int32))), (.int (0 : Int32)), (.ref b102), (.int (0 : Int32)), (.ref t0)])) rfl (by rw [hml]; rfl) (argsL := [(.int (nn - (0 : Int32))), (.int (p3 - (0 : Int32)))]) (rest := [(.int (0 : Int32)), (.ref b102), (.int (0 : Int32)), (.ref t0)]) (lenOf pd__II_I rfl) rfl (by show 2 * 0 + _ ≤ _; exact Nat.le_of_eq rfl) (hb hby d20_24) (fun _ _ => ⟨rfl, e102, (by decide : 1 + 0 ≤ _), (by decide : 8 + 0 ≤ _)⟩)
  dsimp only [Pt.U, Pt.locs, Pt.cells, Pt.slots] at X105 l105 y105 z105 st105 hQ105
  subst l105 y105 z105
  obtain ⟨rfl, N105q, eq105⟩ := hQ105
  have N105 := Fr.app N101 N105q
  rw [own_mn0 hp.2] at st105
  refine Rch.go st105 ?_
  show Rch _ _ _ _ (T105.setTop (mkF m 27 #[.val (.ref t0), .val (.int (0 : Int32)), .val (.int p3), .val (.int (p3 - (0 : Int32))), .val (.ref b102)] [(.int p3), (.int (0 : Int32)), (.ref b102), (.int (0 : Int32)), (.ref t0)]))
  have VB107 := Arv.pad V102 (pad_rep [] (.int (0 : Int32)) 8)
  obtain ⟨T107, h107, L107, X107, e107, N107, K107, V107, st107⟩ := cpA X105 hx hZ hown (ow109 hw) (ow112 hw) (ow110 hw) (ow111 hw) eq105 f103 VB107 (Or.inl ⟨rfl, rfl⟩) (by decide) (by decide) (own_nneg hp.1) (own_cp hn hp).1 (own_cp hn hp).2.1 rfl (own_cp hn hp).2.2 N105 ge102 (g := (mkF m 27 #[.val (.ref t0), .val (.int (0 : Int32)), .val (.int p3), .val (.int (p3 - (0 : Int32))), .val (.ref b102)] [(.int p3), (.int (0 : Int32)), (.ref b102), (.int (0 : Int32)), (.ref t0)])) rfl (by rw [hml]; rfl) rfl (hb hby d20_27) (by decide) (W := 0) (by show 2 * 0 + _ ≤ _; exact Nat.le_of_eq rfl) (by decide)
  have KK107 := Keep.trans K102 K107 (allS (Or.inr gk102) all0)
  refine Rch.go st107 ?_
  show Rch _ _ _ _ (T107.setTop (mkF m 30 #[.val (.ref t0), .val (.int (0 : Int32)), .val (.int p3), .val (.int (p3 - (0 : Int32))), .val (.ref b102)] []))
  refine Rch.go (fun zt zk => XS.aload X107.here hx rfl (hb hby d20_30) rfl rfl zk) ?_
  show Rch _ _ _ _ (T107.setTop (mkF m 32 #[.val (.ref t0), .val (.int (0 : Int32)), .val (.int p3), .val (.int (p3 - (0 : Int32))), .val (.ref b102)] [(.ref b102)]))
  obtain ⟨fs, hr, hrun, hended, hW, hsame⟩ := X107.leave (v := some (.ref b102)) (fun h => by rw [Bd.returns] at h; cases h)
  have hend : Steps p.tables e below (T107.setTop (mkF m 32 #[.val (.ref t0), .val (.int (0 : Int32)), .val (.int p3), .val (.int (p3 - (0 : Int32))), .val (.ref b102)] [(.ref b102)])) (T107.setFrames fs) := by
    jvm_step X107.here [X107.here.top, hx, (hb hby d20_32), X107.method', Bd.returns, Value.isRef, FieldType.isReference]
    first | (intro acts; rw [hr _ acts rfl rfl rfl]) | rw [hr _ _ rfl rfl rfl]
    exact Steps.refl _
  refine Rch.mk (hend) (hPd _ _ _ _ hrun hended rfl ?_ ⟨⟨_, rfl⟩, hW, hsame.mono (by decide) (by decide)⟩)
  show Q_rm20 Z t0 kt nn bs p3 h0 n0 _ T107.heap _
  rw [e107]
  exact ⟨⟨b102, _, _, rfl, ge102, gk102, by rw [← Int32.sub_zero p3]; exact V107⟩, N107, KK107⟩
theorem ef_rm19 (m : MethodId) (t0 : Addr) (p3 : Int32) : entryFrame m #[(.ref t0), (.int (0 : Int32)), (.int p3)] 3 = mkF m 0 #[.val (.ref t0), .val (.int (0 : Int32)), .val (.int p3)] [] := by first | (simp [entryFrame, mkF, argsToLocals, Value.category]; done) | rfl
theorem d19_0 : decode jdk_65_method_132_code 0 = .ok (.iload_n 1, 1) := by decide +kernel
theorem d19_1 : decode jdk_65_method_132_code 1 = .ok (.ifCond .ne 9, 3) := by decide +kernel
theorem d19_4 : decode jdk_65_method_132_code 4 = .ok (.iload_n 2, 1) := by decide +kernel
theorem d19_5 : decode jdk_65_method_132_code 5 = .ok (.aload_n 0, 1) := by decide +kernel
theorem d19_6 : decode jdk_65_method_132_code 6 = .ok (.arraylength, 1) := by decide +kernel
theorem d19_7 : decode jdk_65_method_132_code 7 = .ok (.if_icmp .eq 10, 3) := by decide +kernel
theorem d19_17 : decode jdk_65_method_132_code 17 = .ok (.aload_n 0, 1) := by decide +kernel
theorem d19_18 : decode jdk_65_method_132_code 18 = .ok (.invokevirtual 310, 3) := by decide +kernel
theorem d19_21 : decode jdk_65_method_132_code 21 = .ok (.checkcast 311, 3) := by decide +kernel
theorem d19_24 : decode jdk_65_method_132_code 24 = .ok (.areturn, 1) := by decide +kernel
theorem d19_10 : decode jdk_65_method_132_code 10 = .ok (.aload_n 0, 1) := by decide +kernel
theorem d19_11 : decode jdk_65_method_132_code 11 = .ok (.iload_n 1, 1) := by decide +kernel
theorem d19_12 : decode jdk_65_method_132_code 12 = .ok (.iload_n 2, 1) := by decide +kernel
theorem d19_13 : decode jdk_65_method_132_code 13 = .ok (.invokestatic 339, 3) := by decide +kernel
theorem pd___BII__B : parseMethodDescriptor "([BII)[B" = some ⟨[(.array .byte), .int, .int], some (.array .byte)⟩ := by decide +kernel
theorem d19_16 : decode jdk_65_method_132_code 16 = .ok (.areturn, 1) := by decide +kernel
def Q_rm19 (Z : State) (t0 : Addr) (kt : ClassId) (nn : Int32) (bs : List Int32) (p3 : Int32) (h0 : Heap) (n0 : Nat) (v : Option Value) (h : Heap) (L : List Loc) : Prop := (∃ (b : Addr) (kb : ClassId) (vs : List Value), v = some (.ref b) ∧ n0 ≤ b ∧ h0.size ≤ b ∧ Arv Z h b kb .byte p3 vs (.int (0 : Int32))) ∧ Fr n0 L ∧ Keep h0 h []
set_option maxRecDepth 65536 in
set_option maxHeartbeats 40000000 in
theorem rm19 (l : Launch) (Z : State) (a0 : Array Value) (hw : ∀ d ∈ tables_1, d.before a0 Z = true) (ws : List Jvm.Cond) (t0 : Addr) (kt : ClassId) (nn : Int32) (bs : List Int32) (p3 : Int32) (h0 : Heap) (n0 : Nat) (Z0 : n0 ≤ h0.size) (P0 : Exa Z h0 t0 "[B") (P1 : Arv Z h0 t0 kt .byte nn (bs.map Value.int) (.int (0 : Int32))) (hn : Len nn bs) (hp : 0 ≤ p3.toInt ∧ p3.toInt ≤ nn.toInt) :
    MetFree l (⟨"java/util/Arrays", "copyOfRange", "([BII)[B"⟩ : MethodName) (head1 (Jvm.Cond.code (⟨"java/util/Arrays", "copyOfRange", "([BII)[B"⟩ : MethodName) jdk_65_method_132_code 3 (some (.array .byte)) :: ws) ({ frames := 2, cells := 1, slots := 8, locals := 56 } : Room)) (fun a U => a = #[(.ref t0), (.int (0 : Int32)), (.int p3)] ∧ Z.Warmed39 U.vm ∧ U.heap = h0) (fun _ _ _ _ _ => True) (fun _ U o U' => ∃ v L, o = .returned v ∧ Q_rm19 Z t0 kt nn bs p3 h0 n0 v U'.heap L ∧ FrameEnd U o U' L ({ frames := 2, cells := 1, slots := 8, locals := 56 } : Room).cells ({ frames := 2, cells := 1, slots := 8, locals := 56 } : Room).slots) := by
  refine MetFree.of_bodySF (plainFor_of_name pn_java_util_Arrays) hisR ?_
  intro p e s m args below meth c s₁ Bd hml0 hP hK
  obtain ⟨rfl, hZ, hh⟩ := hP
  have hx := Bd.exec
  have hby := Bd.bytes
  have hml : c.maxLocals = 3 := hml0
  have hown : s.vm.findClass "java/util/Arrays" = some m.cls := findClass_of_methodNamed Bd.named
  have hnm := (name_of_methodNamed Bd.named Bd.method).1
  have X0 : Stand p l e ({ frames := 2, cells := 1, slots := 8, locals := 56 } : Room) s m #[(.ref t0), (.int (0 : Int32)), (.int p3)] below meth c s₁ [] 0 0 := Stand.of_body Bd
  have e0 : s₁.heap = h0 := by rw [← hh, Bd.state]; rfl
  have N0 := Fr.nil n0
  suffices hR : ∀ P : State → Prop, (∀ s₂ o v L, s₂.status = .running → Ended s₂ below o → o = .returned v → Q_rm19 Z t0 kt nn bs p3 h0 n0 v s₂.heap L → FrameEnd s o s₂ L ({ frames := 2, cells := 1, slots := 8, locals := 56 } : Room).cells ({ frames := 2, cells := 1, slots := 8, locals := 56 } : Room).slots → P s₂) → Rch p.tables e below P (s₁.setTop (mkF m 0 #[.val (.ref t0), .val (.int (0 : Int32)), .val (.int p3)] [])) by
    obtain ⟨s₂, h1, o, h2⟩ := hR (fun s₂ => ∃ o, s₂.status = .running ∧ Ended s₂ below o ∧ ∃ v L, o = .returned v ∧ Q_rm19 Z t0 kt nn bs p3 h0 n0 v s₂.heap L ∧ FrameEnd s o s₂ L ({ frames := 2, cells := 1, slots := 8, locals := 56 } : Room).cells ({ frames := 2, cells := 1, slots := 8, locals := 56 } : Room).slots) (fun s₂ o v L q1 q2 q3 q4 q5 => ⟨o, q1, q2, v, L, q3, q4, q5⟩)
    exact ⟨s₂, o, castTop (ef_rm19 m t0 p3) h1, h2⟩
  intro P hPd
  refine Rch.go (fun zt zk => XS.iloadN X0.here hx rfl (hb hby d19_0) rfl zk) ?_
  show Rch _ _ _ _ (s₁.setTop (mkF m 1 #[.val (.ref t0), .val (.int (0 : Int32)), .val (.int p3)] [(.int (0 : Int32))]))
  refine Rch.go (fun zt zk => XS.ifNo X0.here hx rfl (hb hby d19_1) rfl ((if0 _ _).trans (teq (by decide : (0 : Int32) = (0 : Int32))).2) zk) ?_
  show Rch _ _ _ _ (s₁.setTop (mkF m 4 #[.val (.ref t0), .val (.int (0 : Int32)), .val (.int p3)] []))
  refine Rch.go (fun zt zk => XS.iloadN X0.here hx rfl (hb hby d19_4) rfl zk) ?_
  show Rch _ _ _ _ (s₁.setTop (mkF m 5 #[.val (.ref t0), .val (.int (0 : Int32)), .val (.int p3)] [(.int p3)]))
  refine Rch.go (fun zt zk => XS.aloadN X0.here hx rfl (hb hby d19_5) rfl rfl zk) ?_
  show Rch _ _ _ _ (s₁.setTop (mkF m 6 #[.val (.ref t0), .val (.int (0 : Int32)), .val (.int p3)] [(.ref t0), (.int p3)]))
  obtain ⟨cl101, Ar101, q101, S101, M101, H101, G101⟩ := id P1
  refine Rch.go (X0.arraylength hx (by rw [e0]; exact Ar101.1) (State.isArrayOf_alike hZ.alike Ar101.2.1) (g := (mkF m 6 #[.val (.ref t0), .val (.int (0 : Int32)), .val (.int p3)] [(.ref t0), (.int p3)])) rfl rfl (hb hby d19_6)) ?_
  rw [len_of S101 M101]
  show Rch _ _ _ _ (s₁.setTop (mkF m 7 #[.val (.ref t0), .val (.int (0 : Int32)), .val (.int p3)] [(.int nn), (.int p3)]))
  by_cases hc7_102 : p3 = nn
  · skip
    refine Rch.go (fun zt zk => XS.icmpYes X0.here hx rfl (pc0 := 7) (pc' := 17) rfl (hb hby d19_7) rfl (teq hc7_102).1 (by decide) (by decide) zk) ?_
    show Rch _ _ _ _ (s₁.setTop (mkF m 17 #[.val (.ref t0), .val (.int (0 : Int32)), .val (.int p3)] []))
    refine Rch.go (fun zt zk => XS.aloadN X0.here hx rfl (hb hby d19_17) rfl rfl zk) ?_
    show Rch _ _ _ _ (s₁.setTop (mkF m 18 #[.val (.ref t0), .val (.int (0 : Int32)), .val (.int p3)] [(.ref t0)]))
    obtain ⟨T103, h103, X103, e103, E103, A103, EA103, st103⟩ := cloneH X0 hx hZ hown (ow127 hw) (ow128 hw) (ow132 hw) (ow130 hw) (ow131 hw) (ow133 hw) e0 (Arv.arh P1) P0 (g := (mkF m 18 #[.val (.ref t0), .val (.int (0 : Int32)), .val (.int p3)] [(.ref t0)])) rfl (by rw [hml]; rfl) rfl (hb hby d19_18) (by decide) (W := 0) (cap := 8) (by show 2 * 0 + _ ≤ _; exact Nat.le_of_eq rfl) (by decide) (by have := hn.2; simp only [Int32.toNatClampNeg]; omega) (by decide) (by decide)
    obtain ⟨b103, g103⟩ : ∃ z, z = h0.size := ⟨_, rfl⟩
    rw [← g103] at A103 EA103 st103
    refine Rch.go st103 ?_
    have ne_t0_b103 : t0 ≠ b103 := by have q := P0.lt; rw [g103]; exact Nat.ne_of_lt q
    have ge103 : n0 ≤ b103 := by rw [g103]; exact Z0
    have gk103 : h0.size ≤ b103 := by rw [g103]; exact (Keep.refl h0 []).1
    have K103 := (Keep.refl h0 []).ext E103
    have V103 : Arv Z h103 b103 kt .byte nn (bs.map Value.int) (.int (0 : Int32)) := A103
    show Rch _ _ _ _ (T103.setTop (mkF m 21 #[.val (.ref t0), .val (.int (0 : Int32)), .val (.int p3)] [(.ref b103)]))
    obtain ⟨T104, X104, e104, st104⟩ := castY X103 hx hZ hown (ow134 hw) e103 (Ins.self EA103) (g := (mkF m 21 #[.val (.ref t0), .val (.int (0 : Int32)), .val (.int p3)] [(.ref b103)])) rfl rfl (hb hby d19_21)
    refine Rch.go st104 ?_
    show Rch _ _ _ _ (T104.setTop (mkF m 24 #[.val (.ref t0), .val (.int (0 : Int32)), .val (.int p3)] [(.ref b103)]))
    obtain ⟨fs, hr, hrun, hended, hW, hsame⟩ := X104.leave (v := some (.ref b103)) (fun h => by rw [Bd.returns] at h; cases h)
    have hend : Steps p.tables e below (T104.setTop (mkF m 24 #[.val (.ref t0), .val (.int (0 : Int32)), .val (.int p3)] [(.ref b103)])) (T104.setFrames fs) := by
      jvm_step X104.here [X104.here.top, hx, (hb hby d19_24), X104.method', Bd.returns, Value.isRef, FieldType.isReference]
      first | (intro acts; rw [hr _ acts rfl rfl rfl]) | rw [hr _ _ rfl rfl rfl]
      exact Steps.refl _
    refine Rch.mk (hend) (hPd _ _ _ _ hrun hended rfl ?_ ⟨⟨_, rfl⟩, hW, hsame.mono (by decide) (by decide)⟩)
    show Q_rm19 Z t0 kt nn bs p3 h0 n0 _ T104.heap _
    rw [e104]
    exact ⟨⟨b103, _, _, rfl, ge103, gk103, by rw [hc7_102]; exact V103⟩, N0, K103⟩
  · skip
    refine Rch.go (fun zt zk => XS.icmpNo X0.here hx rfl (hb hby d19_7) rfl (feq hc7_102).1 zk) ?_
    show Rch _ _ _ _ (s₁.setTop (mkF m 10 #[.val (.ref t0), .val (.int (0 : Int32)), .val (.int p3)] []))
    refine Rch.go (fun zt zk => XS.aloadN X0.here hx rfl (hb hby d19_10) rfl rfl zk) ?_
    show Rch _ _ _ _ (s₁.setTop (mkF m 11 #[.val (.ref t0), .val (.int (0 : Int32)), .val (.int p3)] [(.ref t0)]))
    refine Rch.go (fun zt zk => XS.iloadN X0.here hx rfl (hb hby d19_11) rfl zk) ?_
    show Rch _ _ _ _ (s₁.setTop (mkF m 12 #[.val (.ref t0), .val (.int (0 : Int32)), .val (.int p3)] [(.int (0 : Int32)), (.ref t0)]))
    refine Rch.go (fun zt zk => XS.iloadN X0.here hx rfl (hb hby d19_12) rfl zk) ?_
    show Rch _ _ _ _ (s₁.setTop (mkF m 13 #[.val (.ref t0), .val (.int (0 : Int32)), .val (.int p3)] [(.int p3), (.int (0 : Int32)), (.ref t0)]))
    obtain ⟨_, _, ⟨T105, L105, k105, n105⟩, -, X105, ⟨Lc105, hQ105, l105, y105, z105⟩, st105⟩ := Jvm.LawKit.callS X0 hx (y := (⟨"java/util/Arrays", "copyOfRangeByte", "([BII)[B"⟩ : MethodName)) hown (mvT hZ (ow99 hw)) (mvT hZ (ow100 hw)) (mvT hZ (ow97 hw)) (mvT hZ (ow101 hw)) (by decide) (backOf (W := 0) (rm20 l Z a0 hw [] (t0) (kt) (nn) (bs) (p3) h0 n0 Z0 (P1) (hn) (hp)) hZ (ow101 hw) (ow97 hw) (by decide) (by decide)) (g := (mkF m 13 #[.val (.ref t0), .val (.int (0 : Int32)), .val (.int p3)] [(.int p3), (.int (0 : Int32)), (.ref t0)])) rfl (by rw [hml]; rfl) (argsL := [(.ref t0), (.int (0 : Int32)), (.int p3)]) (rest := []) (lenOf pd___BII__B rfl) rfl (by show 2 * 0 + _ ≤ _; exact Nat.le_of_eq rfl) (hb hby d19_13) (fun _ _ => ⟨rfl, e0, (by decide : 0 + 1 ≤ _), (by decide : 0 + 8 ≤ _)⟩)
    dsimp only [Pt.U, Pt.locs, Pt.cells, Pt.slots] at X105 l105 y105 z105 st105 hQ105
    subst l105 y105 z105
    obtain ⟨⟨b105, kb105, vs105, rfl, gb105, gh105, V105⟩, N105q, K105q⟩ := hQ105
    have N105 := Fr.app N0 N105q
    have ne_t0_b105 : t0 ≠ b105 := Nat.ne_of_lt (Nat.lt_of_lt_of_le P0.lt gh105)
    have gk105 : h0.size ≤ b105 := Nat.le_trans (Keep.refl h0 []).1 gh105
    have K105 := Keep.trans (Keep.refl h0 []) K105q all0
    refine Rch.go st105 ?_
    show Rch _ _ _ _ (T105.setTop (mkF m 16 #[.val (.ref t0), .val (.int (0 : Int32)), .val (.int p3)] [(.ref b105)]))
    obtain ⟨fs, hr, hrun, hended, hW, hsame⟩ := X105.leave (v := some (.ref b105)) (fun h => by rw [Bd.returns] at h; cases h)
    have hend : Steps p.tables e below (T105.setTop (mkF m 16 #[.val (.ref t0), .val (.int (0 : Int32)), .val (.int p3)] [(.ref b105)])) (T105.setFrames fs) := by
      jvm_step X105.here [X105.here.top, hx, (hb hby d19_16), X105.method', Bd.returns, Value.isRef, FieldType.isReference]
      first | (intro acts; rw [hr _ acts rfl rfl rfl]) | rw [hr _ _ rfl rfl rfl]
      exact Steps.refl _
    refine Rch.mk (hend) (hPd _ _ _ _ hrun hended rfl ?_ ⟨⟨_, rfl⟩, hW, hsame.mono (by decide) (by decide)⟩)
    show Q_rm19 Z t0 kt nn bs p3 h0 n0 _ T105.heap _
    exact ⟨⟨b105, _, _, rfl, gb105, gk105, V105⟩, N105, K105⟩
theorem own_za (p : Int32) : (0 : Int32) + p = p := Int32.zero_add p
theorem ef_rm18 (m : MethodId) (t0 : Addr) (p3 : Int32) : entryFrame m #[(.ref t0), (.int (0 : Int32)), (.int p3)] 5 = mkF m 0 #[.val (.ref t0), .val (.int (0 : Int32)), .val (.int p3), .unset, .unset] [] := by first | (simp [entryFrame, mkF, argsToLocals, Value.category]; done) | rfl
theorem pn_java_lang_StringCoding : plainName "java/lang/StringCoding" = true := by first | (simp [plainName, overriddenIn]; done) | decide +kernel
theorem d18_0 : decode jdk_123_method_3_code 0 = .ok (.iload_n 1, 1) := by decide +kernel
theorem d18_1 : decode jdk_123_method_3_code 1 = .ok (.iload_n 2, 1) := by decide +kernel
theorem d18_2 : decode jdk_123_method_3_code 2 = .ok (.iadd, 1) := by decide +kernel
theorem d18_3 : decode jdk_123_method_3_code 3 = .ok (.istore_n 3, 1) := by decide +kernel
theorem d18_4 : decode jdk_123_method_3_code 4 = .ok (.iload_n 1, 1) := by decide +kernel
theorem d18_5 : decode jdk_123_method_3_code 5 = .ok (.istore 4, 2) := by decide +kernel
theorem d18_7 : decode jdk_123_method_3_code 7 = .ok (.iload 4, 2) := by decide +kernel
theorem d18_9 : decode jdk_123_method_3_code 9 = .ok (.iload_n 3, 1) := by decide +kernel
theorem d18_10 : decode jdk_123_method_3_code 10 = .ok (.if_icmp .ge 21, 3) := by decide +kernel
theorem d18_31 : decode jdk_123_method_3_code 31 = .ok (.iload_n 2, 1) := by decide +kernel
theorem d18_32 : decode jdk_123_method_3_code 32 = .ok (.ireturn, 1) := by decide +kernel
theorem d18_13 : decode jdk_123_method_3_code 13 = .ok (.aload_n 0, 1) := by decide +kernel
theorem d18_14 : decode jdk_123_method_3_code 14 = .ok (.iload 4, 2) := by decide +kernel
theorem d18_16 : decode jdk_123_method_3_code 16 = .ok (.baload, 1) := by decide +kernel
theorem d18_17 : decode jdk_123_method_3_code 17 = .ok (.ifCond .ge 8, 3) := by decide +kernel
theorem d18_25 : decode jdk_123_method_3_code 25 = .ok (.iinc 4 1, 3) := by decide +kernel
theorem d18_28 : decode jdk_123_method_3_code 28 = .ok (.goto (-21), 3) := by decide +kernel
def Q_rm18 (Z : State) (t0 : Addr) (kt : ClassId) (nn : Int32) (bs : List Int32) (p3 : Int32) (h0 : Heap) (n0 : Nat) (v : Option Value) (h : Heap) (L : List Loc) : Prop := v = some (.int p3) ∧ Fr n0 L ∧ h = h0
set_option maxRecDepth 65536 in
set_option maxHeartbeats 40000000 in
theorem rm18 (l : Launch) (Z : State) (a0 : Array Value) (hw : ∀ d ∈ tables_1, d.before a0 Z = true) (ws : List Jvm.Cond) (t0 : Addr) (kt : ClassId) (nn : Int32) (bs : List Int32) (p3 : Int32) (h0 : Heap) (n0 : Nat) (Z0 : n0 ≤ h0.size) (P0 : Arv Z h0 t0 kt .byte nn (bs.map Value.int) (.int (0 : Int32))) (hn : Len nn bs) (hp : 0 ≤ p3.toInt ∧ p3.toInt ≤ nn.toInt) (hpos : ∀ i : Int32, 0 ≤ i.toInt → i.toInt < p3.toInt → ¬ (bAt bs i < (0 : Int32))) :
    MetFree l (⟨"java/lang/StringCoding", "countPositives", "([BII)I"⟩ : MethodName) (head1 (Jvm.Cond.code (⟨"java/lang/StringCoding", "countPositives", "([BII)I"⟩ : MethodName) jdk_123_method_3_code 5 (some .int) :: ws) ({ frames := 0, cells := 0, slots := 0, locals := 0 } : Room)) (fun a U => a = #[(.ref t0), (.int (0 : Int32)), (.int p3)] ∧ Z.Warmed39 U.vm ∧ U.heap = h0) (fun _ _ _ _ _ => True) (fun _ U o U' => ∃ v L, o = .returned v ∧ Q_rm18 Z t0 kt nn bs p3 h0 n0 v U'.heap L ∧ FrameEnd U o U' L ({ frames := 0, cells := 0, slots := 0, locals := 0 } : Room).cells ({ frames := 0, cells := 0, slots := 0, locals := 0 } : Room).slots) := by
  refine MetFree.of_bodySF (plainFor_of_name pn_java_lang_StringCoding) hisR ?_
  intro p e s m args below meth c s₁ Bd hml0 hP hK
  obtain ⟨rfl, hZ, hh⟩ := hP
  have hx := Bd.exec
  have hby := Bd.bytes
  have hml : c.maxLocals = 5 := hml0
  have hown : s.vm.findClass "java/lang/StringCoding" = some m.cls := findClass_of_methodNamed Bd.named
  have hnm := (name_of_methodNamed Bd.named Bd.method).1
  have X0 : Stand p l e ({ frames := 0, cells := 0, slots := 0, locals := 0 } : Room) s m #[(.ref t0), (.int (0 : Int32)), (.int p3)] below meth c s₁ [] 0 0 := Stand.of_body Bd
  have e0 : s₁.heap = h0 := by rw [← hh, Bd.state]; rfl
  have N0 := Fr.nil n0
  suffices hR : ∀ P : State → Prop, (∀ s₂ o v L, s₂.status = .running → Ended s₂ below o → o = .returned v → Q_rm18 Z t0 kt nn bs p3 h0 n0 v s₂.heap L → FrameEnd s o s₂ L ({ frames := 0, cells := 0, slots := 0, locals := 0 } : Room).cells ({ frames := 0, cells := 0, slots := 0, locals := 0 } : Room).slots → P s₂) → Rch p.tables e below P (s₁.setTop (mkF m 0 #[.val (.ref t0), .val (.int (0 : Int32)), .val (.int p3), .unset, .unset] [])) by
    obtain ⟨s₂, h1, o, h2⟩ := hR (fun s₂ => ∃ o, s₂.status = .running ∧ Ended s₂ below o ∧ ∃ v L, o = .returned v ∧ Q_rm18 Z t0 kt nn bs p3 h0 n0 v s₂.heap L ∧ FrameEnd s o s₂ L ({ frames := 0, cells := 0, slots := 0, locals := 0 } : Room).cells ({ frames := 0, cells := 0, slots := 0, locals := 0 } : Room).slots) (fun s₂ o v L q1 q2 q3 q4 q5 => ⟨o, q1, q2, v, L, q3, q4, q5⟩)
    exact ⟨s₂, o, castTop (ef_rm18 m t0 p3) h1, h2⟩
  intro P hPd
  refine Rch.go (fun zt zk => XS.iloadN X0.here hx rfl (hb hby d18_0) rfl zk) ?_
  show Rch _ _ _ _ (s₁.setTop (mkF m 1 #[.val (.ref t0), .val (.int (0 : Int32)), .val (.int p3), .unset, .unset] [(.int (0 : Int32))]))
  refine Rch.go (fun zt zk => XS.iloadN X0.here hx rfl (hb hby d18_1) rfl zk) ?_
  show Rch _ _ _ _ (s₁.setTop (mkF m 2 #[.val (.ref t0), .val (.int (0 : Int32)), .val (.int p3), .unset, .unset] [(.int p3), (.int (0 : Int32))]))
  refine Rch.go (fun zt zk => XS.iadd X0.here hx rfl (hb hby d18_2) rfl zk) ?_
  show Rch _ _ _ _ (s₁.setTop (mkF m 3 #[.val (.ref t0), .val (.int (0 : Int32)), .val (.int p3), .unset, .unset] [(.int ((0 : Int32) + p3))]))
  refine Rch.go (fun zt zk => XS.istoreN X0.here hx rfl (hb hby d18_3) rfl (l' := #[.val (.ref t0), .val (.int (0 : Int32)), .val (.int p3), .val (.int ((0 : Int32) + p3)), .unset]) rfl zk) ?_
  show Rch _ _ _ _ (s₁.setTop (mkF m 4 #[.val (.ref t0), .val (.int (0 : Int32)), .val (.int p3), .val (.int ((0 : Int32) + p3)), .unset] []))
  refine Rch.go (fun zt zk => XS.iloadN X0.here hx rfl (hb hby d18_4) rfl zk) ?_
  show Rch _ _ _ _ (s₁.setTop (mkF m 5 #[.val (.ref t0), .val (.int (0 : Int32)), .val (.int p3), .val (.int ((0 : Int32) + p3)), .unset] [(.int (0 : Int32))]))
  refine Rch.go (fun zt zk => XS.istore X0.here hx rfl (hb hby d18_5) rfl (l' := #[.val (.ref t0), .val (.int (0 : Int32)), .val (.int p3), .val (.int ((0 : Int32) + p3)), .val (.int (0 : Int32))]) rfl zk) ?_
  show Rch _ _ _ _ (s₁.setTop (mkF m 7 #[.val (.ref t0), .val (.int (0 : Int32)), .val (.int p3), .val (.int ((0 : Int32) + p3)), .val (.int (0 : Int32))] []))
  have loop : ∀ (k : Nat) (i : Int32), p3.toInt - i.toInt ≤ (k : Int) → 0 ≤ i.toInt → i.toInt ≤ p3.toInt → Rch p.tables e below P (s₁.setTop (mkF m 7 #[.val (.ref t0), .val (.int (0 : Int32)), .val (.int p3), .val (.int ((0 : Int32) + p3)), .val (.int i)] [])) := by
    intro k
    induction k with
    | zero =>
      intro i hk hi0 hi1
      have hlt : ¬ (i < ((0 : Int32) + p3)) := by rw [own_za, Int32.lt_iff_toInt_lt]; omega
      refine Rch.go (fun zt zk => XS.iload X0.here hx rfl (hb hby d18_7) rfl zk) ?_
      show Rch _ _ _ _ (s₁.setTop (mkF m 9 #[.val (.ref t0), .val (.int (0 : Int32)), .val (.int p3), .val (.int ((0 : Int32) + p3)), .val (.int i)] [(.int i)]))
      refine Rch.go (fun zt zk => XS.iloadN X0.here hx rfl (hb hby d18_9) rfl zk) ?_
      show Rch _ _ _ _ (s₁.setTop (mkF m 10 #[.val (.ref t0), .val (.int (0 : Int32)), .val (.int p3), .val (.int ((0 : Int32) + p3)), .val (.int i)] [(.int ((0 : Int32) + p3)), (.int i)]))
      refine Rch.go (fun zt zk => XS.icmpYes X0.here hx rfl (pc0 := 10) (pc' := 31) rfl (hb hby d18_10) rfl (flt hlt).2.1 (by decide) (by decide) zk) ?_
      show Rch _ _ _ _ (s₁.setTop (mkF m 31 #[.val (.ref t0), .val (.int (0 : Int32)), .val (.int p3), .val (.int ((0 : Int32) + p3)), .val (.int i)] []))
      refine Rch.go (fun zt zk => XS.iloadN X0.here hx rfl (hb hby d18_31) rfl zk) ?_
      show Rch _ _ _ _ (s₁.setTop (mkF m 32 #[.val (.ref t0), .val (.int (0 : Int32)), .val (.int p3), .val (.int ((0 : Int32) + p3)), .val (.int i)] [(.int p3)]))
      obtain ⟨fs, hr, hrun, hended, hW, hsame⟩ := X0.leave (v := some (.int p3)) (fun h => by rw [Bd.returns] at h; cases h)
      refine Rch.mk (retI X0 hx Bd.returns (hb hby d18_32) hr) (hPd _ _ _ _ hrun hended rfl ?_ ⟨⟨_, rfl⟩, hW, hsame.mono (by decide) (by decide)⟩)
      show Q_rm18 Z t0 kt nn bs p3 h0 n0 _ s₁.heap _
      rw [e0]
      exact ⟨rfl, N0, rfl⟩
    | succ k ih =>
      intro i hk hi0 hi1
      refine Rch.go (fun zt zk => XS.iload X0.here hx rfl (hb hby d18_7) rfl zk) ?_
      show Rch _ _ _ _ (s₁.setTop (mkF m 9 #[.val (.ref t0), .val (.int (0 : Int32)), .val (.int p3), .val (.int ((0 : Int32) + p3)), .val (.int i)] [(.int i)]))
      refine Rch.go (fun zt zk => XS.iloadN X0.here hx rfl (hb hby d18_9) rfl zk) ?_
      show Rch _ _ _ _ (s₁.setTop (mkF m 10 #[.val (.ref t0), .val (.int (0 : Int32)), .val (.int p3), .val (.int ((0 : Int32) + p3)), .val (.int i)] [(.int ((0 : Int32) + p3)), (.int i)]))
      by_cases hc10_101 : i < ((0 : Int32) + p3)
      · skip
        refine Rch.go (fun zt zk => XS.icmpNo X0.here hx rfl (hb hby d18_10) rfl (tlt hc10_101).2.1 zk) ?_
        show Rch _ _ _ _ (s₁.setTop (mkF m 13 #[.val (.ref t0), .val (.int (0 : Int32)), .val (.int p3), .val (.int ((0 : Int32) + p3)), .val (.int i)] []))
        have hlt2 : i.toInt < p3.toInt := by have q := hc10_101; rw [own_za, Int32.lt_iff_toInt_lt] at q; exact q
        have hin : i < nn := by rw [Int32.lt_iff_toInt_lt]; omega
        refine Rch.go (fun zt zk => XS.aloadN X0.here hx rfl (hb hby d18_13) rfl rfl zk) ?_
        show Rch _ _ _ _ (s₁.setTop (mkF m 14 #[.val (.ref t0), .val (.int (0 : Int32)), .val (.int p3), .val (.int ((0 : Int32) + p3)), .val (.int i)] [(.ref t0)]))
        refine Rch.go (fun zt zk => XS.iload X0.here hx rfl (hb hby d18_14) rfl zk) ?_
        show Rch _ _ _ _ (s₁.setTop (mkF m 16 #[.val (.ref t0), .val (.int (0 : Int32)), .val (.int p3), .val (.int ((0 : Int32) + p3)), .val (.int i)] [(.int i), (.ref t0)]))
        obtain ⟨cl102, Ar102, q102, S102, M102, H102, G102⟩ := id P0
        have hin102 := inb_of (j := i) S102 (own_inb hi0 hin)
        refine Rch.go (X0.baloadBytes hx (j := i) (v := (.int (bAt bs i))) (by rw [e0]; exact Ar102.1) (State.isArrayOf_alike hZ.alike Ar102.2.1) Ar102.2.2 hin102 (Has.at H102 hin102 (own_bAt bs _)) (g := (mkF m 16 #[.val (.ref t0), .val (.int (0 : Int32)), .val (.int p3), .val (.int ((0 : Int32) + p3)), .val (.int i)] [(.int i), (.ref t0)])) rfl rfl (hb hby d18_16)) ?_
        show Rch _ _ _ _ (s₁.setTop (mkF m 17 #[.val (.ref t0), .val (.int (0 : Int32)), .val (.int p3), .val (.int ((0 : Int32) + p3)), .val (.int i)] [(.int (bAt bs i))]))
        refine Rch.go (fun zt zk => XS.ifYes X0.here hx rfl (pc0 := 17) (pc' := 25) rfl (hb hby d18_17) rfl ((if0 _ _).trans (flt (hpos i hi0 hlt2 : ¬ ((bAt bs i) < (0 : Int32)))).2.1) (by decide) (by decide) zk) ?_
        show Rch _ _ _ _ (s₁.setTop (mkF m 25 #[.val (.ref t0), .val (.int (0 : Int32)), .val (.int p3), .val (.int ((0 : Int32) + p3)), .val (.int i)] []))
        refine Rch.go (fun zt zk => XS.iinc X0.here hx rfl (hb hby d18_25) rfl (l' := #[.val (.ref t0), .val (.int (0 : Int32)), .val (.int p3), .val (.int ((0 : Int32) + p3)), .val (.int (i + (1 : Int32)))]) rfl zk) ?_
        show Rch _ _ _ _ (s₁.setTop (mkF m 28 #[.val (.ref t0), .val (.int (0 : Int32)), .val (.int p3), .val (.int ((0 : Int32) + p3)), .val (.int (i + (1 : Int32)))] []))
        refine Rch.go (fun zt zk => XS.goto X0.here hx rfl (pc0 := 28) (pc' := 7) rfl (hb hby d18_28) (by decide) (by decide) zk) ?_
        show Rch _ _ _ _ (s₁.setTop (mkF m 7 #[.val (.ref t0), .val (.int (0 : Int32)), .val (.int p3), .val (.int ((0 : Int32) + p3)), .val (.int (i + (1 : Int32)))] []))
        have hu := own_up hn hi0 hin
        exact ih _ (by omega) (by omega) (by omega)
      · skip
        refine Rch.go (fun zt zk => XS.icmpYes X0.here hx rfl (pc0 := 10) (pc' := 31) rfl (hb hby d18_10) rfl (flt hc10_101).2.1 (by decide) (by decide) zk) ?_
        show Rch _ _ _ _ (s₁.setTop (mkF m 31 #[.val (.ref t0), .val (.int (0 : Int32)), .val (.int p3), .val (.int ((0 : Int32) + p3)), .val (.int i)] []))
        refine Rch.go (fun zt zk => XS.iloadN X0.here hx rfl (hb hby d18_31) rfl zk) ?_
        show Rch _ _ _ _ (s₁.setTop (mkF m 32 #[.val (.ref t0), .val (.int (0 : Int32)), .val (.int p3), .val (.int ((0 : Int32) + p3)), .val (.int i)] [(.int p3)]))
        obtain ⟨fs, hr, hrun, hended, hW, hsame⟩ := X0.leave (v := some (.int p3)) (fun h => by rw [Bd.returns] at h; cases h)
        refine Rch.mk (retI X0 hx Bd.returns (hb hby d18_32) hr) (hPd _ _ _ _ hrun hended rfl ?_ ⟨⟨_, rfl⟩, hW, hsame.mono (by decide) (by decide)⟩)
        show Q_rm18 Z t0 kt nn bs p3 h0 n0 _ s₁.heap _
        rw [e0]
        exact ⟨rfl, N0, rfl⟩
  exact loop 8 _ (by have := hn.2; have e0 : (0 : Int32).toInt = 0 := (by decide); omega) (by decide) hp.1
theorem ef_rm17 (m : MethodId) (t0 : Addr) (p3 : Int32) : entryFrame m #[(.ref t0), (.int (0 : Int32)), (.int p3)] 3 = mkF m 0 #[.val (.ref t0), .val (.int (0 : Int32)), .val (.int p3)] [] := by first | (simp [entryFrame, mkF, argsToLocals, Value.category]; done) | rfl
theorem d17_0 : decode jdk_123_method_2_code 0 = .ok (.aload_n 0, 1) := by decide +kernel
theorem d17_1 : decode jdk_123_method_2_code 1 = .ok (.iload_n 1, 1) := by decide +kernel
theorem d17_2 : decode jdk_123_method_2_code 2 = .ok (.iload_n 2, 1) := by decide +kernel
theorem d17_3 : decode jdk_123_method_2_code 3 = .ok (.invokestatic 7, 3) := by decide +kernel
theorem pd___BII_I : parseMethodDescriptor "([BII)I" = some ⟨[(.array .byte), .int, .int], some .int⟩ := by decide +kernel
theorem d17_6 : decode jdk_123_method_2_code 6 = .ok (.iload_n 2, 1) := by decide +kernel
theorem d17_7 : decode jdk_123_method_2_code 7 = .ok (.if_icmp .eq 7, 3) := by decide +kernel
theorem d17_14 : decode jdk_123_method_2_code 14 = .ok (.iconst 0, 1) := by decide +kernel
theorem d17_15 : decode jdk_123_method_2_code 15 = .ok (.ireturn, 1) := by decide +kernel
def Q_rm17 (Z : State) (t0 : Addr) (kt : ClassId) (nn : Int32) (bs : List Int32) (p3 : Int32) (h0 : Heap) (n0 : Nat) (v : Option Value) (h : Heap) (L : List Loc) : Prop := v = some (.int (0 : Int32)) ∧ Fr n0 L ∧ h = h0
set_option maxRecDepth 65536 in
set_option maxHeartbeats 40000000 in
theorem rm17 (l : Launch) (Z : State) (a0 : Array Value) (hw : ∀ d ∈ tables_1, d.before a0 Z = true) (ws : List Jvm.Cond) (t0 : Addr) (kt : ClassId) (nn : Int32) (bs : List Int32) (p3 : Int32) (h0 : Heap) (n0 : Nat) (Z0 : n0 ≤ h0.size) (P0 : Arv Z h0 t0 kt .byte nn (bs.map Value.int) (.int (0 : Int32))) (hn : Len nn bs) (hp : 0 ≤ p3.toInt ∧ p3.toInt ≤ nn.toInt) (hpos : ∀ i : Int32, 0 ≤ i.toInt → i.toInt < p3.toInt → ¬ (bAt bs i < (0 : Int32))) :
    MetFree l (⟨"java/lang/StringCoding", "hasNegatives", "([BII)Z"⟩ : MethodName) (head1 (Jvm.Cond.code (⟨"java/lang/StringCoding", "hasNegatives", "([BII)Z"⟩ : MethodName) jdk_123_method_2_code 3 (some .boolean) :: ws) ({ frames := 1, cells := 0, slots := 0, locals := 16 } : Room)) (fun a U => a = #[(.ref t0), (.int (0 : Int32)), (.int p3)] ∧ Z.Warmed39 U.vm ∧ U.heap = h0) (fun _ _ _ _ _ => True) (fun _ U o U' => ∃ v L, o = .returned v ∧ Q_rm17 Z t0 kt nn bs p3 h0 n0 v U'.heap L ∧ FrameEnd U o U' L ({ frames := 1, cells := 0, slots := 0, locals := 16 } : Room).cells ({ frames := 1, cells := 0, slots := 0, locals := 16 } : Room).slots) := by
  refine MetFree.of_bodySF (plainFor_of_name pn_java_lang_StringCoding) hisR ?_
  intro p e s m args below meth c s₁ Bd hml0 hP hK
  obtain ⟨rfl, hZ, hh⟩ := hP
  have hx := Bd.exec
  have hby := Bd.bytes
  have hml : c.maxLocals = 3 := hml0
  have hown : s.vm.findClass "java/lang/StringCoding" = some m.cls := findClass_of_methodNamed Bd.named
  have hnm := (name_of_methodNamed Bd.named Bd.method).1
  have X0 : Stand p l e ({ frames := 1, cells := 0, slots := 0, locals := 16 } : Room) s m #[(.ref t0), (.int (0 : Int32)), (.int p3)] below meth c s₁ [] 0 0 := Stand.of_body Bd
  have e0 : s₁.heap = h0 := by rw [← hh, Bd.state]; rfl
  have N0 := Fr.nil n0
  suffices hR : ∀ P : State → Prop, (∀ s₂ o v L, s₂.status = .running → Ended s₂ below o → o = .returned v → Q_rm17 Z t0 kt nn bs p3 h0 n0 v s₂.heap L → FrameEnd s o s₂ L ({ frames := 1, cells := 0, slots := 0, locals := 16 } : Room).cells ({ frames := 1, cells := 0, slots := 0, locals := 16 } : Room).slots → P s₂) → Rch p.tables e below P (s₁.setTop (mkF m 0 #[.val (.ref t0), .val (.int (0 : Int32)), .val (.int p3)] [])) by
    obtain ⟨s₂, h1, o, h2⟩ := hR (fun s₂ => ∃ o, s₂.status = .running ∧ Ended s₂ below o ∧ ∃ v L, o = .returned v ∧ Q_rm17 Z t0 kt nn bs p3 h0 n0 v s₂.heap L ∧ FrameEnd s o s₂ L ({ frames := 1, cells := 0, slots := 0, locals := 16 } : Room).cells ({ frames := 1, cells := 0, slots := 0, locals := 16 } : Room).slots) (fun s₂ o v L q1 q2 q3 q4 q5 => ⟨o, q1, q2, v, L, q3, q4, q5⟩)
    exact ⟨s₂, o, castTop (ef_rm17 m t0 p3) h1, h2⟩
  intro P hPd
  refine Rch.go (fun zt zk => XS.aloadN X0.here hx rfl (hb hby d17_0) rfl rfl zk) ?_
  show Rch _ _ _ _ (s₁.setTop (mkF m 1 #[.val (.ref t0), .val (.int (0 : Int32)), .val (.int p3)] [(.ref t0)]))
  refine Rch.go (fun zt zk => XS.iloadN X0.here hx rfl (hb hby d17_1) rfl zk) ?_
  show Rch _ _ _ _ (s₁.setTop (mkF m 2 #[.val (.ref t0), .val (.int (0 : Int32)), .val (.int p3)] [(.int (0 : Int32)), (.ref t0)]))
  refine Rch.go (fun zt zk => XS.iloadN X0.here hx rfl (hb hby d17_2) rfl zk) ?_
  show Rch _ _ _ _ (s₁.setTop (mkF m 3 #[.val (.ref t0), .val (.int (0 : Int32)), .val (.int p3)] [(.int p3), (.int (0 : Int32)), (.ref t0)]))
  obtain ⟨_, _, ⟨T101, L101, k101, n101⟩, -, X101, ⟨Lc101, hQ101, l101, y101, z101⟩, st101⟩ := Jvm.LawKit.callS X0 hx (y := (⟨"java/lang/StringCoding", "countPositives", "([BII)I"⟩ : MethodName)) hown (mvT hZ (ow92 hw)) (mvT hZ (ow93 hw)) (mvT hZ (ow90 hw)) (mvT hZ (ow94 hw)) (by decide) (backOf (W := 0) (rm18 l Z a0 hw [] (t0) (kt) (nn) (bs) (p3) h0 n0 Z0 (P0) (hn) (hp) (hpos)) hZ (ow94 hw) (ow90 hw) (by decide) (by decide)) (g := (mkF m 3 #[.val (.ref t0), .val (.int (0 : Int32)), .val (.int p3)] [(.int p3), (.int (0 : Int32)), (.ref t0)])) rfl (by rw [hml]; rfl) (argsL := [(.ref t0), (.int (0 : Int32)), (.int p3)]) (rest := []) (lenOf pd___BII_I rfl) rfl (by show 2 * 0 + _ ≤ _; exact Nat.le_of_eq rfl) (hb hby d17_3) (fun _ _ => ⟨rfl, e0, (by decide : 0 + 0 ≤ _), (by decide : 0 + 0 ≤ _)⟩)
  dsimp only [Pt.U, Pt.locs, Pt.cells, Pt.slots] at X101 l101 y101 z101 st101 hQ101
  subst l101 y101 z101
  obtain ⟨rfl, N101q, eq101⟩ := hQ101
  have N101 := Fr.app N0 N101q
  refine Rch.go st101 ?_
  show Rch _ _ _ _ (T101.setTop (mkF m 6 #[.val (.ref t0), .val (.int (0 : Int32)), .val (.int p3)] [(.int p3)]))
  refine Rch.go (fun zt zk => XS.iloadN X101.here hx rfl (hb hby d17_6) rfl zk) ?_
  show Rch _ _ _ _ (T101.setTop (mkF m 7 #[.val (.ref t0), .val (.int (0 : Int32)), .val (.int p3)] [(.int p3), (.int p3)]))
  refine Rch.go (fun zt zk => XS.icmpYes X101.here hx rfl (pc0 := 7) (pc' := 14) rfl (hb hby d17_7) rfl (teq (rfl : p3 = p3)).1 (by decide) (by decide) zk) ?_
  show Rch _ _ _ _ (T101.setTop (mkF m 14 #[.val (.ref t0), .val (.int (0 : Int32)), .val (.int p3)] []))
  refine Rch.go (fun zt zk => XS.iconst X101.here hx rfl (hb hby d17_14) zk) ?_
  show Rch _ _ _ _ (T101.setTop (mkF m 15 #[.val (.ref t0), .val (.int (0 : Int32)), .val (.int p3)] [(.int (0 : Int32))]))
  obtain ⟨fs, hr, hrun, hended, hW, hsame⟩ := X101.leave (v := some (.int (0 : Int32))) (fun h => by rw [Bd.returns] at h; cases h)
  refine Rch.mk (retN X101 hx (t := .boolean) Bd.returns (by simp) (hb hby d17_15) hr) (hPd _ _ _ _ hrun hended rfl ?_ ⟨⟨_, rfl⟩, hW, hsame.mono (by decide) (by decide)⟩)
  show Q_rm17 Z t0 kt nn bs p3 h0 n0 _ T101.heap _
  rw [eq101]
  exact ⟨rfl, N101, rfl⟩
theorem ef_rm13 (m : MethodId) (a1 : Addr) : entryFrame m #[(.ref a1)] 1 = mkF m 0 #[.val (.ref a1)] [] := by first | (simp [entryFrame, mkF, argsToLocals, Value.category]; done) | rfl
theorem pn_java_util_Objects : plainName "java/util/Objects" = true := by first | (simp [plainName, overriddenIn]; done) | decide +kernel
theorem d13_0 : decode jdk_31_method_10_code 0 = .ok (.aload_n 0, 1) := by decide +kernel
theorem d13_1 : decode jdk_31_method_10_code 1 = .ok (.ifnonnull 11, 3) := by decide +kernel
theorem d13_12 : decode jdk_31_method_10_code 12 = .ok (.aload_n 0, 1) := by decide +kernel
theorem d13_13 : decode jdk_31_method_10_code 13 = .ok (.areturn, 1) := by decide +kernel
def Q_rm13 (Z : State) (a1 : Addr) (h0 : Heap) (n0 : Nat) (v : Option Value) (h : Heap) (L : List Loc) : Prop := v = some (.ref a1) ∧ Fr n0 L ∧ h = h0
set_option maxRecDepth 65536 in
set_option maxHeartbeats 40000000 in
theorem rm13 (l : Launch) (Z : State) (a0 : Array Value) (hw : ∀ d ∈ tables_1, d.before a0 Z = true) (ws : List Jvm.Cond) (a1 : Addr) (h0 : Heap) (n0 : Nat) (Z0 : n0 ≤ h0.size) :
    MetFree l (⟨"java/util/Objects", "requireNonNull", "(Ljava/lang/Object;)Ljava/lang/Object;"⟩ : MethodName) (head1 (Jvm.Cond.code (⟨"java/util/Objects", "requireNonNull", "(Ljava/lang/Object;)Ljava/lang/Object;"⟩ : MethodName) jdk_31_method_10_code 1 (some (.object "java/lang/Object")) :: ws) ({ frames := 0, cells := 0, slots := 0, locals := 0 } : Room)) (fun a U => a = #[(.ref a1)] ∧ Z.Warmed39 U.vm ∧ U.heap = h0) (fun _ _ _ _ _ => True) (fun _ U o U' => ∃ v L, o = .returned v ∧ Q_rm13 Z a1 h0 n0 v U'.heap L ∧ FrameEnd U o U' L ({ frames := 0, cells := 0, slots := 0, locals := 0 } : Room).cells ({ frames := 0, cells := 0, slots := 0, locals := 0 } : Room).slots) := by
  refine MetFree.of_bodySF (plainFor_of_name pn_java_util_Objects) hisR ?_
  intro p e s m args below meth c s₁ Bd hml0 hP hK
  obtain ⟨rfl, hZ, hh⟩ := hP
  have hx := Bd.exec
  have hby := Bd.bytes
  have hml : c.maxLocals = 1 := hml0
  have hown : s.vm.findClass "java/util/Objects" = some m.cls := findClass_of_methodNamed Bd.named
  have hnm := (name_of_methodNamed Bd.named Bd.method).1
  have X0 : Stand p l e ({ frames := 0, cells := 0, slots := 0, locals := 0 } : Room) s m #[(.ref a1)] below meth c s₁ [] 0 0 := Stand.of_body Bd
  have e0 : s₁.heap = h0 := by rw [← hh, Bd.state]; rfl
  have N0 := Fr.nil n0
  suffices hR : ∀ P : State → Prop, (∀ s₂ o v L, s₂.status = .running → Ended s₂ below o → o = .returned v → Q_rm13 Z a1 h0 n0 v s₂.heap L → FrameEnd s o s₂ L ({ frames := 0, cells := 0, slots := 0, locals := 0 } : Room).cells ({ frames := 0, cells := 0, slots := 0, locals := 0 } : Room).slots → P s₂) → Rch p.tables e below P (s₁.setTop (mkF m 0 #[.val (.ref a1)] [])) by
    obtain ⟨s₂, h1, o, h2⟩ := hR (fun s₂ => ∃ o, s₂.status = .running ∧ Ended s₂ below o ∧ ∃ v L, o = .returned v ∧ Q_rm13 Z a1 h0 n0 v s₂.heap L ∧ FrameEnd s o s₂ L ({ frames := 0, cells := 0, slots := 0, locals := 0 } : Room).cells ({ frames := 0, cells := 0, slots := 0, locals := 0 } : Room).slots) (fun s₂ o v L q1 q2 q3 q4 q5 => ⟨o, q1, q2, v, L, q3, q4, q5⟩)
    exact ⟨s₂, o, castTop (ef_rm13 m a1) h1, h2⟩
  intro P hPd
  refine Rch.go (fun zt zk => XS.aloadN X0.here hx rfl (hb hby d13_0) rfl rfl zk) ?_
  show Rch _ _ _ _ (s₁.setTop (mkF m 1 #[.val (.ref a1)] [(.ref a1)]))
  refine Rch.go (fun zt zk => XS.ifnonnullYes X0.here hx rfl (pc0 := 1) (pc' := 12) rfl (hb hby d13_1) rfl (by decide) (by decide) zk) ?_
  show Rch _ _ _ _ (s₁.setTop (mkF m 12 #[.val (.ref a1)] []))
  refine Rch.go (fun zt zk => XS.aloadN X0.here hx rfl (hb hby d13_12) rfl rfl zk) ?_
  show Rch _ _ _ _ (s₁.setTop (mkF m 13 #[.val (.ref a1)] [(.ref a1)]))
  obtain ⟨fs, hr, hrun, hended, hW, hsame⟩ := X0.leave (v := some (.ref a1)) (fun h => by rw [Bd.returns] at h; cases h)
  have hend : Steps p.tables e below (s₁.setTop (mkF m 13 #[.val (.ref a1)] [(.ref a1)])) (s₁.setFrames fs) := by
    jvm_step X0.here [X0.here.top, hx, (hb hby d13_13), X0.method', Bd.returns, Value.isRef, FieldType.isReference]
    first | (intro acts; rw [hr _ acts rfl rfl rfl]) | rw [hr _ _ rfl rfl rfl]
    exact Steps.refl _
  refine Rch.mk (hend) (hPd _ _ _ _ hrun hended rfl ?_ ⟨⟨_, rfl⟩, hW, hsame.mono (by decide) (by decide)⟩)
  show Q_rm13 Z a1 h0 n0 _ s₁.heap _
  rw [e0]
  exact ⟨rfl, N0, rfl⟩
theorem own_or {p q : Int32} (hp : 0 ≤ p.toInt) (hq : 0 ≤ q.toInt) : ¬ ((q ||| (0 : Int32)) ||| p < (0 : Int32)) := by
  have e0 : (0 : Int32).toInt = 0 := by decide
  have h1 := c_orS q (0 : Int32); have h2 := c_orS (q ||| (0 : Int32)) p
  rw [Int32.lt_iff_toInt_lt, e0]; rw [e0] at h1; omega
theorem own_sz {p q : Int32} (h : p.toInt ≤ q.toInt) : ¬ (q - (0 : Int32) < p) := by
  rw [Int32.sub_zero, Int32.lt_iff_toInt_lt]; omega
theorem ef_rmCfsN (m : MethodId) (p2 : Int32) (p3 : Int32) : entryFrame m #[(.int (0 : Int32)), (.int p2), (.int p3), .null] 4 = mkF m 0 #[.val (.int (0 : Int32)), .val (.int p2), .val (.int p3), .val .null] [] := by first | (simp [entryFrame, mkF, argsToLocals, Value.category]; done) | rfl
theorem pn_jdk_internal_util_Preconditions : plainName "jdk/internal/util/Preconditions" = true := by first | (simp [plainName, overriddenIn]; done) | decide +kernel
theorem d15_0 : decode jdk_41_method_13_code 0 = .ok (.iload_n 2, 1) := by decide +kernel
theorem d15_1 : decode jdk_41_method_13_code 1 = .ok (.iload_n 0, 1) := by decide +kernel
theorem d15_2 : decode jdk_41_method_13_code 2 = .ok (.ior, 1) := by decide +kernel
theorem d15_3 : decode jdk_41_method_13_code 3 = .ok (.iload_n 1, 1) := by decide +kernel
theorem d15_4 : decode jdk_41_method_13_code 4 = .ok (.ior, 1) := by decide +kernel
theorem d15_5 : decode jdk_41_method_13_code 5 = .ok (.ifCond .lt 10, 3) := by decide +kernel
theorem d15_8 : decode jdk_41_method_13_code 8 = .ok (.iload_n 1, 1) := by decide +kernel
theorem d15_9 : decode jdk_41_method_13_code 9 = .ok (.iload_n 2, 1) := by decide +kernel
theorem d15_10 : decode jdk_41_method_13_code 10 = .ok (.iload_n 0, 1) := by decide +kernel
theorem d15_11 : decode jdk_41_method_13_code 11 = .ok (.isub, 1) := by decide +kernel
theorem d15_12 : decode jdk_41_method_13_code 12 = .ok (.if_icmp .le 11, 3) := by decide +kernel
theorem d15_23 : decode jdk_41_method_13_code 23 = .ok (.iload_n 0, 1) := by decide +kernel
theorem d15_24 : decode jdk_41_method_13_code 24 = .ok (.ireturn, 1) := by decide +kernel
def Q_rmCfsN (Z : State) (p2 : Int32) (p3 : Int32) (h0 : Heap) (n0 : Nat) (v : Option Value) (h : Heap) (L : List Loc) : Prop := v = some (.int (0 : Int32)) ∧ Fr n0 L ∧ h = h0
set_option maxRecDepth 65536 in
set_option maxHeartbeats 40000000 in
theorem rmCfsN (l : Launch) (Z : State) (a0 : Array Value) (hw : ∀ d ∈ tables_1, d.before a0 Z = true) (ws : List Jvm.Cond) (p2 : Int32) (p3 : Int32) (h0 : Heap) (n0 : Nat) (Z0 : n0 ≤ h0.size) (hr : 0 ≤ p2.toInt ∧ p2.toInt ≤ p3.toInt) :
    MetFree l (⟨"jdk/internal/util/Preconditions", "checkFromIndexSize", "(IIILjava/util/function/BiFunction;)I"⟩ : MethodName) (head1 (Jvm.Cond.code (⟨"jdk/internal/util/Preconditions", "checkFromIndexSize", "(IIILjava/util/function/BiFunction;)I"⟩ : MethodName) jdk_41_method_13_code 4 (some .int) :: ws) ({ frames := 0, cells := 0, slots := 0, locals := 0 } : Room)) (fun a U => a = #[(.int (0 : Int32)), (.int p2), (.int p3), .null] ∧ Z.Warmed39 U.vm ∧ U.heap = h0) (fun _ _ _ _ _ => True) (fun _ U o U' => ∃ v L, o = .returned v ∧ Q_rmCfsN Z p2 p3 h0 n0 v U'.heap L ∧ FrameEnd U o U' L ({ frames := 0, cells := 0, slots := 0, locals := 0 } : Room).cells ({ frames := 0, cells := 0, slots := 0, locals := 0 } : Room).slots) := by
  refine MetFree.of_bodySF (plainFor_of_name pn_jdk_internal_util_Preconditions) hisR ?_
  intro p e s m args below meth c s₁ Bd hml0 hP hK
  obtain ⟨rfl, hZ, hh⟩ := hP
  have hx := Bd.exec
  have hby := Bd.bytes
  have hml : c.maxLocals = 4 := hml0
  have hown : s.vm.findClass "jdk/internal/util/Preconditions" = some m.cls := findClass_of_methodNamed Bd.named
  have hnm := (name_of_methodNamed Bd.named Bd.method).1
  have X0 : Stand p l e ({ frames := 0, cells := 0, slots := 0, locals := 0 } : Room) s m #[(.int (0 : Int32)), (.int p2), (.int p3), .null] below meth c s₁ [] 0 0 := Stand.of_body Bd
  have e0 : s₁.heap = h0 := by rw [← hh, Bd.state]; rfl
  have N0 := Fr.nil n0
  suffices hR : ∀ P : State → Prop, (∀ s₂ o v L, s₂.status = .running → Ended s₂ below o → o = .returned v → Q_rmCfsN Z p2 p3 h0 n0 v s₂.heap L → FrameEnd s o s₂ L ({ frames := 0, cells := 0, slots := 0, locals := 0 } : Room).cells ({ frames := 0, cells := 0, slots := 0, locals := 0 } : Room).slots → P s₂) → Rch p.tables e below P (s₁.setTop (mkF m 0 #[.val (.int (0 : Int32)), .val (.int p2), .val (.int p3), .val .null] [])) by
    obtain ⟨s₂, h1, o, h2⟩ := hR (fun s₂ => ∃ o, s₂.status = .running ∧ Ended s₂ below o ∧ ∃ v L, o = .returned v ∧ Q_rmCfsN Z p2 p3 h0 n0 v s₂.heap L ∧ FrameEnd s o s₂ L ({ frames := 0, cells := 0, slots := 0, locals := 0 } : Room).cells ({ frames := 0, cells := 0, slots := 0, locals := 0 } : Room).slots) (fun s₂ o v L q1 q2 q3 q4 q5 => ⟨o, q1, q2, v, L, q3, q4, q5⟩)
    exact ⟨s₂, o, castTop (ef_rmCfsN m p2 p3) h1, h2⟩
  intro P hPd
  refine Rch.go (fun zt zk => XS.iloadN X0.here hx rfl (hb hby d15_0) rfl zk) ?_
  show Rch _ _ _ _ (s₁.setTop (mkF m 1 #[.val (.int (0 : Int32)), .val (.int p2), .val (.int p3), .val .null] [(.int p3)]))
  refine Rch.go (fun zt zk => XS.iloadN X0.here hx rfl (hb hby d15_1) rfl zk) ?_
  show Rch _ _ _ _ (s₁.setTop (mkF m 2 #[.val (.int (0 : Int32)), .val (.int p2), .val (.int p3), .val .null] [(.int (0 : Int32)), (.int p3)]))
  refine Rch.go (fun zt zk => XS.ior X0.here hx rfl (hb hby d15_2) rfl zk) ?_
  show Rch _ _ _ _ (s₁.setTop (mkF m 3 #[.val (.int (0 : Int32)), .val (.int p2), .val (.int p3), .val .null] [(.int (p3 ||| (0 : Int32)))]))
  refine Rch.go (fun zt zk => XS.iloadN X0.here hx rfl (hb hby d15_3) rfl zk) ?_
  show Rch _ _ _ _ (s₁.setTop (mkF m 4 #[.val (.int (0 : Int32)), .val (.int p2), .val (.int p3), .val .null] [(.int p2), (.int (p3 ||| (0 : Int32)))]))
  refine Rch.go (fun zt zk => XS.ior X0.here hx rfl (hb hby d15_4) rfl zk) ?_
  show Rch _ _ _ _ (s₁.setTop (mkF m 5 #[.val (.int (0 : Int32)), .val (.int p2), .val (.int p3), .val .null] [(.int ((p3 ||| (0 : Int32)) ||| p2))]))
  refine Rch.go (fun zt zk => XS.ifNo X0.here hx rfl (hb hby d15_5) rfl ((if0 _ _).trans (flt (own_or hr.1 (by omega) : ¬ (((p3 ||| (0 : Int32)) ||| p2) < (0 : Int32)))).1) zk) ?_
  show Rch _ _ _ _ (s₁.setTop (mkF m 8 #[.val (.int (0 : Int32)), .val (.int p2), .val (.int p3), .val .null] []))
  refine Rch.go (fun zt zk => XS.iloadN X0.here hx rfl (hb hby d15_8) rfl zk) ?_
  show Rch _ _ _ _ (s₁.setTop (mkF m 9 #[.val (.int (0 : Int32)), .val (.int p2), .val (.int p3), .val .null] [(.int p2)]))
  refine Rch.go (fun zt zk => XS.iloadN X0.here hx rfl (hb hby d15_9) rfl zk) ?_
  show Rch _ _ _ _ (s₁.setTop (mkF m 10 #[.val (.int (0 : Int32)), .val (.int p2), .val (.int p3), .val .null] [(.int p3), (.int p2)]))
  refine Rch.go (fun zt zk => XS.iloadN X0.here hx rfl (hb hby d15_10) rfl zk) ?_
  show Rch _ _ _ _ (s₁.setTop (mkF m 11 #[.val (.int (0 : Int32)), .val (.int p2), .val (.int p3), .val .null] [(.int (0 : Int32)), (.int p3), (.int p2)]))
  refine Rch.go (fun zt zk => XS.isub X0.here hx rfl (hb hby d15_11) rfl zk) ?_
  show Rch _ _ _ _ (s₁.setTop (mkF m 12 #[.val (.int (0 : Int32)), .val (.int p2), .val (.int p3), .val .null] [(.int (p3 - (0 : Int32))), (.int p2)]))
  refine Rch.go (fun zt zk => XS.icmpYes X0.here hx rfl (pc0 := 12) (pc' := 23) rfl (hb hby d15_12) rfl (flt (own_sz hr.2 : ¬ ((p3 - (0 : Int32)) < p2))).2.2.2 (by decide) (by decide) zk) ?_
  show Rch _ _ _ _ (s₁.setTop (mkF m 23 #[.val (.int (0 : Int32)), .val (.int p2), .val (.int p3), .val .null] []))
  refine Rch.go (fun zt zk => XS.iloadN X0.here hx rfl (hb hby d15_23) rfl zk) ?_
  show Rch _ _ _ _ (s₁.setTop (mkF m 24 #[.val (.int (0 : Int32)), .val (.int p2), .val (.int p3), .val .null] [(.int (0 : Int32))]))
  obtain ⟨fs, hr, hrun, hended, hW, hsame⟩ := X0.leave (v := some (.int (0 : Int32))) (fun h => by rw [Bd.returns] at h; cases h)
  refine Rch.mk (retI X0 hx Bd.returns (hb hby d15_24) hr) (hPd _ _ _ _ hrun hended rfl ?_ ⟨⟨_, rfl⟩, hW, hsame.mono (by decide) (by decide)⟩)
  show Q_rmCfsN Z p2 p3 h0 n0 _ s₁.heap _
  rw [e0]
  exact ⟨rfl, N0, rfl⟩
theorem ef_rmCfsR (m : MethodId) (p2 : Int32) (p3 : Int32) (w4 : Addr) : entryFrame m #[(.int (0 : Int32)), (.int p2), (.int p3), (.ref w4)] 4 = mkF m 0 #[.val (.int (0 : Int32)), .val (.int p2), .val (.int p3), .val (.ref w4)] [] := by first | (simp [entryFrame, mkF, argsToLocals, Value.category]; done) | rfl
def Q_rmCfsR (Z : State) (p2 : Int32) (p3 : Int32) (w4 : Addr) (h0 : Heap) (n0 : Nat) (v : Option Value) (h : Heap) (L : List Loc) : Prop := v = some (.int (0 : Int32)) ∧ Fr n0 L ∧ h = h0
set_option maxRecDepth 65536 in
set_option maxHeartbeats 40000000 in
theorem rmCfsR (l : Launch) (Z : State) (a0 : Array Value) (hw : ∀ d ∈ tables_1, d.before a0 Z = true) (ws : List Jvm.Cond) (p2 : Int32) (p3 : Int32) (w4 : Addr) (h0 : Heap) (n0 : Nat) (Z0 : n0 ≤ h0.size) (hr : 0 ≤ p2.toInt ∧ p2.toInt ≤ p3.toInt) :
    MetFree l (⟨"jdk/internal/util/Preconditions", "checkFromIndexSize", "(IIILjava/util/function/BiFunction;)I"⟩ : MethodName) (head1 (Jvm.Cond.code (⟨"jdk/internal/util/Preconditions", "checkFromIndexSize", "(IIILjava/util/function/BiFunction;)I"⟩ : MethodName) jdk_41_method_13_code 4 (some .int) :: ws) ({ frames := 0, cells := 0, slots := 0, locals := 0 } : Room)) (fun a U => a = #[(.int (0 : Int32)), (.int p2), (.int p3), (.ref w4)] ∧ Z.Warmed39 U.vm ∧ U.heap = h0) (fun _ _ _ _ _ => True) (fun _ U o U' => ∃ v L, o = .returned v ∧ Q_rmCfsR Z p2 p3 w4 h0 n0 v U'.heap L ∧ FrameEnd U o U' L ({ frames := 0, cells := 0, slots := 0, locals := 0 } : Room).cells ({ frames := 0, cells := 0, slots := 0, locals := 0 } : Room).slots) := by
  refine MetFree.of_bodySF (plainFor_of_name pn_jdk_internal_util_Preconditions) hisR ?_
  intro p e s m args below meth c s₁ Bd hml0 hP hK
  obtain ⟨rfl, hZ, hh⟩ := hP
  have hx := Bd.exec
  have hby := Bd.bytes
  have hml : c.maxLocals = 4 := hml0
  have hown : s.vm.findClass "jdk/internal/util/Preconditions" = some m.cls := findClass_of_methodNamed Bd.named
  have hnm := (name_of_methodNamed Bd.named Bd.method).1
  have X0 : Stand p l e ({ frames := 0, cells := 0, slots := 0, locals := 0 } : Room) s m #[(.int (0 : Int32)), (.int p2), (.int p3), (.ref w4)] below meth c s₁ [] 0 0 := Stand.of_body Bd
  have e0 : s₁.heap = h0 := by rw [← hh, Bd.state]; rfl
  have N0 := Fr.nil n0
  suffices hR : ∀ P : State → Prop, (∀ s₂ o v L, s₂.status = .running → Ended s₂ below o → o = .returned v → Q_rmCfsR Z p2 p3 w4 h0 n0 v s₂.heap L → FrameEnd s o s₂ L ({ frames := 0, cells := 0, slots := 0, locals := 0 } : Room).cells ({ frames := 0, cells := 0, slots := 0, locals := 0 } : Room).slots → P s₂) → Rch p.tables e below P (s₁.setTop (mkF m 0 #[.val (.int (0 : Int32)), .val (.int p2), .val (.int p3), .val (.ref w4)] [])) by
    obtain ⟨s₂, h1, o, h2⟩ := hR (fun s₂ => ∃ o, s₂.status = .running ∧ Ended s₂ below o ∧ ∃ v L, o = .returned v ∧ Q_rmCfsR Z p2 p3 w4 h0 n0 v s₂.heap L ∧ FrameEnd s o s₂ L ({ frames := 0, cells := 0, slots := 0, locals := 0 } : Room).cells ({ frames := 0, cells := 0, slots := 0, locals := 0 } : Room).slots) (fun s₂ o v L q1 q2 q3 q4 q5 => ⟨o, q1, q2, v, L, q3, q4, q5⟩)
    exact ⟨s₂, o, castTop (ef_rmCfsR m p2 p3 w4) h1, h2⟩
  intro P hPd
  refine Rch.go (fun zt zk => XS.iloadN X0.here hx rfl (hb hby d15_0) rfl zk) ?_
  show Rch _ _ _ _ (s₁.setTop (mkF m 1 #[.val (.int (0 : Int32)), .val (.int p2), .val (.int p3), .val (.ref w4)] [(.int p3)]))
  refine Rch.go (fun zt zk => XS.iloadN X0.here hx rfl (hb hby d15_1) rfl zk) ?_
  show Rch _ _ _ _ (s₁.setTop (mkF m 2 #[.val (.int (0 : Int32)), .val (.int p2), .val (.int p3), .val (.ref w4)] [(.int (0 : Int32)), (.int p3)]))
  refine Rch.go (fun zt zk => XS.ior X0.here hx rfl (hb hby d15_2) rfl zk) ?_
  show Rch _ _ _ _ (s₁.setTop (mkF m 3 #[.val (.int (0 : Int32)), .val (.int p2), .val (.int p3), .val (.ref w4)] [(.int (p3 ||| (0 : Int32)))]))
  refine Rch.go (fun zt zk => XS.iloadN X0.here hx rfl (hb hby d15_3) rfl zk) ?_
  show Rch _ _ _ _ (s₁.setTop (mkF m 4 #[.val (.int (0 : Int32)), .val (.int p2), .val (.int p3), .val (.ref w4)] [(.int p2), (.int (p3 ||| (0 : Int32)))]))
  refine Rch.go (fun zt zk => XS.ior X0.here hx rfl (hb hby d15_4) rfl zk) ?_
  show Rch _ _ _ _ (s₁.setTop (mkF m 5 #[.val (.int (0 : Int32)), .val (.int p2), .val (.int p3), .val (.ref w4)] [(.int ((p3 ||| (0 : Int32)) ||| p2))]))
  refine Rch.go (fun zt zk => XS.ifNo X0.here hx rfl (hb hby d15_5) rfl ((if0 _ _).trans (flt (own_or hr.1 (by omega) : ¬ (((p3 ||| (0 : Int32)) ||| p2) < (0 : Int32)))).1) zk) ?_
  show Rch _ _ _ _ (s₁.setTop (mkF m 8 #[.val (.int (0 : Int32)), .val (.int p2), .val (.int p3), .val (.ref w4)] []))
  refine Rch.go (fun zt zk => XS.iloadN X0.here hx rfl (hb hby d15_8) rfl zk) ?_
  show Rch _ _ _ _ (s₁.setTop (mkF m 9 #[.val (.int (0 : Int32)), .val (.int p2), .val (.int p3), .val (.ref w4)] [(.int p2)]))
  refine Rch.go (fun zt zk => XS.iloadN X0.here hx rfl (hb hby d15_9) rfl zk) ?_
  show Rch _ _ _ _ (s₁.setTop (mkF m 10 #[.val (.int (0 : Int32)), .val (.int p2), .val (.int p3), .val (.ref w4)] [(.int p3), (.int p2)]))
  refine Rch.go (fun zt zk => XS.iloadN X0.here hx rfl (hb hby d15_10) rfl zk) ?_
  show Rch _ _ _ _ (s₁.setTop (mkF m 11 #[.val (.int (0 : Int32)), .val (.int p2), .val (.int p3), .val (.ref w4)] [(.int (0 : Int32)), (.int p3), (.int p2)]))
  refine Rch.go (fun zt zk => XS.isub X0.here hx rfl (hb hby d15_11) rfl zk) ?_
  show Rch _ _ _ _ (s₁.setTop (mkF m 12 #[.val (.int (0 : Int32)), .val (.int p2), .val (.int p3), .val (.ref w4)] [(.int (p3 - (0 : Int32))), (.int p2)]))
  refine Rch.go (fun zt zk => XS.icmpYes X0.here hx rfl (pc0 := 12) (pc' := 23) rfl (hb hby d15_12) rfl (flt (own_sz hr.2 : ¬ ((p3 - (0 : Int32)) < p2))).2.2.2 (by decide) (by decide) zk) ?_
  show Rch _ _ _ _ (s₁.setTop (mkF m 23 #[.val (.int (0 : Int32)), .val (.int p2), .val (.int p3), .val (.ref w4)] []))
  refine Rch.go (fun zt zk => XS.iloadN X0.here hx rfl (hb hby d15_23) rfl zk) ?_
  show Rch _ _ _ _ (s₁.setTop (mkF m 24 #[.val (.int (0 : Int32)), .val (.int p2), .val (.int p3), .val (.ref w4)] [(.int (0 : Int32))]))
  obtain ⟨fs, hr, hrun, hended, hW, hsame⟩ := X0.leave (v := some (.int (0 : Int32))) (fun h => by rw [Bd.returns] at h; cases h)
  refine Rch.mk (retI X0 hx Bd.returns (hb hby d15_24) hr) (hPd _ _ _ _ hrun hended rfl ?_ ⟨⟨_, rfl⟩, hW, hsame.mono (by decide) (by decide)⟩)
  show Q_rmCfsR Z p2 p3 w4 h0 n0 _ s₁.heap _
  rw [e0]
  exact ⟨rfl, N0, rfl⟩
theorem ef_rm14 (m : MethodId) (p2 : Int32) (p3 : Int32) : entryFrame m #[(.int (0 : Int32)), (.int p2), (.int p3)] 3 = mkF m 0 #[.val (.int (0 : Int32)), .val (.int p2), .val (.int p3)] [] := by first | (simp [entryFrame, mkF, argsToLocals, Value.category]; done) | rfl
theorem pn_java_lang_String : plainName "java/lang/String" = true := by first | (simp [plainName, overriddenIn]; done) | decide +kernel
theorem d14_0 : decode jdk_42_method_157_code 0 = .ok (.iload_n 0, 1) := by decide +kernel
theorem d14_1 : decode jdk_42_method_157_code 1 = .ok (.iload_n 1, 1) := by decide +kernel
theorem d14_2 : decode jdk_42_method_157_code 2 = .ok (.iload_n 2, 1) := by decide +kernel
theorem d14_3 : decode jdk_42_method_157_code 3 = .ok (.getstatic 1053, 3) := by decide +kernel
theorem d14_6 : decode jdk_42_method_157_code 6 = .ok (.invokestatic 1065, 3) := by decide +kernel
theorem pd__IIILjava_util_function_BiFunction__I : parseMethodDescriptor "(IIILjava/util/function/BiFunction;)I" = some ⟨[.int, .int, .int, (.object "java/util/function/BiFunction")], some .int⟩ := by decide +kernel
theorem d14_9 : decode jdk_42_method_157_code 9 = .ok (.ireturn, 1) := by decide +kernel
def Q_rm14 (Z : State) (p2 : Int32) (p3 : Int32) (rG : Value) (h0 : Heap) (n0 : Nat) (v : Option Value) (h : Heap) (L : List Loc) : Prop := v = some (.int (0 : Int32)) ∧ Fr n0 L ∧ h = h0
set_option maxRecDepth 65536 in
set_option maxHeartbeats 40000000 in
theorem rm14 (l : Launch) (Z : State) (a0 : Array Value) (hw : ∀ d ∈ tables_1, d.before a0 Z = true) (ws : List Jvm.Cond) (p2 : Int32) (p3 : Int32) (rG : Value) (h0 : Heap) (n0 : Nat) (Z0 : n0 ≤ h0.size) (P0 : Old Z n0 h0) (P1 : Sta Z Z.heap "jdk/internal/util/Preconditions" "SIOOBE_FORMATTER" "Ljava/util/function/BiFunction;" rG) (hr : 0 ≤ p2.toInt ∧ p2.toInt ≤ p3.toInt) (hrG : rG.isRef = true) :
    MetFree l (⟨"java/lang/String", "checkBoundsOffCount", "(III)I"⟩ : MethodName) (head1 (Jvm.Cond.code (⟨"java/lang/String", "checkBoundsOffCount", "(III)I"⟩ : MethodName) jdk_42_method_157_code 3 (some .int) :: ws) ({ frames := 1, cells := 0, slots := 0, locals := 15 } : Room)) (fun a U => a = #[(.int (0 : Int32)), (.int p2), (.int p3)] ∧ Z.Warmed39 U.vm ∧ U.heap = h0) (fun _ _ _ _ _ => True) (fun _ U o U' => ∃ v L, o = .returned v ∧ Q_rm14 Z p2 p3 rG h0 n0 v U'.heap L ∧ FrameEnd U o U' L ({ frames := 1, cells := 0, slots := 0, locals := 15 } : Room).cells ({ frames := 1, cells := 0, slots := 0, locals := 15 } : Room).slots) := by
  refine MetFree.of_bodySF (plainFor_of_name pn_java_lang_String) hisR ?_
  intro p e s m args below meth c s₁ Bd hml0 hP hK
  obtain ⟨rfl, hZ, hh⟩ := hP
  have hx := Bd.exec
  have hby := Bd.bytes
  have hml : c.maxLocals = 3 := hml0
  have hown : s.vm.findClass "java/lang/String" = some m.cls := findClass_of_methodNamed Bd.named
  have hnm := (name_of_methodNamed Bd.named Bd.method).1
  have X0 : Stand p l e ({ frames := 1, cells := 0, slots := 0, locals := 15 } : Room) s m #[(.int (0 : Int32)), (.int p2), (.int p3)] below meth c s₁ [] 0 0 := Stand.of_body Bd
  have e0 : s₁.heap = h0 := by rw [← hh, Bd.state]; rfl
  have N0 := Fr.nil n0
  suffices hR : ∀ P : State → Prop, (∀ s₂ o v L, s₂.status = .running → Ended s₂ below o → o = .returned v → Q_rm14 Z p2 p3 rG h0 n0 v s₂.heap L → FrameEnd s o s₂ L ({ frames := 1, cells := 0, slots := 0, locals := 15 } : Room).cells ({ frames := 1, cells := 0, slots := 0, locals := 15 } : Room).slots → P s₂) → Rch p.tables e below P (s₁.setTop (mkF m 0 #[.val (.int (0 : Int32)), .val (.int p2), .val (.int p3)] [])) by
    obtain ⟨s₂, h1, o, h2⟩ := hR (fun s₂ => ∃ o, s₂.status = .running ∧ Ended s₂ below o ∧ ∃ v L, o = .returned v ∧ Q_rm14 Z p2 p3 rG h0 n0 v s₂.heap L ∧ FrameEnd s o s₂ L ({ frames := 1, cells := 0, slots := 0, locals := 15 } : Room).cells ({ frames := 1, cells := 0, slots := 0, locals := 15 } : Room).slots) (fun s₂ o v L q1 q2 q3 q4 q5 => ⟨o, q1, q2, v, L, q3, q4, q5⟩)
    exact ⟨s₂, o, castTop (ef_rm14 m p2 p3) h1, h2⟩
  intro P hPd
  rcases ref_cases hrG with rfl | ⟨w4, rfl⟩
  · skip
    refine Rch.go (fun zt zk => XS.iloadN X0.here hx rfl (hb hby d14_0) rfl zk) ?_
    show Rch _ _ _ _ (s₁.setTop (mkF m 1 #[.val (.int (0 : Int32)), .val (.int p2), .val (.int p3)] [(.int (0 : Int32))]))
    refine Rch.go (fun zt zk => XS.iloadN X0.here hx rfl (hb hby d14_1) rfl zk) ?_
    show Rch _ _ _ _ (s₁.setTop (mkF m 2 #[.val (.int (0 : Int32)), .val (.int p2), .val (.int p3)] [(.int p2), (.int (0 : Int32))]))
    refine Rch.go (fun zt zk => XS.iloadN X0.here hx rfl (hb hby d14_2) rfl zk) ?_
    show Rch _ _ _ _ (s₁.setTop (mkF m 3 #[.val (.int (0 : Int32)), .val (.int p2), .val (.int p3)] [(.int p3), (.int p2), (.int (0 : Int32))]))
    have f101 := P1.ext P0.2
    obtain ⟨T102, X102, e102, st102⟩ := getS2 X0 hx hZ hown (host := "") (Or.inl (ow71 hw)) Via.refl e0 f101 (g := (mkF m 3 #[.val (.int (0 : Int32)), .val (.int p2), .val (.int p3)] [(.int p3), (.int p2), (.int (0 : Int32))])) rfl (hb hby d14_3)
    refine Rch.go st102 ?_
    show Rch _ _ _ _ (T102.setTop (mkF m 6 #[.val (.int (0 : Int32)), .val (.int p2), .val (.int p3)] [.null, (.int p3), (.int p2), (.int (0 : Int32))]))
    obtain ⟨_, _, ⟨T103, L103, k103, n103⟩, -, X103, ⟨Lc103, hQ103, l103, y103, z103⟩, st103⟩ := Jvm.LawKit.callS X102 hx (y := (⟨"jdk/internal/util/Preconditions", "checkFromIndexSize", "(IIILjava/util/function/BiFunction;)I"⟩ : MethodName)) hown (mvT hZ (ow73 hw)) (mvT hZ (ow74 hw)) (mvT hZ (ow72 hw)) (mvT hZ (ow75 hw)) (by decide) (backOf (W := 0) (rmCfsN l Z a0 hw [] (p2) (p3) h0 n0 Z0 (hr)) hZ (ow75 hw) (ow72 hw) (by decide) (by decide)) (g := (mkF m 6 #[.val (.int (0 : Int32)), .val (.int p2), .val (.int p3)] [.null, (.int p3), (.int p2), (.int (0 : Int32))])) rfl (by rw [hml]; rfl) (argsL := [(.int (0 : Int32)), (.int p2), (.int p3), .null]) (rest := []) (lenOf pd__IIILjava_util_function_BiFunction__I rfl) rfl (by show 2 * 0 + _ ≤ _; exact Nat.le_of_eq rfl) (hb hby d14_6) (fun _ _ => ⟨rfl, e102, (by decide : 0 + 0 ≤ _), (by decide : 0 + 0 ≤ _)⟩)
    dsimp only [Pt.U, Pt.locs, Pt.cells, Pt.slots] at X103 l103 y103 z103 st103 hQ103
    subst l103 y103 z103
    obtain ⟨rfl, N103q, eq103⟩ := hQ103
    have N103 := Fr.app N0 N103q
    refine Rch.go st103 ?_
    show Rch _ _ _ _ (T103.setTop (mkF m 9 #[.val (.int (0 : Int32)), .val (.int p2), .val (.int p3)] [(.int (0 : Int32))]))
    obtain ⟨fs, hr, hrun, hended, hW, hsame⟩ := X103.leave (v := some (.int (0 : Int32))) (fun h => by rw [Bd.returns] at h; cases h)
    refine Rch.mk (retI X103 hx Bd.returns (hb hby d14_9) hr) (hPd _ _ _ _ hrun hended rfl ?_ ⟨⟨_, rfl⟩, hW, hsame.mono (by decide) (by decide)⟩)
    show Q_rm14 Z p2 p3 .null h0 n0 _ T103.heap _
    rw [eq103]
    exact ⟨rfl, N103, rfl⟩
  · skip
    refine Rch.go (fun zt zk => XS.iloadN X0.here hx rfl (hb hby d14_0) rfl zk) ?_
    show Rch _ _ _ _ (s₁.setTop (mkF m 1 #[.val (.int (0 : Int32)), .val (.int p2), .val (.int p3)] [(.int (0 : Int32))]))
    refine Rch.go (fun zt zk => XS.iloadN X0.here hx rfl (hb hby d14_1) rfl zk) ?_
    show Rch _ _ _ _ (s₁.setTop (mkF m 2 #[.val (.int (0 : Int32)), .val (.int p2), .val (.int p3)] [(.int p2), (.int (0 : Int32))]))
    refine Rch.go (fun zt zk => XS.iloadN X0.here hx rfl (hb hby d14_2) rfl zk) ?_
    show Rch _ _ _ _ (s₁.setTop (mkF m 3 #[.val (.int (0 : Int32)), .val (.int p2), .val (.int p3)] [(.int p3), (.int p2), (.int (0 : Int32))]))
    have f104 := P1.ext P0.2
    obtain ⟨T105, X105, e105, st105⟩ := getS2 X0 hx hZ hown (host := "") (Or.inl (ow71 hw)) Via.refl e0 f104 (g := (mkF m 3 #[.val (.int (0 : Int32)), .val (.int p2), .val (.int p3)] [(.int p3), (.int p2), (.int (0 : Int32))])) rfl (hb hby d14_3)
    refine Rch.go st105 ?_
    show Rch _ _ _ _ (T105.setTop (mkF m 6 #[.val (.int (0 : Int32)), .val (.int p2), .val (.int p3)] [(.ref w4), (.int p3), (.int p2), (.int (0 : Int32))]))
    obtain ⟨_, _, ⟨T106, L106, k106, n106⟩, -, X106, ⟨Lc106, hQ106, l106, y106, z106⟩, st106⟩ := Jvm.LawKit.callS X105 hx (y := (⟨"jdk/internal/util/Preconditions", "checkFromIndexSize", "(IIILjava/util/function/BiFunction;)I"⟩ : MethodName)) hown (mvT hZ (ow73 hw)) (mvT hZ (ow74 hw)) (mvT hZ (ow72 hw)) (mvT hZ (ow75 hw)) (by decide) (backOf (W := 0) (rmCfsR l Z a0 hw [] (p2) (p3) (w4) h0 n0 Z0 (hr)) hZ (ow75 hw) (ow72 hw) (by decide) (by decide)) (g := (mkF m 6 #[.val (.int (0 : Int32)), .val (.int p2), .val (.int p3)] [(.ref w4), (.int p3), (.int p2), (.int (0 : Int32))])) rfl (by rw [hml]; rfl) (argsL := [(.int (0 : Int32)), (.int p2), (.int p3), (.ref w4)]) (rest := []) (lenOf pd__IIILjava_util_function_BiFunction__I rfl) rfl (by show 2 * 0 + _ ≤ _; exact Nat.le_of_eq rfl) (hb hby d14_6) (fun _ _ => ⟨rfl, e105, (by decide : 0 + 0 ≤ _), (by decide : 0 + 0 ≤ _)⟩)
    dsimp only [Pt.U, Pt.locs, Pt.cells, Pt.slots] at X106 l106 y106 z106 st106 hQ106
    subst l106 y106 z106
    obtain ⟨rfl, N106q, eq106⟩ := hQ106
    have N106 := Fr.app N0 N106q
    refine Rch.go st106 ?_
    show Rch _ _ _ _ (T106.setTop (mkF m 9 #[.val (.int (0 : Int32)), .val (.int p2), .val (.int p3)] [(.int (0 : Int32))]))
    obtain ⟨fs, hr, hrun, hended, hW, hsame⟩ := X106.leave (v := some (.int (0 : Int32))) (fun h => by rw [Bd.returns] at h; cases h)
    refine Rch.mk (retI X106 hx Bd.returns (hb hby d14_9) hr) (hPd _ _ _ _ hrun hended rfl ?_ ⟨⟨_, rfl⟩, hW, hsame.mono (by decide) (by decide)⟩)
    show Q_rm14 Z p2 p3 (.ref w4) h0 n0 _ T106.heap _
    rw [eq106]
    exact ⟨rfl, N106, rfl⟩
theorem ef_rmStrA (m : MethodId) (a1 : Addr) (ca : Addr) (t0 : Addr) (p3 : Int32) : entryFrame m #[(.ref a1), (.ref ca), (.ref t0), (.int (0 : Int32)), (.int p3)] 11 = mkF m 0 #[.val (.ref a1), .val (.ref ca), .val (.ref t0), .val (.int (0 : Int32)), .val (.int p3), .unset, .unset, .unset, .unset, .unset, .unset] [] := by first | (simp [entryFrame, mkF, argsToLocals, Value.category]; done) | rfl
theorem d16_0 : decode jdk_42_method_11_code 0 = .ok (.aload_n 0, 1) := by decide +kernel
theorem d16_1 : decode jdk_42_method_11_code 1 = .ok (.invokespecial 1, 3) := by decide +kernel
theorem d16_4 : decode jdk_42_method_11_code 4 = .ok (.iload 4, 2) := by decide +kernel
theorem d16_6 : decode jdk_42_method_11_code 6 = .ok (.ifCond .ne 24, 3) := by decide +kernel
theorem d16_30 : decode jdk_42_method_11_code 30 = .ok (.aload_n 1, 1) := by decide +kernel
theorem d16_31 : decode jdk_42_method_11_code 31 = .ok (.getstatic 86, 3) := by decide +kernel
theorem d16_34 : decode jdk_42_method_11_code 34 = .ok (.if_acmp .ne 312, 3) := by decide +kernel
theorem d16_346 : decode jdk_42_method_11_code 346 = .ok (.aload_n 1, 1) := by decide +kernel
theorem d16_347 : decode jdk_42_method_11_code 347 = .ok (.getstatic 116, 3) := by decide +kernel
theorem d16_350 : decode jdk_42_method_11_code 350 = .ok (.if_acmp .ne 49, 3) := by decide +kernel
theorem d16_399 : decode jdk_42_method_11_code 399 = .ok (.aload_n 1, 1) := by decide +kernel
theorem d16_400 : decode jdk_42_method_11_code 400 = .ok (.getstatic 123, 3) := by decide +kernel
theorem d16_403 : decode jdk_42_method_11_code 403 = .ok (.if_acmp .ne 105, 3) := by decide +kernel
theorem d16_406 : decode jdk_42_method_11_code 406 = .ok (.getstatic 38, 3) := by decide +kernel
theorem d16_409 : decode jdk_42_method_11_code 409 = .ok (.ifCond .eq 34, 3) := by decide +kernel
theorem d16_412 : decode jdk_42_method_11_code 412 = .ok (.aload_n 2, 1) := by decide +kernel
theorem d16_413 : decode jdk_42_method_11_code 413 = .ok (.iload_n 3, 1) := by decide +kernel
theorem d16_414 : decode jdk_42_method_11_code 414 = .ok (.iload 4, 2) := by decide +kernel
theorem d16_416 : decode jdk_42_method_11_code 416 = .ok (.invokestatic 128, 3) := by decide +kernel
theorem pd___BII_Z : parseMethodDescriptor "([BII)Z" = some ⟨[(.array .byte), .int, .int], some .boolean⟩ := by decide +kernel
theorem d16_419 : decode jdk_42_method_11_code 419 = .ok (.ifCond .ne 24, 3) := by decide +kernel
theorem d16_422 : decode jdk_42_method_11_code 422 = .ok (.aload_n 0, 1) := by decide +kernel
theorem d16_423 : decode jdk_42_method_11_code 423 = .ok (.aload_n 2, 1) := by decide +kernel
theorem d16_424 : decode jdk_42_method_11_code 424 = .ok (.iload_n 3, 1) := by decide +kernel
theorem d16_425 : decode jdk_42_method_11_code 425 = .ok (.iload_n 3, 1) := by decide +kernel
theorem d16_426 : decode jdk_42_method_11_code 426 = .ok (.iload 4, 2) := by decide +kernel
theorem d16_428 : decode jdk_42_method_11_code 428 = .ok (.iadd, 1) := by decide +kernel
theorem d16_429 : decode jdk_42_method_11_code 429 = .ok (.invokestatic 54, 3) := by decide +kernel
theorem d16_432 : decode jdk_42_method_11_code 432 = .ok (.putfield 9, 3) := by decide +kernel
theorem d16_435 : decode jdk_42_method_11_code 435 = .ok (.aload_n 0, 1) := by decide +kernel
theorem d16_436 : decode jdk_42_method_11_code 436 = .ok (.iconst 0, 1) := by decide +kernel
theorem d16_437 : decode jdk_42_method_11_code 437 = .ok (.putfield 15, 3) := by decide +kernel
theorem d16_440 : decode jdk_42_method_11_code 440 = .ok (.goto 439, 3) := by decide +kernel
theorem d16_879 : decode jdk_42_method_11_code 879 = .ok (.return_, 1) := by decide +kernel
def Q_rmStrA (Z : State) (a1 : Addr) (u1 : Value) (u2 : Value) (t0 : Addr) (kt : ClassId) (nn : Int32) (bs : List Int32) (p3 : Int32) (ca : Addr) (ut : Addr) (is : Addr) (cz : Int32) (h0 : Heap) (n0 : Nat) (v : Option Value) (h : Heap) (L : List Loc) : Prop := v = none ∧ Fr n0 L ∧ Keep h0 h [a1] ∧ Exa Z h a1 "java/lang/String" ∧ Fld Z h a1 "java/lang/String" "coder" "B" (.int (nar .byte (0 : Int32))) ∧ ∃ (b : Addr) (kb : ClassId) (vs : List Value), n0 ≤ b ∧ h0.size ≤ b ∧ Fld Z h a1 "java/lang/String" "value" "[B" (.ref b) ∧ Arv Z h b kb .byte p3 vs (.int (0 : Int32))
set_option maxRecDepth 65536 in
set_option maxHeartbeats 40000000 in
theorem rmStrA (l : Launch) (Z : State) (a0 : Array Value) (hw : ∀ d ∈ tables_1, d.before a0 Z = true) (ws : List Jvm.Cond) (a1 : Addr) (u1 : Value) (u2 : Value) (t0 : Addr) (kt : ClassId) (nn : Int32) (bs : List Int32) (p3 : Int32) (ca : Addr) (ut : Addr) (is : Addr) (cz : Int32) (h0 : Heap) (n0 : Nat) (Z0 : n0 ≤ h0.size) (P0 : Old Z n0 h0) (P1 : Exa Z h0 a1 "java/lang/String") (P2 : Fld Z h0 a1 "java/lang/String" "value" "[B" u1) (P3 : Fld Z h0 a1 "java/lang/String" "coder" "B" u2) (P4 : Exa Z h0 t0 "[B") (P5 : Arv Z h0 t0 kt .byte nn (bs.map Value.int) (.int (0 : Int32))) (P6 : Sta Z Z.heap "sun/nio/cs/UTF_8" "INSTANCE" "Lsun/nio/cs/UTF_8;" (.ref ut)) (P7 : Sta Z Z.heap "sun/nio/cs/ISO_8859_1" "INSTANCE" "Lsun/nio/cs/ISO_8859_1;" (.ref is)) (P8 : Sta Z Z.heap "sun/nio/cs/US_ASCII" "INSTANCE" "Lsun/nio/cs/US_ASCII;" (.ref ca)) (P9 : Sta Z Z.heap "java/lang/String" "COMPACT_STRINGS" "Z" (.int cz)) (Pn0 : ca ≠ ut) (Pn1 : ca ≠ is) (Pn2 : t0 ≠ a1) (Pg_a1 : n0 ≤ a1) (hn : Len nn bs) (hp : 0 ≤ p3.toInt ∧ p3.toInt ≤ nn.toInt) (hpos : ∀ i : Int32, 0 ≤ i.toInt → i.toInt < p3.toInt → ¬ (bAt bs i < (0 : Int32))) (hnz : ¬ (p3 = (0 : Int32))) (hcz : ¬ (cz = (0 : Int32))) :
    MetFree l (⟨"java/lang/String", "<init>", "(Ljava/nio/charset/Charset;[BII)V"⟩ : MethodName) (head1 (Jvm.Cond.codeWith (⟨"java/lang/String", "<init>", "(Ljava/nio/charset/Charset;[BII)V"⟩ : MethodName) jdk_42_method_11_code 11 none [((800 : Nat), (813 : Nat), (816 : Nat), (202 : Nat))] :: ws) ({ frames := 3, cells := 1, slots := 8, locals := 71 } : Room)) (fun a U => a = #[(.ref a1), (.ref ca), (.ref t0), (.int (0 : Int32)), (.int p3)] ∧ Z.Warmed39 U.vm ∧ U.heap = h0) (fun _ _ _ _ _ => True) (fun _ U o U' => ∃ v L, o = .returned v ∧ Q_rmStrA Z a1 u1 u2 t0 kt nn bs p3 ca ut is cz h0 n0 v U'.heap L ∧ FrameEnd U o U' L ({ frames := 3, cells := 1, slots := 8, locals := 71 } : Room).cells ({ frames := 3, cells := 1, slots := 8, locals := 71 } : Room).slots) := by
  refine MetFree.of_bodySF (plainFor_of_name pn_java_lang_String) hisWith ?_
  intro p e s m args below meth c s₁ Bd hml0 hP hK
  obtain ⟨rfl, hZ, hh⟩ := hP
  have hx := Bd.exec
  have hby := Bd.bytes
  have hml : c.maxLocals = 11 := hml0
  have hown : s.vm.findClass "java/lang/String" = some m.cls := findClass_of_methodNamed Bd.named
  have hnm := (name_of_methodNamed Bd.named Bd.method).1
  have X0 : Stand p l e ({ frames := 3, cells := 1, slots := 8, locals := 71 } : Room) s m #[(.ref a1), (.ref ca), (.ref t0), (.int (0 : Int32)), (.int p3)] below meth c s₁ [] 0 0 := Stand.of_body Bd
  have e0 : s₁.heap = h0 := by rw [← hh, Bd.state]; rfl
  have N0 := Fr.nil n0
  suffices hR : ∀ P : State → Prop, (∀ s₂ o v L, s₂.status = .running → Ended s₂ below o → o = .returned v → Q_rmStrA Z a1 u1 u2 t0 kt nn bs p3 ca ut is cz h0 n0 v s₂.heap L → FrameEnd s o s₂ L ({ frames := 3, cells := 1, slots := 8, locals := 71 } : Room).cells ({ frames := 3, cells := 1, slots := 8, locals := 71 } : Room).slots → P s₂) → Rch p.tables e below P (s₁.setTop (mkF m 0 #[.val (.ref a1), .val (.ref ca), .val (.ref t0), .val (.int (0 : Int32)), .val (.int p3), .unset, .unset, .unset, .unset, .unset, .unset] [])) by
    obtain ⟨s₂, h1, o, h2⟩ := hR (fun s₂ => ∃ o, s₂.status = .running ∧ Ended s₂ below o ∧ ∃ v L, o = .returned v ∧ Q_rmStrA Z a1 u1 u2 t0 kt nn bs p3 ca ut is cz h0 n0 v s₂.heap L ∧ FrameEnd s o s₂ L ({ frames := 3, cells := 1, slots := 8, locals := 71 } : Room).cells ({ frames := 3, cells := 1, slots := 8, locals := 71 } : Room).slots) (fun s₂ o v L q1 q2 q3 q4 q5 => ⟨o, q1, q2, v, L, q3, q4, q5⟩)
    exact ⟨s₂, o, castTop (ef_rmStrA m a1 ca t0 p3) h1, h2⟩
  intro P hPd
  refine Rch.go (fun zt zk => XS.aloadN X0.here hx rfl (hb hby d16_0) rfl rfl zk) ?_
  show Rch _ _ _ _ (s₁.setTop (mkF m 1 #[.val (.ref a1), .val (.ref ca), .val (.ref t0), .val (.int (0 : Int32)), .val (.int p3), .unset, .unset, .unset, .unset, .unset, .unset] [(.ref a1)]))
  obtain ⟨T101, X101, e101, st101⟩ := initO X0 hx hZ hown (ow80 hw) (ow17 hw) (ow18 hw) e0 (g := (mkF m 1 #[.val (.ref a1), .val (.ref ca), .val (.ref t0), .val (.int (0 : Int32)), .val (.int p3), .unset, .unset, .unset, .unset, .unset, .unset] [(.ref a1)])) rfl (by rw [hml]; rfl) rfl (hb hby d16_1) (by decide) (W := 0) (by show 2 * 0 + _ ≤ _; exact Nat.le_of_eq rfl) (by decide)
  refine Rch.go st101 ?_
  show Rch _ _ _ _ (T101.setTop (mkF m 4 #[.val (.ref a1), .val (.ref ca), .val (.ref t0), .val (.int (0 : Int32)), .val (.int p3), .unset, .unset, .unset, .unset, .unset, .unset] []))
  refine Rch.go (fun zt zk => XS.iload X101.here hx rfl (hb hby d16_4) rfl zk) ?_
  show Rch _ _ _ _ (T101.setTop (mkF m 6 #[.val (.ref a1), .val (.ref ca), .val (.ref t0), .val (.int (0 : Int32)), .val (.int p3), .unset, .unset, .unset, .unset, .unset, .unset] [(.int p3)]))
  refine Rch.go (fun zt zk => XS.ifYes X101.here hx rfl (pc0 := 6) (pc' := 30) rfl (hb hby d16_6) rfl ((if0 _ _).trans (feq (hnz : ¬ (p3 = (0 : Int32)))).2) (by decide) (by decide) zk) ?_
  show Rch _ _ _ _ (T101.setTop (mkF m 30 #[.val (.ref a1), .val (.ref ca), .val (.ref t0), .val (.int (0 : Int32)), .val (.int p3), .unset, .unset, .unset, .unset, .unset, .unset] []))
  refine Rch.go (fun zt zk => XS.aloadN X101.here hx rfl (hb hby d16_30) rfl rfl zk) ?_
  show Rch _ _ _ _ (T101.setTop (mkF m 31 #[.val (.ref a1), .val (.ref ca), .val (.ref t0), .val (.int (0 : Int32)), .val (.int p3), .unset, .unset, .unset, .unset, .unset, .unset] [(.ref ca)]))
  have f102 := P6.ext P0.2
  obtain ⟨T103, X103, e103, st103⟩ := getS2 X101 hx hZ hown (host := "") (Or.inl (ow81 hw)) Via.refl e101 f102 (g := (mkF m 31 #[.val (.ref a1), .val (.ref ca), .val (.ref t0), .val (.int (0 : Int32)), .val (.int p3), .unset, .unset, .unset, .unset, .unset, .unset] [(.ref ca)])) rfl (hb hby d16_31)
  refine Rch.go st103 ?_
  show Rch _ _ _ _ (T103.setTop (mkF m 34 #[.val (.ref a1), .val (.ref ca), .val (.ref t0), .val (.int (0 : Int32)), .val (.int p3), .unset, .unset, .unset, .unset, .unset, .unset] [(.ref ut), (.ref ca)]))
  refine Rch.go (fun zt zk => Jvm.RoadKit.acmp (g := (mkF m 34 #[.val (.ref a1), .val (.ref ca), .val (.ref t0), .val (.int (0 : Int32)), .val (.int p3), .unset, .unset, .unset, .unset, .unset, .unset] [(.ref ut), (.ref ca)])) X103 hx rfl rfl rfl (pc0 := 34) (pc' := 346) (same := false) rfl (hb hby d16_34) rfl (decide_eq_false fun q => Pn0 (Value.ref.inj q)) (by decide) (by decide) zk) ?_
  show Rch _ _ _ _ (T103.setTop (mkF m 346 #[.val (.ref a1), .val (.ref ca), .val (.ref t0), .val (.int (0 : Int32)), .val (.int p3), .unset, .unset, .unset, .unset, .unset, .unset] []))
  refine Rch.go (fun zt zk => XS.aloadN X103.here hx rfl (hb hby d16_346) rfl rfl zk) ?_
  show Rch _ _ _ _ (T103.setTop (mkF m 347 #[.val (.ref a1), .val (.ref ca), .val (.ref t0), .val (.int (0 : Int32)), .val (.int p3), .unset, .unset, .unset, .unset, .unset, .unset] [(.ref ca)]))
  have f104 := P7.ext P0.2
  obtain ⟨T105, X105, e105, st105⟩ := getS2 X103 hx hZ hown (host := "") (Or.inl (ow83 hw)) Via.refl e103 f104 (g := (mkF m 347 #[.val (.ref a1), .val (.ref ca), .val (.ref t0), .val (.int (0 : Int32)), .val (.int p3), .unset, .unset, .unset, .unset, .unset, .unset] [(.ref ca)])) rfl (hb hby d16_347)
  refine Rch.go st105 ?_
  show Rch _ _ _ _ (T105.setTop (mkF m 350 #[.val (.ref a1), .val (.ref ca), .val (.ref t0), .val (.int (0 : Int32)), .val (.int p3), .unset, .unset, .unset, .unset, .unset, .unset] [(.ref is), (.ref ca)]))
  refine Rch.go (fun zt zk => Jvm.RoadKit.acmp (g := (mkF m 350 #[.val (.ref a1), .val (.ref ca), .val (.ref t0), .val (.int (0 : Int32)), .val (.int p3), .unset, .unset, .unset, .unset, .unset, .unset] [(.ref is), (.ref ca)])) X105 hx rfl rfl rfl (pc0 := 350) (pc' := 399) (same := false) rfl (hb hby d16_350) rfl (decide_eq_false fun q => Pn1 (Value.ref.inj q)) (by decide) (by decide) zk) ?_
  show Rch _ _ _ _ (T105.setTop (mkF m 399 #[.val (.ref a1), .val (.ref ca), .val (.ref t0), .val (.int (0 : Int32)), .val (.int p3), .unset, .unset, .unset, .unset, .unset, .unset] []))
  refine Rch.go (fun zt zk => XS.aloadN X105.here hx rfl (hb hby d16_399) rfl rfl zk) ?_
  show Rch _ _ _ _ (T105.setTop (mkF m 400 #[.val (.ref a1), .val (.ref ca), .val (.ref t0), .val (.int (0 : Int32)), .val (.int p3), .unset, .unset, .unset, .unset, .unset, .unset] [(.ref ca)]))
  have f106 := P8.ext P0.2
  obtain ⟨T107, X107, e107, st107⟩ := getS2 X105 hx hZ hown (host := "") (Or.inl (ow85 hw)) Via.refl e105 f106 (g := (mkF m 400 #[.val (.ref a1), .val (.ref ca), .val (.ref t0), .val (.int (0 : Int32)), .val (.int p3), .unset, .unset, .unset, .unset, .unset, .unset] [(.ref ca)])) rfl (hb hby d16_400)
  refine Rch.go st107 ?_
  show Rch _ _ _ _ (T107.setTop (mkF m 403 #[.val (.ref a1), .val (.ref ca), .val (.ref t0), .val (.int (0 : Int32)), .val (.int p3), .unset, .unset, .unset, .unset, .unset, .unset] [(.ref ca), (.ref ca)]))
  refine Rch.go (fun zt zk => Jvm.RoadKit.acmp (g := (mkF m 403 #[.val (.ref a1), .val (.ref ca), .val (.ref t0), .val (.int (0 : Int32)), .val (.int p3), .unset, .unset, .unset, .unset, .unset, .unset] [(.ref ca), (.ref ca)])) X107 hx rfl rfl rfl (pc0 := 403) (pc' := 406) (same := true) rfl (hb hby d16_403) rfl (decide_eq_true rfl) (by decide) (by decide) zk) ?_
  show Rch _ _ _ _ (T107.setTop (mkF m 406 #[.val (.ref a1), .val (.ref ca), .val (.ref t0), .val (.int (0 : Int32)), .val (.int p3), .unset, .unset, .unset, .unset, .unset, .unset] []))
  have f108 := P9.ext P0.2
  obtain ⟨T109, X109, e109, st109⟩ := getS2 X107 hx hZ hown (host := "") (Or.inl (ow87 hw)) Via.refl e107 f108 (g := (mkF m 406 #[.val (.ref a1), .val (.ref ca), .val (.ref t0), .val (.int (0 : Int32)), .val (.int p3), .unset, .unset, .unset, .unset, .unset, .unset] [])) rfl (hb hby d16_406)
  refine Rch.go st109 ?_
  show Rch _ _ _ _ (T109.setTop (mkF m 409 #[.val (.ref a1), .val (.ref ca), .val (.ref t0), .val (.int (0 : Int32)), .val (.int p3), .unset, .unset, .unset, .unset, .unset, .unset] [(.int cz)]))
  refine Rch.go (fun zt zk => XS.ifNo X109.here hx rfl (hb hby d16_409) rfl ((if0 _ _).trans (feq (hcz : ¬ (cz = (0 : Int32)))).1) zk) ?_
  show Rch _ _ _ _ (T109.setTop (mkF m 412 #[.val (.ref a1), .val (.ref ca), .val (.ref t0), .val (.int (0 : Int32)), .val (.int p3), .unset, .unset, .unset, .unset, .unset, .unset] []))
  refine Rch.go (fun zt zk => XS.aloadN X109.here hx rfl (hb hby d16_412) rfl rfl zk) ?_
  show Rch _ _ _ _ (T109.setTop (mkF m 413 #[.val (.ref a1), .val (.ref ca), .val (.ref t0), .val (.int (0 : Int32)), .val (.int p3), .unset, .unset, .unset, .unset, .unset, .unset] [(.ref t0)]))
  refine Rch.go (fun zt zk => XS.iloadN X109.here hx rfl (hb hby d16_413) rfl zk) ?_
  show Rch _ _ _ _ (T109.setTop (mkF m 414 #[.val (.ref a1), .val (.ref ca), .val (.ref t0), .val (.int (0 : Int32)), .val (.int p3), .unset, .unset, .unset, .unset, .unset, .unset] [(.int (0 : Int32)), (.ref t0)]))
  refine Rch.go (fun zt zk => XS.iload X109.here hx rfl (hb hby d16_414) rfl zk) ?_
  show Rch _ _ _ _ (T109.setTop (mkF m 416 #[.val (.ref a1), .val (.ref ca), .val (.ref t0), .val (.int (0 : Int32)), .val (.int p3), .unset, .unset, .unset, .unset, .unset, .unset] [(.int p3), (.int (0 : Int32)), (.ref t0)]))
  obtain ⟨_, _, ⟨T110, L110, k110, n110⟩, -, X110, ⟨Lc110, hQ110, l110, y110, z110⟩, st110⟩ := Jvm.LawKit.callS X109 hx (y := (⟨"java/lang/StringCoding", "hasNegatives", "([BII)Z"⟩ : MethodName)) hown (mvT hZ (ow88 hw)) (mvT hZ (ow89 hw)) (mvT hZ (ow90 hw)) (mvT hZ (ow91 hw)) (by decide) (backOf (W := 0) (rm17 l Z a0 hw [] (t0) (kt) (nn) (bs) (p3) h0 n0 Z0 (P5) (hn) (hp) (hpos)) hZ (ow91 hw) (ow90 hw) (by decide) (by decide)) (g := (mkF m 416 #[.val (.ref a1), .val (.ref ca), .val (.ref t0), .val (.int (0 : Int32)), .val (.int p3), .unset, .unset, .unset, .unset, .unset, .unset] [(.int p3), (.int (0 : Int32)), (.ref t0)])) rfl (by rw [hml]; rfl) (argsL := [(.ref t0), (.int (0 : Int32)), (.int p3)]) (rest := []) (lenOf pd___BII_Z rfl) rfl (by show 2 * 0 + _ ≤ _; exact Nat.le_of_eq rfl) (hb hby d16_416) (fun _ _ => ⟨rfl, e109, (by decide : 0 + 0 ≤ _), (by decide : 0 + 0 ≤ _)⟩)
  dsimp only [Pt.U, Pt.locs, Pt.cells, Pt.slots] at X110 l110 y110 z110 st110 hQ110
  subst l110 y110 z110
  obtain ⟨rfl, N110q, eq110⟩ := hQ110
  have N110 := Fr.app N0 N110q
  refine Rch.go st110 ?_
  show Rch _ _ _ _ (T110.setTop (mkF m 419 #[.val (.ref a1), .val (.ref ca), .val (.ref t0), .val (.int (0 : Int32)), .val (.int p3), .unset, .unset, .unset, .unset, .unset, .unset] [(.int (0 : Int32))]))
  refine Rch.go (fun zt zk => XS.ifNo X110.here hx rfl (hb hby d16_419) rfl ((if0 _ _).trans (teq (rfl : (0 : Int32) = (0 : Int32))).2) zk) ?_
  show Rch _ _ _ _ (T110.setTop (mkF m 422 #[.val (.ref a1), .val (.ref ca), .val (.ref t0), .val (.int (0 : Int32)), .val (.int p3), .unset, .unset, .unset, .unset, .unset, .unset] []))
  refine Rch.go (fun zt zk => XS.aloadN X110.here hx rfl (hb hby d16_422) rfl rfl zk) ?_
  show Rch _ _ _ _ (T110.setTop (mkF m 423 #[.val (.ref a1), .val (.ref ca), .val (.ref t0), .val (.int (0 : Int32)), .val (.int p3), .unset, .unset, .unset, .unset, .unset, .unset] [(.ref a1)]))
  refine Rch.go (fun zt zk => XS.aloadN X110.here hx rfl (hb hby d16_423) rfl rfl zk) ?_
  show Rch _ _ _ _ (T110.setTop (mkF m 424 #[.val (.ref a1), .val (.ref ca), .val (.ref t0), .val (.int (0 : Int32)), .val (.int p3), .unset, .unset, .unset, .unset, .unset, .unset] [(.ref t0), (.ref a1)]))
  refine Rch.go (fun zt zk => XS.iloadN X110.here hx rfl (hb hby d16_424) rfl zk) ?_
  show Rch _ _ _ _ (T110.setTop (mkF m 425 #[.val (.ref a1), .val (.ref ca), .val (.ref t0), .val (.int (0 : Int32)), .val (.int p3), .unset, .unset, .unset, .unset, .unset, .unset] [(.int (0 : Int32)), (.ref t0), (.ref a1)]))
  refine Rch.go (fun zt zk => XS.iloadN X110.here hx rfl (hb hby d16_425) rfl zk) ?_
  show Rch _ _ _ _ (T110.setTop (mkF m 426 #[.val (.ref a1), .val (.ref ca), .val (.ref t0), .val (.int (0 : Int32)), .val (.int p3), .unset, .unset, .unset, .unset, .unset, .unset] [(.int (0 : Int32)), (.int (0 : Int32)), (.ref t0), (.ref a1)]))
  refine Rch.go (fun zt zk => XS.iload X110.here hx rfl (hb hby d16_426) rfl zk) ?_
  show Rch _ _ _ _ (T110.setTop (mkF m 428 #[.val (.ref a1), .val (.ref ca), .val (.ref t0), .val (.int (0 : Int32)), .val (.int p3), .unset, .unset, .unset, .unset, .unset, .unset] [(.int p3), (.int (0 : Int32)), (.int (0 : Int32)), (.ref t0), (.ref a1)]))
  refine Rch.go (fun zt zk => XS.iadd X110.here hx rfl (hb hby d16_428) rfl zk) ?_
  show Rch _ _ _ _ (T110.setTop (mkF m 429 #[.val (.ref a1), .val (.ref ca), .val (.ref t0), .val (.int (0 : Int32)), .val (.int p3), .unset, .unset, .unset, .unset, .unset, .unset] [(.int ((0 : Int32) + p3)), (.int (0 : Int32)), (.ref t0), (.ref a1)]))
  obtain ⟨_, _, ⟨T111, L111, k111, n111⟩, -, X111, ⟨Lc111, hQ111, l111, y111, z111⟩, st111⟩ := Jvm.LawKit.callS X110 hx (y := (⟨"java/util/Arrays", "copyOfRange", "([BII)[B"⟩ : MethodName)) hown (mvT hZ (ow95 hw)) (mvT hZ (ow96 hw)) (mvT hZ (ow97 hw)) (mvT hZ (ow98 hw)) (by decide) (backOf (W := 1) (rm19 l Z a0 hw [] (t0) (kt) (nn) (bs) (((0 : Int32) + p3)) h0 n0 Z0 (P4) (P5) (hn) ((by rw [own_za]; exact hp))) hZ (ow98 hw) (ow97 hw) (by decide) (by decide)) (g := (mkF m 429 #[.val (.ref a1), .val (.ref ca), .val (.ref t0), .val (.int (0 : Int32)), .val (.int p3), .unset, .unset, .unset, .unset, .unset, .unset] [(.int ((0 : Int32) + p3)), (.int (0 : Int32)), (.ref t0), (.ref a1)])) rfl (by rw [hml]; rfl) (argsL := [(.ref t0), (.int (0 : Int32)), (.int ((0 : Int32) + p3))]) (rest := [(.ref a1)]) (lenOf pd___BII__B rfl) rfl (by show 2 * 0 + _ ≤ _; exact Nat.le_of_eq rfl) (hb hby d16_429) (fun _ _ => ⟨rfl, eq110, (by decide : 0 + 1 ≤ _), (by decide : 0 + 8 ≤ _)⟩)
  dsimp only [Pt.U, Pt.locs, Pt.cells, Pt.slots] at X111 l111 y111 z111 st111 hQ111
  subst l111 y111 z111
  obtain ⟨⟨b111, kb111, vs111, rfl, gb111, gh111, V111⟩, N111q, K111q⟩ := hQ111
  have N111 := Fr.app N110 N111q
  have ne_a1_b111 : a1 ≠ b111 := Nat.ne_of_lt (Nat.lt_of_lt_of_le P1.lt gh111)
  have ne_t0_b111 : t0 ≠ b111 := Nat.ne_of_lt (Nat.lt_of_lt_of_le P4.lt gh111)
  have gk111 : h0.size ≤ b111 := Nat.le_trans (Keep.refl h0 [a1]).1 gh111
  have K111 := Keep.trans (Keep.refl h0 [a1]) K111q all0
  rw [own_za p3] at V111
  refine Rch.go st111 ?_
  show Rch _ _ _ _ (T111.setTop (mkF m 432 #[.val (.ref a1), .val (.ref ca), .val (.ref t0), .val (.int (0 : Int32)), .val (.int p3), .unset, .unset, .unset, .unset, .unset, .unset] [(.ref b111), (.ref a1)]))
  have f112 := (P1.keep K111q)
  have f113 := (P2.keep K111q nin0)
  obtain ⟨T114, h114, X114, e114, W114, st114⟩ := putF X111 hx hZ hown (host := "") (Or.inl (ow113 hw)) Via.refl rfl f113 f112 (Or.inr ⟨(ow114 hw), rfl, hnm⟩) (ow55 hw) (ty := (.array .byte)) (by decide) rfl rfl (g := (mkF m 432 #[.val (.ref a1), .val (.ref ca), .val (.ref t0), .val (.int (0 : Int32)), .val (.int p3), .unset, .unset, .unset, .unset, .unset, .unset] [(.ref b111), (.ref a1)])) rfl rfl (hb hby d16_432)
  refine Rch.go st114 ?_
  have Fw114 := f113.same W114
  have N114 := Fr.snoc X114 N111 Pg_a1
  have K114 : Keep h0 h114 [a1] := Keep.wr K111 W114 (Or.inl (List.mem_of_getElem? (i := 0) rfl))
  show Rch _ _ _ _ (T114.setTop (mkF m 435 #[.val (.ref a1), .val (.ref ca), .val (.ref t0), .val (.int (0 : Int32)), .val (.int p3), .unset, .unset, .unset, .unset, .unset, .unset] []))
  refine Rch.go (fun zt zk => XS.aloadN X114.here hx rfl (hb hby d16_435) rfl rfl zk) ?_
  show Rch _ _ _ _ (T114.setTop (mkF m 436 #[.val (.ref a1), .val (.ref ca), .val (.ref t0), .val (.int (0 : Int32)), .val (.int p3), .unset, .unset, .unset, .unset, .unset, .unset] [(.ref a1)]))
  refine Rch.go (fun zt zk => XS.iconst X114.here hx rfl (hb hby d16_436) zk) ?_
  show Rch _ _ _ _ (T114.setTop (mkF m 437 #[.val (.ref a1), .val (.ref ca), .val (.ref t0), .val (.int (0 : Int32)), .val (.int p3), .unset, .unset, .unset, .unset, .unset, .unset] [(.int (0 : Int32)), (.ref a1)]))
  have f115 := (f112.wr W114)
  have f116 := ((P3.keep K111q nin0).other W114 (Or.inr (slot_ne (Or.inr (ow116 hw)) (Or.inr (ow114 hw)) (by decide) (t := .byte) (t' := (.array .byte)) (by decide) (by decide))))
  obtain ⟨T117, h117, X117, e117, W117, st117⟩ := putFN X114 hx hZ hown (ow115 hw) Via.refl e114 f116 f115 (Or.inr ⟨(ow116 hw), rfl, hnm⟩) (ow55 hw) (ty := .byte) (v' := (.int (nar .byte (0 : Int32)))) (by decide) rfl (fits_nar_byte _) (g := (mkF m 437 #[.val (.ref a1), .val (.ref ca), .val (.ref t0), .val (.int (0 : Int32)), .val (.int p3), .unset, .unset, .unset, .unset, .unset, .unset] [(.int (0 : Int32)), (.ref a1)])) rfl rfl (hb hby d16_437)
  refine Rch.go st117 ?_
  have Fw117 := f116.same W117
  have N117 := Fr.snoc X117 N114 Pg_a1
  have K117 : Keep h0 h117 [a1] := Keep.wr K114 W117 (Or.inl (List.mem_of_getElem? (i := 0) rfl))
  show Rch _ _ _ _ (T117.setTop (mkF m 440 #[.val (.ref a1), .val (.ref ca), .val (.ref t0), .val (.int (0 : Int32)), .val (.int p3), .unset, .unset, .unset, .unset, .unset, .unset] []))
  refine Rch.go (fun zt zk => XS.goto X117.here hx rfl (pc0 := 440) (pc' := 879) rfl (hb hby d16_440) (by decide) (by decide) zk) ?_
  show Rch _ _ _ _ (T117.setTop (mkF m 879 #[.val (.ref a1), .val (.ref ca), .val (.ref t0), .val (.int (0 : Int32)), .val (.int p3), .unset, .unset, .unset, .unset, .unset, .unset] []))
  obtain ⟨fs, hr, hrun, hended, hW, hsame⟩ := X117.leave (v := none) (fun _ => rfl)
  refine Rch.mk (X117.returnOut hx Bd.returns (hb hby d16_879) hr) (hPd _ _ _ _ hrun hended rfl ?_ ⟨⟨_, rfl⟩, hW, hsame.mono (by decide) (by decide)⟩)
  show Q_rmStrA Z a1 u1 u2 t0 kt nn bs p3 ca ut is cz h0 n0 _ T117.heap _
  rw [e117]
  have f118 := (f115.wr W117)
  have f119 := (Fw114.other W117 (Or.inr (slot_ne (Or.inr (ow114 hw)) (Or.inr (ow116 hw)) (by decide) (t := (.array .byte)) (t' := .byte) (by decide) (by decide))))
  have f120 := ((V111.other W114 (Ne.symm ne_a1_b111)).other W117 (Ne.symm ne_a1_b111))
  exact ⟨rfl, N117, K117, f118, Fw117, b111, _, _, gb111, gk111, f119, f120⟩
theorem ef_rmStrB (m : MethodId) (a1 : Addr) (t0 : Addr) (p3 : Int32) (ca : Addr) : entryFrame m #[(.ref a1), (.ref t0), (.int (0 : Int32)), (.int p3), (.ref ca)] 5 = mkF m 0 #[.val (.ref a1), .val (.ref t0), .val (.int (0 : Int32)), .val (.int p3), .val (.ref ca)] [] := by first | (simp [entryFrame, mkF, argsToLocals, Value.category]; done) | rfl
theorem d12_0 : decode jdk_42_method_10_code 0 = .ok (.aload_n 0, 1) := by decide +kernel
theorem d12_1 : decode jdk_42_method_10_code 1 = .ok (.aload 4, 2) := by decide +kernel
theorem d12_3 : decode jdk_42_method_10_code 3 = .ok (.invokestatic 78, 3) := by decide +kernel
theorem pd__Ljava_lang_Object__Ljava_lang_Object_ : parseMethodDescriptor "(Ljava/lang/Object;)Ljava/lang/Object;" = some ⟨[(.object "java/lang/Object")], some (.object "java/lang/Object")⟩ := by decide +kernel
theorem d12_6 : decode jdk_42_method_10_code 6 = .ok (.checkcast 84, 3) := by decide +kernel
theorem d12_9 : decode jdk_42_method_10_code 9 = .ok (.aload_n 1, 1) := by decide +kernel
theorem d12_10 : decode jdk_42_method_10_code 10 = .ok (.iload_n 2, 1) := by decide +kernel
theorem d12_11 : decode jdk_42_method_10_code 11 = .ok (.iload_n 3, 1) := by decide +kernel
theorem d12_12 : decode jdk_42_method_10_code 12 = .ok (.aload_n 1, 1) := by decide +kernel
theorem d12_13 : decode jdk_42_method_10_code 13 = .ok (.arraylength, 1) := by decide +kernel
theorem d12_14 : decode jdk_42_method_10_code 14 = .ok (.invokestatic 34, 3) := by decide +kernel
theorem pd__III_I : parseMethodDescriptor "(III)I" = some ⟨[.int, .int, .int], some .int⟩ := by decide +kernel
theorem d12_17 : decode jdk_42_method_10_code 17 = .ok (.iload_n 3, 1) := by decide +kernel
theorem d12_18 : decode jdk_42_method_10_code 18 = .ok (.invokespecial 75, 3) := by decide +kernel
theorem pd__Ljava_nio_charset_Charset__BII_V : parseMethodDescriptor "(Ljava/nio/charset/Charset;[BII)V" = some ⟨[(.object "java/nio/charset/Charset"), (.array .byte), .int, .int], none⟩ := by decide +kernel
theorem d12_21 : decode jdk_42_method_10_code 21 = .ok (.return_, 1) := by decide +kernel
def Q_rmStrB (Z : State) (a1 : Addr) (u1 : Value) (u2 : Value) (t0 : Addr) (kt : ClassId) (nn : Int32) (bs : List Int32) (p3 : Int32) (ca : Addr) (ut : Addr) (is : Addr) (cz : Int32) (rG : Value) (h0 : Heap) (n0 : Nat) (v : Option Value) (h : Heap) (L : List Loc) : Prop := v = none ∧ Fr n0 L ∧ Keep h0 h [a1] ∧ Exa Z h a1 "java/lang/String" ∧ Fld Z h a1 "java/lang/String" "coder" "B" (.int (nar .byte (0 : Int32))) ∧ ∃ (b : Addr) (kb : ClassId) (vs : List Value), n0 ≤ b ∧ h0.size ≤ b ∧ Fld Z h a1 "java/lang/String" "value" "[B" (.ref b) ∧ Arv Z h b kb .byte p3 vs (.int (0 : Int32))
set_option maxRecDepth 65536 in
set_option maxHeartbeats 40000000 in
theorem rmStrB (l : Launch) (Z : State) (a0 : Array Value) (hw : ∀ d ∈ tables_1, d.before a0 Z = true) (ws : List Jvm.Cond) (a1 : Addr) (u1 : Value) (u2 : Value) (t0 : Addr) (kt : ClassId) (nn : Int32) (bs : List Int32) (p3 : Int32) (ca : Addr) (ut : Addr) (is : Addr) (cz : Int32) (rG : Value) (h0 : Heap) (n0 : Nat) (Z0 : n0 ≤ h0.size) (P0 : Old Z n0 h0) (P1 : Exa Z h0 a1 "java/lang/String") (P2 : Fld Z h0 a1 "java/lang/String" "value" "[B" u1) (P3 : Fld Z h0 a1 "java/lang/String" "coder" "B" u2) (P4 : Exa Z h0 t0 "[B") (P5 : Arv Z h0 t0 kt .byte nn (bs.map Value.int) (.int (0 : Int32))) (P6 : Sta Z Z.heap "sun/nio/cs/UTF_8" "INSTANCE" "Lsun/nio/cs/UTF_8;" (.ref ut)) (P7 : Sta Z Z.heap "sun/nio/cs/ISO_8859_1" "INSTANCE" "Lsun/nio/cs/ISO_8859_1;" (.ref is)) (P8 : Sta Z Z.heap "sun/nio/cs/US_ASCII" "INSTANCE" "Lsun/nio/cs/US_ASCII;" (.ref ca)) (P9 : Sta Z Z.heap "java/lang/String" "COMPACT_STRINGS" "Z" (.int cz)) (P10 : Exa Z h0 ca "sun/nio/cs/US_ASCII") (P11 : Sta Z Z.heap "jdk/internal/util/Preconditions" "SIOOBE_FORMATTER" "Ljava/util/function/BiFunction;" rG) (Pn0 : ca ≠ ut) (Pn1 : ca ≠ is) (Pn2 : t0 ≠ a1) (Pg_a1 : n0 ≤ a1) (hn : Len nn bs) (hp : 0 ≤ p3.toInt ∧ p3.toInt ≤ nn.toInt) (hpos : ∀ i : Int32, 0 ≤ i.toInt → i.toInt < p3.toInt → ¬ (bAt bs i < (0 : Int32))) (hnz : ¬ (p3 = (0 : Int32))) (hcz : ¬ (cz = (0 : Int32))) (hrG : rG.isRef = true) :
    MetFree l (⟨"java/lang/String", "<init>", "([BIILjava/nio/charset/Charset;)V"⟩ : MethodName) (head1 (Jvm.Cond.code (⟨"java/lang/String", "<init>", "([BIILjava/nio/charset/Charset;)V"⟩ : MethodName) jdk_42_method_10_code 5 none :: ws) ({ frames := 4, cells := 1, slots := 8, locals := 93 } : Room)) (fun a U => a = #[(.ref a1), (.ref t0), (.int (0 : Int32)), (.int p3), (.ref ca)] ∧ Z.Warmed39 U.vm ∧ U.heap = h0) (fun _ _ _ _ _ => True) (fun _ U o U' => ∃ v L, o = .returned v ∧ Q_rmStrB Z a1 u1 u2 t0 kt nn bs p3 ca ut is cz rG h0 n0 v U'.heap L ∧ FrameEnd U o U' L ({ frames := 4, cells := 1, slots := 8, locals := 93 } : Room).cells ({ frames := 4, cells := 1, slots := 8, locals := 93 } : Room).slots) := by
  refine MetFree.of_bodySF (plainFor_of_name pn_java_lang_String) hisR ?_
  intro p e s m args below meth c s₁ Bd hml0 hP hK
  obtain ⟨rfl, hZ, hh⟩ := hP
  have hx := Bd.exec
  have hby := Bd.bytes
  have hml : c.maxLocals = 5 := hml0
  have hown : s.vm.findClass "java/lang/String" = some m.cls := findClass_of_methodNamed Bd.named
  have hnm := (name_of_methodNamed Bd.named Bd.method).1
  have X0 : Stand p l e ({ frames := 4, cells := 1, slots := 8, locals := 93 } : Room) s m #[(.ref a1), (.ref t0), (.int (0 : Int32)), (.int p3), (.ref ca)] below meth c s₁ [] 0 0 := Stand.of_body Bd
  have e0 : s₁.heap = h0 := by rw [← hh, Bd.state]; rfl
  have N0 := Fr.nil n0
  suffices hR : ∀ P : State → Prop, (∀ s₂ o v L, s₂.status = .running → Ended s₂ below o → o = .returned v → Q_rmStrB Z a1 u1 u2 t0 kt nn bs p3 ca ut is cz rG h0 n0 v s₂.heap L → FrameEnd s o s₂ L ({ frames := 4, cells := 1, slots := 8, locals := 93 } : Room).cells ({ frames := 4, cells := 1, slots := 8, locals := 93 } : Room).slots → P s₂) → Rch p.tables e below P (s₁.setTop (mkF m 0 #[.val (.ref a1), .val (.ref t0), .val (.int (0 : Int32)), .val (.int p3), .val (.ref ca)] [])) by
    obtain ⟨s₂, h1, o, h2⟩ := hR (fun s₂ => ∃ o, s₂.status = .running ∧ Ended s₂ below o ∧ ∃ v L, o = .returned v ∧ Q_rmStrB Z a1 u1 u2 t0 kt nn bs p3 ca ut is cz rG h0 n0 v s₂.heap L ∧ FrameEnd s o s₂ L ({ frames := 4, cells := 1, slots := 8, locals := 93 } : Room).cells ({ frames := 4, cells := 1, slots := 8, locals := 93 } : Room).slots) (fun s₂ o v L q1 q2 q3 q4 q5 => ⟨o, q1, q2, v, L, q3, q4, q5⟩)
    exact ⟨s₂, o, castTop (ef_rmStrB m a1 t0 p3 ca) h1, h2⟩
  intro P hPd
  refine Rch.go (fun zt zk => XS.aloadN X0.here hx rfl (hb hby d12_0) rfl rfl zk) ?_
  show Rch _ _ _ _ (s₁.setTop (mkF m 1 #[.val (.ref a1), .val (.ref t0), .val (.int (0 : Int32)), .val (.int p3), .val (.ref ca)] [(.ref a1)]))
  refine Rch.go (fun zt zk => XS.aload X0.here hx rfl (hb hby d12_1) rfl rfl zk) ?_
  show Rch _ _ _ _ (s₁.setTop (mkF m 3 #[.val (.ref a1), .val (.ref t0), .val (.int (0 : Int32)), .val (.int p3), .val (.ref ca)] [(.ref ca), (.ref a1)]))
  obtain ⟨_, _, ⟨T101, L101, k101, n101⟩, -, X101, ⟨Lc101, hQ101, l101, y101, z101⟩, st101⟩ := Jvm.LawKit.callS X0 hx (y := (⟨"java/util/Objects", "requireNonNull", "(Ljava/lang/Object;)Ljava/lang/Object;"⟩ : MethodName)) hown (mvT hZ (ow62 hw)) (mvT hZ (ow63 hw)) (mvT hZ (ow64 hw)) (mvT hZ (ow65 hw)) (by decide) (backOf (W := 1) (rm13 l Z a0 hw [] (ca) h0 n0 Z0 ) hZ (ow65 hw) (ow64 hw) (by decide) (by decide)) (g := (mkF m 3 #[.val (.ref a1), .val (.ref t0), .val (.int (0 : Int32)), .val (.int p3), .val (.ref ca)] [(.ref ca), (.ref a1)])) rfl (by rw [hml]; rfl) (argsL := [(.ref ca)]) (rest := [(.ref a1)]) (lenOf pd__Ljava_lang_Object__Ljava_lang_Object_ rfl) rfl (by show 2 * 0 + _ ≤ _; exact Nat.le_of_eq rfl) (hb hby d12_3) (fun _ _ => ⟨rfl, e0, (by decide : 0 + 0 ≤ _), (by decide : 0 + 0 ≤ _)⟩)
  dsimp only [Pt.U, Pt.locs, Pt.cells, Pt.slots] at X101 l101 y101 z101 st101 hQ101
  subst l101 y101 z101
  obtain ⟨rfl, N101q, eq101⟩ := hQ101
  have N101 := Fr.app N0 N101q
  refine Rch.go st101 ?_
  show Rch _ _ _ _ (T101.setTop (mkF m 6 #[.val (.ref a1), .val (.ref t0), .val (.int (0 : Int32)), .val (.int p3), .val (.ref ca)] [(.ref ca), (.ref a1)]))
  obtain ⟨T102, X102, e102, st102⟩ := castY X101 hx hZ hown (ow66 hw) eq101 (Ins.of_exa P10 (ow67 hw)) (g := (mkF m 6 #[.val (.ref a1), .val (.ref t0), .val (.int (0 : Int32)), .val (.int p3), .val (.ref ca)] [(.ref ca), (.ref a1)])) rfl rfl (hb hby d12_6)
  refine Rch.go st102 ?_
  show Rch _ _ _ _ (T102.setTop (mkF m 9 #[.val (.ref a1), .val (.ref t0), .val (.int (0 : Int32)), .val (.int p3), .val (.ref ca)] [(.ref ca), (.ref a1)]))
  refine Rch.go (fun zt zk => XS.aloadN X102.here hx rfl (hb hby d12_9) rfl rfl zk) ?_
  show Rch _ _ _ _ (T102.setTop (mkF m 10 #[.val (.ref a1), .val (.ref t0), .val (.int (0 : Int32)), .val (.int p3), .val (.ref ca)] [(.ref t0), (.ref ca), (.ref a1)]))
  refine Rch.go (fun zt zk => XS.iloadN X102.here hx rfl (hb hby d12_10) rfl zk) ?_
  show Rch _ _ _ _ (T102.setTop (mkF m 11 #[.val (.ref a1), .val (.ref t0), .val (.int (0 : Int32)), .val (.int p3), .val (.ref ca)] [(.int (0 : Int32)), (.ref t0), (.ref ca), (.ref a1)]))
  refine Rch.go (fun zt zk => XS.iloadN X102.here hx rfl (hb hby d12_11) rfl zk) ?_
  show Rch _ _ _ _ (T102.setTop (mkF m 12 #[.val (.ref a1), .val (.ref t0), .val (.int (0 : Int32)), .val (.int p3), .val (.ref ca)] [(.int p3), (.int (0 : Int32)), (.ref t0), (.ref ca), (.ref a1)]))
  refine Rch.go (fun zt zk => XS.aloadN X102.here hx rfl (hb hby d12_12) rfl rfl zk) ?_
  show Rch _ _ _ _ (T102.setTop (mkF m 13 #[.val (.ref a1), .val (.ref t0), .val (.int (0 : Int32)), .val (.int p3), .val (.ref ca)] [(.ref t0), (.int p3), (.int (0 : Int32)), (.ref t0), (.ref ca), (.ref a1)]))
  obtain ⟨cl103, Ar103, q103, S103, M103, H103, G103⟩ := id P5
  refine Rch.go (X102.arraylength hx (by rw [e102]; exact Ar103.1) (State.isArrayOf_alike hZ.alike Ar103.2.1) (g := (mkF m 13 #[.val (.ref a1), .val (.ref t0), .val (.int (0 : Int32)), .val (.int p3), .val (.ref ca)] [(.ref t0), (.int p3), (.int (0 : Int32)), (.ref t0), (.ref ca), (.ref a1)])) rfl rfl (hb hby d12_13)) ?_
  rw [len_of S103 M103]
  show Rch _ _ _ _ (T102.setTop (mkF m 14 #[.val (.ref a1), .val (.ref t0), .val (.int (0 : Int32)), .val (.int p3), .val (.ref ca)] [(.int nn), (.int p3), (.int (0 : Int32)), (.ref t0), (.ref ca), (.ref a1)]))
  obtain ⟨_, _, ⟨T104, L104, k104, n104⟩, -, X104, ⟨Lc104, hQ104, l104, y104, z104⟩, st104⟩ := Jvm.LawKit.callS X102 hx (y := (⟨"java/lang/String", "checkBoundsOffCount", "(III)I"⟩ : MethodName)) hown (mvT hZ (ow68 hw)) (mvT hZ (ow69 hw)) (mvT hZ (ow56 hw)) (mvT hZ (ow70 hw)) (by decide) (backOf (W := 3) (rm14 l Z a0 hw [] (p3) (nn) (rG) h0 n0 Z0 (P0) (P11) (hp) (hrG)) hZ (ow70 hw) (ow56 hw) (by decide) (by decide)) (g := (mkF m 14 #[.val (.ref a1), .val (.ref t0), .val (.int (0 : Int32)), .val (.int p3), .val (.ref ca)] [(.int nn), (.int p3), (.int (0 : Int32)), (.ref t0), (.ref ca), (.ref a1)])) rfl (by rw [hml]; rfl) (argsL := [(.int (0 : Int32)), (.int p3), (.int nn)]) (rest := [(.ref t0), (.ref ca), (.ref a1)]) (lenOf pd__III_I rfl) rfl (by show 2 * 0 + _ ≤ _; exact Nat.le_of_eq rfl) (hb hby d12_14) (fun _ _ => ⟨rfl, e102, (by decide : 0 + 0 ≤ _), (by decide : 0 + 0 ≤ _)⟩)
  dsimp only [Pt.U, Pt.locs, Pt.cells, Pt.slots] at X104 l104 y104 z104 st104 hQ104
  subst l104 y104 z104
  obtain ⟨rfl, N104q, eq104⟩ := hQ104
  have N104 := Fr.app N101 N104q
  refine Rch.go st104 ?_
  show Rch _ _ _ _ (T104.setTop (mkF m 17 #[.val (.ref a1), .val (.ref t0), .val (.int (0 : Int32)), .val (.int p3), .val (.ref ca)] [(.int (0 : Int32)), (.ref t0), (.ref ca), (.ref a1)]))
  refine Rch.go (fun zt zk => XS.iloadN X104.here hx rfl (hb hby d12_17) rfl zk) ?_
  show Rch _ _ _ _ (T104.setTop (mkF m 18 #[.val (.ref a1), .val (.ref t0), .val (.int (0 : Int32)), .val (.int p3), .val (.ref ca)] [(.int p3), (.int (0 : Int32)), (.ref t0), (.ref ca), (.ref a1)]))
  obtain ⟨_, _, ⟨T105, L105, k105, n105⟩, -, X105, ⟨Lc105, hQ105, l105, y105, z105⟩, st105⟩ := X104.specialBackH hx (y := (⟨"java/lang/String", "<init>", "(Ljava/nio/charset/Charset;[BII)V"⟩ : MethodName)) rfl hown (mvT hZ (ow76 hw)) (mvT hZ (ow77 hw)) (mvT hZ (ow79 hw)) (by decide) (backOfWith (W := 0) (rmStrA l Z a0 hw [] (a1) (u1) (u2) (t0) (kt) (nn) (bs) (p3) (ca) (ut) (is) (cz) h0 n0 Z0 (P0) (P1) (P2) (P3) (P4) (P5) (P6) (P7) (P8) (P9) (Pn0) (Pn1) (Pn2) (Pg_a1) (hn) (hp) (hpos) (hnz) (hcz)) hZ (ow79 hw) (ow56 hw) (by decide) (by decide)) (g := (mkF m 18 #[.val (.ref a1), .val (.ref t0), .val (.int (0 : Int32)), .val (.int p3), .val (.ref ca)] [(.int p3), (.int (0 : Int32)), (.ref t0), (.ref ca), (.ref a1)])) rfl (by rw [hml]; rfl) (Steps.refl _) (a := a1) (argsL := [(.ref ca), (.ref t0), (.int (0 : Int32)), (.int p3)]) (rest := []) (lenOf pd__Ljava_nio_charset_Charset__BII_V rfl) rfl (by show 2 * 0 + _ ≤ _; exact Nat.le_of_eq rfl) (hb hby d12_18) (fun _ _ => ⟨rfl, eq104, (by decide : 0 + 1 ≤ _), (by decide : 0 + 8 ≤ _)⟩)
  dsimp only [Pt.U, Pt.locs, Pt.cells, Pt.slots] at X105 l105 y105 z105 st105 hQ105
  subst l105 y105 z105
  obtain ⟨rfl, N105q, K105q, E105, C105, b105, kb105, vs105, gb105, gh105, F105, V105⟩ := hQ105
  have N105 := Fr.app N104 N105q
  have ne_a1_b105 : a1 ≠ b105 := Nat.ne_of_lt (Nat.lt_of_lt_of_le P1.lt gh105)
  have ne_t0_b105 : t0 ≠ b105 := Nat.ne_of_lt (Nat.lt_of_lt_of_le P4.lt gh105)
  have ne_ca_b105 : ca ≠ b105 := Nat.ne_of_lt (Nat.lt_of_lt_of_le P10.lt gh105)
  have gk105 : h0.size ≤ b105 := Nat.le_trans (Keep.refl h0 [a1]).1 gh105
  have K105 := Keep.trans (Keep.refl h0 [a1]) K105q (allS (Or.inl (List.mem_of_getElem? (i := 0) rfl)) all0)
  refine Rch.go (fun zt zk => st105.trans zk) ?_
  show Rch _ _ _ _ (T105.setTop (mkF m 21 #[.val (.ref a1), .val (.ref t0), .val (.int (0 : Int32)), .val (.int p3), .val (.ref ca)] []))
  obtain ⟨fs, hr, hrun, hended, hW, hsame⟩ := X105.leave (v := none) (fun _ => rfl)
  refine Rch.mk (X105.returnOut hx Bd.returns (hb hby d12_21) hr) (hPd _ _ _ _ hrun hended rfl ?_ ⟨⟨_, rfl⟩, hW, hsame.mono (by decide) (by decide)⟩)
  show Q_rmStrB Z a1 u1 u2 t0 kt nn bs p3 ca ut is cz rG h0 n0 _ T105.heap _
  exact ⟨rfl, N105, K105, E105, C105, b105, _, _, gb105, gk105, F105, V105⟩
theorem ef_rmNext (m : MethodId) (a1 : Addr) : entryFrame m #[(.ref a1)] 2 = mkF m 0 #[.val (.ref a1), .unset] [] := by first | (simp [entryFrame, mkF, argsToLocals, Value.category]; done) | rfl
theorem d8_0 : decode prog_14_method_9_code 0 = .ok (.aload_n 0, 1) := by decide +kernel
theorem d8_1 : decode prog_14_method_9_code 1 = .ok (.invokevirtual 13, 3) := by decide +kernel
theorem d8_4 : decode prog_14_method_9_code 4 = .ok (.aload_n 0, 1) := by decide +kernel
theorem d8_5 : decode prog_14_method_9_code 5 = .ok (.getfield 16, 3) := by decide +kernel
theorem d8_8 : decode prog_14_method_9_code 8 = .ok (.istore_n 1, 1) := by decide +kernel
theorem d8_9 : decode prog_14_method_9_code 9 = .ok (.aload_n 0, 1) := by decide +kernel
theorem d8_10 : decode prog_14_method_9_code 10 = .ok (.bipush 45, 2) := by decide +kernel
theorem d8_12 : decode prog_14_method_9_code 12 = .ok (.iconst 0, 1) := by decide +kernel
theorem d8_13 : decode prog_14_method_9_code 13 = .ok (.invokevirtual 100, 3) := by decide +kernel
theorem pd__CZ_Z : parseMethodDescriptor "(CZ)Z" = some ⟨[.char, .boolean], some .boolean⟩ := by decide +kernel
theorem d8_16 : decode prog_14_method_9_code 16 = .ok (.pop, 1) := by decide +kernel
theorem d8_17 : decode prog_14_method_9_code 17 = .ok (.aload_n 0, 1) := by decide +kernel
theorem d8_18 : decode prog_14_method_9_code 18 = .ok (.bipush 48, 2) := by decide +kernel
theorem d8_20 : decode prog_14_method_9_code 20 = .ok (.iconst 0, 1) := by decide +kernel
theorem d8_21 : decode prog_14_method_9_code 21 = .ok (.invokevirtual 100, 3) := by decide +kernel
theorem d8_24 : decode prog_14_method_9_code 24 = .ok (.ifCond .ne 7, 3) := by decide +kernel
theorem d8_27 : decode prog_14_method_9_code 27 = .ok (.aload_n 0, 1) := by decide +kernel
theorem d8_28 : decode prog_14_method_9_code 28 = .ok (.invokevirtual 103, 3) := by decide +kernel
theorem d8_31 : decode prog_14_method_9_code 31 = .ok (.aload_n 0, 1) := by decide +kernel
theorem d8_32 : decode prog_14_method_9_code 32 = .ok (.bipush 46, 2) := by decide +kernel
theorem d8_34 : decode prog_14_method_9_code 34 = .ok (.iconst 0, 1) := by decide +kernel
theorem d8_35 : decode prog_14_method_9_code 35 = .ok (.invokevirtual 100, 3) := by decide +kernel
theorem d8_38 : decode prog_14_method_9_code 38 = .ok (.ifCond .eq 7, 3) := by decide +kernel
theorem d8_45 : decode prog_14_method_9_code 45 = .ok (.aload_n 0, 1) := by decide +kernel
theorem d8_46 : decode prog_14_method_9_code 46 = .ok (.bipush 101, 2) := by decide +kernel
theorem d8_48 : decode prog_14_method_9_code 48 = .ok (.iconst 0, 1) := by decide +kernel
theorem d8_49 : decode prog_14_method_9_code 49 = .ok (.invokevirtual 100, 3) := by decide +kernel
theorem d8_52 : decode prog_14_method_9_code 52 = .ok (.ifCond .ne 13, 3) := by decide +kernel
theorem d8_55 : decode prog_14_method_9_code 55 = .ok (.aload_n 0, 1) := by decide +kernel
theorem d8_56 : decode prog_14_method_9_code 56 = .ok (.bipush 69, 2) := by decide +kernel
theorem d8_58 : decode prog_14_method_9_code 58 = .ok (.iconst 0, 1) := by decide +kernel
theorem d8_59 : decode prog_14_method_9_code 59 = .ok (.invokevirtual 100, 3) := by decide +kernel
theorem d8_62 : decode prog_14_method_9_code 62 = .ok (.ifCond .eq 25, 3) := by decide +kernel
theorem d8_87 : decode prog_14_method_9_code 87 = .ok (.new 106, 3) := by decide +kernel
theorem d8_90 : decode prog_14_method_9_code 90 = .ok (.dup, 1) := by decide +kernel
theorem d8_91 : decode prog_14_method_9_code 91 = .ok (.aload_n 0, 1) := by decide +kernel
theorem d8_92 : decode prog_14_method_9_code 92 = .ok (.getfield 7, 3) := by decide +kernel
theorem d8_95 : decode prog_14_method_9_code 95 = .ok (.iload_n 1, 1) := by decide +kernel
theorem d8_96 : decode prog_14_method_9_code 96 = .ok (.aload_n 0, 1) := by decide +kernel
theorem d8_97 : decode prog_14_method_9_code 97 = .ok (.getfield 16, 3) := by decide +kernel
theorem d8_100 : decode prog_14_method_9_code 100 = .ok (.iload_n 1, 1) := by decide +kernel
theorem d8_101 : decode prog_14_method_9_code 101 = .ok (.isub, 1) := by decide +kernel
theorem d8_102 : decode prog_14_method_9_code 102 = .ok (.getstatic 108, 3) := by decide +kernel
theorem d8_105 : decode prog_14_method_9_code 105 = .ok (.invokespecial 114, 3) := by decide +kernel
theorem pd___BIILjava_nio_charset_Charset__V : parseMethodDescriptor "([BIILjava/nio/charset/Charset;)V" = some ⟨[(.array .byte), .int, .int, (.object "java/nio/charset/Charset")], none⟩ := by decide +kernel
theorem d8_108 : decode prog_14_method_9_code 108 = .ok (.areturn, 1) := by decide +kernel
def Q_rmNext (Z : State) (a1 : Addr) (t0 : Addr) (kt : ClassId) (nn : Int32) (bs : List Int32) (dd : Int32) (ca : Addr) (ut : Addr) (is : Addr) (cz : Int32) (rG : Value) (h0 : Heap) (n0 : Nat) (v : Option Value) (h : Heap) (L : List Loc) : Prop := (∃ (r b : Addr) (kb : ClassId) (vs : List Value), v = some (.ref r) ∧ n0 ≤ r ∧ h0.size ≤ r ∧ Exa Z h r "java/lang/String" ∧ Fld Z h r "java/lang/String" "coder" "B" (.int (nar .byte (0 : Int32))) ∧ Fld Z h r "java/lang/String" "value" "[B" (.ref b) ∧ Arv Z h b kb .byte dd vs (.int (0 : Int32))) ∧ Fr n0 L ∧ Keep h0 h [a1] ∧ Exa Z h a1 "com/example/mark_time/marktime/io/JsonCursor" ∧ Fld Z h a1 "com/example/mark_time/marktime/io/JsonCursor" "at" "I" (.int dd) ∧ Fld Z h a1 "com/example/mark_time/marktime/io/JsonCursor" "text" "[B" (.ref t0)
set_option maxRecDepth 65536 in
set_option maxHeartbeats 40000000 in
theorem rmNext (l : Launch) (Z : State) (a0 : Array Value) (hw : ∀ d ∈ tables_1, d.before a0 Z = true) (ws : List Jvm.Cond) (a1 : Addr) (t0 : Addr) (kt : ClassId) (nn : Int32) (bs : List Int32) (dd : Int32) (ca : Addr) (ut : Addr) (is : Addr) (cz : Int32) (rG : Value) (h0 : Heap) (n0 : Nat) (Z0 : n0 ≤ h0.size) (P0 : Exa Z h0 a1 "com/example/mark_time/marktime/io/JsonCursor") (P1 : Fld Z h0 a1 "com/example/mark_time/marktime/io/JsonCursor" "at" "I" (.int (0 : Int32))) (P2 : Fld Z h0 a1 "com/example/mark_time/marktime/io/JsonCursor" "text" "[B" (.ref t0)) (P3 : Arv Z h0 t0 kt .byte nn (bs.map Value.int) (.int (0 : Int32))) (P4 : Exa Z h0 t0 "[B") (P5 : Old Z n0 h0) (P6 : Sta Z Z.heap "sun/nio/cs/UTF_8" "INSTANCE" "Lsun/nio/cs/UTF_8;" (.ref ut)) (P7 : Sta Z Z.heap "sun/nio/cs/ISO_8859_1" "INSTANCE" "Lsun/nio/cs/ISO_8859_1;" (.ref is)) (P8 : Sta Z Z.heap "sun/nio/cs/US_ASCII" "INSTANCE" "Lsun/nio/cs/US_ASCII;" (.ref ca)) (P9 : Sta Z Z.heap "java/lang/String" "COMPACT_STRINGS" "Z" (.int cz)) (P10 : Exa Z h0 ca "sun/nio/cs/US_ASCII") (P11 : Sta Z Z.heap "jdk/internal/util/Preconditions" "SIOOBE_FORMATTER" "Ljava/util/function/BiFunction;" rG) (P12 : Sta Z Z.heap "java/nio/charset/StandardCharsets" "US_ASCII" "Ljava/nio/charset/Charset;" (.ref ca)) (Pn0 : t0 ≠ a1) (Pn1 : ca ≠ ut) (Pn2 : ca ≠ is) (Pg_a1 : n0 ≤ a1) (hn : Len nn bs) (hs0 : fSkip nn bs 8 (0 : Int32) = (0 : Int32)) (hd : fDig nn bs 8 (0 : Int32) = dd) (hne : ¬ (dd = (0 : Int32))) (hdr : 0 ≤ dd.toInt ∧ dd.toInt ≤ nn.toInt) (hm45 : (0 : Int32) < nn → ¬ (bAt bs (0 : Int32) = (45 : Int32))) (hm48 : (0 : Int32) < nn → ¬ (bAt bs (0 : Int32) = (48 : Int32))) (hm46 : dd < nn → ¬ (bAt bs dd = (46 : Int32))) (hm101 : dd < nn → ¬ (bAt bs dd = (101 : Int32))) (hm69 : dd < nn → ¬ (bAt bs dd = (69 : Int32))) (hpos : ∀ i : Int32, 0 ≤ i.toInt → i.toInt < dd.toInt → ¬ (bAt bs i < (0 : Int32))) (hcz : ¬ (cz = (0 : Int32))) (hrG : rG.isRef = true) :
    MetFree l (⟨"com/example/mark_time/marktime/io/JsonCursor", "nextNumber", "()Ljava/lang/String;"⟩ : MethodName) (head1 (Jvm.Cond.code (⟨"com/example/mark_time/marktime/io/JsonCursor", "nextNumber", "()Ljava/lang/String;"⟩ : MethodName) prog_14_method_9_code 2 (some (.object "java/lang/String")) :: ws) ({ frames := 5, cells := 2, slots := 12, locals := 110 } : Room)) (fun a U => a = #[(.ref a1)] ∧ Z.Warmed39 U.vm ∧ U.heap = h0) (fun _ _ _ _ _ => True) (fun _ U o U' => ∃ v L, o = .returned v ∧ Q_rmNext Z a1 t0 kt nn bs dd ca ut is cz rG h0 n0 v U'.heap L ∧ FrameEnd U o U' L ({ frames := 5, cells := 2, slots := 12, locals := 110 } : Room).cells ({ frames := 5, cells := 2, slots := 12, locals := 110 } : Room).slots) := by
  refine MetFree.of_bodySF (plainFor_of_name pn_com_example_mark_time_marktime_io_JsonCursor) hisR ?_
  intro p e s m args below meth c s₁ Bd hml0 hP hK
  obtain ⟨rfl, hZ, hh⟩ := hP
  have hx := Bd.exec
  have hby := Bd.bytes
  have hml : c.maxLocals = 2 := hml0
  have hown : s.vm.findClass "com/example/mark_time/marktime/io/JsonCursor" = some m.cls := findClass_of_methodNamed Bd.named
  have hnm := (name_of_methodNamed Bd.named Bd.method).1
  have X0 : Stand p l e ({ frames := 5, cells := 2, slots := 12, locals := 110 } : Room) s m #[(.ref a1)] below meth c s₁ [] 0 0 := Stand.of_body Bd
  have e0 : s₁.heap = h0 := by rw [← hh, Bd.state]; rfl
  have N0 := Fr.nil n0
  suffices hR : ∀ P : State → Prop, (∀ s₂ o v L, s₂.status = .running → Ended s₂ below o → o = .returned v → Q_rmNext Z a1 t0 kt nn bs dd ca ut is cz rG h0 n0 v s₂.heap L → FrameEnd s o s₂ L ({ frames := 5, cells := 2, slots := 12, locals := 110 } : Room).cells ({ frames := 5, cells := 2, slots := 12, locals := 110 } : Room).slots → P s₂) → Rch p.tables e below P (s₁.setTop (mkF m 0 #[.val (.ref a1), .unset] [])) by
    obtain ⟨s₂, h1, o, h2⟩ := hR (fun s₂ => ∃ o, s₂.status = .running ∧ Ended s₂ below o ∧ ∃ v L, o = .returned v ∧ Q_rmNext Z a1 t0 kt nn bs dd ca ut is cz rG h0 n0 v s₂.heap L ∧ FrameEnd s o s₂ L ({ frames := 5, cells := 2, slots := 12, locals := 110 } : Room).cells ({ frames := 5, cells := 2, slots := 12, locals := 110 } : Room).slots) (fun s₂ o v L q1 q2 q3 q4 q5 => ⟨o, q1, q2, v, L, q3, q4, q5⟩)
    exact ⟨s₂, o, castTop (ef_rmNext m a1) h1, h2⟩
  intro P hPd
  refine Rch.go (fun zt zk => XS.aloadN X0.here hx rfl (hb hby d8_0) rfl rfl zk) ?_
  show Rch _ _ _ _ (s₁.setTop (mkF m 1 #[.val (.ref a1), .unset] [(.ref a1)]))
  obtain ⟨cq101, q101, q101'⟩ := P0.cell
  obtain ⟨_, _, ⟨T101, L101, k101, n101⟩, -, X101, ⟨Lc101, hQ101, l101, y101, z101⟩, st101⟩ := X0.privateBack hx (y := (⟨"com/example/mark_time/marktime/io/JsonCursor", "skipWhitespace", "()V"⟩ : MethodName)) hown (mvT hZ (ow26 hw)) (mvT hZ (ow27 hw)) (own_selP (args := #[]) hZ (ow11 hw) (ow28 hw) (ow27 hw) (by decide)) (Cond.privateMethod_at (mvP hZ (ow28 hw) (args := #[]))) (mvT hZ (ow29 hw)) (by decide) (backOf (W := 0) (rmSkip l Z a0 hw [] (a1) ((0 : Int32)) (t0) (kt) (nn) (bs) h0 n0 Z0 (P0) (P1) (P2) (P3) (Pn0) (Pg_a1) (hn) (own_z hn)) hZ (ow29 hw) (ow12 hw) (by decide) (by decide)) (g := (mkF m 1 #[.val (.ref a1), .unset] [(.ref a1)])) rfl (by rw [hml]; rfl) (Steps.refl _) (a := a1) (by rw [e0]; exact q101) q101' (argsL := []) (rest := []) (lenOf pd___V rfl) rfl (by show 2 * 0 + _ ≤ _; exact Nat.le_of_eq rfl) (hb hby d8_1) (fun _ _ => ⟨rfl, e0, (by decide : 0 + 0 ≤ _), (by decide : 0 + 0 ≤ _)⟩)
  dsimp only [Pt.U, Pt.locs, Pt.cells, Pt.slots] at X101 l101 y101 z101 st101 hQ101
  subst l101 y101 z101
  obtain ⟨rfl, N101q, K101q, O101_0, O101_1, O101_2⟩ := hQ101
  have N101 := Fr.app N0 N101q
  have K101 := Keep.trans (Keep.refl h0 [a1]) K101q (allS (Or.inl (List.mem_of_getElem? (i := 0) rfl)) all0)
  rw [hs0] at O101_1
  refine Rch.go (fun zt zk => st101.trans zk) ?_
  show Rch _ _ _ _ (T101.setTop (mkF m 4 #[.val (.ref a1), .unset] []))
  refine Rch.go (fun zt zk => XS.aloadN X101.here hx rfl (hb hby d8_4) rfl rfl zk) ?_
  show Rch _ _ _ _ (T101.setTop (mkF m 5 #[.val (.ref a1), .unset] [(.ref a1)]))
  obtain ⟨T102, X102, e102, st102⟩ := getF X101 hx hZ hown (host := "") (Or.inl (ow30 hw)) Via.refl rfl O101_1 (g := (mkF m 5 #[.val (.ref a1), .unset] [(.ref a1)])) rfl rfl (hb hby d8_5)
  refine Rch.go st102 ?_
  show Rch _ _ _ _ (T102.setTop (mkF m 8 #[.val (.ref a1), .unset] [(.int (0 : Int32))]))
  refine Rch.go (fun zt zk => XS.istoreN X102.here hx rfl (hb hby d8_8) rfl (l' := #[.val (.ref a1), .val (.int (0 : Int32))]) rfl zk) ?_
  show Rch _ _ _ _ (T102.setTop (mkF m 9 #[.val (.ref a1), .val (.int (0 : Int32))] []))
  refine Rch.go (fun zt zk => XS.aloadN X102.here hx rfl (hb hby d8_9) rfl rfl zk) ?_
  show Rch _ _ _ _ (T102.setTop (mkF m 10 #[.val (.ref a1), .val (.int (0 : Int32))] [(.ref a1)]))
  refine Rch.go (fun zt zk => XS.bipush X102.here hx rfl (hb hby d8_10) zk) ?_
  show Rch _ _ _ _ (T102.setTop (mkF m 12 #[.val (.ref a1), .val (.int (0 : Int32))] [(.int (45 : Int32)), (.ref a1)]))
  refine Rch.go (fun zt zk => XS.iconst X102.here hx rfl (hb hby d8_12) zk) ?_
  show Rch _ _ _ _ (T102.setTop (mkF m 13 #[.val (.ref a1), .val (.int (0 : Int32))] [(.int (0 : Int32)), (.int (45 : Int32)), (.ref a1)]))
  have f104 := (P3.keep K101q (ninS Pn0 nin0))
  have f105 := (Nat.le_trans Z0 K101q.1)
  obtain ⟨cq103, q103, q103'⟩ := O101_0.cell
  obtain ⟨_, _, ⟨T103, L103, k103, n103⟩, -, X103, ⟨Lc103, hQ103, l103, y103, z103⟩, st103⟩ := X102.privateBack hx (y := (⟨"com/example/mark_time/marktime/io/JsonCursor", "consume", "(CZ)Z"⟩ : MethodName)) hown (mvT hZ (ow43 hw)) (mvT hZ (ow44 hw)) (own_selP (args := #[]) hZ (ow11 hw) (ow45 hw) (ow44 hw) (by decide)) (Cond.privateMethod_at (mvP hZ (ow45 hw) (args := #[]))) (mvT hZ (ow46 hw)) (by decide) (backOf (W := 0) (rmCons l Z a0 hw [] (a1) ((45 : Int32)) ((0 : Int32)) (t0) (kt) (nn) (bs) T101.heap n0 f105 (O101_0) (O101_1) (O101_2) (f104) (hn) (own_z hn) (hm45)) hZ (ow46 hw) (ow12 hw) (by decide) (by decide)) (g := (mkF m 13 #[.val (.ref a1), .val (.int (0 : Int32))] [(.int (0 : Int32)), (.int (45 : Int32)), (.ref a1)])) rfl (by rw [hml]; rfl) (Steps.refl _) (a := a1) (by rw [e102]; exact q103) q103' (argsL := [(.int (45 : Int32)), (.int (0 : Int32))]) (rest := []) (lenOf pd__CZ_Z rfl) rfl (by show 2 * 0 + _ ≤ _; exact Nat.le_of_eq rfl) (hb hby d8_13) (fun _ _ => ⟨rfl, e102, (by decide : 0 + 0 ≤ _), (by decide : 0 + 0 ≤ _)⟩)
  dsimp only [Pt.U, Pt.locs, Pt.cells, Pt.slots] at X103 l103 y103 z103 st103 hQ103
  subst l103 y103 z103
  obtain ⟨rfl, N103q, eq103⟩ := hQ103
  have N103 := Fr.app N101 N103q
  refine Rch.go (fun zt zk => st103.trans zk) ?_
  show Rch _ _ _ _ (T103.setTop (mkF m 16 #[.val (.ref a1), .val (.int (0 : Int32))] [(.int (0 : Int32))]))
  refine Rch.go (fun zt zk => XS.pop X103.here hx rfl (hb hby d8_16) rfl rfl zk) ?_
  show Rch _ _ _ _ (T103.setTop (mkF m 17 #[.val (.ref a1), .val (.int (0 : Int32))] []))
  refine Rch.go (fun zt zk => XS.aloadN X103.here hx rfl (hb hby d8_17) rfl rfl zk) ?_
  show Rch _ _ _ _ (T103.setTop (mkF m 18 #[.val (.ref a1), .val (.int (0 : Int32))] [(.ref a1)]))
  refine Rch.go (fun zt zk => XS.bipush X103.here hx rfl (hb hby d8_18) zk) ?_
  show Rch _ _ _ _ (T103.setTop (mkF m 20 #[.val (.ref a1), .val (.int (0 : Int32))] [(.int (48 : Int32)), (.ref a1)]))
  refine Rch.go (fun zt zk => XS.iconst X103.here hx rfl (hb hby d8_20) zk) ?_
  show Rch _ _ _ _ (T103.setTop (mkF m 21 #[.val (.ref a1), .val (.int (0 : Int32))] [(.int (0 : Int32)), (.int (48 : Int32)), (.ref a1)]))
  obtain ⟨cq106, q106, q106'⟩ := O101_0.cell
  obtain ⟨_, _, ⟨T106, L106, k106, n106⟩, -, X106, ⟨Lc106, hQ106, l106, y106, z106⟩, st106⟩ := X103.privateBack hx (y := (⟨"com/example/mark_time/marktime/io/JsonCursor", "consume", "(CZ)Z"⟩ : MethodName)) hown (mvT hZ (ow43 hw)) (mvT hZ (ow44 hw)) (own_selP (args := #[]) hZ (ow11 hw) (ow45 hw) (ow44 hw) (by decide)) (Cond.privateMethod_at (mvP hZ (ow45 hw) (args := #[]))) (mvT hZ (ow46 hw)) (by decide) (backOf (W := 0) (rmCons l Z a0 hw [] (a1) ((48 : Int32)) ((0 : Int32)) (t0) (kt) (nn) (bs) T101.heap n0 f105 (O101_0) (O101_1) (O101_2) (f104) (hn) (own_z hn) (hm48)) hZ (ow46 hw) (ow12 hw) (by decide) (by decide)) (g := (mkF m 21 #[.val (.ref a1), .val (.int (0 : Int32))] [(.int (0 : Int32)), (.int (48 : Int32)), (.ref a1)])) rfl (by rw [hml]; rfl) (Steps.refl _) (a := a1) (by rw [eq103]; exact q106) q106' (argsL := [(.int (48 : Int32)), (.int (0 : Int32))]) (rest := []) (lenOf pd__CZ_Z rfl) rfl (by show 2 * 0 + _ ≤ _; exact Nat.le_of_eq rfl) (hb hby d8_21) (fun _ _ => ⟨rfl, eq103, (by decide : 0 + 0 ≤ _), (by decide : 0 + 0 ≤ _)⟩)
  dsimp only [Pt.U, Pt.locs, Pt.cells, Pt.slots] at X106 l106 y106 z106 st106 hQ106
  subst l106 y106 z106
  obtain ⟨rfl, N106q, eq106⟩ := hQ106
  have N106 := Fr.app N103 N106q
  refine Rch.go (fun zt zk => st106.trans zk) ?_
  show Rch _ _ _ _ (T106.setTop (mkF m 24 #[.val (.ref a1), .val (.int (0 : Int32))] [(.int (0 : Int32))]))
  refine Rch.go (fun zt zk => XS.ifNo X106.here hx rfl (hb hby d8_24) rfl ((if0 _ _).trans (teq (by decide : (0 : Int32) = (0 : Int32))).2) zk) ?_
  show Rch _ _ _ _ (T106.setTop (mkF m 27 #[.val (.ref a1), .val (.int (0 : Int32))] []))
  refine Rch.go (fun zt zk => XS.aloadN X106.here hx rfl (hb hby d8_27) rfl rfl zk) ?_
  show Rch _ _ _ _ (T106.setTop (mkF m 28 #[.val (.ref a1), .val (.int (0 : Int32))] [(.ref a1)]))
  obtain ⟨cq107, q107, q107'⟩ := O101_0.cell
  obtain ⟨_, _, ⟨T107, L107, k107, n107⟩, -, X107, ⟨Lc107, hQ107, l107, y107, z107⟩, st107⟩ := X106.privateBack hx (y := (⟨"com/example/mark_time/marktime/io/JsonCursor", "digits", "()V"⟩ : MethodName)) hown (mvT hZ (ow47 hw)) (mvT hZ (ow48 hw)) (own_selP (args := #[]) hZ (ow11 hw) (ow49 hw) (ow48 hw) (by decide)) (Cond.privateMethod_at (mvP hZ (ow49 hw) (args := #[]))) (mvT hZ (ow50 hw)) (by decide) (backOf (W := 0) (rmDig l Z a0 hw [] (a1) ((0 : Int32)) (t0) (kt) (nn) (bs) T101.heap n0 f105 (O101_0) (O101_1) (O101_2) (f104) (Pn0) (Pg_a1) (hn) (own_z hn) (fun q => hne (hd.symm.trans q))) hZ (ow50 hw) (ow12 hw) (by decide) (by decide)) (g := (mkF m 28 #[.val (.ref a1), .val (.int (0 : Int32))] [(.ref a1)])) rfl (by rw [hml]; rfl) (Steps.refl _) (a := a1) (by rw [eq106]; exact q107) q107' (argsL := []) (rest := []) (lenOf pd___V rfl) rfl (by show 2 * 0 + _ ≤ _; exact Nat.le_of_eq rfl) (hb hby d8_28) (fun _ _ => ⟨rfl, eq106, (by decide : 0 + 0 ≤ _), (by decide : 0 + 0 ≤ _)⟩)
  dsimp only [Pt.U, Pt.locs, Pt.cells, Pt.slots] at X107 l107 y107 z107 st107 hQ107
  subst l107 y107 z107
  obtain ⟨rfl, N107q, K107q, O107_0, O107_1, O107_2⟩ := hQ107
  have N107 := Fr.app N106 N107q
  have K107 := Keep.trans K101 K107q (allS (Or.inl (List.mem_of_getElem? (i := 0) rfl)) all0)
  rw [hd] at O107_1
  refine Rch.go (fun zt zk => st107.trans zk) ?_
  show Rch _ _ _ _ (T107.setTop (mkF m 31 #[.val (.ref a1), .val (.int (0 : Int32))] []))
  refine Rch.go (fun zt zk => XS.aloadN X107.here hx rfl (hb hby d8_31) rfl rfl zk) ?_
  show Rch _ _ _ _ (T107.setTop (mkF m 32 #[.val (.ref a1), .val (.int (0 : Int32))] [(.ref a1)]))
  refine Rch.go (fun zt zk => XS.bipush X107.here hx rfl (hb hby d8_32) zk) ?_
  show Rch _ _ _ _ (T107.setTop (mkF m 34 #[.val (.ref a1), .val (.int (0 : Int32))] [(.int (46 : Int32)), (.ref a1)]))
  refine Rch.go (fun zt zk => XS.iconst X107.here hx rfl (hb hby d8_34) zk) ?_
  show Rch _ _ _ _ (T107.setTop (mkF m 35 #[.val (.ref a1), .val (.int (0 : Int32))] [(.int (0 : Int32)), (.int (46 : Int32)), (.ref a1)]))
  have f109 := (f104.keep K107q (ninS Pn0 nin0))
  have f110 := (Nat.le_trans f105 K107q.1)
  obtain ⟨cq108, q108, q108'⟩ := O107_0.cell
  obtain ⟨_, _, ⟨T108, L108, k108, n108⟩, -, X108, ⟨Lc108, hQ108, l108, y108, z108⟩, st108⟩ := X107.privateBack hx (y := (⟨"com/example/mark_time/marktime/io/JsonCursor", "consume", "(CZ)Z"⟩ : MethodName)) hown (mvT hZ (ow43 hw)) (mvT hZ (ow44 hw)) (own_selP (args := #[]) hZ (ow11 hw) (ow45 hw) (ow44 hw) (by decide)) (Cond.privateMethod_at (mvP hZ (ow45 hw) (args := #[]))) (mvT hZ (ow46 hw)) (by decide) (backOf (W := 0) (rmCons l Z a0 hw [] (a1) ((46 : Int32)) (dd) (t0) (kt) (nn) (bs) T107.heap n0 f110 (O107_0) (O107_1) (O107_2) (f109) (hn) (hdr) (hm46)) hZ (ow46 hw) (ow12 hw) (by decide) (by decide)) (g := (mkF m 35 #[.val (.ref a1), .val (.int (0 : Int32))] [(.int (0 : Int32)), (.int (46 : Int32)), (.ref a1)])) rfl (by rw [hml]; rfl) (Steps.refl _) (a := a1) q108 q108' (argsL := [(.int (46 : Int32)), (.int (0 : Int32))]) (rest := []) (lenOf pd__CZ_Z rfl) rfl (by show 2 * 0 + _ ≤ _; exact Nat.le_of_eq rfl) (hb hby d8_35) (fun _ _ => ⟨rfl, rfl, (by decide : 0 + 0 ≤ _), (by decide : 0 + 0 ≤ _)⟩)
  dsimp only [Pt.U, Pt.locs, Pt.cells, Pt.slots] at X108 l108 y108 z108 st108 hQ108
  subst l108 y108 z108
  obtain ⟨rfl, N108q, eq108⟩ := hQ108
  have N108 := Fr.app N107 N108q
  refine Rch.go (fun zt zk => st108.trans zk) ?_
  show Rch _ _ _ _ (T108.setTop (mkF m 38 #[.val (.ref a1), .val (.int (0 : Int32))] [(.int (0 : Int32))]))
  refine Rch.go (fun zt zk => XS.ifYes X108.here hx rfl (pc0 := 38) (pc' := 45) rfl (hb hby d8_38) rfl ((if0 _ _).trans (teq (by decide : (0 : Int32) = (0 : Int32))).1) (by decide) (by decide) zk) ?_
  show Rch _ _ _ _ (T108.setTop (mkF m 45 #[.val (.ref a1), .val (.int (0 : Int32))] []))
  refine Rch.go (fun zt zk => XS.aloadN X108.here hx rfl (hb hby d8_45) rfl rfl zk) ?_
  show Rch _ _ _ _ (T108.setTop (mkF m 46 #[.val (.ref a1), .val (.int (0 : Int32))] [(.ref a1)]))
  refine Rch.go (fun zt zk => XS.bipush X108.here hx rfl (hb hby d8_46) zk) ?_
  show Rch _ _ _ _ (T108.setTop (mkF m 48 #[.val (.ref a1), .val (.int (0 : Int32))] [(.int (101 : Int32)), (.ref a1)]))
  refine Rch.go (fun zt zk => XS.iconst X108.here hx rfl (hb hby d8_48) zk) ?_
  show Rch _ _ _ _ (T108.setTop (mkF m 49 #[.val (.ref a1), .val (.int (0 : Int32))] [(.int (0 : Int32)), (.int (101 : Int32)), (.ref a1)]))
  obtain ⟨cq111, q111, q111'⟩ := O107_0.cell
  obtain ⟨_, _, ⟨T111, L111, k111, n111⟩, -, X111, ⟨Lc111, hQ111, l111, y111, z111⟩, st111⟩ := X108.privateBack hx (y := (⟨"com/example/mark_time/marktime/io/JsonCursor", "consume", "(CZ)Z"⟩ : MethodName)) hown (mvT hZ (ow43 hw)) (mvT hZ (ow44 hw)) (own_selP (args := #[]) hZ (ow11 hw) (ow45 hw) (ow44 hw) (by decide)) (Cond.privateMethod_at (mvP hZ (ow45 hw) (args := #[]))) (mvT hZ (ow46 hw)) (by decide) (backOf (W := 0) (rmCons l Z a0 hw [] (a1) ((101 : Int32)) (dd) (t0) (kt) (nn) (bs) T107.heap n0 f110 (O107_0) (O107_1) (O107_2) (f109) (hn) (hdr) (hm101)) hZ (ow46 hw) (ow12 hw) (by decide) (by decide)) (g := (mkF m 49 #[.val (.ref a1), .val (.int (0 : Int32))] [(.int (0 : Int32)), (.int (101 : Int32)), (.ref a1)])) rfl (by rw [hml]; rfl) (Steps.refl _) (a := a1) (by rw [eq108]; exact q111) q111' (argsL := [(.int (101 : Int32)), (.int (0 : Int32))]) (rest := []) (lenOf pd__CZ_Z rfl) rfl (by show 2 * 0 + _ ≤ _; exact Nat.le_of_eq rfl) (hb hby d8_49) (fun _ _ => ⟨rfl, eq108, (by decide : 0 + 0 ≤ _), (by decide : 0 + 0 ≤ _)⟩)
  dsimp only [Pt.U, Pt.locs, Pt.cells, Pt.slots] at X111 l111 y111 z111 st111 hQ111
  subst l111 y111 z111
  obtain ⟨rfl, N111q, eq111⟩ := hQ111
  have N111 := Fr.app N108 N111q
  refine Rch.go (fun zt zk => st111.trans zk) ?_
  show Rch _ _ _ _ (T111.setTop (mkF m 52 #[.val (.ref a1), .val (.int (0 : Int32))] [(.int (0 : Int32))]))
  refine Rch.go (fun zt zk => XS.ifNo X111.here hx rfl (hb hby d8_52) rfl ((if0 _ _).trans (teq (by decide : (0 : Int32) = (0 : Int32))).2) zk) ?_
  show Rch _ _ _ _ (T111.setTop (mkF m 55 #[.val (.ref a1), .val (.int (0 : Int32))] []))
  refine Rch.go (fun zt zk => XS.aloadN X111.here hx rfl (hb hby d8_55) rfl rfl zk) ?_
  show Rch _ _ _ _ (T111.setTop (mkF m 56 #[.val (.ref a1), .val (.int (0 : Int32))] [(.ref a1)]))
  refine Rch.go (fun zt zk => XS.bipush X111.here hx rfl (hb hby d8_56) zk) ?_
  show Rch _ _ _ _ (T111.setTop (mkF m 58 #[.val (.ref a1), .val (.int (0 : Int32))] [(.int (69 : Int32)), (.ref a1)]))
  refine Rch.go (fun zt zk => XS.iconst X111.here hx rfl (hb hby d8_58) zk) ?_
  show Rch _ _ _ _ (T111.setTop (mkF m 59 #[.val (.ref a1), .val (.int (0 : Int32))] [(.int (0 : Int32)), (.int (69 : Int32)), (.ref a1)]))
  obtain ⟨cq112, q112, q112'⟩ := O107_0.cell
  obtain ⟨_, _, ⟨T112, L112, k112, n112⟩, -, X112, ⟨Lc112, hQ112, l112, y112, z112⟩, st112⟩ := X111.privateBack hx (y := (⟨"com/example/mark_time/marktime/io/JsonCursor", "consume", "(CZ)Z"⟩ : MethodName)) hown (mvT hZ (ow43 hw)) (mvT hZ (ow44 hw)) (own_selP (args := #[]) hZ (ow11 hw) (ow45 hw) (ow44 hw) (by decide)) (Cond.privateMethod_at (mvP hZ (ow45 hw) (args := #[]))) (mvT hZ (ow46 hw)) (by decide) (backOf (W := 0) (rmCons l Z a0 hw [] (a1) ((69 : Int32)) (dd) (t0) (kt) (nn) (bs) T107.heap n0 f110 (O107_0) (O107_1) (O107_2) (f109) (hn) (hdr) (hm69)) hZ (ow46 hw) (ow12 hw) (by decide) (by decide)) (g := (mkF m 59 #[.val (.ref a1), .val (.int (0 : Int32))] [(.int (0 : Int32)), (.int (69 : Int32)), (.ref a1)])) rfl (by rw [hml]; rfl) (Steps.refl _) (a := a1) (by rw [eq111]; exact q112) q112' (argsL := [(.int (69 : Int32)), (.int (0 : Int32))]) (rest := []) (lenOf pd__CZ_Z rfl) rfl (by show 2 * 0 + _ ≤ _; exact Nat.le_of_eq rfl) (hb hby d8_59) (fun _ _ => ⟨rfl, eq111, (by decide : 0 + 0 ≤ _), (by decide : 0 + 0 ≤ _)⟩)
  dsimp only [Pt.U, Pt.locs, Pt.cells, Pt.slots] at X112 l112 y112 z112 st112 hQ112
  subst l112 y112 z112
  obtain ⟨rfl, N112q, eq112⟩ := hQ112
  have N112 := Fr.app N111 N112q
  refine Rch.go (fun zt zk => st112.trans zk) ?_
  show Rch _ _ _ _ (T112.setTop (mkF m 62 #[.val (.ref a1), .val (.int (0 : Int32))] [(.int (0 : Int32))]))
  refine Rch.go (fun zt zk => XS.ifYes X112.here hx rfl (pc0 := 62) (pc' := 87) rfl (hb hby d8_62) rfl ((if0 _ _).trans (teq (by decide : (0 : Int32) = (0 : Int32))).1) (by decide) (by decide) zk) ?_
  show Rch _ _ _ _ (T112.setTop (mkF m 87 #[.val (.ref a1), .val (.int (0 : Int32))] []))
  have f113 := ((P10.keep K101q).keep K107q)
  obtain ⟨T114, h114, X114, e114, E114, A114, D114, -, st114⟩ := newO X112 hx hZ hown (ow54 hw) (ow55 hw) (ow56 hw) eq112 (g := (mkF m 87 #[.val (.ref a1), .val (.int (0 : Int32))] [])) rfl (hb hby d8_87) (by decide) (by decide)
  obtain ⟨b114, g114⟩ : ∃ z, z = T107.heap.size := ⟨_, rfl⟩
  rw [← g114] at A114 D114 st114
  refine Rch.go st114 ?_
  have ne_a1_b114 : a1 ≠ b114 := by have q := O107_0.lt; rw [g114]; exact Nat.ne_of_lt q
  have ne_t0_b114 : t0 ≠ b114 := by have q := f109.lt; rw [g114]; exact Nat.ne_of_lt q
  have ne_ca_b114 : ca ≠ b114 := by have q := f113.lt; rw [g114]; exact Nat.ne_of_lt q
  have ge114 : n0 ≤ b114 := by rw [g114]; exact f110
  have gk114 : h0.size ≤ b114 := by rw [g114]; exact K107.1
  have K114 := K107.ext E114
  have F114_value : Fld Z h114 b114 "java/lang/String" "value" "[B" .null := D114 (Or.inr (ow114 hw)) (ty := (.array .byte)) (by decide)
  have F114_coder : Fld Z h114 b114 "java/lang/String" "coder" "B" (.int (0 : Int32)) := D114 (Or.inr (ow116 hw)) (ty := .byte) (by decide)
  show Rch _ _ _ _ (T114.setTop (mkF m 90 #[.val (.ref a1), .val (.int (0 : Int32))] [(.ref b114)]))
  refine Rch.go (fun zt zk => XS.dup X114.here hx rfl (hb hby d8_90) rfl rfl zk) ?_
  show Rch _ _ _ _ (T114.setTop (mkF m 91 #[.val (.ref a1), .val (.int (0 : Int32))] [(.ref b114), (.ref b114)]))
  refine Rch.go (fun zt zk => XS.aloadN X114.here hx rfl (hb hby d8_91) rfl rfl zk) ?_
  show Rch _ _ _ _ (T114.setTop (mkF m 92 #[.val (.ref a1), .val (.int (0 : Int32))] [(.ref a1), (.ref b114), (.ref b114)]))
  have f115 := (O107_2.ext E114)
  obtain ⟨T116, X116, e116, st116⟩ := getF X114 hx hZ hown (host := "") (Or.inl (ow19 hw)) Via.refl e114 f115 (g := (mkF m 92 #[.val (.ref a1), .val (.int (0 : Int32))] [(.ref a1), (.ref b114), (.ref b114)])) rfl rfl (hb hby d8_92)
  refine Rch.go st116 ?_
  show Rch _ _ _ _ (T116.setTop (mkF m 95 #[.val (.ref a1), .val (.int (0 : Int32))] [(.ref t0), (.ref b114), (.ref b114)]))
  refine Rch.go (fun zt zk => XS.iloadN X116.here hx rfl (hb hby d8_95) rfl zk) ?_
  show Rch _ _ _ _ (T116.setTop (mkF m 96 #[.val (.ref a1), .val (.int (0 : Int32))] [(.int (0 : Int32)), (.ref t0), (.ref b114), (.ref b114)]))
  refine Rch.go (fun zt zk => XS.aloadN X116.here hx rfl (hb hby d8_96) rfl rfl zk) ?_
  show Rch _ _ _ _ (T116.setTop (mkF m 97 #[.val (.ref a1), .val (.int (0 : Int32))] [(.ref a1), (.int (0 : Int32)), (.ref t0), (.ref b114), (.ref b114)]))
  have f117 := (O107_1.ext E114)
  obtain ⟨T118, X118, e118, st118⟩ := getF X116 hx hZ hown (host := "") (Or.inl (ow30 hw)) Via.refl e116 f117 (g := (mkF m 97 #[.val (.ref a1), .val (.int (0 : Int32))] [(.ref a1), (.int (0 : Int32)), (.ref t0), (.ref b114), (.ref b114)])) rfl rfl (hb hby d8_97)
  refine Rch.go st118 ?_
  show Rch _ _ _ _ (T118.setTop (mkF m 100 #[.val (.ref a1), .val (.int (0 : Int32))] [(.int dd), (.int (0 : Int32)), (.ref t0), (.ref b114), (.ref b114)]))
  refine Rch.go (fun zt zk => XS.iloadN X118.here hx rfl (hb hby d8_100) rfl zk) ?_
  show Rch _ _ _ _ (T118.setTop (mkF m 101 #[.val (.ref a1), .val (.int (0 : Int32))] [(.int (0 : Int32)), (.int dd), (.int (0 : Int32)), (.ref t0), (.ref b114), (.ref b114)]))
  refine Rch.go (fun zt zk => XS.isub X118.here hx rfl (hb hby d8_101) rfl zk) ?_
  show Rch _ _ _ _ (T118.setTop (mkF m 102 #[.val (.ref a1), .val (.int (0 : Int32))] [(.int (dd - (0 : Int32))), (.int (0 : Int32)), (.ref t0), (.ref b114), (.ref b114)]))
  have f119 := (((P5.keep K101q (allS Pg_a1 all0)).keep K107q (allS Pg_a1 all0)).ext E114)
  have f120 := P12.ext f119.2
  obtain ⟨T121, X121, e121, st121⟩ := getS2 X118 hx hZ hown (host := "") (Or.inl (ow57 hw)) Via.refl e118 f120 (g := (mkF m 102 #[.val (.ref a1), .val (.int (0 : Int32))] [(.int (dd - (0 : Int32))), (.int (0 : Int32)), (.ref t0), (.ref b114), (.ref b114)])) rfl (hb hby d8_102)
  refine Rch.go st121 ?_
  show Rch _ _ _ _ (T121.setTop (mkF m 105 #[.val (.ref a1), .val (.int (0 : Int32))] [(.ref ca), (.int (dd - (0 : Int32))), (.int (0 : Int32)), (.ref t0), (.ref b114), (.ref b114)]))
  have f123 := (((P4.keep K101q).keep K107q).ext E114)
  have f124 := (f109.ext E114)
  have f125 := (f113.ext E114)
  have f126 := (Nat.le_trans f110 E114.1)
  obtain ⟨_, _, ⟨T122, L122, k122, n122⟩, -, X122, ⟨Lc122, hQ122, l122, y122, z122⟩, st122⟩ := X121.specialBack hx (y := (⟨"java/lang/String", "<init>", "([BIILjava/nio/charset/Charset;)V"⟩ : MethodName)) rfl hown (mvT hZ (ow59 hw)) (mvT hZ (ow60 hw)) (mvT hZ (ow61 hw)) (by decide) (backOf (W := 1) (rmStrB l Z a0 hw [] (b114) (.null) ((.int (0 : Int32))) (t0) (kt) (nn) (bs) ((dd - (0 : Int32))) (ca) (ut) (is) (cz) (rG) h114 n0 f126 (f119) (A114) (F114_value) (F114_coder) (f123) (f124) (P6) (P7) (P8) (P9) (f125) (P11) (Pn1) (Pn2) (ne_t0_b114) (ge114) (hn) (by rw [Int32.sub_zero]; exact hdr) (by rw [Int32.sub_zero]; exact hpos) (by rw [Int32.sub_zero]; exact hne) (hcz) (hrG)) hZ (ow61 hw) (ow56 hw) (by decide) (by decide)) (g := (mkF m 105 #[.val (.ref a1), .val (.int (0 : Int32))] [(.ref ca), (.int (dd - (0 : Int32))), (.int (0 : Int32)), (.ref t0), (.ref b114), (.ref b114)])) rfl (by rw [hml]; rfl) (Steps.refl _) (a := b114) (argsL := [(.ref t0), (.int (0 : Int32)), (.int (dd - (0 : Int32))), (.ref ca)]) (rest := [(.ref b114)]) (lenOf pd___BIILjava_nio_charset_Charset__V rfl) rfl (by show 2 * 0 + _ ≤ _; exact Nat.le_of_eq rfl) (hb hby d8_105) (fun _ _ => ⟨rfl, e121, (by decide : 1 + 1 ≤ _), (by decide : 4 + 8 ≤ _)⟩)
  dsimp only [Pt.U, Pt.locs, Pt.cells, Pt.slots] at X122 l122 y122 z122 st122 hQ122
  subst l122 y122 z122
  obtain ⟨rfl, N122q, K122q, E122, C122, b122, kb122, vs122, gb122, gh122, F122, V122⟩ := hQ122
  have N122 := Fr.app N112 N122q
  have f127 := (O107_0.ext E114)
  have ne_a1_b122 : a1 ≠ b122 := Nat.ne_of_lt (Nat.lt_of_lt_of_le f127.lt gh122)
  have ne_t0_b122 : t0 ≠ b122 := Nat.ne_of_lt (Nat.lt_of_lt_of_le f124.lt gh122)
  have ne_ca_b122 : ca ≠ b122 := Nat.ne_of_lt (Nat.lt_of_lt_of_le f125.lt gh122)
  have ne_b114_b122 : b114 ≠ b122 := Nat.ne_of_lt (Nat.lt_of_lt_of_le A114.lt gh122)
  have gk122 : h0.size ≤ b122 := Nat.le_trans K114.1 gh122
  have K122 := Keep.trans K114 K122q (allS (Or.inr gk114) all0)
  rw [Int32.sub_zero dd] at V122
  refine Rch.go (fun zt zk => st122.trans zk) ?_
  show Rch _ _ _ _ (T122.setTop (mkF m 108 #[.val (.ref a1), .val (.int (0 : Int32))] [(.ref b114)]))
  obtain ⟨fs, hr, hrun, hended, hW, hsame⟩ := X122.leave (v := some (.ref b114)) (fun h => by rw [Bd.returns] at h; cases h)
  have hend : Steps p.tables e below (T122.setTop (mkF m 108 #[.val (.ref a1), .val (.int (0 : Int32))] [(.ref b114)])) (T122.setFrames fs) := by
    jvm_step X122.here [X122.here.top, hx, (hb hby d8_108), X122.method', Bd.returns, Value.isRef, FieldType.isReference]
    first | (intro acts; rw [hr _ acts rfl rfl rfl]) | rw [hr _ _ rfl rfl rfl]
    exact Steps.refl _
  refine Rch.mk (hend) (hPd _ _ _ _ hrun hended rfl ?_ ⟨⟨_, rfl⟩, hW, hsame.mono (by decide) (by decide)⟩)
  show Q_rmNext Z a1 t0 kt nn bs dd ca ut is cz rG h0 n0 _ T122.heap _
  have f128 := (f127.keep K122q)
  have f129 := (f117.keep K122q (ninS ne_a1_b114 nin0))
  have f130 := (f115.keep K122q (ninS ne_a1_b114 nin0))
  exact ⟨⟨b114, b122, _, _, rfl, ge114, gk114, E122, C122, F122, V122⟩, N122, K122, f128, f129, f130⟩
theorem ef_rm24 (m : MethodId) (a1 : Addr) : entryFrame m #[(.ref a1)] 1 = mkF m 0 #[.val (.ref a1)] [] := by first | (simp [entryFrame, mkF, argsToLocals, Value.category]; done) | rfl
theorem d24_0 : decode jdk_42_method_152_code 0 = .ok (.getstatic 38, 3) := by decide +kernel
theorem d24_3 : decode jdk_42_method_152_code 3 = .ok (.ifCond .eq 10, 3) := by decide +kernel
theorem d24_6 : decode jdk_42_method_152_code 6 = .ok (.aload_n 0, 1) := by decide +kernel
theorem d24_7 : decode jdk_42_method_152_code 7 = .ok (.getfield 15, 3) := by decide +kernel
theorem d24_10 : decode jdk_42_method_152_code 10 = .ok (.goto 4, 3) := by decide +kernel
theorem d24_14 : decode jdk_42_method_152_code 14 = .ok (.ireturn, 1) := by decide +kernel
def Q_rm24 (Z : State) (a1 : Addr) (w2 : Int32) (cz : Int32) (h0 : Heap) (n0 : Nat) (v : Option Value) (h : Heap) (L : List Loc) : Prop := v = some (.int (nar .byte w2)) ∧ Fr n0 L ∧ h = h0
set_option maxRecDepth 65536 in
set_option maxHeartbeats 40000000 in
theorem rm24 (l : Launch) (Z : State) (a0 : Array Value) (hw : ∀ d ∈ tables_1, d.before a0 Z = true) (ws : List Jvm.Cond) (a1 : Addr) (w2 : Int32) (cz : Int32) (h0 : Heap) (n0 : Nat) (Z0 : n0 ≤ h0.size) (P0 : Old Z n0 h0) (P1 : Sta Z Z.heap "java/lang/String" "COMPACT_STRINGS" "Z" (.int cz)) (P2 : Fld Z h0 a1 "java/lang/String" "coder" "B" (.int w2)) (hcz : ¬ (cz = (0 : Int32))) :
    MetFree l (⟨"java/lang/String", "coder", "()B"⟩ : MethodName) (head1 (Jvm.Cond.code (⟨"java/lang/String", "coder", "()B"⟩ : MethodName) jdk_42_method_152_code 1 (some .byte) :: ws) ({ frames := 0, cells := 0, slots := 0, locals := 0 } : Room)) (fun a U => a = #[(.ref a1)] ∧ Z.Warmed39 U.vm ∧ U.heap = h0) (fun _ _ _ _ _ => True) (fun _ U o U' => ∃ v L, o = .returned v ∧ Q_rm24 Z a1 w2 cz h0 n0 v U'.heap L ∧ FrameEnd U o U' L ({ frames := 0, cells := 0, slots := 0, locals := 0 } : Room).cells ({ frames := 0, cells := 0, slots := 0, locals := 0 } : Room).slots) := by
  refine MetFree.of_bodySF (plainFor_of_name pn_java_lang_String) hisR ?_
  intro p e s m args below meth c s₁ Bd hml0 hP hK
  obtain ⟨rfl, hZ, hh⟩ := hP
  have hx := Bd.exec
  have hby := Bd.bytes
  have hml : c.maxLocals = 1 := hml0
  have hown : s.vm.findClass "java/lang/String" = some m.cls := findClass_of_methodNamed Bd.named
  have hnm := (name_of_methodNamed Bd.named Bd.method).1
  have X0 : Stand p l e ({ frames := 0, cells := 0, slots := 0, locals := 0 } : Room) s m #[(.ref a1)] below meth c s₁ [] 0 0 := Stand.of_body Bd
  have e0 : s₁.heap = h0 := by rw [← hh, Bd.state]; rfl
  have N0 := Fr.nil n0
  suffices hR : ∀ P : State → Prop, (∀ s₂ o v L, s₂.status = .running → Ended s₂ below o → o = .returned v → Q_rm24 Z a1 w2 cz h0 n0 v s₂.heap L → FrameEnd s o s₂ L ({ frames := 0, cells := 0, slots := 0, locals := 0 } : Room).cells ({ frames := 0, cells := 0, slots := 0, locals := 0 } : Room).slots → P s₂) → Rch p.tables e below P (s₁.setTop (mkF m 0 #[.val (.ref a1)] [])) by
    obtain ⟨s₂, h1, o, h2⟩ := hR (fun s₂ => ∃ o, s₂.status = .running ∧ Ended s₂ below o ∧ ∃ v L, o = .returned v ∧ Q_rm24 Z a1 w2 cz h0 n0 v s₂.heap L ∧ FrameEnd s o s₂ L ({ frames := 0, cells := 0, slots := 0, locals := 0 } : Room).cells ({ frames := 0, cells := 0, slots := 0, locals := 0 } : Room).slots) (fun s₂ o v L q1 q2 q3 q4 q5 => ⟨o, q1, q2, v, L, q3, q4, q5⟩)
    exact ⟨s₂, o, castTop (ef_rm24 m a1) h1, h2⟩
  intro P hPd
  have f101 := P1.ext P0.2
  obtain ⟨T102, X102, e102, st102⟩ := getS2 X0 hx hZ hown (host := "") (Or.inl (ow87 hw)) Via.refl e0 f101 (g := (mkF m 0 #[.val (.ref a1)] [])) rfl (hb hby d24_0)
  refine Rch.go st102 ?_
  show Rch _ _ _ _ (T102.setTop (mkF m 3 #[.val (.ref a1)] [(.int cz)]))
  refine Rch.go (fun zt zk => XS.ifNo X102.here hx rfl (hb hby d24_3) rfl ((if0 _ _).trans (feq (hcz : ¬ (cz = (0 : Int32)))).1) zk) ?_
  show Rch _ _ _ _ (T102.setTop (mkF m 6 #[.val (.ref a1)] []))
  refine Rch.go (fun zt zk => XS.aloadN X102.here hx rfl (hb hby d24_6) rfl rfl zk) ?_
  show Rch _ _ _ _ (T102.setTop (mkF m 7 #[.val (.ref a1)] [(.ref a1)]))
  obtain ⟨T103, X103, e103, st103⟩ := getF X102 hx hZ hown (host := "") (Or.inl (ow115 hw)) Via.refl e102 P2 (g := (mkF m 7 #[.val (.ref a1)] [(.ref a1)])) rfl rfl (hb hby d24_7)
  refine Rch.go st103 ?_
  show Rch _ _ _ _ (T103.setTop (mkF m 10 #[.val (.ref a1)] [(.int w2)]))
  refine Rch.go (fun zt zk => XS.goto X103.here hx rfl (pc0 := 10) (pc' := 14) rfl (hb hby d24_10) (by decide) (by decide) zk) ?_
  show Rch _ _ _ _ (T103.setTop (mkF m 14 #[.val (.ref a1)] [(.int w2)]))
  obtain ⟨fs, hr, hrun, hended, hW, hsame⟩ := X103.leave (v := some (.int (nar .byte w2))) (fun h => by rw [Bd.returns] at h; cases h)
  refine Rch.mk (retN X103 hx (t := .byte) Bd.returns (by simp) (hb hby d24_14) hr) (hPd _ _ _ _ hrun hended rfl ?_ ⟨⟨_, rfl⟩, hW, hsame.mono (by decide) (by decide)⟩)
  show Q_rm24 Z a1 w2 cz h0 n0 _ T103.heap _
  rw [e103]
  exact ⟨rfl, N0, rfl⟩
theorem ef_rm23 (m : MethodId) (a1 : Addr) : entryFrame m #[(.ref a1)] 1 = mkF m 0 #[.val (.ref a1)] [] := by first | (simp [entryFrame, mkF, argsToLocals, Value.category]; done) | rfl
theorem d23_0 : decode jdk_42_method_54_code 0 = .ok (.aload_n 0, 1) := by decide +kernel
theorem d23_1 : decode jdk_42_method_54_code 1 = .ok (.getfield 9, 3) := by decide +kernel
theorem d23_4 : decode jdk_42_method_54_code 4 = .ok (.arraylength, 1) := by decide +kernel
theorem d23_5 : decode jdk_42_method_54_code 5 = .ok (.aload_n 0, 1) := by decide +kernel
theorem d23_6 : decode jdk_42_method_54_code 6 = .ok (.invokevirtual 335, 3) := by decide +kernel
theorem pd___B : parseMethodDescriptor "()B" = some ⟨[], some .byte⟩ := by decide +kernel
theorem d23_9 : decode jdk_42_method_54_code 9 = .ok (.ishr, 1) := by decide +kernel
theorem d23_10 : decode jdk_42_method_54_code 10 = .ok (.ireturn, 1) := by decide +kernel
def Q_rm23 (Z : State) (a1 : Addr) (b0 : Addr) (kb : ClassId) (zz : Int32) (vs : List Value) (w2 : Int32) (cz : Int32) (h0 : Heap) (n0 : Nat) (v : Option Value) (h : Heap) (L : List Loc) : Prop := v = some (.int (zz >>> ((nar .byte w2) &&& 31))) ∧ Fr n0 L ∧ h = h0
set_option maxRecDepth 65536 in
set_option maxHeartbeats 40000000 in
theorem rm23 (l : Launch) (Z : State) (a0 : Array Value) (hw : ∀ d ∈ tables_1, d.before a0 Z = true) (ws : List Jvm.Cond) (a1 : Addr) (b0 : Addr) (kb : ClassId) (zz : Int32) (vs : List Value) (w2 : Int32) (cz : Int32) (h0 : Heap) (n0 : Nat) (Z0 : n0 ≤ h0.size) (P0 : Old Z n0 h0) (P1 : Sta Z Z.heap "java/lang/String" "COMPACT_STRINGS" "Z" (.int cz)) (P2 : Exa Z h0 a1 "java/lang/String") (P3 : Fld Z h0 a1 "java/lang/String" "coder" "B" (.int w2)) (P4 : Fld Z h0 a1 "java/lang/String" "value" "[B" (.ref b0)) (P5 : Arv Z h0 b0 kb .byte zz vs (.int (0 : Int32))) (hcz : ¬ (cz = (0 : Int32))) :
    MetFree l (⟨"java/lang/String", "length", "()I"⟩ : MethodName) (head1 (Jvm.Cond.code (⟨"java/lang/String", "length", "()I"⟩ : MethodName) jdk_42_method_54_code 1 (some .int) :: ws) ({ frames := 1, cells := 0, slots := 0, locals := 13 } : Room)) (fun a U => a = #[(.ref a1)] ∧ Z.Warmed39 U.vm ∧ U.heap = h0) (fun _ _ _ _ _ => True) (fun _ U o U' => ∃ v L, o = .returned v ∧ Q_rm23 Z a1 b0 kb zz vs w2 cz h0 n0 v U'.heap L ∧ FrameEnd U o U' L ({ frames := 1, cells := 0, slots := 0, locals := 13 } : Room).cells ({ frames := 1, cells := 0, slots := 0, locals := 13 } : Room).slots) := by
  refine MetFree.of_bodySF (plainFor_of_name pn_java_lang_String) hisR ?_
  intro p e s m args below meth c s₁ Bd hml0 hP hK
  obtain ⟨rfl, hZ, hh⟩ := hP
  have hx := Bd.exec
  have hby := Bd.bytes
  have hml : c.maxLocals = 1 := hml0
  have hown : s.vm.findClass "java/lang/String" = some m.cls := findClass_of_methodNamed Bd.named
  have hnm := (name_of_methodNamed Bd.named Bd.method).1
  have X0 : Stand p l e ({ frames := 1, cells := 0, slots := 0, locals := 13 } : Room) s m #[(.ref a1)] below meth c s₁ [] 0 0 := Stand.of_body Bd
  have e0 : s₁.heap = h0 := by rw [← hh, Bd.state]; rfl
  have N0 := Fr.nil n0
  suffices hR : ∀ P : State → Prop, (∀ s₂ o v L, s₂.status = .running → Ended s₂ below o → o = .returned v → Q_rm23 Z a1 b0 kb zz vs w2 cz h0 n0 v s₂.heap L → FrameEnd s o s₂ L ({ frames := 1, cells := 0, slots := 0, locals := 13 } : Room).cells ({ frames := 1, cells := 0, slots := 0, locals := 13 } : Room).slots → P s₂) → Rch p.tables e below P (s₁.setTop (mkF m 0 #[.val (.ref a1)] [])) by
    obtain ⟨s₂, h1, o, h2⟩ := hR (fun s₂ => ∃ o, s₂.status = .running ∧ Ended s₂ below o ∧ ∃ v L, o = .returned v ∧ Q_rm23 Z a1 b0 kb zz vs w2 cz h0 n0 v s₂.heap L ∧ FrameEnd s o s₂ L ({ frames := 1, cells := 0, slots := 0, locals := 13 } : Room).cells ({ frames := 1, cells := 0, slots := 0, locals := 13 } : Room).slots) (fun s₂ o v L q1 q2 q3 q4 q5 => ⟨o, q1, q2, v, L, q3, q4, q5⟩)
    exact ⟨s₂, o, castTop (ef_rm23 m a1) h1, h2⟩
  intro P hPd
  refine Rch.go (fun zt zk => XS.aloadN X0.here hx rfl (hb hby d23_0) rfl rfl zk) ?_
  show Rch _ _ _ _ (s₁.setTop (mkF m 1 #[.val (.ref a1)] [(.ref a1)]))
  obtain ⟨T101, X101, e101, st101⟩ := getF X0 hx hZ hown (host := "") (Or.inl (ow113 hw)) Via.refl e0 P4 (g := (mkF m 1 #[.val (.ref a1)] [(.ref a1)])) rfl rfl (hb hby d23_1)
  refine Rch.go st101 ?_
  show Rch _ _ _ _ (T101.setTop (mkF m 4 #[.val (.ref a1)] [(.ref b0)]))
  obtain ⟨cl102, Ar102, q102, S102, M102, H102, G102⟩ := id P5
  refine Rch.go (X101.arraylength hx (by rw [e101]; exact Ar102.1) (State.isArrayOf_alike hZ.alike Ar102.2.1) (g := (mkF m 4 #[.val (.ref a1)] [(.ref b0)])) rfl rfl (hb hby d23_4)) ?_
  rw [len_of S102 M102]
  show Rch _ _ _ _ (T101.setTop (mkF m 5 #[.val (.ref a1)] [(.int zz)]))
  refine Rch.go (fun zt zk => XS.aloadN X101.here hx rfl (hb hby d23_5) rfl rfl zk) ?_
  show Rch _ _ _ _ (T101.setTop (mkF m 6 #[.val (.ref a1)] [(.ref a1), (.int zz)]))
  obtain ⟨cq103, kq103, q103a, q103b, q103c⟩ := isOf hZ e101 P2
  obtain ⟨_, _, ⟨T103, L103, k103, n103⟩, -, X103, ⟨Lc103, hQ103, l103, y103, z103⟩, st103⟩ := X101.virtualBack hx (y := (⟨"java/lang/String", "coder", "()B"⟩ : MethodName)) (z := (⟨"java/lang/String", "coder", "()B"⟩ : MethodName)) hown (mvT hZ (ow122 hw)) (mvT hZ (ow123 hw)) (notFace_of_selects (args := #[]) (mvT hZ (ow125 hw))) (mvT hZ (ow125 hw)) (mvT hZ (ow124 hw)) (by decide) (backOf (W := 1) (rm24 l Z a0 hw [] (a1) (w2) (cz) h0 n0 Z0 (P0) (P1) (P3) (hcz)) hZ (ow126 hw) (ow56 hw) (by decide) (by decide)) q103a q103c (g := (mkF m 6 #[.val (.ref a1)] [(.ref a1), (.int zz)])) rfl (by rw [hml]; rfl) (Steps.refl _) (argsL := []) (rest := [(.int zz)]) (lenOf pd___B rfl) rfl (by show 2 * 0 + _ ≤ _; exact Nat.le_of_eq rfl) (hb hby d23_6) (fun _ _ => ⟨rfl, e101, (by decide : 0 + 0 ≤ _), (by decide : 0 + 0 ≤ _)⟩)
  dsimp only [Pt.U, Pt.locs, Pt.cells, Pt.slots] at X103 l103 y103 z103 st103 hQ103
  subst l103 y103 z103
  obtain ⟨rfl, N103q, eq103⟩ := hQ103
  have N103 := Fr.app N0 N103q
  refine Rch.go (fun zt zk => st103.trans zk) ?_
  show Rch _ _ _ _ (T103.setTop (mkF m 9 #[.val (.ref a1)] [(.int (nar .byte w2)), (.int zz)]))
  refine Rch.go (fun zt zk => XS.ishr X103.here hx rfl (hb hby d23_9) rfl zk) ?_
  show Rch _ _ _ _ (T103.setTop (mkF m 10 #[.val (.ref a1)] [(.int (zz >>> ((nar .byte w2) &&& 31)))]))
  obtain ⟨fs, hr, hrun, hended, hW, hsame⟩ := X103.leave (v := some (.int (zz >>> ((nar .byte w2) &&& 31)))) (fun h => by rw [Bd.returns] at h; cases h)
  refine Rch.mk (retI X103 hx Bd.returns (hb hby d23_10) hr) (hPd _ _ _ _ hrun hended rfl ?_ ⟨⟨_, rfl⟩, hW, hsame.mono (by decide) (by decide)⟩)
  show Q_rm23 Z a1 b0 kb zz vs w2 cz h0 n0 _ T103.heap _
  rw [eq103]
  exact ⟨rfl, N103, rfl⟩
def DigB (v : Int32) : Prop := 48 ≤ v.toInt ∧ v.toInt ≤ 57
def WsB (v : Int32) : Prop := v = (32 : Int32) ∨ v = (9 : Int32) ∨ v = (10 : Int32) ∨ v = (13 : Int32)
def Txt (d nn : Int32) (bs : List Int32) : Prop := ∀ i : Int32, 0 ≤ i.toInt → i.toInt < nn.toInt → (i.toInt < d.toInt → DigB (bAt bs i) ∧ (i.toInt = 0 → ¬ (bAt bs i = (48 : Int32)))) ∧ (d.toInt ≤ i.toInt → WsB (bAt bs i))
theorem own_i8 {x : Int32} (h : 0 ≤ x.toInt ∧ x.toInt < 128) : x.toInt8.toInt32 = x := by
  have h1 := c_i2b x; exact Int32.toInt_inj.mp (by omega)
theorem own_nar {x : Int32} (h : 0 ≤ x.toInt ∧ x.toInt < 128) : nar .byte x = x := own_i8 h
theorem own_r (z m : Int64) (D : Int) (hD : 0 < D) (hm : m.toInt = D) : 0 ≤ ((z &&& (15 : Int64)) - ((z &&& (15 : Int64)) / m) * m).toInt ∧ ((z &&& (15 : Int64)) - ((z &&& (15 : Int64)) / m) * m).toInt < D := by
  have h1 := c_maskL z (15 : Int64) 4 (by decide) (by decide)
  have h2 := (c_lrem (z &&& (15 : Int64)) m D hm).1 (by rw [h1]; omega)
  rw [h2]; exact ⟨Int.emod_nonneg _ (by omega), Int.emod_lt_of_pos _ hD⟩
theorem own_bd {b : Int32} {r : Int64} (hb : 48 ≤ b.toInt ∧ b.toInt ≤ 49) (hr : 0 ≤ r.toInt ∧ r.toInt < 10) : (b + r.toInt32).toInt = b.toInt + r.toInt := by
  have h1 := c_l2i r; have h2 := rng32 r.toInt32; have h3 := c_iadd b r.toInt32; have h4 := rng32 (b + r.toInt32); omega
theorem own_dv {b : Int32} {r : Int64} (hb : 48 ≤ b.toInt ∧ b.toInt ≤ 49) (hr : 0 ≤ r.toInt ∧ r.toInt < 10) (hs : b.toInt + r.toInt ≤ 57) : b.toInt ≤ (nar .byte (nar .byte ((b + r.toInt32).toInt8.toInt32))).toInt ∧ (nar .byte (nar .byte ((b + r.toInt32).toInt8.toInt32))).toInt ≤ 57 := by
  have h := own_bd hb hr
  have h1 : 0 ≤ (b + r.toInt32).toInt ∧ (b + r.toInt32).toInt < 128 := by omega
  rw [own_i8 h1, own_nar h1, own_nar h1]; omega
theorem own_sp (x : Int32) : WsB (fSp x) := by
  unfold fSp WsB; split
  · exact Or.inl rfl
  · split
    · exact Or.inr (Or.inl rfl)
    · split
      · exact Or.inr (Or.inr (Or.inl rfl))
      · exact Or.inr (Or.inr (Or.inr rfl))
theorem own_ws (x : Int32) : WsB (nar .byte (nar .byte (fSp x))) := by
  have h := own_sp x
  have h1 : 0 ≤ (fSp x).toInt ∧ (fSp x).toInt < 128 := by rcases h with h | h | h | h <;> rw [h] <;> decide
  rw [own_nar h1, own_nar h1]; exact h
theorem own_b49 : 48 ≤ (49 : Int32).toInt ∧ (49 : Int32).toInt ≤ 49 := by decide
theorem own_b48 : 48 ≤ (48 : Int32).toInt ∧ (48 : Int32).toInt ≤ 49 := by decide
theorem own_at0 (d : Int32) (q3 q4 : Int64) : (0 < d.toInt → DigB (nar .byte (fAt0 d q3 q4)) ∧ ¬ ((0 : Int) = 0 ∧ nar .byte (fAt0 d q3 q4) = (48 : Int32))) ∧ (d.toInt ≤ 0 → WsB (nar .byte (fAt0 d q3 q4))) := by
  have ek : (0 : Int32).toInt = 0 := by decide
  have e8 : (48 : Int32).toInt = 48 := by decide
  have e9 : (49 : Int32).toInt = 49 := by decide
  unfold fAt0
  constructor
  · intro h
    rw [if_pos (show (0 : Int32) < d by rw [Int32.lt_iff_toInt_lt, ek]; exact h)]
    have hr := own_r (q3) (9 : Int64) 9 (by decide) (by decide)
    have hv := own_dv own_b49 (r := _) ⟨hr.1, by omega⟩ (by omega)
    refine ⟨⟨by omega, hv.2⟩, fun q => ?_⟩
    first | (have := q.1; omega) | (have h2 := hv.1; rw [q.2] at h2; omega)
  · intro h
    rw [if_neg (show ¬ (0 : Int32) < d by rw [Int32.lt_iff_toInt_lt, ek]; omega)]
    exact own_ws _
theorem own_at1 (d : Int32) (q3 q4 : Int64) : (1 < d.toInt → DigB (nar .byte (fAt1 d q3 q4)) ∧ ¬ ((1 : Int) = 0 ∧ nar .byte (fAt1 d q3 q4) = (48 : Int32))) ∧ (d.toInt ≤ 1 → WsB (nar .byte (fAt1 d q3 q4))) := by
  have ek : (1 : Int32).toInt = 1 := by decide
  have e8 : (48 : Int32).toInt = 48 := by decide
  have e9 : (49 : Int32).toInt = 49 := by decide
  unfold fAt1
  constructor
  · intro h
    rw [if_pos (show (1 : Int32) < d by rw [Int32.lt_iff_toInt_lt, ek]; exact h)]
    have hr := own_r (((q3.toUInt64 >>> (((4 : Int32) * (1 : Int32)) &&& 0x3f).toInt64.toUInt64).toInt64)) (10 : Int64) 10 (by decide) (by decide)
    have hv := own_dv own_b48 (r := _) ⟨hr.1, by omega⟩ (by omega)
    refine ⟨⟨by omega, hv.2⟩, fun q => ?_⟩
    first | (have := q.1; omega) | (have h2 := hv.1; rw [q.2] at h2; omega)
  · intro h
    rw [if_neg (show ¬ (1 : Int32) < d by rw [Int32.lt_iff_toInt_lt, ek]; omega)]
    exact own_ws _
theorem own_at2 (d : Int32) (q3 q4 : Int64) : (2 < d.toInt → DigB (nar .byte (fAt2 d q3 q4)) ∧ ¬ ((2 : Int) = 0 ∧ nar .byte (fAt2 d q3 q4) = (48 : Int32))) ∧ (d.toInt ≤ 2 → WsB (nar .byte (fAt2 d q3 q4))) := by
  have ek : (2 : Int32).toInt = 2 := by decide
  have e8 : (48 : Int32).toInt = 48 := by decide
  have e9 : (49 : Int32).toInt = 49 := by decide
  unfold fAt2
  constructor
  · intro h
    rw [if_pos (show (2 : Int32) < d by rw [Int32.lt_iff_toInt_lt, ek]; exact h)]
    have hr := own_r (((q3.toUInt64 >>> (((4 : Int32) * (2 : Int32)) &&& 0x3f).toInt64.toUInt64).toInt64)) (10 : Int64) 10 (by decide) (by decide)
    have hv := own_dv own_b48 (r := _) ⟨hr.1, by omega⟩ (by omega)
    refine ⟨⟨by omega, hv.2⟩, fun q => ?_⟩
    first | (have := q.1; omega) | (have h2 := hv.1; rw [q.2] at h2; omega)
  · intro h
    rw [if_neg (show ¬ (2 : Int32) < d by rw [Int32.lt_iff_toInt_lt, ek]; omega)]
    exact own_ws _
theorem own_at3 (d : Int32) (q3 q4 : Int64) : (3 < d.toInt → DigB (nar .byte (fAt3 d q3 q4)) ∧ ¬ ((3 : Int) = 0 ∧ nar .byte (fAt3 d q3 q4) = (48 : Int32))) ∧ (d.toInt ≤ 3 → WsB (nar .byte (fAt3 d q3 q4))) := by
  have ek : (3 : Int32).toInt = 3 := by decide
  have e8 : (48 : Int32).toInt = 48 := by decide
  have e9 : (49 : Int32).toInt = 49 := by decide
  unfold fAt3
  constructor
  · intro h
    rw [if_pos (show (3 : Int32) < d by rw [Int32.lt_iff_toInt_lt, ek]; exact h)]
    have hr := own_r (((q3.toUInt64 >>> (((4 : Int32) * (3 : Int32)) &&& 0x3f).toInt64.toUInt64).toInt64)) (10 : Int64) 10 (by decide) (by decide)
    have hv := own_dv own_b48 (r := _) ⟨hr.1, by omega⟩ (by omega)
    refine ⟨⟨by omega, hv.2⟩, fun q => ?_⟩
    first | (have := q.1; omega) | (have h2 := hv.1; rw [q.2] at h2; omega)
  · intro h
    rw [if_neg (show ¬ (3 : Int32) < d by rw [Int32.lt_iff_toInt_lt, ek]; omega)]
    exact own_ws _
theorem own_at4 (d : Int32) (q3 q4 : Int64) : (4 < d.toInt → DigB (nar .byte (fAt4 d q3 q4)) ∧ ¬ ((4 : Int) = 0 ∧ nar .byte (fAt4 d q3 q4) = (48 : Int32))) ∧ (d.toInt ≤ 4 → WsB (nar .byte (fAt4 d q3 q4))) := by
  have ek : (4 : Int32).toInt = 4 := by decide
  have e8 : (48 : Int32).toInt = 48 := by decide
  have e9 : (49 : Int32).toInt = 49 := by decide
  unfold fAt4
  constructor
  · intro h
    rw [if_pos (show (4 : Int32) < d by rw [Int32.lt_iff_toInt_lt, ek]; exact h)]
    have hr := own_r (((q3.toUInt64 >>> (((4 : Int32) * (4 : Int32)) &&& 0x3f).toInt64.toUInt64).toInt64)) (10 : Int64) 10 (by decide) (by decide)
    have hv := own_dv own_b48 (r := _) ⟨hr.1, by omega⟩ (by omega)
    refine ⟨⟨by omega, hv.2⟩, fun q => ?_⟩
    first | (have := q.1; omega) | (have h2 := hv.1; rw [q.2] at h2; omega)
  · intro h
    rw [if_neg (show ¬ (4 : Int32) < d by rw [Int32.lt_iff_toInt_lt, ek]; omega)]
    exact own_ws _
theorem own_at5 (d : Int32) (q3 q4 : Int64) : (5 < d.toInt → DigB (nar .byte (fAt5 d q3 q4)) ∧ ¬ ((5 : Int) = 0 ∧ nar .byte (fAt5 d q3 q4) = (48 : Int32))) ∧ (d.toInt ≤ 5 → WsB (nar .byte (fAt5 d q3 q4))) := by
  have ek : (5 : Int32).toInt = 5 := by decide
  have e8 : (48 : Int32).toInt = 48 := by decide
  have e9 : (49 : Int32).toInt = 49 := by decide
  unfold fAt5
  constructor
  · intro h
    rw [if_pos (show (5 : Int32) < d by rw [Int32.lt_iff_toInt_lt, ek]; exact h)]
    have hr := own_r (((q3.toUInt64 >>> (((4 : Int32) * (5 : Int32)) &&& 0x3f).toInt64.toUInt64).toInt64)) (10 : Int64) 10 (by decide) (by decide)
    have hv := own_dv own_b48 (r := _) ⟨hr.1, by omega⟩ (by omega)
    refine ⟨⟨by omega, hv.2⟩, fun q => ?_⟩
    first | (have := q.1; omega) | (have h2 := hv.1; rw [q.2] at h2; omega)
  · intro h
    rw [if_neg (show ¬ (5 : Int32) < d by rw [Int32.lt_iff_toInt_lt, ek]; omega)]
    exact own_ws _
theorem own_at6 (d : Int32) (q3 q4 : Int64) : (6 < d.toInt → DigB (nar .byte (fAt6 d q3 q4)) ∧ ¬ ((6 : Int) = 0 ∧ nar .byte (fAt6 d q3 q4) = (48 : Int32))) ∧ (d.toInt ≤ 6 → WsB (nar .byte (fAt6 d q3 q4))) := by
  have ek : (6 : Int32).toInt = 6 := by decide
  have e8 : (48 : Int32).toInt = 48 := by decide
  have e9 : (49 : Int32).toInt = 49 := by decide
  unfold fAt6
  constructor
  · intro h
    rw [if_pos (show (6 : Int32) < d by rw [Int32.lt_iff_toInt_lt, ek]; exact h)]
    have hr := own_r (((q3.toUInt64 >>> (((4 : Int32) * (6 : Int32)) &&& 0x3f).toInt64.toUInt64).toInt64)) (10 : Int64) 10 (by decide) (by decide)
    have hv := own_dv own_b48 (r := _) ⟨hr.1, by omega⟩ (by omega)
    refine ⟨⟨by omega, hv.2⟩, fun q => ?_⟩
    first | (have := q.1; omega) | (have h2 := hv.1; rw [q.2] at h2; omega)
  · intro h
    rw [if_neg (show ¬ (6 : Int32) < d by rw [Int32.lt_iff_toInt_lt, ek]; omega)]
    exact own_ws _
theorem own_at7 (d : Int32) (q3 q4 : Int64) : (7 < d.toInt → DigB (nar .byte (fAt7 d q3 q4)) ∧ ¬ ((7 : Int) = 0 ∧ nar .byte (fAt7 d q3 q4) = (48 : Int32))) ∧ (d.toInt ≤ 7 → WsB (nar .byte (fAt7 d q3 q4))) := by
  have ek : (7 : Int32).toInt = 7 := by decide
  have e8 : (48 : Int32).toInt = 48 := by decide
  have e9 : (49 : Int32).toInt = 49 := by decide
  unfold fAt7
  constructor
  · intro h
    rw [if_pos (show (7 : Int32) < d by rw [Int32.lt_iff_toInt_lt, ek]; exact h)]
    have hr := own_r (((q3.toUInt64 >>> (((4 : Int32) * (7 : Int32)) &&& 0x3f).toInt64.toUInt64).toInt64)) (10 : Int64) 10 (by decide) (by decide)
    have hv := own_dv own_b48 (r := _) ⟨hr.1, by omega⟩ (by omega)
    refine ⟨⟨by omega, hv.2⟩, fun q => ?_⟩
    first | (have := q.1; omega) | (have h2 := hv.1; rw [q.2] at h2; omega)
  · intro h
    rw [if_neg (show ¬ (7 : Int32) < d by rw [Int32.lt_iff_toInt_lt, ek]; omega)]
    exact own_ws _
theorem own_lit {i : Int32} {k : Int32} (h : i.toInt = k.toInt) : i = k := Int32.toInt_inj.mp h
theorem own_txt (d : Int32) (q3 q4 : Int64) : Txt d (8 : Int32) [nar .byte (fAt0 d q3 q4), nar .byte (fAt1 d q3 q4), nar .byte (fAt2 d q3 q4), nar .byte (fAt3 d q3 q4), nar .byte (fAt4 d q3 q4), nar .byte (fAt5 d q3 q4), nar .byte (fAt6 d q3 q4), nar .byte (fAt7 d q3 q4)] := by
  intro i h0 h8
  have e8 : (8 : Int32).toInt = 8 := by decide
  rw [e8] at h8
  have hi : i.toInt = 0 ∨ i.toInt = 1 ∨ i.toInt = 2 ∨ i.toInt = 3 ∨ i.toInt = 4 ∨ i.toInt = 5 ∨ i.toInt = 6 ∨ i.toInt = 7 := by omega
  rcases hi with h | h | h | h | h | h | h | h
  · obtain rfl := own_lit (k := (0 : Int32)) (h.trans (by decide))
    have e : (0 : Int32).toInt = 0 := by decide
    have ha := own_at0 d q3 q4
    rw [e]
    exact ⟨fun q => ⟨(ha.1 q).1, fun z w => (ha.1 q).2 ⟨z, w⟩⟩, ha.2⟩
  · obtain rfl := own_lit (k := (1 : Int32)) (h.trans (by decide))
    have e : (1 : Int32).toInt = 1 := by decide
    have ha := own_at1 d q3 q4
    rw [e]
    exact ⟨fun q => ⟨(ha.1 q).1, fun z w => (ha.1 q).2 ⟨z, w⟩⟩, ha.2⟩
  · obtain rfl := own_lit (k := (2 : Int32)) (h.trans (by decide))
    have e : (2 : Int32).toInt = 2 := by decide
    have ha := own_at2 d q3 q4
    rw [e]
    exact ⟨fun q => ⟨(ha.1 q).1, fun z w => (ha.1 q).2 ⟨z, w⟩⟩, ha.2⟩
  · obtain rfl := own_lit (k := (3 : Int32)) (h.trans (by decide))
    have e : (3 : Int32).toInt = 3 := by decide
    have ha := own_at3 d q3 q4
    rw [e]
    exact ⟨fun q => ⟨(ha.1 q).1, fun z w => (ha.1 q).2 ⟨z, w⟩⟩, ha.2⟩
  · obtain rfl := own_lit (k := (4 : Int32)) (h.trans (by decide))
    have e : (4 : Int32).toInt = 4 := by decide
    have ha := own_at4 d q3 q4
    rw [e]
    exact ⟨fun q => ⟨(ha.1 q).1, fun z w => (ha.1 q).2 ⟨z, w⟩⟩, ha.2⟩
  · obtain rfl := own_lit (k := (5 : Int32)) (h.trans (by decide))
    have e : (5 : Int32).toInt = 5 := by decide
    have ha := own_at5 d q3 q4
    rw [e]
    exact ⟨fun q => ⟨(ha.1 q).1, fun z w => (ha.1 q).2 ⟨z, w⟩⟩, ha.2⟩
  · obtain rfl := own_lit (k := (6 : Int32)) (h.trans (by decide))
    have e : (6 : Int32).toInt = 6 := by decide
    have ha := own_at6 d q3 q4
    rw [e]
    exact ⟨fun q => ⟨(ha.1 q).1, fun z w => (ha.1 q).2 ⟨z, w⟩⟩, ha.2⟩
  · obtain rfl := own_lit (k := (7 : Int32)) (h.trans (by decide))
    have e : (7 : Int32).toInt = 7 := by decide
    have ha := own_at7 d q3 q4
    rw [e]
    exact ⟨fun q => ⟨(ha.1 q).1, fun z w => (ha.1 q).2 ⟨z, w⟩⟩, ha.2⟩
theorem own_len8 (b0 b1 b2 b3 b4 b5 b6 b7 : Int32) : Len (8 : Int32) [b0, b1, b2, b3, b4, b5, b6, b7] := ⟨rfl, by decide⟩
theorem own_len0 : Len (0 : Int32) [] := ⟨rfl, by decide⟩
theorem own_dgt {v : Int32} (h : DigB v) : ¬ (fDg v = (0 : Int32)) ∧ fWs v = (0 : Int32) := by
  obtain ⟨h1, h2⟩ := h
  have a1 : ¬ (v < (48 : Int32)) := by rw [Int32.lt_iff_toInt_lt]; have : (48 : Int32).toInt = 48 := by decide
                                       omega
  have a2 : ¬ ((57 : Int32) < v) := by rw [Int32.lt_iff_toInt_lt]; have : (57 : Int32).toInt = 57 := by decide
                                       omega
  constructor
  · unfold fDg; rw [if_neg a1, if_neg a2]; decide
  · unfold fWs
    have n : ∀ k : Int32, k.toInt < 48 → ¬ (v = k) := fun k hk q => by rw [q] at h1; omega
    rw [if_neg (n _ (by decide)), if_neg (n _ (by decide)), if_neg (n _ (by decide)), if_neg (n _ (by decide))]
theorem own_wsp {v : Int32} (h : WsB v) : fDg v = (0 : Int32) ∧ ¬ (fWs v = (0 : Int32)) ∧ v.toInt < 33 ∧ 0 ≤ v.toInt := by
  rcases h with rfl | rfl | rfl | rfl <;> decide
theorem own_skE {d nn : Int32} {bs : List Int32} (hn : Len nn bs) (hT : Txt d nn bs) : ∀ (k : Nat) (i : Int32), 0 ≤ i.toInt → d.toInt ≤ i.toInt → i.toInt ≤ nn.toInt → nn.toInt - i.toInt ≤ (k : Int) → fSkip nn bs k i = nn := by
  intro k
  induction k with
  | zero => intro i h0 h1 h2 h3; exact own_lit (by show i.toInt = _; omega)
  | succ k ih =>
    intro i h0 h1 h2 h3
    by_cases hlt : i < nn
    · have hl := hlt
      rw [Int32.lt_iff_toInt_lt] at hl
      have hu := own_up hn h0 hlt
      rw [own_s2 hlt (own_wsp ((hT i h0 hl).2 h1)).2.1]
      exact ih _ (by omega) (by omega) (by omega) (by omega)
    · rw [own_s0 hlt]; rw [Int32.lt_iff_toInt_lt] at hlt; exact own_lit (by omega)
theorem own_dgE {d nn : Int32} {bs : List Int32} (hn : Len nn bs) (hT : Txt d nn bs) (hd : d.toInt ≤ nn.toInt) : ∀ (k : Nat) (i : Int32), 0 ≤ i.toInt → i.toInt ≤ d.toInt → d.toInt - i.toInt ≤ (k : Int) → fDig nn bs k i = d := by
  intro k
  induction k with
  | zero => intro i h0 h1 h2; exact own_lit (by show i.toInt = _; omega)
  | succ k ih =>
    intro i h0 h1 h2
    by_cases hlt : i < nn
    · have hl := hlt
      rw [Int32.lt_iff_toInt_lt] at hl
      by_cases hid : i.toInt < d.toInt
      · have hu := own_up hn h0 hlt
        rw [own_d2 hlt (own_dgt ((hT i h0 hl).1 hid).1).1]
        exact ih _ (by omega) (by omega) (by omega)
      · rw [own_d1 (own_wsp ((hT i h0 hl).2 (by omega))).1]; exact own_lit (by omega)
    · rw [own_d0 hlt]; rw [Int32.lt_iff_toInt_lt] at hlt; exact own_lit (by omega)
theorem own_sk0 {d nn : Int32} {bs : List Int32} (hT : Txt d nn bs) (hd : 0 < d.toInt) (hd2 : d.toInt ≤ nn.toInt) : fSkip nn bs 8 (0 : Int32) = (0 : Int32) := by
  have e0 : (0 : Int32).toInt = 0 := by decide
  exact own_s1 (own_dgt ((hT (0 : Int32) (by omega) (by omega)).1 (by omega)).1).2
theorem own_m0 {d nn : Int32} {bs : List Int32} (hT : Txt d nn bs) (hd : 0 < d.toInt) (hd2 : d.toInt ≤ nn.toInt) : (¬ (bAt bs (0 : Int32) = (45 : Int32))) ∧ ¬ (bAt bs (0 : Int32) = (48 : Int32)) := by
  have e0 : (0 : Int32).toInt = 0 := by decide
  have h := (hT (0 : Int32) (by omega) (by omega)).1 (by omega)
  refine ⟨fun q => ?_, h.2 e0⟩
  have h1 := h.1.1; rw [q] at h1; revert h1; decide
theorem own_md {d nn : Int32} {bs : List Int32} (hT : Txt d nn bs) (hd : 0 ≤ d.toInt) (k : Int32) (hk : 33 ≤ k.toInt) : d < nn → ¬ (bAt bs d = k) := fun hlt q => by
  rw [Int32.lt_iff_toInt_lt] at hlt
  have h := own_wsp ((hT d hd hlt).2 (Int.le_refl _))
  rw [q] at h; omega
theorem own_pos {d nn : Int32} {bs : List Int32} (hT : Txt d nn bs) (hd2 : d.toInt ≤ nn.toInt) : ∀ i : Int32, 0 ≤ i.toInt → i.toInt < d.toInt → ¬ (bAt bs i < (0 : Int32)) := fun i h0 h1 => by
  have h := ((hT i h0 (by omega)).1 h1).1
  have e0 : (0 : Int32).toInt = 0 := by decide
  rw [Int32.lt_iff_toInt_lt]; have := h.1; omega
theorem own_sh0 (d : Int32) : d >>> ((nar .byte (nar .byte (0 : Int32))) &&& 31) = d := by
  refine Int32.toInt_inj.mp ?_
  rw [c_ishr d (nar .byte (nar .byte (0 : Int32))) 0 (by decide)]; simp
theorem own_dr (x : Int32) : 0 ≤ ((x &&& (2147483647 : Int32)) % (9 : Int32)).toInt ∧ ((x &&& (2147483647 : Int32)) % (9 : Int32)).toInt ≤ 8 := by
  have h := c_mask x (2147483647 : Int32) 31 (by decide) (by decide)
  have h2 := (c_irem (x &&& (2147483647 : Int32)) (9 : Int32) 9 (by decide)).1 (by rw [h]; omega)
  omega
theorem own_nlt (x : Int32) : ¬ (x < x) := by rw [Int32.lt_iff_toInt_lt]; omega
theorem ef_rm0 (m : MethodId) (p1 : Int32) (q2 : Int64) (q3 : Int64) : entryFrame m #[(.int p1), (.long q2), (.long q3)] maxLocals = mkF m 0 #[.val (.int p1), .val (.long q2), .second, .val (.long q3), .second, .unset, .unset, .unset, .unset, .unset, .unset, .unset] [] := by first | (simp [entryFrame, mkF, argsToLocals, Value.category, maxLocals]; done) | rfl
theorem pd__IIJJ_B : parseMethodDescriptor "(IIJJ)B" = some ⟨[.int, .int, .long, .long], some .byte⟩ := by decide +kernel
theorem pd___B_V : parseMethodDescriptor "([B)V" = some ⟨[(.array .byte)], none⟩ := by decide +kernel
theorem pd___Ljava_lang_String_ : parseMethodDescriptor "()Ljava/lang/String;" = some ⟨[], some (.object "java/lang/String")⟩ := by decide +kernel
theorem pd___I : parseMethodDescriptor "()I" = some ⟨[], some .int⟩ := by decide +kernel
def Q_rm0 (Z : State) (p1 : Int32) (q2 : Int64) (q3 : Int64) (ca : Addr) (ut : Addr) (is : Addr) (cz : Int32) (rG : Value) (h0 : Heap) (n0 : Nat) (v : Option Value) (h : Heap) (L : List Loc) : Prop := v = some (.int (1 : Int32)) ∧ Fr n0 L
set_option maxRecDepth 65536 in
set_option maxHeartbeats 40000000 in
theorem rm0 (l : Launch) (Z : State) (a0 : Array Value) (hw : ∀ d ∈ tables_1, d.before a0 Z = true) (ws : List Jvm.Cond) (p1 : Int32) (q2 : Int64) (q3 : Int64) (ca : Addr) (ut : Addr) (is : Addr) (cz : Int32) (rG : Value) (h0 : Heap) (n0 : Nat) (Z0 : n0 ≤ h0.size) (P0 : Sta Z Z.heap "sun/nio/cs/UTF_8" "INSTANCE" "Lsun/nio/cs/UTF_8;" (.ref ut)) (P1 : Sta Z Z.heap "sun/nio/cs/ISO_8859_1" "INSTANCE" "Lsun/nio/cs/ISO_8859_1;" (.ref is)) (P2 : Sta Z Z.heap "sun/nio/cs/US_ASCII" "INSTANCE" "Lsun/nio/cs/US_ASCII;" (.ref ca)) (P3 : Sta Z Z.heap "java/lang/String" "COMPACT_STRINGS" "Z" (.int cz)) (P4 : Exa Z h0 ca "sun/nio/cs/US_ASCII") (P5 : Sta Z Z.heap "jdk/internal/util/Preconditions" "SIOOBE_FORMATTER" "Ljava/util/function/BiFunction;" rG) (P6 : Sta Z Z.heap "java/nio/charset/StandardCharsets" "US_ASCII" "Ljava/nio/charset/Charset;" (.ref ca)) (P7 : Old Z n0 h0) (nut : ca ≠ ut) (nis : ca ≠ is) (hcz : ¬ (cz = (0 : Int32))) (hrG : rG.isRef = true) :
    MetFree l x (head1 (Jvm.Cond.code x code maxLocals ret :: ws) room_1) (fun a U => a = #[(.int p1), (.long q2), (.long q3)] ∧ Z.Warmed39 U.vm ∧ U.heap = h0) (fun _ _ _ _ _ => True) (fun _ U o U' => ∃ v L, o = .returned v ∧ Q_rm0 Z p1 q2 q3 ca ut is cz rG h0 n0 v U'.heap L ∧ FrameEnd U o U' L room_1.cells room_1.slots) := by
  refine MetFree.of_bodySF (plainFor_of_name pn_com_example_mark_time_marktime_io_JsonCursorEndPinLaw) hisR ?_
  intro p e s m args below meth c s₁ Bd hml0 hP hK
  obtain ⟨rfl, hZ, hh⟩ := hP
  have hx := Bd.exec
  have hby := Bd.bytes
  have hml : c.maxLocals = 12 := hml0
  have hown : s.vm.findClass "com/example/mark_time/marktime/io/JsonCursorEndPinLaw" = some m.cls := findClass_of_methodNamed Bd.named
  have hnm := (name_of_methodNamed Bd.named Bd.method).1
  have X0 : Stand p l e room_1 s m #[(.int p1), (.long q2), (.long q3)] below meth c s₁ [] 0 0 := Stand.of_body Bd
  have e0 : s₁.heap = h0 := by rw [← hh, Bd.state]; rfl
  have N0 := Fr.nil n0
  suffices hR : ∀ P : State → Prop, (∀ s₂ o v L, s₂.status = .running → Ended s₂ below o → o = .returned v → Q_rm0 Z p1 q2 q3 ca ut is cz rG h0 n0 v s₂.heap L → FrameEnd s o s₂ L room_1.cells room_1.slots → P s₂) → Rch p.tables e below P (s₁.setTop (mkF m 0 #[.val (.int p1), .val (.long q2), .second, .val (.long q3), .second, .unset, .unset, .unset, .unset, .unset, .unset, .unset] [])) by
    obtain ⟨s₂, h1, o, h2⟩ := hR (fun s₂ => ∃ o, s₂.status = .running ∧ Ended s₂ below o ∧ ∃ v L, o = .returned v ∧ Q_rm0 Z p1 q2 q3 ca ut is cz rG h0 n0 v s₂.heap L ∧ FrameEnd s o s₂ L room_1.cells room_1.slots) (fun s₂ o v L q1 q2 q3 q4 q5 => ⟨o, q1, q2, v, L, q3, q4, q5⟩)
    exact ⟨s₂, o, castTop (ef_rm0 m p1 q2 q3) h1, h2⟩
  intro P hPd
  have j9 : ∀ (d : Int32), (0 ≤ d.toInt ∧ d.toInt ≤ (8 : Int32).toInt) → Rch p.tables e below P (s₁.setTop (mkF m 9 #[.val (.int p1), .val (.long q2), .second, .val (.long q3), .second, .val (.int d), .unset, .unset, .unset, .unset, .unset, .unset] [])) := by
    intro d hd8
    refine Rch.go (fun zt zk => XS.bipush X0.here hx rfl (hb hby at_9) zk) ?_
    show Rch _ _ _ _ (s₁.setTop (mkF m 11 #[.val (.int p1), .val (.long q2), .second, .val (.long q3), .second, .val (.int d), .unset, .unset, .unset, .unset, .unset, .unset] [(.int (8 : Int32))]))
    obtain ⟨T101, h101, k101, X101, e101, E101, A101, EA101, st101⟩ := newPE X0 hx hZ (aty := .byte) (ow1 hw) e0 (g := (mkF m 11 #[.val (.int p1), .val (.long q2), .second, .val (.long q3), .second, .val (.int d), .unset, .unset, .unset, .unset, .unset, .unset] [(.int (8 : Int32))])) rfl (hb hby at_11) rfl (by decide) (cap := 8) (by decide) (by decide) (by decide) (by decide) (ad := "[B") (by decide)
    obtain ⟨b101, g101⟩ : ∃ z, z = h0.size := ⟨_, rfl⟩
    rw [← g101] at A101 EA101 st101
    refine Rch.go st101 ?_
    have ne_ca_b101 : ca ≠ b101 := by have q := P4.lt; rw [g101]; exact Nat.ne_of_lt q
    have ge101 : n0 ≤ b101 := by rw [g101]; exact Z0
    have gk101 : h0.size ≤ b101 := by rw [g101]; exact (Keep.refl h0 []).1
    have K101 := (Keep.refl h0 []).ext E101
    have V101 : Arv Z h101 b101 k101 .byte (8 : Int32) [(.int (0 : Int32)), (.int (0 : Int32)), (.int (0 : Int32)), (.int (0 : Int32)), (.int (0 : Int32)), (.int (0 : Int32)), (.int (0 : Int32)), (.int (0 : Int32))] (.int (0 : Int32)) := (Arv.new A101 (by decide)).pad (pad_rep [] (.int (0 : Int32)) 8)
    show Rch _ _ _ _ (T101.setTop (mkF m 13 #[.val (.int p1), .val (.long q2), .second, .val (.long q3), .second, .val (.int d), .unset, .unset, .unset, .unset, .unset, .unset] [(.ref b101)]))
    refine Rch.go (fun zt zk => XS.astore X101.here hx rfl (hb hby at_13) rfl rfl (l' := #[.val (.int p1), .val (.long q2), .second, .val (.long q3), .second, .val (.int d), .val (.ref b101), .unset, .unset, .unset, .unset, .unset]) rfl zk) ?_
    show Rch _ _ _ _ (T101.setTop (mkF m 15 #[.val (.int p1), .val (.long q2), .second, .val (.long q3), .second, .val (.int d), .val (.ref b101), .unset, .unset, .unset, .unset, .unset] []))
    refine Rch.go (fun zt zk => XS.aload X101.here hx rfl (hb hby at_15) rfl rfl zk) ?_
    show Rch _ _ _ _ (T101.setTop (mkF m 17 #[.val (.int p1), .val (.long q2), .second, .val (.long q3), .second, .val (.int d), .val (.ref b101), .unset, .unset, .unset, .unset, .unset] [(.ref b101)]))
    refine Rch.go (fun zt zk => XS.iconst X101.here hx rfl (hb hby at_17) zk) ?_
    show Rch _ _ _ _ (T101.setTop (mkF m 18 #[.val (.int p1), .val (.long q2), .second, .val (.long q3), .second, .val (.int d), .val (.ref b101), .unset, .unset, .unset, .unset, .unset] [(.int (0 : Int32)), (.ref b101)]))
    refine Rch.go (fun zt zk => XS.iconst X101.here hx rfl (hb hby at_18) zk) ?_
    show Rch _ _ _ _ (T101.setTop (mkF m 19 #[.val (.int p1), .val (.long q2), .second, .val (.long q3), .second, .val (.int d), .val (.ref b101), .unset, .unset, .unset, .unset, .unset] [(.int (0 : Int32)), (.int (0 : Int32)), (.ref b101)]))
    refine Rch.go (fun zt zk => XS.iload X101.here hx rfl (hb hby at_19) rfl zk) ?_
    show Rch _ _ _ _ (T101.setTop (mkF m 21 #[.val (.int p1), .val (.long q2), .second, .val (.long q3), .second, .val (.int d), .val (.ref b101), .unset, .unset, .unset, .unset, .unset] [(.int d), (.int (0 : Int32)), (.int (0 : Int32)), (.ref b101)]))
    refine Rch.go (fun zt zk => XS.lloadN X101.here hx rfl (hb hby at_21) rfl zk) ?_
    show Rch _ _ _ _ (T101.setTop (mkF m 22 #[.val (.int p1), .val (.long q2), .second, .val (.long q3), .second, .val (.int d), .val (.ref b101), .unset, .unset, .unset, .unset, .unset] [(.long q2), (.int d), (.int (0 : Int32)), (.int (0 : Int32)), (.ref b101)]))
    refine Rch.go (fun zt zk => XS.lloadN X101.here hx rfl (hb hby at_22) rfl zk) ?_
    show Rch _ _ _ _ (T101.setTop (mkF m 23 #[.val (.int p1), .val (.long q2), .second, .val (.long q3), .second, .val (.int d), .val (.ref b101), .unset, .unset, .unset, .unset, .unset] [(.long q3), (.long q2), (.int d), (.int (0 : Int32)), (.int (0 : Int32)), (.ref b101)]))
    have f103 := (Nat.le_trans Z0 E101.1)
    obtain ⟨_, _, ⟨T102, L102, k102, n102⟩, -, X102, ⟨Lc102, hQ102, l102, y102, z102⟩, st102⟩ := Jvm.LawKit.callS X101 hx (y := (⟨"com/example/mark_time/marktime/io/JsonCursorEndPinLaw", "at", "(IIJJ)B"⟩ : MethodName)) hown (mvT hZ (ow2 hw)) (mvT hZ (ow3 hw)) (mvT hZ (ow4 hw)) (mvT hZ (ow5 hw)) (by decide) (backOf (W := 2) (rmAt0 l Z a0 hw [] (d) (q2) (q3) h101 n0 f103 ) hZ (ow5 hw) (ow4 hw) (by decide) (by decide)) (g := (mkF m 23 #[.val (.int p1), .val (.long q2), .second, .val (.long q3), .second, .val (.int d), .val (.ref b101), .unset, .unset, .unset, .unset, .unset] [(.long q3), (.long q2), (.int d), (.int (0 : Int32)), (.int (0 : Int32)), (.ref b101)])) rfl (by rw [hml]; rfl) (argsL := [(.int (0 : Int32)), (.int d), (.long q2), (.long q3)]) (rest := [(.int (0 : Int32)), (.ref b101)]) (lenOf pd__IIJJ_B rfl) rfl (by show 2 * 0 + _ ≤ _; exact Nat.le_of_eq rfl) (hb hby at_23) (fun _ _ => ⟨rfl, e101, (by decide : 1 + 0 ≤ _), (by decide : 8 + 0 ≤ _)⟩)
    dsimp only [Pt.U, Pt.locs, Pt.cells, Pt.slots] at X102 l102 y102 z102 st102 hQ102
    subst l102 y102 z102
    obtain ⟨rfl, N102q, eq102⟩ := hQ102
    have N102 := Fr.app N0 N102q
    refine Rch.go st102 ?_
    show Rch _ _ _ _ (T102.setTop (mkF m 26 #[.val (.int p1), .val (.long q2), .second, .val (.long q3), .second, .val (.int d), .val (.ref b101), .unset, .unset, .unset, .unset, .unset] [(.int (fAt0 d q2 q3)), (.int (0 : Int32)), (.ref b101)]))
    obtain ⟨cl104, Ar104, q104, S104, M104, H104, G104⟩ := id V101
    obtain ⟨T104, h104, X104, e104, W104, st104⟩ := stB X102 hx hZ eq102 Ar104 (j := (0 : Int32)) (inb_of S104 ⟨by decide, by decide⟩) (g := (mkF m 26 #[.val (.int p1), .val (.long q2), .second, .val (.long q3), .second, .val (.int d), .val (.ref b101), .unset, .unset, .unset, .unset, .unset] [(.int (fAt0 d q2 q3)), (.int (0 : Int32)), (.ref b101)])) rfl rfl (hb hby at_26)
    refine Rch.go st104 ?_
    have V104 : Arv Z h104 b101 k101 .byte (8 : Int32) [(.int (nar .byte (fAt0 d q2 q3))), (.int (0 : Int32)), (.int (0 : Int32)), (.int (0 : Int32)), (.int (0 : Int32)), (.int (0 : Int32)), (.int (0 : Int32)), (.int (0 : Int32))] (.int (0 : Int32)) := Arv.set Ar104 q104 S104 M104 H104 G104 (fits_nar_byte _) W104 0 rfl (Nat.le_of_ble_eq_true rfl)
    have N104 := Fr.snoc X104 N102 ge101
    have K104 := K101.wr W104 (Or.inr gk101)
    show Rch _ _ _ _ (T104.setTop (mkF m 27 #[.val (.int p1), .val (.long q2), .second, .val (.long q3), .second, .val (.int d), .val (.ref b101), .unset, .unset, .unset, .unset, .unset] []))
    refine Rch.go (fun zt zk => XS.aload X104.here hx rfl (hb hby at_27) rfl rfl zk) ?_
    show Rch _ _ _ _ (T104.setTop (mkF m 29 #[.val (.int p1), .val (.long q2), .second, .val (.long q3), .second, .val (.int d), .val (.ref b101), .unset, .unset, .unset, .unset, .unset] [(.ref b101)]))
    refine Rch.go (fun zt zk => XS.iconst X104.here hx rfl (hb hby at_29) zk) ?_
    show Rch _ _ _ _ (T104.setTop (mkF m 30 #[.val (.int p1), .val (.long q2), .second, .val (.long q3), .second, .val (.int d), .val (.ref b101), .unset, .unset, .unset, .unset, .unset] [(.int (1 : Int32)), (.ref b101)]))
    refine Rch.go (fun zt zk => XS.iconst X104.here hx rfl (hb hby at_30) zk) ?_
    show Rch _ _ _ _ (T104.setTop (mkF m 31 #[.val (.int p1), .val (.long q2), .second, .val (.long q3), .second, .val (.int d), .val (.ref b101), .unset, .unset, .unset, .unset, .unset] [(.int (1 : Int32)), (.int (1 : Int32)), (.ref b101)]))
    refine Rch.go (fun zt zk => XS.iload X104.here hx rfl (hb hby at_31) rfl zk) ?_
    show Rch _ _ _ _ (T104.setTop (mkF m 33 #[.val (.int p1), .val (.long q2), .second, .val (.long q3), .second, .val (.int d), .val (.ref b101), .unset, .unset, .unset, .unset, .unset] [(.int d), (.int (1 : Int32)), (.int (1 : Int32)), (.ref b101)]))
    refine Rch.go (fun zt zk => XS.lloadN X104.here hx rfl (hb hby at_33) rfl zk) ?_
    show Rch _ _ _ _ (T104.setTop (mkF m 34 #[.val (.int p1), .val (.long q2), .second, .val (.long q3), .second, .val (.int d), .val (.ref b101), .unset, .unset, .unset, .unset, .unset] [(.long q2), (.int d), (.int (1 : Int32)), (.int (1 : Int32)), (.ref b101)]))
    refine Rch.go (fun zt zk => XS.lloadN X104.here hx rfl (hb hby at_34) rfl zk) ?_
    show Rch _ _ _ _ (T104.setTop (mkF m 35 #[.val (.int p1), .val (.long q2), .second, .val (.long q3), .second, .val (.int d), .val (.ref b101), .unset, .unset, .unset, .unset, .unset] [(.long q3), (.long q2), (.int d), (.int (1 : Int32)), (.int (1 : Int32)), (.ref b101)]))
    have f106 := (Nat.le_trans f103 (Keep.of_wr W104).1)
    obtain ⟨_, _, ⟨T105, L105, k105, n105⟩, -, X105, ⟨Lc105, hQ105, l105, y105, z105⟩, st105⟩ := Jvm.LawKit.callS X104 hx (y := (⟨"com/example/mark_time/marktime/io/JsonCursorEndPinLaw", "at", "(IIJJ)B"⟩ : MethodName)) hown (mvT hZ (ow2 hw)) (mvT hZ (ow3 hw)) (mvT hZ (ow4 hw)) (mvT hZ (ow5 hw)) (by decide) (backOf (W := 2) (rmAt1 l Z a0 hw [] (d) (q2) (q3) h104 n0 f106 ) hZ (ow5 hw) (ow4 hw) (by decide) (by decide)) (g := (mkF m 35 #[.val (.int p1), .val (.long q2), .second, .val (.long q3), .second, .val (.int d), .val (.ref b101), .unset, .unset, .unset, .unset, .unset] [(.long q3), (.long q2), (.int d), (.int (1 : Int32)), (.int (1 : Int32)), (.ref b101)])) rfl (by rw [hml]; rfl) (argsL := [(.int (1 : Int32)), (.int d), (.long q2), (.long q3)]) (rest := [(.int (1 : Int32)), (.ref b101)]) (lenOf pd__IIJJ_B rfl) rfl (by show 2 * 0 + _ ≤ _; exact Nat.le_of_eq rfl) (hb hby at_35) (fun _ _ => ⟨rfl, e104, (by decide : 1 + 0 ≤ _), (by decide : 8 + 0 ≤ _)⟩)
    dsimp only [Pt.U, Pt.locs, Pt.cells, Pt.slots] at X105 l105 y105 z105 st105 hQ105
    subst l105 y105 z105
    obtain ⟨rfl, N105q, eq105⟩ := hQ105
    have N105 := Fr.app N104 N105q
    refine Rch.go st105 ?_
    show Rch _ _ _ _ (T105.setTop (mkF m 38 #[.val (.int p1), .val (.long q2), .second, .val (.long q3), .second, .val (.int d), .val (.ref b101), .unset, .unset, .unset, .unset, .unset] [(.int (fAt1 d q2 q3)), (.int (1 : Int32)), (.ref b101)]))
    obtain ⟨cl107, Ar107, q107, S107, M107, H107, G107⟩ := id V104
    obtain ⟨T107, h107, X107, e107, W107, st107⟩ := stB X105 hx hZ eq105 Ar107 (j := (1 : Int32)) (inb_of S107 ⟨by decide, by decide⟩) (g := (mkF m 38 #[.val (.int p1), .val (.long q2), .second, .val (.long q3), .second, .val (.int d), .val (.ref b101), .unset, .unset, .unset, .unset, .unset] [(.int (fAt1 d q2 q3)), (.int (1 : Int32)), (.ref b101)])) rfl rfl (hb hby at_38)
    refine Rch.go st107 ?_
    have V107 : Arv Z h107 b101 k101 .byte (8 : Int32) [(.int (nar .byte (fAt0 d q2 q3))), (.int (nar .byte (fAt1 d q2 q3))), (.int (0 : Int32)), (.int (0 : Int32)), (.int (0 : Int32)), (.int (0 : Int32)), (.int (0 : Int32)), (.int (0 : Int32))] (.int (0 : Int32)) := Arv.set Ar107 q107 S107 M107 H107 G107 (fits_nar_byte _) W107 1 rfl (Nat.le_of_ble_eq_true rfl)
    have N107 := Fr.snoc X107 N105 ge101
    have K107 := K104.wr W107 (Or.inr gk101)
    show Rch _ _ _ _ (T107.setTop (mkF m 39 #[.val (.int p1), .val (.long q2), .second, .val (.long q3), .second, .val (.int d), .val (.ref b101), .unset, .unset, .unset, .unset, .unset] []))
    refine Rch.go (fun zt zk => XS.aload X107.here hx rfl (hb hby at_39) rfl rfl zk) ?_
    show Rch _ _ _ _ (T107.setTop (mkF m 41 #[.val (.int p1), .val (.long q2), .second, .val (.long q3), .second, .val (.int d), .val (.ref b101), .unset, .unset, .unset, .unset, .unset] [(.ref b101)]))
    refine Rch.go (fun zt zk => XS.iconst X107.here hx rfl (hb hby at_41) zk) ?_
    show Rch _ _ _ _ (T107.setTop (mkF m 42 #[.val (.int p1), .val (.long q2), .second, .val (.long q3), .second, .val (.int d), .val (.ref b101), .unset, .unset, .unset, .unset, .unset] [(.int (2 : Int32)), (.ref b101)]))
    refine Rch.go (fun zt zk => XS.iconst X107.here hx rfl (hb hby at_42) zk) ?_
    show Rch _ _ _ _ (T107.setTop (mkF m 43 #[.val (.int p1), .val (.long q2), .second, .val (.long q3), .second, .val (.int d), .val (.ref b101), .unset, .unset, .unset, .unset, .unset] [(.int (2 : Int32)), (.int (2 : Int32)), (.ref b101)]))
    refine Rch.go (fun zt zk => XS.iload X107.here hx rfl (hb hby at_43) rfl zk) ?_
    show Rch _ _ _ _ (T107.setTop (mkF m 45 #[.val (.int p1), .val (.long q2), .second, .val (.long q3), .second, .val (.int d), .val (.ref b101), .unset, .unset, .unset, .unset, .unset] [(.int d), (.int (2 : Int32)), (.int (2 : Int32)), (.ref b101)]))
    refine Rch.go (fun zt zk => XS.lloadN X107.here hx rfl (hb hby at_45) rfl zk) ?_
    show Rch _ _ _ _ (T107.setTop (mkF m 46 #[.val (.int p1), .val (.long q2), .second, .val (.long q3), .second, .val (.int d), .val (.ref b101), .unset, .unset, .unset, .unset, .unset] [(.long q2), (.int d), (.int (2 : Int32)), (.int (2 : Int32)), (.ref b101)]))
    refine Rch.go (fun zt zk => XS.lloadN X107.here hx rfl (hb hby at_46) rfl zk) ?_
    show Rch _ _ _ _ (T107.setTop (mkF m 47 #[.val (.int p1), .val (.long q2), .second, .val (.long q3), .second, .val (.int d), .val (.ref b101), .unset, .unset, .unset, .unset, .unset] [(.long q3), (.long q2), (.int d), (.int (2 : Int32)), (.int (2 : Int32)), (.ref b101)]))
    have f109 := (Nat.le_trans f106 (Keep.of_wr W107).1)
    obtain ⟨_, _, ⟨T108, L108, k108, n108⟩, -, X108, ⟨Lc108, hQ108, l108, y108, z108⟩, st108⟩ := Jvm.LawKit.callS X107 hx (y := (⟨"com/example/mark_time/marktime/io/JsonCursorEndPinLaw", "at", "(IIJJ)B"⟩ : MethodName)) hown (mvT hZ (ow2 hw)) (mvT hZ (ow3 hw)) (mvT hZ (ow4 hw)) (mvT hZ (ow5 hw)) (by decide) (backOf (W := 2) (rmAt2 l Z a0 hw [] (d) (q2) (q3) h107 n0 f109 ) hZ (ow5 hw) (ow4 hw) (by decide) (by decide)) (g := (mkF m 47 #[.val (.int p1), .val (.long q2), .second, .val (.long q3), .second, .val (.int d), .val (.ref b101), .unset, .unset, .unset, .unset, .unset] [(.long q3), (.long q2), (.int d), (.int (2 : Int32)), (.int (2 : Int32)), (.ref b101)])) rfl (by rw [hml]; rfl) (argsL := [(.int (2 : Int32)), (.int d), (.long q2), (.long q3)]) (rest := [(.int (2 : Int32)), (.ref b101)]) (lenOf pd__IIJJ_B rfl) rfl (by show 2 * 0 + _ ≤ _; exact Nat.le_of_eq rfl) (hb hby at_47) (fun _ _ => ⟨rfl, e107, (by decide : 1 + 0 ≤ _), (by decide : 8 + 0 ≤ _)⟩)
    dsimp only [Pt.U, Pt.locs, Pt.cells, Pt.slots] at X108 l108 y108 z108 st108 hQ108
    subst l108 y108 z108
    obtain ⟨rfl, N108q, eq108⟩ := hQ108
    have N108 := Fr.app N107 N108q
    refine Rch.go st108 ?_
    show Rch _ _ _ _ (T108.setTop (mkF m 50 #[.val (.int p1), .val (.long q2), .second, .val (.long q3), .second, .val (.int d), .val (.ref b101), .unset, .unset, .unset, .unset, .unset] [(.int (fAt2 d q2 q3)), (.int (2 : Int32)), (.ref b101)]))
    obtain ⟨cl110, Ar110, q110, S110, M110, H110, G110⟩ := id V107
    obtain ⟨T110, h110, X110, e110, W110, st110⟩ := stB X108 hx hZ eq108 Ar110 (j := (2 : Int32)) (inb_of S110 ⟨by decide, by decide⟩) (g := (mkF m 50 #[.val (.int p1), .val (.long q2), .second, .val (.long q3), .second, .val (.int d), .val (.ref b101), .unset, .unset, .unset, .unset, .unset] [(.int (fAt2 d q2 q3)), (.int (2 : Int32)), (.ref b101)])) rfl rfl (hb hby at_50)
    refine Rch.go st110 ?_
    have V110 : Arv Z h110 b101 k101 .byte (8 : Int32) [(.int (nar .byte (fAt0 d q2 q3))), (.int (nar .byte (fAt1 d q2 q3))), (.int (nar .byte (fAt2 d q2 q3))), (.int (0 : Int32)), (.int (0 : Int32)), (.int (0 : Int32)), (.int (0 : Int32)), (.int (0 : Int32))] (.int (0 : Int32)) := Arv.set Ar110 q110 S110 M110 H110 G110 (fits_nar_byte _) W110 2 rfl (Nat.le_of_ble_eq_true rfl)
    have N110 := Fr.snoc X110 N108 ge101
    have K110 := K107.wr W110 (Or.inr gk101)
    show Rch _ _ _ _ (T110.setTop (mkF m 51 #[.val (.int p1), .val (.long q2), .second, .val (.long q3), .second, .val (.int d), .val (.ref b101), .unset, .unset, .unset, .unset, .unset] []))
    refine Rch.go (fun zt zk => XS.aload X110.here hx rfl (hb hby at_51) rfl rfl zk) ?_
    show Rch _ _ _ _ (T110.setTop (mkF m 53 #[.val (.int p1), .val (.long q2), .second, .val (.long q3), .second, .val (.int d), .val (.ref b101), .unset, .unset, .unset, .unset, .unset] [(.ref b101)]))
    refine Rch.go (fun zt zk => XS.iconst X110.here hx rfl (hb hby at_53) zk) ?_
    show Rch _ _ _ _ (T110.setTop (mkF m 54 #[.val (.int p1), .val (.long q2), .second, .val (.long q3), .second, .val (.int d), .val (.ref b101), .unset, .unset, .unset, .unset, .unset] [(.int (3 : Int32)), (.ref b101)]))
    refine Rch.go (fun zt zk => XS.iconst X110.here hx rfl (hb hby at_54) zk) ?_
    show Rch _ _ _ _ (T110.setTop (mkF m 55 #[.val (.int p1), .val (.long q2), .second, .val (.long q3), .second, .val (.int d), .val (.ref b101), .unset, .unset, .unset, .unset, .unset] [(.int (3 : Int32)), (.int (3 : Int32)), (.ref b101)]))
    refine Rch.go (fun zt zk => XS.iload X110.here hx rfl (hb hby at_55) rfl zk) ?_
    show Rch _ _ _ _ (T110.setTop (mkF m 57 #[.val (.int p1), .val (.long q2), .second, .val (.long q3), .second, .val (.int d), .val (.ref b101), .unset, .unset, .unset, .unset, .unset] [(.int d), (.int (3 : Int32)), (.int (3 : Int32)), (.ref b101)]))
    refine Rch.go (fun zt zk => XS.lloadN X110.here hx rfl (hb hby at_57) rfl zk) ?_
    show Rch _ _ _ _ (T110.setTop (mkF m 58 #[.val (.int p1), .val (.long q2), .second, .val (.long q3), .second, .val (.int d), .val (.ref b101), .unset, .unset, .unset, .unset, .unset] [(.long q2), (.int d), (.int (3 : Int32)), (.int (3 : Int32)), (.ref b101)]))
    refine Rch.go (fun zt zk => XS.lloadN X110.here hx rfl (hb hby at_58) rfl zk) ?_
    show Rch _ _ _ _ (T110.setTop (mkF m 59 #[.val (.int p1), .val (.long q2), .second, .val (.long q3), .second, .val (.int d), .val (.ref b101), .unset, .unset, .unset, .unset, .unset] [(.long q3), (.long q2), (.int d), (.int (3 : Int32)), (.int (3 : Int32)), (.ref b101)]))
    have f112 := (Nat.le_trans f109 (Keep.of_wr W110).1)
    obtain ⟨_, _, ⟨T111, L111, k111, n111⟩, -, X111, ⟨Lc111, hQ111, l111, y111, z111⟩, st111⟩ := Jvm.LawKit.callS X110 hx (y := (⟨"com/example/mark_time/marktime/io/JsonCursorEndPinLaw", "at", "(IIJJ)B"⟩ : MethodName)) hown (mvT hZ (ow2 hw)) (mvT hZ (ow3 hw)) (mvT hZ (ow4 hw)) (mvT hZ (ow5 hw)) (by decide) (backOf (W := 2) (rmAt3 l Z a0 hw [] (d) (q2) (q3) h110 n0 f112 ) hZ (ow5 hw) (ow4 hw) (by decide) (by decide)) (g := (mkF m 59 #[.val (.int p1), .val (.long q2), .second, .val (.long q3), .second, .val (.int d), .val (.ref b101), .unset, .unset, .unset, .unset, .unset] [(.long q3), (.long q2), (.int d), (.int (3 : Int32)), (.int (3 : Int32)), (.ref b101)])) rfl (by rw [hml]; rfl) (argsL := [(.int (3 : Int32)), (.int d), (.long q2), (.long q3)]) (rest := [(.int (3 : Int32)), (.ref b101)]) (lenOf pd__IIJJ_B rfl) rfl (by show 2 * 0 + _ ≤ _; exact Nat.le_of_eq rfl) (hb hby at_59) (fun _ _ => ⟨rfl, e110, (by decide : 1 + 0 ≤ _), (by decide : 8 + 0 ≤ _)⟩)
    dsimp only [Pt.U, Pt.locs, Pt.cells, Pt.slots] at X111 l111 y111 z111 st111 hQ111
    subst l111 y111 z111
    obtain ⟨rfl, N111q, eq111⟩ := hQ111
    have N111 := Fr.app N110 N111q
    refine Rch.go st111 ?_
    show Rch _ _ _ _ (T111.setTop (mkF m 62 #[.val (.int p1), .val (.long q2), .second, .val (.long q3), .second, .val (.int d), .val (.ref b101), .unset, .unset, .unset, .unset, .unset] [(.int (fAt3 d q2 q3)), (.int (3 : Int32)), (.ref b101)]))
    obtain ⟨cl113, Ar113, q113, S113, M113, H113, G113⟩ := id V110
    obtain ⟨T113, h113, X113, e113, W113, st113⟩ := stB X111 hx hZ eq111 Ar113 (j := (3 : Int32)) (inb_of S113 ⟨by decide, by decide⟩) (g := (mkF m 62 #[.val (.int p1), .val (.long q2), .second, .val (.long q3), .second, .val (.int d), .val (.ref b101), .unset, .unset, .unset, .unset, .unset] [(.int (fAt3 d q2 q3)), (.int (3 : Int32)), (.ref b101)])) rfl rfl (hb hby at_62)
    refine Rch.go st113 ?_
    have V113 : Arv Z h113 b101 k101 .byte (8 : Int32) [(.int (nar .byte (fAt0 d q2 q3))), (.int (nar .byte (fAt1 d q2 q3))), (.int (nar .byte (fAt2 d q2 q3))), (.int (nar .byte (fAt3 d q2 q3))), (.int (0 : Int32)), (.int (0 : Int32)), (.int (0 : Int32)), (.int (0 : Int32))] (.int (0 : Int32)) := Arv.set Ar113 q113 S113 M113 H113 G113 (fits_nar_byte _) W113 3 rfl (Nat.le_of_ble_eq_true rfl)
    have N113 := Fr.snoc X113 N111 ge101
    have K113 := K110.wr W113 (Or.inr gk101)
    show Rch _ _ _ _ (T113.setTop (mkF m 63 #[.val (.int p1), .val (.long q2), .second, .val (.long q3), .second, .val (.int d), .val (.ref b101), .unset, .unset, .unset, .unset, .unset] []))
    refine Rch.go (fun zt zk => XS.aload X113.here hx rfl (hb hby at_63) rfl rfl zk) ?_
    show Rch _ _ _ _ (T113.setTop (mkF m 65 #[.val (.int p1), .val (.long q2), .second, .val (.long q3), .second, .val (.int d), .val (.ref b101), .unset, .unset, .unset, .unset, .unset] [(.ref b101)]))
    refine Rch.go (fun zt zk => XS.iconst X113.here hx rfl (hb hby at_65) zk) ?_
    show Rch _ _ _ _ (T113.setTop (mkF m 66 #[.val (.int p1), .val (.long q2), .second, .val (.long q3), .second, .val (.int d), .val (.ref b101), .unset, .unset, .unset, .unset, .unset] [(.int (4 : Int32)), (.ref b101)]))
    refine Rch.go (fun zt zk => XS.iconst X113.here hx rfl (hb hby at_66) zk) ?_
    show Rch _ _ _ _ (T113.setTop (mkF m 67 #[.val (.int p1), .val (.long q2), .second, .val (.long q3), .second, .val (.int d), .val (.ref b101), .unset, .unset, .unset, .unset, .unset] [(.int (4 : Int32)), (.int (4 : Int32)), (.ref b101)]))
    refine Rch.go (fun zt zk => XS.iload X113.here hx rfl (hb hby at_67) rfl zk) ?_
    show Rch _ _ _ _ (T113.setTop (mkF m 69 #[.val (.int p1), .val (.long q2), .second, .val (.long q3), .second, .val (.int d), .val (.ref b101), .unset, .unset, .unset, .unset, .unset] [(.int d), (.int (4 : Int32)), (.int (4 : Int32)), (.ref b101)]))
    refine Rch.go (fun zt zk => XS.lloadN X113.here hx rfl (hb hby at_69) rfl zk) ?_
    show Rch _ _ _ _ (T113.setTop (mkF m 70 #[.val (.int p1), .val (.long q2), .second, .val (.long q3), .second, .val (.int d), .val (.ref b101), .unset, .unset, .unset, .unset, .unset] [(.long q2), (.int d), (.int (4 : Int32)), (.int (4 : Int32)), (.ref b101)]))
    refine Rch.go (fun zt zk => XS.lloadN X113.here hx rfl (hb hby at_70) rfl zk) ?_
    show Rch _ _ _ _ (T113.setTop (mkF m 71 #[.val (.int p1), .val (.long q2), .second, .val (.long q3), .second, .val (.int d), .val (.ref b101), .unset, .unset, .unset, .unset, .unset] [(.long q3), (.long q2), (.int d), (.int (4 : Int32)), (.int (4 : Int32)), (.ref b101)]))
    have f115 := (Nat.le_trans f112 (Keep.of_wr W113).1)
    obtain ⟨_, _, ⟨T114, L114, k114, n114⟩, -, X114, ⟨Lc114, hQ114, l114, y114, z114⟩, st114⟩ := Jvm.LawKit.callS X113 hx (y := (⟨"com/example/mark_time/marktime/io/JsonCursorEndPinLaw", "at", "(IIJJ)B"⟩ : MethodName)) hown (mvT hZ (ow2 hw)) (mvT hZ (ow3 hw)) (mvT hZ (ow4 hw)) (mvT hZ (ow5 hw)) (by decide) (backOf (W := 2) (rmAt4 l Z a0 hw [] (d) (q2) (q3) h113 n0 f115 ) hZ (ow5 hw) (ow4 hw) (by decide) (by decide)) (g := (mkF m 71 #[.val (.int p1), .val (.long q2), .second, .val (.long q3), .second, .val (.int d), .val (.ref b101), .unset, .unset, .unset, .unset, .unset] [(.long q3), (.long q2), (.int d), (.int (4 : Int32)), (.int (4 : Int32)), (.ref b101)])) rfl (by rw [hml]; rfl) (argsL := [(.int (4 : Int32)), (.int d), (.long q2), (.long q3)]) (rest := [(.int (4 : Int32)), (.ref b101)]) (lenOf pd__IIJJ_B rfl) rfl (by show 2 * 0 + _ ≤ _; exact Nat.le_of_eq rfl) (hb hby at_71) (fun _ _ => ⟨rfl, e113, (by decide : 1 + 0 ≤ _), (by decide : 8 + 0 ≤ _)⟩)
    dsimp only [Pt.U, Pt.locs, Pt.cells, Pt.slots] at X114 l114 y114 z114 st114 hQ114
    subst l114 y114 z114
    obtain ⟨rfl, N114q, eq114⟩ := hQ114
    have N114 := Fr.app N113 N114q
    refine Rch.go st114 ?_
    show Rch _ _ _ _ (T114.setTop (mkF m 74 #[.val (.int p1), .val (.long q2), .second, .val (.long q3), .second, .val (.int d), .val (.ref b101), .unset, .unset, .unset, .unset, .unset] [(.int (fAt4 d q2 q3)), (.int (4 : Int32)), (.ref b101)]))
    obtain ⟨cl116, Ar116, q116, S116, M116, H116, G116⟩ := id V113
    obtain ⟨T116, h116, X116, e116, W116, st116⟩ := stB X114 hx hZ eq114 Ar116 (j := (4 : Int32)) (inb_of S116 ⟨by decide, by decide⟩) (g := (mkF m 74 #[.val (.int p1), .val (.long q2), .second, .val (.long q3), .second, .val (.int d), .val (.ref b101), .unset, .unset, .unset, .unset, .unset] [(.int (fAt4 d q2 q3)), (.int (4 : Int32)), (.ref b101)])) rfl rfl (hb hby at_74)
    refine Rch.go st116 ?_
    have V116 : Arv Z h116 b101 k101 .byte (8 : Int32) [(.int (nar .byte (fAt0 d q2 q3))), (.int (nar .byte (fAt1 d q2 q3))), (.int (nar .byte (fAt2 d q2 q3))), (.int (nar .byte (fAt3 d q2 q3))), (.int (nar .byte (fAt4 d q2 q3))), (.int (0 : Int32)), (.int (0 : Int32)), (.int (0 : Int32))] (.int (0 : Int32)) := Arv.set Ar116 q116 S116 M116 H116 G116 (fits_nar_byte _) W116 4 rfl (Nat.le_of_ble_eq_true rfl)
    have N116 := Fr.snoc X116 N114 ge101
    have K116 := K113.wr W116 (Or.inr gk101)
    show Rch _ _ _ _ (T116.setTop (mkF m 75 #[.val (.int p1), .val (.long q2), .second, .val (.long q3), .second, .val (.int d), .val (.ref b101), .unset, .unset, .unset, .unset, .unset] []))
    refine Rch.go (fun zt zk => XS.aload X116.here hx rfl (hb hby at_75) rfl rfl zk) ?_
    show Rch _ _ _ _ (T116.setTop (mkF m 77 #[.val (.int p1), .val (.long q2), .second, .val (.long q3), .second, .val (.int d), .val (.ref b101), .unset, .unset, .unset, .unset, .unset] [(.ref b101)]))
    refine Rch.go (fun zt zk => XS.iconst X116.here hx rfl (hb hby at_77) zk) ?_
    show Rch _ _ _ _ (T116.setTop (mkF m 78 #[.val (.int p1), .val (.long q2), .second, .val (.long q3), .second, .val (.int d), .val (.ref b101), .unset, .unset, .unset, .unset, .unset] [(.int (5 : Int32)), (.ref b101)]))
    refine Rch.go (fun zt zk => XS.iconst X116.here hx rfl (hb hby at_78) zk) ?_
    show Rch _ _ _ _ (T116.setTop (mkF m 79 #[.val (.int p1), .val (.long q2), .second, .val (.long q3), .second, .val (.int d), .val (.ref b101), .unset, .unset, .unset, .unset, .unset] [(.int (5 : Int32)), (.int (5 : Int32)), (.ref b101)]))
    refine Rch.go (fun zt zk => XS.iload X116.here hx rfl (hb hby at_79) rfl zk) ?_
    show Rch _ _ _ _ (T116.setTop (mkF m 81 #[.val (.int p1), .val (.long q2), .second, .val (.long q3), .second, .val (.int d), .val (.ref b101), .unset, .unset, .unset, .unset, .unset] [(.int d), (.int (5 : Int32)), (.int (5 : Int32)), (.ref b101)]))
    refine Rch.go (fun zt zk => XS.lloadN X116.here hx rfl (hb hby at_81) rfl zk) ?_
    show Rch _ _ _ _ (T116.setTop (mkF m 82 #[.val (.int p1), .val (.long q2), .second, .val (.long q3), .second, .val (.int d), .val (.ref b101), .unset, .unset, .unset, .unset, .unset] [(.long q2), (.int d), (.int (5 : Int32)), (.int (5 : Int32)), (.ref b101)]))
    refine Rch.go (fun zt zk => XS.lloadN X116.here hx rfl (hb hby at_82) rfl zk) ?_
    show Rch _ _ _ _ (T116.setTop (mkF m 83 #[.val (.int p1), .val (.long q2), .second, .val (.long q3), .second, .val (.int d), .val (.ref b101), .unset, .unset, .unset, .unset, .unset] [(.long q3), (.long q2), (.int d), (.int (5 : Int32)), (.int (5 : Int32)), (.ref b101)]))
    have f118 := (Nat.le_trans f115 (Keep.of_wr W116).1)
    obtain ⟨_, _, ⟨T117, L117, k117, n117⟩, -, X117, ⟨Lc117, hQ117, l117, y117, z117⟩, st117⟩ := Jvm.LawKit.callS X116 hx (y := (⟨"com/example/mark_time/marktime/io/JsonCursorEndPinLaw", "at", "(IIJJ)B"⟩ : MethodName)) hown (mvT hZ (ow2 hw)) (mvT hZ (ow3 hw)) (mvT hZ (ow4 hw)) (mvT hZ (ow5 hw)) (by decide) (backOf (W := 2) (rmAt5 l Z a0 hw [] (d) (q2) (q3) h116 n0 f118 ) hZ (ow5 hw) (ow4 hw) (by decide) (by decide)) (g := (mkF m 83 #[.val (.int p1), .val (.long q2), .second, .val (.long q3), .second, .val (.int d), .val (.ref b101), .unset, .unset, .unset, .unset, .unset] [(.long q3), (.long q2), (.int d), (.int (5 : Int32)), (.int (5 : Int32)), (.ref b101)])) rfl (by rw [hml]; rfl) (argsL := [(.int (5 : Int32)), (.int d), (.long q2), (.long q3)]) (rest := [(.int (5 : Int32)), (.ref b101)]) (lenOf pd__IIJJ_B rfl) rfl (by show 2 * 0 + _ ≤ _; exact Nat.le_of_eq rfl) (hb hby at_83) (fun _ _ => ⟨rfl, e116, (by decide : 1 + 0 ≤ _), (by decide : 8 + 0 ≤ _)⟩)
    dsimp only [Pt.U, Pt.locs, Pt.cells, Pt.slots] at X117 l117 y117 z117 st117 hQ117
    subst l117 y117 z117
    obtain ⟨rfl, N117q, eq117⟩ := hQ117
    have N117 := Fr.app N116 N117q
    refine Rch.go st117 ?_
    show Rch _ _ _ _ (T117.setTop (mkF m 86 #[.val (.int p1), .val (.long q2), .second, .val (.long q3), .second, .val (.int d), .val (.ref b101), .unset, .unset, .unset, .unset, .unset] [(.int (fAt5 d q2 q3)), (.int (5 : Int32)), (.ref b101)]))
    obtain ⟨cl119, Ar119, q119, S119, M119, H119, G119⟩ := id V116
    obtain ⟨T119, h119, X119, e119, W119, st119⟩ := stB X117 hx hZ eq117 Ar119 (j := (5 : Int32)) (inb_of S119 ⟨by decide, by decide⟩) (g := (mkF m 86 #[.val (.int p1), .val (.long q2), .second, .val (.long q3), .second, .val (.int d), .val (.ref b101), .unset, .unset, .unset, .unset, .unset] [(.int (fAt5 d q2 q3)), (.int (5 : Int32)), (.ref b101)])) rfl rfl (hb hby at_86)
    refine Rch.go st119 ?_
    have V119 : Arv Z h119 b101 k101 .byte (8 : Int32) [(.int (nar .byte (fAt0 d q2 q3))), (.int (nar .byte (fAt1 d q2 q3))), (.int (nar .byte (fAt2 d q2 q3))), (.int (nar .byte (fAt3 d q2 q3))), (.int (nar .byte (fAt4 d q2 q3))), (.int (nar .byte (fAt5 d q2 q3))), (.int (0 : Int32)), (.int (0 : Int32))] (.int (0 : Int32)) := Arv.set Ar119 q119 S119 M119 H119 G119 (fits_nar_byte _) W119 5 rfl (Nat.le_of_ble_eq_true rfl)
    have N119 := Fr.snoc X119 N117 ge101
    have K119 := K116.wr W119 (Or.inr gk101)
    show Rch _ _ _ _ (T119.setTop (mkF m 87 #[.val (.int p1), .val (.long q2), .second, .val (.long q3), .second, .val (.int d), .val (.ref b101), .unset, .unset, .unset, .unset, .unset] []))
    refine Rch.go (fun zt zk => XS.aload X119.here hx rfl (hb hby at_87) rfl rfl zk) ?_
    show Rch _ _ _ _ (T119.setTop (mkF m 89 #[.val (.int p1), .val (.long q2), .second, .val (.long q3), .second, .val (.int d), .val (.ref b101), .unset, .unset, .unset, .unset, .unset] [(.ref b101)]))
    refine Rch.go (fun zt zk => XS.bipush X119.here hx rfl (hb hby at_89) zk) ?_
    show Rch _ _ _ _ (T119.setTop (mkF m 91 #[.val (.int p1), .val (.long q2), .second, .val (.long q3), .second, .val (.int d), .val (.ref b101), .unset, .unset, .unset, .unset, .unset] [(.int (6 : Int32)), (.ref b101)]))
    refine Rch.go (fun zt zk => XS.bipush X119.here hx rfl (hb hby at_91) zk) ?_
    show Rch _ _ _ _ (T119.setTop (mkF m 93 #[.val (.int p1), .val (.long q2), .second, .val (.long q3), .second, .val (.int d), .val (.ref b101), .unset, .unset, .unset, .unset, .unset] [(.int (6 : Int32)), (.int (6 : Int32)), (.ref b101)]))
    refine Rch.go (fun zt zk => XS.iload X119.here hx rfl (hb hby at_93) rfl zk) ?_
    show Rch _ _ _ _ (T119.setTop (mkF m 95 #[.val (.int p1), .val (.long q2), .second, .val (.long q3), .second, .val (.int d), .val (.ref b101), .unset, .unset, .unset, .unset, .unset] [(.int d), (.int (6 : Int32)), (.int (6 : Int32)), (.ref b101)]))
    refine Rch.go (fun zt zk => XS.lloadN X119.here hx rfl (hb hby at_95) rfl zk) ?_
    show Rch _ _ _ _ (T119.setTop (mkF m 96 #[.val (.int p1), .val (.long q2), .second, .val (.long q3), .second, .val (.int d), .val (.ref b101), .unset, .unset, .unset, .unset, .unset] [(.long q2), (.int d), (.int (6 : Int32)), (.int (6 : Int32)), (.ref b101)]))
    refine Rch.go (fun zt zk => XS.lloadN X119.here hx rfl (hb hby at_96) rfl zk) ?_
    show Rch _ _ _ _ (T119.setTop (mkF m 97 #[.val (.int p1), .val (.long q2), .second, .val (.long q3), .second, .val (.int d), .val (.ref b101), .unset, .unset, .unset, .unset, .unset] [(.long q3), (.long q2), (.int d), (.int (6 : Int32)), (.int (6 : Int32)), (.ref b101)]))
    have f121 := (Nat.le_trans f118 (Keep.of_wr W119).1)
    obtain ⟨_, _, ⟨T120, L120, k120, n120⟩, -, X120, ⟨Lc120, hQ120, l120, y120, z120⟩, st120⟩ := Jvm.LawKit.callS X119 hx (y := (⟨"com/example/mark_time/marktime/io/JsonCursorEndPinLaw", "at", "(IIJJ)B"⟩ : MethodName)) hown (mvT hZ (ow2 hw)) (mvT hZ (ow3 hw)) (mvT hZ (ow4 hw)) (mvT hZ (ow5 hw)) (by decide) (backOf (W := 2) (rmAt6 l Z a0 hw [] (d) (q2) (q3) h119 n0 f121 ) hZ (ow5 hw) (ow4 hw) (by decide) (by decide)) (g := (mkF m 97 #[.val (.int p1), .val (.long q2), .second, .val (.long q3), .second, .val (.int d), .val (.ref b101), .unset, .unset, .unset, .unset, .unset] [(.long q3), (.long q2), (.int d), (.int (6 : Int32)), (.int (6 : Int32)), (.ref b101)])) rfl (by rw [hml]; rfl) (argsL := [(.int (6 : Int32)), (.int d), (.long q2), (.long q3)]) (rest := [(.int (6 : Int32)), (.ref b101)]) (lenOf pd__IIJJ_B rfl) rfl (by show 2 * 0 + _ ≤ _; exact Nat.le_of_eq rfl) (hb hby at_97) (fun _ _ => ⟨rfl, e119, (by decide : 1 + 0 ≤ _), (by decide : 8 + 0 ≤ _)⟩)
    dsimp only [Pt.U, Pt.locs, Pt.cells, Pt.slots] at X120 l120 y120 z120 st120 hQ120
    subst l120 y120 z120
    obtain ⟨rfl, N120q, eq120⟩ := hQ120
    have N120 := Fr.app N119 N120q
    refine Rch.go st120 ?_
    show Rch _ _ _ _ (T120.setTop (mkF m 100 #[.val (.int p1), .val (.long q2), .second, .val (.long q3), .second, .val (.int d), .val (.ref b101), .unset, .unset, .unset, .unset, .unset] [(.int (fAt6 d q2 q3)), (.int (6 : Int32)), (.ref b101)]))
    obtain ⟨cl122, Ar122, q122, S122, M122, H122, G122⟩ := id V119
    obtain ⟨T122, h122, X122, e122, W122, st122⟩ := stB X120 hx hZ eq120 Ar122 (j := (6 : Int32)) (inb_of S122 ⟨by decide, by decide⟩) (g := (mkF m 100 #[.val (.int p1), .val (.long q2), .second, .val (.long q3), .second, .val (.int d), .val (.ref b101), .unset, .unset, .unset, .unset, .unset] [(.int (fAt6 d q2 q3)), (.int (6 : Int32)), (.ref b101)])) rfl rfl (hb hby at_100)
    refine Rch.go st122 ?_
    have V122 : Arv Z h122 b101 k101 .byte (8 : Int32) [(.int (nar .byte (fAt0 d q2 q3))), (.int (nar .byte (fAt1 d q2 q3))), (.int (nar .byte (fAt2 d q2 q3))), (.int (nar .byte (fAt3 d q2 q3))), (.int (nar .byte (fAt4 d q2 q3))), (.int (nar .byte (fAt5 d q2 q3))), (.int (nar .byte (fAt6 d q2 q3))), (.int (0 : Int32))] (.int (0 : Int32)) := Arv.set Ar122 q122 S122 M122 H122 G122 (fits_nar_byte _) W122 6 rfl (Nat.le_of_ble_eq_true rfl)
    have N122 := Fr.snoc X122 N120 ge101
    have K122 := K119.wr W122 (Or.inr gk101)
    show Rch _ _ _ _ (T122.setTop (mkF m 101 #[.val (.int p1), .val (.long q2), .second, .val (.long q3), .second, .val (.int d), .val (.ref b101), .unset, .unset, .unset, .unset, .unset] []))
    refine Rch.go (fun zt zk => XS.aload X122.here hx rfl (hb hby at_101) rfl rfl zk) ?_
    show Rch _ _ _ _ (T122.setTop (mkF m 103 #[.val (.int p1), .val (.long q2), .second, .val (.long q3), .second, .val (.int d), .val (.ref b101), .unset, .unset, .unset, .unset, .unset] [(.ref b101)]))
    refine Rch.go (fun zt zk => XS.bipush X122.here hx rfl (hb hby at_103) zk) ?_
    show Rch _ _ _ _ (T122.setTop (mkF m 105 #[.val (.int p1), .val (.long q2), .second, .val (.long q3), .second, .val (.int d), .val (.ref b101), .unset, .unset, .unset, .unset, .unset] [(.int (7 : Int32)), (.ref b101)]))
    refine Rch.go (fun zt zk => XS.bipush X122.here hx rfl (hb hby at_105) zk) ?_
    show Rch _ _ _ _ (T122.setTop (mkF m 107 #[.val (.int p1), .val (.long q2), .second, .val (.long q3), .second, .val (.int d), .val (.ref b101), .unset, .unset, .unset, .unset, .unset] [(.int (7 : Int32)), (.int (7 : Int32)), (.ref b101)]))
    refine Rch.go (fun zt zk => XS.iload X122.here hx rfl (hb hby at_107) rfl zk) ?_
    show Rch _ _ _ _ (T122.setTop (mkF m 109 #[.val (.int p1), .val (.long q2), .second, .val (.long q3), .second, .val (.int d), .val (.ref b101), .unset, .unset, .unset, .unset, .unset] [(.int d), (.int (7 : Int32)), (.int (7 : Int32)), (.ref b101)]))
    refine Rch.go (fun zt zk => XS.lloadN X122.here hx rfl (hb hby at_109) rfl zk) ?_
    show Rch _ _ _ _ (T122.setTop (mkF m 110 #[.val (.int p1), .val (.long q2), .second, .val (.long q3), .second, .val (.int d), .val (.ref b101), .unset, .unset, .unset, .unset, .unset] [(.long q2), (.int d), (.int (7 : Int32)), (.int (7 : Int32)), (.ref b101)]))
    refine Rch.go (fun zt zk => XS.lloadN X122.here hx rfl (hb hby at_110) rfl zk) ?_
    show Rch _ _ _ _ (T122.setTop (mkF m 111 #[.val (.int p1), .val (.long q2), .second, .val (.long q3), .second, .val (.int d), .val (.ref b101), .unset, .unset, .unset, .unset, .unset] [(.long q3), (.long q2), (.int d), (.int (7 : Int32)), (.int (7 : Int32)), (.ref b101)]))
    have f124 := (Nat.le_trans f121 (Keep.of_wr W122).1)
    obtain ⟨_, _, ⟨T123, L123, k123, n123⟩, -, X123, ⟨Lc123, hQ123, l123, y123, z123⟩, st123⟩ := Jvm.LawKit.callS X122 hx (y := (⟨"com/example/mark_time/marktime/io/JsonCursorEndPinLaw", "at", "(IIJJ)B"⟩ : MethodName)) hown (mvT hZ (ow2 hw)) (mvT hZ (ow3 hw)) (mvT hZ (ow4 hw)) (mvT hZ (ow5 hw)) (by decide) (backOf (W := 2) (rmAt7 l Z a0 hw [] (d) (q2) (q3) h122 n0 f124 ) hZ (ow5 hw) (ow4 hw) (by decide) (by decide)) (g := (mkF m 111 #[.val (.int p1), .val (.long q2), .second, .val (.long q3), .second, .val (.int d), .val (.ref b101), .unset, .unset, .unset, .unset, .unset] [(.long q3), (.long q2), (.int d), (.int (7 : Int32)), (.int (7 : Int32)), (.ref b101)])) rfl (by rw [hml]; rfl) (argsL := [(.int (7 : Int32)), (.int d), (.long q2), (.long q3)]) (rest := [(.int (7 : Int32)), (.ref b101)]) (lenOf pd__IIJJ_B rfl) rfl (by show 2 * 0 + _ ≤ _; exact Nat.le_of_eq rfl) (hb hby at_111) (fun _ _ => ⟨rfl, e122, (by decide : 1 + 0 ≤ _), (by decide : 8 + 0 ≤ _)⟩)
    dsimp only [Pt.U, Pt.locs, Pt.cells, Pt.slots] at X123 l123 y123 z123 st123 hQ123
    subst l123 y123 z123
    obtain ⟨rfl, N123q, eq123⟩ := hQ123
    have N123 := Fr.app N122 N123q
    refine Rch.go st123 ?_
    show Rch _ _ _ _ (T123.setTop (mkF m 114 #[.val (.int p1), .val (.long q2), .second, .val (.long q3), .second, .val (.int d), .val (.ref b101), .unset, .unset, .unset, .unset, .unset] [(.int (fAt7 d q2 q3)), (.int (7 : Int32)), (.ref b101)]))
    obtain ⟨cl125, Ar125, q125, S125, M125, H125, G125⟩ := id V122
    obtain ⟨T125, h125, X125, e125, W125, st125⟩ := stB X123 hx hZ eq123 Ar125 (j := (7 : Int32)) (inb_of S125 ⟨by decide, by decide⟩) (g := (mkF m 114 #[.val (.int p1), .val (.long q2), .second, .val (.long q3), .second, .val (.int d), .val (.ref b101), .unset, .unset, .unset, .unset, .unset] [(.int (fAt7 d q2 q3)), (.int (7 : Int32)), (.ref b101)])) rfl rfl (hb hby at_114)
    refine Rch.go st125 ?_
    have V125 : Arv Z h125 b101 k101 .byte (8 : Int32) [(.int (nar .byte (fAt0 d q2 q3))), (.int (nar .byte (fAt1 d q2 q3))), (.int (nar .byte (fAt2 d q2 q3))), (.int (nar .byte (fAt3 d q2 q3))), (.int (nar .byte (fAt4 d q2 q3))), (.int (nar .byte (fAt5 d q2 q3))), (.int (nar .byte (fAt6 d q2 q3))), (.int (nar .byte (fAt7 d q2 q3)))] (.int (0 : Int32)) := Arv.set Ar125 q125 S125 M125 H125 G125 (fits_nar_byte _) W125 7 rfl (Nat.le_of_ble_eq_true rfl)
    have N125 := Fr.snoc X125 N123 ge101
    have K125 := K122.wr W125 (Or.inr gk101)
    show Rch _ _ _ _ (T125.setTop (mkF m 115 #[.val (.int p1), .val (.long q2), .second, .val (.long q3), .second, .val (.int d), .val (.ref b101), .unset, .unset, .unset, .unset, .unset] []))
    have jt : ∀ (b0 : Int32) (b1 : Int32) (b2 : Int32) (b3 : Int32) (b4 : Int32) (b5 : Int32) (b6 : Int32) (b7 : Int32) (Tjt : State) (Ljt : List Loc) (hjt : Heap) (_ : Stand p l e room_1 s m #[(.int p1), (.long q2), (.long q3)] below meth c Tjt Ljt 1 8) (_ : Tjt.heap = hjt) (_ : Fr n0 Ljt) (_ : n0 ≤ hjt.size) (_ : Keep h0 hjt []) (_ : Exa Z hjt b101 "[B") (_ : Arv Z hjt b101 k101 .byte (8 : Int32) ([b0, b1, b2, b3, b4, b5, b6, b7].map Value.int) (.int (0 : Int32))) (_ : Exa Z hjt ca "sun/nio/cs/US_ASCII") (_ : Old Z n0 hjt), (Txt d (8 : Int32) [b0, b1, b2, b3, b4, b5, b6, b7]) → Rch p.tables e below P (Tjt.setTop (mkF m 115 #[.val (.int p1), .val (.long q2), .second, .val (.long q3), .second, .val (.int d), .val (.ref b101), .unset, .unset, .unset, .unset, .unset] [])) := by
      intro b0 b1 b2 b3 b4 b5 b6 b7 Tjt Ljt hjt Xjt ejt Njt Zjt Kjt Fjt_0 Fjt_1 Fjt_2 Fjt_3 hT
      refine Rch.go (fun zt zk => XS.iconst Xjt.here hx rfl (hb hby at_115) zk) ?_
      show Rch _ _ _ _ (Tjt.setTop (mkF m 116 #[.val (.int p1), .val (.long q2), .second, .val (.long q3), .second, .val (.int d), .val (.ref b101), .unset, .unset, .unset, .unset, .unset] [(.int (0 : Int32))]))
      obtain ⟨T126, h126, k126, X126, e126, E126, A126, EA126, st126⟩ := newPE Xjt hx hZ (aty := .byte) (ow1 hw) ejt (g := (mkF m 116 #[.val (.int p1), .val (.long q2), .second, .val (.long q3), .second, .val (.int d), .val (.ref b101), .unset, .unset, .unset, .unset, .unset] [(.int (0 : Int32))])) rfl (hb hby at_116) rfl (by decide) (cap := 0) (by decide) (by decide) (by decide) (by decide) (ad := "[B") (by decide)
      obtain ⟨b126, g126⟩ : ∃ z, z = hjt.size := ⟨_, rfl⟩
      rw [← g126] at A126 EA126 st126
      refine Rch.go st126 ?_
      have ne_b101_b126 : b101 ≠ b126 := by have q := Fjt_0.lt; rw [g126]; exact Nat.ne_of_lt q
      have ne_ca_b126 : ca ≠ b126 := by have q := Fjt_2.lt; rw [g126]; exact Nat.ne_of_lt q
      have ge126 : n0 ≤ b126 := by rw [g126]; exact Zjt
      have gk126 : h0.size ≤ b126 := by rw [g126]; exact Kjt.1
      have K126 := Kjt.ext E126
      have V126 : Arv Z h126 b126 k126 .byte (0 : Int32) [] (.int (0 : Int32)) := Arv.new A126 (by decide)
      show Rch _ _ _ _ (T126.setTop (mkF m 118 #[.val (.int p1), .val (.long q2), .second, .val (.long q3), .second, .val (.int d), .val (.ref b101), .unset, .unset, .unset, .unset, .unset] [(.ref b126)]))
      refine Rch.go (fun zt zk => XS.astore X126.here hx rfl (hb hby at_118) rfl rfl (l' := #[.val (.int p1), .val (.long q2), .second, .val (.long q3), .second, .val (.int d), .val (.ref b101), .val (.ref b126), .unset, .unset, .unset, .unset]) rfl zk) ?_
      show Rch _ _ _ _ (T126.setTop (mkF m 120 #[.val (.int p1), .val (.long q2), .second, .val (.long q3), .second, .val (.int d), .val (.ref b101), .val (.ref b126), .unset, .unset, .unset, .unset] []))
      have f127 := (Fjt_0.ext E126)
      have f128 := (Fjt_2.ext E126)
      have f129 := (Nat.le_trans Zjt E126.1)
      obtain ⟨T130, h130, X130, e130, E130, A130, D130, -, st130⟩ := newO X126 hx hZ hown (ow10 hw) (ow11 hw) (ow12 hw) e126 (g := (mkF m 120 #[.val (.int p1), .val (.long q2), .second, .val (.long q3), .second, .val (.int d), .val (.ref b101), .val (.ref b126), .unset, .unset, .unset, .unset] [])) rfl (hb hby at_120) (by decide) (by decide)
      obtain ⟨b130, g130⟩ : ∃ z, z = h126.size := ⟨_, rfl⟩
      rw [← g130] at A130 D130 st130
      refine Rch.go st130 ?_
      have ne_b101_b130 : b101 ≠ b130 := by have q := f127.lt; rw [g130]; exact Nat.ne_of_lt q
      have ne_ca_b130 : ca ≠ b130 := by have q := f128.lt; rw [g130]; exact Nat.ne_of_lt q
      have ne_b126_b130 : b126 ≠ b130 := by have q := EA126.lt; rw [g130]; exact Nat.ne_of_lt q
      have ge130 : n0 ≤ b130 := by rw [g130]; exact f129
      have gk130 : h0.size ≤ b130 := by rw [g130]; exact K126.1
      have K130 := K126.ext E130
      have F130_text : Fld Z h130 b130 "com/example/mark_time/marktime/io/JsonCursor" "text" "[B" .null := D130 (Or.inr (ow20 hw)) (ty := (.array .byte)) (by decide)
      have F130_at : Fld Z h130 b130 "com/example/mark_time/marktime/io/JsonCursor" "at" "I" (.int (0 : Int32)) := D130 (Or.inl (ow31 hw)) (ty := .int) (by decide)
      show Rch _ _ _ _ (T130.setTop (mkF m 123 #[.val (.int p1), .val (.long q2), .second, .val (.long q3), .second, .val (.int d), .val (.ref b101), .val (.ref b126), .unset, .unset, .unset, .unset] [(.ref b130)]))
      refine Rch.go (fun zt zk => XS.dup X130.here hx rfl (hb hby at_123) rfl rfl zk) ?_
      show Rch _ _ _ _ (T130.setTop (mkF m 124 #[.val (.int p1), .val (.long q2), .second, .val (.long q3), .second, .val (.int d), .val (.ref b101), .val (.ref b126), .unset, .unset, .unset, .unset] [(.ref b130), (.ref b130)]))
      refine Rch.go (fun zt zk => XS.aload X130.here hx rfl (hb hby at_124) rfl rfl zk) ?_
      show Rch _ _ _ _ (T130.setTop (mkF m 126 #[.val (.int p1), .val (.long q2), .second, .val (.long q3), .second, .val (.int d), .val (.ref b101), .val (.ref b126), .unset, .unset, .unset, .unset] [(.ref b101), (.ref b130), (.ref b130)]))
      have f132 := (Nat.le_trans f129 E130.1)
      obtain ⟨_, _, ⟨T131, L131, k131, n131⟩, -, X131, ⟨Lc131, hQ131, l131, y131, z131⟩, st131⟩ := X130.specialBack hx (y := (⟨"com/example/mark_time/marktime/io/JsonCursor", "<init>", "([B)V"⟩ : MethodName)) rfl hown (mvT hZ (ow13 hw)) (mvT hZ (ow14 hw)) (mvT hZ (ow15 hw)) (by decide) (backOf (W := 1) (rm3 l Z a0 hw [] (b130) (b101) (.null) ((0 : Int32)) h130 n0 f132 (A130) (F130_text) (F130_at) (ge130)) hZ (ow15 hw) (ow12 hw) (by decide) (by decide)) (g := (mkF m 126 #[.val (.int p1), .val (.long q2), .second, .val (.long q3), .second, .val (.int d), .val (.ref b101), .val (.ref b126), .unset, .unset, .unset, .unset] [(.ref b101), (.ref b130), (.ref b130)])) rfl (by rw [hml]; rfl) (Steps.refl _) (a := b130) (argsL := [(.ref b101)]) (rest := [(.ref b130)]) (lenOf pd___B_V rfl) rfl (by show 2 * 0 + _ ≤ _; exact Nat.le_of_eq rfl) (hb hby at_126) (fun _ _ => ⟨rfl, e130, (by decide : 3 + 0 ≤ _), (by decide : 10 + 0 ≤ _)⟩)
      dsimp only [Pt.U, Pt.locs, Pt.cells, Pt.slots] at X131 l131 y131 z131 st131 hQ131
      subst l131 y131 z131
      obtain ⟨rfl, N131q, K131q, O131_0, O131_1, O131_2⟩ := hQ131
      have N131 := Fr.app Njt N131q
      have K131 := Keep.trans K130 K131q (allS (Or.inr gk130) all0)
      refine Rch.go (fun zt zk => st131.trans zk) ?_
      show Rch _ _ _ _ (T131.setTop (mkF m 129 #[.val (.int p1), .val (.long q2), .second, .val (.long q3), .second, .val (.int d), .val (.ref b101), .val (.ref b126), .unset, .unset, .unset, .unset] [(.ref b130)]))
      refine Rch.go (fun zt zk => XS.astore X131.here hx rfl (hb hby at_129) rfl rfl (l' := #[.val (.int p1), .val (.long q2), .second, .val (.long q3), .second, .val (.int d), .val (.ref b101), .val (.ref b126), .val (.ref b130), .unset, .unset, .unset]) rfl zk) ?_
      show Rch _ _ _ _ (T131.setTop (mkF m 131 #[.val (.int p1), .val (.long q2), .second, .val (.long q3), .second, .val (.int d), .val (.ref b101), .val (.ref b126), .val (.ref b130), .unset, .unset, .unset] []))
      have f133 := ((f127.ext E130).keep K131q)
      have f134 := ((f128.ext E130).keep K131q)
      have f135 := ((EA126.ext E130).keep K131q)
      have f136 := (Nat.le_trans f132 K131q.1)
      obtain ⟨T137, h137, X137, e137, E137, A137, D137, -, st137⟩ := newO X131 hx hZ hown (ow10 hw) (ow11 hw) (ow12 hw) rfl (g := (mkF m 131 #[.val (.int p1), .val (.long q2), .second, .val (.long q3), .second, .val (.int d), .val (.ref b101), .val (.ref b126), .val (.ref b130), .unset, .unset, .unset] [])) rfl (hb hby at_131) (by decide) (by decide)
      obtain ⟨b137, g137⟩ : ∃ z, z = T131.heap.size := ⟨_, rfl⟩
      rw [← g137] at A137 D137 st137
      refine Rch.go st137 ?_
      have ne_b101_b137 : b101 ≠ b137 := by have q := f133.lt; rw [g137]; exact Nat.ne_of_lt q
      have ne_ca_b137 : ca ≠ b137 := by have q := f134.lt; rw [g137]; exact Nat.ne_of_lt q
      have ne_b126_b137 : b126 ≠ b137 := by have q := f135.lt; rw [g137]; exact Nat.ne_of_lt q
      have ne_b130_b137 : b130 ≠ b137 := by have q := O131_0.lt; rw [g137]; exact Nat.ne_of_lt q
      have ge137 : n0 ≤ b137 := by rw [g137]; exact f136
      have gk137 : h0.size ≤ b137 := by rw [g137]; exact K131.1
      have K137 := K131.ext E137
      have F137_text : Fld Z h137 b137 "com/example/mark_time/marktime/io/JsonCursor" "text" "[B" .null := D137 (Or.inr (ow20 hw)) (ty := (.array .byte)) (by decide)
      have F137_at : Fld Z h137 b137 "com/example/mark_time/marktime/io/JsonCursor" "at" "I" (.int (0 : Int32)) := D137 (Or.inl (ow31 hw)) (ty := .int) (by decide)
      show Rch _ _ _ _ (T137.setTop (mkF m 134 #[.val (.int p1), .val (.long q2), .second, .val (.long q3), .second, .val (.int d), .val (.ref b101), .val (.ref b126), .val (.ref b130), .unset, .unset, .unset] [(.ref b137)]))
      refine Rch.go (fun zt zk => XS.dup X137.here hx rfl (hb hby at_134) rfl rfl zk) ?_
      show Rch _ _ _ _ (T137.setTop (mkF m 135 #[.val (.int p1), .val (.long q2), .second, .val (.long q3), .second, .val (.int d), .val (.ref b101), .val (.ref b126), .val (.ref b130), .unset, .unset, .unset] [(.ref b137), (.ref b137)]))
      refine Rch.go (fun zt zk => XS.aload X137.here hx rfl (hb hby at_135) rfl rfl zk) ?_
      show Rch _ _ _ _ (T137.setTop (mkF m 137 #[.val (.int p1), .val (.long q2), .second, .val (.long q3), .second, .val (.int d), .val (.ref b101), .val (.ref b126), .val (.ref b130), .unset, .unset, .unset] [(.ref b126), (.ref b137), (.ref b137)]))
      have f139 := (Nat.le_trans f136 E137.1)
      obtain ⟨_, _, ⟨T138, L138, k138, n138⟩, -, X138, ⟨Lc138, hQ138, l138, y138, z138⟩, st138⟩ := X137.specialBack hx (y := (⟨"com/example/mark_time/marktime/io/JsonCursor", "<init>", "([B)V"⟩ : MethodName)) rfl hown (mvT hZ (ow13 hw)) (mvT hZ (ow14 hw)) (mvT hZ (ow15 hw)) (by decide) (backOf (W := 1) (rm3 l Z a0 hw [] (b137) (b126) (.null) ((0 : Int32)) h137 n0 f139 (A137) (F137_text) (F137_at) (ge137)) hZ (ow15 hw) (ow12 hw) (by decide) (by decide)) (g := (mkF m 137 #[.val (.int p1), .val (.long q2), .second, .val (.long q3), .second, .val (.int d), .val (.ref b101), .val (.ref b126), .val (.ref b130), .unset, .unset, .unset] [(.ref b126), (.ref b137), (.ref b137)])) rfl (by rw [hml]; rfl) (Steps.refl _) (a := b137) (argsL := [(.ref b126)]) (rest := [(.ref b137)]) (lenOf pd___B_V rfl) rfl (by show 2 * 0 + _ ≤ _; exact Nat.le_of_eq rfl) (hb hby at_137) (fun _ _ => ⟨rfl, e137, (by decide : 4 + 0 ≤ _), (by decide : 12 + 0 ≤ _)⟩)
      dsimp only [Pt.U, Pt.locs, Pt.cells, Pt.slots] at X138 l138 y138 z138 st138 hQ138
      subst l138 y138 z138
      obtain ⟨rfl, N138q, K138q, O138_0, O138_1, O138_2⟩ := hQ138
      have N138 := Fr.app N131 N138q
      have K138 := Keep.trans K137 K138q (allS (Or.inr gk137) all0)
      refine Rch.go (fun zt zk => st138.trans zk) ?_
      show Rch _ _ _ _ (T138.setTop (mkF m 140 #[.val (.int p1), .val (.long q2), .second, .val (.long q3), .second, .val (.int d), .val (.ref b101), .val (.ref b126), .val (.ref b130), .unset, .unset, .unset] [(.ref b137)]))
      refine Rch.go (fun zt zk => XS.astore X138.here hx rfl (hb hby at_140) rfl rfl (l' := #[.val (.int p1), .val (.long q2), .second, .val (.long q3), .second, .val (.int d), .val (.ref b101), .val (.ref b126), .val (.ref b130), .val (.ref b137), .unset, .unset]) rfl zk) ?_
      show Rch _ _ _ _ (T138.setTop (mkF m 142 #[.val (.int p1), .val (.long q2), .second, .val (.long q3), .second, .val (.int d), .val (.ref b101), .val (.ref b126), .val (.ref b130), .val (.ref b137), .unset, .unset] []))
      refine Rch.go (fun zt zk => XS.iconst X138.here hx rfl (hb hby at_142) zk) ?_
      show Rch _ _ _ _ (T138.setTop (mkF m 143 #[.val (.int p1), .val (.long q2), .second, .val (.long q3), .second, .val (.int d), .val (.ref b101), .val (.ref b126), .val (.ref b130), .val (.ref b137), .unset, .unset] [(.int (1 : Int32))]))
      refine Rch.go (fun zt zk => XS.istore X138.here hx rfl (hb hby at_143) rfl (l' := #[.val (.int p1), .val (.long q2), .second, .val (.long q3), .second, .val (.int d), .val (.ref b101), .val (.ref b126), .val (.ref b130), .val (.ref b137), .val (.int (1 : Int32)), .unset]) rfl zk) ?_
      show Rch _ _ _ _ (T138.setTop (mkF m 145 #[.val (.int p1), .val (.long q2), .second, .val (.long q3), .second, .val (.int d), .val (.ref b101), .val (.ref b126), .val (.ref b130), .val (.ref b137), .val (.int (1 : Int32)), .unset] []))
      refine Rch.go (fun zt zk => XS.iload X138.here hx rfl (hb hby at_145) rfl zk) ?_
      show Rch _ _ _ _ (T138.setTop (mkF m 147 #[.val (.int p1), .val (.long q2), .second, .val (.long q3), .second, .val (.int d), .val (.ref b101), .val (.ref b126), .val (.ref b130), .val (.ref b137), .val (.int (1 : Int32)), .unset] [(.int d)]))
      by_cases hc147_140 : (0 : Int32) < d
      · skip
        refine Rch.go (fun zt zk => XS.ifNo X138.here hx rfl (hb hby at_147) rfl ((if0 _ _).trans (tlt hc147_140).2.2.2) zk) ?_
        show Rch _ _ _ _ (T138.setTop (mkF m 150 #[.val (.int p1), .val (.long q2), .second, .val (.long q3), .second, .val (.int d), .val (.ref b101), .val (.ref b126), .val (.ref b130), .val (.ref b137), .val (.int (1 : Int32)), .unset] []))
        have hdp : 0 < d.toInt := by have q := hc147_140; rw [Int32.lt_iff_toInt_lt] at q; exact q
        refine Rch.go (fun zt zk => XS.aload X138.here hx rfl (hb hby at_150) rfl rfl zk) ?_
        show Rch _ _ _ _ (T138.setTop (mkF m 152 #[.val (.int p1), .val (.long q2), .second, .val (.long q3), .second, .val (.int d), .val (.ref b101), .val (.ref b126), .val (.ref b130), .val (.ref b137), .val (.int (1 : Int32)), .unset] [(.ref b130)]))
        have f142 := ((O131_0.ext E137).keep K138q)
        have f143 := ((O131_2.ext E137).keep K138q (ninS ne_b130_b137 nin0))
        have f144 := ((O131_1.ext E137).keep K138q (ninS ne_b130_b137 nin0))
        have f145 := (((((Fjt_1.ext E126).ext E130).keep K131q (ninS ne_b101_b130 nin0)).ext E137).keep K138q (ninS ne_b101_b137 nin0))
        have f146 := ((f133.ext E137).keep K138q)
        have f147 := (((((Fjt_3.ext E126).ext E130).keep K131q (allS ge130 all0)).ext E137).keep K138q (allS ge137 all0))
        have f148 := ((f134.ext E137).keep K138q)
        have f149 := (Nat.le_trans f139 K138q.1)
        obtain ⟨cq141, kq141, q141a, q141b, q141c⟩ := isOf hZ rfl f142
        obtain ⟨_, _, ⟨T141, L141, k141, n141⟩, -, X141, ⟨Lc141, hQ141, l141, y141, z141⟩, st141⟩ := X138.virtualBack hx (y := (⟨"com/example/mark_time/marktime/io/JsonCursor", "nextNumber", "()Ljava/lang/String;"⟩ : MethodName)) (z := (⟨"com/example/mark_time/marktime/io/JsonCursor", "nextNumber", "()Ljava/lang/String;"⟩ : MethodName)) hown (mvT hZ (ow38 hw)) (mvT hZ (ow39 hw)) (notFace_of_selects (args := #[]) (mvT hZ (ow41 hw))) (mvT hZ (ow41 hw)) (mvT hZ (ow40 hw)) (by decide) (backOf (W := 0) (rmNext l Z a0 hw [] (b130) (b101) (k101) ((8 : Int32)) ([b0, b1, b2, b3, b4, b5, b6, b7]) (d) (ca) (ut) (is) (cz) (rG) T138.heap n0 f149 (f142) (f143) (f144) (f145) (f146) (f147) (P0) (P1) (P2) (P3) (f148) (P5) (P6) (ne_b101_b130) (nut) (nis) (ge130) ((own_len8 b0 b1 b2 b3 b4 b5 b6 b7)) (own_sk0 hT hdp hd8.2) (own_dgE (own_len8 b0 b1 b2 b3 b4 b5 b6 b7) hT hd8.2 8 (0 : Int32) (by decide) (by show (0 : Int32).toInt ≤ _; exact hd8.1) (by have e0 : (0 : Int32).toInt = 0 := (by decide); have e8 : (8 : Int32).toInt = 8 := (by decide); omega)) (fun q => by rw [q] at hdp; revert hdp; decide) (hd8) (fun _ => (own_m0 hT hdp hd8.2).1) (fun _ => (own_m0 hT hdp hd8.2).2) (own_md hT hd8.1 (46 : Int32) (by decide)) (own_md hT hd8.1 (101 : Int32) (by decide)) (own_md hT hd8.1 (69 : Int32) (by decide)) (own_pos hT hd8.2) (hcz) (hrG)) hZ (ow42 hw) (ow12 hw) (by decide) (by decide)) q141a q141c (g := (mkF m 152 #[.val (.int p1), .val (.long q2), .second, .val (.long q3), .second, .val (.int d), .val (.ref b101), .val (.ref b126), .val (.ref b130), .val (.ref b137), .val (.int (1 : Int32)), .unset] [(.ref b130)])) rfl (by rw [hml]; rfl) (Steps.refl _) (argsL := []) (rest := []) (lenOf pd___Ljava_lang_String_ rfl) rfl (by show 2 * 0 + _ ≤ _; exact Nat.le_of_eq rfl) (hb hby at_152) (fun _ _ => ⟨rfl, rfl, (by decide : 4 + 2 ≤ _), (by decide : 12 + 12 ≤ _)⟩)
        dsimp only [Pt.U, Pt.locs, Pt.cells, Pt.slots] at X141 l141 y141 z141 st141 hQ141
        subst l141 y141 z141
        obtain ⟨⟨r141, b141, kb141, vs141, rfl, gr141, ghr141, E141, C141, F141, V141⟩, N141q, K141q, O141_0, O141_1, O141_2⟩ := hQ141
        have N141 := Fr.app N138 N141q
        have ne_b101_r141 : b101 ≠ r141 := Nat.ne_of_lt (Nat.lt_of_lt_of_le f146.lt ghr141)
        have ne_ca_r141 : ca ≠ r141 := Nat.ne_of_lt (Nat.lt_of_lt_of_le f148.lt ghr141)
        have f150 := ((f135.ext E137).keep K138q)
        have ne_b126_r141 : b126 ≠ r141 := Nat.ne_of_lt (Nat.lt_of_lt_of_le f150.lt ghr141)
        have ne_b130_r141 : b130 ≠ r141 := Nat.ne_of_lt (Nat.lt_of_lt_of_le f142.lt ghr141)
        have ne_b137_r141 : b137 ≠ r141 := Nat.ne_of_lt (Nat.lt_of_lt_of_le O138_0.lt ghr141)
        have gk141 : h0.size ≤ r141 := Nat.le_trans K138.1 ghr141
        have K141 := Keep.trans K138 K141q (allS (Or.inr gk130) all0)
        refine Rch.go (fun zt zk => st141.trans zk) ?_
        show Rch _ _ _ _ (T141.setTop (mkF m 155 #[.val (.int p1), .val (.long q2), .second, .val (.long q3), .second, .val (.int d), .val (.ref b101), .val (.ref b126), .val (.ref b130), .val (.ref b137), .val (.int (1 : Int32)), .unset] [(.ref r141)]))
        refine Rch.go (fun zt zk => XS.astore X141.here hx rfl (hb hby at_155) rfl rfl (l' := #[.val (.int p1), .val (.long q2), .second, .val (.long q3), .second, .val (.int d), .val (.ref b101), .val (.ref b126), .val (.ref b130), .val (.ref b137), .val (.int (1 : Int32)), .val (.ref r141)]) rfl zk) ?_
        show Rch _ _ _ _ (T141.setTop (mkF m 157 #[.val (.int p1), .val (.long q2), .second, .val (.long q3), .second, .val (.int d), .val (.ref b101), .val (.ref b126), .val (.ref b130), .val (.ref b137), .val (.int (1 : Int32)), .val (.ref r141)] []))
        refine Rch.go (fun zt zk => XS.aload X141.here hx rfl (hb hby at_157) rfl rfl zk) ?_
        show Rch _ _ _ _ (T141.setTop (mkF m 159 #[.val (.int p1), .val (.long q2), .second, .val (.long q3), .second, .val (.int d), .val (.ref b101), .val (.ref b126), .val (.ref b130), .val (.ref b137), .val (.int (1 : Int32)), .val (.ref r141)] [(.ref r141)]))
        have f152 := (f147.keep K141q (allS ge130 all0))
        have f153 := (Nat.le_trans f149 K141q.1)
        obtain ⟨cq151, kq151, q151a, q151b, q151c⟩ := isOf hZ rfl E141
        obtain ⟨_, _, ⟨T151, L151, k151, n151⟩, -, X151, ⟨Lc151, hQ151, l151, y151, z151⟩, st151⟩ := X141.virtualBack hx (y := (⟨"java/lang/String", "length", "()I"⟩ : MethodName)) (z := (⟨"java/lang/String", "length", "()I"⟩ : MethodName)) hown (mvT hZ (ow117 hw)) (mvT hZ (ow118 hw)) (notFace_of_selects (args := #[]) (mvT hZ (ow120 hw))) (mvT hZ (ow120 hw)) (mvT hZ (ow119 hw)) (by decide) (backOf (W := 0) (rm23 l Z a0 hw [] (r141) (b141) (kb141) (d) (vs141) ((nar .byte (0 : Int32))) (cz) T141.heap n0 f153 (f152) (P3) (E141) (C141) (F141) (V141) (hcz)) hZ (ow121 hw) (ow56 hw) (by decide) (by decide)) q151a q151c (g := (mkF m 159 #[.val (.int p1), .val (.long q2), .second, .val (.long q3), .second, .val (.int d), .val (.ref b101), .val (.ref b126), .val (.ref b130), .val (.ref b137), .val (.int (1 : Int32)), .val (.ref r141)] [(.ref r141)])) rfl (by rw [hml]; rfl) (Steps.refl _) (argsL := []) (rest := []) (lenOf pd___I rfl) rfl (by show 2 * 0 + _ ≤ _; exact Nat.le_of_eq rfl) (hb hby at_159) (fun _ _ => ⟨rfl, rfl, (by decide : 6 + 0 ≤ _), (by decide : 24 + 0 ≤ _)⟩)
        dsimp only [Pt.U, Pt.locs, Pt.cells, Pt.slots] at X151 l151 y151 z151 st151 hQ151
        subst l151 y151 z151
        obtain ⟨rfl, N151q, eq151⟩ := hQ151
        have N151 := Fr.app N141 N151q
        rw [own_sh0 d] at st151
        refine Rch.go (fun zt zk => st151.trans zk) ?_
        show Rch _ _ _ _ (T151.setTop (mkF m 162 #[.val (.int p1), .val (.long q2), .second, .val (.long q3), .second, .val (.int d), .val (.ref b101), .val (.ref b126), .val (.ref b130), .val (.ref b137), .val (.int (1 : Int32)), .val (.ref r141)] [(.int d)]))
        refine Rch.go (fun zt zk => XS.iload X151.here hx rfl (hb hby at_162) rfl zk) ?_
        show Rch _ _ _ _ (T151.setTop (mkF m 164 #[.val (.int p1), .val (.long q2), .second, .val (.long q3), .second, .val (.int d), .val (.ref b101), .val (.ref b126), .val (.ref b130), .val (.ref b137), .val (.int (1 : Int32)), .val (.ref r141)] [(.int d), (.int d)]))
        refine Rch.go (fun zt zk => XS.icmpNo X151.here hx rfl (hb hby at_164) rfl (teq (rfl : d = d)).2 zk) ?_
        show Rch _ _ _ _ (T151.setTop (mkF m 167 #[.val (.int p1), .val (.long q2), .second, .val (.long q3), .second, .val (.int d), .val (.ref b101), .val (.ref b126), .val (.ref b130), .val (.ref b137), .val (.int (1 : Int32)), .val (.ref r141)] []))
        refine Rch.go (fun zt zk => XS.iconst X151.here hx rfl (hb hby at_167) zk) ?_
        show Rch _ _ _ _ (T151.setTop (mkF m 168 #[.val (.int p1), .val (.long q2), .second, .val (.long q3), .second, .val (.int d), .val (.ref b101), .val (.ref b126), .val (.ref b130), .val (.ref b137), .val (.int (1 : Int32)), .val (.ref r141)] [(.int (1 : Int32))]))
        refine Rch.go (fun zt zk => XS.goto X151.here hx rfl (pc0 := 168) (pc' := 172) rfl (hb hby at_168) (by decide) (by decide) zk) ?_
        show Rch _ _ _ _ (T151.setTop (mkF m 172 #[.val (.int p1), .val (.long q2), .second, .val (.long q3), .second, .val (.int d), .val (.ref b101), .val (.ref b126), .val (.ref b130), .val (.ref b137), .val (.int (1 : Int32)), .val (.ref r141)] [(.int (1 : Int32))]))
        refine Rch.go (fun zt zk => XS.istore X151.here hx rfl (hb hby at_172) rfl (l' := #[.val (.int p1), .val (.long q2), .second, .val (.long q3), .second, .val (.int d), .val (.ref b101), .val (.ref b126), .val (.ref b130), .val (.ref b137), .val (.int (1 : Int32)), .val (.ref r141)]) rfl zk) ?_
        show Rch _ _ _ _ (T151.setTop (mkF m 174 #[.val (.int p1), .val (.long q2), .second, .val (.long q3), .second, .val (.int d), .val (.ref b101), .val (.ref b126), .val (.ref b130), .val (.ref b137), .val (.int (1 : Int32)), .val (.ref r141)] []))
        refine Rch.go (fun zt zk => XS.aload X151.here hx rfl (hb hby at_174) rfl rfl zk) ?_
        show Rch _ _ _ _ (T151.setTop (mkF m 176 #[.val (.int p1), .val (.long q2), .second, .val (.long q3), .second, .val (.int d), .val (.ref b101), .val (.ref b126), .val (.ref b130), .val (.ref b137), .val (.int (1 : Int32)), .val (.ref r141)] [(.ref b130)]))
        have f155 := (f145.keep K141q (ninS ne_b101_b130 nin0))
        obtain ⟨cq154, kq154, q154a, q154b, q154c⟩ := isOf hZ eq151 O141_0
        obtain ⟨_, _, ⟨T154, L154, k154, n154⟩, -, X154, ⟨Lc154, hQ154, l154, y154, z154⟩, st154⟩ := X151.virtualBack hx (y := (⟨"com/example/mark_time/marktime/io/JsonCursor", "end", "()V"⟩ : MethodName)) (z := (⟨"com/example/mark_time/marktime/io/JsonCursor", "end", "()V"⟩ : MethodName)) hown (mvT hZ (ow21 hw)) (mvT hZ (ow22 hw)) (notFace_of_selects (args := #[]) (mvT hZ (ow24 hw))) (mvT hZ (ow24 hw)) (mvT hZ (ow23 hw)) (by decide) (backOf (W := 0) (rmEnd l Z a0 hw [] (b130) (d) (b101) (k101) ((8 : Int32)) ([b0, b1, b2, b3, b4, b5, b6, b7]) T141.heap n0 f153 (O141_0) (O141_1) (O141_2) (f155) (ne_b101_b130) (ge130) ((own_len8 b0 b1 b2 b3 b4 b5 b6 b7)) (hd8) (by rw [own_skE (own_len8 b0 b1 b2 b3 b4 b5 b6 b7) hT 8 d hd8.1 (Int.le_refl _) hd8.2 (by have e8 : (8 : Int32).toInt = 8 := (by decide); omega)]; exact own_nlt _)) hZ (ow25 hw) (ow12 hw) (by decide) (by decide)) q154a q154c (g := (mkF m 176 #[.val (.int p1), .val (.long q2), .second, .val (.long q3), .second, .val (.int d), .val (.ref b101), .val (.ref b126), .val (.ref b130), .val (.ref b137), .val (.int (1 : Int32)), .val (.ref r141)] [(.ref b130)])) rfl (by rw [hml]; rfl) (Steps.refl _) (argsL := []) (rest := []) (lenOf pd___V rfl) rfl (by show 2 * 0 + _ ≤ _; exact Nat.le_of_eq rfl) (hb hby at_176) (fun _ _ => ⟨rfl, eq151, (by decide : 6 + 0 ≤ _), (by decide : 24 + 0 ≤ _)⟩)
        dsimp only [Pt.U, Pt.locs, Pt.cells, Pt.slots] at X154 l154 y154 z154 st154 hQ154
        subst l154 y154 z154
        obtain ⟨rfl, N154q, K154q, O154_0, O154_1, O154_2⟩ := hQ154
        have N154 := Fr.app N151 N154q
        have K154 := Keep.trans K141 K154q (allS (Or.inr gk130) all0)
        rw [own_skE (own_len8 b0 b1 b2 b3 b4 b5 b6 b7) hT 8 d hd8.1 (Int.le_refl _) hd8.2 (by have e8 : (8 : Int32).toInt = 8 := (by decide); omega)] at O154_1
        refine Rch.go (fun zt zk => st154.trans zk) ?_
        show Rch _ _ _ _ (T154.setTop (mkF m 179 #[.val (.int p1), .val (.long q2), .second, .val (.long q3), .second, .val (.int d), .val (.ref b101), .val (.ref b126), .val (.ref b130), .val (.ref b137), .val (.int (1 : Int32)), .val (.ref r141)] []))
        refine Rch.go (fun zt zk => XS.aload X154.here hx rfl (hb hby at_179) rfl rfl zk) ?_
        show Rch _ _ _ _ (T154.setTop (mkF m 181 #[.val (.int p1), .val (.long q2), .second, .val (.long q3), .second, .val (.int d), .val (.ref b101), .val (.ref b126), .val (.ref b130), .val (.ref b137), .val (.int (1 : Int32)), .val (.ref r141)] [(.ref b130)]))
        have f157 := (f155.keep K154q (ninS ne_b101_b130 nin0))
        have f158 := (Nat.le_trans f153 K154q.1)
        obtain ⟨cq156, kq156, q156a, q156b, q156c⟩ := isOf hZ rfl O154_0
        obtain ⟨_, _, ⟨T156, L156, k156, n156⟩, -, X156, ⟨Lc156, hQ156, l156, y156, z156⟩, st156⟩ := X154.virtualBack hx (y := (⟨"com/example/mark_time/marktime/io/JsonCursor", "end", "()V"⟩ : MethodName)) (z := (⟨"com/example/mark_time/marktime/io/JsonCursor", "end", "()V"⟩ : MethodName)) hown (mvT hZ (ow21 hw)) (mvT hZ (ow22 hw)) (notFace_of_selects (args := #[]) (mvT hZ (ow24 hw))) (mvT hZ (ow24 hw)) (mvT hZ (ow23 hw)) (by decide) (backOf (W := 0) (rmEnd l Z a0 hw [] (b130) ((8 : Int32)) (b101) (k101) ((8 : Int32)) ([b0, b1, b2, b3, b4, b5, b6, b7]) T154.heap n0 f158 (O154_0) (O154_1) (O154_2) (f157) (ne_b101_b130) (ge130) ((own_len8 b0 b1 b2 b3 b4 b5 b6 b7)) ((by decide)) (by rw [own_s0 (nn := (8 : Int32)) (bs := [b0, b1, b2, b3, b4, b5, b6, b7]) (k := 8) (own_nlt _)]; exact own_nlt _)) hZ (ow25 hw) (ow12 hw) (by decide) (by decide)) q156a q156c (g := (mkF m 181 #[.val (.int p1), .val (.long q2), .second, .val (.long q3), .second, .val (.int d), .val (.ref b101), .val (.ref b126), .val (.ref b130), .val (.ref b137), .val (.int (1 : Int32)), .val (.ref r141)] [(.ref b130)])) rfl (by rw [hml]; rfl) (Steps.refl _) (argsL := []) (rest := []) (lenOf pd___V rfl) rfl (by show 2 * 0 + _ ≤ _; exact Nat.le_of_eq rfl) (hb hby at_181) (fun _ _ => ⟨rfl, rfl, (by decide : 6 + 0 ≤ _), (by decide : 24 + 0 ≤ _)⟩)
        dsimp only [Pt.U, Pt.locs, Pt.cells, Pt.slots] at X156 l156 y156 z156 st156 hQ156
        subst l156 y156 z156
        obtain ⟨rfl, N156q, K156q, O156_0, O156_1, O156_2⟩ := hQ156
        have N156 := Fr.app N154 N156q
        have K156 := Keep.trans K154 K156q (allS (Or.inr gk130) all0)
        rw [own_s0 (nn := (8 : Int32)) (bs := [b0, b1, b2, b3, b4, b5, b6, b7]) (k := 8) (own_nlt _)] at O156_1
        refine Rch.go (fun zt zk => st156.trans zk) ?_
        show Rch _ _ _ _ (T156.setTop (mkF m 184 #[.val (.int p1), .val (.long q2), .second, .val (.long q3), .second, .val (.int d), .val (.ref b101), .val (.ref b126), .val (.ref b130), .val (.ref b137), .val (.int (1 : Int32)), .val (.ref r141)] []))
        refine Rch.go (fun zt zk => XS.aload X156.here hx rfl (hb hby at_184) rfl rfl zk) ?_
        show Rch _ _ _ _ (T156.setTop (mkF m 186 #[.val (.int p1), .val (.long q2), .second, .val (.long q3), .second, .val (.int d), .val (.ref b101), .val (.ref b126), .val (.ref b130), .val (.ref b137), .val (.int (1 : Int32)), .val (.ref r141)] [(.ref b137)]))
        have f160 := (((O138_0.keep K141q).keep K154q).keep K156q)
        have f161 := (((O138_2.keep K141q (ninS (Ne.symm ne_b130_b137) nin0)).keep K154q (ninS (Ne.symm ne_b130_b137) nin0)).keep K156q (ninS (Ne.symm ne_b130_b137) nin0))
        have f162 := (((O138_1.keep K141q (ninS (Ne.symm ne_b130_b137) nin0)).keep K154q (ninS (Ne.symm ne_b130_b137) nin0)).keep K156q (ninS (Ne.symm ne_b130_b137) nin0))
        have f163 := (((((((V126.ext E130).keep K131q (ninS ne_b126_b130 nin0)).ext E137).keep K138q (ninS ne_b126_b137 nin0)).keep K141q (ninS ne_b126_b130 nin0)).keep K154q (ninS ne_b126_b130 nin0)).keep K156q (ninS ne_b126_b130 nin0))
        have f164 := (Nat.le_trans f158 K156q.1)
        obtain ⟨cq159, kq159, q159a, q159b, q159c⟩ := isOf hZ rfl f160
        obtain ⟨_, _, ⟨T159, L159, k159, n159⟩, -, X159, ⟨Lc159, hQ159, l159, y159, z159⟩, st159⟩ := X156.virtualBack hx (y := (⟨"com/example/mark_time/marktime/io/JsonCursor", "end", "()V"⟩ : MethodName)) (z := (⟨"com/example/mark_time/marktime/io/JsonCursor", "end", "()V"⟩ : MethodName)) hown (mvT hZ (ow21 hw)) (mvT hZ (ow22 hw)) (notFace_of_selects (args := #[]) (mvT hZ (ow24 hw))) (mvT hZ (ow24 hw)) (mvT hZ (ow23 hw)) (by decide) (backOf (W := 0) (rmEnd l Z a0 hw [] (b137) ((0 : Int32)) (b126) (k126) ((0 : Int32)) ([]) T156.heap n0 f164 (f160) (f161) (f162) (f163) (ne_b126_b137) (ge137) (own_len0) ((by first | exact own_z (own_len8 b0 b1 b2 b3 b4 b5 b6 b7) | exact own_z own_len0)) (by rw [own_s0 (nn := (0 : Int32)) (own_nlt _)]; exact own_nlt _)) hZ (ow25 hw) (ow12 hw) (by decide) (by decide)) q159a q159c (g := (mkF m 186 #[.val (.int p1), .val (.long q2), .second, .val (.long q3), .second, .val (.int d), .val (.ref b101), .val (.ref b126), .val (.ref b130), .val (.ref b137), .val (.int (1 : Int32)), .val (.ref r141)] [(.ref b137)])) rfl (by rw [hml]; rfl) (Steps.refl _) (argsL := []) (rest := []) (lenOf pd___V rfl) rfl (by show 2 * 0 + _ ≤ _; exact Nat.le_of_eq rfl) (hb hby at_186) (fun _ _ => ⟨rfl, rfl, (by decide : 6 + 0 ≤ _), (by decide : 24 + 0 ≤ _)⟩)
        dsimp only [Pt.U, Pt.locs, Pt.cells, Pt.slots] at X159 l159 y159 z159 st159 hQ159
        subst l159 y159 z159
        obtain ⟨rfl, N159q, K159q, O159_0, O159_1, O159_2⟩ := hQ159
        have N159 := Fr.app N156 N159q
        have K159 := Keep.trans K156 K159q (allS (Or.inr gk137) all0)
        refine Rch.go (fun zt zk => st159.trans zk) ?_
        show Rch _ _ _ _ (T159.setTop (mkF m 189 #[.val (.int p1), .val (.long q2), .second, .val (.long q3), .second, .val (.int d), .val (.ref b101), .val (.ref b126), .val (.ref b130), .val (.ref b137), .val (.int (1 : Int32)), .val (.ref r141)] []))
        refine Rch.go (fun zt zk => XS.iload X159.here hx rfl (hb hby at_189) rfl zk) ?_
        show Rch _ _ _ _ (T159.setTop (mkF m 191 #[.val (.int p1), .val (.long q2), .second, .val (.long q3), .second, .val (.int d), .val (.ref b101), .val (.ref b126), .val (.ref b130), .val (.ref b137), .val (.int (1 : Int32)), .val (.ref r141)] [(.int (1 : Int32))]))
        obtain ⟨fs, hr, hrun, hended, hW, hsame⟩ := X159.leave (v := some (.int (1 : Int32))) (fun h => by rw [Bd.returns] at h; cases h)
        refine Rch.mk (retN X159 hx (t := .boolean) Bd.returns (by simp) (hb hby at_191) hr) (hPd _ _ _ _ hrun hended rfl ?_ ⟨⟨_, rfl⟩, hW, hsame.mono (by decide) (by decide)⟩)
        show Q_rm0 Z p1 q2 q3 ca ut is cz rG h0 n0 _ T159.heap _
        exact ⟨rfl, N159⟩
      · skip
        refine Rch.go (fun zt zk => XS.ifYes X138.here hx rfl (pc0 := 147) (pc' := 174) rfl (hb hby at_147) rfl ((if0 _ _).trans (flt hc147_140).2.2.2) (by decide) (by decide) zk) ?_
        show Rch _ _ _ _ (T138.setTop (mkF m 174 #[.val (.int p1), .val (.long q2), .second, .val (.long q3), .second, .val (.int d), .val (.ref b101), .val (.ref b126), .val (.ref b130), .val (.ref b137), .val (.int (1 : Int32)), .unset] []))
        have hdz : d.toInt ≤ (0 : Int32).toInt := by have q := hc147_140; rw [Int32.lt_iff_toInt_lt] at q; omega
        refine Rch.go (fun zt zk => XS.aload X138.here hx rfl (hb hby at_174) rfl rfl zk) ?_
        show Rch _ _ _ _ (T138.setTop (mkF m 176 #[.val (.int p1), .val (.long q2), .second, .val (.long q3), .second, .val (.int d), .val (.ref b101), .val (.ref b126), .val (.ref b130), .val (.ref b137), .val (.int (1 : Int32)), .unset] [(.ref b130)]))
        have f166 := ((O131_0.ext E137).keep K138q)
        have f167 := ((O131_2.ext E137).keep K138q (ninS ne_b130_b137 nin0))
        have f168 := ((O131_1.ext E137).keep K138q (ninS ne_b130_b137 nin0))
        have f169 := (((((Fjt_1.ext E126).ext E130).keep K131q (ninS ne_b101_b130 nin0)).ext E137).keep K138q (ninS ne_b101_b137 nin0))
        have f170 := (Nat.le_trans f139 K138q.1)
        obtain ⟨cq165, kq165, q165a, q165b, q165c⟩ := isOf hZ rfl f166
        obtain ⟨_, _, ⟨T165, L165, k165, n165⟩, -, X165, ⟨Lc165, hQ165, l165, y165, z165⟩, st165⟩ := X138.virtualBack hx (y := (⟨"com/example/mark_time/marktime/io/JsonCursor", "end", "()V"⟩ : MethodName)) (z := (⟨"com/example/mark_time/marktime/io/JsonCursor", "end", "()V"⟩ : MethodName)) hown (mvT hZ (ow21 hw)) (mvT hZ (ow22 hw)) (notFace_of_selects (args := #[]) (mvT hZ (ow24 hw))) (mvT hZ (ow24 hw)) (mvT hZ (ow23 hw)) (by decide) (backOf (W := 0) (rmEnd l Z a0 hw [] (b130) ((0 : Int32)) (b101) (k101) ((8 : Int32)) ([b0, b1, b2, b3, b4, b5, b6, b7]) T138.heap n0 f170 (f166) (f167) (f168) (f169) (ne_b101_b130) (ge130) ((own_len8 b0 b1 b2 b3 b4 b5 b6 b7)) ((by first | exact own_z (own_len8 b0 b1 b2 b3 b4 b5 b6 b7) | exact own_z own_len0)) (by first | (rw [own_skE (own_len8 b0 b1 b2 b3 b4 b5 b6 b7) hT 8 (0 : Int32) (by decide) hdz (by decide) (by decide)]; exact own_nlt _) | (rw [own_s0 (nn := (0 : Int32)) (own_nlt _)]; exact own_nlt _))) hZ (ow25 hw) (ow12 hw) (by decide) (by decide)) q165a q165c (g := (mkF m 176 #[.val (.int p1), .val (.long q2), .second, .val (.long q3), .second, .val (.int d), .val (.ref b101), .val (.ref b126), .val (.ref b130), .val (.ref b137), .val (.int (1 : Int32)), .unset] [(.ref b130)])) rfl (by rw [hml]; rfl) (Steps.refl _) (argsL := []) (rest := []) (lenOf pd___V rfl) rfl (by show 2 * 0 + _ ≤ _; exact Nat.le_of_eq rfl) (hb hby at_176) (fun _ _ => ⟨rfl, rfl, (by decide : 4 + 0 ≤ _), (by decide : 12 + 0 ≤ _)⟩)
        dsimp only [Pt.U, Pt.locs, Pt.cells, Pt.slots] at X165 l165 y165 z165 st165 hQ165
        subst l165 y165 z165
        obtain ⟨rfl, N165q, K165q, O165_0, O165_1, O165_2⟩ := hQ165
        have N165 := Fr.app N138 N165q
        have K165 := Keep.trans K138 K165q (allS (Or.inr gk130) all0)
        rw [own_skE (own_len8 b0 b1 b2 b3 b4 b5 b6 b7) hT 8 (0 : Int32) (by decide) hdz (by decide) (by decide)] at O165_1
        refine Rch.go (fun zt zk => st165.trans zk) ?_
        show Rch _ _ _ _ (T165.setTop (mkF m 179 #[.val (.int p1), .val (.long q2), .second, .val (.long q3), .second, .val (.int d), .val (.ref b101), .val (.ref b126), .val (.ref b130), .val (.ref b137), .val (.int (1 : Int32)), .unset] []))
        refine Rch.go (fun zt zk => XS.aload X165.here hx rfl (hb hby at_179) rfl rfl zk) ?_
        show Rch _ _ _ _ (T165.setTop (mkF m 181 #[.val (.int p1), .val (.long q2), .second, .val (.long q3), .second, .val (.int d), .val (.ref b101), .val (.ref b126), .val (.ref b130), .val (.ref b137), .val (.int (1 : Int32)), .unset] [(.ref b130)]))
        have f172 := (f169.keep K165q (ninS ne_b101_b130 nin0))
        have f173 := (Nat.le_trans f170 K165q.1)
        obtain ⟨cq171, kq171, q171a, q171b, q171c⟩ := isOf hZ rfl O165_0
        obtain ⟨_, _, ⟨T171, L171, k171, n171⟩, -, X171, ⟨Lc171, hQ171, l171, y171, z171⟩, st171⟩ := X165.virtualBack hx (y := (⟨"com/example/mark_time/marktime/io/JsonCursor", "end", "()V"⟩ : MethodName)) (z := (⟨"com/example/mark_time/marktime/io/JsonCursor", "end", "()V"⟩ : MethodName)) hown (mvT hZ (ow21 hw)) (mvT hZ (ow22 hw)) (notFace_of_selects (args := #[]) (mvT hZ (ow24 hw))) (mvT hZ (ow24 hw)) (mvT hZ (ow23 hw)) (by decide) (backOf (W := 0) (rmEnd l Z a0 hw [] (b130) ((8 : Int32)) (b101) (k101) ((8 : Int32)) ([b0, b1, b2, b3, b4, b5, b6, b7]) T165.heap n0 f173 (O165_0) (O165_1) (O165_2) (f172) (ne_b101_b130) (ge130) ((own_len8 b0 b1 b2 b3 b4 b5 b6 b7)) ((by decide)) (by rw [own_s0 (nn := (8 : Int32)) (bs := [b0, b1, b2, b3, b4, b5, b6, b7]) (k := 8) (own_nlt _)]; exact own_nlt _)) hZ (ow25 hw) (ow12 hw) (by decide) (by decide)) q171a q171c (g := (mkF m 181 #[.val (.int p1), .val (.long q2), .second, .val (.long q3), .second, .val (.int d), .val (.ref b101), .val (.ref b126), .val (.ref b130), .val (.ref b137), .val (.int (1 : Int32)), .unset] [(.ref b130)])) rfl (by rw [hml]; rfl) (Steps.refl _) (argsL := []) (rest := []) (lenOf pd___V rfl) rfl (by show 2 * 0 + _ ≤ _; exact Nat.le_of_eq rfl) (hb hby at_181) (fun _ _ => ⟨rfl, rfl, (by decide : 4 + 0 ≤ _), (by decide : 12 + 0 ≤ _)⟩)
        dsimp only [Pt.U, Pt.locs, Pt.cells, Pt.slots] at X171 l171 y171 z171 st171 hQ171
        subst l171 y171 z171
        obtain ⟨rfl, N171q, K171q, O171_0, O171_1, O171_2⟩ := hQ171
        have N171 := Fr.app N165 N171q
        have K171 := Keep.trans K165 K171q (allS (Or.inr gk130) all0)
        rw [own_s0 (nn := (8 : Int32)) (bs := [b0, b1, b2, b3, b4, b5, b6, b7]) (k := 8) (own_nlt _)] at O171_1
        refine Rch.go (fun zt zk => st171.trans zk) ?_
        show Rch _ _ _ _ (T171.setTop (mkF m 184 #[.val (.int p1), .val (.long q2), .second, .val (.long q3), .second, .val (.int d), .val (.ref b101), .val (.ref b126), .val (.ref b130), .val (.ref b137), .val (.int (1 : Int32)), .unset] []))
        refine Rch.go (fun zt zk => XS.aload X171.here hx rfl (hb hby at_184) rfl rfl zk) ?_
        show Rch _ _ _ _ (T171.setTop (mkF m 186 #[.val (.int p1), .val (.long q2), .second, .val (.long q3), .second, .val (.int d), .val (.ref b101), .val (.ref b126), .val (.ref b130), .val (.ref b137), .val (.int (1 : Int32)), .unset] [(.ref b137)]))
        have f175 := ((O138_0.keep K165q).keep K171q)
        have f176 := ((O138_2.keep K165q (ninS (Ne.symm ne_b130_b137) nin0)).keep K171q (ninS (Ne.symm ne_b130_b137) nin0))
        have f177 := ((O138_1.keep K165q (ninS (Ne.symm ne_b130_b137) nin0)).keep K171q (ninS (Ne.symm ne_b130_b137) nin0))
        have f178 := ((((((V126.ext E130).keep K131q (ninS ne_b126_b130 nin0)).ext E137).keep K138q (ninS ne_b126_b137 nin0)).keep K165q (ninS ne_b126_b130 nin0)).keep K171q (ninS ne_b126_b130 nin0))
        have f179 := (Nat.le_trans f173 K171q.1)
        obtain ⟨cq174, kq174, q174a, q174b, q174c⟩ := isOf hZ rfl f175
        obtain ⟨_, _, ⟨T174, L174, k174, n174⟩, -, X174, ⟨Lc174, hQ174, l174, y174, z174⟩, st174⟩ := X171.virtualBack hx (y := (⟨"com/example/mark_time/marktime/io/JsonCursor", "end", "()V"⟩ : MethodName)) (z := (⟨"com/example/mark_time/marktime/io/JsonCursor", "end", "()V"⟩ : MethodName)) hown (mvT hZ (ow21 hw)) (mvT hZ (ow22 hw)) (notFace_of_selects (args := #[]) (mvT hZ (ow24 hw))) (mvT hZ (ow24 hw)) (mvT hZ (ow23 hw)) (by decide) (backOf (W := 0) (rmEnd l Z a0 hw [] (b137) ((0 : Int32)) (b126) (k126) ((0 : Int32)) ([]) T171.heap n0 f179 (f175) (f176) (f177) (f178) (ne_b126_b137) (ge137) (own_len0) ((by first | exact own_z (own_len8 b0 b1 b2 b3 b4 b5 b6 b7) | exact own_z own_len0)) (by first | (rw [own_skE (own_len8 b0 b1 b2 b3 b4 b5 b6 b7) hT 8 (0 : Int32) (by decide) hdz (by decide) (by decide)]; exact own_nlt _) | (rw [own_s0 (nn := (0 : Int32)) (own_nlt _)]; exact own_nlt _))) hZ (ow25 hw) (ow12 hw) (by decide) (by decide)) q174a q174c (g := (mkF m 186 #[.val (.int p1), .val (.long q2), .second, .val (.long q3), .second, .val (.int d), .val (.ref b101), .val (.ref b126), .val (.ref b130), .val (.ref b137), .val (.int (1 : Int32)), .unset] [(.ref b137)])) rfl (by rw [hml]; rfl) (Steps.refl _) (argsL := []) (rest := []) (lenOf pd___V rfl) rfl (by show 2 * 0 + _ ≤ _; exact Nat.le_of_eq rfl) (hb hby at_186) (fun _ _ => ⟨rfl, rfl, (by decide : 4 + 0 ≤ _), (by decide : 12 + 0 ≤ _)⟩)
        dsimp only [Pt.U, Pt.locs, Pt.cells, Pt.slots] at X174 l174 y174 z174 st174 hQ174
        subst l174 y174 z174
        obtain ⟨rfl, N174q, K174q, O174_0, O174_1, O174_2⟩ := hQ174
        have N174 := Fr.app N171 N174q
        have K174 := Keep.trans K171 K174q (allS (Or.inr gk137) all0)
        refine Rch.go (fun zt zk => st174.trans zk) ?_
        show Rch _ _ _ _ (T174.setTop (mkF m 189 #[.val (.int p1), .val (.long q2), .second, .val (.long q3), .second, .val (.int d), .val (.ref b101), .val (.ref b126), .val (.ref b130), .val (.ref b137), .val (.int (1 : Int32)), .unset] []))
        refine Rch.go (fun zt zk => XS.iload X174.here hx rfl (hb hby at_189) rfl zk) ?_
        show Rch _ _ _ _ (T174.setTop (mkF m 191 #[.val (.int p1), .val (.long q2), .second, .val (.long q3), .second, .val (.int d), .val (.ref b101), .val (.ref b126), .val (.ref b130), .val (.ref b137), .val (.int (1 : Int32)), .unset] [(.int (1 : Int32))]))
        obtain ⟨fs, hr, hrun, hended, hW, hsame⟩ := X174.leave (v := some (.int (1 : Int32))) (fun h => by rw [Bd.returns] at h; cases h)
        refine Rch.mk (retN X174 hx (t := .boolean) Bd.returns (by simp) (hb hby at_191) hr) (hPd _ _ _ _ hrun hended rfl ?_ ⟨⟨_, rfl⟩, hW, hsame.mono (by decide) (by decide)⟩)
        show Q_rm0 Z p1 q2 q3 ca ut is cz rG h0 n0 _ T174.heap _
        exact ⟨rfl, N174⟩
    have f180 := ((((((((EA101.wr W104).wr W107).wr W110).wr W113).wr W116).wr W119).wr W122).wr W125)
    have f181 := (((((((((P4.ext E101).wr W104).wr W107).wr W110).wr W113).wr W116).wr W119).wr W122).wr W125)
    have f182 := (((((((((P7.ext E101).wr W104 ge101).wr W107 ge101).wr W110 ge101).wr W113 ge101).wr W116 ge101).wr W119 ge101).wr W122 ge101).wr W125 ge101)
    have f183 := (Nat.le_trans f124 (Keep.of_wr W125).1)
    exact jt ((nar .byte (fAt0 d q2 q3))) ((nar .byte (fAt1 d q2 q3))) ((nar .byte (fAt2 d q2 q3))) ((nar .byte (fAt3 d q2 q3))) ((nar .byte (fAt4 d q2 q3))) ((nar .byte (fAt5 d q2 q3))) ((nar .byte (fAt6 d q2 q3))) ((nar .byte (fAt7 d q2 q3))) _ _ _ X125 e125 N125 f183 K125 f180 V125 f181 f182 (own_txt d q2 q3)
  refine Rch.go (fun zt zk => XS.iloadN X0.here hx rfl (hb hby at_0) rfl zk) ?_
  show Rch _ _ _ _ (s₁.setTop (mkF m 1 #[.val (.int p1), .val (.long q2), .second, .val (.long q3), .second, .unset, .unset, .unset, .unset, .unset, .unset, .unset] [(.int p1)]))
  refine Rch.go (X0.ldcInt hx hown (mvT hZ (ow0 hw)) (g := (mkF m 1 #[.val (.int p1), .val (.long q2), .second, .val (.long q3), .second, .unset, .unset, .unset, .unset, .unset, .unset, .unset] [(.int p1)])) rfl (hb hby at_1)) ?_
  show Rch _ _ _ _ (s₁.setTop (mkF m 3 #[.val (.int p1), .val (.long q2), .second, .val (.long q3), .second, .unset, .unset, .unset, .unset, .unset, .unset, .unset] [(.int (2147483647 : Int32)), (.int p1)]))
  refine Rch.go (fun zt zk => XS.iand X0.here hx rfl (hb hby at_3) rfl zk) ?_
  show Rch _ _ _ _ (s₁.setTop (mkF m 4 #[.val (.int p1), .val (.long q2), .second, .val (.long q3), .second, .unset, .unset, .unset, .unset, .unset, .unset, .unset] [(.int (p1 &&& (2147483647 : Int32)))]))
  refine Rch.go (fun zt zk => XS.bipush X0.here hx rfl (hb hby at_4) zk) ?_
  show Rch _ _ _ _ (s₁.setTop (mkF m 6 #[.val (.int p1), .val (.long q2), .second, .val (.long q3), .second, .unset, .unset, .unset, .unset, .unset, .unset, .unset] [(.int (9 : Int32)), (.int (p1 &&& (2147483647 : Int32)))]))
  refine Rch.go (fun zt zk => iremM X0 hx rfl (hb hby at_6) rfl (by decide : ¬ ((9 : Int32) = (0 : Int32))) zk) ?_
  show Rch _ _ _ _ (s₁.setTop (mkF m 7 #[.val (.int p1), .val (.long q2), .second, .val (.long q3), .second, .unset, .unset, .unset, .unset, .unset, .unset, .unset] [(.int ((p1 &&& (2147483647 : Int32)) % (9 : Int32)))]))
  refine Rch.go (fun zt zk => XS.istore X0.here hx rfl (hb hby at_7) rfl (l' := #[.val (.int p1), .val (.long q2), .second, .val (.long q3), .second, .val (.int ((p1 &&& (2147483647 : Int32)) % (9 : Int32))), .unset, .unset, .unset, .unset, .unset, .unset]) rfl zk) ?_
  show Rch _ _ _ _ (s₁.setTop (mkF m 9 #[.val (.int p1), .val (.long q2), .second, .val (.long q3), .second, .val (.int ((p1 &&& (2147483647 : Int32)) % (9 : Int32))), .unset, .unset, .unset, .unset, .unset, .unset] []))
  exact j9 _ (own_dr p1)
set_option maxRecDepth 65536 in
set_option maxHeartbeats 40000000 in
theorem comes_1 {Post : Tables → Env → Array Value → State → Outcome → State → Prop} (hpost : ∀ tb e args s v u, (limb_1_1.after args s (.returned v) u = true ∧ limb_1_2.after args s (.returned v) u = true ∧ True) → FrameEnd s (.returned v) u (Jvm.fieldLocs frame_1_writes args s ++ Jvm.arrayLocs frame_1_arrays args s ++ Jvm.staticLocs frame_1_statics s) 24 128 → Post tb e args s (.returned v) u) :
    ArmFor flags0 classFile x code maxLocals ret World_1 tables_1 room_1 Calls_1 rest_1 Pre_1 Post := by
  intro l hfl _ _ p e ha hc hk s m args below hf hA hF happ hP
  obtain ⟨hcalls, hrest, hpre⟩ := hP
  obtain ⟨-, -, -, hnamed, -, -, -, hat⟩ := (Spec.applies_iff hf).mp happ
  obtain ⟨hg, hn⟩ := and_e (Cond.before_iff.mp (show (Jvm.Cond.and given_1 narrow_1).before args s = true from hpre))
  obtain ⟨g1, g2⟩ := and_e hg
  obtain ⟨ga0, gb0⟩ := and_e g2
  obtain ⟨ga1, gb1⟩ := and_e gb0
  obtain ⟨w0, w1, w2, rfl⟩ : ∃ w0 w1 w2 : Value, args = #[w0, w1, w2] := by
    have hs : args.size = 3 := by simpa [Cond.value, given_1] using g1
    obtain ⟨L⟩ := args
    match L, hs with
    | [w0, w1, w2], _ => exact ⟨w0, w1, w2, rfl⟩
  have hw := fun d (hd : d ∈ tables_1) => atoms_spec (ws := Jvm.Cond.code x code maxLocals ret :: tables_1) hat d (List.mem_cons_of_mem _ hd)
  have hfit : Fit s := fun {y c} hc i hi => by
    obtain ⟨ha, rfl⟩ := Array.getElem?_eq_some_iff.mp hc
    have q := List.all_eq_true.mp ((Array.all_eq_true_iff_forall_mem.mp hF) _ (Array.getElem_mem ha)) i (List.mem_range.mpr hi)
    simpa [Array.getElem?_eq_getElem hi] using q
  obtain ⟨hsets, hown0⟩ := atoms_of _ (rest_1_c_eq ▸ (show rest_1_c.before _ s = true from hrest))
  have hr0 := Cond.before_iff.mp hown0
  obtain ⟨i0, ei0⟩ := is_v ga0
  obtain rfl : w0 = (.int i0) := Option.some.inj ei0
  obtain ⟨i1, ei1⟩ := isL_v ga1
  obtain rfl : w1 = (.long i1) := Option.some.inj ei1
  obtain ⟨i2, ei2⟩ := isL_v gb1
  obtain rfl : w2 = (.long i2) := Option.some.inj ei2
  obtain ⟨ca, evC⟩ := exa_v (Cond.before_iff.mp (hsets _ (List.mem_of_getElem? (i := 5) rfl)))
  have T3 := Sta.start evC (Or.inl (hsets _ (List.mem_of_getElem? (i := 1) rfl)))
  obtain ⟨ca', evU⟩ := exa_v (Cond.before_iff.mp (hsets _ (List.mem_of_getElem? (i := 23) rfl)))
  have T2 := Sta.start evU (Or.inl (hsets _ (List.mem_of_getElem? (i := 22) rfl)))
  obtain rfl : ca = ca' := Value.ref.inj (gotT (eq_R evC evU rfl rfl) (Cond.before_iff.mp (hsets _ (List.mem_of_getElem? (i := 4) rfl))))
  have EC := Exa.start evC (Cond.before_iff.mp (hsets _ (List.mem_of_getElem? (i := 5) rfl)))
  obtain ⟨ut, evT⟩ := exa_v (Cond.before_iff.mp (hsets _ (List.mem_of_getElem? (i := 17) rfl)))
  have T0 := Sta.start evT (Or.inl (hsets _ (List.mem_of_getElem? (i := 16) rfl)))
  obtain ⟨is, evI⟩ := exa_v (Cond.before_iff.mp (hsets _ (List.mem_of_getElem? (i := 20) rfl)))
  have T1 := Sta.start evI (Or.inl (hsets _ (List.mem_of_getElem? (i := 19) rfl)))
  have nut := ne_exa EC (Exa.start evT (Cond.before_iff.mp (hsets _ (List.mem_of_getElem? (i := 17) rfl)))) (by decide)
  have nis := ne_exa EC (Exa.start evI (Cond.before_iff.mp (hsets _ (List.mem_of_getElem? (i := 20) rfl)))) (by decide)
  obtain ⟨cz, evZ⟩ := is_v (Cond.before_iff.mp (hsets _ (List.mem_of_getElem? (i := 7) rfl)))
  have TZ := Sta.start evZ (Or.inl (hsets _ (List.mem_of_getElem? (i := 6) rfl)))
  have hcz : ¬ (cz = (0 : Int32)) := fun q => by
    have h8 := not_v (Cond.before_iff.mp (hsets _ (List.mem_of_getElem? (i := 8) rfl)))
    rw [q] at evZ
    rw [eq_i evZ (Term.int_eval (0 : Int32)) rfl] at h8
    cases h8
  obtain ⟨rG, evG, hrG⟩ := isR_v (Cond.before_iff.mp (hsets _ (List.mem_of_getElem? (i := 14) rfl)))
  have TG := Sta.start evG (Or.inl (hsets _ (List.mem_of_getElem? (i := 13) rfl)))
  obtain ⟨n, o, h1, h2, h3, _, L, rfl, ⟨rfl, N⟩, hq⟩ := rm0 l s _ hw tables_1 i0 i1 i2 ca ut is cz rG s.heap s.heap.size (Nat.le_refl _) T0 T1 T2 TZ EC TG T3 (Old.start s) nut nis hcz hrG p e ha hc hk s m _ below hf ((Spec.applies_iff_loose hf).mp happ).1 ⟨rfl, State.Warmed39.refl s, rfl⟩ trivial
  refine ⟨n, _, h1, h2, h3, hpost _ _ _ _ _ _ ⟨Cond.after_iff.mpr rfl, Cond.after_iff.mpr (eq_i res_at (Term.int_eval (1)) rfl), trivial⟩ ⟨hq.1, hq.2.1, (hq.2.2.sift fun y hy => Or.inr (N y hy)).mono (by decide) (by decide)⟩⟩
theorem main_1_1 : Claimed_1_1 := comes_1 fun _ _ _ _ _ _ h hF => ⟨h.1, hF⟩
theorem main_1_2 : Claimed_1_2 := comes_1 fun _ _ _ _ _ _ h hF => ⟨h.2.1, hF⟩
end Jvm.Pilot.@@N@@
namespace Jvm.Pilot.@@N@@
open Jvm Jvm.ClassFile Sem Op Lib Jvm.Free Jvm.Stand Jvm.Pilot.@@N@@.Jvm.D
/-! MADE BY PROGRAM (witnessworld.py) out of the Statement's table words and the real class files: 29 classes; the members and pool entries that the words name. The judged class is class 1, her method 1. -/
namespace start1
open Jvm.ClassFile
def u (s : String) : CpInfo := .utf8 (stringToUtf16 s)
/-- a pool by its gaps: so many unusable entries, then the entry; so many at the end -/
def gap : Nat → List CpInfo → List CpInfo
  | 0, r => r
  | n + 1, r => .unusable :: gap n r
def poolList (es : List (Nat × CpInfo)) (last : Nat) : List CpInfo := es.foldr (fun e r => gap e.1 (e.2 :: r)) (gap last [])
def pool (es : List (Nat × CpInfo)) (last : Nat) : Array CpInfo := ⟨poolList es last⟩
def fileOf (pool : Array CpInfo) (this : Nat) (attrs : Array Attribute := #[]) (ms : Array MethodInfo := #[]) (fl : Nat := 33) (sup : Nat := 0) (ifs : Array Nat := #[]) (fds : Array FieldInfo := #[]) : ClassFile where
  minorVersion := 0
  majorVersion := 65
  constantPool := pool
  accessFlags := fl
  thisClass := this
  superClass := sup
  interfaces := ifs
  fields := fds
  methods := ms
  attributes := attrs
def plain (name : String) (sup : Option ClassId) : Class where
  name := name
  kind := .ordinary
  loader := none
  accessFlags := 33
  super := sup
  interfaces := #[]
  cf := none
  fields := #[]
  methods := #[]
  instanceTypes := #[]
  staticTypes := #[]
  resolved := #[]
  callSites := []
  init := .initialized
  statics := none
  mirror := none

def pool0 : Array CpInfo := pool [(5, u "<init>"), (0, u "()V"), (1, .class_ 10), (1, u "java/lang/Object"), (85, u "clone"), (0, u "()Ljava/lang/Object;")] 26

def k0c0 : Code := { maxStack := 0, maxLocals := 1, code := object_method_1_code, exceptionTable := #[], attributes := #[] }
def k0m0 : Method := { name := "<init>", desc := "()V", sig := { parameters := [], returnType := none }, accessFlags := 1, code := some k0c0 }
def k0m1 : Method := { name := "clone", desc := "()Ljava/lang/Object;", sig := { parameters := [], returnType := some (.object "java/lang/Object") }, accessFlags := 260, code := none }
/-- java/lang/Object -/
def k0 : Class := { plain "java/lang/Object" none with
  accessFlags := 33
  interfaces := #[]
  cf := some (fileOf pool0 8 #[] #[{ accessFlags := 1, nameIndex := 5, descriptorIndex := 6, attributes := #[] }, { accessFlags := 260, nameIndex := 96, descriptorIndex := 97, attributes := #[] }] 33 0 #[] #[])
  fields := #[]
  methods := #[k0m0, k0m1]
  instanceTypes := #[]
  staticTypes := #[]
  resolved := Array.replicate 124 none
  statics := none }

def pool1 : Array CpInfo := pool [(2, .class_ 4), (1, u "java/lang/Object"), (0, u "<init>"), (0, u "()V"), (0, .integer 2147483647), (0, .methodref 9 10), (0, .class_ 11), (0, .nameAndType 12 13), (0, u "com/example/mark_time/marktime/io/JsonCursorEndPinLaw"), (0, u "at"), (0, u "(IIJJ)B"), (0, .class_ 15), (0, u "com/example/mark_time/marktime/io/JsonCursor"), (0, .methodref 14 17), (0, .nameAndType 5 18), (0, u "([B)V"), (0, .methodref 14 20), (0, .nameAndType 21 22), (0, u "nextNumber"), (0, u "()Ljava/lang/String;"), (0, .methodref 24 25), (0, .class_ 26), (0, .nameAndType 27 28), (0, u "java/lang/String"), (0, u "length"), (0, u "()I"), (0, .methodref 14 30), (0, .nameAndType 31 6), (0, u "end"), (0, .long 15), (1, .long 9), (1, .long 10), (1, .long 3), (1, .methodref 9 41), (0, .nameAndType 42 43), (0, u "space"), (0, u "(I)B"), (2, u "law"), (0, u "(IJJ)Z")] 8

def k1m0 : Method := { name := "<init>", desc := "()V", sig := { parameters := [], returnType := none }, accessFlags := 1, code := none }
def k1c1 : Code := { maxStack := 8, maxLocals := 12, code := code, exceptionTable := #[], attributes := #[] }
def k1m1 : Method := { name := "law", desc := "(IJJ)Z", sig := { parameters := [.int, .long, .long], returnType := some .boolean }, accessFlags := 9, code := some k1c1 }
def k1c2 : Code := { maxStack := 5, maxLocals := 6, code := method_3_code, exceptionTable := #[], attributes := #[] }
def k1m2 : Method := { name := "at", desc := "(IIJJ)B", sig := { parameters := [.int, .int, .long, .long], returnType := some .byte }, accessFlags := 10, code := some k1c2 }
def k1c3 : Code := { maxStack := 2, maxLocals := 1, code := method_4_code, exceptionTable := #[], attributes := #[] }
def k1m3 : Method := { name := "space", desc := "(I)B", sig := { parameters := [.int], returnType := some .byte }, accessFlags := 10, code := some k1c3 }
/-- com/example/mark_time/marktime/io/JsonCursorEndPinLaw -/
def k1 : Class := { plain "com/example/mark_time/marktime/io/JsonCursorEndPinLaw" (some 0) with
  accessFlags := 49
  interfaces := #[]
  cf := some (fileOf pool1 9 #[] #[{ accessFlags := 1, nameIndex := 5, descriptorIndex := 6, attributes := #[] }, { accessFlags := 9, nameIndex := 46, descriptorIndex := 47, attributes := #[] }, { accessFlags := 10, nameIndex := 12, descriptorIndex := 13, attributes := #[] }, { accessFlags := 10, nameIndex := 42, descriptorIndex := 43, attributes := #[] }] 49 2 #[] #[])
  fields := #[]
  methods := #[k1m0, k1m1, k1m2, k1m3]
  instanceTypes := #[]
  staticTypes := #[]
  resolved := Array.replicate 56 none
  statics := none }

def pool2 : Array CpInfo := pool [(1, .methodref 2 3), (0, .class_ 4), (0, .nameAndType 5 6), (0, u "java/lang/Object"), (0, u "<init>"), (0, u "()V"), (0, .fieldref 8 9), (0, .class_ 10), (0, .nameAndType 11 12), (0, u "com/example/mark_time/marktime/io/JsonCursor"), (0, u "text"), (0, u "[B"), (0, .methodref 8 14), (0, .nameAndType 15 6), (0, u "skipWhitespace"), (0, .fieldref 8 17), (0, .nameAndType 18 19), (0, u "at"), (0, u "I"), (1, .class_ 23), (1, u "com/example/mark_time/marktime/io/JsonCursor$Kind"), (27, u "consume"), (4, u "()Ljava/lang/String;"), (43, .methodref 8 101), (0, .nameAndType 51 102), (0, u "(CZ)Z"), (0, .methodref 8 104), (0, .nameAndType 105 6), (0, u "digits"), (0, .class_ 107), (0, u "java/lang/String"), (0, .fieldref 109 110), (0, .class_ 111), (0, .nameAndType 112 113), (0, u "java/nio/charset/StandardCharsets"), (0, u "US_ASCII"), (0, u "Ljava/nio/charset/Charset;"), (0, .methodref 106 115), (0, .nameAndType 5 116), (0, u "([BIILjava/nio/charset/Charset;)V"), (0, .methodref 8 118), (0, .nameAndType 119 120), (0, u "isDigit"), (0, u "(B)Z"), (47, u "nextNumber"), (49, .methodref 8 219), (0, .nameAndType 220 120), (0, u "isWhitespace"), (2, u "NOT_JSON"), (0, u "Ljava/lang/String;"), (1, u "([B)V"), (12, u "end")] 19

def k2c0 : Code := { maxStack := 2, maxLocals := 2, code := prog_14_method_1_code, exceptionTable := #[], attributes := #[] }
def k2m0 : Method := { name := "<init>", desc := "([B)V", sig := { parameters := [(.array .byte)], returnType := none }, accessFlags := 0, code := some k2c0 }
def k2c1 : Code := { maxStack := 6, maxLocals := 2, code := prog_14_method_9_code, exceptionTable := #[], attributes := #[] }
def k2m1 : Method := { name := "nextNumber", desc := "()Ljava/lang/String;", sig := { parameters := [], returnType := some (.object "java/lang/String") }, accessFlags := 0, code := some k2c1 }
def k2c2 : Code := { maxStack := 3, maxLocals := 1, code := prog_14_method_12_code, exceptionTable := #[], attributes := #[] }
def k2m2 : Method := { name := "end", desc := "()V", sig := { parameters := [], returnType := none }, accessFlags := 0, code := some k2c2 }
def k2c3 : Code := { maxStack := 3, maxLocals := 2, code := prog_14_method_22_code, exceptionTable := #[], attributes := #[] }
def k2m3 : Method := { name := "digits", desc := "()V", sig := { parameters := [], returnType := none }, accessFlags := 2, code := some k2c3 }
def k2c4 : Code := { maxStack := 3, maxLocals := 4, code := prog_14_method_25_code, exceptionTable := #[], attributes := #[] }
def k2m4 : Method := { name := "consume", desc := "(CZ)Z", sig := { parameters := [.char, .boolean], returnType := some .boolean }, accessFlags := 2, code := some k2c4 }
def k2c5 : Code := { maxStack := 3, maxLocals := 1, code := prog_14_method_26_code, exceptionTable := #[], attributes := #[] }
def k2m5 : Method := { name := "skipWhitespace", desc := "()V", sig := { parameters := [], returnType := none }, accessFlags := 2, code := some k2c5 }
def k2c6 : Code := { maxStack := 2, maxLocals := 1, code := prog_14_method_27_code, exceptionTable := #[], attributes := #[] }
def k2m6 : Method := { name := "isDigit", desc := "(B)Z", sig := { parameters := [.byte], returnType := some .boolean }, accessFlags := 10, code := some k2c6 }
def k2c7 : Code := { maxStack := 2, maxLocals := 1, code := prog_14_method_28_code, exceptionTable := #[], attributes := #[] }
def k2m7 : Method := { name := "isWhitespace", desc := "(B)Z", sig := { parameters := [.byte], returnType := some .boolean }, accessFlags := 10, code := some k2c7 }
/-- com/example/mark_time/marktime/io/JsonCursor -/
def k2 : Class := { plain "com/example/mark_time/marktime/io/JsonCursor" (some 0) with
  accessFlags := 48
  interfaces := #[]
  cf := some (fileOf pool2 8 #[.nestMembers #[21]] #[{ accessFlags := 0, nameIndex := 5, descriptorIndex := 226, attributes := #[] }, { accessFlags := 0, nameIndex := 168, descriptorIndex := 56, attributes := #[] }, { accessFlags := 0, nameIndex := 239, descriptorIndex := 6, attributes := #[] }, { accessFlags := 2, nameIndex := 105, descriptorIndex := 6, attributes := #[] }, { accessFlags := 2, nameIndex := 51, descriptorIndex := 102, attributes := #[] }, { accessFlags := 2, nameIndex := 15, descriptorIndex := 6, attributes := #[] }, { accessFlags := 10, nameIndex := 119, descriptorIndex := 120, attributes := #[] }, { accessFlags := 10, nameIndex := 220, descriptorIndex := 120, attributes := #[] }] 48 2 #[] #[{ accessFlags := 24, nameIndex := 223, descriptorIndex := 224, attributes := #[] }, { accessFlags := 18, nameIndex := 11, descriptorIndex := 12, attributes := #[] }, { accessFlags := 2, nameIndex := 18, descriptorIndex := 19, attributes := #[] }])
  fields := #[{ name := "NOT_JSON", type := (.object "java/lang/String"), accessFlags := 24, slot := 0, constantValue := 0 }, { name := "text", type := (.array .byte), accessFlags := 18, slot := 0, constantValue := 0 }, { name := "at", type := .int, accessFlags := 2, slot := 1, constantValue := 0 }]
  methods := #[k2m0, k2m1, k2m2, k2m3, k2m4, k2m5, k2m6, k2m7]
  instanceTypes := #[(.array .byte), .int]
  staticTypes := #[(.object "java/lang/String")]
  resolved := Array.replicate 259 none
  statics := none }

def pool3 : Array CpInfo := pool [(1, .class_ 2), (0, u "java/io/Serializable"), (0, .class_ 4), (0, u "java/lang/Object")] 2

/-- java/io/Serializable -/
def k3 : Class := { plain "java/io/Serializable" (some 0) with
  accessFlags := 1537
  interfaces := #[]
  cf := some (fileOf pool3 1 #[] #[] 1537 3 #[] #[])
  fields := #[]
  methods := #[]
  instanceTypes := #[]
  staticTypes := #[]
  resolved := Array.replicate 7 none
  statics := none }

def pool4 : Array CpInfo := pool [(1, .class_ 2), (0, u "java/lang/Comparable"), (0, .class_ 4), (0, u "java/lang/Object")] 7

/-- java/lang/Comparable -/
def k4 : Class := { plain "java/lang/Comparable" (some 0) with
  accessFlags := 1537
  interfaces := #[]
  cf := some (fileOf pool4 1 #[] #[] 1537 3 #[] #[])
  fields := #[]
  methods := #[]
  instanceTypes := #[]
  staticTypes := #[]
  resolved := Array.replicate 12 none
  statics := none }

def pool5 : Array CpInfo := pool [(2, .class_ 4), (1, u "java/lang/CharSequence"), (42, .class_ 48), (0, u "java/lang/CharSequence$1CodePointIterator"), (10, .class_ 60), (0, u "java/lang/CharSequence$1CharIterator"), (5, .class_ 67), (0, u "java/lang/Object")] 63

/-- java/lang/CharSequence -/
def k5 : Class := { plain "java/lang/CharSequence" (some 0) with
  accessFlags := 1537
  interfaces := #[]
  cf := some (fileOf pool5 2 #[.nestMembers #[47, 59]] #[] 1537 66 #[] #[])
  fields := #[]
  methods := #[]
  instanceTypes := #[]
  staticTypes := #[]
  resolved := Array.replicate 131 none
  statics := none }

def pool6 : Array CpInfo := pool [(1, .class_ 2), (0, u "java/lang/constant/Constable"), (0, .class_ 4), (0, u "java/lang/Object")] 6

/-- java/lang/constant/Constable -/
def k6 : Class := { plain "java/lang/constant/Constable" (some 0) with
  accessFlags := 1537
  interfaces := #[]
  cf := some (fileOf pool6 1 #[] #[] 1537 3 #[] #[])
  fields := #[]
  methods := #[]
  instanceTypes := #[]
  staticTypes := #[]
  resolved := Array.replicate 11 none
  statics := none }

def pool7 : Array CpInfo := pool [(1, .class_ 2), (0, u "java/lang/constant/ConstantDesc"), (0, .class_ 4), (0, u "java/lang/Object")] 32

/-- java/lang/constant/ConstantDesc -/
def k7 : Class := { plain "java/lang/constant/ConstantDesc" (some 0) with
  accessFlags := 1537
  interfaces := #[]
  cf := some (fileOf pool7 1 #[] #[] 1537 3 #[] #[])
  fields := #[]
  methods := #[]
  instanceTypes := #[]
  staticTypes := #[]
  resolved := Array.replicate 37 none
  statics := none }

def pool8 : Array CpInfo := pool [(1, .methodref 2 3), (0, .class_ 4), (0, .nameAndType 5 6), (0, u "java/lang/Object"), (0, u "<init>"), (0, u "()V"), (2, .fieldref 10 11), (0, .class_ 12), (0, .nameAndType 13 14), (0, u "java/lang/String"), (0, u "value"), (0, u "[B"), (0, .fieldref 10 16), (0, .nameAndType 17 18), (0, u "coder"), (0, u "B"), (2, u "hash"), (0, u "I"), (2, u "hashIsZero"), (0, u "Z"), (7, .methodref 10 35), (0, .nameAndType 36 37), (0, u "checkBoundsOffCount"), (0, u "(III)I"), (0, .fieldref 10 39), (0, .nameAndType 40 26), (0, u "COMPACT_STRINGS"), (13, .methodref 55 56), (0, .class_ 57), (0, .nameAndType 58 59), (0, u "java/util/Arrays"), (0, u "copyOfRange"), (0, u "([BII)[B"), (15, .methodref 10 76), (0, .nameAndType 5 77), (0, u "(Ljava/nio/charset/Charset;[BII)V"), (0, .methodref 79 80), (0, .class_ 81), (0, .nameAndType 82 83), (0, u "java/util/Objects"), (0, u "requireNonNull"), (0, u "(Ljava/lang/Object;)Ljava/lang/Object;"), (0, .class_ 85), (0, u "java/nio/charset/Charset"), (0, .fieldref 87 88), (0, .class_ 89), (0, .nameAndType 90 91), (0, u "sun/nio/cs/UTF_8"), (0, u "INSTANCE"), (0, u "Lsun/nio/cs/UTF_8;"), (1, .class_ 95), (1, u "java/lang/StringCoding"), (20, .fieldref 117 118), (0, .class_ 119), (0, .nameAndType 90 120), (0, u "sun/nio/cs/ISO_8859_1"), (0, u "Lsun/nio/cs/ISO_8859_1;"), (2, .fieldref 124 125), (0, .class_ 126), (0, .nameAndType 90 127), (0, u "sun/nio/cs/US_ASCII"), (0, u "Lsun/nio/cs/US_ASCII;"), (0, .methodref 93 129), (0, .nameAndType 130 131), (0, u "hasNegatives"), (0, u "([BII)Z"), (106, u "([BIILjava/nio/charset/Charset;)V"), (95, u "()I"), (0, .methodref 10 336), (0, .nameAndType 17 337), (0, u "()B"), (169, u "length"), (67, .class_ 576), (0, u "java/lang/CharSequence"), (22, u "CASE_INSENSITIVE_ORDER"), (0, u "Ljava/util/Comparator;"), (452, .fieldref 1054 1055), (0, .class_ 1056), (0, .nameAndType 1057 1058), (0, u "jdk/internal/util/Preconditions"), (0, u "SIOOBE_FORMATTER"), (0, u "Ljava/util/function/BiFunction;"), (5, u "(IIILjava/util/function/BiFunction;)I"), (0, .methodref 1054 1066), (0, .nameAndType 1067 1064), (0, u "checkFromIndexSize"), (33, u "serialPersistentFields"), (0, u "[Ljava/io/ObjectStreamField;"), (0, .class_ 1104), (0, u "java/lang/String$CaseInsensitiveComparator"), (1, .class_ 1107), (0, u "java/io/Serializable"), (0, .class_ 1109), (0, u "java/lang/Comparable"), (0, .class_ 1111), (0, u "java/lang/constant/Constable"), (0, .class_ 1113), (0, u "java/lang/constant/ConstantDesc"), (2, u "serialVersionUID"), (0, u "J"), (3, u "REPL"), (0, u "C"), (2, u "LATIN1"), (1, u "UTF16")] 323

def k8m0 : Method := { name := "<init>", desc := "()V", sig := { parameters := [], returnType := none }, accessFlags := 1, code := none }
def k8c1 : Code := { maxStack := 6, maxLocals := 5, code := jdk_42_method_10_code, exceptionTable := #[], attributes := #[] }
def k8m1 : Method := { name := "<init>", desc := "([BIILjava/nio/charset/Charset;)V", sig := { parameters := [(.array .byte), .int, .int, (.object "java/nio/charset/Charset")], returnType := none }, accessFlags := 1, code := some k8c1 }
def k8c2 : Code := { maxStack := 6, maxLocals := 11, code := jdk_42_method_11_code, exceptionTable := #[{ startPc := 800, endPc := 813, handlerPc := 816, catchType := 202 }], attributes := #[] }
def k8m2 : Method := { name := "<init>", desc := "(Ljava/nio/charset/Charset;[BII)V", sig := { parameters := [(.object "java/nio/charset/Charset"), (.array .byte), .int, .int], returnType := none }, accessFlags := 2, code := some k8c2 }
def k8c3 : Code := { maxStack := 2, maxLocals := 1, code := jdk_42_method_54_code, exceptionTable := #[], attributes := #[] }
def k8m3 : Method := { name := "length", desc := "()I", sig := { parameters := [], returnType := some .int }, accessFlags := 1, code := some k8c3 }
def k8c4 : Code := { maxStack := 1, maxLocals := 1, code := jdk_42_method_152_code, exceptionTable := #[], attributes := #[] }
def k8m4 : Method := { name := "coder", desc := "()B", sig := { parameters := [], returnType := some .byte }, accessFlags := 0, code := some k8c4 }
def k8c5 : Code := { maxStack := 4, maxLocals := 3, code := jdk_42_method_157_code, exceptionTable := #[], attributes := #[] }
def k8m5 : Method := { name := "checkBoundsOffCount", desc := "(III)I", sig := { parameters := [.int, .int, .int], returnType := some .int }, accessFlags := 8, code := some k8c5 }
/-- java/lang/String -/
def k8 : Class := { plain "java/lang/String" (some 0) with
  accessFlags := 49
  interfaces := #[3, 4, 5, 6, 7]
  cf := some (fileOf pool8 10 #[.nestMembers #[1103]] #[{ accessFlags := 1, nameIndex := 5, descriptorIndex := 6, attributes := #[] }, { accessFlags := 1, nameIndex := 5, descriptorIndex := 238, attributes := #[] }, { accessFlags := 2, nameIndex := 5, descriptorIndex := 77, attributes := #[] }, { accessFlags := 1, nameIndex := 507, descriptorIndex := 334, attributes := #[] }, { accessFlags := 0, nameIndex := 17, descriptorIndex := 337, attributes := #[] }, { accessFlags := 8, nameIndex := 36, descriptorIndex := 37, attributes := #[] }] 49 2 #[1106, 1108, 575, 1110, 1112] #[{ accessFlags := 18, nameIndex := 13, descriptorIndex := 14, attributes := #[] }, { accessFlags := 18, nameIndex := 17, descriptorIndex := 18, attributes := #[] }, { accessFlags := 2, nameIndex := 21, descriptorIndex := 22, attributes := #[] }, { accessFlags := 2, nameIndex := 25, descriptorIndex := 26, attributes := #[] }, { accessFlags := 26, nameIndex := 1116, descriptorIndex := 1117, attributes := #[] }, { accessFlags := 24, nameIndex := 40, descriptorIndex := 26, attributes := #[] }, { accessFlags := 26, nameIndex := 1101, descriptorIndex := 1102, attributes := #[] }, { accessFlags := 26, nameIndex := 1121, descriptorIndex := 1122, attributes := #[] }, { accessFlags := 25, nameIndex := 599, descriptorIndex := 600, attributes := #[] }, { accessFlags := 24, nameIndex := 1125, descriptorIndex := 18, attributes := #[] }, { accessFlags := 24, nameIndex := 1127, descriptorIndex := 18, attributes := #[] }])
  fields := #[{ name := "value", type := (.array .byte), accessFlags := 18, slot := 0, constantValue := 0 }, { name := "coder", type := .byte, accessFlags := 18, slot := 1, constantValue := 0 }, { name := "hash", type := .int, accessFlags := 2, slot := 2, constantValue := 0 }, { name := "hashIsZero", type := .boolean, accessFlags := 2, slot := 3, constantValue := 0 }, { name := "serialVersionUID", type := .long, accessFlags := 26, slot := 0, constantValue := 0 }, { name := "COMPACT_STRINGS", type := .boolean, accessFlags := 24, slot := 1, constantValue := 0 }, { name := "serialPersistentFields", type := (.array (.object "java/io/ObjectStreamField")), accessFlags := 26, slot := 2, constantValue := 0 }, { name := "REPL", type := .char, accessFlags := 26, slot := 3, constantValue := 0 }, { name := "CASE_INSENSITIVE_ORDER", type := (.object "java/util/Comparator"), accessFlags := 25, slot := 4, constantValue := 0 }, { name := "LATIN1", type := .byte, accessFlags := 24, slot := 5, constantValue := 0 }, { name := "UTF16", type := .byte, accessFlags := 24, slot := 6, constantValue := 0 }]
  methods := #[k8m0, k8m1, k8m2, k8m3, k8m4, k8m5]
  instanceTypes := #[(.array .byte), .byte, .int, .boolean]
  staticTypes := #[.long, .boolean, (.array (.object "java/io/ObjectStreamField")), .char, (.object "java/util/Comparator"), .byte, .byte]
  resolved := Array.replicate 1451 none
  statics := some 0 }

def pool9 : Array CpInfo := pool [(2, .class_ 4), (1, u "java/lang/Object"), (0, u "<init>"), (0, u "()V"), (14, .class_ 23), (1, u "java/nio/charset/StandardCharsets"), (0, u "US_ASCII"), (0, u "Ljava/nio/charset/Charset;"), (7, u "ISO_8859_1"), (7, u "UTF_8"), (5, u "UTF_16BE"), (5, u "UTF_16LE"), (5, u "UTF_16")] 8

def k9m0 : Method := { name := "<init>", desc := "()V", sig := { parameters := [], returnType := none }, accessFlags := 2, code := none }
/-- java/nio/charset/StandardCharsets -/
def k9 : Class := { plain "java/nio/charset/StandardCharsets" (some 0) with
  accessFlags := 49
  interfaces := #[]
  cf := some (fileOf pool9 21 #[] #[{ accessFlags := 2, nameIndex := 5, descriptorIndex := 6, attributes := #[] }] 49 2 #[] #[{ accessFlags := 25, nameIndex := 24, descriptorIndex := 25, attributes := #[] }, { accessFlags := 25, nameIndex := 33, descriptorIndex := 25, attributes := #[] }, { accessFlags := 25, nameIndex := 41, descriptorIndex := 25, attributes := #[] }, { accessFlags := 25, nameIndex := 47, descriptorIndex := 25, attributes := #[] }, { accessFlags := 25, nameIndex := 53, descriptorIndex := 25, attributes := #[] }, { accessFlags := 25, nameIndex := 59, descriptorIndex := 25, attributes := #[] }])
  fields := #[{ name := "US_ASCII", type := (.object "java/nio/charset/Charset"), accessFlags := 25, slot := 0, constantValue := 0 }, { name := "ISO_8859_1", type := (.object "java/nio/charset/Charset"), accessFlags := 25, slot := 1, constantValue := 0 }, { name := "UTF_8", type := (.object "java/nio/charset/Charset"), accessFlags := 25, slot := 2, constantValue := 0 }, { name := "UTF_16BE", type := (.object "java/nio/charset/Charset"), accessFlags := 25, slot := 3, constantValue := 0 }, { name := "UTF_16LE", type := (.object "java/nio/charset/Charset"), accessFlags := 25, slot := 4, constantValue := 0 }, { name := "UTF_16", type := (.object "java/nio/charset/Charset"), accessFlags := 25, slot := 5, constantValue := 0 }]
  methods := #[k9m0]
  instanceTypes := #[]
  staticTypes := #[(.object "java/nio/charset/Charset"), (.object "java/nio/charset/Charset"), (.object "java/nio/charset/Charset"), (.object "java/nio/charset/Charset"), (.object "java/nio/charset/Charset"), (.object "java/nio/charset/Charset")]
  resolved := Array.replicate 68 none
  statics := some 1 }

def pool10 : Array CpInfo := pool [(2, .class_ 4), (1, u "java/lang/Object"), (0, u "<init>"), (0, u "()V"), (35, .class_ 44), (1, u "java/util/Objects"), (0, u "requireNonNull"), (0, u "(Ljava/lang/Object;)Ljava/lang/Object;")] 137

def k10m0 : Method := { name := "<init>", desc := "()V", sig := { parameters := [], returnType := none }, accessFlags := 2, code := none }
def k10c1 : Code := { maxStack := 2, maxLocals := 1, code := jdk_31_method_10_code, exceptionTable := #[], attributes := #[] }
def k10m1 : Method := { name := "requireNonNull", desc := "(Ljava/lang/Object;)Ljava/lang/Object;", sig := { parameters := [(.object "java/lang/Object")], returnType := some (.object "java/lang/Object") }, accessFlags := 9, code := some k10c1 }
/-- java/util/Objects -/
def k10 : Class := { plain "java/util/Objects" (some 0) with
  accessFlags := 49
  interfaces := #[]
  cf := some (fileOf pool10 42 #[] #[{ accessFlags := 2, nameIndex := 5, descriptorIndex := 6, attributes := #[] }, { accessFlags := 9, nameIndex := 45, descriptorIndex := 46, attributes := #[] }] 49 2 #[] #[])
  fields := #[]
  methods := #[k10m0, k10m1]
  instanceTypes := #[]
  staticTypes := #[]
  resolved := Array.replicate 184 none
  statics := none }

def pool11 : Array CpInfo := pool [(18, .class_ 20), (1, u "java/nio/charset/Charset"), (0, u "cache1"), (0, u "[Ljava/lang/Object;"), (2, u "cache2"), (0, .class_ 27), (0, u "java/lang/Object"), (0, .class_ 29), (0, u "java/nio/charset/Charset$1"), (4, .class_ 36), (1, u "java/nio/charset/Charset$ThreadTrackHolder"), (21, .class_ 59), (0, u "java/nio/charset/Charset$2"), (11, .class_ 73), (1, u "java/nio/charset/Charset$ExtendedProviderHolder"), (22, u "standardProvider"), (0, u "Ljava/nio/charset/spi/CharsetProvider;"), (29, u "name"), (7, .class_ 136), (0, u "java/nio/charset/Charset$3"), (5, u "defaultCharset"), (0, u "Ljava/nio/charset/Charset;"), (14, u "zeroAliases"), (0, u "[Ljava/lang/String;"), (29, u "Ljava/lang/String;"), (2, u "aliases"), (2, u "aliasSet"), (0, u "Ljava/util/Set;"), (82, .class_ 280), (0, u "java/lang/Comparable"), (84, .class_ 366), (0, u "java/nio/charset/Charset$ExtendedProviderHolder$1")] 3

/-- java/nio/charset/Charset -/
def k11 : Class := { plain "java/nio/charset/Charset" (some 0) with
  accessFlags := 1057
  interfaces := #[4]
  cf := some (fileOf pool11 18 #[.nestMembers #[71, 365, 34, 135, 58, 28]] #[] 1057 26 #[279] #[{ accessFlags := 26, nameIndex := 96, descriptorIndex := 97, attributes := #[] }, { accessFlags := 26, nameIndex := 158, descriptorIndex := 159, attributes := #[] }, { accessFlags := 74, nameIndex := 21, descriptorIndex := 22, attributes := #[] }, { accessFlags := 74, nameIndex := 25, descriptorIndex := 22, attributes := #[] }, { accessFlags := 10, nameIndex := 142, descriptorIndex := 143, attributes := #[] }, { accessFlags := 18, nameIndex := 127, descriptorIndex := 189, attributes := #[] }, { accessFlags := 18, nameIndex := 192, descriptorIndex := 159, attributes := #[] }, { accessFlags := 2, nameIndex := 195, descriptorIndex := 196, attributes := #[] }])
  fields := #[{ name := "standardProvider", type := (.object "java/nio/charset/spi/CharsetProvider"), accessFlags := 26, slot := 0, constantValue := 0 }, { name := "zeroAliases", type := (.array (.object "java/lang/String")), accessFlags := 26, slot := 1, constantValue := 0 }, { name := "cache1", type := (.array (.object "java/lang/Object")), accessFlags := 74, slot := 2, constantValue := 0 }, { name := "cache2", type := (.array (.object "java/lang/Object")), accessFlags := 74, slot := 3, constantValue := 0 }, { name := "defaultCharset", type := (.object "java/nio/charset/Charset"), accessFlags := 10, slot := 4, constantValue := 0 }, { name := "name", type := (.object "java/lang/String"), accessFlags := 18, slot := 0, constantValue := 0 }, { name := "aliases", type := (.array (.object "java/lang/String")), accessFlags := 18, slot := 1, constantValue := 0 }, { name := "aliasSet", type := (.object "java/util/Set"), accessFlags := 2, slot := 2, constantValue := 0 }]
  methods := #[]
  instanceTypes := #[(.object "java/lang/String"), (.array (.object "java/lang/String")), (.object "java/util/Set")]
  staticTypes := #[(.object "java/nio/charset/spi/CharsetProvider"), (.array (.object "java/lang/String")), (.array (.object "java/lang/Object")), (.array (.object "java/lang/Object")), (.object "java/nio/charset/Charset")]
  resolved := Array.replicate 370 none
  statics := none }

def pool12 : Array CpInfo := pool [(1, .class_ 2), (0, u "sun/nio/cs/HistoricallyNamedCharset"), (0, .class_ 4), (0, u "java/lang/Object")] 4

/-- sun/nio/cs/HistoricallyNamedCharset -/
def k12 : Class := { plain "sun/nio/cs/HistoricallyNamedCharset" (some 0) with
  accessFlags := 1537
  interfaces := #[]
  cf := some (fileOf pool12 1 #[] #[] 1537 3 #[] #[])
  fields := #[]
  methods := #[]
  instanceTypes := #[]
  staticTypes := #[]
  resolved := Array.replicate 9 none
  statics := none }

def pool13 : Array CpInfo := pool [(10, .class_ 12), (1, u "java/nio/charset/Charset"), (0, u "<init>"), (3, .class_ 18), (0, u "sun/nio/cs/US_ASCII"), (0, .class_ 20), (0, u "sun/nio/cs/US_ASCII$Decoder"), (3, .class_ 25), (0, u "sun/nio/cs/US_ASCII$Encoder"), (3, u "()V"), (2, u "INSTANCE"), (0, u "Lsun/nio/cs/US_ASCII;"), (8, u "JLA"), (0, u "Ljdk/internal/access/JavaLangAccess;"), (0, .class_ 45), (0, u "sun/nio/cs/HistoricallyNamedCharset")] 21

def k13m0 : Method := { name := "<init>", desc := "()V", sig := { parameters := [], returnType := none }, accessFlags := 1, code := none }
/-- sun/nio/cs/US_ASCII -/
def k13 : Class := { plain "sun/nio/cs/US_ASCII" (some 11) with
  accessFlags := 33
  interfaces := #[12]
  cf := some (fileOf pool13 17 #[.nestMembers #[24, 19]] #[{ accessFlags := 1, nameIndex := 13, descriptorIndex := 29, attributes := #[] }] 33 10 #[44] #[{ accessFlags := 25, nameIndex := 32, descriptorIndex := 33, attributes := #[] }, { accessFlags := 26, nameIndex := 42, descriptorIndex := 43, attributes := #[] }])
  fields := #[{ name := "INSTANCE", type := (.object "sun/nio/cs/US_ASCII"), accessFlags := 25, slot := 0, constantValue := 0 }, { name := "JLA", type := (.object "jdk/internal/access/JavaLangAccess"), accessFlags := 26, slot := 1, constantValue := 0 }]
  methods := #[k13m0]
  instanceTypes := #[(.object "java/lang/String"), (.array (.object "java/lang/String")), (.object "java/util/Set")]
  staticTypes := #[(.object "sun/nio/cs/US_ASCII"), (.object "jdk/internal/access/JavaLangAccess")]
  resolved := Array.replicate 67 none
  statics := some 2 }

def pool14 : Array CpInfo := pool [(2, .class_ 4), (1, u "java/lang/Object"), (0, u "<init>"), (0, u "()V"), (17, .class_ 26), (1, u "jdk/internal/util/Preconditions"), (22, u "checkFromIndexSize"), (5, .class_ 56), (0, u "jdk/internal/util/Preconditions$4"), (57, .class_ 115), (0, u "jdk/internal/util/Preconditions$1"), (7, u "SIOOBE_FORMATTER"), (0, u "Ljava/util/function/BiFunction;"), (0, .class_ 126), (0, u "jdk/internal/util/Preconditions$2"), (3, u "AIOOBE_FORMATTER"), (0, .class_ 132), (0, u "jdk/internal/util/Preconditions$3"), (3, u "IOOBE_FORMATTER"), (46, u "(IIILjava/util/function/BiFunction;)I")] 10

def k14m0 : Method := { name := "<init>", desc := "()V", sig := { parameters := [], returnType := none }, accessFlags := 1, code := none }
def k14c1 : Code := { maxStack := 4, maxLocals := 4, code := jdk_41_method_13_code, exceptionTable := #[], attributes := #[] }
def k14m1 : Method := { name := "checkFromIndexSize", desc := "(IIILjava/util/function/BiFunction;)I", sig := { parameters := [.int, .int, .int, (.object "java/util/function/BiFunction")], returnType := some .int }, accessFlags := 9, code := some k14c1 }
/-- jdk/internal/util/Preconditions -/
def k14 : Class := { plain "jdk/internal/util/Preconditions" (some 0) with
  accessFlags := 33
  interfaces := #[]
  cf := some (fileOf pool14 24 #[.nestMembers #[55, 131, 125, 114]] #[{ accessFlags := 1, nameIndex := 5, descriptorIndex := 6, attributes := #[] }, { accessFlags := 9, nameIndex := 49, descriptorIndex := 183, attributes := #[] }] 33 2 #[] #[{ accessFlags := 25, nameIndex := 123, descriptorIndex := 124, attributes := #[] }, { accessFlags := 25, nameIndex := 130, descriptorIndex := 124, attributes := #[] }, { accessFlags := 25, nameIndex := 136, descriptorIndex := 124, attributes := #[] }])
  fields := #[{ name := "SIOOBE_FORMATTER", type := (.object "java/util/function/BiFunction"), accessFlags := 25, slot := 0, constantValue := 0 }, { name := "AIOOBE_FORMATTER", type := (.object "java/util/function/BiFunction"), accessFlags := 25, slot := 1, constantValue := 0 }, { name := "IOOBE_FORMATTER", type := (.object "java/util/function/BiFunction"), accessFlags := 25, slot := 2, constantValue := 0 }]
  methods := #[k14m0, k14m1]
  instanceTypes := #[]
  staticTypes := #[(.object "java/util/function/BiFunction"), (.object "java/util/function/BiFunction"), (.object "java/util/function/BiFunction")]
  resolved := Array.replicate 194 none
  statics := some 3 }

def pool15 : Array CpInfo := pool [(2, .class_ 4), (1, u "java/nio/charset/Charset"), (130, .class_ 136), (0, u "sun/nio/cs/Unicode"), (0, .class_ 138), (0, u "sun/nio/cs/HistoricallyNamedCharset")] 15

/-- sun/nio/cs/Unicode -/
def k15 : Class := { plain "sun/nio/cs/Unicode" (some 11) with
  accessFlags := 1056
  interfaces := #[12]
  cf := some (fileOf pool15 135 #[] #[] 1056 2 #[137] #[])
  fields := #[]
  methods := #[]
  instanceTypes := #[(.object "java/lang/String"), (.array (.object "java/lang/String")), (.object "java/util/Set")]
  staticTypes := #[]
  resolved := Array.replicate 154 none
  statics := none }

def pool16 : Array CpInfo := pool [(10, .class_ 12), (1, u "sun/nio/cs/Unicode"), (0, u "<init>"), (3, .class_ 18), (0, u "sun/nio/cs/UTF_8$Decoder"), (3, .class_ 23), (0, u "sun/nio/cs/UTF_8$Encoder"), (15, .class_ 40), (0, u "sun/nio/cs/UTF_8"), (2, u "()V"), (2, u "INSTANCE"), (0, u "Lsun/nio/cs/UTF_8;"), (8, u "JLA"), (0, u "Ljdk/internal/access/JavaLangAccess;")] 26

def k16m0 : Method := { name := "<init>", desc := "()V", sig := { parameters := [], returnType := none }, accessFlags := 1, code := none }
/-- sun/nio/cs/UTF_8 -/
def k16 : Class := { plain "sun/nio/cs/UTF_8" (some 15) with
  accessFlags := 49
  interfaces := #[]
  cf := some (fileOf pool16 39 #[.nestMembers #[22, 17]] #[{ accessFlags := 1, nameIndex := 13, descriptorIndex := 43, attributes := #[] }] 49 10 #[] #[{ accessFlags := 25, nameIndex := 46, descriptorIndex := 47, attributes := #[] }, { accessFlags := 26, nameIndex := 56, descriptorIndex := 57, attributes := #[] }])
  fields := #[{ name := "INSTANCE", type := (.object "sun/nio/cs/UTF_8"), accessFlags := 25, slot := 0, constantValue := 0 }, { name := "JLA", type := (.object "jdk/internal/access/JavaLangAccess"), accessFlags := 26, slot := 1, constantValue := 0 }]
  methods := #[k16m0]
  instanceTypes := #[(.object "java/lang/String"), (.array (.object "java/lang/String")), (.object "java/util/Set")]
  staticTypes := #[(.object "sun/nio/cs/UTF_8"), (.object "jdk/internal/access/JavaLangAccess")]
  resolved := Array.replicate 84 none
  statics := some 4 }

def pool17 : Array CpInfo := pool [(10, .class_ 12), (1, u "java/nio/charset/Charset"), (0, u "<init>"), (5, .class_ 20), (0, u "sun/nio/cs/ISO_8859_1"), (0, .class_ 22), (0, u "sun/nio/cs/ISO_8859_1$Decoder"), (3, .class_ 27), (0, u "sun/nio/cs/ISO_8859_1$Encoder"), (3, u "()V"), (2, u "INSTANCE"), (0, u "Lsun/nio/cs/ISO_8859_1;"), (0, .class_ 37), (0, u "sun/nio/cs/HistoricallyNamedCharset")] 22

def k17m0 : Method := { name := "<init>", desc := "()V", sig := { parameters := [], returnType := none }, accessFlags := 1, code := none }
/-- sun/nio/cs/ISO_8859_1 -/
def k17 : Class := { plain "sun/nio/cs/ISO_8859_1" (some 11) with
  accessFlags := 33
  interfaces := #[12]
  cf := some (fileOf pool17 19 #[.nestMembers #[26, 21]] #[{ accessFlags := 1, nameIndex := 13, descriptorIndex := 31, attributes := #[] }] 33 10 #[36] #[{ accessFlags := 25, nameIndex := 34, descriptorIndex := 35, attributes := #[] }])
  fields := #[{ name := "INSTANCE", type := (.object "sun/nio/cs/ISO_8859_1"), accessFlags := 25, slot := 0, constantValue := 0 }]
  methods := #[k17m0]
  instanceTypes := #[(.object "java/lang/String"), (.array (.object "java/lang/String")), (.object "java/util/Set")]
  staticTypes := #[(.object "sun/nio/cs/ISO_8859_1")]
  resolved := Array.replicate 60 none
  statics := some 5 }

def pool18 : Array CpInfo := pool [(2, .class_ 4), (1, u "java/lang/Object"), (0, u "<init>"), (0, u "()V"), (0, .methodref 8 9), (0, .class_ 10), (0, .nameAndType 11 12), (0, u "java/lang/StringCoding"), (0, u "countPositives"), (0, u "([BII)I"), (11, u "hasNegatives"), (0, u "([BII)Z")] 23

def k18m0 : Method := { name := "<init>", desc := "()V", sig := { parameters := [], returnType := none }, accessFlags := 2, code := none }
def k18c1 : Code := { maxStack := 3, maxLocals := 3, code := jdk_123_method_2_code, exceptionTable := #[], attributes := #[] }
def k18m1 : Method := { name := "hasNegatives", desc := "([BII)Z", sig := { parameters := [(.array .byte), .int, .int], returnType := some .boolean }, accessFlags := 9, code := some k18c1 }
def k18c2 : Code := { maxStack := 2, maxLocals := 5, code := jdk_123_method_3_code, exceptionTable := #[], attributes := #[] }
def k18m2 : Method := { name := "countPositives", desc := "([BII)I", sig := { parameters := [(.array .byte), .int, .int], returnType := some .int }, accessFlags := 9, code := some k18c2 }
/-- java/lang/StringCoding -/
def k18 : Class := { plain "java/lang/StringCoding" (some 0) with
  accessFlags := 32
  interfaces := #[]
  cf := some (fileOf pool18 8 #[] #[{ accessFlags := 2, nameIndex := 5, descriptorIndex := 6, attributes := #[] }, { accessFlags := 9, nameIndex := 24, descriptorIndex := 25, attributes := #[] }, { accessFlags := 9, nameIndex := 11, descriptorIndex := 12, attributes := #[] }] 32 2 #[] #[])
  fields := #[]
  methods := #[k18m0, k18m1, k18m2]
  instanceTypes := #[]
  staticTypes := #[]
  resolved := Array.replicate 49 none
  statics := none }

def pool19 : Array CpInfo := pool [(2, .class_ 4), (1, u "java/lang/Object"), (0, u "<init>"), (0, u "()V"), (7, .class_ 16), (1, u "java/util/Arrays"), (57, .class_ 76), (1, u "java/util/Arrays$NaturalOrder"), (32, u "()Ljava/lang/Object;"), (3, .class_ 115), (1, u "java/util/Arrays$LegacyMergeSort"), (1, u "Z"), (10, .nameAndType 129 109), (0, u "clone"), (9, u "copyOfRange"), (10, .methodref 151 152), (0, .class_ 153), (0, .nameAndType 154 155), (0, u "java/lang/System"), (0, u "arraycopy"), (0, u "(Ljava/lang/Object;ILjava/lang/Object;II)V"), (148, .methodref 305 306), (0, .class_ 307), (0, .nameAndType 308 309), (0, u "java/lang/Math"), (0, u "min"), (0, u "(II)I"), (0, .methodref 311 128), (0, .class_ 312), (0, u "[B"), (26, .methodref 14 340), (0, .nameAndType 341 342), (0, u "copyOfRangeByte"), (0, u "([BII)[B"), (0, .methodref 14 344), (0, .nameAndType 345 346), (0, u "checkLength"), (0, u "(II)V"), (28, .class_ 376), (0, u "java/util/Arrays$ArrayList"), (68, u "$assertionsDisabled"), (269, u "MIN_ARRAY_SORT_GRAN"), (0, u "I"), (2, u "INSERTIONSORT_THRESHOLD"), (255, .class_ 976), (0, u "java/util/Arrays$ArrayItr")] 52

def k19m0 : Method := { name := "<init>", desc := "()V", sig := { parameters := [], returnType := none }, accessFlags := 2, code := none }
def k19c1 : Code := { maxStack := 4, maxLocals := 2, code := jdk_65_method_131_code, exceptionTable := #[], attributes := #[] }
def k19m1 : Method := { name := "checkLength", desc := "(II)V", sig := { parameters := [.int, .int], returnType := none }, accessFlags := 10, code := some k19c1 }
def k19c2 : Code := { maxStack := 3, maxLocals := 3, code := jdk_65_method_132_code, exceptionTable := #[], attributes := #[] }
def k19m2 : Method := { name := "copyOfRange", desc := "([BII)[B", sig := { parameters := [(.array .byte), .int, .int], returnType := some (.array .byte) }, accessFlags := 9, code := some k19c2 }
def k19c3 : Code := { maxStack := 6, maxLocals := 5, code := jdk_65_method_133_code, exceptionTable := #[], attributes := #[] }
def k19m3 : Method := { name := "copyOfRangeByte", desc := "([BII)[B", sig := { parameters := [(.array .byte), .int, .int], returnType := some (.array .byte) }, accessFlags := 10, code := some k19c3 }
/-- java/util/Arrays -/
def k19 : Class := { plain "java/util/Arrays" (some 0) with
  accessFlags := 49
  interfaces := #[]
  cf := some (fileOf pool19 14 #[.nestMembers #[975, 375, 113, 74]] #[{ accessFlags := 2, nameIndex := 5, descriptorIndex := 6, attributes := #[] }, { accessFlags := 10, nameIndex := 345, descriptorIndex := 346, attributes := #[] }, { accessFlags := 9, nameIndex := 139, descriptorIndex := 342, attributes := #[] }, { accessFlags := 10, nameIndex := 341, descriptorIndex := 342, attributes := #[] }] 49 2 #[] #[{ accessFlags := 26, nameIndex := 715, descriptorIndex := 716, attributes := #[] }, { accessFlags := 26, nameIndex := 719, descriptorIndex := 716, attributes := #[] }, { accessFlags := 4120, nameIndex := 445, descriptorIndex := 117, attributes := #[] }])
  fields := #[{ name := "MIN_ARRAY_SORT_GRAN", type := .int, accessFlags := 26, slot := 0, constantValue := 0 }, { name := "INSERTIONSORT_THRESHOLD", type := .int, accessFlags := 26, slot := 1, constantValue := 0 }, { name := "$assertionsDisabled", type := .boolean, accessFlags := 4120, slot := 2, constantValue := 0 }]
  methods := #[k19m0, k19m1, k19m2, k19m3]
  instanceTypes := #[]
  staticTypes := #[.int, .int, .boolean]
  resolved := Array.replicate 1029 none
  statics := none }

def pool20 : Array CpInfo := pool [(1, .class_ 2), (0, u "java/lang/Math"), (1, .class_ 6), (1, u "java/lang/Object"), (0, u "<init>"), (0, u "()V"), (89, .class_ 100), (1, u "java/lang/Math$RandomNumberGeneratorHolder"), (71, u "negativeZeroFloatBits"), (0, u "J"), (2, u "negativeZeroDoubleBits"), (24, u "min"), (43, u "$assertionsDisabled"), (0, u "Z"), (88, u "(II)I"), (2, u "twoToTheDoubleScaleDown"), (0, u "D"), (4, u "twoToTheDoubleScaleUp"), (9, u "E"), (3, u "PI"), (2, u "TAU"), (2, u "DEGREES_TO_RADIANS"), (0, u "RADIANS_TO_DEGREES")] 94

def k20m0 : Method := { name := "<init>", desc := "()V", sig := { parameters := [], returnType := none }, accessFlags := 2, code := none }
def k20c1 : Code := { maxStack := 2, maxLocals := 2, code := jdk_29_method_69_code, exceptionTable := #[], attributes := #[] }
def k20m1 : Method := { name := "min", desc := "(II)I", sig := { parameters := [.int, .int], returnType := some .int }, accessFlags := 9, code := some k20c1 }
/-- java/lang/Math -/
def k20 : Class := { plain "java/lang/Math" (some 0) with
  accessFlags := 49
  interfaces := #[]
  cf := some (fileOf pool20 1 #[.nestMembers #[98]] #[{ accessFlags := 2, nameIndex := 7, descriptorIndex := 8, attributes := #[] }, { accessFlags := 9, nameIndex := 201, descriptorIndex := 335, attributes := #[] }] 49 4 #[] #[{ accessFlags := 25, nameIndex := 354, descriptorIndex := 339, attributes := #[] }, { accessFlags := 25, nameIndex := 358, descriptorIndex := 339, attributes := #[] }, { accessFlags := 25, nameIndex := 361, descriptorIndex := 339, attributes := #[] }, { accessFlags := 26, nameIndex := 364, descriptorIndex := 339, attributes := #[] }, { accessFlags := 26, nameIndex := 365, descriptorIndex := 339, attributes := #[] }, { accessFlags := 26, nameIndex := 172, descriptorIndex := 173, attributes := #[] }, { accessFlags := 26, nameIndex := 176, descriptorIndex := 173, attributes := #[] }, { accessFlags := 8, nameIndex := 344, descriptorIndex := 339, attributes := #[] }, { accessFlags := 8, nameIndex := 338, descriptorIndex := 339, attributes := #[] }, { accessFlags := 4120, nameIndex := 245, descriptorIndex := 246, attributes := #[] }])
  fields := #[{ name := "E", type := .double, accessFlags := 25, slot := 0, constantValue := 0 }, { name := "PI", type := .double, accessFlags := 25, slot := 1, constantValue := 0 }, { name := "TAU", type := .double, accessFlags := 25, slot := 2, constantValue := 0 }, { name := "DEGREES_TO_RADIANS", type := .double, accessFlags := 26, slot := 3, constantValue := 0 }, { name := "RADIANS_TO_DEGREES", type := .double, accessFlags := 26, slot := 4, constantValue := 0 }, { name := "negativeZeroFloatBits", type := .long, accessFlags := 26, slot := 5, constantValue := 0 }, { name := "negativeZeroDoubleBits", type := .long, accessFlags := 26, slot := 6, constantValue := 0 }, { name := "twoToTheDoubleScaleUp", type := .double, accessFlags := 8, slot := 7, constantValue := 0 }, { name := "twoToTheDoubleScaleDown", type := .double, accessFlags := 8, slot := 8, constantValue := 0 }, { name := "$assertionsDisabled", type := .boolean, accessFlags := 4120, slot := 9, constantValue := 0 }]
  methods := #[k20m0, k20m1]
  instanceTypes := #[]
  staticTypes := #[.double, .double, .double, .double, .double, .long, .long, .double, .double, .boolean]
  resolved := Array.replicate 460 none
  statics := none }

def pool21 : Array CpInfo := pool [(2, .class_ 4), (1, u "java/lang/Object"), (0, u "<init>"), (0, u "()V"), (1, .class_ 10), (1, u "java/lang/System"), (0, u "allowSecurityManager"), (0, u "I"), (16, u "cons"), (0, u "Ljava/io/Console;"), (77, .class_ 110), (1, u "java/lang/System$CallersHolder"), (43, u "initialErrStream"), (0, u "Ljava/io/PrintStream;"), (19, u "security"), (0, u "Ljava/lang/SecurityManager;"), (31, .class_ 209), (0, u "java/lang/System$1"), (7, u "props"), (0, u "Ljava/util/Properties;"), (2, u "lineSeparator"), (0, u "Ljava/lang/String;"), (96, .class_ 321), (1, u "java/lang/System$LoggerFinder"), (5, .class_ 328), (0, u "java/lang/System$Logger"), (67, u "err"), (2, u "out"), (91, u "notSupportedJnuEncoding"), (15, u "in"), (17, u "initialIn"), (0, u "Ljava/io/InputStream;"), (35, u "bootLayer"), (0, u "Ljava/lang/ModuleLayer;"), (99, .class_ 664), (0, u "java/lang/System$2"), (9, u "NEVER"), (2, u "MAYBE"), (49, u "arraycopy"), (0, u "(Ljava/lang/Object;ILjava/lang/Object;II)V"), (72, .class_ 802), (0, u "java/lang/System$Logger$Level")] 31

def k21m0 : Method := { name := "<init>", desc := "()V", sig := { parameters := [], returnType := none }, accessFlags := 2, code := none }
def k21m1 : Method := { name := "arraycopy", desc := "(Ljava/lang/Object;ILjava/lang/Object;II)V", sig := { parameters := [(.object "java/lang/Object"), .int, (.object "java/lang/Object"), .int, .int], returnType := none }, accessFlags := 265, code := none }
/-- java/lang/System -/
def k21 : Class := { plain "java/lang/System" (some 0) with
  accessFlags := 49
  interfaces := #[]
  cf := some (fileOf pool21 8 #[.nestMembers #[319, 327, 801, 108, 663, 208]] #[{ accessFlags := 2, nameIndex := 5, descriptorIndex := 6, attributes := #[] }, { accessFlags := 265, nameIndex := 727, descriptorIndex := 728, attributes := #[] }] 49 2 #[] #[{ accessFlags := 25, nameIndex := 507, descriptorIndex := 526, attributes := #[] }, { accessFlags := 25, nameIndex := 399, descriptorIndex := 155, attributes := #[] }, { accessFlags := 25, nameIndex := 396, descriptorIndex := 155, attributes := #[] }, { accessFlags := 10, nameIndex := 525, descriptorIndex := 526, attributes := #[] }, { accessFlags := 26, nameIndex := 674, descriptorIndex := 12, attributes := #[] }, { accessFlags := 26, nameIndex := 677, descriptorIndex := 12, attributes := #[] }, { accessFlags := 10, nameIndex := 11, descriptorIndex := 12, attributes := #[] }, { accessFlags := 74, nameIndex := 175, descriptorIndex := 176, attributes := #[] }, { accessFlags := 10, nameIndex := 491, descriptorIndex := 222, attributes := #[] }, { accessFlags := 74, nameIndex := 29, descriptorIndex := 30, attributes := #[] }, { accessFlags := 74, nameIndex := 154, descriptorIndex := 155, attributes := #[] }, { accessFlags := 10, nameIndex := 217, descriptorIndex := 218, attributes := #[] }, { accessFlags := 10, nameIndex := 221, descriptorIndex := 222, attributes := #[] }, { accessFlags := 8, nameIndex := 562, descriptorIndex := 563, attributes := #[] }])
  fields := #[{ name := "in", type := (.object "java/io/InputStream"), accessFlags := 25, slot := 0, constantValue := 0 }, { name := "out", type := (.object "java/io/PrintStream"), accessFlags := 25, slot := 1, constantValue := 0 }, { name := "err", type := (.object "java/io/PrintStream"), accessFlags := 25, slot := 2, constantValue := 0 }, { name := "initialIn", type := (.object "java/io/InputStream"), accessFlags := 10, slot := 3, constantValue := 0 }, { name := "NEVER", type := .int, accessFlags := 26, slot := 4, constantValue := 0 }, { name := "MAYBE", type := .int, accessFlags := 26, slot := 5, constantValue := 0 }, { name := "allowSecurityManager", type := .int, accessFlags := 10, slot := 6, constantValue := 0 }, { name := "security", type := (.object "java/lang/SecurityManager"), accessFlags := 74, slot := 7, constantValue := 0 }, { name := "notSupportedJnuEncoding", type := (.object "java/lang/String"), accessFlags := 10, slot := 8, constantValue := 0 }, { name := "cons", type := (.object "java/io/Console"), accessFlags := 74, slot := 9, constantValue := 0 }, { name := "initialErrStream", type := (.object "java/io/PrintStream"), accessFlags := 74, slot := 10, constantValue := 0 }, { name := "props", type := (.object "java/util/Properties"), accessFlags := 10, slot := 11, constantValue := 0 }, { name := "lineSeparator", type := (.object "java/lang/String"), accessFlags := 10, slot := 12, constantValue := 0 }, { name := "bootLayer", type := (.object "java/lang/ModuleLayer"), accessFlags := 8, slot := 13, constantValue := 0 }]
  methods := #[k21m0, k21m1]
  instanceTypes := #[]
  staticTypes := #[(.object "java/io/InputStream"), (.object "java/io/PrintStream"), (.object "java/io/PrintStream"), (.object "java/io/InputStream"), .int, .int, .int, (.object "java/lang/SecurityManager"), (.object "java/lang/String"), (.object "java/io/Console"), (.object "java/io/PrintStream"), (.object "java/util/Properties"), (.object "java/lang/String"), (.object "java/lang/ModuleLayer")]
  resolved := Array.replicate 834 none
  statics := none }

def pool22 : Array CpInfo := pool [(1, .class_ 2), (0, u "java/lang/Cloneable"), (0, .class_ 4), (0, u "java/lang/Object")] 2

/-- java/lang/Cloneable -/
def k22 : Class := { plain "java/lang/Cloneable" (some 0) with
  accessFlags := 1537
  interfaces := #[]
  cf := some (fileOf pool22 1 #[] #[] 1537 3 #[] #[])
  fields := #[]
  methods := #[]
  instanceTypes := #[]
  staticTypes := #[]
  resolved := Array.replicate 7 none
  statics := none }

def pool23 : Array CpInfo := pool [(4, .class_ 6), (1, u "java/lang/Object"), (0, u "<init>"), (0, u "()V"), (5, .class_ 16), (1, u "java/lang/StringLatin1"), (104, u "$assertionsDisabled"), (0, u "Z"), (98, .class_ 223), (1, u "java/lang/StringLatin1$LinesSpliterator"), (166, .class_ 391), (0, u "java/lang/StringLatin1$CharsSpliterator")] 3

def k23m0 : Method := { name := "<init>", desc := "()V", sig := { parameters := [], returnType := none }, accessFlags := 0, code := none }
/-- java/lang/StringLatin1 -/
def k23 : Class := { plain "java/lang/StringLatin1" (some 0) with
  accessFlags := 48
  interfaces := #[]
  cf := some (fileOf pool23 14 #[.nestMembers #[390, 221]] #[{ accessFlags := 0, nameIndex := 7, descriptorIndex := 8, attributes := #[] }] 48 4 #[] #[{ accessFlags := 4120, nameIndex := 121, descriptorIndex := 122, attributes := #[] }])
  fields := #[{ name := "$assertionsDisabled", type := .boolean, accessFlags := 4120, slot := 0, constantValue := 0 }]
  methods := #[k23m0]
  instanceTypes := #[]
  staticTypes := #[.boolean]
  resolved := Array.replicate 395 none
  statics := none }

def pool24 : Array CpInfo := pool [(9, u "<init>"), (6, .class_ 18), (1, u "java/lang/Object"), (0, u "()V"), (1, .class_ 23), (1, u "jdk/internal/util/ArraysSupport"), (0, u "LOG2_ARRAY_LONG_INDEX_SCALE"), (0, u "I"), (2, u "U"), (0, u "Ljdk/internal/misc/Unsafe;"), (8, u "BIG_ENDIAN"), (0, u "Z"), (8, u "LOG2_BYTE_BIT_SIZE"), (4, u "LOG2_ARRAY_INT_INDEX_SCALE"), (54, u "JLA"), (0, u "Ljdk/internal/access/JavaLangAccess;"), (11, u "LOG2_ARRAY_BOOLEAN_INDEX_SCALE"), (9, u "LOG2_ARRAY_BYTE_INDEX_SCALE"), (5, u "LOG2_ARRAY_CHAR_INDEX_SCALE"), (5, u "LOG2_ARRAY_SHORT_INDEX_SCALE"), (18, u "LOG2_ARRAY_FLOAT_INDEX_SCALE"), (24, u "LOG2_ARRAY_DOUBLE_INDEX_SCALE"), (89, u "T_BOOLEAN"), (2, u "T_CHAR"), (1, u "T_FLOAT"), (1, u "T_DOUBLE"), (1, u "T_BYTE"), (1, u "T_SHORT"), (1, u "T_INT"), (1, u "T_LONG"), (1, u "SOFT_MAX_ARRAY_LENGTH")] 83

def k24m0 : Method := { name := "<init>", desc := "()V", sig := { parameters := [], returnType := none }, accessFlags := 2, code := none }
/-- jdk/internal/util/ArraysSupport -/
def k24 : Class := { plain "jdk/internal/util/ArraysSupport" (some 0) with
  accessFlags := 33
  interfaces := #[]
  cf := some (fileOf pool24 21 #[] #[{ accessFlags := 2, nameIndex := 9, descriptorIndex := 19, attributes := #[] }] 33 16 #[] #[{ accessFlags := 24, nameIndex := 28, descriptorIndex := 29, attributes := #[] }, { accessFlags := 26, nameIndex := 38, descriptorIndex := 39, attributes := #[] }, { accessFlags := 25, nameIndex := 121, descriptorIndex := 25, attributes := #[] }, { accessFlags := 25, nameIndex := 131, descriptorIndex := 25, attributes := #[] }, { accessFlags := 25, nameIndex := 137, descriptorIndex := 25, attributes := #[] }, { accessFlags := 25, nameIndex := 143, descriptorIndex := 25, attributes := #[] }, { accessFlags := 25, nameIndex := 53, descriptorIndex := 25, attributes := #[] }, { accessFlags := 25, nameIndex := 24, descriptorIndex := 25, attributes := #[] }, { accessFlags := 25, nameIndex := 162, descriptorIndex := 25, attributes := #[] }, { accessFlags := 25, nameIndex := 187, descriptorIndex := 25, attributes := #[] }, { accessFlags := 26, nameIndex := 48, descriptorIndex := 25, attributes := #[] }, { accessFlags := 25, nameIndex := 277, descriptorIndex := 25, attributes := #[] }, { accessFlags := 25, nameIndex := 280, descriptorIndex := 25, attributes := #[] }, { accessFlags := 25, nameIndex := 282, descriptorIndex := 25, attributes := #[] }, { accessFlags := 25, nameIndex := 284, descriptorIndex := 25, attributes := #[] }, { accessFlags := 25, nameIndex := 286, descriptorIndex := 25, attributes := #[] }, { accessFlags := 25, nameIndex := 288, descriptorIndex := 25, attributes := #[] }, { accessFlags := 25, nameIndex := 290, descriptorIndex := 25, attributes := #[] }, { accessFlags := 25, nameIndex := 292, descriptorIndex := 25, attributes := #[] }, { accessFlags := 26, nameIndex := 108, descriptorIndex := 109, attributes := #[] }, { accessFlags := 25, nameIndex := 294, descriptorIndex := 25, attributes := #[] }])
  fields := #[{ name := "U", type := (.object "jdk/internal/misc/Unsafe"), accessFlags := 24, slot := 0, constantValue := 0 }, { name := "BIG_ENDIAN", type := .boolean, accessFlags := 26, slot := 1, constantValue := 0 }, { name := "LOG2_ARRAY_BOOLEAN_INDEX_SCALE", type := .int, accessFlags := 25, slot := 2, constantValue := 0 }, { name := "LOG2_ARRAY_BYTE_INDEX_SCALE", type := .int, accessFlags := 25, slot := 3, constantValue := 0 }, { name := "LOG2_ARRAY_CHAR_INDEX_SCALE", type := .int, accessFlags := 25, slot := 4, constantValue := 0 }, { name := "LOG2_ARRAY_SHORT_INDEX_SCALE", type := .int, accessFlags := 25, slot := 5, constantValue := 0 }, { name := "LOG2_ARRAY_INT_INDEX_SCALE", type := .int, accessFlags := 25, slot := 6, constantValue := 0 }, { name := "LOG2_ARRAY_LONG_INDEX_SCALE", type := .int, accessFlags := 25, slot := 7, constantValue := 0 }, { name := "LOG2_ARRAY_FLOAT_INDEX_SCALE", type := .int, accessFlags := 25, slot := 8, constantValue := 0 }, { name := "LOG2_ARRAY_DOUBLE_INDEX_SCALE", type := .int, accessFlags := 25, slot := 9, constantValue := 0 }, { name := "LOG2_BYTE_BIT_SIZE", type := .int, accessFlags := 26, slot := 10, constantValue := 0 }, { name := "T_BOOLEAN", type := .int, accessFlags := 25, slot := 11, constantValue := 0 }, { name := "T_CHAR", type := .int, accessFlags := 25, slot := 12, constantValue := 0 }, { name := "T_FLOAT", type := .int, accessFlags := 25, slot := 13, constantValue := 0 }, { name := "T_DOUBLE", type := .int, accessFlags := 25, slot := 14, constantValue := 0 }, { name := "T_BYTE", type := .int, accessFlags := 25, slot := 15, constantValue := 0 }, { name := "T_SHORT", type := .int, accessFlags := 25, slot := 16, constantValue := 0 }, { name := "T_INT", type := .int, accessFlags := 25, slot := 17, constantValue := 0 }, { name := "T_LONG", type := .int, accessFlags := 25, slot := 18, constantValue := 0 }, { name := "JLA", type := (.object "jdk/internal/access/JavaLangAccess"), accessFlags := 26, slot := 19, constantValue := 0 }, { name := "SOFT_MAX_ARRAY_LENGTH", type := .int, accessFlags := 25, slot := 20, constantValue := 0 }]
  methods := #[k24m0]
  instanceTypes := #[]
  staticTypes := #[(.object "jdk/internal/misc/Unsafe"), .boolean, .int, .int, .int, .int, .int, .int, .int, .int, .int, .int, .int, .int, .int, .int, .int, .int, .int, (.object "jdk/internal/access/JavaLangAccess"), .int]
  resolved := Array.replicate 378 none
  statics := none }

/-- the primitive byte -/
def k25 : Class := { plain "byte" none with kind := .primitive 'B', accessFlags := 0x411 }
/-- [B -/
def k26 : Class := { plain "[B" (some 0) with kind := .array 25 .byte, interfaces := #[22, 3], accessFlags := 1041 }

/-- the primitive int -/
def k27 : Class := { plain "int" none with kind := .primitive 'I', accessFlags := 0x411 }
/-- [I -/
def k28 : Class := { plain "[I" (some 0) with kind := .array 27 .int, interfaces := #[22, 3], accessFlags := 1041 }

def heap : Heap := #[{ cls := 8, slots := #[.long 0, .int 1, .null, .int 0, .null, .int 0, .int 0], vm := .statics 8 },
  { cls := 9, slots := #[.ref 6, .null, .null, .null, .null, .null], vm := .statics 9 },
  { cls := 13, slots := #[.ref 6, .null], vm := .statics 13 },
  { cls := 14, slots := #[.null, .null, .null], vm := .statics 14 },
  { cls := 16, slots := #[.ref 7, .null], vm := .statics 16 },
  { cls := 17, slots := #[.ref 8], vm := .statics 17 },
  { cls := 13, slots := #[.null, .null, .null], vm := .none },
  { cls := 16, slots := #[.null, .null, .null], vm := .none },
  { cls := 17, slots := #[.null, .null, .null], vm := .none }]
def classes : Array Class := #[k0, k1, k2, k3, k4, k5, k6, k7, k8, k9, k10, k11, k12, k13, k14, k15, k16, k17, k18, k19, k20, k21, k22, k23, k24, k25, k26, k27, k28]
def interned : List (Array UInt16 × Addr) := []
def slotsUsed : Nat := 30
def theMethod : MethodId := ⟨1, 1⟩
def args0 : Array Value := #[.int 3, .long 5, .long 7]
def aboutOver (below : List Frame) : State where
  vm := { classes := classes, interned := interned.toArray }
  heap := heap
  slotsUsed := slotsUsed
  threads := #[{ frames := .invoking theMethod args0 :: below }]
def below0 : List Frame := [.native { method := ⟨0, 0⟩, args := #[] }]
def about1 : State := aboutOver below0
def p0 : Program := .bare "" "" ""
def e0 : Env := launch0.env 0 0 0
theorem w_frames : about1.frames = Frame.invoking theMethod args0 :: below0 := rfl
set_option maxRecDepth 65536 in
theorem w_args : argsFit about1.vm theMethod args0 = true := by decide +kernel
set_option maxRecDepth 65536 in
theorem w_heap : heapFits about1 = true := by decide +kernel
set_option maxRecDepth 65536 in
theorem w_runnable : about1.curStatus? = some .runnable := by decide +kernel
set_option maxRecDepth 65536 in
theorem w_alone : about1.alone = true := by decide +kernel
set_option maxRecDepth 65536 in
theorem w_named : about1.methodNamed? x = some theMethod := by decide +kernel
set_option maxRecDepth 65536 in
theorem w_hears : about1.hears theMethod below0 = true := by decide +kernel
set_option maxRecDepth 65536 in
theorem w_ripe : about1.ripe theMethod args0 below0 = true := by decide +kernel
theorem w_running : about1.status = .running := rfl
set_option maxRecDepth 65536 in
theorem w_room : about1.hasRoom e0.platform room_1 = true :=
  launch0.hasRoom_least _ room_1 (by decide +kernel) (by decide +kernel) (by decide +kernel) (by decide +kernel) (by decide +kernel) (by decide +kernel)
theorem allAtoms_all (ts : List Jvm.Cond) (a : Array Jvm.Value) (st : Jvm.State) : (allAtoms ts).before a st = ts.all (fun c => c.before a st) := by
  induction ts with
  | nil => rfl
  | cons c t ih =>
    show (Jvm.Cond.and c (allAtoms t)).before a st = _
    rw [Jvm.Cond.before_and, ih, List.all_cons]
def words1 : List Jvm.Cond := Jvm.Cond.code x code maxLocals ret :: tables_1
/-- a 'code' word, met by the world's own term for the bytes: nothing is compared byte by byte -/
theorem code_word {y : MethodName} {bytes : ByteArray} {mx : Nat} {rt : Option FieldType} {a : Array Value} {s : State} {m : MethodId} {meth : Method} {c : Code} (h1 : s.methodNamed? y = some m) (h2 : s.vm.method? m = some meth) (h3 : meth.code = some c) (h4 : c.code = bytes)
    (h5 : (c.maxLocals == mx && c.exceptionTable.isEmpty && decide (c.maxStack ≤ mostOperands) && decide (meth.sig.returnType = rt) && !meth.locks && decide (parseMethodDescriptor y.desc = some meth.sig)) = true) : (Jvm.Cond.code y bytes mx rt).before a s = true := by
  simp only [Bool.and_eq_true, beq_iff_eq, Bool.not_eq_true', decide_eq_true_eq] at h5
  obtain ⟨⟨⟨⟨⟨g1, g2⟩, g3⟩, g4⟩, g5⟩, g6⟩ := h5
  simp [Cond.before, Cond.holds, Cond.value, h1, h2, h3, h4, g1, g2, g3, g4, g5, g6]
theorem codeWith_word {y : MethodName} {bytes : ByteArray} {mx : Nat} {rt : Option FieldType} {hs : List (Nat × Nat × Nat × Nat)} {a : Array Value} {s : State} {m : MethodId} {meth : Method} {c : Code} (h1 : s.methodNamed? y = some m) (h2 : s.vm.method? m = some meth) (h3 : meth.code = some c) (h4 : c.code = bytes)
    (h5 : (c.maxLocals == mx && decide (c.exceptionTable.toList.map (fun h => (h.startPc, h.endPc, h.handlerPc, h.catchType)) = hs) && decide (c.maxStack ≤ mostOperands) && decide (meth.sig.returnType = rt) && !meth.locks && decide (parseMethodDescriptor y.desc = some meth.sig)) = true) : (Jvm.Cond.codeWith y bytes mx rt hs).before a s = true := by
  simp only [Bool.and_eq_true, beq_iff_eq, Bool.not_eq_true', decide_eq_true_eq] at h5
  obtain ⟨⟨⟨⟨⟨g1, g2⟩, g3⟩, g4⟩, g5⟩, g6⟩ := h5
  simp [Cond.before, Cond.holds, Cond.value, h1, h2, h3, h4, g1, g2, g3, g4, g5, g6]
def isCode : Jvm.Cond → Bool
  | .code _ _ _ _ => true
  | .codeWith _ _ _ _ _ => true
  | _ => false
theorem all_split {L : List Jvm.Cond} {P : Jvm.Cond → Bool} (h1 : L.all (fun c => isCode c || P c) = true) (h2 : ∀ c ∈ L.filter isCode, P c = true) : L.all P = true := by
  refine List.all_eq_true.mpr fun c hc => ?_
  have h := List.all_eq_true.mp h1 c hc
  rcases Bool.eq_false_or_eq_true (isCode c) with hi | hi
  · exact h2 c (List.mem_filter.mpr ⟨hc, hi⟩)
  · simpa [hi] using h
set_option maxRecDepth 65536 in
theorem w_c0 : (Jvm.Cond.code x code maxLocals ret).before args0 about1 = true := code_word (m := ⟨1, 1⟩) (meth := k1m1) (c := k1c1) (by decide +kernel) rfl rfl rfl (by decide +kernel)
set_option maxRecDepth 65536 in
theorem w_c1 : (Jvm.Cond.code ({ cls := "com/example/mark_time/marktime/io/JsonCursorEndPinLaw", name := "at", desc := "(IIJJ)B" } : Jvm.MethodName) method_3_code (6 : Nat) (Option.some Jvm.ClassFile.FieldType.byte)).before args0 about1 = true := code_word (m := ⟨1, 2⟩) (meth := k1m2) (c := k1c2) (by decide +kernel) rfl rfl rfl (by decide +kernel)
set_option maxRecDepth 65536 in
theorem w_c2 : (Jvm.Cond.code ({ cls := "com/example/mark_time/marktime/io/JsonCursorEndPinLaw", name := "space", desc := "(I)B" } : Jvm.MethodName) method_4_code (1 : Nat) (Option.some Jvm.ClassFile.FieldType.byte)).before args0 about1 = true := code_word (m := ⟨1, 3⟩) (meth := k1m3) (c := k1c3) (by decide +kernel) rfl rfl rfl (by decide +kernel)
set_option maxRecDepth 65536 in
theorem w_c3 : (Jvm.Cond.code ({ cls := "com/example/mark_time/marktime/io/JsonCursor", name := "<init>", desc := "([B)V" } : Jvm.MethodName) prog_14_method_1_code (2 : Nat) (Option.none : Option Jvm.ClassFile.FieldType)).before args0 about1 = true := code_word (m := ⟨2, 0⟩) (meth := k2m0) (c := k2c0) (by decide +kernel) rfl rfl rfl (by decide +kernel)
set_option maxRecDepth 65536 in
theorem w_c4 : (Jvm.Cond.code ({ cls := "java/lang/Object", name := "<init>", desc := "()V" } : Jvm.MethodName) object_method_1_code (1 : Nat) (Option.none : Option Jvm.ClassFile.FieldType)).before args0 about1 = true := code_word (m := ⟨0, 0⟩) (meth := k0m0) (c := k0c0) (by decide +kernel) rfl rfl rfl (by decide +kernel)
set_option maxRecDepth 65536 in
theorem w_c5 : (Jvm.Cond.code ({ cls := "com/example/mark_time/marktime/io/JsonCursor", name := "end", desc := "()V" } : Jvm.MethodName) prog_14_method_12_code (1 : Nat) (Option.none : Option Jvm.ClassFile.FieldType)).before args0 about1 = true := code_word (m := ⟨2, 2⟩) (meth := k2m2) (c := k2c2) (by decide +kernel) rfl rfl rfl (by decide +kernel)
set_option maxRecDepth 65536 in
theorem w_c6 : (Jvm.Cond.code ({ cls := "com/example/mark_time/marktime/io/JsonCursor", name := "skipWhitespace", desc := "()V" } : Jvm.MethodName) prog_14_method_26_code (1 : Nat) (Option.none : Option Jvm.ClassFile.FieldType)).before args0 about1 = true := code_word (m := ⟨2, 5⟩) (meth := k2m5) (c := k2c5) (by decide +kernel) rfl rfl rfl (by decide +kernel)
set_option maxRecDepth 65536 in
theorem w_c7 : (Jvm.Cond.code ({ cls := "com/example/mark_time/marktime/io/JsonCursor", name := "isWhitespace", desc := "(B)Z" } : Jvm.MethodName) prog_14_method_28_code (1 : Nat) (Option.some Jvm.ClassFile.FieldType.boolean)).before args0 about1 = true := code_word (m := ⟨2, 7⟩) (meth := k2m7) (c := k2c7) (by decide +kernel) rfl rfl rfl (by decide +kernel)
set_option maxRecDepth 65536 in
theorem w_c8 : (Jvm.Cond.code ({ cls := "com/example/mark_time/marktime/io/JsonCursor", name := "nextNumber", desc := "()Ljava/lang/String;" } : Jvm.MethodName) prog_14_method_9_code (2 : Nat) (Option.some (Jvm.ClassFile.FieldType.object "java/lang/String"))).before args0 about1 = true := code_word (m := ⟨2, 1⟩) (meth := k2m1) (c := k2c1) (by decide +kernel) rfl rfl rfl (by decide +kernel)
set_option maxRecDepth 65536 in
theorem w_c9 : (Jvm.Cond.code ({ cls := "com/example/mark_time/marktime/io/JsonCursor", name := "consume", desc := "(CZ)Z" } : Jvm.MethodName) prog_14_method_25_code (4 : Nat) (Option.some Jvm.ClassFile.FieldType.boolean)).before args0 about1 = true := code_word (m := ⟨2, 4⟩) (meth := k2m4) (c := k2c4) (by decide +kernel) rfl rfl rfl (by decide +kernel)
set_option maxRecDepth 65536 in
theorem w_c10 : (Jvm.Cond.code ({ cls := "com/example/mark_time/marktime/io/JsonCursor", name := "digits", desc := "()V" } : Jvm.MethodName) prog_14_method_22_code (2 : Nat) (Option.none : Option Jvm.ClassFile.FieldType)).before args0 about1 = true := code_word (m := ⟨2, 3⟩) (meth := k2m3) (c := k2c3) (by decide +kernel) rfl rfl rfl (by decide +kernel)
set_option maxRecDepth 65536 in
theorem w_c11 : (Jvm.Cond.code ({ cls := "com/example/mark_time/marktime/io/JsonCursor", name := "isDigit", desc := "(B)Z" } : Jvm.MethodName) prog_14_method_27_code (1 : Nat) (Option.some Jvm.ClassFile.FieldType.boolean)).before args0 about1 = true := code_word (m := ⟨2, 6⟩) (meth := k2m6) (c := k2c6) (by decide +kernel) rfl rfl rfl (by decide +kernel)
set_option maxRecDepth 65536 in
theorem w_c12 : (Jvm.Cond.code ({ cls := "java/lang/String", name := "<init>", desc := "([BIILjava/nio/charset/Charset;)V" } : Jvm.MethodName) jdk_42_method_10_code (5 : Nat) (Option.none : Option Jvm.ClassFile.FieldType)).before args0 about1 = true := code_word (m := ⟨8, 1⟩) (meth := k8m1) (c := k8c1) (by decide +kernel) rfl rfl rfl (by decide +kernel)
set_option maxRecDepth 65536 in
theorem w_c13 : (Jvm.Cond.code ({ cls := "java/util/Objects", name := "requireNonNull", desc := "(Ljava/lang/Object;)Ljava/lang/Object;" } : Jvm.MethodName) jdk_31_method_10_code (1 : Nat) (Option.some (Jvm.ClassFile.FieldType.object "java/lang/Object"))).before args0 about1 = true := code_word (m := ⟨10, 1⟩) (meth := k10m1) (c := k10c1) (by decide +kernel) rfl rfl rfl (by decide +kernel)
set_option maxRecDepth 65536 in
theorem w_c14 : (Jvm.Cond.code ({ cls := "java/lang/String", name := "checkBoundsOffCount", desc := "(III)I" } : Jvm.MethodName) jdk_42_method_157_code (3 : Nat) (Option.some Jvm.ClassFile.FieldType.int)).before args0 about1 = true := code_word (m := ⟨8, 5⟩) (meth := k8m5) (c := k8c5) (by decide +kernel) rfl rfl rfl (by decide +kernel)
set_option maxRecDepth 65536 in
theorem w_c15 : (Jvm.Cond.code ({ cls := "jdk/internal/util/Preconditions", name := "checkFromIndexSize", desc := "(IIILjava/util/function/BiFunction;)I" } : Jvm.MethodName) jdk_41_method_13_code (4 : Nat) (Option.some Jvm.ClassFile.FieldType.int)).before args0 about1 = true := code_word (m := ⟨14, 1⟩) (meth := k14m1) (c := k14c1) (by decide +kernel) rfl rfl rfl (by decide +kernel)
set_option maxRecDepth 65536 in
theorem w_c16 : (Jvm.Cond.code ({ cls := "java/lang/StringCoding", name := "hasNegatives", desc := "([BII)Z" } : Jvm.MethodName) jdk_123_method_2_code (3 : Nat) (Option.some Jvm.ClassFile.FieldType.boolean)).before args0 about1 = true := code_word (m := ⟨18, 1⟩) (meth := k18m1) (c := k18c1) (by decide +kernel) rfl rfl rfl (by decide +kernel)
set_option maxRecDepth 65536 in
theorem w_c17 : (Jvm.Cond.code ({ cls := "java/lang/StringCoding", name := "countPositives", desc := "([BII)I" } : Jvm.MethodName) jdk_123_method_3_code (5 : Nat) (Option.some Jvm.ClassFile.FieldType.int)).before args0 about1 = true := code_word (m := ⟨18, 2⟩) (meth := k18m2) (c := k18c2) (by decide +kernel) rfl rfl rfl (by decide +kernel)
set_option maxRecDepth 65536 in
theorem w_c18 : (Jvm.Cond.code ({ cls := "java/util/Arrays", name := "copyOfRange", desc := "([BII)[B" } : Jvm.MethodName) jdk_65_method_132_code (3 : Nat) (Option.some (Jvm.ClassFile.FieldType.array Jvm.ClassFile.FieldType.byte))).before args0 about1 = true := code_word (m := ⟨19, 2⟩) (meth := k19m2) (c := k19c2) (by decide +kernel) rfl rfl rfl (by decide +kernel)
set_option maxRecDepth 65536 in
theorem w_c19 : (Jvm.Cond.code ({ cls := "java/util/Arrays", name := "copyOfRangeByte", desc := "([BII)[B" } : Jvm.MethodName) jdk_65_method_133_code (5 : Nat) (Option.some (Jvm.ClassFile.FieldType.array Jvm.ClassFile.FieldType.byte))).before args0 about1 = true := code_word (m := ⟨19, 3⟩) (meth := k19m3) (c := k19c3) (by decide +kernel) rfl rfl rfl (by decide +kernel)
set_option maxRecDepth 65536 in
theorem w_c20 : (Jvm.Cond.code ({ cls := "java/util/Arrays", name := "checkLength", desc := "(II)V" } : Jvm.MethodName) jdk_65_method_131_code (2 : Nat) (Option.none : Option Jvm.ClassFile.FieldType)).before args0 about1 = true := code_word (m := ⟨19, 1⟩) (meth := k19m1) (c := k19c1) (by decide +kernel) rfl rfl rfl (by decide +kernel)
set_option maxRecDepth 65536 in
theorem w_c21 : (Jvm.Cond.code ({ cls := "java/lang/Math", name := "min", desc := "(II)I" } : Jvm.MethodName) jdk_29_method_69_code (2 : Nat) (Option.some Jvm.ClassFile.FieldType.int)).before args0 about1 = true := code_word (m := ⟨20, 1⟩) (meth := k20m1) (c := k20c1) (by decide +kernel) rfl rfl rfl (by decide +kernel)
set_option maxRecDepth 65536 in
theorem w_c22 : (Jvm.Cond.code ({ cls := "java/lang/String", name := "length", desc := "()I" } : Jvm.MethodName) jdk_42_method_54_code (1 : Nat) (Option.some Jvm.ClassFile.FieldType.int)).before args0 about1 = true := code_word (m := ⟨8, 3⟩) (meth := k8m3) (c := k8c3) (by decide +kernel) rfl rfl rfl (by decide +kernel)
set_option maxRecDepth 65536 in
theorem w_c23 : (Jvm.Cond.code ({ cls := "java/lang/String", name := "coder", desc := "()B" } : Jvm.MethodName) jdk_42_method_152_code (1 : Nat) (Option.some Jvm.ClassFile.FieldType.byte)).before args0 about1 = true := code_word (m := ⟨8, 4⟩) (meth := k8m4) (c := k8c4) (by decide +kernel) rfl rfl rfl (by decide +kernel)
set_option maxRecDepth 65536 in
theorem w_cW0 : (Jvm.Cond.codeWith ({ cls := "java/lang/String", name := "<init>", desc := "(Ljava/nio/charset/Charset;[BII)V" } : Jvm.MethodName) jdk_42_method_11_code (11 : Nat) (Option.none : Option Jvm.ClassFile.FieldType) [((800 : Nat), (813 : Nat), (816 : Nat), (202 : Nat))]).before args0 about1 = true := codeWith_word (m := ⟨8, 2⟩) (meth := k8m2) (c := k8c2) (by decide +kernel) rfl rfl rfl (by decide +kernel)
def codes1 : List Jvm.Cond := [Jvm.Cond.code x code maxLocals ret, Jvm.Cond.code ({ cls := "com/example/mark_time/marktime/io/JsonCursorEndPinLaw", name := "at", desc := "(IIJJ)B" } : Jvm.MethodName) method_3_code (6 : Nat) (Option.some Jvm.ClassFile.FieldType.byte), Jvm.Cond.code ({ cls := "com/example/mark_time/marktime/io/JsonCursorEndPinLaw", name := "space", desc := "(I)B" } : Jvm.MethodName) method_4_code (1 : Nat) (Option.some Jvm.ClassFile.FieldType.byte), Jvm.Cond.code ({ cls := "com/example/mark_time/marktime/io/JsonCursor", name := "<init>", desc := "([B)V" } : Jvm.MethodName) prog_14_method_1_code (2 : Nat) (Option.none : Option Jvm.ClassFile.FieldType), Jvm.Cond.code ({ cls := "java/lang/Object", name := "<init>", desc := "()V" } : Jvm.MethodName) object_method_1_code (1 : Nat) (Option.none : Option Jvm.ClassFile.FieldType), Jvm.Cond.code ({ cls := "com/example/mark_time/marktime/io/JsonCursor", name := "end", desc := "()V" } : Jvm.MethodName) prog_14_method_12_code (1 : Nat) (Option.none : Option Jvm.ClassFile.FieldType), Jvm.Cond.code ({ cls := "com/example/mark_time/marktime/io/JsonCursor", name := "skipWhitespace", desc := "()V" } : Jvm.MethodName) prog_14_method_26_code (1 : Nat) (Option.none : Option Jvm.ClassFile.FieldType), Jvm.Cond.code ({ cls := "com/example/mark_time/marktime/io/JsonCursor", name := "isWhitespace", desc := "(B)Z" } : Jvm.MethodName) prog_14_method_28_code (1 : Nat) (Option.some Jvm.ClassFile.FieldType.boolean), Jvm.Cond.code ({ cls := "com/example/mark_time/marktime/io/JsonCursor", name := "nextNumber", desc := "()Ljava/lang/String;" } : Jvm.MethodName) prog_14_method_9_code (2 : Nat) (Option.some (Jvm.ClassFile.FieldType.object "java/lang/String")), Jvm.Cond.code ({ cls := "com/example/mark_time/marktime/io/JsonCursor", name := "consume", desc := "(CZ)Z" } : Jvm.MethodName) prog_14_method_25_code (4 : Nat) (Option.some Jvm.ClassFile.FieldType.boolean), Jvm.Cond.code ({ cls := "com/example/mark_time/marktime/io/JsonCursor", name := "digits", desc := "()V" } : Jvm.MethodName) prog_14_method_22_code (2 : Nat) (Option.none : Option Jvm.ClassFile.FieldType), Jvm.Cond.code ({ cls := "com/example/mark_time/marktime/io/JsonCursor", name := "isDigit", desc := "(B)Z" } : Jvm.MethodName) prog_14_method_27_code (1 : Nat) (Option.some Jvm.ClassFile.FieldType.boolean), Jvm.Cond.code ({ cls := "java/lang/String", name := "<init>", desc := "([BIILjava/nio/charset/Charset;)V" } : Jvm.MethodName) jdk_42_method_10_code (5 : Nat) (Option.none : Option Jvm.ClassFile.FieldType), Jvm.Cond.code ({ cls := "java/util/Objects", name := "requireNonNull", desc := "(Ljava/lang/Object;)Ljava/lang/Object;" } : Jvm.MethodName) jdk_31_method_10_code (1 : Nat) (Option.some (Jvm.ClassFile.FieldType.object "java/lang/Object")), Jvm.Cond.code ({ cls := "java/lang/String", name := "checkBoundsOffCount", desc := "(III)I" } : Jvm.MethodName) jdk_42_method_157_code (3 : Nat) (Option.some Jvm.ClassFile.FieldType.int), Jvm.Cond.code ({ cls := "jdk/internal/util/Preconditions", name := "checkFromIndexSize", desc := "(IIILjava/util/function/BiFunction;)I" } : Jvm.MethodName) jdk_41_method_13_code (4 : Nat) (Option.some Jvm.ClassFile.FieldType.int), Jvm.Cond.codeWith ({ cls := "java/lang/String", name := "<init>", desc := "(Ljava/nio/charset/Charset;[BII)V" } : Jvm.MethodName) jdk_42_method_11_code (11 : Nat) (Option.none : Option Jvm.ClassFile.FieldType) [((800 : Nat), (813 : Nat), (816 : Nat), (202 : Nat))], Jvm.Cond.code ({ cls := "java/lang/StringCoding", name := "hasNegatives", desc := "([BII)Z" } : Jvm.MethodName) jdk_123_method_2_code (3 : Nat) (Option.some Jvm.ClassFile.FieldType.boolean), Jvm.Cond.code ({ cls := "java/lang/StringCoding", name := "countPositives", desc := "([BII)I" } : Jvm.MethodName) jdk_123_method_3_code (5 : Nat) (Option.some Jvm.ClassFile.FieldType.int), Jvm.Cond.code ({ cls := "java/util/Arrays", name := "copyOfRange", desc := "([BII)[B" } : Jvm.MethodName) jdk_65_method_132_code (3 : Nat) (Option.some (Jvm.ClassFile.FieldType.array Jvm.ClassFile.FieldType.byte)), Jvm.Cond.code ({ cls := "java/util/Arrays", name := "copyOfRangeByte", desc := "([BII)[B" } : Jvm.MethodName) jdk_65_method_133_code (5 : Nat) (Option.some (Jvm.ClassFile.FieldType.array Jvm.ClassFile.FieldType.byte)), Jvm.Cond.code ({ cls := "java/util/Arrays", name := "checkLength", desc := "(II)V" } : Jvm.MethodName) jdk_65_method_131_code (2 : Nat) (Option.none : Option Jvm.ClassFile.FieldType), Jvm.Cond.code ({ cls := "java/lang/Math", name := "min", desc := "(II)I" } : Jvm.MethodName) jdk_29_method_69_code (2 : Nat) (Option.some Jvm.ClassFile.FieldType.int), Jvm.Cond.code ({ cls := "java/lang/String", name := "length", desc := "()I" } : Jvm.MethodName) jdk_42_method_54_code (1 : Nat) (Option.some Jvm.ClassFile.FieldType.int), Jvm.Cond.code ({ cls := "java/lang/String", name := "coder", desc := "()B" } : Jvm.MethodName) jdk_42_method_152_code (1 : Nat) (Option.some Jvm.ClassFile.FieldType.byte)]
set_option maxRecDepth 65536 in
theorem codes_eq : words1.filter isCode = codes1 := rfl
theorem w_codes : ∀ c ∈ words1.filter isCode, c.before args0 about1 = true := by
  rw [codes_eq]
  intro c hc
  simp only [codes1, List.mem_cons, List.not_mem_nil, or_false] at hc
  rcases hc with rfl | rfl | rfl | rfl | rfl | rfl | rfl | rfl | rfl | rfl | rfl | rfl | rfl | rfl | rfl | rfl | rfl | rfl | rfl | rfl | rfl | rfl | rfl | rfl | rfl
  · exact w_c0
  · exact w_c1
  · exact w_c2
  · exact w_c3
  · exact w_c4
  · exact w_c5
  · exact w_c6
  · exact w_c7
  · exact w_c8
  · exact w_c9
  · exact w_c10
  · exact w_c11
  · exact w_c12
  · exact w_c13
  · exact w_c14
  · exact w_c15
  · exact w_cW0
  · exact w_c16
  · exact w_c17
  · exact w_c18
  · exact w_c19
  · exact w_c20
  · exact w_c21
  · exact w_c22
  · exact w_c23
set_option maxRecDepth 65536 in
theorem w_t1 : (words1.take 24).all (fun c => isCode c || c.before args0 about1) = true := by decide +kernel
set_option maxRecDepth 65536 in
theorem w_t2 : ((words1.drop 24).take 24).all (fun c => isCode c || c.before args0 about1) = true := by decide +kernel
set_option maxRecDepth 65536 in
theorem w_t3 : (((words1.drop 24).drop 24).take 24).all (fun c => isCode c || c.before args0 about1) = true := by decide +kernel
set_option maxRecDepth 65536 in
theorem w_t4 : ((((words1.drop 24).drop 24).drop 24).take 24).all (fun c => isCode c || c.before args0 about1) = true := by decide +kernel
set_option maxRecDepth 65536 in
theorem w_t5 : (((((words1.drop 24).drop 24).drop 24).drop 24).take 24).all (fun c => isCode c || c.before args0 about1) = true := by decide +kernel
set_option maxRecDepth 65536 in
theorem w_t6 : (((((words1.drop 24).drop 24).drop 24).drop 24).drop 24).all (fun c => isCode c || c.before args0 about1) = true := by decide +kernel
theorem w_tables : (allAtoms (Jvm.Cond.code x code maxLocals ret :: tables_1)).before args0 about1 = true := by
  rw [allAtoms_all]
  show words1.all (fun c => c.before args0 about1) = true
  refine all_split ?_ w_codes
  rw [← List.take_append_drop 24 words1, List.all_append, w_t1, ← List.take_append_drop 24 (words1.drop 24), List.all_append, w_t2, ← List.take_append_drop 24 ((words1.drop 24).drop 24), List.all_append, w_t3, ← List.take_append_drop 24 (((words1.drop 24).drop 24).drop 24), List.all_append, w_t4, ← List.take_append_drop 24 ((((words1.drop 24).drop 24).drop 24).drop 24), List.all_append, w_t5, w_t6]
  rfl
set_option maxRecDepth 65536 in
theorem w_rest : rest_1_c.before args0 about1 = true := by decide +kernel
set_option maxRecDepth 65536 in
theorem w_case : (Jvm.Cond.and given_1 narrow_1).before args0 about1 = true := by decide +kernel
theorem w_applies : (headSpec (Jvm.Cond.code x code maxLocals ret :: tables_1) room_1).applies x e0.platform about1 = true :=
  (Spec.applies_iff w_frames).mpr ⟨w_running, w_runnable, w_alone, w_named, w_hears, w_ripe, w_room, w_tables⟩
theorem atStart : AtStart classFile x code maxLocals ret World_1 tables_1 room_1 Calls_1 rest_1 Pre_1 launch0 p0 e0 about1 theMethod args0 below0 :=
  ⟨lists_1, trivial, launch0.admits_env _ _ _, launch0.least_env, fairChoices_fair.cas, fairChoices_fair.clock, w_frames, w_args, w_heap, w_applies, trivial, w_rest, w_case⟩
end start1
theorem witness_1 : WitnessClaimed_1 := ⟨start1.p0, start1.e0, start1.about1, start1.theMethod, start1.args0, start1.below0, start1.atStart⟩
end Jvm.Pilot.@@N@@
