import JvmDerived
import JvmDerived.Pilot.@@N@@Statement
import JvmDerived.Pilot.@@N@@Code
set_option linter.unusedVariables false
set_option linter.unusedSimpArgs false
namespace Jvm.RoadKit
open Sem ClassFile Op Lib Jvm.Stand Jvm.Free Jvm.LawKit
section New
variable {p : Program} {l : Launch} {e : Env} {R : Room} {s : State} {m : MethodId} {args : Array Value} {below : List Frame} {meth : Method} {c : Code} {T : State} {locs : List Loc} {cells slots : Nat}
theorem retI (X : Stand p l e R s m args below meth c T locs cells slots) (hx : p.tables.exec = Jvm.exec) {pc : Nat} {Ls : Array Slot} {z : Int32} {rest : List Value} (hret : meth.sig.returnType = some .int) (hd : decode c.code pc = .ok (.ireturn, 1)) {fs : List Frame}
    (hl : ∀ (f : JFrame) (acts : List Action), f.method = m → f.locked = none → f.entered = [] → (doReturn e (T.setTop f) acts (some (.int z))).1 = T.setFrames fs) : Steps p.tables e below (T.setTop (mkF m pc Ls (.int z :: rest))) (T.setFrames fs) := by
  have hm' : T.vm.method? m = some meth := X.method'
  have hn : narrow .int (.int z) = .int z := rfl
  show Steps p.tables e below (T.setTop { method := m, pc := pc, locals := Ls, stack := _ :: rest, locked := none }) _
  jvm_step X.here [X.here.top, hx, hd, hm', hret, hn]
  first | (intro acts; rw [hl _ acts rfl rfl rfl]) | rw [hl _ _ rfl rfl rfl]
  exact Steps.refl _
theorem own_lremM {g : JFrame} {target : State} (X : Stand p l e R s m args below meth c T locs cells slots) (hx : p.tables.exec = Jvm.exec) (hg : g.method = m) {x y : Int64} {rest : List Value} (hd : decode c.code g.pc = .ok (.lrem, 1)) (hs : g.stack = .long y :: .long x :: rest) (hy : y ≠ 0)
    (hr : Steps p.tables e below (T.setTop { g with pc := g.pc + 1, stack := .long (x % y) :: rest }) target) : Steps p.tables e below (T.setTop g) target := by
  have q : x - x / y * y = x % y := lrem_mod x y
  exact XS.lrem X.here hx hg hd hs hy (by rw [q]; exact hr)
theorem own_selP {Z : State} {a0 : Array Value} {C : String} {n : Nat} {y : MethodName} (hC : y.cls = C) (wi : (Cond.instantiable C n).before a0 Z = true) (wm : (Cond.instanceMethod y).before a0 Z = true) (wp : (Cond.privateMethod y).before a0 Z = true) (hy : y.cls ≠ "java/lang/invoke/MethodHandle" ∧ y.cls ≠ "java/lang/invoke/VarHandle") : (Cond.selects y.cls y y).before a0 Z = true := by
  obtain ⟨c, k, h1, h2, h3, h4, -⟩ := Cond.instantiable_spec wi
  simp only [Bool.or_eq_false_iff] at h4
  subst hC
  exact selects_self_of_private h1 h2 h4.1 (Cond.privateMethod_at wp) wm hy
end New
end Jvm.RoadKit
namespace Jvm.Pilot.@@N@@
open Jvm Jvm.ClassFile Sem Op Lib Jvm.Free Jvm.Stand Jvm.LawKit Jvm.RoadKit Bundle Jvm.Pilot.@@N@@.Jvm.D
def own_fd (a b : Int64) : Int64 := if (a ^^^ b) < (0 : Int64) then (if ((a / b) * b) = a then (a / b) else ((a / b) - (1 : Int64))) else (a / b)

theorem kw0 {Z : State} {a0 : Array Value} (hw : ∀ d ∈ tables_1, d.before a0 Z = true) : (Jvm.Cond.classLink "com/example/okno/okno/AdmissionLogSetCallReadingsPinLaw" (7 : Nat) "com/example/okno/okno/AdmissionLog").before a0 Z = true := hw _ (List.mem_of_getElem? (i := 0) rfl)
theorem kw1 {Z : State} {a0 : Array Value} (hw : ∀ d ∈ tables_1, d.before a0 Z = true) : (Jvm.Cond.instantiable "com/example/okno/okno/AdmissionLog" (18 : Nat)).before a0 Z = true := hw _ (List.mem_of_getElem? (i := 1) rfl)
theorem kw2 {Z : State} {a0 : Array Value} (hw : ∀ d ∈ tables_1, d.before a0 Z = true) : (Jvm.Cond.initialized "com/example/okno/okno/AdmissionLog").before a0 Z = true := hw _ (List.mem_of_getElem? (i := 2) rfl)
theorem kw3 {Z : State} {a0 : Array Value} (hw : ∀ d ∈ tables_1, d.before a0 Z = true) : (Jvm.Cond.methodLink "com/example/okno/okno/AdmissionLogSetCallReadingsPinLaw" (9 : Nat) ({ cls := "com/example/okno/okno/AdmissionLog", name := "<init>", desc := "(JI)V" } : Jvm.MethodName)).before a0 Z = true := hw _ (List.mem_of_getElem? (i := 3) rfl)
theorem kw4 {Z : State} {a0 : Array Value} (hw : ∀ d ∈ tables_1, d.before a0 Z = true) : (Jvm.Cond.instanceMethod ({ cls := "com/example/okno/okno/AdmissionLog", name := "<init>", desc := "(JI)V" } : Jvm.MethodName)).before a0 Z = true := hw _ (List.mem_of_getElem? (i := 4) rfl)
theorem kw5 {Z : State} {a0 : Array Value} (hw : ∀ d ∈ tables_1, d.before a0 Z = true) : (Jvm.Cond.code ({ cls := "com/example/okno/okno/AdmissionLog", name := "<init>", desc := "(JI)V" } : Jvm.MethodName) prog_2_method_1_code (4 : Nat) (Option.none : Option Jvm.ClassFile.FieldType)).before a0 Z = true := hw _ (List.mem_of_getElem? (i := 5) rfl)
theorem kw6 {Z : State} {a0 : Array Value} (hw : ∀ d ∈ tables_1, d.before a0 Z = true) : (Jvm.Cond.methodLink "com/example/okno/okno/AdmissionLog" (1 : Nat) ({ cls := "com/example/okno/okno/KeyTurn", name := "<init>", desc := "()V" } : Jvm.MethodName)).before a0 Z = true := hw _ (List.mem_of_getElem? (i := 6) rfl)
theorem kw7 {Z : State} {a0 : Array Value} (hw : ∀ d ∈ tables_1, d.before a0 Z = true) : (Jvm.Cond.instanceMethod ({ cls := "com/example/okno/okno/KeyTurn", name := "<init>", desc := "()V" } : Jvm.MethodName)).before a0 Z = true := hw _ (List.mem_of_getElem? (i := 7) rfl)
theorem kw9 {Z : State} {a0 : Array Value} (hw : ∀ d ∈ tables_1, d.before a0 Z = true) : (Jvm.Cond.initialized "com/example/okno/okno/KeyTurn").before a0 Z = true := hw _ (List.mem_of_getElem? (i := 9) rfl)
theorem kw10 {Z : State} {a0 : Array Value} (hw : ∀ d ∈ tables_1, d.before a0 Z = true) : (Jvm.Cond.code ({ cls := "com/example/okno/okno/KeyTurn", name := "<init>", desc := "()V" } : Jvm.MethodName) prog_8_method_1_code (1 : Nat) (Option.none : Option Jvm.ClassFile.FieldType)).before a0 Z = true := hw _ (List.mem_of_getElem? (i := 10) rfl)
theorem kw11 {Z : State} {a0 : Array Value} (hw : ∀ d ∈ tables_1, d.before a0 Z = true) : (Jvm.Cond.methodLink "com/example/okno/okno/KeyTurn" (1 : Nat) ({ cls := "java/lang/Object", name := "<init>", desc := "()V" } : Jvm.MethodName)).before a0 Z = true := hw _ (List.mem_of_getElem? (i := 11) rfl)
theorem kw12 {Z : State} {a0 : Array Value} (hw : ∀ d ∈ tables_1, d.before a0 Z = true) : (Jvm.Cond.instanceMethod ({ cls := "java/lang/Object", name := "<init>", desc := "()V" } : Jvm.MethodName)).before a0 Z = true := hw _ (List.mem_of_getElem? (i := 12) rfl)
theorem kw13 {Z : State} {a0 : Array Value} (hw : ∀ d ∈ tables_1, d.before a0 Z = true) : (Jvm.Cond.code ({ cls := "java/lang/Object", name := "<init>", desc := "()V" } : Jvm.MethodName) object_method_1_code (1 : Nat) (Option.none : Option Jvm.ClassFile.FieldType)).before a0 Z = true := hw _ (List.mem_of_getElem? (i := 13) rfl)
theorem kw14 {Z : State} {a0 : Array Value} (hw : ∀ d ∈ tables_1, d.before a0 Z = true) : (Jvm.Cond.constantLong "com/example/okno/okno/AdmissionLog" (9 : Nat) (-9223372036854775808 : Int64)).before a0 Z = true := hw _ (List.mem_of_getElem? (i := 14) rfl)
theorem kw15 {Z : State} {a0 : Array Value} (hw : ∀ d ∈ tables_1, d.before a0 Z = true) : (Jvm.Cond.fieldLink "com/example/okno/okno/AdmissionLog" (11 : Nat) "com/example/okno/okno/AdmissionLog" "newest" "J").before a0 Z = true := hw _ (List.mem_of_getElem? (i := 15) rfl)
theorem kw16 {Z : State} {a0 : Array Value} (hw : ∀ d ∈ tables_1, d.before a0 Z = true) : (Jvm.Cond.lays "com/example/okno/okno/AdmissionLog" "com/example/okno/okno/AdmissionLog" "newest" "J").before a0 Z = true := hw _ (List.mem_of_getElem? (i := 16) rfl)
theorem kw17 {Z : State} {a0 : Array Value} (hw : ∀ d ∈ tables_1, d.before a0 Z = true) : (Jvm.Cond.fieldLink "com/example/okno/okno/AdmissionLog" (17 : Nat) "com/example/okno/okno/AdmissionLog" "NO_ENTRIES" "[J").before a0 Z = true := hw _ (List.mem_of_getElem? (i := 17) rfl)
theorem kw18 {Z : State} {a0 : Array Value} (hw : ∀ d ∈ tables_1, d.before a0 Z = true) : (Jvm.Cond.laysStatic "com/example/okno/okno/AdmissionLog" "NO_ENTRIES" "[J").before a0 Z = true := hw _ (List.mem_of_getElem? (i := 18) rfl)
theorem kw19 {Z : State} {a0 : Array Value} (hw : ∀ d ∈ tables_1, d.before a0 Z = true) : (Jvm.Cond.fieldLink "com/example/okno/okno/AdmissionLog" (21 : Nat) "com/example/okno/okno/AdmissionLog" "subWindows" "[J").before a0 Z = true := hw _ (List.mem_of_getElem? (i := 19) rfl)
theorem kw20 {Z : State} {a0 : Array Value} (hw : ∀ d ∈ tables_1, d.before a0 Z = true) : (Jvm.Cond.lays "com/example/okno/okno/AdmissionLog" "com/example/okno/okno/AdmissionLog" "subWindows" "[J").before a0 Z = true := hw _ (List.mem_of_getElem? (i := 20) rfl)
theorem kw21 {Z : State} {a0 : Array Value} (hw : ∀ d ∈ tables_1, d.before a0 Z = true) : (Jvm.Cond.fieldLink "com/example/okno/okno/AdmissionLog" (24 : Nat) "com/example/okno/okno/AdmissionLog" "amounts" "[J").before a0 Z = true := hw _ (List.mem_of_getElem? (i := 21) rfl)
theorem kw22 {Z : State} {a0 : Array Value} (hw : ∀ d ∈ tables_1, d.before a0 Z = true) : (Jvm.Cond.lays "com/example/okno/okno/AdmissionLog" "com/example/okno/okno/AdmissionLog" "amounts" "[J").before a0 Z = true := hw _ (List.mem_of_getElem? (i := 22) rfl)
theorem kw23 {Z : State} {a0 : Array Value} (hw : ∀ d ∈ tables_1, d.before a0 Z = true) : (Jvm.Cond.constantLong "com/example/okno/okno/AdmissionLog" (27 : Nat) (9223372036854775807 : Int64)).before a0 Z = true := hw _ (List.mem_of_getElem? (i := 23) rfl)
theorem kw24 {Z : State} {a0 : Array Value} (hw : ∀ d ∈ tables_1, d.before a0 Z = true) : (Jvm.Cond.fieldLink "com/example/okno/okno/AdmissionLog" (29 : Nat) "com/example/okno/okno/AdmissionLog" "oldestSubWindow" "J").before a0 Z = true := hw _ (List.mem_of_getElem? (i := 24) rfl)
theorem kw25 {Z : State} {a0 : Array Value} (hw : ∀ d ∈ tables_1, d.before a0 Z = true) : (Jvm.Cond.lays "com/example/okno/okno/AdmissionLog" "com/example/okno/okno/AdmissionLog" "oldestSubWindow" "J").before a0 Z = true := hw _ (List.mem_of_getElem? (i := 25) rfl)
theorem kw26 {Z : State} {a0 : Array Value} (hw : ∀ d ∈ tables_1, d.before a0 Z = true) : (Jvm.Cond.fieldLink "com/example/okno/okno/AdmissionLog" (32 : Nat) "com/example/okno/okno/AdmissionLog" "lastTime" "J").before a0 Z = true := hw _ (List.mem_of_getElem? (i := 26) rfl)
theorem kw27 {Z : State} {a0 : Array Value} (hw : ∀ d ∈ tables_1, d.before a0 Z = true) : (Jvm.Cond.lays "com/example/okno/okno/AdmissionLog" "com/example/okno/okno/AdmissionLog" "lastTime" "J").before a0 Z = true := hw _ (List.mem_of_getElem? (i := 27) rfl)
theorem kw28 {Z : State} {a0 : Array Value} (hw : ∀ d ∈ tables_1, d.before a0 Z = true) : (Jvm.Cond.fieldLink "com/example/okno/okno/AdmissionLog" (35 : Nat) "com/example/okno/okno/AdmissionLog" "subWindowMillis" "J").before a0 Z = true := hw _ (List.mem_of_getElem? (i := 28) rfl)
theorem kw29 {Z : State} {a0 : Array Value} (hw : ∀ d ∈ tables_1, d.before a0 Z = true) : (Jvm.Cond.laysFinal "com/example/okno/okno/AdmissionLog" "com/example/okno/okno/AdmissionLog" "subWindowMillis" "J").before a0 Z = true := hw _ (List.mem_of_getElem? (i := 29) rfl)
theorem kw30 {Z : State} {a0 : Array Value} (hw : ∀ d ∈ tables_1, d.before a0 Z = true) : (Jvm.Cond.methodLink "com/example/okno/okno/AdmissionLog" (38 : Nat) ({ cls := "java/lang/Math", name := "floorDiv", desc := "(JJ)J" } : Jvm.MethodName)).before a0 Z = true := hw _ (List.mem_of_getElem? (i := 30) rfl)
theorem kw31 {Z : State} {a0 : Array Value} (hw : ∀ d ∈ tables_1, d.before a0 Z = true) : (Jvm.Cond.static ({ cls := "java/lang/Math", name := "floorDiv", desc := "(JJ)J" } : Jvm.MethodName)).before a0 Z = true := hw _ (List.mem_of_getElem? (i := 31) rfl)
theorem kw32 {Z : State} {a0 : Array Value} (hw : ∀ d ∈ tables_1, d.before a0 Z = true) : (Jvm.Cond.initialized "java/lang/Math").before a0 Z = true := hw _ (List.mem_of_getElem? (i := 32) rfl)
theorem kw33 {Z : State} {a0 : Array Value} (hw : ∀ d ∈ tables_1, d.before a0 Z = true) : (Jvm.Cond.code ({ cls := "java/lang/Math", name := "floorDiv", desc := "(JJ)J" } : Jvm.MethodName) jdk_29_method_49_code (6 : Nat) (Option.some Jvm.ClassFile.FieldType.long)).before a0 Z = true := hw _ (List.mem_of_getElem? (i := 33) rfl)
theorem kw34 {Z : State} {a0 : Array Value} (hw : ∀ d ∈ tables_1, d.before a0 Z = true) : (Jvm.Cond.fieldLink "com/example/okno/okno/AdmissionLog" (44 : Nat) "com/example/okno/okno/AdmissionLog" "lastSubWindow" "J").before a0 Z = true := hw _ (List.mem_of_getElem? (i := 34) rfl)
theorem kw35 {Z : State} {a0 : Array Value} (hw : ∀ d ∈ tables_1, d.before a0 Z = true) : (Jvm.Cond.lays "com/example/okno/okno/AdmissionLog" "com/example/okno/okno/AdmissionLog" "lastSubWindow" "J").before a0 Z = true := hw _ (List.mem_of_getElem? (i := 35) rfl)
theorem kw36 {Z : State} {a0 : Array Value} (hw : ∀ d ∈ tables_1, d.before a0 Z = true) : (Jvm.Cond.fieldLink "com/example/okno/okno/AdmissionLog" (47 : Nat) "com/example/okno/okno/AdmissionLog" "shorterWindows" "[J").before a0 Z = true := hw _ (List.mem_of_getElem? (i := 36) rfl)
theorem kw37 {Z : State} {a0 : Array Value} (hw : ∀ d ∈ tables_1, d.before a0 Z = true) : (Jvm.Cond.laysFinal "com/example/okno/okno/AdmissionLog" "com/example/okno/okno/AdmissionLog" "shorterWindows" "[J").before a0 Z = true := hw _ (List.mem_of_getElem? (i := 37) rfl)
theorem kw38 {Z : State} {a0 : Array Value} (hw : ∀ d ∈ tables_1, d.before a0 Z = true) : (Jvm.Cond.methodLink "com/example/okno/okno/AdmissionLogSetCallReadingsPinLaw" (12 : Nat) ({ cls := "com/example/okno/okno/AdmissionLog", name := "setCallReadings", desc := "(JJ)V" } : Jvm.MethodName)).before a0 Z = true := hw _ (List.mem_of_getElem? (i := 38) rfl)
theorem kw39 {Z : State} {a0 : Array Value} (hw : ∀ d ∈ tables_1, d.before a0 Z = true) : (Jvm.Cond.declares ({ cls := "com/example/okno/okno/AdmissionLog", name := "setCallReadings", desc := "(JJ)V" } : Jvm.MethodName)).before a0 Z = true := hw _ (List.mem_of_getElem? (i := 39) rfl)
theorem kw40 {Z : State} {a0 : Array Value} (hw : ∀ d ∈ tables_1, d.before a0 Z = true) : (Jvm.Cond.instanceMethod ({ cls := "com/example/okno/okno/AdmissionLog", name := "setCallReadings", desc := "(JJ)V" } : Jvm.MethodName)).before a0 Z = true := hw _ (List.mem_of_getElem? (i := 40) rfl)
theorem kw41 {Z : State} {a0 : Array Value} (hw : ∀ d ∈ tables_1, d.before a0 Z = true) : (Jvm.Cond.selects "com/example/okno/okno/AdmissionLog" ({ cls := "com/example/okno/okno/AdmissionLog", name := "setCallReadings", desc := "(JJ)V" } : Jvm.MethodName) ({ cls := "com/example/okno/okno/AdmissionLog", name := "setCallReadings", desc := "(JJ)V" } : Jvm.MethodName)).before a0 Z = true := hw _ (List.mem_of_getElem? (i := 41) rfl)
theorem kw42 {Z : State} {a0 : Array Value} (hw : ∀ d ∈ tables_1, d.before a0 Z = true) : (Jvm.Cond.code ({ cls := "com/example/okno/okno/AdmissionLog", name := "setCallReadings", desc := "(JJ)V" } : Jvm.MethodName) prog_2_method_8_code (5 : Nat) (Option.none : Option Jvm.ClassFile.FieldType)).before a0 Z = true := hw _ (List.mem_of_getElem? (i := 42) rfl)
theorem kw43 {Z : State} {a0 : Array Value} (hw : ∀ d ∈ tables_1, d.before a0 Z = true) : (Jvm.Cond.fieldLink "com/example/okno/okno/AdmissionLog" (59 : Nat) "com/example/okno/okno/AdmissionLog" "callTime" "J").before a0 Z = true := hw _ (List.mem_of_getElem? (i := 43) rfl)
theorem kw44 {Z : State} {a0 : Array Value} (hw : ∀ d ∈ tables_1, d.before a0 Z = true) : (Jvm.Cond.lays "com/example/okno/okno/AdmissionLog" "com/example/okno/okno/AdmissionLog" "callTime" "J").before a0 Z = true := hw _ (List.mem_of_getElem? (i := 44) rfl)
theorem kw45 {Z : State} {a0 : Array Value} (hw : ∀ d ∈ tables_1, d.before a0 Z = true) : (Jvm.Cond.fieldLink "com/example/okno/okno/AdmissionLog" (62 : Nat) "com/example/okno/okno/AdmissionLog" "callSteady" "J").before a0 Z = true := hw _ (List.mem_of_getElem? (i := 45) rfl)
theorem kw46 {Z : State} {a0 : Array Value} (hw : ∀ d ∈ tables_1, d.before a0 Z = true) : (Jvm.Cond.lays "com/example/okno/okno/AdmissionLog" "com/example/okno/okno/AdmissionLog" "callSteady" "J").before a0 Z = true := hw _ (List.mem_of_getElem? (i := 46) rfl)
theorem kw47 {Z : State} {a0 : Array Value} (hw : ∀ d ∈ tables_1, d.before a0 Z = true) : (Jvm.Cond.methodLink "com/example/okno/okno/AdmissionLogSetCallReadingsPinLaw" (16 : Nat) ({ cls := "com/example/okno/okno/AdmissionLog", name := "callTime", desc := "()J" } : Jvm.MethodName)).before a0 Z = true := hw _ (List.mem_of_getElem? (i := 47) rfl)
theorem kw48 {Z : State} {a0 : Array Value} (hw : ∀ d ∈ tables_1, d.before a0 Z = true) : (Jvm.Cond.declares ({ cls := "com/example/okno/okno/AdmissionLog", name := "callTime", desc := "()J" } : Jvm.MethodName)).before a0 Z = true := hw _ (List.mem_of_getElem? (i := 48) rfl)
theorem kw49 {Z : State} {a0 : Array Value} (hw : ∀ d ∈ tables_1, d.before a0 Z = true) : (Jvm.Cond.instanceMethod ({ cls := "com/example/okno/okno/AdmissionLog", name := "callTime", desc := "()J" } : Jvm.MethodName)).before a0 Z = true := hw _ (List.mem_of_getElem? (i := 49) rfl)
theorem kw50 {Z : State} {a0 : Array Value} (hw : ∀ d ∈ tables_1, d.before a0 Z = true) : (Jvm.Cond.selects "com/example/okno/okno/AdmissionLog" ({ cls := "com/example/okno/okno/AdmissionLog", name := "callTime", desc := "()J" } : Jvm.MethodName) ({ cls := "com/example/okno/okno/AdmissionLog", name := "callTime", desc := "()J" } : Jvm.MethodName)).before a0 Z = true := hw _ (List.mem_of_getElem? (i := 50) rfl)
theorem kw51 {Z : State} {a0 : Array Value} (hw : ∀ d ∈ tables_1, d.before a0 Z = true) : (Jvm.Cond.code ({ cls := "com/example/okno/okno/AdmissionLog", name := "callTime", desc := "()J" } : Jvm.MethodName) prog_2_method_9_code (1 : Nat) (Option.some Jvm.ClassFile.FieldType.long)).before a0 Z = true := hw _ (List.mem_of_getElem? (i := 51) rfl)
theorem kw52 {Z : State} {a0 : Array Value} (hw : ∀ d ∈ tables_1, d.before a0 Z = true) : (Jvm.Cond.methodLink "com/example/okno/okno/AdmissionLogSetCallReadingsPinLaw" (20 : Nat) ({ cls := "com/example/okno/okno/AdmissionLog", name := "callSteady", desc := "()J" } : Jvm.MethodName)).before a0 Z = true := hw _ (List.mem_of_getElem? (i := 52) rfl)
theorem kw53 {Z : State} {a0 : Array Value} (hw : ∀ d ∈ tables_1, d.before a0 Z = true) : (Jvm.Cond.declares ({ cls := "com/example/okno/okno/AdmissionLog", name := "callSteady", desc := "()J" } : Jvm.MethodName)).before a0 Z = true := hw _ (List.mem_of_getElem? (i := 53) rfl)
theorem kw54 {Z : State} {a0 : Array Value} (hw : ∀ d ∈ tables_1, d.before a0 Z = true) : (Jvm.Cond.instanceMethod ({ cls := "com/example/okno/okno/AdmissionLog", name := "callSteady", desc := "()J" } : Jvm.MethodName)).before a0 Z = true := hw _ (List.mem_of_getElem? (i := 54) rfl)
theorem kw55 {Z : State} {a0 : Array Value} (hw : ∀ d ∈ tables_1, d.before a0 Z = true) : (Jvm.Cond.selects "com/example/okno/okno/AdmissionLog" ({ cls := "com/example/okno/okno/AdmissionLog", name := "callSteady", desc := "()J" } : Jvm.MethodName) ({ cls := "com/example/okno/okno/AdmissionLog", name := "callSteady", desc := "()J" } : Jvm.MethodName)).before a0 Z = true := hw _ (List.mem_of_getElem? (i := 55) rfl)
theorem kw56 {Z : State} {a0 : Array Value} (hw : ∀ d ∈ tables_1, d.before a0 Z = true) : (Jvm.Cond.code ({ cls := "com/example/okno/okno/AdmissionLog", name := "callSteady", desc := "()J" } : Jvm.MethodName) prog_2_method_10_code (1 : Nat) (Option.some Jvm.ClassFile.FieldType.long)).before a0 Z = true := hw _ (List.mem_of_getElem? (i := 56) rfl)
theorem kw57 {Z : State} {a0 : Array Value} (hw : ∀ d ∈ tables_1, d.before a0 Z = true) : (Jvm.Cond.methodLink "com/example/okno/okno/AdmissionLogSetCallReadingsPinLaw" (23 : Nat) ({ cls := "com/example/okno/okno/AdmissionLog", name := "total", desc := "()J" } : Jvm.MethodName)).before a0 Z = true := hw _ (List.mem_of_getElem? (i := 57) rfl)
theorem kw58 {Z : State} {a0 : Array Value} (hw : ∀ d ∈ tables_1, d.before a0 Z = true) : (Jvm.Cond.declares ({ cls := "com/example/okno/okno/AdmissionLog", name := "total", desc := "()J" } : Jvm.MethodName)).before a0 Z = true := hw _ (List.mem_of_getElem? (i := 58) rfl)
theorem kw59 {Z : State} {a0 : Array Value} (hw : ∀ d ∈ tables_1, d.before a0 Z = true) : (Jvm.Cond.instanceMethod ({ cls := "com/example/okno/okno/AdmissionLog", name := "total", desc := "()J" } : Jvm.MethodName)).before a0 Z = true := hw _ (List.mem_of_getElem? (i := 59) rfl)
theorem kw60 {Z : State} {a0 : Array Value} (hw : ∀ d ∈ tables_1, d.before a0 Z = true) : (Jvm.Cond.selects "com/example/okno/okno/AdmissionLog" ({ cls := "com/example/okno/okno/AdmissionLog", name := "total", desc := "()J" } : Jvm.MethodName) ({ cls := "com/example/okno/okno/AdmissionLog", name := "total", desc := "()J" } : Jvm.MethodName)).before a0 Z = true := hw _ (List.mem_of_getElem? (i := 60) rfl)
theorem kw61 {Z : State} {a0 : Array Value} (hw : ∀ d ∈ tables_1, d.before a0 Z = true) : (Jvm.Cond.code ({ cls := "com/example/okno/okno/AdmissionLog", name := "total", desc := "()J" } : Jvm.MethodName) prog_2_method_2_code (1 : Nat) (Option.some Jvm.ClassFile.FieldType.long)).before a0 Z = true := hw _ (List.mem_of_getElem? (i := 61) rfl)
theorem kw62 {Z : State} {a0 : Array Value} (hw : ∀ d ∈ tables_1, d.before a0 Z = true) : (Jvm.Cond.fieldLink "com/example/okno/okno/AdmissionLog" (50 : Nat) "com/example/okno/okno/AdmissionLog" "total" "J").before a0 Z = true := hw _ (List.mem_of_getElem? (i := 62) rfl)
theorem kw63 {Z : State} {a0 : Array Value} (hw : ∀ d ∈ tables_1, d.before a0 Z = true) : (Jvm.Cond.lays "com/example/okno/okno/AdmissionLog" "com/example/okno/okno/AdmissionLog" "total" "J").before a0 Z = true := hw _ (List.mem_of_getElem? (i := 63) rfl)
theorem kw64 {Z : State} {a0 : Array Value} (hw : ∀ d ∈ tables_1, d.before a0 Z = true) : (Jvm.Cond.methodLink "com/example/okno/okno/AdmissionLogSetCallReadingsPinLaw" (26 : Nat) ({ cls := "com/example/okno/okno/AdmissionLog", name := "newest", desc := "()J" } : Jvm.MethodName)).before a0 Z = true := hw _ (List.mem_of_getElem? (i := 64) rfl)
theorem kw65 {Z : State} {a0 : Array Value} (hw : ∀ d ∈ tables_1, d.before a0 Z = true) : (Jvm.Cond.declares ({ cls := "com/example/okno/okno/AdmissionLog", name := "newest", desc := "()J" } : Jvm.MethodName)).before a0 Z = true := hw _ (List.mem_of_getElem? (i := 65) rfl)
theorem kw66 {Z : State} {a0 : Array Value} (hw : ∀ d ∈ tables_1, d.before a0 Z = true) : (Jvm.Cond.instanceMethod ({ cls := "com/example/okno/okno/AdmissionLog", name := "newest", desc := "()J" } : Jvm.MethodName)).before a0 Z = true := hw _ (List.mem_of_getElem? (i := 66) rfl)
theorem kw67 {Z : State} {a0 : Array Value} (hw : ∀ d ∈ tables_1, d.before a0 Z = true) : (Jvm.Cond.selects "com/example/okno/okno/AdmissionLog" ({ cls := "com/example/okno/okno/AdmissionLog", name := "newest", desc := "()J" } : Jvm.MethodName) ({ cls := "com/example/okno/okno/AdmissionLog", name := "newest", desc := "()J" } : Jvm.MethodName)).before a0 Z = true := hw _ (List.mem_of_getElem? (i := 67) rfl)
theorem kw68 {Z : State} {a0 : Array Value} (hw : ∀ d ∈ tables_1, d.before a0 Z = true) : (Jvm.Cond.code ({ cls := "com/example/okno/okno/AdmissionLog", name := "newest", desc := "()J" } : Jvm.MethodName) prog_2_method_4_code (1 : Nat) (Option.some Jvm.ClassFile.FieldType.long)).before a0 Z = true := hw _ (List.mem_of_getElem? (i := 68) rfl)
theorem kw69 {Z : State} {a0 : Array Value} (hw : ∀ d ∈ tables_1, d.before a0 Z = true) : (Jvm.Cond.constantLong "com/example/okno/okno/AdmissionLogSetCallReadingsPinLaw" (31 : Nat) (-9223372036854775808 : Int64)).before a0 Z = true := hw _ (List.mem_of_getElem? (i := 69) rfl)
theorem pn_0 : plainName "com/example/okno/okno/KeyTurn" = true := by first | (simp [plainName, overriddenIn]; done) | decide +kernel
theorem pn_1 : plainName "com/example/okno/okno/AdmissionLog" = true := by first | (simp [plainName, overriddenIn]; done) | decide +kernel
theorem pn_2 : plainName "com/example/okno/okno/AdmissionLogSetCallReadingsPinLaw" = true := by first | (simp [plainName, overriddenIn]; done) | decide +kernel
theorem pd_0 : parseMethodDescriptor "()V" = some ⟨[], none⟩ := by decide +kernel
theorem pd_1 : parseMethodDescriptor "(JJ)J" = some ⟨[.long, .long], some .long⟩ := by decide +kernel
theorem pd_2 : parseMethodDescriptor "(JI)V" = some ⟨[.long, .int], none⟩ := by decide +kernel
theorem pd_3 : parseMethodDescriptor "(JJ)V" = some ⟨[.long, .long], none⟩ := by decide +kernel
theorem pd_4 : parseMethodDescriptor "()J" = some ⟨[], some .long⟩ := by decide +kernel
theorem d1_0 : decode prog_2_method_1_code 0 = .ok (.aload_n 0, 1) := by decide +kernel
theorem d1_1 : decode prog_2_method_1_code 1 = .ok (.invokespecial 1, 3) := by decide +kernel
theorem d1_4 : decode prog_2_method_1_code 4 = .ok (.aload_n 0, 1) := by decide +kernel
theorem d1_5 : decode prog_2_method_1_code 5 = .ok (.ldc2_w 9, 3) := by decide +kernel
theorem d1_8 : decode prog_2_method_1_code 8 = .ok (.putfield 11, 3) := by decide +kernel
theorem d1_11 : decode prog_2_method_1_code 11 = .ok (.aload_n 0, 1) := by decide +kernel
theorem d1_12 : decode prog_2_method_1_code 12 = .ok (.getstatic 17, 3) := by decide +kernel
theorem d1_15 : decode prog_2_method_1_code 15 = .ok (.putfield 21, 3) := by decide +kernel
theorem d1_18 : decode prog_2_method_1_code 18 = .ok (.aload_n 0, 1) := by decide +kernel
theorem d1_19 : decode prog_2_method_1_code 19 = .ok (.getstatic 17, 3) := by decide +kernel
theorem d1_22 : decode prog_2_method_1_code 22 = .ok (.putfield 24, 3) := by decide +kernel
theorem d1_25 : decode prog_2_method_1_code 25 = .ok (.aload_n 0, 1) := by decide +kernel
theorem d1_26 : decode prog_2_method_1_code 26 = .ok (.ldc2_w 27, 3) := by decide +kernel
theorem d1_29 : decode prog_2_method_1_code 29 = .ok (.putfield 29, 3) := by decide +kernel
theorem d1_32 : decode prog_2_method_1_code 32 = .ok (.aload_n 0, 1) := by decide +kernel
theorem d1_33 : decode prog_2_method_1_code 33 = .ok (.ldc2_w 9, 3) := by decide +kernel
theorem d1_36 : decode prog_2_method_1_code 36 = .ok (.putfield 32, 3) := by decide +kernel
theorem d1_39 : decode prog_2_method_1_code 39 = .ok (.aload_n 0, 1) := by decide +kernel
theorem d1_40 : decode prog_2_method_1_code 40 = .ok (.lload_n 1, 1) := by decide +kernel
theorem d1_41 : decode prog_2_method_1_code 41 = .ok (.putfield 35, 3) := by decide +kernel
theorem d1_44 : decode prog_2_method_1_code 44 = .ok (.aload_n 0, 1) := by decide +kernel
theorem d1_45 : decode prog_2_method_1_code 45 = .ok (.aload_n 0, 1) := by decide +kernel
theorem d1_46 : decode prog_2_method_1_code 46 = .ok (.getfield 32, 3) := by decide +kernel
theorem d1_49 : decode prog_2_method_1_code 49 = .ok (.lload_n 1, 1) := by decide +kernel
theorem d1_50 : decode prog_2_method_1_code 50 = .ok (.invokestatic 38, 3) := by decide +kernel
theorem d1_53 : decode prog_2_method_1_code 53 = .ok (.putfield 44, 3) := by decide +kernel
theorem d1_56 : decode prog_2_method_1_code 56 = .ok (.aload_n 0, 1) := by decide +kernel
theorem d1_57 : decode prog_2_method_1_code 57 = .ok (.iload_n 3, 1) := by decide +kernel
theorem d1_58 : decode prog_2_method_1_code 58 = .ok (.ifCond .ne 9, 3) := by decide +kernel
theorem d1_61 : decode prog_2_method_1_code 61 = .ok (.getstatic 17, 3) := by decide +kernel
theorem d1_64 : decode prog_2_method_1_code 64 = .ok (.goto 8, 3) := by decide +kernel
theorem d1_72 : decode prog_2_method_1_code 72 = .ok (.putfield 47, 3) := by decide +kernel
theorem d1_75 : decode prog_2_method_1_code 75 = .ok (.return_, 1) := by decide +kernel
theorem d2_0 : decode prog_8_method_1_code 0 = .ok (.aload_n 0, 1) := by decide +kernel
theorem d2_1 : decode prog_8_method_1_code 1 = .ok (.invokespecial 1, 3) := by decide +kernel
theorem d2_4 : decode prog_8_method_1_code 4 = .ok (.return_, 1) := by decide +kernel
theorem d4_0 : decode jdk_29_method_49_code 0 = .ok (.lload_n 0, 1) := by decide +kernel
theorem d4_1 : decode jdk_29_method_49_code 1 = .ok (.lload_n 2, 1) := by decide +kernel
theorem d4_2 : decode jdk_29_method_49_code 2 = .ok (.ldiv, 1) := by decide +kernel
theorem d4_3 : decode jdk_29_method_49_code 3 = .ok (.lstore 4, 2) := by decide +kernel
theorem d4_5 : decode jdk_29_method_49_code 5 = .ok (.lload_n 0, 1) := by decide +kernel
theorem d4_6 : decode jdk_29_method_49_code 6 = .ok (.lload_n 2, 1) := by decide +kernel
theorem d4_7 : decode jdk_29_method_49_code 7 = .ok (.lxor, 1) := by decide +kernel
theorem d4_8 : decode jdk_29_method_49_code 8 = .ok (.lconst 0, 1) := by decide +kernel
theorem d4_9 : decode jdk_29_method_49_code 9 = .ok (.lcmp, 1) := by decide +kernel
theorem d4_10 : decode jdk_29_method_49_code 10 = .ok (.ifCond .ge 17, 3) := by decide +kernel
theorem d4_13 : decode jdk_29_method_49_code 13 = .ok (.lload 4, 2) := by decide +kernel
theorem d4_15 : decode jdk_29_method_49_code 15 = .ok (.lload_n 2, 1) := by decide +kernel
theorem d4_16 : decode jdk_29_method_49_code 16 = .ok (.lmul, 1) := by decide +kernel
theorem d4_17 : decode jdk_29_method_49_code 17 = .ok (.lload_n 0, 1) := by decide +kernel
theorem d4_18 : decode jdk_29_method_49_code 18 = .ok (.lcmp, 1) := by decide +kernel
theorem d4_19 : decode jdk_29_method_49_code 19 = .ok (.ifCond .eq 8, 3) := by decide +kernel
theorem d4_22 : decode jdk_29_method_49_code 22 = .ok (.lload 4, 2) := by decide +kernel
theorem d4_24 : decode jdk_29_method_49_code 24 = .ok (.lconst 1, 1) := by decide +kernel
theorem d4_25 : decode jdk_29_method_49_code 25 = .ok (.lsub, 1) := by decide +kernel
theorem d4_26 : decode jdk_29_method_49_code 26 = .ok (.lreturn, 1) := by decide +kernel
theorem d4_27 : decode jdk_29_method_49_code 27 = .ok (.lload 4, 2) := by decide +kernel
theorem d4_29 : decode jdk_29_method_49_code 29 = .ok (.lreturn, 1) := by decide +kernel
theorem d5_0 : decode prog_2_method_8_code 0 = .ok (.aload_n 0, 1) := by decide +kernel
theorem d5_1 : decode prog_2_method_8_code 1 = .ok (.getfield 59, 3) := by decide +kernel
theorem d5_4 : decode prog_2_method_8_code 4 = .ok (.lload_n 1, 1) := by decide +kernel
theorem d5_5 : decode prog_2_method_8_code 5 = .ok (.lcmp, 1) := by decide +kernel
theorem d5_6 : decode prog_2_method_8_code 6 = .ok (.ifCond .eq 8, 3) := by decide +kernel
theorem d5_9 : decode prog_2_method_8_code 9 = .ok (.aload_n 0, 1) := by decide +kernel
theorem d5_10 : decode prog_2_method_8_code 10 = .ok (.lload_n 1, 1) := by decide +kernel
theorem d5_11 : decode prog_2_method_8_code 11 = .ok (.putfield 59, 3) := by decide +kernel
theorem d5_14 : decode prog_2_method_8_code 14 = .ok (.aload_n 0, 1) := by decide +kernel
theorem d5_15 : decode prog_2_method_8_code 15 = .ok (.getfield 62, 3) := by decide +kernel
theorem d5_18 : decode prog_2_method_8_code 18 = .ok (.lload_n 3, 1) := by decide +kernel
theorem d5_19 : decode prog_2_method_8_code 19 = .ok (.lcmp, 1) := by decide +kernel
theorem d5_20 : decode prog_2_method_8_code 20 = .ok (.ifCond .eq 8, 3) := by decide +kernel
theorem d5_23 : decode prog_2_method_8_code 23 = .ok (.aload_n 0, 1) := by decide +kernel
theorem d5_24 : decode prog_2_method_8_code 24 = .ok (.lload_n 3, 1) := by decide +kernel
theorem d5_25 : decode prog_2_method_8_code 25 = .ok (.putfield 62, 3) := by decide +kernel
theorem d5_28 : decode prog_2_method_8_code 28 = .ok (.return_, 1) := by decide +kernel
theorem d6_0 : decode prog_2_method_9_code 0 = .ok (.aload_n 0, 1) := by decide +kernel
theorem d6_1 : decode prog_2_method_9_code 1 = .ok (.getfield 59, 3) := by decide +kernel
theorem d6_4 : decode prog_2_method_9_code 4 = .ok (.lreturn, 1) := by decide +kernel
theorem d7_0 : decode prog_2_method_10_code 0 = .ok (.aload_n 0, 1) := by decide +kernel
theorem d7_1 : decode prog_2_method_10_code 1 = .ok (.getfield 62, 3) := by decide +kernel
theorem d7_4 : decode prog_2_method_10_code 4 = .ok (.lreturn, 1) := by decide +kernel
theorem d8_0 : decode prog_2_method_2_code 0 = .ok (.aload_n 0, 1) := by decide +kernel
theorem d8_1 : decode prog_2_method_2_code 1 = .ok (.getfield 50, 3) := by decide +kernel
theorem d8_4 : decode prog_2_method_2_code 4 = .ok (.lreturn, 1) := by decide +kernel
theorem d9_0 : decode prog_2_method_4_code 0 = .ok (.aload_n 0, 1) := by decide +kernel
theorem d9_1 : decode prog_2_method_4_code 1 = .ok (.getfield 11, 3) := by decide +kernel
theorem d9_4 : decode prog_2_method_4_code 4 = .ok (.lreturn, 1) := by decide +kernel
theorem ef_rm2 (m : MethodId) (x0 : Addr) : entryFrame m #[(.ref x0)] 1 = mkF m 0 #[.val (.ref x0)] [] := by first | (simp [entryFrame, mkF, argsToLocals, Value.category]; done) | rfl
def Q_rm2 (Z : State) (a1 : Addr) (h0 : Heap) (n0 : Nat) (v : Option Value) (h : Heap) (L : List Loc) : Prop := v = none ∧ Fr n0 L ∧ h = h0
set_option maxRecDepth 65536 in
set_option maxHeartbeats 40000000 in
theorem rm2 (l : Launch) (Z : State) (a0 : Array Value) (hw : ∀ d ∈ tables_1, d.before a0 Z = true) (ws : List Jvm.Cond) (a1 : Addr) (h0 : Heap) (n0 : Nat) (Z0 : n0 ≤ h0.size)  :
    MetFree l (⟨"com/example/okno/okno/KeyTurn", "<init>", "()V"⟩ : MethodName) (head1 (Jvm.Cond.code (⟨"com/example/okno/okno/KeyTurn", "<init>", "()V"⟩ : MethodName) prog_8_method_1_code 1 none :: ws) ({ frames := 1, cells := 0, slots := 0, locals := 12 } : Room)) (fun a U => a = #[(.ref a1)] ∧ Z.Warmed39 U.vm ∧ U.heap = h0) (fun _ _ _ _ _ => True) (fun _ U o U' => ∃ v L, o = .returned v ∧ Q_rm2 Z a1 h0 n0 v U'.heap L ∧ FrameEnd U o U' L ({ frames := 1, cells := 0, slots := 0, locals := 12 } : Room).cells ({ frames := 1, cells := 0, slots := 0, locals := 12 } : Room).slots) := by
  refine MetFree.of_bodySF (plainFor_of_name pn_0) hisR ?_
  intro p e s m args below meth c s₁ Bd hml0 hP hK
  obtain ⟨rfl, hZ, hh⟩ := hP
  have hx := Bd.exec
  have hby := Bd.bytes
  have hml : c.maxLocals = 1 := hml0
  have hown : s.vm.findClass "com/example/okno/okno/KeyTurn" = some m.cls := findClass_of_methodNamed Bd.named
  have hnm := (name_of_methodNamed Bd.named Bd.method).1
  have X0 : Stand p l e ({ frames := 1, cells := 0, slots := 0, locals := 12 } : Room) s m #[(.ref a1)] below meth c s₁ [] 0 0 := Stand.of_body Bd
  have e0 : s₁.heap = h0 := by rw [← hh, Bd.state]; rfl
  have N0 := Fr.nil n0
  have KR : Keep h0 h0 [] := Keep.refl h0 _
  have pre0 : ∀ t, Steps p.tables e below (s₁.setTop (mkF m 0 #[.val (.ref a1)] [])) t → Steps p.tables e below (s₁.setTop (entryFrame m #[(.ref a1)] 1)) t := fun t k => castTop (ef_rm2 m (a1)) k
  obtain ⟨T1, X1, e1, st1⟩ := initO X0 hx hZ hown (kw11 hw) (kw12 hw) (kw13 hw) e0 (g := (mkF m 1 #[.val (.ref a1)] [(.ref a1)])) rfl (by rw [hml]; rfl) rfl (hb hby d2_1) (by decide) (W := 0) (by show 2 * 0 + _ ≤ _; exact Nat.le_of_eq rfl) (by decide)
  obtain ⟨fs, hr, hrun, hended, hW, hsame⟩ := X1.leave (v := none) (fun _ => rfl)
  refine ⟨_, _, pre0 _ ?_, hrun, hended, _, _, rfl, ?_, ⟨_, rfl⟩, hW, hsame.mono (by decide) (by decide)⟩
  · skip
    show Steps p.tables e below (s₁.setTop (mkF m 0 #[.val (.ref a1)] [])) _
    refine XS.aloadN X0.here hx rfl (hb hby d2_0) rfl rfl ?_
    show Steps p.tables e below (s₁.setTop (mkF m 1 #[.val (.ref a1)] [(.ref a1)])) _
    refine st1 _ ?_
    show Steps p.tables e below (T1.setTop (mkF m 4 #[.val (.ref a1)] [])) _
    exact X1.returnOut hx Bd.returns (hb hby d2_4) hr
  · show Q_rm2 Z a1 h0 n0 _ T1.heap _
    rw [e1]
    exact ⟨rfl, N0, rfl⟩
theorem ef_rm4 (m : MethodId) (x0 : Int64) (x1 : Int64) : entryFrame m #[(.long x0), (.long x1)] 6 = mkF m 0 #[.val (.long x0), .second, .val (.long x1), .second, .unset, .unset] [] := by first | (simp [entryFrame, mkF, argsToLocals, Value.category]; done) | rfl
def Q_rm4 (Z : State) (q1 : Int64) (q2 : Int64) (h0 : Heap) (n0 : Nat) (v : Option Value) (h : Heap) (L : List Loc) : Prop := v = some (.long (own_fd q1 q2)) ∧ Fr n0 L ∧ h = h0
set_option maxRecDepth 65536 in
set_option maxHeartbeats 40000000 in
theorem rm4 (l : Launch) (Z : State) (a0 : Array Value) (hw : ∀ d ∈ tables_1, d.before a0 Z = true) (ws : List Jvm.Cond) (q1 : Int64) (q2 : Int64) (h0 : Heap) (n0 : Nat) (Z0 : n0 ≤ h0.size) (hz : q2 ≠ (0 : Int64)) :
    MetFree l (⟨"java/lang/Math", "floorDiv", "(JJ)J"⟩ : MethodName) (head1 (Jvm.Cond.code (⟨"java/lang/Math", "floorDiv", "(JJ)J"⟩ : MethodName) jdk_29_method_49_code 6 (some .long) :: ws) ({ frames := 0, cells := 0, slots := 0, locals := 0 } : Room)) (fun a U => a = #[(.long q1), (.long q2)] ∧ Z.Warmed39 U.vm ∧ U.heap = h0) (fun _ _ _ _ _ => True) (fun _ U o U' => ∃ v L, o = .returned v ∧ Q_rm4 Z q1 q2 h0 n0 v U'.heap L ∧ FrameEnd U o U' L ({ frames := 0, cells := 0, slots := 0, locals := 0 } : Room).cells ({ frames := 0, cells := 0, slots := 0, locals := 0 } : Room).slots) := by
  refine MetFree.of_bodySF (Jvm.Free.JP.mathPlain rfl (by decide +kernel)) hisR ?_
  intro p e s m args below meth c s₁ Bd hml0 hP hK
  obtain ⟨rfl, hZ, hh⟩ := hP
  have hx := Bd.exec
  have hby := Bd.bytes
  have hml : c.maxLocals = 6 := hml0
  have hown : s.vm.findClass "java/lang/Math" = some m.cls := findClass_of_methodNamed Bd.named
  have hnm := (name_of_methodNamed Bd.named Bd.method).1
  have X0 : Stand p l e ({ frames := 0, cells := 0, slots := 0, locals := 0 } : Room) s m #[(.long q1), (.long q2)] below meth c s₁ [] 0 0 := Stand.of_body Bd
  have e0 : s₁.heap = h0 := by rw [← hh, Bd.state]; rfl
  have N0 := Fr.nil n0
  have KR : Keep h0 h0 [] := Keep.refl h0 _
  have pre0 : ∀ t, Steps p.tables e below (s₁.setTop (mkF m 0 #[.val (.long q1), .second, .val (.long q2), .second, .unset, .unset] [])) t → Steps p.tables e below (s₁.setTop (entryFrame m #[(.long q1), (.long q2)] 6)) t := fun t k => castTop (ef_rm4 m (q1) (q2)) k
  have pre1 : ∀ t, Steps p.tables e below (s₁.setTop (mkF m 10 #[.val (.long q1), .second, .val (.long q2), .second, .val (.long (q1 / q2)), .second] [(.int (lcmpW (q1 ^^^ q2) (0 : Int64)))])) t → Steps p.tables e below (s₁.setTop (entryFrame m #[(.long q1), (.long q2)] 6)) t := fun t k => pre0 t (by
    show Steps p.tables e below (s₁.setTop (mkF m 0 #[.val (.long q1), .second, .val (.long q2), .second, .unset, .unset] [])) _
    refine XS.lloadN X0.here hx rfl (hb hby d4_0) rfl ?_
    show Steps p.tables e below (s₁.setTop (mkF m 1 #[.val (.long q1), .second, .val (.long q2), .second, .unset, .unset] [(.long q1)])) _
    refine XS.lloadN X0.here hx rfl (hb hby d4_1) rfl ?_
    show Steps p.tables e below (s₁.setTop (mkF m 2 #[.val (.long q1), .second, .val (.long q2), .second, .unset, .unset] [(.long q2), (.long q1)])) _
    refine XS.ldiv X0.here hx rfl (hb hby d4_2) rfl hz ?_
    show Steps p.tables e below (s₁.setTop (mkF m 3 #[.val (.long q1), .second, .val (.long q2), .second, .unset, .unset] [(.long (q1 / q2))])) _
    refine XS.lstore X0.here hx rfl (hb hby d4_3) rfl (l' := #[.val (.long q1), .second, .val (.long q2), .second, .val (.long (q1 / q2)), .second]) rfl ?_
    show Steps p.tables e below (s₁.setTop (mkF m 5 #[.val (.long q1), .second, .val (.long q2), .second, .val (.long (q1 / q2)), .second] [])) _
    refine XS.lloadN X0.here hx rfl (hb hby d4_5) rfl ?_
    show Steps p.tables e below (s₁.setTop (mkF m 6 #[.val (.long q1), .second, .val (.long q2), .second, .val (.long (q1 / q2)), .second] [(.long q1)])) _
    refine XS.lloadN X0.here hx rfl (hb hby d4_6) rfl ?_
    show Steps p.tables e below (s₁.setTop (mkF m 7 #[.val (.long q1), .second, .val (.long q2), .second, .val (.long (q1 / q2)), .second] [(.long q2), (.long q1)])) _
    refine XS.lxor X0.here hx rfl (hb hby d4_7) rfl ?_
    show Steps p.tables e below (s₁.setTop (mkF m 8 #[.val (.long q1), .second, .val (.long q2), .second, .val (.long (q1 / q2)), .second] [(.long (q1 ^^^ q2))])) _
    refine XS.lconst X0.here hx rfl (hb hby d4_8) ?_
    show Steps p.tables e below (s₁.setTop (mkF m 9 #[.val (.long q1), .second, .val (.long q2), .second, .val (.long (q1 / q2)), .second] [(.long (0 : Int64)), (.long (q1 ^^^ q2))])) _
    refine XS.lcmp X0.here hx rfl (hb hby d4_9) rfl ?_
    show Steps p.tables e below (s₁.setTop (mkF m 10 #[.val (.long q1), .second, .val (.long q2), .second, .val (.long (q1 / q2)), .second] [(.int (lcmpW (q1 ^^^ q2) (0 : Int64)))])) _
    exact k)
  by_cases hc2 : (q1 ^^^ q2) < (0 : Int64)
  · skip
    have pre3 : ∀ t, Steps p.tables e below (s₁.setTop (mkF m 19 #[.val (.long q1), .second, .val (.long q2), .second, .val (.long (q1 / q2)), .second] [(.int (lcmpW ((q1 / q2) * q2) q1))])) t → Steps p.tables e below (s₁.setTop (entryFrame m #[(.long q1), (.long q2)] 6)) t := fun t k => pre1 t (by
      refine XS.ifNo X0.here hx rfl (hb hby d4_10) rfl ((if0 _ _).trans (tlt ((lw_lt _ _).mpr hc2)).2.1) ?_
      show Steps p.tables e below (s₁.setTop (mkF m 13 #[.val (.long q1), .second, .val (.long q2), .second, .val (.long (q1 / q2)), .second] [])) _
      refine XS.lload X0.here hx rfl (hb hby d4_13) rfl ?_
      show Steps p.tables e below (s₁.setTop (mkF m 15 #[.val (.long q1), .second, .val (.long q2), .second, .val (.long (q1 / q2)), .second] [(.long (q1 / q2))])) _
      refine XS.lloadN X0.here hx rfl (hb hby d4_15) rfl ?_
      show Steps p.tables e below (s₁.setTop (mkF m 16 #[.val (.long q1), .second, .val (.long q2), .second, .val (.long (q1 / q2)), .second] [(.long q2), (.long (q1 / q2))])) _
      refine XS.lmul X0.here hx rfl (hb hby d4_16) rfl ?_
      show Steps p.tables e below (s₁.setTop (mkF m 17 #[.val (.long q1), .second, .val (.long q2), .second, .val (.long (q1 / q2)), .second] [(.long ((q1 / q2) * q2))])) _
      refine XS.lloadN X0.here hx rfl (hb hby d4_17) rfl ?_
      show Steps p.tables e below (s₁.setTop (mkF m 18 #[.val (.long q1), .second, .val (.long q2), .second, .val (.long (q1 / q2)), .second] [(.long q1), (.long ((q1 / q2) * q2))])) _
      refine XS.lcmp X0.here hx rfl (hb hby d4_18) rfl ?_
      show Steps p.tables e below (s₁.setTop (mkF m 19 #[.val (.long q1), .second, .val (.long q2), .second, .val (.long (q1 / q2)), .second] [(.int (lcmpW ((q1 / q2) * q2) q1))])) _
      exact k)
    by_cases hc4 : ((q1 / q2) * q2) = q1
    · skip
      obtain ⟨fs, hr, hrun, hended, hW, hsame⟩ := X0.leave (v := some (.long (q1 / q2))) (fun h => by rw [Bd.returns] at h; cases h)
      refine ⟨_, _, pre3 _ ?_, hrun, hended, _, _, rfl, ?_, ⟨_, rfl⟩, hW, hsame.mono (by decide) (by decide)⟩
      · skip
        refine XS.ifYes X0.here hx rfl (pc0 := 19) (pc' := 27) rfl (hb hby d4_19) rfl ((if0 _ _).trans (teq ((lw_eq _ _).mpr hc4)).1) (by decide) (by decide) ?_
        show Steps p.tables e below (s₁.setTop (mkF m 27 #[.val (.long q1), .second, .val (.long q2), .second, .val (.long (q1 / q2)), .second] [])) _
        refine XS.lload X0.here hx rfl (hb hby d4_27) rfl ?_
        show Steps p.tables e below (s₁.setTop (mkF m 29 #[.val (.long q1), .second, .val (.long q2), .second, .val (.long (q1 / q2)), .second] [(.long (q1 / q2))])) _
        jvm_step X0.here [X0.here.top, hx, (hb hby d4_29), X0.method', Bd.returns, narrow]
        first | (intro acts; rw [hr _ acts rfl rfl rfl]) | rw [hr _ _ rfl rfl rfl]
        exact Steps.refl _
      · show Q_rm4 Z q1 q2 h0 n0 _ s₁.heap _
        rw [e0]
        exact ⟨(by unfold own_fd; rw [if_pos hc2, if_pos hc4]), N0, rfl⟩
    · skip
      obtain ⟨fs, hr, hrun, hended, hW, hsame⟩ := X0.leave (v := some (.long ((q1 / q2) - (1 : Int64)))) (fun h => by rw [Bd.returns] at h; cases h)
      refine ⟨_, _, pre3 _ ?_, hrun, hended, _, _, rfl, ?_, ⟨_, rfl⟩, hW, hsame.mono (by decide) (by decide)⟩
      · skip
        refine XS.ifNo X0.here hx rfl (hb hby d4_19) rfl ((if0 _ _).trans (feq (fun q => hc4 ((lw_eq _ _).mp q))).1) ?_
        show Steps p.tables e below (s₁.setTop (mkF m 22 #[.val (.long q1), .second, .val (.long q2), .second, .val (.long (q1 / q2)), .second] [])) _
        refine XS.lload X0.here hx rfl (hb hby d4_22) rfl ?_
        show Steps p.tables e below (s₁.setTop (mkF m 24 #[.val (.long q1), .second, .val (.long q2), .second, .val (.long (q1 / q2)), .second] [(.long (q1 / q2))])) _
        refine XS.lconst X0.here hx rfl (hb hby d4_24) ?_
        show Steps p.tables e below (s₁.setTop (mkF m 25 #[.val (.long q1), .second, .val (.long q2), .second, .val (.long (q1 / q2)), .second] [(.long (1 : Int64)), (.long (q1 / q2))])) _
        refine XS.lsub X0.here hx rfl (hb hby d4_25) rfl ?_
        show Steps p.tables e below (s₁.setTop (mkF m 26 #[.val (.long q1), .second, .val (.long q2), .second, .val (.long (q1 / q2)), .second] [(.long ((q1 / q2) - (1 : Int64)))])) _
        jvm_step X0.here [X0.here.top, hx, (hb hby d4_26), X0.method', Bd.returns, narrow]
        first | (intro acts; rw [hr _ acts rfl rfl rfl]) | rw [hr _ _ rfl rfl rfl]
        exact Steps.refl _
      · show Q_rm4 Z q1 q2 h0 n0 _ s₁.heap _
        rw [e0]
        exact ⟨(by unfold own_fd; rw [if_pos hc2, if_neg hc4]), N0, rfl⟩
  · skip
    obtain ⟨fs, hr, hrun, hended, hW, hsame⟩ := X0.leave (v := some (.long (q1 / q2))) (fun h => by rw [Bd.returns] at h; cases h)
    refine ⟨_, _, pre1 _ ?_, hrun, hended, _, _, rfl, ?_, ⟨_, rfl⟩, hW, hsame.mono (by decide) (by decide)⟩
    · skip
      refine XS.ifYes X0.here hx rfl (pc0 := 10) (pc' := 27) rfl (hb hby d4_10) rfl ((if0 _ _).trans (flt (fun q => hc2 ((lw_lt _ _).mp q))).2.1) (by decide) (by decide) ?_
      show Steps p.tables e below (s₁.setTop (mkF m 27 #[.val (.long q1), .second, .val (.long q2), .second, .val (.long (q1 / q2)), .second] [])) _
      refine XS.lload X0.here hx rfl (hb hby d4_27) rfl ?_
      show Steps p.tables e below (s₁.setTop (mkF m 29 #[.val (.long q1), .second, .val (.long q2), .second, .val (.long (q1 / q2)), .second] [(.long (q1 / q2))])) _
      jvm_step X0.here [X0.here.top, hx, (hb hby d4_29), X0.method', Bd.returns, narrow]
      first | (intro acts; rw [hr _ acts rfl rfl rfl]) | rw [hr _ _ rfl rfl rfl]
      exact Steps.refl _
    · show Q_rm4 Z q1 q2 h0 n0 _ s₁.heap _
      rw [e0]
      exact ⟨(by unfold own_fd; rw [if_neg hc2]), N0, rfl⟩
theorem ef_rm1 (m : MethodId) (x0 : Addr) (x1 : Int64) (x2 : Int32) : entryFrame m #[(.ref x0), (.long x1), (.int x2)] 4 = mkF m 0 #[.val (.ref x0), .val (.long x1), .second, .val (.int x2)] [] := by first | (simp [entryFrame, mkF, argsToLocals, Value.category]; done) | rfl
def Q_rm1 (Z : State) (a1 : Addr) (q1 : Int64) (w_NO_ENTRIES : Addr) (h0 : Heap) (n0 : Nat) (v : Option Value) (h : Heap) (L : List Loc) : Prop := v = none ∧ Fr n0 L ∧ Keep h0 h [a1] ∧ Fld Z h a1 "com/example/okno/okno/AdmissionLog" "newest" "J" (.long (-9223372036854775808 : Int64)) ∧ Fld Z h a1 "com/example/okno/okno/AdmissionLog" "subWindows" "[J" (.ref w_NO_ENTRIES) ∧ Fld Z h a1 "com/example/okno/okno/AdmissionLog" "amounts" "[J" (.ref w_NO_ENTRIES) ∧ Fld Z h a1 "com/example/okno/okno/AdmissionLog" "oldestSubWindow" "J" (.long (9223372036854775807 : Int64)) ∧ Fld Z h a1 "com/example/okno/okno/AdmissionLog" "lastTime" "J" (.long (-9223372036854775808 : Int64)) ∧ Fld Z h a1 "com/example/okno/okno/AdmissionLog" "subWindowMillis" "J" (.long q1) ∧ Fld Z h a1 "com/example/okno/okno/AdmissionLog" "lastSubWindow" "J" (.long (own_fd (-9223372036854775808 : Int64) q1)) ∧ Fld Z h a1 "com/example/okno/okno/AdmissionLog" "shorterWindows" "[J" (.ref w_NO_ENTRIES) ∧ Fld Z h a1 "com/example/okno/okno/AdmissionLog" "callTime" "J" (.long (0 : Int64)) ∧ Fld Z h a1 "com/example/okno/okno/AdmissionLog" "callSteady" "J" (.long (0 : Int64)) ∧ Fld Z h a1 "com/example/okno/okno/AdmissionLog" "total" "J" (.long (0 : Int64))
set_option maxRecDepth 65536 in
set_option maxHeartbeats 40000000 in
theorem rm1 (l : Launch) (Z : State) (a0 : Array Value) (hw : ∀ d ∈ tables_1, d.before a0 Z = true) (ws : List Jvm.Cond) (a1 : Addr) (q1 : Int64) (w_NO_ENTRIES : Addr) (h0 : Heap) (n0 : Nat) (Z0 : n0 ≤ h0.size) (P0 : Exa Z h0 a1 "com/example/okno/okno/AdmissionLog") (P1 : n0 ≤ a1) (P2 : Old Z n0 h0) (P3 : Sta Z Z.heap "com/example/okno/okno/AdmissionLog" "NO_ENTRIES" "[J" (.ref w_NO_ENTRIES)) (hq : q1 ≠ (0 : Int64)) (P5 : Fld Z h0 a1 "com/example/okno/okno/AdmissionLog" "newest" "J" (.long (0 : Int64))) (P6 : Fld Z h0 a1 "com/example/okno/okno/AdmissionLog" "subWindows" "[J" .null) (P7 : Fld Z h0 a1 "com/example/okno/okno/AdmissionLog" "amounts" "[J" .null) (P8 : Fld Z h0 a1 "com/example/okno/okno/AdmissionLog" "oldestSubWindow" "J" (.long (0 : Int64))) (P9 : Fld Z h0 a1 "com/example/okno/okno/AdmissionLog" "lastTime" "J" (.long (0 : Int64))) (P10 : Fld Z h0 a1 "com/example/okno/okno/AdmissionLog" "subWindowMillis" "J" (.long (0 : Int64))) (P11 : Fld Z h0 a1 "com/example/okno/okno/AdmissionLog" "lastSubWindow" "J" (.long (0 : Int64))) (P12 : Fld Z h0 a1 "com/example/okno/okno/AdmissionLog" "shorterWindows" "[J" .null) (P13 : Fld Z h0 a1 "com/example/okno/okno/AdmissionLog" "callTime" "J" (.long (0 : Int64))) (P14 : Fld Z h0 a1 "com/example/okno/okno/AdmissionLog" "callSteady" "J" (.long (0 : Int64))) (P15 : Fld Z h0 a1 "com/example/okno/okno/AdmissionLog" "total" "J" (.long (0 : Int64))) :
    MetFree l (⟨"com/example/okno/okno/AdmissionLog", "<init>", "(JI)V"⟩ : MethodName) (head1 (Jvm.Cond.code (⟨"com/example/okno/okno/AdmissionLog", "<init>", "(JI)V"⟩ : MethodName) prog_2_method_1_code 4 none :: ws) ({ frames := 2, cells := 0, slots := 0, locals := 24 } : Room)) (fun a U => a = #[(.ref a1), (.long q1), (.int (0 : Int32))] ∧ Z.Warmed39 U.vm ∧ U.heap = h0) (fun _ _ _ _ _ => True) (fun _ U o U' => ∃ v L, o = .returned v ∧ Q_rm1 Z a1 q1 w_NO_ENTRIES h0 n0 v U'.heap L ∧ FrameEnd U o U' L ({ frames := 2, cells := 0, slots := 0, locals := 24 } : Room).cells ({ frames := 2, cells := 0, slots := 0, locals := 24 } : Room).slots) := by
  refine MetFree.of_bodySF (plainFor_of_name pn_1) hisR ?_
  intro p e s m args below meth c s₁ Bd hml0 hP hK
  obtain ⟨rfl, hZ, hh⟩ := hP
  have hx := Bd.exec
  have hby := Bd.bytes
  have hml : c.maxLocals = 4 := hml0
  have hown : s.vm.findClass "com/example/okno/okno/AdmissionLog" = some m.cls := findClass_of_methodNamed Bd.named
  have hnm := (name_of_methodNamed Bd.named Bd.method).1
  have X0 : Stand p l e ({ frames := 2, cells := 0, slots := 0, locals := 24 } : Room) s m #[(.ref a1), (.long q1), (.int (0 : Int32))] below meth c s₁ [] 0 0 := Stand.of_body Bd
  have e0 : s₁.heap = h0 := by rw [← hh, Bd.state]; rfl
  have N0 := Fr.nil n0
  have KR : Keep h0 h0 [a1] := Keep.refl h0 _
  have pre0 : ∀ t, Steps p.tables e below (s₁.setTop (mkF m 0 #[.val (.ref a1), .val (.long q1), .second, .val (.int (0 : Int32))] [])) t → Steps p.tables e below (s₁.setTop (entryFrame m #[(.ref a1), (.long q1), (.int (0 : Int32))] 4)) t := fun t k => castTop (ef_rm1 m (a1) (q1) ((0 : Int32))) k
  obtain ⟨_, _, ⟨T1, L1, k1, n1⟩, -, X1, ⟨Lc1, hQ1, l1, y1, z1⟩, st1⟩ := X0.specialBack hx (y := (⟨"com/example/okno/okno/KeyTurn", "<init>", "()V"⟩ : MethodName)) rfl hown (mvT hZ (kw6 hw)) (mvT hZ (kw7 hw)) (mvT hZ (kw10 hw)) (by decide) (backOf (W := 0) (rm2 l Z a0 hw [] a1 h0 n0 Z0 ) hZ (kw10 hw) (kw9 hw) (by decide) (by decide)) (g := (mkF m 1 #[.val (.ref a1), .val (.long q1), .second, .val (.int (0 : Int32))] [(.ref a1)])) rfl (by rw [hml]; rfl) (Steps.refl _) (a := a1) (argsL := []) (rest := []) (lenOf pd_0 rfl) rfl (by show 2 * 0 + _ ≤ _; exact Nat.le_of_eq rfl) (hb hby d1_1) (fun _ _ => ⟨rfl, e0, (by decide : 0 + 0 ≤ _), (by decide : 0 + 0 ≤ _)⟩)
  dsimp only [Pt.U, Pt.locs, Pt.cells, Pt.slots] at X1 l1 y1 z1 st1 hQ1
  subst l1 y1 z1
  obtain ⟨rfl, N1q, e1⟩ := hQ1
  have N1 := Fr.app N0 N1q
  obtain ⟨T2, h2, X2, e2, W2, st2⟩ := putF X1 hx hZ hown (host := "") (Or.inl (kw15 hw)) Via.refl e1 P5 P0 (Or.inl (kw16 hw)) (kw1 hw) (ty := .long) (by decide) rfl rfl (g := (mkF m 8 #[.val (.ref a1), .val (.long q1), .second, .val (.int (0 : Int32))] [(.long (-9223372036854775808 : Int64)), (.ref a1)])) rfl rfl (hb hby d1_8)
  have Z2 : n0 ≤ h2.size := Nat.le_trans Z0 (Keep.of_wr W2).1
  have K2 : Keep h0 h2 [a1] := KR.wr W2 (Or.inl (List.mem_of_getElem? (i := 0) rfl))
  have N2 := Fr.snoc X2 N1 P1
  have Fw2 : Fld Z h2 a1 "com/example/okno/okno/AdmissionLog" "newest" "J" (.long (-9223372036854775808 : Int64)) := P5.same W2
  have f4 : Old Z n0 h2 := (P2.wr W2 P1)
  obtain ⟨T3, X3, e3, st3⟩ := getS2 X2 hx hZ hown (host := "") (Or.inl (kw17 hw)) Via.refl e2 (Sta.ext f4.2 P3) (g := (mkF m 12 #[.val (.ref a1), .val (.long q1), .second, .val (.int (0 : Int32))] [(.ref a1)])) rfl (hb hby d1_12)
  have f5 : Exa Z h2 a1 "com/example/okno/okno/AdmissionLog" := (P0.wr W2)
  have f6 : Fld Z h2 a1 "com/example/okno/okno/AdmissionLog" "subWindows" "[J" .null := (P6.other W2 (Or.inr (slot_ne (Or.inl (kw20 hw)) (Or.inl (kw16 hw)) (by decide) (t := (.array .long)) (t' := .long) (by decide) (by decide))))
  obtain ⟨T7, h7, X7, e7, W7, st7⟩ := putF X3 hx hZ hown (host := "") (Or.inl (kw19 hw)) Via.refl e3 f6 f5 (Or.inl (kw20 hw)) (kw1 hw) (ty := (.array .long)) (by decide) rfl rfl (g := (mkF m 15 #[.val (.ref a1), .val (.long q1), .second, .val (.int (0 : Int32))] [(.ref w_NO_ENTRIES), (.ref a1)])) rfl rfl (hb hby d1_15)
  have Z7 : n0 ≤ h7.size := Nat.le_trans Z2 (Keep.of_wr W7).1
  have K7 : Keep h0 h7 [a1] := K2.wr W7 (Or.inl (List.mem_of_getElem? (i := 0) rfl))
  have N7 := Fr.snoc X7 N2 P1
  have Fw7 : Fld Z h7 a1 "com/example/okno/okno/AdmissionLog" "subWindows" "[J" (.ref w_NO_ENTRIES) := f6.same W7
  have f9 : Old Z n0 h7 := (f4.wr W7 P1)
  obtain ⟨T8, X8, e8, st8⟩ := getS2 X7 hx hZ hown (host := "") (Or.inl (kw17 hw)) Via.refl e7 (Sta.ext f9.2 P3) (g := (mkF m 19 #[.val (.ref a1), .val (.long q1), .second, .val (.int (0 : Int32))] [(.ref a1)])) rfl (hb hby d1_19)
  have f10 : Exa Z h7 a1 "com/example/okno/okno/AdmissionLog" := (f5.wr W7)
  have f11 : Fld Z h7 a1 "com/example/okno/okno/AdmissionLog" "amounts" "[J" .null := ((P7.other W2 (Or.inr (slot_ne (Or.inl (kw22 hw)) (Or.inl (kw16 hw)) (by decide) (t := (.array .long)) (t' := .long) (by decide) (by decide)))).other W7 (Or.inr (slot_ne (Or.inl (kw22 hw)) (Or.inl (kw20 hw)) (by decide) (t := (.array .long)) (t' := (.array .long)) (by decide) (by decide))))
  obtain ⟨T12, h12, X12, e12, W12, st12⟩ := putF X8 hx hZ hown (host := "") (Or.inl (kw21 hw)) Via.refl e8 f11 f10 (Or.inl (kw22 hw)) (kw1 hw) (ty := (.array .long)) (by decide) rfl rfl (g := (mkF m 22 #[.val (.ref a1), .val (.long q1), .second, .val (.int (0 : Int32))] [(.ref w_NO_ENTRIES), (.ref a1)])) rfl rfl (hb hby d1_22)
  have Z12 : n0 ≤ h12.size := Nat.le_trans Z7 (Keep.of_wr W12).1
  have K12 : Keep h0 h12 [a1] := K7.wr W12 (Or.inl (List.mem_of_getElem? (i := 0) rfl))
  have N12 := Fr.snoc X12 N7 P1
  have Fw12 : Fld Z h12 a1 "com/example/okno/okno/AdmissionLog" "amounts" "[J" (.ref w_NO_ENTRIES) := f11.same W12
  have f13 : Exa Z h12 a1 "com/example/okno/okno/AdmissionLog" := (f10.wr W12)
  have f14 : Fld Z h12 a1 "com/example/okno/okno/AdmissionLog" "oldestSubWindow" "J" (.long (0 : Int64)) := (((P8.other W2 (Or.inr (slot_ne (Or.inl (kw25 hw)) (Or.inl (kw16 hw)) (by decide) (t := .long) (t' := .long) (by decide) (by decide)))).other W7 (Or.inr (slot_ne (Or.inl (kw25 hw)) (Or.inl (kw20 hw)) (by decide) (t := .long) (t' := (.array .long)) (by decide) (by decide)))).other W12 (Or.inr (slot_ne (Or.inl (kw25 hw)) (Or.inl (kw22 hw)) (by decide) (t := .long) (t' := (.array .long)) (by decide) (by decide))))
  obtain ⟨T15, h15, X15, e15, W15, st15⟩ := putF X12 hx hZ hown (host := "") (Or.inl (kw24 hw)) Via.refl e12 f14 f13 (Or.inl (kw25 hw)) (kw1 hw) (ty := .long) (by decide) rfl rfl (g := (mkF m 29 #[.val (.ref a1), .val (.long q1), .second, .val (.int (0 : Int32))] [(.long (9223372036854775807 : Int64)), (.ref a1)])) rfl rfl (hb hby d1_29)
  have Z15 : n0 ≤ h15.size := Nat.le_trans Z12 (Keep.of_wr W15).1
  have K15 : Keep h0 h15 [a1] := K12.wr W15 (Or.inl (List.mem_of_getElem? (i := 0) rfl))
  have N15 := Fr.snoc X15 N12 P1
  have Fw15 : Fld Z h15 a1 "com/example/okno/okno/AdmissionLog" "oldestSubWindow" "J" (.long (9223372036854775807 : Int64)) := f14.same W15
  have f16 : Exa Z h15 a1 "com/example/okno/okno/AdmissionLog" := (f13.wr W15)
  have f17 : Fld Z h15 a1 "com/example/okno/okno/AdmissionLog" "lastTime" "J" (.long (0 : Int64)) := ((((P9.other W2 (Or.inr (slot_ne (Or.inl (kw27 hw)) (Or.inl (kw16 hw)) (by decide) (t := .long) (t' := .long) (by decide) (by decide)))).other W7 (Or.inr (slot_ne (Or.inl (kw27 hw)) (Or.inl (kw20 hw)) (by decide) (t := .long) (t' := (.array .long)) (by decide) (by decide)))).other W12 (Or.inr (slot_ne (Or.inl (kw27 hw)) (Or.inl (kw22 hw)) (by decide) (t := .long) (t' := (.array .long)) (by decide) (by decide)))).other W15 (Or.inr (slot_ne (Or.inl (kw27 hw)) (Or.inl (kw25 hw)) (by decide) (t := .long) (t' := .long) (by decide) (by decide))))
  obtain ⟨T18, h18, X18, e18, W18, st18⟩ := putF X15 hx hZ hown (host := "") (Or.inl (kw26 hw)) Via.refl e15 f17 f16 (Or.inl (kw27 hw)) (kw1 hw) (ty := .long) (by decide) rfl rfl (g := (mkF m 36 #[.val (.ref a1), .val (.long q1), .second, .val (.int (0 : Int32))] [(.long (-9223372036854775808 : Int64)), (.ref a1)])) rfl rfl (hb hby d1_36)
  have Z18 : n0 ≤ h18.size := Nat.le_trans Z15 (Keep.of_wr W18).1
  have K18 : Keep h0 h18 [a1] := K15.wr W18 (Or.inl (List.mem_of_getElem? (i := 0) rfl))
  have N18 := Fr.snoc X18 N15 P1
  have Fw18 : Fld Z h18 a1 "com/example/okno/okno/AdmissionLog" "lastTime" "J" (.long (-9223372036854775808 : Int64)) := f17.same W18
  have f19 : Exa Z h18 a1 "com/example/okno/okno/AdmissionLog" := (f16.wr W18)
  have f20 : Fld Z h18 a1 "com/example/okno/okno/AdmissionLog" "subWindowMillis" "J" (.long (0 : Int64)) := (((((P10.other W2 (Or.inr (slot_ne (Or.inr (kw29 hw)) (Or.inl (kw16 hw)) (by decide) (t := .long) (t' := .long) (by decide) (by decide)))).other W7 (Or.inr (slot_ne (Or.inr (kw29 hw)) (Or.inl (kw20 hw)) (by decide) (t := .long) (t' := (.array .long)) (by decide) (by decide)))).other W12 (Or.inr (slot_ne (Or.inr (kw29 hw)) (Or.inl (kw22 hw)) (by decide) (t := .long) (t' := (.array .long)) (by decide) (by decide)))).other W15 (Or.inr (slot_ne (Or.inr (kw29 hw)) (Or.inl (kw25 hw)) (by decide) (t := .long) (t' := .long) (by decide) (by decide)))).other W18 (Or.inr (slot_ne (Or.inr (kw29 hw)) (Or.inl (kw27 hw)) (by decide) (t := .long) (t' := .long) (by decide) (by decide))))
  obtain ⟨T21, h21, X21, e21, W21, st21⟩ := putF X18 hx hZ hown (host := "") (Or.inl (kw28 hw)) Via.refl e18 f20 f19 (Or.inr ⟨(kw29 hw), rfl, hnm⟩) (kw1 hw) (ty := .long) (by decide) rfl rfl (g := (mkF m 41 #[.val (.ref a1), .val (.long q1), .second, .val (.int (0 : Int32))] [(.long q1), (.ref a1)])) rfl rfl (hb hby d1_41)
  have Z21 : n0 ≤ h21.size := Nat.le_trans Z18 (Keep.of_wr W21).1
  have K21 : Keep h0 h21 [a1] := K18.wr W21 (Or.inl (List.mem_of_getElem? (i := 0) rfl))
  have N21 := Fr.snoc X21 N18 P1
  have Fw21 : Fld Z h21 a1 "com/example/okno/okno/AdmissionLog" "subWindowMillis" "J" (.long q1) := f20.same W21
  have f22 : Fld Z h21 a1 "com/example/okno/okno/AdmissionLog" "lastTime" "J" (.long (-9223372036854775808 : Int64)) := (Fw18.other W21 (Or.inr (slot_ne (Or.inl (kw27 hw)) (Or.inr (kw29 hw)) (by decide) (t := .long) (t' := .long) (by decide) (by decide))))
  obtain ⟨T23, X23, e23, st23⟩ := getF X21 hx hZ hown (host := "") (Or.inl (kw26 hw)) Via.refl e21 f22 (g := (mkF m 46 #[.val (.ref a1), .val (.long q1), .second, .val (.int (0 : Int32))] [(.ref a1), (.ref a1)])) rfl rfl (hb hby d1_46)
  obtain ⟨_, _, ⟨T24, L24, k24, n24⟩, -, X24, ⟨Lc24, hQ24, l24, y24, z24⟩, st24⟩ := Jvm.LawKit.callS X23 hx (y := (⟨"java/lang/Math", "floorDiv", "(JJ)J"⟩ : MethodName)) hown (mvT hZ (kw30 hw)) (mvT hZ (kw31 hw)) (mvT hZ (kw32 hw)) (mvT hZ (kw33 hw)) (by decide) (backOf (W := 1) (rm4 l Z a0 hw [] (-9223372036854775808 : Int64) q1 h21 n0 Z21 hq) hZ (kw33 hw) (kw32 hw) (by decide) (by decide)) (g := (mkF m 50 #[.val (.ref a1), .val (.long q1), .second, .val (.int (0 : Int32))] [(.long q1), (.long (-9223372036854775808 : Int64)), (.ref a1)])) rfl (by rw [hml]; rfl) (argsL := [(.long (-9223372036854775808 : Int64)), (.long q1)]) (rest := [(.ref a1)]) (lenOf pd_1 rfl) rfl (by show 2 * 0 + _ ≤ _; exact Nat.le_of_eq rfl) (hb hby d1_50) (fun _ _ => ⟨rfl, e23, (by decide : 0 + 0 ≤ _), (by decide : 0 + 0 ≤ _)⟩)
  dsimp only [Pt.U, Pt.locs, Pt.cells, Pt.slots] at X24 l24 y24 z24 st24 hQ24
  subst l24 y24 z24
  obtain ⟨rfl, N24q, e24⟩ := hQ24
  have N24 := Fr.app N21 N24q
  have f25 : Exa Z h21 a1 "com/example/okno/okno/AdmissionLog" := (f19.wr W21)
  have f26 : Fld Z h21 a1 "com/example/okno/okno/AdmissionLog" "lastSubWindow" "J" (.long (0 : Int64)) := ((((((P11.other W2 (Or.inr (slot_ne (Or.inl (kw35 hw)) (Or.inl (kw16 hw)) (by decide) (t := .long) (t' := .long) (by decide) (by decide)))).other W7 (Or.inr (slot_ne (Or.inl (kw35 hw)) (Or.inl (kw20 hw)) (by decide) (t := .long) (t' := (.array .long)) (by decide) (by decide)))).other W12 (Or.inr (slot_ne (Or.inl (kw35 hw)) (Or.inl (kw22 hw)) (by decide) (t := .long) (t' := (.array .long)) (by decide) (by decide)))).other W15 (Or.inr (slot_ne (Or.inl (kw35 hw)) (Or.inl (kw25 hw)) (by decide) (t := .long) (t' := .long) (by decide) (by decide)))).other W18 (Or.inr (slot_ne (Or.inl (kw35 hw)) (Or.inl (kw27 hw)) (by decide) (t := .long) (t' := .long) (by decide) (by decide)))).other W21 (Or.inr (slot_ne (Or.inl (kw35 hw)) (Or.inr (kw29 hw)) (by decide) (t := .long) (t' := .long) (by decide) (by decide))))
  obtain ⟨T27, h27, X27, e27, W27, st27⟩ := putF X24 hx hZ hown (host := "") (Or.inl (kw34 hw)) Via.refl e24 f26 f25 (Or.inl (kw35 hw)) (kw1 hw) (ty := .long) (by decide) rfl rfl (g := (mkF m 53 #[.val (.ref a1), .val (.long q1), .second, .val (.int (0 : Int32))] [(.long (own_fd (-9223372036854775808 : Int64) q1)), (.ref a1)])) rfl rfl (hb hby d1_53)
  have Z27 : n0 ≤ h27.size := Nat.le_trans Z21 (Keep.of_wr W27).1
  have K27 : Keep h0 h27 [a1] := K21.wr W27 (Or.inl (List.mem_of_getElem? (i := 0) rfl))
  have N27 := Fr.snoc X27 N24 P1
  have Fw27 : Fld Z h27 a1 "com/example/okno/okno/AdmissionLog" "lastSubWindow" "J" (.long (own_fd (-9223372036854775808 : Int64) q1)) := f26.same W27
  have f29 : Old Z n0 h27 := (((((f9.wr W12 P1).wr W15 P1).wr W18 P1).wr W21 P1).wr W27 P1)
  obtain ⟨T28, X28, e28, st28⟩ := getS2 X27 hx hZ hown (host := "") (Or.inl (kw17 hw)) Via.refl e27 (Sta.ext f29.2 P3) (g := (mkF m 61 #[.val (.ref a1), .val (.long q1), .second, .val (.int (0 : Int32))] [(.ref a1)])) rfl (hb hby d1_61)
  have f30 : Exa Z h27 a1 "com/example/okno/okno/AdmissionLog" := (f25.wr W27)
  have f31 : Fld Z h27 a1 "com/example/okno/okno/AdmissionLog" "shorterWindows" "[J" .null := (((((((P12.other W2 (Or.inr (slot_ne (Or.inr (kw37 hw)) (Or.inl (kw16 hw)) (by decide) (t := (.array .long)) (t' := .long) (by decide) (by decide)))).other W7 (Or.inr (slot_ne (Or.inr (kw37 hw)) (Or.inl (kw20 hw)) (by decide) (t := (.array .long)) (t' := (.array .long)) (by decide) (by decide)))).other W12 (Or.inr (slot_ne (Or.inr (kw37 hw)) (Or.inl (kw22 hw)) (by decide) (t := (.array .long)) (t' := (.array .long)) (by decide) (by decide)))).other W15 (Or.inr (slot_ne (Or.inr (kw37 hw)) (Or.inl (kw25 hw)) (by decide) (t := (.array .long)) (t' := .long) (by decide) (by decide)))).other W18 (Or.inr (slot_ne (Or.inr (kw37 hw)) (Or.inl (kw27 hw)) (by decide) (t := (.array .long)) (t' := .long) (by decide) (by decide)))).other W21 (Or.inr (slot_ne (Or.inr (kw37 hw)) (Or.inr (kw29 hw)) (by decide) (t := (.array .long)) (t' := .long) (by decide) (by decide)))).other W27 (Or.inr (slot_ne (Or.inr (kw37 hw)) (Or.inl (kw35 hw)) (by decide) (t := (.array .long)) (t' := .long) (by decide) (by decide))))
  obtain ⟨T32, h32, X32, e32, W32, st32⟩ := putF X28 hx hZ hown (host := "") (Or.inl (kw36 hw)) Via.refl e28 f31 f30 (Or.inr ⟨(kw37 hw), rfl, hnm⟩) (kw1 hw) (ty := (.array .long)) (by decide) rfl rfl (g := (mkF m 72 #[.val (.ref a1), .val (.long q1), .second, .val (.int (0 : Int32))] [(.ref w_NO_ENTRIES), (.ref a1)])) rfl rfl (hb hby d1_72)
  have Z32 : n0 ≤ h32.size := Nat.le_trans Z27 (Keep.of_wr W32).1
  have K32 : Keep h0 h32 [a1] := K27.wr W32 (Or.inl (List.mem_of_getElem? (i := 0) rfl))
  have N32 := Fr.snoc X32 N27 P1
  have Fw32 : Fld Z h32 a1 "com/example/okno/okno/AdmissionLog" "shorterWindows" "[J" (.ref w_NO_ENTRIES) := f31.same W32
  have f33 : Fld Z h32 a1 "com/example/okno/okno/AdmissionLog" "newest" "J" (.long (-9223372036854775808 : Int64)) := (((((((Fw2.other W7 (Or.inr (slot_ne (Or.inl (kw16 hw)) (Or.inl (kw20 hw)) (by decide) (t := .long) (t' := (.array .long)) (by decide) (by decide)))).other W12 (Or.inr (slot_ne (Or.inl (kw16 hw)) (Or.inl (kw22 hw)) (by decide) (t := .long) (t' := (.array .long)) (by decide) (by decide)))).other W15 (Or.inr (slot_ne (Or.inl (kw16 hw)) (Or.inl (kw25 hw)) (by decide) (t := .long) (t' := .long) (by decide) (by decide)))).other W18 (Or.inr (slot_ne (Or.inl (kw16 hw)) (Or.inl (kw27 hw)) (by decide) (t := .long) (t' := .long) (by decide) (by decide)))).other W21 (Or.inr (slot_ne (Or.inl (kw16 hw)) (Or.inr (kw29 hw)) (by decide) (t := .long) (t' := .long) (by decide) (by decide)))).other W27 (Or.inr (slot_ne (Or.inl (kw16 hw)) (Or.inl (kw35 hw)) (by decide) (t := .long) (t' := .long) (by decide) (by decide)))).other W32 (Or.inr (slot_ne (Or.inl (kw16 hw)) (Or.inr (kw37 hw)) (by decide) (t := .long) (t' := (.array .long)) (by decide) (by decide))))
  have f34 : Fld Z h32 a1 "com/example/okno/okno/AdmissionLog" "subWindows" "[J" (.ref w_NO_ENTRIES) := ((((((Fw7.other W12 (Or.inr (slot_ne (Or.inl (kw20 hw)) (Or.inl (kw22 hw)) (by decide) (t := (.array .long)) (t' := (.array .long)) (by decide) (by decide)))).other W15 (Or.inr (slot_ne (Or.inl (kw20 hw)) (Or.inl (kw25 hw)) (by decide) (t := (.array .long)) (t' := .long) (by decide) (by decide)))).other W18 (Or.inr (slot_ne (Or.inl (kw20 hw)) (Or.inl (kw27 hw)) (by decide) (t := (.array .long)) (t' := .long) (by decide) (by decide)))).other W21 (Or.inr (slot_ne (Or.inl (kw20 hw)) (Or.inr (kw29 hw)) (by decide) (t := (.array .long)) (t' := .long) (by decide) (by decide)))).other W27 (Or.inr (slot_ne (Or.inl (kw20 hw)) (Or.inl (kw35 hw)) (by decide) (t := (.array .long)) (t' := .long) (by decide) (by decide)))).other W32 (Or.inr (slot_ne (Or.inl (kw20 hw)) (Or.inr (kw37 hw)) (by decide) (t := (.array .long)) (t' := (.array .long)) (by decide) (by decide))))
  have f35 : Fld Z h32 a1 "com/example/okno/okno/AdmissionLog" "amounts" "[J" (.ref w_NO_ENTRIES) := (((((Fw12.other W15 (Or.inr (slot_ne (Or.inl (kw22 hw)) (Or.inl (kw25 hw)) (by decide) (t := (.array .long)) (t' := .long) (by decide) (by decide)))).other W18 (Or.inr (slot_ne (Or.inl (kw22 hw)) (Or.inl (kw27 hw)) (by decide) (t := (.array .long)) (t' := .long) (by decide) (by decide)))).other W21 (Or.inr (slot_ne (Or.inl (kw22 hw)) (Or.inr (kw29 hw)) (by decide) (t := (.array .long)) (t' := .long) (by decide) (by decide)))).other W27 (Or.inr (slot_ne (Or.inl (kw22 hw)) (Or.inl (kw35 hw)) (by decide) (t := (.array .long)) (t' := .long) (by decide) (by decide)))).other W32 (Or.inr (slot_ne (Or.inl (kw22 hw)) (Or.inr (kw37 hw)) (by decide) (t := (.array .long)) (t' := (.array .long)) (by decide) (by decide))))
  have f36 : Fld Z h32 a1 "com/example/okno/okno/AdmissionLog" "oldestSubWindow" "J" (.long (9223372036854775807 : Int64)) := ((((Fw15.other W18 (Or.inr (slot_ne (Or.inl (kw25 hw)) (Or.inl (kw27 hw)) (by decide) (t := .long) (t' := .long) (by decide) (by decide)))).other W21 (Or.inr (slot_ne (Or.inl (kw25 hw)) (Or.inr (kw29 hw)) (by decide) (t := .long) (t' := .long) (by decide) (by decide)))).other W27 (Or.inr (slot_ne (Or.inl (kw25 hw)) (Or.inl (kw35 hw)) (by decide) (t := .long) (t' := .long) (by decide) (by decide)))).other W32 (Or.inr (slot_ne (Or.inl (kw25 hw)) (Or.inr (kw37 hw)) (by decide) (t := .long) (t' := (.array .long)) (by decide) (by decide))))
  have f37 : Fld Z h32 a1 "com/example/okno/okno/AdmissionLog" "lastTime" "J" (.long (-9223372036854775808 : Int64)) := ((f22.other W27 (Or.inr (slot_ne (Or.inl (kw27 hw)) (Or.inl (kw35 hw)) (by decide) (t := .long) (t' := .long) (by decide) (by decide)))).other W32 (Or.inr (slot_ne (Or.inl (kw27 hw)) (Or.inr (kw37 hw)) (by decide) (t := .long) (t' := (.array .long)) (by decide) (by decide))))
  have f38 : Fld Z h32 a1 "com/example/okno/okno/AdmissionLog" "subWindowMillis" "J" (.long q1) := ((Fw21.other W27 (Or.inr (slot_ne (Or.inr (kw29 hw)) (Or.inl (kw35 hw)) (by decide) (t := .long) (t' := .long) (by decide) (by decide)))).other W32 (Or.inr (slot_ne (Or.inr (kw29 hw)) (Or.inr (kw37 hw)) (by decide) (t := .long) (t' := (.array .long)) (by decide) (by decide))))
  have f39 : Fld Z h32 a1 "com/example/okno/okno/AdmissionLog" "lastSubWindow" "J" (.long (own_fd (-9223372036854775808 : Int64) q1)) := (Fw27.other W32 (Or.inr (slot_ne (Or.inl (kw35 hw)) (Or.inr (kw37 hw)) (by decide) (t := .long) (t' := (.array .long)) (by decide) (by decide))))
  have f40 : Fld Z h32 a1 "com/example/okno/okno/AdmissionLog" "callTime" "J" (.long (0 : Int64)) := ((((((((P13.other W2 (Or.inr (slot_ne (Or.inl (kw44 hw)) (Or.inl (kw16 hw)) (by decide) (t := .long) (t' := .long) (by decide) (by decide)))).other W7 (Or.inr (slot_ne (Or.inl (kw44 hw)) (Or.inl (kw20 hw)) (by decide) (t := .long) (t' := (.array .long)) (by decide) (by decide)))).other W12 (Or.inr (slot_ne (Or.inl (kw44 hw)) (Or.inl (kw22 hw)) (by decide) (t := .long) (t' := (.array .long)) (by decide) (by decide)))).other W15 (Or.inr (slot_ne (Or.inl (kw44 hw)) (Or.inl (kw25 hw)) (by decide) (t := .long) (t' := .long) (by decide) (by decide)))).other W18 (Or.inr (slot_ne (Or.inl (kw44 hw)) (Or.inl (kw27 hw)) (by decide) (t := .long) (t' := .long) (by decide) (by decide)))).other W21 (Or.inr (slot_ne (Or.inl (kw44 hw)) (Or.inr (kw29 hw)) (by decide) (t := .long) (t' := .long) (by decide) (by decide)))).other W27 (Or.inr (slot_ne (Or.inl (kw44 hw)) (Or.inl (kw35 hw)) (by decide) (t := .long) (t' := .long) (by decide) (by decide)))).other W32 (Or.inr (slot_ne (Or.inl (kw44 hw)) (Or.inr (kw37 hw)) (by decide) (t := .long) (t' := (.array .long)) (by decide) (by decide))))
  have f41 : Fld Z h32 a1 "com/example/okno/okno/AdmissionLog" "callSteady" "J" (.long (0 : Int64)) := ((((((((P14.other W2 (Or.inr (slot_ne (Or.inl (kw46 hw)) (Or.inl (kw16 hw)) (by decide) (t := .long) (t' := .long) (by decide) (by decide)))).other W7 (Or.inr (slot_ne (Or.inl (kw46 hw)) (Or.inl (kw20 hw)) (by decide) (t := .long) (t' := (.array .long)) (by decide) (by decide)))).other W12 (Or.inr (slot_ne (Or.inl (kw46 hw)) (Or.inl (kw22 hw)) (by decide) (t := .long) (t' := (.array .long)) (by decide) (by decide)))).other W15 (Or.inr (slot_ne (Or.inl (kw46 hw)) (Or.inl (kw25 hw)) (by decide) (t := .long) (t' := .long) (by decide) (by decide)))).other W18 (Or.inr (slot_ne (Or.inl (kw46 hw)) (Or.inl (kw27 hw)) (by decide) (t := .long) (t' := .long) (by decide) (by decide)))).other W21 (Or.inr (slot_ne (Or.inl (kw46 hw)) (Or.inr (kw29 hw)) (by decide) (t := .long) (t' := .long) (by decide) (by decide)))).other W27 (Or.inr (slot_ne (Or.inl (kw46 hw)) (Or.inl (kw35 hw)) (by decide) (t := .long) (t' := .long) (by decide) (by decide)))).other W32 (Or.inr (slot_ne (Or.inl (kw46 hw)) (Or.inr (kw37 hw)) (by decide) (t := .long) (t' := (.array .long)) (by decide) (by decide))))
  have f42 : Fld Z h32 a1 "com/example/okno/okno/AdmissionLog" "total" "J" (.long (0 : Int64)) := ((((((((P15.other W2 (Or.inr (slot_ne (Or.inl (kw63 hw)) (Or.inl (kw16 hw)) (by decide) (t := .long) (t' := .long) (by decide) (by decide)))).other W7 (Or.inr (slot_ne (Or.inl (kw63 hw)) (Or.inl (kw20 hw)) (by decide) (t := .long) (t' := (.array .long)) (by decide) (by decide)))).other W12 (Or.inr (slot_ne (Or.inl (kw63 hw)) (Or.inl (kw22 hw)) (by decide) (t := .long) (t' := (.array .long)) (by decide) (by decide)))).other W15 (Or.inr (slot_ne (Or.inl (kw63 hw)) (Or.inl (kw25 hw)) (by decide) (t := .long) (t' := .long) (by decide) (by decide)))).other W18 (Or.inr (slot_ne (Or.inl (kw63 hw)) (Or.inl (kw27 hw)) (by decide) (t := .long) (t' := .long) (by decide) (by decide)))).other W21 (Or.inr (slot_ne (Or.inl (kw63 hw)) (Or.inr (kw29 hw)) (by decide) (t := .long) (t' := .long) (by decide) (by decide)))).other W27 (Or.inr (slot_ne (Or.inl (kw63 hw)) (Or.inl (kw35 hw)) (by decide) (t := .long) (t' := .long) (by decide) (by decide)))).other W32 (Or.inr (slot_ne (Or.inl (kw63 hw)) (Or.inr (kw37 hw)) (by decide) (t := .long) (t' := (.array .long)) (by decide) (by decide))))
  obtain ⟨fs, hr, hrun, hended, hW, hsame⟩ := X32.leave (v := none) (fun _ => rfl)
  refine ⟨_, _, pre0 _ ?_, hrun, hended, _, _, rfl, ?_, ⟨_, rfl⟩, hW, hsame.mono (by decide) (by decide)⟩
  · skip
    show Steps p.tables e below (s₁.setTop (mkF m 0 #[.val (.ref a1), .val (.long q1), .second, .val (.int (0 : Int32))] [])) _
    refine XS.aloadN X0.here hx rfl (hb hby d1_0) rfl rfl ?_
    show Steps p.tables e below (s₁.setTop (mkF m 1 #[.val (.ref a1), .val (.long q1), .second, .val (.int (0 : Int32))] [(.ref a1)])) _
    refine st1.trans ?_
    show Steps p.tables e below (T1.setTop (mkF m 4 #[.val (.ref a1), .val (.long q1), .second, .val (.int (0 : Int32))] [])) _
    refine XS.aloadN X1.here hx rfl (hb hby d1_4) rfl rfl ?_
    show Steps p.tables e below (T1.setTop (mkF m 5 #[.val (.ref a1), .val (.long q1), .second, .val (.int (0 : Int32))] [(.ref a1)])) _
    refine X1.ldc2Long hx hown (mvT hZ (kw14 hw)) (g := (mkF m 5 #[.val (.ref a1), .val (.long q1), .second, .val (.int (0 : Int32))] [(.ref a1)])) rfl (hb hby d1_5) _ ?_
    show Steps p.tables e below (T1.setTop (mkF m 8 #[.val (.ref a1), .val (.long q1), .second, .val (.int (0 : Int32))] [(.long (-9223372036854775808 : Int64)), (.ref a1)])) _
    refine st2 _ ?_
    show Steps p.tables e below (T2.setTop (mkF m 11 #[.val (.ref a1), .val (.long q1), .second, .val (.int (0 : Int32))] [])) _
    refine XS.aloadN X2.here hx rfl (hb hby d1_11) rfl rfl ?_
    show Steps p.tables e below (T2.setTop (mkF m 12 #[.val (.ref a1), .val (.long q1), .second, .val (.int (0 : Int32))] [(.ref a1)])) _
    refine st3 _ ?_
    show Steps p.tables e below (T3.setTop (mkF m 15 #[.val (.ref a1), .val (.long q1), .second, .val (.int (0 : Int32))] [(.ref w_NO_ENTRIES), (.ref a1)])) _
    refine st7 _ ?_
    show Steps p.tables e below (T7.setTop (mkF m 18 #[.val (.ref a1), .val (.long q1), .second, .val (.int (0 : Int32))] [])) _
    refine XS.aloadN X7.here hx rfl (hb hby d1_18) rfl rfl ?_
    show Steps p.tables e below (T7.setTop (mkF m 19 #[.val (.ref a1), .val (.long q1), .second, .val (.int (0 : Int32))] [(.ref a1)])) _
    refine st8 _ ?_
    show Steps p.tables e below (T8.setTop (mkF m 22 #[.val (.ref a1), .val (.long q1), .second, .val (.int (0 : Int32))] [(.ref w_NO_ENTRIES), (.ref a1)])) _
    refine st12 _ ?_
    show Steps p.tables e below (T12.setTop (mkF m 25 #[.val (.ref a1), .val (.long q1), .second, .val (.int (0 : Int32))] [])) _
    refine XS.aloadN X12.here hx rfl (hb hby d1_25) rfl rfl ?_
    show Steps p.tables e below (T12.setTop (mkF m 26 #[.val (.ref a1), .val (.long q1), .second, .val (.int (0 : Int32))] [(.ref a1)])) _
    refine X12.ldc2Long hx hown (mvT hZ (kw23 hw)) (g := (mkF m 26 #[.val (.ref a1), .val (.long q1), .second, .val (.int (0 : Int32))] [(.ref a1)])) rfl (hb hby d1_26) _ ?_
    show Steps p.tables e below (T12.setTop (mkF m 29 #[.val (.ref a1), .val (.long q1), .second, .val (.int (0 : Int32))] [(.long (9223372036854775807 : Int64)), (.ref a1)])) _
    refine st15 _ ?_
    show Steps p.tables e below (T15.setTop (mkF m 32 #[.val (.ref a1), .val (.long q1), .second, .val (.int (0 : Int32))] [])) _
    refine XS.aloadN X15.here hx rfl (hb hby d1_32) rfl rfl ?_
    show Steps p.tables e below (T15.setTop (mkF m 33 #[.val (.ref a1), .val (.long q1), .second, .val (.int (0 : Int32))] [(.ref a1)])) _
    refine X15.ldc2Long hx hown (mvT hZ (kw14 hw)) (g := (mkF m 33 #[.val (.ref a1), .val (.long q1), .second, .val (.int (0 : Int32))] [(.ref a1)])) rfl (hb hby d1_33) _ ?_
    show Steps p.tables e below (T15.setTop (mkF m 36 #[.val (.ref a1), .val (.long q1), .second, .val (.int (0 : Int32))] [(.long (-9223372036854775808 : Int64)), (.ref a1)])) _
    refine st18 _ ?_
    show Steps p.tables e below (T18.setTop (mkF m 39 #[.val (.ref a1), .val (.long q1), .second, .val (.int (0 : Int32))] [])) _
    refine XS.aloadN X18.here hx rfl (hb hby d1_39) rfl rfl ?_
    show Steps p.tables e below (T18.setTop (mkF m 40 #[.val (.ref a1), .val (.long q1), .second, .val (.int (0 : Int32))] [(.ref a1)])) _
    refine XS.lloadN X18.here hx rfl (hb hby d1_40) rfl ?_
    show Steps p.tables e below (T18.setTop (mkF m 41 #[.val (.ref a1), .val (.long q1), .second, .val (.int (0 : Int32))] [(.long q1), (.ref a1)])) _
    refine st21 _ ?_
    show Steps p.tables e below (T21.setTop (mkF m 44 #[.val (.ref a1), .val (.long q1), .second, .val (.int (0 : Int32))] [])) _
    refine XS.aloadN X21.here hx rfl (hb hby d1_44) rfl rfl ?_
    show Steps p.tables e below (T21.setTop (mkF m 45 #[.val (.ref a1), .val (.long q1), .second, .val (.int (0 : Int32))] [(.ref a1)])) _
    refine XS.aloadN X21.here hx rfl (hb hby d1_45) rfl rfl ?_
    show Steps p.tables e below (T21.setTop (mkF m 46 #[.val (.ref a1), .val (.long q1), .second, .val (.int (0 : Int32))] [(.ref a1), (.ref a1)])) _
    refine st23 _ ?_
    show Steps p.tables e below (T23.setTop (mkF m 49 #[.val (.ref a1), .val (.long q1), .second, .val (.int (0 : Int32))] [(.long (-9223372036854775808 : Int64)), (.ref a1)])) _
    refine XS.lloadN X23.here hx rfl (hb hby d1_49) rfl ?_
    show Steps p.tables e below (T23.setTop (mkF m 50 #[.val (.ref a1), .val (.long q1), .second, .val (.int (0 : Int32))] [(.long q1), (.long (-9223372036854775808 : Int64)), (.ref a1)])) _
    refine st24 _ ?_
    show Steps p.tables e below (T24.setTop (mkF m 53 #[.val (.ref a1), .val (.long q1), .second, .val (.int (0 : Int32))] [(.long (own_fd (-9223372036854775808 : Int64) q1)), (.ref a1)])) _
    refine st27 _ ?_
    show Steps p.tables e below (T27.setTop (mkF m 56 #[.val (.ref a1), .val (.long q1), .second, .val (.int (0 : Int32))] [])) _
    refine XS.aloadN X27.here hx rfl (hb hby d1_56) rfl rfl ?_
    show Steps p.tables e below (T27.setTop (mkF m 57 #[.val (.ref a1), .val (.long q1), .second, .val (.int (0 : Int32))] [(.ref a1)])) _
    refine XS.iloadN X27.here hx rfl (hb hby d1_57) rfl ?_
    show Steps p.tables e below (T27.setTop (mkF m 58 #[.val (.ref a1), .val (.long q1), .second, .val (.int (0 : Int32))] [(.int (0 : Int32)), (.ref a1)])) _
    refine XS.ifNo X27.here hx rfl (hb hby d1_58) rfl ((if0 _ _).trans (teq rfl).2) ?_
    show Steps p.tables e below (T27.setTop (mkF m 61 #[.val (.ref a1), .val (.long q1), .second, .val (.int (0 : Int32))] [(.ref a1)])) _
    refine st28 _ ?_
    show Steps p.tables e below (T28.setTop (mkF m 64 #[.val (.ref a1), .val (.long q1), .second, .val (.int (0 : Int32))] [(.ref w_NO_ENTRIES), (.ref a1)])) _
    refine XS.goto X28.here hx rfl (pc0 := 64) (pc' := 72) rfl (hb hby d1_64) (by decide) (by decide) ?_
    show Steps p.tables e below (T28.setTop (mkF m 72 #[.val (.ref a1), .val (.long q1), .second, .val (.int (0 : Int32))] [(.ref w_NO_ENTRIES), (.ref a1)])) _
    refine st32 _ ?_
    show Steps p.tables e below (T32.setTop (mkF m 75 #[.val (.ref a1), .val (.long q1), .second, .val (.int (0 : Int32))] [])) _
    exact X32.returnOut hx Bd.returns (hb hby d1_75) hr
  · show Q_rm1 Z a1 q1 w_NO_ENTRIES h0 n0 _ T32.heap _
    rw [e32]
    exact ⟨rfl, N32, K32, f33, f34, f35, f36, f37, f38, f39, Fw32, f40, f41, f42⟩
theorem ef_rm6 (m : MethodId) (x0 : Addr) : entryFrame m #[(.ref x0)] 1 = mkF m 0 #[.val (.ref x0)] [] := by first | (simp [entryFrame, mkF, argsToLocals, Value.category]; done) | rfl
def Q_rm6 (Z : State) (a1 : Addr) (v1 : Int64) (h0 : Heap) (n0 : Nat) (v : Option Value) (h : Heap) (L : List Loc) : Prop := v = some (.long v1) ∧ Fr n0 L ∧ h = h0
set_option maxRecDepth 65536 in
set_option maxHeartbeats 40000000 in
theorem rm6 (l : Launch) (Z : State) (a0 : Array Value) (hw : ∀ d ∈ tables_1, d.before a0 Z = true) (ws : List Jvm.Cond) (a1 : Addr) (v1 : Int64) (h0 : Heap) (n0 : Nat) (Z0 : n0 ≤ h0.size) (P0 : Fld Z h0 a1 "com/example/okno/okno/AdmissionLog" "callTime" "J" (.long v1)) :
    MetFree l (⟨"com/example/okno/okno/AdmissionLog", "callTime", "()J"⟩ : MethodName) (head1 (Jvm.Cond.code (⟨"com/example/okno/okno/AdmissionLog", "callTime", "()J"⟩ : MethodName) prog_2_method_9_code 1 (some .long) :: ws) ({ frames := 0, cells := 0, slots := 0, locals := 0 } : Room)) (fun a U => a = #[(.ref a1)] ∧ Z.Warmed39 U.vm ∧ U.heap = h0) (fun _ _ _ _ _ => True) (fun _ U o U' => ∃ v L, o = .returned v ∧ Q_rm6 Z a1 v1 h0 n0 v U'.heap L ∧ FrameEnd U o U' L ({ frames := 0, cells := 0, slots := 0, locals := 0 } : Room).cells ({ frames := 0, cells := 0, slots := 0, locals := 0 } : Room).slots) := by
  refine MetFree.of_bodySF (plainFor_of_name pn_1) hisR ?_
  intro p e s m args below meth c s₁ Bd hml0 hP hK
  obtain ⟨rfl, hZ, hh⟩ := hP
  have hx := Bd.exec
  have hby := Bd.bytes
  have hml : c.maxLocals = 1 := hml0
  have hown : s.vm.findClass "com/example/okno/okno/AdmissionLog" = some m.cls := findClass_of_methodNamed Bd.named
  have hnm := (name_of_methodNamed Bd.named Bd.method).1
  have X0 : Stand p l e ({ frames := 0, cells := 0, slots := 0, locals := 0 } : Room) s m #[(.ref a1)] below meth c s₁ [] 0 0 := Stand.of_body Bd
  have e0 : s₁.heap = h0 := by rw [← hh, Bd.state]; rfl
  have N0 := Fr.nil n0
  have KR : Keep h0 h0 [] := Keep.refl h0 _
  have pre0 : ∀ t, Steps p.tables e below (s₁.setTop (mkF m 0 #[.val (.ref a1)] [])) t → Steps p.tables e below (s₁.setTop (entryFrame m #[(.ref a1)] 1)) t := fun t k => castTop (ef_rm6 m (a1)) k
  obtain ⟨T1, X1, e1, st1⟩ := getF X0 hx hZ hown (host := "") (Or.inl (kw43 hw)) Via.refl e0 P0 (g := (mkF m 1 #[.val (.ref a1)] [(.ref a1)])) rfl rfl (hb hby d6_1)
  obtain ⟨fs, hr, hrun, hended, hW, hsame⟩ := X1.leave (v := some (.long v1)) (fun h => by rw [Bd.returns] at h; cases h)
  refine ⟨_, _, pre0 _ ?_, hrun, hended, _, _, rfl, ?_, ⟨_, rfl⟩, hW, hsame.mono (by decide) (by decide)⟩
  · skip
    show Steps p.tables e below (s₁.setTop (mkF m 0 #[.val (.ref a1)] [])) _
    refine XS.aloadN X0.here hx rfl (hb hby d6_0) rfl rfl ?_
    show Steps p.tables e below (s₁.setTop (mkF m 1 #[.val (.ref a1)] [(.ref a1)])) _
    refine st1 _ ?_
    show Steps p.tables e below (T1.setTop (mkF m 4 #[.val (.ref a1)] [(.long v1)])) _
    jvm_step X1.here [X1.here.top, hx, (hb hby d6_4), X1.method', Bd.returns, narrow]
    first | (intro acts; rw [hr _ acts rfl rfl rfl]) | rw [hr _ _ rfl rfl rfl]
    exact Steps.refl _
  · show Q_rm6 Z a1 v1 h0 n0 _ T1.heap _
    rw [e1]
    exact ⟨rfl, N0, rfl⟩
theorem ef_rm7 (m : MethodId) (x0 : Addr) : entryFrame m #[(.ref x0)] 1 = mkF m 0 #[.val (.ref x0)] [] := by first | (simp [entryFrame, mkF, argsToLocals, Value.category]; done) | rfl
def Q_rm7 (Z : State) (a1 : Addr) (v1 : Int64) (h0 : Heap) (n0 : Nat) (v : Option Value) (h : Heap) (L : List Loc) : Prop := v = some (.long v1) ∧ Fr n0 L ∧ h = h0
set_option maxRecDepth 65536 in
set_option maxHeartbeats 40000000 in
theorem rm7 (l : Launch) (Z : State) (a0 : Array Value) (hw : ∀ d ∈ tables_1, d.before a0 Z = true) (ws : List Jvm.Cond) (a1 : Addr) (v1 : Int64) (h0 : Heap) (n0 : Nat) (Z0 : n0 ≤ h0.size) (P0 : Fld Z h0 a1 "com/example/okno/okno/AdmissionLog" "callSteady" "J" (.long v1)) :
    MetFree l (⟨"com/example/okno/okno/AdmissionLog", "callSteady", "()J"⟩ : MethodName) (head1 (Jvm.Cond.code (⟨"com/example/okno/okno/AdmissionLog", "callSteady", "()J"⟩ : MethodName) prog_2_method_10_code 1 (some .long) :: ws) ({ frames := 0, cells := 0, slots := 0, locals := 0 } : Room)) (fun a U => a = #[(.ref a1)] ∧ Z.Warmed39 U.vm ∧ U.heap = h0) (fun _ _ _ _ _ => True) (fun _ U o U' => ∃ v L, o = .returned v ∧ Q_rm7 Z a1 v1 h0 n0 v U'.heap L ∧ FrameEnd U o U' L ({ frames := 0, cells := 0, slots := 0, locals := 0 } : Room).cells ({ frames := 0, cells := 0, slots := 0, locals := 0 } : Room).slots) := by
  refine MetFree.of_bodySF (plainFor_of_name pn_1) hisR ?_
  intro p e s m args below meth c s₁ Bd hml0 hP hK
  obtain ⟨rfl, hZ, hh⟩ := hP
  have hx := Bd.exec
  have hby := Bd.bytes
  have hml : c.maxLocals = 1 := hml0
  have hown : s.vm.findClass "com/example/okno/okno/AdmissionLog" = some m.cls := findClass_of_methodNamed Bd.named
  have hnm := (name_of_methodNamed Bd.named Bd.method).1
  have X0 : Stand p l e ({ frames := 0, cells := 0, slots := 0, locals := 0 } : Room) s m #[(.ref a1)] below meth c s₁ [] 0 0 := Stand.of_body Bd
  have e0 : s₁.heap = h0 := by rw [← hh, Bd.state]; rfl
  have N0 := Fr.nil n0
  have KR : Keep h0 h0 [] := Keep.refl h0 _
  have pre0 : ∀ t, Steps p.tables e below (s₁.setTop (mkF m 0 #[.val (.ref a1)] [])) t → Steps p.tables e below (s₁.setTop (entryFrame m #[(.ref a1)] 1)) t := fun t k => castTop (ef_rm7 m (a1)) k
  obtain ⟨T1, X1, e1, st1⟩ := getF X0 hx hZ hown (host := "") (Or.inl (kw45 hw)) Via.refl e0 P0 (g := (mkF m 1 #[.val (.ref a1)] [(.ref a1)])) rfl rfl (hb hby d7_1)
  obtain ⟨fs, hr, hrun, hended, hW, hsame⟩ := X1.leave (v := some (.long v1)) (fun h => by rw [Bd.returns] at h; cases h)
  refine ⟨_, _, pre0 _ ?_, hrun, hended, _, _, rfl, ?_, ⟨_, rfl⟩, hW, hsame.mono (by decide) (by decide)⟩
  · skip
    show Steps p.tables e below (s₁.setTop (mkF m 0 #[.val (.ref a1)] [])) _
    refine XS.aloadN X0.here hx rfl (hb hby d7_0) rfl rfl ?_
    show Steps p.tables e below (s₁.setTop (mkF m 1 #[.val (.ref a1)] [(.ref a1)])) _
    refine st1 _ ?_
    show Steps p.tables e below (T1.setTop (mkF m 4 #[.val (.ref a1)] [(.long v1)])) _
    jvm_step X1.here [X1.here.top, hx, (hb hby d7_4), X1.method', Bd.returns, narrow]
    first | (intro acts; rw [hr _ acts rfl rfl rfl]) | rw [hr _ _ rfl rfl rfl]
    exact Steps.refl _
  · show Q_rm7 Z a1 v1 h0 n0 _ T1.heap _
    rw [e1]
    exact ⟨rfl, N0, rfl⟩
theorem ef_rm8 (m : MethodId) (x0 : Addr) : entryFrame m #[(.ref x0)] 1 = mkF m 0 #[.val (.ref x0)] [] := by first | (simp [entryFrame, mkF, argsToLocals, Value.category]; done) | rfl
def Q_rm8 (Z : State) (a1 : Addr) (v1 : Int64) (h0 : Heap) (n0 : Nat) (v : Option Value) (h : Heap) (L : List Loc) : Prop := v = some (.long v1) ∧ Fr n0 L ∧ h = h0
set_option maxRecDepth 65536 in
set_option maxHeartbeats 40000000 in
theorem rm8 (l : Launch) (Z : State) (a0 : Array Value) (hw : ∀ d ∈ tables_1, d.before a0 Z = true) (ws : List Jvm.Cond) (a1 : Addr) (v1 : Int64) (h0 : Heap) (n0 : Nat) (Z0 : n0 ≤ h0.size) (P0 : Fld Z h0 a1 "com/example/okno/okno/AdmissionLog" "total" "J" (.long v1)) :
    MetFree l (⟨"com/example/okno/okno/AdmissionLog", "total", "()J"⟩ : MethodName) (head1 (Jvm.Cond.code (⟨"com/example/okno/okno/AdmissionLog", "total", "()J"⟩ : MethodName) prog_2_method_2_code 1 (some .long) :: ws) ({ frames := 0, cells := 0, slots := 0, locals := 0 } : Room)) (fun a U => a = #[(.ref a1)] ∧ Z.Warmed39 U.vm ∧ U.heap = h0) (fun _ _ _ _ _ => True) (fun _ U o U' => ∃ v L, o = .returned v ∧ Q_rm8 Z a1 v1 h0 n0 v U'.heap L ∧ FrameEnd U o U' L ({ frames := 0, cells := 0, slots := 0, locals := 0 } : Room).cells ({ frames := 0, cells := 0, slots := 0, locals := 0 } : Room).slots) := by
  refine MetFree.of_bodySF (plainFor_of_name pn_1) hisR ?_
  intro p e s m args below meth c s₁ Bd hml0 hP hK
  obtain ⟨rfl, hZ, hh⟩ := hP
  have hx := Bd.exec
  have hby := Bd.bytes
  have hml : c.maxLocals = 1 := hml0
  have hown : s.vm.findClass "com/example/okno/okno/AdmissionLog" = some m.cls := findClass_of_methodNamed Bd.named
  have hnm := (name_of_methodNamed Bd.named Bd.method).1
  have X0 : Stand p l e ({ frames := 0, cells := 0, slots := 0, locals := 0 } : Room) s m #[(.ref a1)] below meth c s₁ [] 0 0 := Stand.of_body Bd
  have e0 : s₁.heap = h0 := by rw [← hh, Bd.state]; rfl
  have N0 := Fr.nil n0
  have KR : Keep h0 h0 [] := Keep.refl h0 _
  have pre0 : ∀ t, Steps p.tables e below (s₁.setTop (mkF m 0 #[.val (.ref a1)] [])) t → Steps p.tables e below (s₁.setTop (entryFrame m #[(.ref a1)] 1)) t := fun t k => castTop (ef_rm8 m (a1)) k
  obtain ⟨T1, X1, e1, st1⟩ := getF X0 hx hZ hown (host := "") (Or.inl (kw62 hw)) Via.refl e0 P0 (g := (mkF m 1 #[.val (.ref a1)] [(.ref a1)])) rfl rfl (hb hby d8_1)
  obtain ⟨fs, hr, hrun, hended, hW, hsame⟩ := X1.leave (v := some (.long v1)) (fun h => by rw [Bd.returns] at h; cases h)
  refine ⟨_, _, pre0 _ ?_, hrun, hended, _, _, rfl, ?_, ⟨_, rfl⟩, hW, hsame.mono (by decide) (by decide)⟩
  · skip
    show Steps p.tables e below (s₁.setTop (mkF m 0 #[.val (.ref a1)] [])) _
    refine XS.aloadN X0.here hx rfl (hb hby d8_0) rfl rfl ?_
    show Steps p.tables e below (s₁.setTop (mkF m 1 #[.val (.ref a1)] [(.ref a1)])) _
    refine st1 _ ?_
    show Steps p.tables e below (T1.setTop (mkF m 4 #[.val (.ref a1)] [(.long v1)])) _
    jvm_step X1.here [X1.here.top, hx, (hb hby d8_4), X1.method', Bd.returns, narrow]
    first | (intro acts; rw [hr _ acts rfl rfl rfl]) | rw [hr _ _ rfl rfl rfl]
    exact Steps.refl _
  · show Q_rm8 Z a1 v1 h0 n0 _ T1.heap _
    rw [e1]
    exact ⟨rfl, N0, rfl⟩
theorem ef_rm9 (m : MethodId) (x0 : Addr) : entryFrame m #[(.ref x0)] 1 = mkF m 0 #[.val (.ref x0)] [] := by first | (simp [entryFrame, mkF, argsToLocals, Value.category]; done) | rfl
def Q_rm9 (Z : State) (a1 : Addr) (v1 : Int64) (h0 : Heap) (n0 : Nat) (v : Option Value) (h : Heap) (L : List Loc) : Prop := v = some (.long v1) ∧ Fr n0 L ∧ h = h0
set_option maxRecDepth 65536 in
set_option maxHeartbeats 40000000 in
theorem rm9 (l : Launch) (Z : State) (a0 : Array Value) (hw : ∀ d ∈ tables_1, d.before a0 Z = true) (ws : List Jvm.Cond) (a1 : Addr) (v1 : Int64) (h0 : Heap) (n0 : Nat) (Z0 : n0 ≤ h0.size) (P0 : Fld Z h0 a1 "com/example/okno/okno/AdmissionLog" "newest" "J" (.long v1)) :
    MetFree l (⟨"com/example/okno/okno/AdmissionLog", "newest", "()J"⟩ : MethodName) (head1 (Jvm.Cond.code (⟨"com/example/okno/okno/AdmissionLog", "newest", "()J"⟩ : MethodName) prog_2_method_4_code 1 (some .long) :: ws) ({ frames := 0, cells := 0, slots := 0, locals := 0 } : Room)) (fun a U => a = #[(.ref a1)] ∧ Z.Warmed39 U.vm ∧ U.heap = h0) (fun _ _ _ _ _ => True) (fun _ U o U' => ∃ v L, o = .returned v ∧ Q_rm9 Z a1 v1 h0 n0 v U'.heap L ∧ FrameEnd U o U' L ({ frames := 0, cells := 0, slots := 0, locals := 0 } : Room).cells ({ frames := 0, cells := 0, slots := 0, locals := 0 } : Room).slots) := by
  refine MetFree.of_bodySF (plainFor_of_name pn_1) hisR ?_
  intro p e s m args below meth c s₁ Bd hml0 hP hK
  obtain ⟨rfl, hZ, hh⟩ := hP
  have hx := Bd.exec
  have hby := Bd.bytes
  have hml : c.maxLocals = 1 := hml0
  have hown : s.vm.findClass "com/example/okno/okno/AdmissionLog" = some m.cls := findClass_of_methodNamed Bd.named
  have hnm := (name_of_methodNamed Bd.named Bd.method).1
  have X0 : Stand p l e ({ frames := 0, cells := 0, slots := 0, locals := 0 } : Room) s m #[(.ref a1)] below meth c s₁ [] 0 0 := Stand.of_body Bd
  have e0 : s₁.heap = h0 := by rw [← hh, Bd.state]; rfl
  have N0 := Fr.nil n0
  have KR : Keep h0 h0 [] := Keep.refl h0 _
  have pre0 : ∀ t, Steps p.tables e below (s₁.setTop (mkF m 0 #[.val (.ref a1)] [])) t → Steps p.tables e below (s₁.setTop (entryFrame m #[(.ref a1)] 1)) t := fun t k => castTop (ef_rm9 m (a1)) k
  obtain ⟨T1, X1, e1, st1⟩ := getF X0 hx hZ hown (host := "") (Or.inl (kw15 hw)) Via.refl e0 P0 (g := (mkF m 1 #[.val (.ref a1)] [(.ref a1)])) rfl rfl (hb hby d9_1)
  obtain ⟨fs, hr, hrun, hended, hW, hsame⟩ := X1.leave (v := some (.long v1)) (fun h => by rw [Bd.returns] at h; cases h)
  refine ⟨_, _, pre0 _ ?_, hrun, hended, _, _, rfl, ?_, ⟨_, rfl⟩, hW, hsame.mono (by decide) (by decide)⟩
  · skip
    show Steps p.tables e below (s₁.setTop (mkF m 0 #[.val (.ref a1)] [])) _
    refine XS.aloadN X0.here hx rfl (hb hby d9_0) rfl rfl ?_
    show Steps p.tables e below (s₁.setTop (mkF m 1 #[.val (.ref a1)] [(.ref a1)])) _
    refine st1 _ ?_
    show Steps p.tables e below (T1.setTop (mkF m 4 #[.val (.ref a1)] [(.long v1)])) _
    jvm_step X1.here [X1.here.top, hx, (hb hby d9_4), X1.method', Bd.returns, narrow]
    first | (intro acts; rw [hr _ acts rfl rfl rfl]) | rw [hr _ _ rfl rfl rfl]
    exact Steps.refl _
  · show Q_rm9 Z a1 v1 h0 n0 _ T1.heap _
    rw [e1]
    exact ⟨rfl, N0, rfl⟩
theorem ef_rm5 (m : MethodId) (x0 : Addr) (x1 : Int64) (x2 : Int64) : entryFrame m #[(.ref x0), (.long x1), (.long x2)] 5 = mkF m 0 #[.val (.ref x0), .val (.long x1), .second, .val (.long x2), .second] [] := by first | (simp [entryFrame, mkF, argsToLocals, Value.category]; done) | rfl
def Q_rm5 (Z : State) (a1 : Addr) (q1 : Int64) (q2 : Int64) (ct : Int64) (cs : Int64) (u_newest : Int64) (u_oldestSubWindow : Int64) (u_lastTime : Int64) (u_subWindowMillis : Int64) (u_lastSubWindow : Int64) (u_total : Int64) (h0 : Heap) (n0 : Nat) (v : Option Value) (h : Heap) (L : List Loc) : Prop := v = none ∧ Fr n0 L ∧ Keep h0 h [a1] ∧ Fld Z h a1 "com/example/okno/okno/AdmissionLog" "callTime" "J" (.long q1) ∧ Fld Z h a1 "com/example/okno/okno/AdmissionLog" "callSteady" "J" (.long q2) ∧ Fld Z h a1 "com/example/okno/okno/AdmissionLog" "newest" "J" (.long u_newest) ∧ Fld Z h a1 "com/example/okno/okno/AdmissionLog" "oldestSubWindow" "J" (.long u_oldestSubWindow) ∧ Fld Z h a1 "com/example/okno/okno/AdmissionLog" "lastTime" "J" (.long u_lastTime) ∧ Fld Z h a1 "com/example/okno/okno/AdmissionLog" "subWindowMillis" "J" (.long u_subWindowMillis) ∧ Fld Z h a1 "com/example/okno/okno/AdmissionLog" "lastSubWindow" "J" (.long u_lastSubWindow) ∧ Fld Z h a1 "com/example/okno/okno/AdmissionLog" "total" "J" (.long u_total)
set_option maxRecDepth 65536 in
set_option maxHeartbeats 40000000 in
theorem rm5 (l : Launch) (Z : State) (a0 : Array Value) (hw : ∀ d ∈ tables_1, d.before a0 Z = true) (ws : List Jvm.Cond) (a1 : Addr) (q1 : Int64) (q2 : Int64) (ct : Int64) (cs : Int64) (u_newest : Int64) (u_oldestSubWindow : Int64) (u_lastTime : Int64) (u_subWindowMillis : Int64) (u_lastSubWindow : Int64) (u_total : Int64) (h0 : Heap) (n0 : Nat) (Z0 : n0 ≤ h0.size) (P0 : Exa Z h0 a1 "com/example/okno/okno/AdmissionLog") (P1 : n0 ≤ a1) (P2 : Fld Z h0 a1 "com/example/okno/okno/AdmissionLog" "callTime" "J" (.long ct)) (P3 : Fld Z h0 a1 "com/example/okno/okno/AdmissionLog" "callSteady" "J" (.long cs)) (P4 : Fld Z h0 a1 "com/example/okno/okno/AdmissionLog" "newest" "J" (.long u_newest)) (P5 : Fld Z h0 a1 "com/example/okno/okno/AdmissionLog" "oldestSubWindow" "J" (.long u_oldestSubWindow)) (P6 : Fld Z h0 a1 "com/example/okno/okno/AdmissionLog" "lastTime" "J" (.long u_lastTime)) (P7 : Fld Z h0 a1 "com/example/okno/okno/AdmissionLog" "subWindowMillis" "J" (.long u_subWindowMillis)) (P8 : Fld Z h0 a1 "com/example/okno/okno/AdmissionLog" "lastSubWindow" "J" (.long u_lastSubWindow)) (P9 : Fld Z h0 a1 "com/example/okno/okno/AdmissionLog" "total" "J" (.long u_total)) :
    MetFree l (⟨"com/example/okno/okno/AdmissionLog", "setCallReadings", "(JJ)V"⟩ : MethodName) (head1 (Jvm.Cond.code (⟨"com/example/okno/okno/AdmissionLog", "setCallReadings", "(JJ)V"⟩ : MethodName) prog_2_method_8_code 5 none :: ws) ({ frames := 0, cells := 0, slots := 0, locals := 0 } : Room)) (fun a U => a = #[(.ref a1), (.long q1), (.long q2)] ∧ Z.Warmed39 U.vm ∧ U.heap = h0) (fun _ _ _ _ _ => True) (fun _ U o U' => ∃ v L, o = .returned v ∧ Q_rm5 Z a1 q1 q2 ct cs u_newest u_oldestSubWindow u_lastTime u_subWindowMillis u_lastSubWindow u_total h0 n0 v U'.heap L ∧ FrameEnd U o U' L ({ frames := 0, cells := 0, slots := 0, locals := 0 } : Room).cells ({ frames := 0, cells := 0, slots := 0, locals := 0 } : Room).slots) := by
  refine MetFree.of_bodySF (plainFor_of_name pn_1) hisR ?_
  intro p e s m args below meth c s₁ Bd hml0 hP hK
  obtain ⟨rfl, hZ, hh⟩ := hP
  have hx := Bd.exec
  have hby := Bd.bytes
  have hml : c.maxLocals = 5 := hml0
  have hown : s.vm.findClass "com/example/okno/okno/AdmissionLog" = some m.cls := findClass_of_methodNamed Bd.named
  have hnm := (name_of_methodNamed Bd.named Bd.method).1
  have X0 : Stand p l e ({ frames := 0, cells := 0, slots := 0, locals := 0 } : Room) s m #[(.ref a1), (.long q1), (.long q2)] below meth c s₁ [] 0 0 := Stand.of_body Bd
  have e0 : s₁.heap = h0 := by rw [← hh, Bd.state]; rfl
  have N0 := Fr.nil n0
  have KR : Keep h0 h0 [a1] := Keep.refl h0 _
  have pre0 : ∀ t, Steps p.tables e below (s₁.setTop (mkF m 0 #[.val (.ref a1), .val (.long q1), .second, .val (.long q2), .second] [])) t → Steps p.tables e below (s₁.setTop (entryFrame m #[(.ref a1), (.long q1), (.long q2)] 5)) t := fun t k => castTop (ef_rm5 m (a1) (q1) (q2)) k
  obtain ⟨T1, X1, e1, st1⟩ := getF X0 hx hZ hown (host := "") (Or.inl (kw43 hw)) Via.refl e0 P2 (g := (mkF m 1 #[.val (.ref a1), .val (.long q1), .second, .val (.long q2), .second] [(.ref a1)])) rfl rfl (hb hby d5_1)
  have pre2 : ∀ t, Steps p.tables e below (T1.setTop (mkF m 6 #[.val (.ref a1), .val (.long q1), .second, .val (.long q2), .second] [(.int (lcmpW ct q1))])) t → Steps p.tables e below (s₁.setTop (entryFrame m #[(.ref a1), (.long q1), (.long q2)] 5)) t := fun t k => pre0 t (by
    show Steps p.tables e below (s₁.setTop (mkF m 0 #[.val (.ref a1), .val (.long q1), .second, .val (.long q2), .second] [])) _
    refine XS.aloadN X0.here hx rfl (hb hby d5_0) rfl rfl ?_
    show Steps p.tables e below (s₁.setTop (mkF m 1 #[.val (.ref a1), .val (.long q1), .second, .val (.long q2), .second] [(.ref a1)])) _
    refine st1 _ ?_
    show Steps p.tables e below (T1.setTop (mkF m 4 #[.val (.ref a1), .val (.long q1), .second, .val (.long q2), .second] [(.long ct)])) _
    refine XS.lloadN X1.here hx rfl (hb hby d5_4) rfl ?_
    show Steps p.tables e below (T1.setTop (mkF m 5 #[.val (.ref a1), .val (.long q1), .second, .val (.long q2), .second] [(.long q1), (.long ct)])) _
    refine XS.lcmp X1.here hx rfl (hb hby d5_5) rfl ?_
    show Steps p.tables e below (T1.setTop (mkF m 6 #[.val (.ref a1), .val (.long q1), .second, .val (.long q2), .second] [(.int (lcmpW ct q1))])) _
    exact k)
  by_cases hc3 : ct = q1
  · skip
    obtain ⟨T4, X4, e4, st4⟩ := getF X1 hx hZ hown (host := "") (Or.inl (kw45 hw)) Via.refl e1 P3 (g := (mkF m 15 #[.val (.ref a1), .val (.long q1), .second, .val (.long q2), .second] [(.ref a1)])) rfl rfl (hb hby d5_15)
    have pre5 : ∀ t, Steps p.tables e below (T4.setTop (mkF m 20 #[.val (.ref a1), .val (.long q1), .second, .val (.long q2), .second] [(.int (lcmpW cs q2))])) t → Steps p.tables e below (s₁.setTop (entryFrame m #[(.ref a1), (.long q1), (.long q2)] 5)) t := fun t k => pre2 t (by
      refine XS.ifYes X1.here hx rfl (pc0 := 6) (pc' := 14) rfl (hb hby d5_6) rfl ((if0 _ _).trans (teq ((lw_eq _ _).mpr hc3)).1) (by decide) (by decide) ?_
      show Steps p.tables e below (T1.setTop (mkF m 14 #[.val (.ref a1), .val (.long q1), .second, .val (.long q2), .second] [])) _
      refine XS.aloadN X1.here hx rfl (hb hby d5_14) rfl rfl ?_
      show Steps p.tables e below (T1.setTop (mkF m 15 #[.val (.ref a1), .val (.long q1), .second, .val (.long q2), .second] [(.ref a1)])) _
      refine st4 _ ?_
      show Steps p.tables e below (T4.setTop (mkF m 18 #[.val (.ref a1), .val (.long q1), .second, .val (.long q2), .second] [(.long cs)])) _
      refine XS.lloadN X4.here hx rfl (hb hby d5_18) rfl ?_
      show Steps p.tables e below (T4.setTop (mkF m 19 #[.val (.ref a1), .val (.long q1), .second, .val (.long q2), .second] [(.long q2), (.long cs)])) _
      refine XS.lcmp X4.here hx rfl (hb hby d5_19) rfl ?_
      show Steps p.tables e below (T4.setTop (mkF m 20 #[.val (.ref a1), .val (.long q1), .second, .val (.long q2), .second] [(.int (lcmpW cs q2))])) _
      exact k)
    by_cases hc6 : cs = q2
    · skip
      obtain ⟨fs, hr, hrun, hended, hW, hsame⟩ := X4.leave (v := none) (fun _ => rfl)
      refine ⟨_, _, pre5 _ ?_, hrun, hended, _, _, rfl, ?_, ⟨_, rfl⟩, hW, hsame.mono (by decide) (by decide)⟩
      · skip
        refine XS.ifYes X4.here hx rfl (pc0 := 20) (pc' := 28) rfl (hb hby d5_20) rfl ((if0 _ _).trans (teq ((lw_eq _ _).mpr hc6)).1) (by decide) (by decide) ?_
        show Steps p.tables e below (T4.setTop (mkF m 28 #[.val (.ref a1), .val (.long q1), .second, .val (.long q2), .second] [])) _
        exact X4.returnOut hx Bd.returns (hb hby d5_28) hr
      · show Q_rm5 Z a1 q1 q2 ct cs u_newest u_oldestSubWindow u_lastTime u_subWindowMillis u_lastSubWindow u_total h0 n0 _ T4.heap _
        rw [e4]
        exact ⟨rfl, N0, KR, (by first | exact P2 | (rw [← hc3]; exact P2) | (rw [hc3]; exact P2) | (rw [← hc6]; exact P2) | (rw [hc6]; exact P2)), (by first | exact P3 | (rw [← hc3]; exact P3) | (rw [hc3]; exact P3) | (rw [← hc6]; exact P3) | (rw [hc6]; exact P3)), P4, P5, P6, P7, P8, P9⟩
    · skip
      obtain ⟨T8, h8, X8, e8, W8, st8⟩ := putF X4 hx hZ hown (host := "") (Or.inl (kw45 hw)) Via.refl e4 P3 P0 (Or.inl (kw46 hw)) (kw1 hw) (ty := .long) (by decide) rfl rfl (g := (mkF m 25 #[.val (.ref a1), .val (.long q1), .second, .val (.long q2), .second] [(.long q2), (.ref a1)])) rfl rfl (hb hby d5_25)
      have Z8 : n0 ≤ h8.size := Nat.le_trans Z0 (Keep.of_wr W8).1
      have K8 : Keep h0 h8 [a1] := KR.wr W8 (Or.inl (List.mem_of_getElem? (i := 0) rfl))
      have N8 := Fr.snoc X8 N0 P1
      have Fw8 : Fld Z h8 a1 "com/example/okno/okno/AdmissionLog" "callSteady" "J" (.long q2) := P3.same W8
      have f9 : Fld Z h8 a1 "com/example/okno/okno/AdmissionLog" "callTime" "J" (.long ct) := (P2.other W8 (Or.inr (slot_ne (Or.inl (kw44 hw)) (Or.inl (kw46 hw)) (by decide) (t := .long) (t' := .long) (by decide) (by decide))))
      have f10 : Fld Z h8 a1 "com/example/okno/okno/AdmissionLog" "newest" "J" (.long u_newest) := (P4.other W8 (Or.inr (slot_ne (Or.inl (kw16 hw)) (Or.inl (kw46 hw)) (by decide) (t := .long) (t' := .long) (by decide) (by decide))))
      have f11 : Fld Z h8 a1 "com/example/okno/okno/AdmissionLog" "oldestSubWindow" "J" (.long u_oldestSubWindow) := (P5.other W8 (Or.inr (slot_ne (Or.inl (kw25 hw)) (Or.inl (kw46 hw)) (by decide) (t := .long) (t' := .long) (by decide) (by decide))))
      have f12 : Fld Z h8 a1 "com/example/okno/okno/AdmissionLog" "lastTime" "J" (.long u_lastTime) := (P6.other W8 (Or.inr (slot_ne (Or.inl (kw27 hw)) (Or.inl (kw46 hw)) (by decide) (t := .long) (t' := .long) (by decide) (by decide))))
      have f13 : Fld Z h8 a1 "com/example/okno/okno/AdmissionLog" "subWindowMillis" "J" (.long u_subWindowMillis) := (P7.other W8 (Or.inr (slot_ne (Or.inr (kw29 hw)) (Or.inl (kw46 hw)) (by decide) (t := .long) (t' := .long) (by decide) (by decide))))
      have f14 : Fld Z h8 a1 "com/example/okno/okno/AdmissionLog" "lastSubWindow" "J" (.long u_lastSubWindow) := (P8.other W8 (Or.inr (slot_ne (Or.inl (kw35 hw)) (Or.inl (kw46 hw)) (by decide) (t := .long) (t' := .long) (by decide) (by decide))))
      have f15 : Fld Z h8 a1 "com/example/okno/okno/AdmissionLog" "total" "J" (.long u_total) := (P9.other W8 (Or.inr (slot_ne (Or.inl (kw63 hw)) (Or.inl (kw46 hw)) (by decide) (t := .long) (t' := .long) (by decide) (by decide))))
      obtain ⟨fs, hr, hrun, hended, hW, hsame⟩ := X8.leave (v := none) (fun _ => rfl)
      refine ⟨_, _, pre5 _ ?_, hrun, hended, _, _, rfl, ?_, ⟨_, rfl⟩, hW, hsame.mono (by decide) (by decide)⟩
      · skip
        refine XS.ifNo X4.here hx rfl (hb hby d5_20) rfl ((if0 _ _).trans (feq (fun q => hc6 ((lw_eq _ _).mp q))).1) ?_
        show Steps p.tables e below (T4.setTop (mkF m 23 #[.val (.ref a1), .val (.long q1), .second, .val (.long q2), .second] [])) _
        refine XS.aloadN X4.here hx rfl (hb hby d5_23) rfl rfl ?_
        show Steps p.tables e below (T4.setTop (mkF m 24 #[.val (.ref a1), .val (.long q1), .second, .val (.long q2), .second] [(.ref a1)])) _
        refine XS.lloadN X4.here hx rfl (hb hby d5_24) rfl ?_
        show Steps p.tables e below (T4.setTop (mkF m 25 #[.val (.ref a1), .val (.long q1), .second, .val (.long q2), .second] [(.long q2), (.ref a1)])) _
        refine st8 _ ?_
        show Steps p.tables e below (T8.setTop (mkF m 28 #[.val (.ref a1), .val (.long q1), .second, .val (.long q2), .second] [])) _
        exact X8.returnOut hx Bd.returns (hb hby d5_28) hr
      · show Q_rm5 Z a1 q1 q2 ct cs u_newest u_oldestSubWindow u_lastTime u_subWindowMillis u_lastSubWindow u_total h0 n0 _ T8.heap _
        rw [e8]
        exact ⟨rfl, N8, K8, (by first | exact f9 | (rw [← hc3]; exact f9) | (rw [hc3]; exact f9)), Fw8, f10, f11, f12, f13, f14, f15⟩
  · skip
    obtain ⟨T17, h17, X17, e17, W17, st17⟩ := putF X1 hx hZ hown (host := "") (Or.inl (kw43 hw)) Via.refl e1 P2 P0 (Or.inl (kw44 hw)) (kw1 hw) (ty := .long) (by decide) rfl rfl (g := (mkF m 11 #[.val (.ref a1), .val (.long q1), .second, .val (.long q2), .second] [(.long q1), (.ref a1)])) rfl rfl (hb hby d5_11)
    have Z17 : n0 ≤ h17.size := Nat.le_trans Z0 (Keep.of_wr W17).1
    have K17 : Keep h0 h17 [a1] := KR.wr W17 (Or.inl (List.mem_of_getElem? (i := 0) rfl))
    have N17 := Fr.snoc X17 N0 P1
    have Fw17 : Fld Z h17 a1 "com/example/okno/okno/AdmissionLog" "callTime" "J" (.long q1) := P2.same W17
    have f18 : Fld Z h17 a1 "com/example/okno/okno/AdmissionLog" "callSteady" "J" (.long cs) := (P3.other W17 (Or.inr (slot_ne (Or.inl (kw46 hw)) (Or.inl (kw44 hw)) (by decide) (t := .long) (t' := .long) (by decide) (by decide))))
    obtain ⟨T19, X19, e19, st19⟩ := getF X17 hx hZ hown (host := "") (Or.inl (kw45 hw)) Via.refl e17 f18 (g := (mkF m 15 #[.val (.ref a1), .val (.long q1), .second, .val (.long q2), .second] [(.ref a1)])) rfl rfl (hb hby d5_15)
    have pre20 : ∀ t, Steps p.tables e below (T19.setTop (mkF m 20 #[.val (.ref a1), .val (.long q1), .second, .val (.long q2), .second] [(.int (lcmpW cs q2))])) t → Steps p.tables e below (s₁.setTop (entryFrame m #[(.ref a1), (.long q1), (.long q2)] 5)) t := fun t k => pre2 t (by
      refine XS.ifNo X1.here hx rfl (hb hby d5_6) rfl ((if0 _ _).trans (feq (fun q => hc3 ((lw_eq _ _).mp q))).1) ?_
      show Steps p.tables e below (T1.setTop (mkF m 9 #[.val (.ref a1), .val (.long q1), .second, .val (.long q2), .second] [])) _
      refine XS.aloadN X1.here hx rfl (hb hby d5_9) rfl rfl ?_
      show Steps p.tables e below (T1.setTop (mkF m 10 #[.val (.ref a1), .val (.long q1), .second, .val (.long q2), .second] [(.ref a1)])) _
      refine XS.lloadN X1.here hx rfl (hb hby d5_10) rfl ?_
      show Steps p.tables e below (T1.setTop (mkF m 11 #[.val (.ref a1), .val (.long q1), .second, .val (.long q2), .second] [(.long q1), (.ref a1)])) _
      refine st17 _ ?_
      show Steps p.tables e below (T17.setTop (mkF m 14 #[.val (.ref a1), .val (.long q1), .second, .val (.long q2), .second] [])) _
      refine XS.aloadN X17.here hx rfl (hb hby d5_14) rfl rfl ?_
      show Steps p.tables e below (T17.setTop (mkF m 15 #[.val (.ref a1), .val (.long q1), .second, .val (.long q2), .second] [(.ref a1)])) _
      refine st19 _ ?_
      show Steps p.tables e below (T19.setTop (mkF m 18 #[.val (.ref a1), .val (.long q1), .second, .val (.long q2), .second] [(.long cs)])) _
      refine XS.lloadN X19.here hx rfl (hb hby d5_18) rfl ?_
      show Steps p.tables e below (T19.setTop (mkF m 19 #[.val (.ref a1), .val (.long q1), .second, .val (.long q2), .second] [(.long q2), (.long cs)])) _
      refine XS.lcmp X19.here hx rfl (hb hby d5_19) rfl ?_
      show Steps p.tables e below (T19.setTop (mkF m 20 #[.val (.ref a1), .val (.long q1), .second, .val (.long q2), .second] [(.int (lcmpW cs q2))])) _
      exact k)
    by_cases hc21 : cs = q2
    · skip
      have f22 : Fld Z h17 a1 "com/example/okno/okno/AdmissionLog" "newest" "J" (.long u_newest) := (P4.other W17 (Or.inr (slot_ne (Or.inl (kw16 hw)) (Or.inl (kw44 hw)) (by decide) (t := .long) (t' := .long) (by decide) (by decide))))
      have f23 : Fld Z h17 a1 "com/example/okno/okno/AdmissionLog" "oldestSubWindow" "J" (.long u_oldestSubWindow) := (P5.other W17 (Or.inr (slot_ne (Or.inl (kw25 hw)) (Or.inl (kw44 hw)) (by decide) (t := .long) (t' := .long) (by decide) (by decide))))
      have f24 : Fld Z h17 a1 "com/example/okno/okno/AdmissionLog" "lastTime" "J" (.long u_lastTime) := (P6.other W17 (Or.inr (slot_ne (Or.inl (kw27 hw)) (Or.inl (kw44 hw)) (by decide) (t := .long) (t' := .long) (by decide) (by decide))))
      have f25 : Fld Z h17 a1 "com/example/okno/okno/AdmissionLog" "subWindowMillis" "J" (.long u_subWindowMillis) := (P7.other W17 (Or.inr (slot_ne (Or.inr (kw29 hw)) (Or.inl (kw44 hw)) (by decide) (t := .long) (t' := .long) (by decide) (by decide))))
      have f26 : Fld Z h17 a1 "com/example/okno/okno/AdmissionLog" "lastSubWindow" "J" (.long u_lastSubWindow) := (P8.other W17 (Or.inr (slot_ne (Or.inl (kw35 hw)) (Or.inl (kw44 hw)) (by decide) (t := .long) (t' := .long) (by decide) (by decide))))
      have f27 : Fld Z h17 a1 "com/example/okno/okno/AdmissionLog" "total" "J" (.long u_total) := (P9.other W17 (Or.inr (slot_ne (Or.inl (kw63 hw)) (Or.inl (kw44 hw)) (by decide) (t := .long) (t' := .long) (by decide) (by decide))))
      obtain ⟨fs, hr, hrun, hended, hW, hsame⟩ := X19.leave (v := none) (fun _ => rfl)
      refine ⟨_, _, pre20 _ ?_, hrun, hended, _, _, rfl, ?_, ⟨_, rfl⟩, hW, hsame.mono (by decide) (by decide)⟩
      · skip
        refine XS.ifYes X19.here hx rfl (pc0 := 20) (pc' := 28) rfl (hb hby d5_20) rfl ((if0 _ _).trans (teq ((lw_eq _ _).mpr hc21)).1) (by decide) (by decide) ?_
        show Steps p.tables e below (T19.setTop (mkF m 28 #[.val (.ref a1), .val (.long q1), .second, .val (.long q2), .second] [])) _
        exact X19.returnOut hx Bd.returns (hb hby d5_28) hr
      · show Q_rm5 Z a1 q1 q2 ct cs u_newest u_oldestSubWindow u_lastTime u_subWindowMillis u_lastSubWindow u_total h0 n0 _ T19.heap _
        rw [e19]
        exact ⟨rfl, N17, K17, Fw17, (by first | exact f18 | (rw [← hc21]; exact f18) | (rw [hc21]; exact f18)), f22, f23, f24, f25, f26, f27⟩
    · skip
      have f29 : Exa Z h17 a1 "com/example/okno/okno/AdmissionLog" := (P0.wr W17)
      obtain ⟨T30, h30, X30, e30, W30, st30⟩ := putF X19 hx hZ hown (host := "") (Or.inl (kw45 hw)) Via.refl e19 f18 f29 (Or.inl (kw46 hw)) (kw1 hw) (ty := .long) (by decide) rfl rfl (g := (mkF m 25 #[.val (.ref a1), .val (.long q1), .second, .val (.long q2), .second] [(.long q2), (.ref a1)])) rfl rfl (hb hby d5_25)
      have Z30 : n0 ≤ h30.size := Nat.le_trans Z17 (Keep.of_wr W30).1
      have K30 : Keep h0 h30 [a1] := K17.wr W30 (Or.inl (List.mem_of_getElem? (i := 0) rfl))
      have N30 := Fr.snoc X30 N17 P1
      have Fw30 : Fld Z h30 a1 "com/example/okno/okno/AdmissionLog" "callSteady" "J" (.long q2) := f18.same W30
      have f31 : Fld Z h30 a1 "com/example/okno/okno/AdmissionLog" "callTime" "J" (.long q1) := (Fw17.other W30 (Or.inr (slot_ne (Or.inl (kw44 hw)) (Or.inl (kw46 hw)) (by decide) (t := .long) (t' := .long) (by decide) (by decide))))
      have f32 : Fld Z h30 a1 "com/example/okno/okno/AdmissionLog" "newest" "J" (.long u_newest) := ((P4.other W17 (Or.inr (slot_ne (Or.inl (kw16 hw)) (Or.inl (kw44 hw)) (by decide) (t := .long) (t' := .long) (by decide) (by decide)))).other W30 (Or.inr (slot_ne (Or.inl (kw16 hw)) (Or.inl (kw46 hw)) (by decide) (t := .long) (t' := .long) (by decide) (by decide))))
      have f33 : Fld Z h30 a1 "com/example/okno/okno/AdmissionLog" "oldestSubWindow" "J" (.long u_oldestSubWindow) := ((P5.other W17 (Or.inr (slot_ne (Or.inl (kw25 hw)) (Or.inl (kw44 hw)) (by decide) (t := .long) (t' := .long) (by decide) (by decide)))).other W30 (Or.inr (slot_ne (Or.inl (kw25 hw)) (Or.inl (kw46 hw)) (by decide) (t := .long) (t' := .long) (by decide) (by decide))))
      have f34 : Fld Z h30 a1 "com/example/okno/okno/AdmissionLog" "lastTime" "J" (.long u_lastTime) := ((P6.other W17 (Or.inr (slot_ne (Or.inl (kw27 hw)) (Or.inl (kw44 hw)) (by decide) (t := .long) (t' := .long) (by decide) (by decide)))).other W30 (Or.inr (slot_ne (Or.inl (kw27 hw)) (Or.inl (kw46 hw)) (by decide) (t := .long) (t' := .long) (by decide) (by decide))))
      have f35 : Fld Z h30 a1 "com/example/okno/okno/AdmissionLog" "subWindowMillis" "J" (.long u_subWindowMillis) := ((P7.other W17 (Or.inr (slot_ne (Or.inr (kw29 hw)) (Or.inl (kw44 hw)) (by decide) (t := .long) (t' := .long) (by decide) (by decide)))).other W30 (Or.inr (slot_ne (Or.inr (kw29 hw)) (Or.inl (kw46 hw)) (by decide) (t := .long) (t' := .long) (by decide) (by decide))))
      have f36 : Fld Z h30 a1 "com/example/okno/okno/AdmissionLog" "lastSubWindow" "J" (.long u_lastSubWindow) := ((P8.other W17 (Or.inr (slot_ne (Or.inl (kw35 hw)) (Or.inl (kw44 hw)) (by decide) (t := .long) (t' := .long) (by decide) (by decide)))).other W30 (Or.inr (slot_ne (Or.inl (kw35 hw)) (Or.inl (kw46 hw)) (by decide) (t := .long) (t' := .long) (by decide) (by decide))))
      have f37 : Fld Z h30 a1 "com/example/okno/okno/AdmissionLog" "total" "J" (.long u_total) := ((P9.other W17 (Or.inr (slot_ne (Or.inl (kw63 hw)) (Or.inl (kw44 hw)) (by decide) (t := .long) (t' := .long) (by decide) (by decide)))).other W30 (Or.inr (slot_ne (Or.inl (kw63 hw)) (Or.inl (kw46 hw)) (by decide) (t := .long) (t' := .long) (by decide) (by decide))))
      obtain ⟨fs, hr, hrun, hended, hW, hsame⟩ := X30.leave (v := none) (fun _ => rfl)
      refine ⟨_, _, pre20 _ ?_, hrun, hended, _, _, rfl, ?_, ⟨_, rfl⟩, hW, hsame.mono (by decide) (by decide)⟩
      · skip
        refine XS.ifNo X19.here hx rfl (hb hby d5_20) rfl ((if0 _ _).trans (feq (fun q => hc21 ((lw_eq _ _).mp q))).1) ?_
        show Steps p.tables e below (T19.setTop (mkF m 23 #[.val (.ref a1), .val (.long q1), .second, .val (.long q2), .second] [])) _
        refine XS.aloadN X19.here hx rfl (hb hby d5_23) rfl rfl ?_
        show Steps p.tables e below (T19.setTop (mkF m 24 #[.val (.ref a1), .val (.long q1), .second, .val (.long q2), .second] [(.ref a1)])) _
        refine XS.lloadN X19.here hx rfl (hb hby d5_24) rfl ?_
        show Steps p.tables e below (T19.setTop (mkF m 25 #[.val (.ref a1), .val (.long q1), .second, .val (.long q2), .second] [(.long q2), (.ref a1)])) _
        refine st30 _ ?_
        show Steps p.tables e below (T30.setTop (mkF m 28 #[.val (.ref a1), .val (.long q1), .second, .val (.long q2), .second] [])) _
        exact X30.returnOut hx Bd.returns (hb hby d5_28) hr
      · show Q_rm5 Z a1 q1 q2 ct cs u_newest u_oldestSubWindow u_lastTime u_subWindowMillis u_lastSubWindow u_total h0 n0 _ T30.heap _
        rw [e30]
        exact ⟨rfl, N30, K30, f31, Fw30, f32, f33, f34, f35, f36, f37⟩
theorem ef_rm0 (m : MethodId) (x0 : Int64) (x1 : Int64) (x2 : Int64) (x3 : Int64) (x4 : Int32) : entryFrame m #[(.long x0), (.long x1), (.long x2), (.long x3), (.int x4)] maxLocals = mkF m 0 #[.val (.long x0), .second, .val (.long x1), .second, .val (.long x2), .second, .val (.long x3), .second, .val (.int x4), .unset, .unset, .unset, .unset, .unset, .unset] [] := by first | (simp [entryFrame, mkF, argsToLocals, Value.category, maxLocals]; done) | rfl
def Q_rm0 (Z : State) (q1 : Int64) (q2 : Int64) (q3 : Int64) (q4 : Int64) (p5 : Int32) (w_NO_ENTRIES : Addr) (h0 : Heap) (n0 : Nat) (v : Option Value) (h : Heap) (L : List Loc) : Prop := v = some (.int (1 : Int32)) ∧ Fr n0 L ∧ Keep h0 h []
set_option maxRecDepth 65536 in
set_option maxHeartbeats 40000000 in
theorem rm0 (l : Launch) (Z : State) (a0 : Array Value) (hw : ∀ d ∈ tables_1, d.before a0 Z = true) (ws : List Jvm.Cond) (q1 : Int64) (q2 : Int64) (q3 : Int64) (q4 : Int64) (p5 : Int32) (w_NO_ENTRIES : Addr) (h0 : Heap) (n0 : Nat) (Z0 : n0 ≤ h0.size) (P0 : Old Z n0 h0) (P1 : Sta Z Z.heap "com/example/okno/okno/AdmissionLog" "NO_ENTRIES" "[J" (.ref w_NO_ENTRIES)) :
    MetFree l x (head1 (Jvm.Cond.code x code maxLocals ret :: ws) room_1) (fun a U => a = #[(.long q1), (.long q2), (.long q3), (.long q4), (.int p5)] ∧ Z.Warmed39 U.vm ∧ U.heap = h0) (fun _ _ _ _ _ => True) (fun _ U o U' => ∃ v L, o = .returned v ∧ Q_rm0 Z q1 q2 q3 q4 p5 w_NO_ENTRIES h0 n0 v U'.heap L ∧ FrameEnd U o U' L room_1.cells room_1.slots) := by
  refine MetFree.of_bodySF (plainFor_of_name pn_2) hisR ?_
  intro p e s m args below meth c s₁ Bd hml0 hP hK
  obtain ⟨rfl, hZ, hh⟩ := hP
  have hx := Bd.exec
  have hby := Bd.bytes
  have hml : c.maxLocals = 15 := hml0
  have hown : s.vm.findClass "com/example/okno/okno/AdmissionLogSetCallReadingsPinLaw" = some m.cls := findClass_of_methodNamed Bd.named
  have hnm := (name_of_methodNamed Bd.named Bd.method).1
  have X0 : Stand p l e room_1 s m #[(.long q1), (.long q2), (.long q3), (.long q4), (.int p5)] below meth c s₁ [] 0 0 := Stand.of_body Bd
  have e0 : s₁.heap = h0 := by rw [← hh, Bd.state]; rfl
  have N0 := Fr.nil n0
  have KR : Keep h0 h0 [] := Keep.refl h0 _
  have pre0 : ∀ t, Steps p.tables e below (s₁.setTop (mkF m 0 #[.val (.long q1), .second, .val (.long q2), .second, .val (.long q3), .second, .val (.long q4), .second, .val (.int p5), .unset, .unset, .unset, .unset, .unset, .unset] [])) t → Steps p.tables e below (s₁.setTop (entryFrame m #[(.long q1), (.long q2), (.long q3), (.long q4), (.int p5)] maxLocals)) t := fun t k => castTop (ef_rm0 m (q1) (q2) (q3) (q4) (p5)) k
  obtain ⟨T1, h1, X1, e1, E1, A1, D1, -, st1⟩ := newO X0 hx hZ hown (kw0 hw) (kw1 hw) (kw2 hw) e0 (g := (mkF m 0 #[.val (.long q1), .second, .val (.long q2), .second, .val (.long q3), .second, .val (.long q4), .second, .val (.int p5), .unset, .unset, .unset, .unset, .unset, .unset] [])) rfl (hb hby at_0) (by decide) (by decide)
  obtain ⟨b1, g1⟩ : ∃ z, z = h0.size := ⟨_, rfl⟩
  rw [← g1] at A1 D1 st1
  have g_b1 : n0 ≤ b1 := Nat.le_trans Z0 (Nat.le_of_eq g1.symm)
  have sz_b1 : h0.size ≤ b1 := Nat.le_trans KR.1 (Nat.le_of_eq g1.symm)
  have Z1 : n0 ≤ h1.size := Nat.le_trans Z0 E1.1
  have K1 : Keep h0 h1 [] := KR.ext E1
  have F1_newest : Fld Z h1 b1 "com/example/okno/okno/AdmissionLog" "newest" "J" (.long (0 : Int64)) := D1 (Or.inl (kw16 hw)) (ty := .long) (by decide)
  have F1_subWindows : Fld Z h1 b1 "com/example/okno/okno/AdmissionLog" "subWindows" "[J" .null := D1 (Or.inl (kw20 hw)) (ty := (.array .long)) (by decide)
  have F1_amounts : Fld Z h1 b1 "com/example/okno/okno/AdmissionLog" "amounts" "[J" .null := D1 (Or.inl (kw22 hw)) (ty := (.array .long)) (by decide)
  have F1_oldestSubWindow : Fld Z h1 b1 "com/example/okno/okno/AdmissionLog" "oldestSubWindow" "J" (.long (0 : Int64)) := D1 (Or.inl (kw25 hw)) (ty := .long) (by decide)
  have F1_lastTime : Fld Z h1 b1 "com/example/okno/okno/AdmissionLog" "lastTime" "J" (.long (0 : Int64)) := D1 (Or.inl (kw27 hw)) (ty := .long) (by decide)
  have F1_subWindowMillis : Fld Z h1 b1 "com/example/okno/okno/AdmissionLog" "subWindowMillis" "J" (.long (0 : Int64)) := D1 (Or.inr (kw29 hw)) (ty := .long) (by decide)
  have F1_lastSubWindow : Fld Z h1 b1 "com/example/okno/okno/AdmissionLog" "lastSubWindow" "J" (.long (0 : Int64)) := D1 (Or.inl (kw35 hw)) (ty := .long) (by decide)
  have F1_shorterWindows : Fld Z h1 b1 "com/example/okno/okno/AdmissionLog" "shorterWindows" "[J" .null := D1 (Or.inr (kw37 hw)) (ty := (.array .long)) (by decide)
  have F1_callTime : Fld Z h1 b1 "com/example/okno/okno/AdmissionLog" "callTime" "J" (.long (0 : Int64)) := D1 (Or.inl (kw44 hw)) (ty := .long) (by decide)
  have F1_callSteady : Fld Z h1 b1 "com/example/okno/okno/AdmissionLog" "callSteady" "J" (.long (0 : Int64)) := D1 (Or.inl (kw46 hw)) (ty := .long) (by decide)
  have F1_total : Fld Z h1 b1 "com/example/okno/okno/AdmissionLog" "total" "J" (.long (0 : Int64)) := D1 (Or.inl (kw63 hw)) (ty := .long) (by decide)
  have f3 : Old Z n0 h1 := (P0.ext E1)
  obtain ⟨_, _, ⟨T2, L2, k2, n2⟩, -, X2, ⟨Lc2, hQ2, l2, y2, z2⟩, st2⟩ := X1.specialBack hx (y := (⟨"com/example/okno/okno/AdmissionLog", "<init>", "(JI)V"⟩ : MethodName)) rfl hown (mvT hZ (kw3 hw)) (mvT hZ (kw4 hw)) (mvT hZ (kw5 hw)) (by decide) (backOf (W := 1) (rm1 l Z a0 hw [] b1 (1 : Int64) w_NO_ENTRIES h1 n0 Z1 A1 g_b1 f3 P1 (by decide) F1_newest F1_subWindows F1_amounts F1_oldestSubWindow F1_lastTime F1_subWindowMillis F1_lastSubWindow F1_shorterWindows F1_callTime F1_callSteady F1_total) hZ (kw5 hw) (kw2 hw) (by decide) (by decide)) (g := (mkF m 6 #[.val (.long q1), .second, .val (.long q2), .second, .val (.long q3), .second, .val (.long q4), .second, .val (.int p5), .unset, .unset, .unset, .unset, .unset, .unset] [(.int (0 : Int32)), (.long (1 : Int64)), (.ref b1), (.ref b1)])) rfl (by rw [hml]; rfl) (Steps.refl _) (a := b1) (argsL := [(.long (1 : Int64)), (.int (0 : Int32))]) (rest := [(.ref b1)]) (lenOf pd_2 rfl) rfl (by show 2 * 0 + _ ≤ _; exact Nat.le_of_eq rfl) (hb hby at_6) (fun _ _ => ⟨rfl, e1, (by decide : 1 + 0 ≤ _), (by decide : 18 + 0 ≤ _)⟩)
  dsimp only [Pt.U, Pt.locs, Pt.cells, Pt.slots] at X2 l2 y2 z2 st2 hQ2
  subst l2 y2 z2
  obtain ⟨rfl, N2q, Kq2, p2_0, p2_1, p2_2, p2_3, p2_4, p2_5, p2_6, p2_7, p2_8, p2_9, p2_10⟩ := hQ2
  have N2 := Fr.app N0 N2q
  have Z2 : n0 ≤ T2.heap.size := Nat.le_trans Z1 Kq2.1
  have K2 : Keep h0 T2.heap [] := K1.trans Kq2 (allS (Or.inr sz_b1) all0)
  have pre4 : ∀ t, Steps p.tables e below (T2.setTop (mkF m 18 #[.val (.long q1), .second, .val (.long q2), .second, .val (.long q3), .second, .val (.long q4), .second, .val (.int p5), .val (.ref b1), .val (.int (1 : Int32)), .unset, .unset, .unset, .unset] [(.int (p5 &&& (1 : Int32)))])) t → Steps p.tables e below (s₁.setTop (entryFrame m #[(.long q1), (.long q2), (.long q3), (.long q4), (.int p5)] maxLocals)) t := fun t k => pre0 t (by
    show Steps p.tables e below (s₁.setTop (mkF m 0 #[.val (.long q1), .second, .val (.long q2), .second, .val (.long q3), .second, .val (.long q4), .second, .val (.int p5), .unset, .unset, .unset, .unset, .unset, .unset] [])) _
    refine st1 _ ?_
    show Steps p.tables e below (T1.setTop (mkF m 3 #[.val (.long q1), .second, .val (.long q2), .second, .val (.long q3), .second, .val (.long q4), .second, .val (.int p5), .unset, .unset, .unset, .unset, .unset, .unset] [(.ref b1)])) _
    refine XS.dup X1.here hx rfl (hb hby at_3) rfl rfl ?_
    show Steps p.tables e below (T1.setTop (mkF m 4 #[.val (.long q1), .second, .val (.long q2), .second, .val (.long q3), .second, .val (.long q4), .second, .val (.int p5), .unset, .unset, .unset, .unset, .unset, .unset] [(.ref b1), (.ref b1)])) _
    refine XS.lconst X1.here hx rfl (hb hby at_4) ?_
    show Steps p.tables e below (T1.setTop (mkF m 5 #[.val (.long q1), .second, .val (.long q2), .second, .val (.long q3), .second, .val (.long q4), .second, .val (.int p5), .unset, .unset, .unset, .unset, .unset, .unset] [(.long (1 : Int64)), (.ref b1), (.ref b1)])) _
    refine XS.iconst X1.here hx rfl (hb hby at_5) ?_
    show Steps p.tables e below (T1.setTop (mkF m 6 #[.val (.long q1), .second, .val (.long q2), .second, .val (.long q3), .second, .val (.long q4), .second, .val (.int p5), .unset, .unset, .unset, .unset, .unset, .unset] [(.int (0 : Int32)), (.long (1 : Int64)), (.ref b1), (.ref b1)])) _
    refine st2.trans ?_
    show Steps p.tables e below (T2.setTop (mkF m 9 #[.val (.long q1), .second, .val (.long q2), .second, .val (.long q3), .second, .val (.long q4), .second, .val (.int p5), .unset, .unset, .unset, .unset, .unset, .unset] [(.ref b1)])) _
    refine XS.astore X2.here hx rfl (hb hby at_9) rfl rfl (l' := #[.val (.long q1), .second, .val (.long q2), .second, .val (.long q3), .second, .val (.long q4), .second, .val (.int p5), .val (.ref b1), .unset, .unset, .unset, .unset, .unset]) rfl ?_
    show Steps p.tables e below (T2.setTop (mkF m 11 #[.val (.long q1), .second, .val (.long q2), .second, .val (.long q3), .second, .val (.long q4), .second, .val (.int p5), .val (.ref b1), .unset, .unset, .unset, .unset, .unset] [])) _
    refine XS.iconst X2.here hx rfl (hb hby at_11) ?_
    show Steps p.tables e below (T2.setTop (mkF m 12 #[.val (.long q1), .second, .val (.long q2), .second, .val (.long q3), .second, .val (.long q4), .second, .val (.int p5), .val (.ref b1), .unset, .unset, .unset, .unset, .unset] [(.int (1 : Int32))])) _
    refine XS.istore X2.here hx rfl (hb hby at_12) rfl (l' := #[.val (.long q1), .second, .val (.long q2), .second, .val (.long q3), .second, .val (.long q4), .second, .val (.int p5), .val (.ref b1), .val (.int (1 : Int32)), .unset, .unset, .unset, .unset]) rfl ?_
    show Steps p.tables e below (T2.setTop (mkF m 14 #[.val (.long q1), .second, .val (.long q2), .second, .val (.long q3), .second, .val (.long q4), .second, .val (.int p5), .val (.ref b1), .val (.int (1 : Int32)), .unset, .unset, .unset, .unset] [])) _
    refine XS.iload X2.here hx rfl (hb hby at_14) rfl ?_
    show Steps p.tables e below (T2.setTop (mkF m 16 #[.val (.long q1), .second, .val (.long q2), .second, .val (.long q3), .second, .val (.long q4), .second, .val (.int p5), .val (.ref b1), .val (.int (1 : Int32)), .unset, .unset, .unset, .unset] [(.int p5)])) _
    refine XS.iconst X2.here hx rfl (hb hby at_16) ?_
    show Steps p.tables e below (T2.setTop (mkF m 17 #[.val (.long q1), .second, .val (.long q2), .second, .val (.long q3), .second, .val (.long q4), .second, .val (.int p5), .val (.ref b1), .val (.int (1 : Int32)), .unset, .unset, .unset, .unset] [(.int (1 : Int32)), (.int p5)])) _
    refine XS.iand X2.here hx rfl (hb hby at_17) rfl ?_
    show Steps p.tables e below (T2.setTop (mkF m 18 #[.val (.long q1), .second, .val (.long q2), .second, .val (.long q3), .second, .val (.long q4), .second, .val (.int p5), .val (.ref b1), .val (.int (1 : Int32)), .unset, .unset, .unset, .unset] [(.int (p5 &&& (1 : Int32)))])) _
    exact k)
  by_cases hc5 : (p5 &&& (1 : Int32)) = (0 : Int32)
  · skip
    have pre6 : ∀ t, Steps p.tables e below (T2.setTop (mkF m 64 #[.val (.long q1), .second, .val (.long q2), .second, .val (.long q3), .second, .val (.long q4), .second, .val (.int p5), .val (.ref b1), .val (.int (1 : Int32)), .unset, .unset, .unset, .unset] [(.int (p5 &&& (2 : Int32)))])) t → Steps p.tables e below (s₁.setTop (entryFrame m #[(.long q1), (.long q2), (.long q3), (.long q4), (.int p5)] maxLocals)) t := fun t k => pre4 t (by
      refine XS.ifYes X2.here hx rfl (pc0 := 18) (pc' := 60) rfl (hb hby at_18) rfl ((if0 _ _).trans (teq hc5).1) (by decide) (by decide) ?_
      show Steps p.tables e below (T2.setTop (mkF m 60 #[.val (.long q1), .second, .val (.long q2), .second, .val (.long q3), .second, .val (.long q4), .second, .val (.int p5), .val (.ref b1), .val (.int (1 : Int32)), .unset, .unset, .unset, .unset] [])) _
      refine XS.iload X2.here hx rfl (hb hby at_60) rfl ?_
      show Steps p.tables e below (T2.setTop (mkF m 62 #[.val (.long q1), .second, .val (.long q2), .second, .val (.long q3), .second, .val (.long q4), .second, .val (.int p5), .val (.ref b1), .val (.int (1 : Int32)), .unset, .unset, .unset, .unset] [(.int p5)])) _
      refine XS.iconst X2.here hx rfl (hb hby at_62) ?_
      show Steps p.tables e below (T2.setTop (mkF m 63 #[.val (.long q1), .second, .val (.long q2), .second, .val (.long q3), .second, .val (.long q4), .second, .val (.int p5), .val (.ref b1), .val (.int (1 : Int32)), .unset, .unset, .unset, .unset] [(.int (2 : Int32)), (.int p5)])) _
      refine XS.iand X2.here hx rfl (hb hby at_63) rfl ?_
      show Steps p.tables e below (T2.setTop (mkF m 64 #[.val (.long q1), .second, .val (.long q2), .second, .val (.long q3), .second, .val (.long q4), .second, .val (.int p5), .val (.ref b1), .val (.int (1 : Int32)), .unset, .unset, .unset, .unset] [(.int (p5 &&& (2 : Int32)))])) _
      exact k)
    have pre8 : ∀ t, Steps p.tables e below (T2.setTop (mkF m 73 #[.val (.long q1), .second, .val (.long q2), .second, .val (.long q3), .second, .val (.long q4), .second, .val (.int p5), .val (.ref b1), .val (.int (1 : Int32)), .unset, .unset, .unset, .unset] [(.long (if (p5 &&& (2 : Int32)) = (0 : Int32) then q3 else q1))])) t → Steps p.tables e below (s₁.setTop (entryFrame m #[(.long q1), (.long q2), (.long q3), (.long q4), (.int p5)] maxLocals)) t := fun t k => pre6 t (by
      by_cases hc7 : (p5 &&& (2 : Int32)) = (0 : Int32)
      · skip
        refine XS.ifYes X2.here hx rfl (pc0 := 64) (pc' := 71) rfl (hb hby at_64) rfl ((if0 _ _).trans (teq hc7).1) (by decide) (by decide) ?_
        show Steps p.tables e below (T2.setTop (mkF m 71 #[.val (.long q1), .second, .val (.long q2), .second, .val (.long q3), .second, .val (.long q4), .second, .val (.int p5), .val (.ref b1), .val (.int (1 : Int32)), .unset, .unset, .unset, .unset] [])) _
        refine XS.lload X2.here hx rfl (hb hby at_71) rfl ?_
        show Steps p.tables e below (T2.setTop (mkF m 73 #[.val (.long q1), .second, .val (.long q2), .second, .val (.long q3), .second, .val (.long q4), .second, .val (.int p5), .val (.ref b1), .val (.int (1 : Int32)), .unset, .unset, .unset, .unset] [(.long q3)])) _
        simp only [if_pos hc7] at k; exact k
      · skip
        refine XS.ifNo X2.here hx rfl (hb hby at_64) rfl ((if0 _ _).trans (feq hc7).1) ?_
        show Steps p.tables e below (T2.setTop (mkF m 67 #[.val (.long q1), .second, .val (.long q2), .second, .val (.long q3), .second, .val (.long q4), .second, .val (.int p5), .val (.ref b1), .val (.int (1 : Int32)), .unset, .unset, .unset, .unset] [])) _
        refine XS.lloadN X2.here hx rfl (hb hby at_67) rfl ?_
        show Steps p.tables e below (T2.setTop (mkF m 68 #[.val (.long q1), .second, .val (.long q2), .second, .val (.long q3), .second, .val (.long q4), .second, .val (.int p5), .val (.ref b1), .val (.int (1 : Int32)), .unset, .unset, .unset, .unset] [(.long q1)])) _
        refine XS.goto X2.here hx rfl (pc0 := 68) (pc' := 73) rfl (hb hby at_68) (by decide) (by decide) ?_
        show Steps p.tables e below (T2.setTop (mkF m 73 #[.val (.long q1), .second, .val (.long q2), .second, .val (.long q3), .second, .val (.long q4), .second, .val (.int p5), .val (.ref b1), .val (.int (1 : Int32)), .unset, .unset, .unset, .unset] [(.long q1)])) _
        simp only [if_neg hc7] at k; exact k)
    obtain ⟨tt, h_tt⟩ : ∃ z : Int64, z = (if (p5 &&& (2 : Int32)) = (0 : Int32) then q3 else q1) := ⟨_, rfl⟩
    rw [← h_tt] at pre8
    have pre9 : ∀ t, Steps p.tables e below (T2.setTop (mkF m 79 #[.val (.long q1), .second, .val (.long q2), .second, .val (.long q3), .second, .val (.long q4), .second, .val (.int p5), .val (.ref b1), .val (.int (1 : Int32)), .val (.long tt), .second, .unset, .unset] [(.int (p5 &&& (4 : Int32)))])) t → Steps p.tables e below (s₁.setTop (entryFrame m #[(.long q1), (.long q2), (.long q3), (.long q4), (.int p5)] maxLocals)) t := fun t k => pre8 t (by
      show Steps p.tables e below (T2.setTop (mkF m 73 #[.val (.long q1), .second, .val (.long q2), .second, .val (.long q3), .second, .val (.long q4), .second, .val (.int p5), .val (.ref b1), .val (.int (1 : Int32)), .unset, .unset, .unset, .unset] [(.long tt)])) _
      refine XS.lstore X2.here hx rfl (hb hby at_73) rfl (l' := #[.val (.long q1), .second, .val (.long q2), .second, .val (.long q3), .second, .val (.long q4), .second, .val (.int p5), .val (.ref b1), .val (.int (1 : Int32)), .val (.long tt), .second, .unset, .unset]) rfl ?_
      show Steps p.tables e below (T2.setTop (mkF m 75 #[.val (.long q1), .second, .val (.long q2), .second, .val (.long q3), .second, .val (.long q4), .second, .val (.int p5), .val (.ref b1), .val (.int (1 : Int32)), .val (.long tt), .second, .unset, .unset] [])) _
      refine XS.iload X2.here hx rfl (hb hby at_75) rfl ?_
      show Steps p.tables e below (T2.setTop (mkF m 77 #[.val (.long q1), .second, .val (.long q2), .second, .val (.long q3), .second, .val (.long q4), .second, .val (.int p5), .val (.ref b1), .val (.int (1 : Int32)), .val (.long tt), .second, .unset, .unset] [(.int p5)])) _
      refine XS.iconst X2.here hx rfl (hb hby at_77) ?_
      show Steps p.tables e below (T2.setTop (mkF m 78 #[.val (.long q1), .second, .val (.long q2), .second, .val (.long q3), .second, .val (.long q4), .second, .val (.int p5), .val (.ref b1), .val (.int (1 : Int32)), .val (.long tt), .second, .unset, .unset] [(.int (4 : Int32)), (.int p5)])) _
      refine XS.iand X2.here hx rfl (hb hby at_78) rfl ?_
      show Steps p.tables e below (T2.setTop (mkF m 79 #[.val (.long q1), .second, .val (.long q2), .second, .val (.long q3), .second, .val (.long q4), .second, .val (.int p5), .val (.ref b1), .val (.int (1 : Int32)), .val (.long tt), .second, .unset, .unset] [(.int (p5 &&& (4 : Int32)))])) _
      exact k)
    have pre11 : ∀ t, Steps p.tables e below (T2.setTop (mkF m 88 #[.val (.long q1), .second, .val (.long q2), .second, .val (.long q3), .second, .val (.long q4), .second, .val (.int p5), .val (.ref b1), .val (.int (1 : Int32)), .val (.long tt), .second, .unset, .unset] [(.long (if (p5 &&& (4 : Int32)) = (0 : Int32) then q4 else q2))])) t → Steps p.tables e below (s₁.setTop (entryFrame m #[(.long q1), (.long q2), (.long q3), (.long q4), (.int p5)] maxLocals)) t := fun t k => pre9 t (by
      by_cases hc10 : (p5 &&& (4 : Int32)) = (0 : Int32)
      · skip
        refine XS.ifYes X2.here hx rfl (pc0 := 79) (pc' := 86) rfl (hb hby at_79) rfl ((if0 _ _).trans (teq hc10).1) (by decide) (by decide) ?_
        show Steps p.tables e below (T2.setTop (mkF m 86 #[.val (.long q1), .second, .val (.long q2), .second, .val (.long q3), .second, .val (.long q4), .second, .val (.int p5), .val (.ref b1), .val (.int (1 : Int32)), .val (.long tt), .second, .unset, .unset] [])) _
        refine XS.lload X2.here hx rfl (hb hby at_86) rfl ?_
        show Steps p.tables e below (T2.setTop (mkF m 88 #[.val (.long q1), .second, .val (.long q2), .second, .val (.long q3), .second, .val (.long q4), .second, .val (.int p5), .val (.ref b1), .val (.int (1 : Int32)), .val (.long tt), .second, .unset, .unset] [(.long q4)])) _
        simp only [if_pos hc10] at k; exact k
      · skip
        refine XS.ifNo X2.here hx rfl (hb hby at_79) rfl ((if0 _ _).trans (feq hc10).1) ?_
        show Steps p.tables e below (T2.setTop (mkF m 82 #[.val (.long q1), .second, .val (.long q2), .second, .val (.long q3), .second, .val (.long q4), .second, .val (.int p5), .val (.ref b1), .val (.int (1 : Int32)), .val (.long tt), .second, .unset, .unset] [])) _
        refine XS.lloadN X2.here hx rfl (hb hby at_82) rfl ?_
        show Steps p.tables e below (T2.setTop (mkF m 83 #[.val (.long q1), .second, .val (.long q2), .second, .val (.long q3), .second, .val (.long q4), .second, .val (.int p5), .val (.ref b1), .val (.int (1 : Int32)), .val (.long tt), .second, .unset, .unset] [(.long q2)])) _
        refine XS.goto X2.here hx rfl (pc0 := 83) (pc' := 88) rfl (hb hby at_83) (by decide) (by decide) ?_
        show Steps p.tables e below (T2.setTop (mkF m 88 #[.val (.long q1), .second, .val (.long q2), .second, .val (.long q3), .second, .val (.long q4), .second, .val (.int p5), .val (.ref b1), .val (.int (1 : Int32)), .val (.long tt), .second, .unset, .unset] [(.long q2)])) _
        simp only [if_neg hc10] at k; exact k)
    obtain ⟨ss, h_ss⟩ : ∃ z : Int64, z = (if (p5 &&& (4 : Int32)) = (0 : Int32) then q4 else q2) := ⟨_, rfl⟩
    rw [← h_ss] at pre11
    have f13 : Exa Z T2.heap b1 "com/example/okno/okno/AdmissionLog" := (A1.keep Kq2)
    obtain ⟨cq12, kq12, q12a, q12b, q12c⟩ := isOf hZ rfl f13
    obtain ⟨_, _, ⟨T12, L12, k12, n12⟩, -, X12, ⟨Lc12, hQ12, l12, y12, z12⟩, st12⟩ := X2.virtualBack hx (y := (⟨"com/example/okno/okno/AdmissionLog", "setCallReadings", "(JJ)V"⟩ : MethodName)) (z := (⟨"com/example/okno/okno/AdmissionLog", "setCallReadings", "(JJ)V"⟩ : MethodName)) hown (mvT hZ (kw38 hw)) (mvT hZ (kw39 hw)) (notFace_of_selects (args := #[]) (mvT hZ (kw41 hw))) (mvT hZ (kw41 hw)) (mvT hZ (kw40 hw)) (by decide) (backOf (W := 0) (rm5 l Z a0 hw [] b1 tt ss (0 : Int64) (0 : Int64) (-9223372036854775808 : Int64) (9223372036854775807 : Int64) (-9223372036854775808 : Int64) (1 : Int64) (own_fd (-9223372036854775808 : Int64) (1 : Int64)) (0 : Int64) T2.heap n0 Z2 f13 g_b1 p2_8 p2_9 p2_0 p2_3 p2_4 p2_5 p2_6 p2_10) hZ (kw42 hw) (kw2 hw) (by decide) (by decide)) q12a q12c (g := (mkF m 96 #[.val (.long q1), .second, .val (.long q2), .second, .val (.long q3), .second, .val (.long q4), .second, .val (.int p5), .val (.ref b1), .val (.int (1 : Int32)), .val (.long tt), .second, .val (.long ss), .second] [(.long ss), (.long tt), (.ref b1)])) rfl (by rw [hml]; rfl) (Steps.refl _) (argsL := [(.long tt), (.long ss)]) (rest := []) (lenOf pd_3 rfl) rfl (by show 2 * 0 + _ ≤ _; exact Nat.le_of_eq rfl) (hb hby at_96) (fun _ _ => ⟨rfl, rfl, (by decide : 1 + 0 ≤ _), (by decide : 18 + 0 ≤ _)⟩)
    dsimp only [Pt.U, Pt.locs, Pt.cells, Pt.slots] at X12 l12 y12 z12 st12 hQ12
    subst l12 y12 z12
    obtain ⟨rfl, N12q, Kq12, p12_0, p12_1, p12_2, p12_3, p12_4, p12_5, p12_6, p12_7⟩ := hQ12
    have N12 := Fr.app N2 N12q
    have Z12 : n0 ≤ T12.heap.size := Nat.le_trans Z2 Kq12.1
    have K12 : Keep h0 T12.heap [] := K2.trans Kq12 (allS (Or.inr sz_b1) all0)
    have f15 : Exa Z T12.heap b1 "com/example/okno/okno/AdmissionLog" := (f13.keep Kq12)
    obtain ⟨cq14, kq14, q14a, q14b, q14c⟩ := isOf hZ rfl f15
    obtain ⟨_, _, ⟨T14, L14, k14, n14⟩, -, X14, ⟨Lc14, hQ14, l14, y14, z14⟩, st14⟩ := X12.virtualBack hx (y := (⟨"com/example/okno/okno/AdmissionLog", "callTime", "()J"⟩ : MethodName)) (z := (⟨"com/example/okno/okno/AdmissionLog", "callTime", "()J"⟩ : MethodName)) hown (mvT hZ (kw47 hw)) (mvT hZ (kw48 hw)) (notFace_of_selects (args := #[]) (mvT hZ (kw50 hw))) (mvT hZ (kw50 hw)) (mvT hZ (kw49 hw)) (by decide) (backOf (W := 0) (rm6 l Z a0 hw [] b1 tt T12.heap n0 Z12 p12_0) hZ (kw51 hw) (kw2 hw) (by decide) (by decide)) q14a q14c (g := (mkF m 106 #[.val (.long q1), .second, .val (.long q2), .second, .val (.long q3), .second, .val (.long q4), .second, .val (.int p5), .val (.ref b1), .val (.int (1 : Int32)), .val (.long tt), .second, .val (.long ss), .second] [(.ref b1)])) rfl (by rw [hml]; rfl) (Steps.refl _) (argsL := []) (rest := []) (lenOf pd_4 rfl) rfl (by show 2 * 0 + _ ≤ _; exact Nat.le_of_eq rfl) (hb hby at_106) (fun _ _ => ⟨rfl, rfl, (by decide : 1 + 0 ≤ _), (by decide : 18 + 0 ≤ _)⟩)
    dsimp only [Pt.U, Pt.locs, Pt.cells, Pt.slots] at X14 l14 y14 z14 st14 hQ14
    subst l14 y14 z14
    obtain ⟨rfl, N14q, e14⟩ := hQ14
    have N14 := Fr.app N12 N14q
    obtain ⟨cq16, kq16, q16a, q16b, q16c⟩ := isOf hZ e14 f15
    obtain ⟨_, _, ⟨T16, L16, k16, n16⟩, -, X16, ⟨Lc16, hQ16, l16, y16, z16⟩, st16⟩ := X14.virtualBack hx (y := (⟨"com/example/okno/okno/AdmissionLog", "callSteady", "()J"⟩ : MethodName)) (z := (⟨"com/example/okno/okno/AdmissionLog", "callSteady", "()J"⟩ : MethodName)) hown (mvT hZ (kw52 hw)) (mvT hZ (kw53 hw)) (notFace_of_selects (args := #[]) (mvT hZ (kw55 hw))) (mvT hZ (kw55 hw)) (mvT hZ (kw54 hw)) (by decide) (backOf (W := 0) (rm7 l Z a0 hw [] b1 ss T12.heap n0 Z12 p12_1) hZ (kw56 hw) (kw2 hw) (by decide) (by decide)) q16a q16c (g := (mkF m 117 #[.val (.long q1), .second, .val (.long q2), .second, .val (.long q3), .second, .val (.long q4), .second, .val (.int p5), .val (.ref b1), .val (.int (1 : Int32)), .val (.long tt), .second, .val (.long ss), .second] [(.ref b1)])) rfl (by rw [hml]; rfl) (Steps.refl _) (argsL := []) (rest := []) (lenOf pd_4 rfl) rfl (by show 2 * 0 + _ ≤ _; exact Nat.le_of_eq rfl) (hb hby at_117) (fun _ _ => ⟨rfl, e14, (by decide : 1 + 0 ≤ _), (by decide : 18 + 0 ≤ _)⟩)
    dsimp only [Pt.U, Pt.locs, Pt.cells, Pt.slots] at X16 l16 y16 z16 st16 hQ16
    subst l16 y16 z16
    obtain ⟨rfl, N16q, e16⟩ := hQ16
    have N16 := Fr.app N14 N16q
    obtain ⟨cq17, kq17, q17a, q17b, q17c⟩ := isOf hZ e16 f15
    obtain ⟨_, _, ⟨T17, L17, k17, n17⟩, -, X17, ⟨Lc17, hQ17, l17, y17, z17⟩, st17⟩ := X16.virtualBack hx (y := (⟨"com/example/okno/okno/AdmissionLog", "total", "()J"⟩ : MethodName)) (z := (⟨"com/example/okno/okno/AdmissionLog", "total", "()J"⟩ : MethodName)) hown (mvT hZ (kw57 hw)) (mvT hZ (kw58 hw)) (notFace_of_selects (args := #[]) (mvT hZ (kw60 hw))) (mvT hZ (kw60 hw)) (mvT hZ (kw59 hw)) (by decide) (backOf (W := 0) (rm8 l Z a0 hw [] b1 (0 : Int64) T12.heap n0 Z12 p12_7) hZ (kw61 hw) (kw2 hw) (by decide) (by decide)) q17a q17c (g := (mkF m 140 #[.val (.long q1), .second, .val (.long q2), .second, .val (.long q3), .second, .val (.long q4), .second, .val (.int p5), .val (.ref b1), .val (.int (1 : Int32)), .val (.long tt), .second, .val (.long ss), .second] [(.ref b1)])) rfl (by rw [hml]; rfl) (Steps.refl _) (argsL := []) (rest := []) (lenOf pd_4 rfl) rfl (by show 2 * 0 + _ ≤ _; exact Nat.le_of_eq rfl) (hb hby at_140) (fun _ _ => ⟨rfl, e16, (by decide : 1 + 0 ≤ _), (by decide : 18 + 0 ≤ _)⟩)
    dsimp only [Pt.U, Pt.locs, Pt.cells, Pt.slots] at X17 l17 y17 z17 st17 hQ17
    subst l17 y17 z17
    obtain ⟨rfl, N17q, e17⟩ := hQ17
    have N17 := Fr.app N16 N17q
    obtain ⟨cq18, kq18, q18a, q18b, q18c⟩ := isOf hZ e17 f15
    obtain ⟨_, _, ⟨T18, L18, k18, n18⟩, -, X18, ⟨Lc18, hQ18, l18, y18, z18⟩, st18⟩ := X17.virtualBack hx (y := (⟨"com/example/okno/okno/AdmissionLog", "newest", "()J"⟩ : MethodName)) (z := (⟨"com/example/okno/okno/AdmissionLog", "newest", "()J"⟩ : MethodName)) hown (mvT hZ (kw64 hw)) (mvT hZ (kw65 hw)) (notFace_of_selects (args := #[]) (mvT hZ (kw67 hw))) (mvT hZ (kw67 hw)) (mvT hZ (kw66 hw)) (by decide) (backOf (W := 0) (rm9 l Z a0 hw [] b1 (-9223372036854775808 : Int64) T12.heap n0 Z12 p12_2) hZ (kw68 hw) (kw2 hw) (by decide) (by decide)) q18a q18c (g := (mkF m 150 #[.val (.long q1), .second, .val (.long q2), .second, .val (.long q3), .second, .val (.long q4), .second, .val (.int p5), .val (.ref b1), .val (.int (1 : Int32)), .val (.long tt), .second, .val (.long ss), .second] [(.ref b1)])) rfl (by rw [hml]; rfl) (Steps.refl _) (argsL := []) (rest := []) (lenOf pd_4 rfl) rfl (by show 2 * 0 + _ ≤ _; exact Nat.le_of_eq rfl) (hb hby at_150) (fun _ _ => ⟨rfl, e17, (by decide : 1 + 0 ≤ _), (by decide : 18 + 0 ≤ _)⟩)
    dsimp only [Pt.U, Pt.locs, Pt.cells, Pt.slots] at X18 l18 y18 z18 st18 hQ18
    subst l18 y18 z18
    obtain ⟨rfl, N18q, e18⟩ := hQ18
    have N18 := Fr.app N17 N18q
    obtain ⟨fs, hr, hrun, hended, hW, hsame⟩ := X18.leave (v := some (.int (1 : Int32))) (fun h => by rw [Bd.returns] at h; cases h)
    refine ⟨_, _, pre11 _ ?_, hrun, hended, _, _, rfl, ?_, ⟨_, rfl⟩, hW, hsame.mono (by decide) (by decide)⟩
    · skip
      show Steps p.tables e below (T2.setTop (mkF m 88 #[.val (.long q1), .second, .val (.long q2), .second, .val (.long q3), .second, .val (.long q4), .second, .val (.int p5), .val (.ref b1), .val (.int (1 : Int32)), .val (.long tt), .second, .unset, .unset] [(.long ss)])) _
      refine XS.lstore X2.here hx rfl (hb hby at_88) rfl (l' := #[.val (.long q1), .second, .val (.long q2), .second, .val (.long q3), .second, .val (.long q4), .second, .val (.int p5), .val (.ref b1), .val (.int (1 : Int32)), .val (.long tt), .second, .val (.long ss), .second]) rfl ?_
      show Steps p.tables e below (T2.setTop (mkF m 90 #[.val (.long q1), .second, .val (.long q2), .second, .val (.long q3), .second, .val (.long q4), .second, .val (.int p5), .val (.ref b1), .val (.int (1 : Int32)), .val (.long tt), .second, .val (.long ss), .second] [])) _
      refine XS.aload X2.here hx rfl (hb hby at_90) rfl rfl ?_
      show Steps p.tables e below (T2.setTop (mkF m 92 #[.val (.long q1), .second, .val (.long q2), .second, .val (.long q3), .second, .val (.long q4), .second, .val (.int p5), .val (.ref b1), .val (.int (1 : Int32)), .val (.long tt), .second, .val (.long ss), .second] [(.ref b1)])) _
      refine XS.lload X2.here hx rfl (hb hby at_92) rfl ?_
      show Steps p.tables e below (T2.setTop (mkF m 94 #[.val (.long q1), .second, .val (.long q2), .second, .val (.long q3), .second, .val (.long q4), .second, .val (.int p5), .val (.ref b1), .val (.int (1 : Int32)), .val (.long tt), .second, .val (.long ss), .second] [(.long tt), (.ref b1)])) _
      refine XS.lload X2.here hx rfl (hb hby at_94) rfl ?_
      show Steps p.tables e below (T2.setTop (mkF m 96 #[.val (.long q1), .second, .val (.long q2), .second, .val (.long q3), .second, .val (.long q4), .second, .val (.int p5), .val (.ref b1), .val (.int (1 : Int32)), .val (.long tt), .second, .val (.long ss), .second] [(.long ss), (.long tt), (.ref b1)])) _
      refine st12.trans ?_
      show Steps p.tables e below (T12.setTop (mkF m 99 #[.val (.long q1), .second, .val (.long q2), .second, .val (.long q3), .second, .val (.long q4), .second, .val (.int p5), .val (.ref b1), .val (.int (1 : Int32)), .val (.long tt), .second, .val (.long ss), .second] [])) _
      refine XS.iload X12.here hx rfl (hb hby at_99) rfl ?_
      show Steps p.tables e below (T12.setTop (mkF m 101 #[.val (.long q1), .second, .val (.long q2), .second, .val (.long q3), .second, .val (.long q4), .second, .val (.int p5), .val (.ref b1), .val (.int (1 : Int32)), .val (.long tt), .second, .val (.long ss), .second] [(.int (1 : Int32))])) _
      refine XS.ifNo X12.here hx rfl (hb hby at_101) rfl ((if0 _ _).trans (feq (by decide)).1) ?_
      show Steps p.tables e below (T12.setTop (mkF m 104 #[.val (.long q1), .second, .val (.long q2), .second, .val (.long q3), .second, .val (.long q4), .second, .val (.int p5), .val (.ref b1), .val (.int (1 : Int32)), .val (.long tt), .second, .val (.long ss), .second] [])) _
      refine XS.aload X12.here hx rfl (hb hby at_104) rfl rfl ?_
      show Steps p.tables e below (T12.setTop (mkF m 106 #[.val (.long q1), .second, .val (.long q2), .second, .val (.long q3), .second, .val (.long q4), .second, .val (.int p5), .val (.ref b1), .val (.int (1 : Int32)), .val (.long tt), .second, .val (.long ss), .second] [(.ref b1)])) _
      refine st14.trans ?_
      show Steps p.tables e below (T14.setTop (mkF m 109 #[.val (.long q1), .second, .val (.long q2), .second, .val (.long q3), .second, .val (.long q4), .second, .val (.int p5), .val (.ref b1), .val (.int (1 : Int32)), .val (.long tt), .second, .val (.long ss), .second] [(.long tt)])) _
      refine XS.lload X14.here hx rfl (hb hby at_109) rfl ?_
      show Steps p.tables e below (T14.setTop (mkF m 111 #[.val (.long q1), .second, .val (.long q2), .second, .val (.long q3), .second, .val (.long q4), .second, .val (.int p5), .val (.ref b1), .val (.int (1 : Int32)), .val (.long tt), .second, .val (.long ss), .second] [(.long tt), (.long tt)])) _
      refine XS.lcmp X14.here hx rfl (hb hby at_111) rfl ?_
      show Steps p.tables e below (T14.setTop (mkF m 112 #[.val (.long q1), .second, .val (.long q2), .second, .val (.long q3), .second, .val (.long q4), .second, .val (.int p5), .val (.ref b1), .val (.int (1 : Int32)), .val (.long tt), .second, .val (.long ss), .second] [(.int (lcmpW tt tt))])) _
      refine XS.ifNo X14.here hx rfl (hb hby at_112) rfl ((if0 _ _).trans (teq ((lw_eq _ _).mpr rfl)).2) ?_
      show Steps p.tables e below (T14.setTop (mkF m 115 #[.val (.long q1), .second, .val (.long q2), .second, .val (.long q3), .second, .val (.long q4), .second, .val (.int p5), .val (.ref b1), .val (.int (1 : Int32)), .val (.long tt), .second, .val (.long ss), .second] [])) _
      refine XS.aload X14.here hx rfl (hb hby at_115) rfl rfl ?_
      show Steps p.tables e below (T14.setTop (mkF m 117 #[.val (.long q1), .second, .val (.long q2), .second, .val (.long q3), .second, .val (.long q4), .second, .val (.int p5), .val (.ref b1), .val (.int (1 : Int32)), .val (.long tt), .second, .val (.long ss), .second] [(.ref b1)])) _
      refine st16.trans ?_
      show Steps p.tables e below (T16.setTop (mkF m 120 #[.val (.long q1), .second, .val (.long q2), .second, .val (.long q3), .second, .val (.long q4), .second, .val (.int p5), .val (.ref b1), .val (.int (1 : Int32)), .val (.long tt), .second, .val (.long ss), .second] [(.long ss)])) _
      refine XS.lload X16.here hx rfl (hb hby at_120) rfl ?_
      show Steps p.tables e below (T16.setTop (mkF m 122 #[.val (.long q1), .second, .val (.long q2), .second, .val (.long q3), .second, .val (.long q4), .second, .val (.int p5), .val (.ref b1), .val (.int (1 : Int32)), .val (.long tt), .second, .val (.long ss), .second] [(.long ss), (.long ss)])) _
      refine XS.lcmp X16.here hx rfl (hb hby at_122) rfl ?_
      show Steps p.tables e below (T16.setTop (mkF m 123 #[.val (.long q1), .second, .val (.long q2), .second, .val (.long q3), .second, .val (.long q4), .second, .val (.int p5), .val (.ref b1), .val (.int (1 : Int32)), .val (.long tt), .second, .val (.long ss), .second] [(.int (lcmpW ss ss))])) _
      refine XS.ifNo X16.here hx rfl (hb hby at_123) rfl ((if0 _ _).trans (teq ((lw_eq _ _).mpr rfl)).2) ?_
      show Steps p.tables e below (T16.setTop (mkF m 126 #[.val (.long q1), .second, .val (.long q2), .second, .val (.long q3), .second, .val (.long q4), .second, .val (.int p5), .val (.ref b1), .val (.int (1 : Int32)), .val (.long tt), .second, .val (.long ss), .second] [])) _
      refine XS.iconst X16.here hx rfl (hb hby at_126) ?_
      show Steps p.tables e below (T16.setTop (mkF m 127 #[.val (.long q1), .second, .val (.long q2), .second, .val (.long q3), .second, .val (.long q4), .second, .val (.int p5), .val (.ref b1), .val (.int (1 : Int32)), .val (.long tt), .second, .val (.long ss), .second] [(.int (1 : Int32))])) _
      refine XS.goto X16.here hx rfl (pc0 := 127) (pc' := 131) rfl (hb hby at_127) (by decide) (by decide) ?_
      show Steps p.tables e below (T16.setTop (mkF m 131 #[.val (.long q1), .second, .val (.long q2), .second, .val (.long q3), .second, .val (.long q4), .second, .val (.int p5), .val (.ref b1), .val (.int (1 : Int32)), .val (.long tt), .second, .val (.long ss), .second] [(.int (1 : Int32))])) _
      refine XS.istore X16.here hx rfl (hb hby at_131) rfl (l' := #[.val (.long q1), .second, .val (.long q2), .second, .val (.long q3), .second, .val (.long q4), .second, .val (.int p5), .val (.ref b1), .val (.int (1 : Int32)), .val (.long tt), .second, .val (.long ss), .second]) rfl ?_
      show Steps p.tables e below (T16.setTop (mkF m 133 #[.val (.long q1), .second, .val (.long q2), .second, .val (.long q3), .second, .val (.long q4), .second, .val (.int p5), .val (.ref b1), .val (.int (1 : Int32)), .val (.long tt), .second, .val (.long ss), .second] [])) _
      refine XS.iload X16.here hx rfl (hb hby at_133) rfl ?_
      show Steps p.tables e below (T16.setTop (mkF m 135 #[.val (.long q1), .second, .val (.long q2), .second, .val (.long q3), .second, .val (.long q4), .second, .val (.int p5), .val (.ref b1), .val (.int (1 : Int32)), .val (.long tt), .second, .val (.long ss), .second] [(.int (1 : Int32))])) _
      refine XS.ifNo X16.here hx rfl (hb hby at_135) rfl ((if0 _ _).trans (feq (by decide)).1) ?_
      show Steps p.tables e below (T16.setTop (mkF m 138 #[.val (.long q1), .second, .val (.long q2), .second, .val (.long q3), .second, .val (.long q4), .second, .val (.int p5), .val (.ref b1), .val (.int (1 : Int32)), .val (.long tt), .second, .val (.long ss), .second] [])) _
      refine XS.aload X16.here hx rfl (hb hby at_138) rfl rfl ?_
      show Steps p.tables e below (T16.setTop (mkF m 140 #[.val (.long q1), .second, .val (.long q2), .second, .val (.long q3), .second, .val (.long q4), .second, .val (.int p5), .val (.ref b1), .val (.int (1 : Int32)), .val (.long tt), .second, .val (.long ss), .second] [(.ref b1)])) _
      refine st17.trans ?_
      show Steps p.tables e below (T17.setTop (mkF m 143 #[.val (.long q1), .second, .val (.long q2), .second, .val (.long q3), .second, .val (.long q4), .second, .val (.int p5), .val (.ref b1), .val (.int (1 : Int32)), .val (.long tt), .second, .val (.long ss), .second] [(.long (0 : Int64))])) _
      refine XS.lconst X17.here hx rfl (hb hby at_143) ?_
      show Steps p.tables e below (T17.setTop (mkF m 144 #[.val (.long q1), .second, .val (.long q2), .second, .val (.long q3), .second, .val (.long q4), .second, .val (.int p5), .val (.ref b1), .val (.int (1 : Int32)), .val (.long tt), .second, .val (.long ss), .second] [(.long (0 : Int64)), (.long (0 : Int64))])) _
      refine XS.lcmp X17.here hx rfl (hb hby at_144) rfl ?_
      show Steps p.tables e below (T17.setTop (mkF m 145 #[.val (.long q1), .second, .val (.long q2), .second, .val (.long q3), .second, .val (.long q4), .second, .val (.int p5), .val (.ref b1), .val (.int (1 : Int32)), .val (.long tt), .second, .val (.long ss), .second] [(.int (lcmpW (0 : Int64) (0 : Int64)))])) _
      refine XS.ifNo X17.here hx rfl (hb hby at_145) rfl ((if0 _ _).trans (teq ((lw_eq _ _).mpr rfl)).2) ?_
      show Steps p.tables e below (T17.setTop (mkF m 148 #[.val (.long q1), .second, .val (.long q2), .second, .val (.long q3), .second, .val (.long q4), .second, .val (.int p5), .val (.ref b1), .val (.int (1 : Int32)), .val (.long tt), .second, .val (.long ss), .second] [])) _
      refine XS.aload X17.here hx rfl (hb hby at_148) rfl rfl ?_
      show Steps p.tables e below (T17.setTop (mkF m 150 #[.val (.long q1), .second, .val (.long q2), .second, .val (.long q3), .second, .val (.long q4), .second, .val (.int p5), .val (.ref b1), .val (.int (1 : Int32)), .val (.long tt), .second, .val (.long ss), .second] [(.ref b1)])) _
      refine st18.trans ?_
      show Steps p.tables e below (T18.setTop (mkF m 153 #[.val (.long q1), .second, .val (.long q2), .second, .val (.long q3), .second, .val (.long q4), .second, .val (.int p5), .val (.ref b1), .val (.int (1 : Int32)), .val (.long tt), .second, .val (.long ss), .second] [(.long (-9223372036854775808 : Int64))])) _
      refine X18.ldc2Long hx hown (mvT hZ (kw69 hw)) (g := (mkF m 153 #[.val (.long q1), .second, .val (.long q2), .second, .val (.long q3), .second, .val (.long q4), .second, .val (.int p5), .val (.ref b1), .val (.int (1 : Int32)), .val (.long tt), .second, .val (.long ss), .second] [(.long (-9223372036854775808 : Int64))])) rfl (hb hby at_153) _ ?_
      show Steps p.tables e below (T18.setTop (mkF m 156 #[.val (.long q1), .second, .val (.long q2), .second, .val (.long q3), .second, .val (.long q4), .second, .val (.int p5), .val (.ref b1), .val (.int (1 : Int32)), .val (.long tt), .second, .val (.long ss), .second] [(.long (-9223372036854775808 : Int64)), (.long (-9223372036854775808 : Int64))])) _
      refine XS.lcmp X18.here hx rfl (hb hby at_156) rfl ?_
      show Steps p.tables e below (T18.setTop (mkF m 157 #[.val (.long q1), .second, .val (.long q2), .second, .val (.long q3), .second, .val (.long q4), .second, .val (.int p5), .val (.ref b1), .val (.int (1 : Int32)), .val (.long tt), .second, .val (.long ss), .second] [(.int (lcmpW (-9223372036854775808 : Int64) (-9223372036854775808 : Int64)))])) _
      refine XS.ifNo X18.here hx rfl (hb hby at_157) rfl ((if0 _ _).trans (teq ((lw_eq _ _).mpr rfl)).2) ?_
      show Steps p.tables e below (T18.setTop (mkF m 160 #[.val (.long q1), .second, .val (.long q2), .second, .val (.long q3), .second, .val (.long q4), .second, .val (.int p5), .val (.ref b1), .val (.int (1 : Int32)), .val (.long tt), .second, .val (.long ss), .second] [])) _
      refine XS.iconst X18.here hx rfl (hb hby at_160) ?_
      show Steps p.tables e below (T18.setTop (mkF m 161 #[.val (.long q1), .second, .val (.long q2), .second, .val (.long q3), .second, .val (.long q4), .second, .val (.int p5), .val (.ref b1), .val (.int (1 : Int32)), .val (.long tt), .second, .val (.long ss), .second] [(.int (1 : Int32))])) _
      refine XS.goto X18.here hx rfl (pc0 := 161) (pc' := 165) rfl (hb hby at_161) (by decide) (by decide) ?_
      show Steps p.tables e below (T18.setTop (mkF m 165 #[.val (.long q1), .second, .val (.long q2), .second, .val (.long q3), .second, .val (.long q4), .second, .val (.int p5), .val (.ref b1), .val (.int (1 : Int32)), .val (.long tt), .second, .val (.long ss), .second] [(.int (1 : Int32))])) _
      refine XS.istore X18.here hx rfl (hb hby at_165) rfl (l' := #[.val (.long q1), .second, .val (.long q2), .second, .val (.long q3), .second, .val (.long q4), .second, .val (.int p5), .val (.ref b1), .val (.int (1 : Int32)), .val (.long tt), .second, .val (.long ss), .second]) rfl ?_
      show Steps p.tables e below (T18.setTop (mkF m 167 #[.val (.long q1), .second, .val (.long q2), .second, .val (.long q3), .second, .val (.long q4), .second, .val (.int p5), .val (.ref b1), .val (.int (1 : Int32)), .val (.long tt), .second, .val (.long ss), .second] [])) _
      refine XS.iload X18.here hx rfl (hb hby at_167) rfl ?_
      show Steps p.tables e below (T18.setTop (mkF m 169 #[.val (.long q1), .second, .val (.long q2), .second, .val (.long q3), .second, .val (.long q4), .second, .val (.int p5), .val (.ref b1), .val (.int (1 : Int32)), .val (.long tt), .second, .val (.long ss), .second] [(.int (1 : Int32))])) _
      exact retN X18 hx (t := .boolean) Bd.returns (by simp) (hb hby at_169) hr
    · show Q_rm0 Z q1 q2 q3 q4 p5 w_NO_ENTRIES h0 n0 _ T18.heap _
      rw [e18]
      exact ⟨rfl, N18, K12⟩
  · skip
    have f21 : Exa Z T2.heap b1 "com/example/okno/okno/AdmissionLog" := (A1.keep Kq2)
    obtain ⟨cq20, kq20, q20a, q20b, q20c⟩ := isOf hZ rfl f21
    obtain ⟨_, _, ⟨T20, L20, k20, n20⟩, -, X20, ⟨Lc20, hQ20, l20, y20, z20⟩, st20⟩ := X2.virtualBack hx (y := (⟨"com/example/okno/okno/AdmissionLog", "setCallReadings", "(JJ)V"⟩ : MethodName)) (z := (⟨"com/example/okno/okno/AdmissionLog", "setCallReadings", "(JJ)V"⟩ : MethodName)) hown (mvT hZ (kw38 hw)) (mvT hZ (kw39 hw)) (notFace_of_selects (args := #[]) (mvT hZ (kw41 hw))) (mvT hZ (kw41 hw)) (mvT hZ (kw40 hw)) (by decide) (backOf (W := 0) (rm5 l Z a0 hw [] b1 q1 q2 (0 : Int64) (0 : Int64) (-9223372036854775808 : Int64) (9223372036854775807 : Int64) (-9223372036854775808 : Int64) (1 : Int64) (own_fd (-9223372036854775808 : Int64) (1 : Int64)) (0 : Int64) T2.heap n0 Z2 f21 g_b1 p2_8 p2_9 p2_0 p2_3 p2_4 p2_5 p2_6 p2_10) hZ (kw42 hw) (kw2 hw) (by decide) (by decide)) q20a q20c (g := (mkF m 25 #[.val (.long q1), .second, .val (.long q2), .second, .val (.long q3), .second, .val (.long q4), .second, .val (.int p5), .val (.ref b1), .val (.int (1 : Int32)), .unset, .unset, .unset, .unset] [(.long q2), (.long q1), (.ref b1)])) rfl (by rw [hml]; rfl) (Steps.refl _) (argsL := [(.long q1), (.long q2)]) (rest := []) (lenOf pd_3 rfl) rfl (by show 2 * 0 + _ ≤ _; exact Nat.le_of_eq rfl) (hb hby at_25) (fun _ _ => ⟨rfl, rfl, (by decide : 1 + 0 ≤ _), (by decide : 18 + 0 ≤ _)⟩)
    dsimp only [Pt.U, Pt.locs, Pt.cells, Pt.slots] at X20 l20 y20 z20 st20 hQ20
    subst l20 y20 z20
    obtain ⟨rfl, N20q, Kq20, p20_0, p20_1, p20_2, p20_3, p20_4, p20_5, p20_6, p20_7⟩ := hQ20
    have N20 := Fr.app N2 N20q
    have Z20 : n0 ≤ T20.heap.size := Nat.le_trans Z2 Kq20.1
    have K20 : Keep h0 T20.heap [] := K2.trans Kq20 (allS (Or.inr sz_b1) all0)
    have f23 : Exa Z T20.heap b1 "com/example/okno/okno/AdmissionLog" := (f21.keep Kq20)
    obtain ⟨cq22, kq22, q22a, q22b, q22c⟩ := isOf hZ rfl f23
    obtain ⟨_, _, ⟨T22, L22, k22, n22⟩, -, X22, ⟨Lc22, hQ22, l22, y22, z22⟩, st22⟩ := X20.virtualBack hx (y := (⟨"com/example/okno/okno/AdmissionLog", "callTime", "()J"⟩ : MethodName)) (z := (⟨"com/example/okno/okno/AdmissionLog", "callTime", "()J"⟩ : MethodName)) hown (mvT hZ (kw47 hw)) (mvT hZ (kw48 hw)) (notFace_of_selects (args := #[]) (mvT hZ (kw50 hw))) (mvT hZ (kw50 hw)) (mvT hZ (kw49 hw)) (by decide) (backOf (W := 0) (rm6 l Z a0 hw [] b1 q1 T20.heap n0 Z20 p20_0) hZ (kw51 hw) (kw2 hw) (by decide) (by decide)) q22a q22c (g := (mkF m 35 #[.val (.long q1), .second, .val (.long q2), .second, .val (.long q3), .second, .val (.long q4), .second, .val (.int p5), .val (.ref b1), .val (.int (1 : Int32)), .unset, .unset, .unset, .unset] [(.ref b1)])) rfl (by rw [hml]; rfl) (Steps.refl _) (argsL := []) (rest := []) (lenOf pd_4 rfl) rfl (by show 2 * 0 + _ ≤ _; exact Nat.le_of_eq rfl) (hb hby at_35) (fun _ _ => ⟨rfl, rfl, (by decide : 1 + 0 ≤ _), (by decide : 18 + 0 ≤ _)⟩)
    dsimp only [Pt.U, Pt.locs, Pt.cells, Pt.slots] at X22 l22 y22 z22 st22 hQ22
    subst l22 y22 z22
    obtain ⟨rfl, N22q, e22⟩ := hQ22
    have N22 := Fr.app N20 N22q
    obtain ⟨cq24, kq24, q24a, q24b, q24c⟩ := isOf hZ e22 f23
    obtain ⟨_, _, ⟨T24, L24, k24, n24⟩, -, X24, ⟨Lc24, hQ24, l24, y24, z24⟩, st24⟩ := X22.virtualBack hx (y := (⟨"com/example/okno/okno/AdmissionLog", "callSteady", "()J"⟩ : MethodName)) (z := (⟨"com/example/okno/okno/AdmissionLog", "callSteady", "()J"⟩ : MethodName)) hown (mvT hZ (kw52 hw)) (mvT hZ (kw53 hw)) (notFace_of_selects (args := #[]) (mvT hZ (kw55 hw))) (mvT hZ (kw55 hw)) (mvT hZ (kw54 hw)) (by decide) (backOf (W := 0) (rm7 l Z a0 hw [] b1 q2 T20.heap n0 Z20 p20_1) hZ (kw56 hw) (kw2 hw) (by decide) (by decide)) q24a q24c (g := (mkF m 45 #[.val (.long q1), .second, .val (.long q2), .second, .val (.long q3), .second, .val (.long q4), .second, .val (.int p5), .val (.ref b1), .val (.int (1 : Int32)), .unset, .unset, .unset, .unset] [(.ref b1)])) rfl (by rw [hml]; rfl) (Steps.refl _) (argsL := []) (rest := []) (lenOf pd_4 rfl) rfl (by show 2 * 0 + _ ≤ _; exact Nat.le_of_eq rfl) (hb hby at_45) (fun _ _ => ⟨rfl, e22, (by decide : 1 + 0 ≤ _), (by decide : 18 + 0 ≤ _)⟩)
    dsimp only [Pt.U, Pt.locs, Pt.cells, Pt.slots] at X24 l24 y24 z24 st24 hQ24
    subst l24 y24 z24
    obtain ⟨rfl, N24q, e24⟩ := hQ24
    have N24 := Fr.app N22 N24q
    have pre25 : ∀ t, Steps p.tables e below (T24.setTop (mkF m 64 #[.val (.long q1), .second, .val (.long q2), .second, .val (.long q3), .second, .val (.long q4), .second, .val (.int p5), .val (.ref b1), .val (.int (1 : Int32)), .unset, .unset, .unset, .unset] [(.int (p5 &&& (2 : Int32)))])) t → Steps p.tables e below (s₁.setTop (entryFrame m #[(.long q1), (.long q2), (.long q3), (.long q4), (.int p5)] maxLocals)) t := fun t k => pre4 t (by
      refine XS.ifNo X2.here hx rfl (hb hby at_18) rfl ((if0 _ _).trans (feq hc5).1) ?_
      show Steps p.tables e below (T2.setTop (mkF m 21 #[.val (.long q1), .second, .val (.long q2), .second, .val (.long q3), .second, .val (.long q4), .second, .val (.int p5), .val (.ref b1), .val (.int (1 : Int32)), .unset, .unset, .unset, .unset] [])) _
      refine XS.aload X2.here hx rfl (hb hby at_21) rfl rfl ?_
      show Steps p.tables e below (T2.setTop (mkF m 23 #[.val (.long q1), .second, .val (.long q2), .second, .val (.long q3), .second, .val (.long q4), .second, .val (.int p5), .val (.ref b1), .val (.int (1 : Int32)), .unset, .unset, .unset, .unset] [(.ref b1)])) _
      refine XS.lloadN X2.here hx rfl (hb hby at_23) rfl ?_
      show Steps p.tables e below (T2.setTop (mkF m 24 #[.val (.long q1), .second, .val (.long q2), .second, .val (.long q3), .second, .val (.long q4), .second, .val (.int p5), .val (.ref b1), .val (.int (1 : Int32)), .unset, .unset, .unset, .unset] [(.long q1), (.ref b1)])) _
      refine XS.lloadN X2.here hx rfl (hb hby at_24) rfl ?_
      show Steps p.tables e below (T2.setTop (mkF m 25 #[.val (.long q1), .second, .val (.long q2), .second, .val (.long q3), .second, .val (.long q4), .second, .val (.int p5), .val (.ref b1), .val (.int (1 : Int32)), .unset, .unset, .unset, .unset] [(.long q2), (.long q1), (.ref b1)])) _
      refine st20.trans ?_
      show Steps p.tables e below (T20.setTop (mkF m 28 #[.val (.long q1), .second, .val (.long q2), .second, .val (.long q3), .second, .val (.long q4), .second, .val (.int p5), .val (.ref b1), .val (.int (1 : Int32)), .unset, .unset, .unset, .unset] [])) _
      refine XS.iload X20.here hx rfl (hb hby at_28) rfl ?_
      show Steps p.tables e below (T20.setTop (mkF m 30 #[.val (.long q1), .second, .val (.long q2), .second, .val (.long q3), .second, .val (.long q4), .second, .val (.int p5), .val (.ref b1), .val (.int (1 : Int32)), .unset, .unset, .unset, .unset] [(.int (1 : Int32))])) _
      refine XS.ifNo X20.here hx rfl (hb hby at_30) rfl ((if0 _ _).trans (feq (by decide)).1) ?_
      show Steps p.tables e below (T20.setTop (mkF m 33 #[.val (.long q1), .second, .val (.long q2), .second, .val (.long q3), .second, .val (.long q4), .second, .val (.int p5), .val (.ref b1), .val (.int (1 : Int32)), .unset, .unset, .unset, .unset] [])) _
      refine XS.aload X20.here hx rfl (hb hby at_33) rfl rfl ?_
      show Steps p.tables e below (T20.setTop (mkF m 35 #[.val (.long q1), .second, .val (.long q2), .second, .val (.long q3), .second, .val (.long q4), .second, .val (.int p5), .val (.ref b1), .val (.int (1 : Int32)), .unset, .unset, .unset, .unset] [(.ref b1)])) _
      refine st22.trans ?_
      show Steps p.tables e below (T22.setTop (mkF m 38 #[.val (.long q1), .second, .val (.long q2), .second, .val (.long q3), .second, .val (.long q4), .second, .val (.int p5), .val (.ref b1), .val (.int (1 : Int32)), .unset, .unset, .unset, .unset] [(.long q1)])) _
      refine XS.lloadN X22.here hx rfl (hb hby at_38) rfl ?_
      show Steps p.tables e below (T22.setTop (mkF m 39 #[.val (.long q1), .second, .val (.long q2), .second, .val (.long q3), .second, .val (.long q4), .second, .val (.int p5), .val (.ref b1), .val (.int (1 : Int32)), .unset, .unset, .unset, .unset] [(.long q1), (.long q1)])) _
      refine XS.lcmp X22.here hx rfl (hb hby at_39) rfl ?_
      show Steps p.tables e below (T22.setTop (mkF m 40 #[.val (.long q1), .second, .val (.long q2), .second, .val (.long q3), .second, .val (.long q4), .second, .val (.int p5), .val (.ref b1), .val (.int (1 : Int32)), .unset, .unset, .unset, .unset] [(.int (lcmpW q1 q1))])) _
      refine XS.ifNo X22.here hx rfl (hb hby at_40) rfl ((if0 _ _).trans (teq ((lw_eq _ _).mpr rfl)).2) ?_
      show Steps p.tables e below (T22.setTop (mkF m 43 #[.val (.long q1), .second, .val (.long q2), .second, .val (.long q3), .second, .val (.long q4), .second, .val (.int p5), .val (.ref b1), .val (.int (1 : Int32)), .unset, .unset, .unset, .unset] [])) _
      refine XS.aload X22.here hx rfl (hb hby at_43) rfl rfl ?_
      show Steps p.tables e below (T22.setTop (mkF m 45 #[.val (.long q1), .second, .val (.long q2), .second, .val (.long q3), .second, .val (.long q4), .second, .val (.int p5), .val (.ref b1), .val (.int (1 : Int32)), .unset, .unset, .unset, .unset] [(.ref b1)])) _
      refine st24.trans ?_
      show Steps p.tables e below (T24.setTop (mkF m 48 #[.val (.long q1), .second, .val (.long q2), .second, .val (.long q3), .second, .val (.long q4), .second, .val (.int p5), .val (.ref b1), .val (.int (1 : Int32)), .unset, .unset, .unset, .unset] [(.long q2)])) _
      refine XS.lloadN X24.here hx rfl (hb hby at_48) rfl ?_
      show Steps p.tables e below (T24.setTop (mkF m 49 #[.val (.long q1), .second, .val (.long q2), .second, .val (.long q3), .second, .val (.long q4), .second, .val (.int p5), .val (.ref b1), .val (.int (1 : Int32)), .unset, .unset, .unset, .unset] [(.long q2), (.long q2)])) _
      refine XS.lcmp X24.here hx rfl (hb hby at_49) rfl ?_
      show Steps p.tables e below (T24.setTop (mkF m 50 #[.val (.long q1), .second, .val (.long q2), .second, .val (.long q3), .second, .val (.long q4), .second, .val (.int p5), .val (.ref b1), .val (.int (1 : Int32)), .unset, .unset, .unset, .unset] [(.int (lcmpW q2 q2))])) _
      refine XS.ifNo X24.here hx rfl (hb hby at_50) rfl ((if0 _ _).trans (teq ((lw_eq _ _).mpr rfl)).2) ?_
      show Steps p.tables e below (T24.setTop (mkF m 53 #[.val (.long q1), .second, .val (.long q2), .second, .val (.long q3), .second, .val (.long q4), .second, .val (.int p5), .val (.ref b1), .val (.int (1 : Int32)), .unset, .unset, .unset, .unset] [])) _
      refine XS.iconst X24.here hx rfl (hb hby at_53) ?_
      show Steps p.tables e below (T24.setTop (mkF m 54 #[.val (.long q1), .second, .val (.long q2), .second, .val (.long q3), .second, .val (.long q4), .second, .val (.int p5), .val (.ref b1), .val (.int (1 : Int32)), .unset, .unset, .unset, .unset] [(.int (1 : Int32))])) _
      refine XS.goto X24.here hx rfl (pc0 := 54) (pc' := 58) rfl (hb hby at_54) (by decide) (by decide) ?_
      show Steps p.tables e below (T24.setTop (mkF m 58 #[.val (.long q1), .second, .val (.long q2), .second, .val (.long q3), .second, .val (.long q4), .second, .val (.int p5), .val (.ref b1), .val (.int (1 : Int32)), .unset, .unset, .unset, .unset] [(.int (1 : Int32))])) _
      refine XS.istore X24.here hx rfl (hb hby at_58) rfl (l' := #[.val (.long q1), .second, .val (.long q2), .second, .val (.long q3), .second, .val (.long q4), .second, .val (.int p5), .val (.ref b1), .val (.int (1 : Int32)), .unset, .unset, .unset, .unset]) rfl ?_
      show Steps p.tables e below (T24.setTop (mkF m 60 #[.val (.long q1), .second, .val (.long q2), .second, .val (.long q3), .second, .val (.long q4), .second, .val (.int p5), .val (.ref b1), .val (.int (1 : Int32)), .unset, .unset, .unset, .unset] [])) _
      refine XS.iload X24.here hx rfl (hb hby at_60) rfl ?_
      show Steps p.tables e below (T24.setTop (mkF m 62 #[.val (.long q1), .second, .val (.long q2), .second, .val (.long q3), .second, .val (.long q4), .second, .val (.int p5), .val (.ref b1), .val (.int (1 : Int32)), .unset, .unset, .unset, .unset] [(.int p5)])) _
      refine XS.iconst X24.here hx rfl (hb hby at_62) ?_
      show Steps p.tables e below (T24.setTop (mkF m 63 #[.val (.long q1), .second, .val (.long q2), .second, .val (.long q3), .second, .val (.long q4), .second, .val (.int p5), .val (.ref b1), .val (.int (1 : Int32)), .unset, .unset, .unset, .unset] [(.int (2 : Int32)), (.int p5)])) _
      refine XS.iand X24.here hx rfl (hb hby at_63) rfl ?_
      show Steps p.tables e below (T24.setTop (mkF m 64 #[.val (.long q1), .second, .val (.long q2), .second, .val (.long q3), .second, .val (.long q4), .second, .val (.int p5), .val (.ref b1), .val (.int (1 : Int32)), .unset, .unset, .unset, .unset] [(.int (p5 &&& (2 : Int32)))])) _
      exact k)
    have pre27 : ∀ t, Steps p.tables e below (T24.setTop (mkF m 73 #[.val (.long q1), .second, .val (.long q2), .second, .val (.long q3), .second, .val (.long q4), .second, .val (.int p5), .val (.ref b1), .val (.int (1 : Int32)), .unset, .unset, .unset, .unset] [(.long (if (p5 &&& (2 : Int32)) = (0 : Int32) then q3 else q1))])) t → Steps p.tables e below (s₁.setTop (entryFrame m #[(.long q1), (.long q2), (.long q3), (.long q4), (.int p5)] maxLocals)) t := fun t k => pre25 t (by
      by_cases hc26 : (p5 &&& (2 : Int32)) = (0 : Int32)
      · skip
        refine XS.ifYes X24.here hx rfl (pc0 := 64) (pc' := 71) rfl (hb hby at_64) rfl ((if0 _ _).trans (teq hc26).1) (by decide) (by decide) ?_
        show Steps p.tables e below (T24.setTop (mkF m 71 #[.val (.long q1), .second, .val (.long q2), .second, .val (.long q3), .second, .val (.long q4), .second, .val (.int p5), .val (.ref b1), .val (.int (1 : Int32)), .unset, .unset, .unset, .unset] [])) _
        refine XS.lload X24.here hx rfl (hb hby at_71) rfl ?_
        show Steps p.tables e below (T24.setTop (mkF m 73 #[.val (.long q1), .second, .val (.long q2), .second, .val (.long q3), .second, .val (.long q4), .second, .val (.int p5), .val (.ref b1), .val (.int (1 : Int32)), .unset, .unset, .unset, .unset] [(.long q3)])) _
        simp only [if_pos hc26] at k; exact k
      · skip
        refine XS.ifNo X24.here hx rfl (hb hby at_64) rfl ((if0 _ _).trans (feq hc26).1) ?_
        show Steps p.tables e below (T24.setTop (mkF m 67 #[.val (.long q1), .second, .val (.long q2), .second, .val (.long q3), .second, .val (.long q4), .second, .val (.int p5), .val (.ref b1), .val (.int (1 : Int32)), .unset, .unset, .unset, .unset] [])) _
        refine XS.lloadN X24.here hx rfl (hb hby at_67) rfl ?_
        show Steps p.tables e below (T24.setTop (mkF m 68 #[.val (.long q1), .second, .val (.long q2), .second, .val (.long q3), .second, .val (.long q4), .second, .val (.int p5), .val (.ref b1), .val (.int (1 : Int32)), .unset, .unset, .unset, .unset] [(.long q1)])) _
        refine XS.goto X24.here hx rfl (pc0 := 68) (pc' := 73) rfl (hb hby at_68) (by decide) (by decide) ?_
        show Steps p.tables e below (T24.setTop (mkF m 73 #[.val (.long q1), .second, .val (.long q2), .second, .val (.long q3), .second, .val (.long q4), .second, .val (.int p5), .val (.ref b1), .val (.int (1 : Int32)), .unset, .unset, .unset, .unset] [(.long q1)])) _
        simp only [if_neg hc26] at k; exact k)
    obtain ⟨tt, h_tt⟩ : ∃ z : Int64, z = (if (p5 &&& (2 : Int32)) = (0 : Int32) then q3 else q1) := ⟨_, rfl⟩
    rw [← h_tt] at pre27
    have pre28 : ∀ t, Steps p.tables e below (T24.setTop (mkF m 79 #[.val (.long q1), .second, .val (.long q2), .second, .val (.long q3), .second, .val (.long q4), .second, .val (.int p5), .val (.ref b1), .val (.int (1 : Int32)), .val (.long tt), .second, .unset, .unset] [(.int (p5 &&& (4 : Int32)))])) t → Steps p.tables e below (s₁.setTop (entryFrame m #[(.long q1), (.long q2), (.long q3), (.long q4), (.int p5)] maxLocals)) t := fun t k => pre27 t (by
      show Steps p.tables e below (T24.setTop (mkF m 73 #[.val (.long q1), .second, .val (.long q2), .second, .val (.long q3), .second, .val (.long q4), .second, .val (.int p5), .val (.ref b1), .val (.int (1 : Int32)), .unset, .unset, .unset, .unset] [(.long tt)])) _
      refine XS.lstore X24.here hx rfl (hb hby at_73) rfl (l' := #[.val (.long q1), .second, .val (.long q2), .second, .val (.long q3), .second, .val (.long q4), .second, .val (.int p5), .val (.ref b1), .val (.int (1 : Int32)), .val (.long tt), .second, .unset, .unset]) rfl ?_
      show Steps p.tables e below (T24.setTop (mkF m 75 #[.val (.long q1), .second, .val (.long q2), .second, .val (.long q3), .second, .val (.long q4), .second, .val (.int p5), .val (.ref b1), .val (.int (1 : Int32)), .val (.long tt), .second, .unset, .unset] [])) _
      refine XS.iload X24.here hx rfl (hb hby at_75) rfl ?_
      show Steps p.tables e below (T24.setTop (mkF m 77 #[.val (.long q1), .second, .val (.long q2), .second, .val (.long q3), .second, .val (.long q4), .second, .val (.int p5), .val (.ref b1), .val (.int (1 : Int32)), .val (.long tt), .second, .unset, .unset] [(.int p5)])) _
      refine XS.iconst X24.here hx rfl (hb hby at_77) ?_
      show Steps p.tables e below (T24.setTop (mkF m 78 #[.val (.long q1), .second, .val (.long q2), .second, .val (.long q3), .second, .val (.long q4), .second, .val (.int p5), .val (.ref b1), .val (.int (1 : Int32)), .val (.long tt), .second, .unset, .unset] [(.int (4 : Int32)), (.int p5)])) _
      refine XS.iand X24.here hx rfl (hb hby at_78) rfl ?_
      show Steps p.tables e below (T24.setTop (mkF m 79 #[.val (.long q1), .second, .val (.long q2), .second, .val (.long q3), .second, .val (.long q4), .second, .val (.int p5), .val (.ref b1), .val (.int (1 : Int32)), .val (.long tt), .second, .unset, .unset] [(.int (p5 &&& (4 : Int32)))])) _
      exact k)
    have pre30 : ∀ t, Steps p.tables e below (T24.setTop (mkF m 88 #[.val (.long q1), .second, .val (.long q2), .second, .val (.long q3), .second, .val (.long q4), .second, .val (.int p5), .val (.ref b1), .val (.int (1 : Int32)), .val (.long tt), .second, .unset, .unset] [(.long (if (p5 &&& (4 : Int32)) = (0 : Int32) then q4 else q2))])) t → Steps p.tables e below (s₁.setTop (entryFrame m #[(.long q1), (.long q2), (.long q3), (.long q4), (.int p5)] maxLocals)) t := fun t k => pre28 t (by
      by_cases hc29 : (p5 &&& (4 : Int32)) = (0 : Int32)
      · skip
        refine XS.ifYes X24.here hx rfl (pc0 := 79) (pc' := 86) rfl (hb hby at_79) rfl ((if0 _ _).trans (teq hc29).1) (by decide) (by decide) ?_
        show Steps p.tables e below (T24.setTop (mkF m 86 #[.val (.long q1), .second, .val (.long q2), .second, .val (.long q3), .second, .val (.long q4), .second, .val (.int p5), .val (.ref b1), .val (.int (1 : Int32)), .val (.long tt), .second, .unset, .unset] [])) _
        refine XS.lload X24.here hx rfl (hb hby at_86) rfl ?_
        show Steps p.tables e below (T24.setTop (mkF m 88 #[.val (.long q1), .second, .val (.long q2), .second, .val (.long q3), .second, .val (.long q4), .second, .val (.int p5), .val (.ref b1), .val (.int (1 : Int32)), .val (.long tt), .second, .unset, .unset] [(.long q4)])) _
        simp only [if_pos hc29] at k; exact k
      · skip
        refine XS.ifNo X24.here hx rfl (hb hby at_79) rfl ((if0 _ _).trans (feq hc29).1) ?_
        show Steps p.tables e below (T24.setTop (mkF m 82 #[.val (.long q1), .second, .val (.long q2), .second, .val (.long q3), .second, .val (.long q4), .second, .val (.int p5), .val (.ref b1), .val (.int (1 : Int32)), .val (.long tt), .second, .unset, .unset] [])) _
        refine XS.lloadN X24.here hx rfl (hb hby at_82) rfl ?_
        show Steps p.tables e below (T24.setTop (mkF m 83 #[.val (.long q1), .second, .val (.long q2), .second, .val (.long q3), .second, .val (.long q4), .second, .val (.int p5), .val (.ref b1), .val (.int (1 : Int32)), .val (.long tt), .second, .unset, .unset] [(.long q2)])) _
        refine XS.goto X24.here hx rfl (pc0 := 83) (pc' := 88) rfl (hb hby at_83) (by decide) (by decide) ?_
        show Steps p.tables e below (T24.setTop (mkF m 88 #[.val (.long q1), .second, .val (.long q2), .second, .val (.long q3), .second, .val (.long q4), .second, .val (.int p5), .val (.ref b1), .val (.int (1 : Int32)), .val (.long tt), .second, .unset, .unset] [(.long q2)])) _
        simp only [if_neg hc29] at k; exact k)
    obtain ⟨ss, h_ss⟩ : ∃ z : Int64, z = (if (p5 &&& (4 : Int32)) = (0 : Int32) then q4 else q2) := ⟨_, rfl⟩
    rw [← h_ss] at pre30
    obtain ⟨cq31, kq31, q31a, q31b, q31c⟩ := isOf hZ e24 f23
    obtain ⟨_, _, ⟨T31, L31, k31, n31⟩, -, X31, ⟨Lc31, hQ31, l31, y31, z31⟩, st31⟩ := X24.virtualBack hx (y := (⟨"com/example/okno/okno/AdmissionLog", "setCallReadings", "(JJ)V"⟩ : MethodName)) (z := (⟨"com/example/okno/okno/AdmissionLog", "setCallReadings", "(JJ)V"⟩ : MethodName)) hown (mvT hZ (kw38 hw)) (mvT hZ (kw39 hw)) (notFace_of_selects (args := #[]) (mvT hZ (kw41 hw))) (mvT hZ (kw41 hw)) (mvT hZ (kw40 hw)) (by decide) (backOf (W := 0) (rm5 l Z a0 hw [] b1 tt ss q1 q2 (-9223372036854775808 : Int64) (9223372036854775807 : Int64) (-9223372036854775808 : Int64) (1 : Int64) (own_fd (-9223372036854775808 : Int64) (1 : Int64)) (0 : Int64) T20.heap n0 Z20 f23 g_b1 p20_0 p20_1 p20_2 p20_3 p20_4 p20_5 p20_6 p20_7) hZ (kw42 hw) (kw2 hw) (by decide) (by decide)) q31a q31c (g := (mkF m 96 #[.val (.long q1), .second, .val (.long q2), .second, .val (.long q3), .second, .val (.long q4), .second, .val (.int p5), .val (.ref b1), .val (.int (1 : Int32)), .val (.long tt), .second, .val (.long ss), .second] [(.long ss), (.long tt), (.ref b1)])) rfl (by rw [hml]; rfl) (Steps.refl _) (argsL := [(.long tt), (.long ss)]) (rest := []) (lenOf pd_3 rfl) rfl (by show 2 * 0 + _ ≤ _; exact Nat.le_of_eq rfl) (hb hby at_96) (fun _ _ => ⟨rfl, e24, (by decide : 1 + 0 ≤ _), (by decide : 18 + 0 ≤ _)⟩)
    dsimp only [Pt.U, Pt.locs, Pt.cells, Pt.slots] at X31 l31 y31 z31 st31 hQ31
    subst l31 y31 z31
    obtain ⟨rfl, N31q, Kq31, p31_0, p31_1, p31_2, p31_3, p31_4, p31_5, p31_6, p31_7⟩ := hQ31
    have N31 := Fr.app N24 N31q
    have Z31 : n0 ≤ T31.heap.size := Nat.le_trans Z20 Kq31.1
    have K31 : Keep h0 T31.heap [] := K20.trans Kq31 (allS (Or.inr sz_b1) all0)
    have f33 : Exa Z T31.heap b1 "com/example/okno/okno/AdmissionLog" := (f23.keep Kq31)
    obtain ⟨cq32, kq32, q32a, q32b, q32c⟩ := isOf hZ rfl f33
    obtain ⟨_, _, ⟨T32, L32, k32, n32⟩, -, X32, ⟨Lc32, hQ32, l32, y32, z32⟩, st32⟩ := X31.virtualBack hx (y := (⟨"com/example/okno/okno/AdmissionLog", "callTime", "()J"⟩ : MethodName)) (z := (⟨"com/example/okno/okno/AdmissionLog", "callTime", "()J"⟩ : MethodName)) hown (mvT hZ (kw47 hw)) (mvT hZ (kw48 hw)) (notFace_of_selects (args := #[]) (mvT hZ (kw50 hw))) (mvT hZ (kw50 hw)) (mvT hZ (kw49 hw)) (by decide) (backOf (W := 0) (rm6 l Z a0 hw [] b1 tt T31.heap n0 Z31 p31_0) hZ (kw51 hw) (kw2 hw) (by decide) (by decide)) q32a q32c (g := (mkF m 106 #[.val (.long q1), .second, .val (.long q2), .second, .val (.long q3), .second, .val (.long q4), .second, .val (.int p5), .val (.ref b1), .val (.int (1 : Int32)), .val (.long tt), .second, .val (.long ss), .second] [(.ref b1)])) rfl (by rw [hml]; rfl) (Steps.refl _) (argsL := []) (rest := []) (lenOf pd_4 rfl) rfl (by show 2 * 0 + _ ≤ _; exact Nat.le_of_eq rfl) (hb hby at_106) (fun _ _ => ⟨rfl, rfl, (by decide : 1 + 0 ≤ _), (by decide : 18 + 0 ≤ _)⟩)
    dsimp only [Pt.U, Pt.locs, Pt.cells, Pt.slots] at X32 l32 y32 z32 st32 hQ32
    subst l32 y32 z32
    obtain ⟨rfl, N32q, e32⟩ := hQ32
    have N32 := Fr.app N31 N32q
    obtain ⟨cq34, kq34, q34a, q34b, q34c⟩ := isOf hZ e32 f33
    obtain ⟨_, _, ⟨T34, L34, k34, n34⟩, -, X34, ⟨Lc34, hQ34, l34, y34, z34⟩, st34⟩ := X32.virtualBack hx (y := (⟨"com/example/okno/okno/AdmissionLog", "callSteady", "()J"⟩ : MethodName)) (z := (⟨"com/example/okno/okno/AdmissionLog", "callSteady", "()J"⟩ : MethodName)) hown (mvT hZ (kw52 hw)) (mvT hZ (kw53 hw)) (notFace_of_selects (args := #[]) (mvT hZ (kw55 hw))) (mvT hZ (kw55 hw)) (mvT hZ (kw54 hw)) (by decide) (backOf (W := 0) (rm7 l Z a0 hw [] b1 ss T31.heap n0 Z31 p31_1) hZ (kw56 hw) (kw2 hw) (by decide) (by decide)) q34a q34c (g := (mkF m 117 #[.val (.long q1), .second, .val (.long q2), .second, .val (.long q3), .second, .val (.long q4), .second, .val (.int p5), .val (.ref b1), .val (.int (1 : Int32)), .val (.long tt), .second, .val (.long ss), .second] [(.ref b1)])) rfl (by rw [hml]; rfl) (Steps.refl _) (argsL := []) (rest := []) (lenOf pd_4 rfl) rfl (by show 2 * 0 + _ ≤ _; exact Nat.le_of_eq rfl) (hb hby at_117) (fun _ _ => ⟨rfl, e32, (by decide : 1 + 0 ≤ _), (by decide : 18 + 0 ≤ _)⟩)
    dsimp only [Pt.U, Pt.locs, Pt.cells, Pt.slots] at X34 l34 y34 z34 st34 hQ34
    subst l34 y34 z34
    obtain ⟨rfl, N34q, e34⟩ := hQ34
    have N34 := Fr.app N32 N34q
    obtain ⟨cq35, kq35, q35a, q35b, q35c⟩ := isOf hZ e34 f33
    obtain ⟨_, _, ⟨T35, L35, k35, n35⟩, -, X35, ⟨Lc35, hQ35, l35, y35, z35⟩, st35⟩ := X34.virtualBack hx (y := (⟨"com/example/okno/okno/AdmissionLog", "total", "()J"⟩ : MethodName)) (z := (⟨"com/example/okno/okno/AdmissionLog", "total", "()J"⟩ : MethodName)) hown (mvT hZ (kw57 hw)) (mvT hZ (kw58 hw)) (notFace_of_selects (args := #[]) (mvT hZ (kw60 hw))) (mvT hZ (kw60 hw)) (mvT hZ (kw59 hw)) (by decide) (backOf (W := 0) (rm8 l Z a0 hw [] b1 (0 : Int64) T31.heap n0 Z31 p31_7) hZ (kw61 hw) (kw2 hw) (by decide) (by decide)) q35a q35c (g := (mkF m 140 #[.val (.long q1), .second, .val (.long q2), .second, .val (.long q3), .second, .val (.long q4), .second, .val (.int p5), .val (.ref b1), .val (.int (1 : Int32)), .val (.long tt), .second, .val (.long ss), .second] [(.ref b1)])) rfl (by rw [hml]; rfl) (Steps.refl _) (argsL := []) (rest := []) (lenOf pd_4 rfl) rfl (by show 2 * 0 + _ ≤ _; exact Nat.le_of_eq rfl) (hb hby at_140) (fun _ _ => ⟨rfl, e34, (by decide : 1 + 0 ≤ _), (by decide : 18 + 0 ≤ _)⟩)
    dsimp only [Pt.U, Pt.locs, Pt.cells, Pt.slots] at X35 l35 y35 z35 st35 hQ35
    subst l35 y35 z35
    obtain ⟨rfl, N35q, e35⟩ := hQ35
    have N35 := Fr.app N34 N35q
    obtain ⟨cq36, kq36, q36a, q36b, q36c⟩ := isOf hZ e35 f33
    obtain ⟨_, _, ⟨T36, L36, k36, n36⟩, -, X36, ⟨Lc36, hQ36, l36, y36, z36⟩, st36⟩ := X35.virtualBack hx (y := (⟨"com/example/okno/okno/AdmissionLog", "newest", "()J"⟩ : MethodName)) (z := (⟨"com/example/okno/okno/AdmissionLog", "newest", "()J"⟩ : MethodName)) hown (mvT hZ (kw64 hw)) (mvT hZ (kw65 hw)) (notFace_of_selects (args := #[]) (mvT hZ (kw67 hw))) (mvT hZ (kw67 hw)) (mvT hZ (kw66 hw)) (by decide) (backOf (W := 0) (rm9 l Z a0 hw [] b1 (-9223372036854775808 : Int64) T31.heap n0 Z31 p31_2) hZ (kw68 hw) (kw2 hw) (by decide) (by decide)) q36a q36c (g := (mkF m 150 #[.val (.long q1), .second, .val (.long q2), .second, .val (.long q3), .second, .val (.long q4), .second, .val (.int p5), .val (.ref b1), .val (.int (1 : Int32)), .val (.long tt), .second, .val (.long ss), .second] [(.ref b1)])) rfl (by rw [hml]; rfl) (Steps.refl _) (argsL := []) (rest := []) (lenOf pd_4 rfl) rfl (by show 2 * 0 + _ ≤ _; exact Nat.le_of_eq rfl) (hb hby at_150) (fun _ _ => ⟨rfl, e35, (by decide : 1 + 0 ≤ _), (by decide : 18 + 0 ≤ _)⟩)
    dsimp only [Pt.U, Pt.locs, Pt.cells, Pt.slots] at X36 l36 y36 z36 st36 hQ36
    subst l36 y36 z36
    obtain ⟨rfl, N36q, e36⟩ := hQ36
    have N36 := Fr.app N35 N36q
    obtain ⟨fs, hr, hrun, hended, hW, hsame⟩ := X36.leave (v := some (.int (1 : Int32))) (fun h => by rw [Bd.returns] at h; cases h)
    refine ⟨_, _, pre30 _ ?_, hrun, hended, _, _, rfl, ?_, ⟨_, rfl⟩, hW, hsame.mono (by decide) (by decide)⟩
    · skip
      show Steps p.tables e below (T24.setTop (mkF m 88 #[.val (.long q1), .second, .val (.long q2), .second, .val (.long q3), .second, .val (.long q4), .second, .val (.int p5), .val (.ref b1), .val (.int (1 : Int32)), .val (.long tt), .second, .unset, .unset] [(.long ss)])) _
      refine XS.lstore X24.here hx rfl (hb hby at_88) rfl (l' := #[.val (.long q1), .second, .val (.long q2), .second, .val (.long q3), .second, .val (.long q4), .second, .val (.int p5), .val (.ref b1), .val (.int (1 : Int32)), .val (.long tt), .second, .val (.long ss), .second]) rfl ?_
      show Steps p.tables e below (T24.setTop (mkF m 90 #[.val (.long q1), .second, .val (.long q2), .second, .val (.long q3), .second, .val (.long q4), .second, .val (.int p5), .val (.ref b1), .val (.int (1 : Int32)), .val (.long tt), .second, .val (.long ss), .second] [])) _
      refine XS.aload X24.here hx rfl (hb hby at_90) rfl rfl ?_
      show Steps p.tables e below (T24.setTop (mkF m 92 #[.val (.long q1), .second, .val (.long q2), .second, .val (.long q3), .second, .val (.long q4), .second, .val (.int p5), .val (.ref b1), .val (.int (1 : Int32)), .val (.long tt), .second, .val (.long ss), .second] [(.ref b1)])) _
      refine XS.lload X24.here hx rfl (hb hby at_92) rfl ?_
      show Steps p.tables e below (T24.setTop (mkF m 94 #[.val (.long q1), .second, .val (.long q2), .second, .val (.long q3), .second, .val (.long q4), .second, .val (.int p5), .val (.ref b1), .val (.int (1 : Int32)), .val (.long tt), .second, .val (.long ss), .second] [(.long tt), (.ref b1)])) _
      refine XS.lload X24.here hx rfl (hb hby at_94) rfl ?_
      show Steps p.tables e below (T24.setTop (mkF m 96 #[.val (.long q1), .second, .val (.long q2), .second, .val (.long q3), .second, .val (.long q4), .second, .val (.int p5), .val (.ref b1), .val (.int (1 : Int32)), .val (.long tt), .second, .val (.long ss), .second] [(.long ss), (.long tt), (.ref b1)])) _
      refine st31.trans ?_
      show Steps p.tables e below (T31.setTop (mkF m 99 #[.val (.long q1), .second, .val (.long q2), .second, .val (.long q3), .second, .val (.long q4), .second, .val (.int p5), .val (.ref b1), .val (.int (1 : Int32)), .val (.long tt), .second, .val (.long ss), .second] [])) _
      refine XS.iload X31.here hx rfl (hb hby at_99) rfl ?_
      show Steps p.tables e below (T31.setTop (mkF m 101 #[.val (.long q1), .second, .val (.long q2), .second, .val (.long q3), .second, .val (.long q4), .second, .val (.int p5), .val (.ref b1), .val (.int (1 : Int32)), .val (.long tt), .second, .val (.long ss), .second] [(.int (1 : Int32))])) _
      refine XS.ifNo X31.here hx rfl (hb hby at_101) rfl ((if0 _ _).trans (feq (by decide)).1) ?_
      show Steps p.tables e below (T31.setTop (mkF m 104 #[.val (.long q1), .second, .val (.long q2), .second, .val (.long q3), .second, .val (.long q4), .second, .val (.int p5), .val (.ref b1), .val (.int (1 : Int32)), .val (.long tt), .second, .val (.long ss), .second] [])) _
      refine XS.aload X31.here hx rfl (hb hby at_104) rfl rfl ?_
      show Steps p.tables e below (T31.setTop (mkF m 106 #[.val (.long q1), .second, .val (.long q2), .second, .val (.long q3), .second, .val (.long q4), .second, .val (.int p5), .val (.ref b1), .val (.int (1 : Int32)), .val (.long tt), .second, .val (.long ss), .second] [(.ref b1)])) _
      refine st32.trans ?_
      show Steps p.tables e below (T32.setTop (mkF m 109 #[.val (.long q1), .second, .val (.long q2), .second, .val (.long q3), .second, .val (.long q4), .second, .val (.int p5), .val (.ref b1), .val (.int (1 : Int32)), .val (.long tt), .second, .val (.long ss), .second] [(.long tt)])) _
      refine XS.lload X32.here hx rfl (hb hby at_109) rfl ?_
      show Steps p.tables e below (T32.setTop (mkF m 111 #[.val (.long q1), .second, .val (.long q2), .second, .val (.long q3), .second, .val (.long q4), .second, .val (.int p5), .val (.ref b1), .val (.int (1 : Int32)), .val (.long tt), .second, .val (.long ss), .second] [(.long tt), (.long tt)])) _
      refine XS.lcmp X32.here hx rfl (hb hby at_111) rfl ?_
      show Steps p.tables e below (T32.setTop (mkF m 112 #[.val (.long q1), .second, .val (.long q2), .second, .val (.long q3), .second, .val (.long q4), .second, .val (.int p5), .val (.ref b1), .val (.int (1 : Int32)), .val (.long tt), .second, .val (.long ss), .second] [(.int (lcmpW tt tt))])) _
      refine XS.ifNo X32.here hx rfl (hb hby at_112) rfl ((if0 _ _).trans (teq ((lw_eq _ _).mpr rfl)).2) ?_
      show Steps p.tables e below (T32.setTop (mkF m 115 #[.val (.long q1), .second, .val (.long q2), .second, .val (.long q3), .second, .val (.long q4), .second, .val (.int p5), .val (.ref b1), .val (.int (1 : Int32)), .val (.long tt), .second, .val (.long ss), .second] [])) _
      refine XS.aload X32.here hx rfl (hb hby at_115) rfl rfl ?_
      show Steps p.tables e below (T32.setTop (mkF m 117 #[.val (.long q1), .second, .val (.long q2), .second, .val (.long q3), .second, .val (.long q4), .second, .val (.int p5), .val (.ref b1), .val (.int (1 : Int32)), .val (.long tt), .second, .val (.long ss), .second] [(.ref b1)])) _
      refine st34.trans ?_
      show Steps p.tables e below (T34.setTop (mkF m 120 #[.val (.long q1), .second, .val (.long q2), .second, .val (.long q3), .second, .val (.long q4), .second, .val (.int p5), .val (.ref b1), .val (.int (1 : Int32)), .val (.long tt), .second, .val (.long ss), .second] [(.long ss)])) _
      refine XS.lload X34.here hx rfl (hb hby at_120) rfl ?_
      show Steps p.tables e below (T34.setTop (mkF m 122 #[.val (.long q1), .second, .val (.long q2), .second, .val (.long q3), .second, .val (.long q4), .second, .val (.int p5), .val (.ref b1), .val (.int (1 : Int32)), .val (.long tt), .second, .val (.long ss), .second] [(.long ss), (.long ss)])) _
      refine XS.lcmp X34.here hx rfl (hb hby at_122) rfl ?_
      show Steps p.tables e below (T34.setTop (mkF m 123 #[.val (.long q1), .second, .val (.long q2), .second, .val (.long q3), .second, .val (.long q4), .second, .val (.int p5), .val (.ref b1), .val (.int (1 : Int32)), .val (.long tt), .second, .val (.long ss), .second] [(.int (lcmpW ss ss))])) _
      refine XS.ifNo X34.here hx rfl (hb hby at_123) rfl ((if0 _ _).trans (teq ((lw_eq _ _).mpr rfl)).2) ?_
      show Steps p.tables e below (T34.setTop (mkF m 126 #[.val (.long q1), .second, .val (.long q2), .second, .val (.long q3), .second, .val (.long q4), .second, .val (.int p5), .val (.ref b1), .val (.int (1 : Int32)), .val (.long tt), .second, .val (.long ss), .second] [])) _
      refine XS.iconst X34.here hx rfl (hb hby at_126) ?_
      show Steps p.tables e below (T34.setTop (mkF m 127 #[.val (.long q1), .second, .val (.long q2), .second, .val (.long q3), .second, .val (.long q4), .second, .val (.int p5), .val (.ref b1), .val (.int (1 : Int32)), .val (.long tt), .second, .val (.long ss), .second] [(.int (1 : Int32))])) _
      refine XS.goto X34.here hx rfl (pc0 := 127) (pc' := 131) rfl (hb hby at_127) (by decide) (by decide) ?_
      show Steps p.tables e below (T34.setTop (mkF m 131 #[.val (.long q1), .second, .val (.long q2), .second, .val (.long q3), .second, .val (.long q4), .second, .val (.int p5), .val (.ref b1), .val (.int (1 : Int32)), .val (.long tt), .second, .val (.long ss), .second] [(.int (1 : Int32))])) _
      refine XS.istore X34.here hx rfl (hb hby at_131) rfl (l' := #[.val (.long q1), .second, .val (.long q2), .second, .val (.long q3), .second, .val (.long q4), .second, .val (.int p5), .val (.ref b1), .val (.int (1 : Int32)), .val (.long tt), .second, .val (.long ss), .second]) rfl ?_
      show Steps p.tables e below (T34.setTop (mkF m 133 #[.val (.long q1), .second, .val (.long q2), .second, .val (.long q3), .second, .val (.long q4), .second, .val (.int p5), .val (.ref b1), .val (.int (1 : Int32)), .val (.long tt), .second, .val (.long ss), .second] [])) _
      refine XS.iload X34.here hx rfl (hb hby at_133) rfl ?_
      show Steps p.tables e below (T34.setTop (mkF m 135 #[.val (.long q1), .second, .val (.long q2), .second, .val (.long q3), .second, .val (.long q4), .second, .val (.int p5), .val (.ref b1), .val (.int (1 : Int32)), .val (.long tt), .second, .val (.long ss), .second] [(.int (1 : Int32))])) _
      refine XS.ifNo X34.here hx rfl (hb hby at_135) rfl ((if0 _ _).trans (feq (by decide)).1) ?_
      show Steps p.tables e below (T34.setTop (mkF m 138 #[.val (.long q1), .second, .val (.long q2), .second, .val (.long q3), .second, .val (.long q4), .second, .val (.int p5), .val (.ref b1), .val (.int (1 : Int32)), .val (.long tt), .second, .val (.long ss), .second] [])) _
      refine XS.aload X34.here hx rfl (hb hby at_138) rfl rfl ?_
      show Steps p.tables e below (T34.setTop (mkF m 140 #[.val (.long q1), .second, .val (.long q2), .second, .val (.long q3), .second, .val (.long q4), .second, .val (.int p5), .val (.ref b1), .val (.int (1 : Int32)), .val (.long tt), .second, .val (.long ss), .second] [(.ref b1)])) _
      refine st35.trans ?_
      show Steps p.tables e below (T35.setTop (mkF m 143 #[.val (.long q1), .second, .val (.long q2), .second, .val (.long q3), .second, .val (.long q4), .second, .val (.int p5), .val (.ref b1), .val (.int (1 : Int32)), .val (.long tt), .second, .val (.long ss), .second] [(.long (0 : Int64))])) _
      refine XS.lconst X35.here hx rfl (hb hby at_143) ?_
      show Steps p.tables e below (T35.setTop (mkF m 144 #[.val (.long q1), .second, .val (.long q2), .second, .val (.long q3), .second, .val (.long q4), .second, .val (.int p5), .val (.ref b1), .val (.int (1 : Int32)), .val (.long tt), .second, .val (.long ss), .second] [(.long (0 : Int64)), (.long (0 : Int64))])) _
      refine XS.lcmp X35.here hx rfl (hb hby at_144) rfl ?_
      show Steps p.tables e below (T35.setTop (mkF m 145 #[.val (.long q1), .second, .val (.long q2), .second, .val (.long q3), .second, .val (.long q4), .second, .val (.int p5), .val (.ref b1), .val (.int (1 : Int32)), .val (.long tt), .second, .val (.long ss), .second] [(.int (lcmpW (0 : Int64) (0 : Int64)))])) _
      refine XS.ifNo X35.here hx rfl (hb hby at_145) rfl ((if0 _ _).trans (teq ((lw_eq _ _).mpr rfl)).2) ?_
      show Steps p.tables e below (T35.setTop (mkF m 148 #[.val (.long q1), .second, .val (.long q2), .second, .val (.long q3), .second, .val (.long q4), .second, .val (.int p5), .val (.ref b1), .val (.int (1 : Int32)), .val (.long tt), .second, .val (.long ss), .second] [])) _
      refine XS.aload X35.here hx rfl (hb hby at_148) rfl rfl ?_
      show Steps p.tables e below (T35.setTop (mkF m 150 #[.val (.long q1), .second, .val (.long q2), .second, .val (.long q3), .second, .val (.long q4), .second, .val (.int p5), .val (.ref b1), .val (.int (1 : Int32)), .val (.long tt), .second, .val (.long ss), .second] [(.ref b1)])) _
      refine st36.trans ?_
      show Steps p.tables e below (T36.setTop (mkF m 153 #[.val (.long q1), .second, .val (.long q2), .second, .val (.long q3), .second, .val (.long q4), .second, .val (.int p5), .val (.ref b1), .val (.int (1 : Int32)), .val (.long tt), .second, .val (.long ss), .second] [(.long (-9223372036854775808 : Int64))])) _
      refine X36.ldc2Long hx hown (mvT hZ (kw69 hw)) (g := (mkF m 153 #[.val (.long q1), .second, .val (.long q2), .second, .val (.long q3), .second, .val (.long q4), .second, .val (.int p5), .val (.ref b1), .val (.int (1 : Int32)), .val (.long tt), .second, .val (.long ss), .second] [(.long (-9223372036854775808 : Int64))])) rfl (hb hby at_153) _ ?_
      show Steps p.tables e below (T36.setTop (mkF m 156 #[.val (.long q1), .second, .val (.long q2), .second, .val (.long q3), .second, .val (.long q4), .second, .val (.int p5), .val (.ref b1), .val (.int (1 : Int32)), .val (.long tt), .second, .val (.long ss), .second] [(.long (-9223372036854775808 : Int64)), (.long (-9223372036854775808 : Int64))])) _
      refine XS.lcmp X36.here hx rfl (hb hby at_156) rfl ?_
      show Steps p.tables e below (T36.setTop (mkF m 157 #[.val (.long q1), .second, .val (.long q2), .second, .val (.long q3), .second, .val (.long q4), .second, .val (.int p5), .val (.ref b1), .val (.int (1 : Int32)), .val (.long tt), .second, .val (.long ss), .second] [(.int (lcmpW (-9223372036854775808 : Int64) (-9223372036854775808 : Int64)))])) _
      refine XS.ifNo X36.here hx rfl (hb hby at_157) rfl ((if0 _ _).trans (teq ((lw_eq _ _).mpr rfl)).2) ?_
      show Steps p.tables e below (T36.setTop (mkF m 160 #[.val (.long q1), .second, .val (.long q2), .second, .val (.long q3), .second, .val (.long q4), .second, .val (.int p5), .val (.ref b1), .val (.int (1 : Int32)), .val (.long tt), .second, .val (.long ss), .second] [])) _
      refine XS.iconst X36.here hx rfl (hb hby at_160) ?_
      show Steps p.tables e below (T36.setTop (mkF m 161 #[.val (.long q1), .second, .val (.long q2), .second, .val (.long q3), .second, .val (.long q4), .second, .val (.int p5), .val (.ref b1), .val (.int (1 : Int32)), .val (.long tt), .second, .val (.long ss), .second] [(.int (1 : Int32))])) _
      refine XS.goto X36.here hx rfl (pc0 := 161) (pc' := 165) rfl (hb hby at_161) (by decide) (by decide) ?_
      show Steps p.tables e below (T36.setTop (mkF m 165 #[.val (.long q1), .second, .val (.long q2), .second, .val (.long q3), .second, .val (.long q4), .second, .val (.int p5), .val (.ref b1), .val (.int (1 : Int32)), .val (.long tt), .second, .val (.long ss), .second] [(.int (1 : Int32))])) _
      refine XS.istore X36.here hx rfl (hb hby at_165) rfl (l' := #[.val (.long q1), .second, .val (.long q2), .second, .val (.long q3), .second, .val (.long q4), .second, .val (.int p5), .val (.ref b1), .val (.int (1 : Int32)), .val (.long tt), .second, .val (.long ss), .second]) rfl ?_
      show Steps p.tables e below (T36.setTop (mkF m 167 #[.val (.long q1), .second, .val (.long q2), .second, .val (.long q3), .second, .val (.long q4), .second, .val (.int p5), .val (.ref b1), .val (.int (1 : Int32)), .val (.long tt), .second, .val (.long ss), .second] [])) _
      refine XS.iload X36.here hx rfl (hb hby at_167) rfl ?_
      show Steps p.tables e below (T36.setTop (mkF m 169 #[.val (.long q1), .second, .val (.long q2), .second, .val (.long q3), .second, .val (.long q4), .second, .val (.int p5), .val (.ref b1), .val (.int (1 : Int32)), .val (.long tt), .second, .val (.long ss), .second] [(.int (1 : Int32))])) _
      exact retN X36 hx (t := .boolean) Bd.returns (by simp) (hb hby at_169) hr
    · show Q_rm0 Z q1 q2 q3 q4 p5 w_NO_ENTRIES h0 n0 _ T36.heap _
      rw [e36]
      exact ⟨rfl, N36, K31⟩
set_option maxRecDepth 65536 in
set_option maxHeartbeats 40000000 in
theorem comes_1 {Post : Tables → Env → Array Value → State → Outcome → State → Prop} (hpost : ∀ tb e args s v u, (limb_1_1.after args s (.returned v) u = true ∧ limb_1_2.after args s (.returned v) u = true ∧ True) → FrameEnd s (.returned v) u (Jvm.fieldLocs frame_1_writes args s ++ Jvm.arrayLocs frame_1_arrays args s ++ Jvm.staticLocs frame_1_statics s) 16 128 → Post tb e args s (.returned v) u) :
    ArmFor flags0 classFile x code maxLocals ret World_1 tables_1 room_1 Calls_1 rest_1 Pre_1 Post := by
  intro l hfl _ _ p e ha hc hk s m args below hf hA hF happ hP
  obtain ⟨hcalls, hrest, hpre⟩ := hP
  obtain ⟨-, -, -, hnamed, -, -, -, hat⟩ := (Spec.applies_iff hf).mp happ
  obtain ⟨hg, hn⟩ := and_e (Cond.before_iff.mp (show (Jvm.Cond.and given_1 narrow_1).before args s = true from hpre))
  obtain ⟨g1, g2⟩ := and_e hg
  obtain ⟨g3, g4⟩ := and_e g2
  obtain ⟨g5, g6⟩ := and_e g4
  obtain ⟨g7, g8⟩ := and_e g6
  obtain ⟨g9, g10⟩ := and_e g8
  obtain ⟨g11, g12⟩ := and_e hn
  obtain ⟨w0, w1, w2, w3, w4, rfl⟩ : ∃ w0 w1 w2 w3 w4 : Value, args = #[w0, w1, w2, w3, w4] := by
    have hs : args.size = 5 := by simpa [Cond.value, given_1] using g1
    obtain ⟨L⟩ := args
    match L, hs with
    | [w0, w1, w2, w3, w4], _ => exact ⟨w0, w1, w2, w3, w4, rfl⟩
  have hw0 := fun d (hd : d ∈ tables_1) => atoms_spec (ws := Jvm.Cond.code x code maxLocals ret :: tables_1) hat d (List.mem_cons_of_mem _ hd)
  have hfit : Fit s := fun {y c} hc i hi => by
    obtain ⟨ha, rfl⟩ := Array.getElem?_eq_some_iff.mp hc
    have q := List.all_eq_true.mp ((Array.all_eq_true_iff_forall_mem.mp hF) _ (Array.getElem_mem ha)) i (List.mem_range.mpr hi)
    simpa [Array.getElem?_eq_getElem hi] using q
  have hw := hw0
  obtain ⟨i0, ei0⟩ := isL_v g3
  obtain rfl : w0 = (.long i0) := Option.some.inj ei0
  obtain ⟨i1, ei1⟩ := isL_v g5
  obtain rfl : w1 = (.long i1) := Option.some.inj ei1
  obtain ⟨i2, ei2⟩ := isL_v g7
  obtain rfl : w2 = (.long i2) := Option.some.inj ei2
  obtain ⟨i3, ei3⟩ := isL_v g9
  obtain rfl : w3 = (.long i3) := Option.some.inj ei3
  obtain ⟨i4, ei4⟩ := is_v g10
  obtain rfl : w4 = (.int i4) := Option.some.inj ei4
  obtain ⟨w_NO_ENTRIES, ev_w_NO_ENTRIES⟩ := arr_v g11
  have S_w_NO_ENTRIES := Sta.start ev_w_NO_ENTRIES (Or.inr ⟨(kw2 hw), (kw18 hw)⟩)
  obtain ⟨cl_w_NO_ENTRIES, Ar_w_NO_ENTRIES⟩ := Arr.start ev_w_NO_ENTRIES g11
  obtain ⟨n, o, h1, h2, h3, _, L, rfl, ⟨rfl, N, -⟩, hq⟩ := rm0 l s _ hw tables_1 i0 i1 i2 i3 i4 w_NO_ENTRIES s.heap s.heap.size (Nat.le_refl _) (Old.start s) S_w_NO_ENTRIES p e ha hc hk s m _ below hf ((Spec.applies_iff_loose hf).mp happ).1 ⟨rfl, State.Warmed39.refl s, rfl⟩ trivial
  refine ⟨n, _, h1, h2, h3, hpost _ _ _ _ _ _ ⟨Cond.after_iff.mpr rfl, Cond.after_iff.mpr (eq_i res_at (Term.int_eval (1)) rfl), trivial⟩ ⟨hq.1, hq.2.1, (hq.2.2.sift fun y hy => Or.inr (N y hy)).mono (by decide) (by decide)⟩⟩
theorem main_1_1 : Claimed_1_1 := comes_1 fun _ _ _ _ _ _ h hF => ⟨h.1, hF⟩
theorem main_1_2 : Claimed_1_2 := comes_1 fun _ _ _ _ _ _ h hF => ⟨h.2.1, hF⟩
end Jvm.Pilot.@@N@@
namespace Jvm.Pilot.@@N@@
open Jvm Jvm.ClassFile Sem Op Lib Jvm.Free Jvm.Stand Jvm.Pilot.@@N@@.Jvm.D
/-! MADE BY PROGRAM (witnessworld.py) out of the Statement's table words and the real class files: 13 classes; the members and pool entries that the words name. The judged class is class 1, her method 1. -/
namespace start1
open Jvm.ClassFile
def u (s : String) : CpInfo := .utf8 (stringToUtf16 s)
/-- a pool by its gaps: so many unusable entries, then the entry; so many at the end -/
def gap : Nat → List CpInfo → List CpInfo
  | 0, r => r
  | n + 1, r => .unusable :: gap n r
def poolList (es : List (Nat × CpInfo)) (last : Nat) : List CpInfo := es.foldr (fun e r => gap e.1 (e.2 :: r)) (gap last [])
def pool (es : List (Nat × CpInfo)) (last : Nat) : Array CpInfo := ⟨poolList es last⟩
def fileOf (pool : Array CpInfo) (this : Nat) (attrs : Array Attribute := #[]) (ms : Array MethodInfo := #[]) (fl : Nat := 33) (sup : Nat := 0) (ifs : Array Nat := #[]) (fds : Array FieldInfo := #[]) : ClassFile where
  minorVersion := 0
  majorVersion := 65
  constantPool := pool
  accessFlags := fl
  thisClass := this
  superClass := sup
  interfaces := ifs
  fields := fds
  methods := ms
  attributes := attrs
def plain (name : String) (sup : Option ClassId) : Class where
  name := name
  kind := .ordinary
  loader := none
  accessFlags := 33
  super := sup
  interfaces := #[]
  cf := none
  fields := #[]
  methods := #[]
  instanceTypes := #[]
  staticTypes := #[]
  resolved := #[]
  callSites := []
  init := .initialized
  statics := none
  mirror := none

def pool0 : Array CpInfo := pool [(5, u "<init>"), (0, u "()V"), (1, .class_ 10), (1, u "java/lang/Object")] 113

def k0c0 : Code := { maxStack := 0, maxLocals := 1, code := object_method_1_code, exceptionTable := #[], attributes := #[] }
def k0m0 : Method := { name := "<init>", desc := "()V", sig := { parameters := [], returnType := none }, accessFlags := 1, code := some k0c0 }
/-- java/lang/Object -/
def k0 : Class := { plain "java/lang/Object" none with
  accessFlags := 33
  interfaces := #[]
  cf := some (fileOf pool0 8 #[] #[{ accessFlags := 1, nameIndex := 5, descriptorIndex := 6, attributes := #[] }] 33 0 #[] #[])
  fields := #[]
  methods := #[k0m0]
  instanceTypes := #[]
  staticTypes := #[]
  resolved := Array.replicate 124 none
  statics := none }

def pool1 : Array CpInfo := pool [(2, .class_ 4), (1, u "java/lang/Object"), (0, u "<init>"), (0, u "()V"), (0, .class_ 8), (0, u "com/example/okno/okno/AdmissionLog"), (0, .methodref 7 10), (0, .nameAndType 5 11), (0, u "(JI)V"), (0, .methodref 7 13), (0, .nameAndType 14 15), (0, u "setCallReadings"), (0, u "(JJ)V"), (0, .methodref 7 17), (0, .nameAndType 18 19), (0, u "callTime"), (0, u "()J"), (0, .methodref 7 21), (0, .nameAndType 22 19), (0, u "callSteady"), (0, .methodref 7 24), (0, .nameAndType 25 19), (0, u "total"), (0, .methodref 7 27), (0, .nameAndType 28 19), (0, u "newest"), (2, .long 9223372036854775808), (1, .class_ 34), (0, u "com/example/okno/okno/AdmissionLogSetCallReadingsPinLaw"), (2, u "law"), (0, u "(JJJJI)Z")] 3

def k1m0 : Method := { name := "<init>", desc := "()V", sig := { parameters := [], returnType := none }, accessFlags := 1, code := none }
def k1c1 : Code := { maxStack := 5, maxLocals := 15, code := code, exceptionTable := #[], attributes := #[] }
def k1m1 : Method := { name := "law", desc := "(JJJJI)Z", sig := { parameters := [.long, .long, .long, .long, .int], returnType := some .boolean }, accessFlags := 9, code := some k1c1 }
/-- com/example/okno/okno/AdmissionLogSetCallReadingsPinLaw -/
def k1 : Class := { plain "com/example/okno/okno/AdmissionLogSetCallReadingsPinLaw" (some 0) with
  accessFlags := 49
  interfaces := #[]
  cf := some (fileOf pool1 33 #[] #[{ accessFlags := 1, nameIndex := 5, descriptorIndex := 6, attributes := #[] }, { accessFlags := 9, nameIndex := 37, descriptorIndex := 38, attributes := #[] }] 49 2 #[] #[])
  fields := #[]
  methods := #[k1m0, k1m1]
  instanceTypes := #[]
  staticTypes := #[]
  resolved := Array.replicate 42 none
  statics := none }

def pool2 : Array CpInfo := pool [(1, .methodref 2 3), (0, .class_ 4), (0, .nameAndType 5 6), (0, u "java/lang/Object"), (0, u "<init>"), (0, u "()V"), (11, .class_ 20), (1, u "com/example/okno/okno/KeyTurn"), (0, u "STATE"), (0, u "Ljava/lang/invoke/VarHandle;"), (65, u "state"), (19, u "FREE"), (0, u "J"), (3, u "DROPPED"), (0, u "SPIN_NANOS"), (0, u "FIRST_PAUSE_NANOS"), (0, u "LONGEST_PAUSE_NANOS"), (0, u "SLEEP_NANOS")] 15

def k2c0 : Code := { maxStack := 1, maxLocals := 1, code := prog_8_method_1_code, exceptionTable := #[], attributes := #[] }
def k2m0 : Method := { name := "<init>", desc := "()V", sig := { parameters := [], returnType := none }, accessFlags := 0, code := some k2c0 }
/-- com/example/okno/okno/KeyTurn -/
def k2 : Class := { plain "com/example/okno/okno/KeyTurn" (some 0) with
  accessFlags := 1056
  interfaces := #[]
  cf := some (fileOf pool2 18 #[] #[{ accessFlags := 0, nameIndex := 5, descriptorIndex := 6, attributes := #[] }] 1056 2 #[] #[{ accessFlags := 26, nameIndex := 108, descriptorIndex := 109, attributes := #[] }, { accessFlags := 26, nameIndex := 113, descriptorIndex := 109, attributes := #[] }, { accessFlags := 26, nameIndex := 114, descriptorIndex := 109, attributes := #[] }, { accessFlags := 26, nameIndex := 115, descriptorIndex := 109, attributes := #[] }, { accessFlags := 26, nameIndex := 116, descriptorIndex := 109, attributes := #[] }, { accessFlags := 26, nameIndex := 117, descriptorIndex := 109, attributes := #[] }, { accessFlags := 26, nameIndex := 21, descriptorIndex := 22, attributes := #[] }, { accessFlags := 66, nameIndex := 88, descriptorIndex := 109, attributes := #[] }])
  fields := #[{ name := "FREE", type := .long, accessFlags := 26, slot := 0, constantValue := 0 }, { name := "DROPPED", type := .long, accessFlags := 26, slot := 1, constantValue := 0 }, { name := "SPIN_NANOS", type := .long, accessFlags := 26, slot := 2, constantValue := 0 }, { name := "FIRST_PAUSE_NANOS", type := .long, accessFlags := 26, slot := 3, constantValue := 0 }, { name := "LONGEST_PAUSE_NANOS", type := .long, accessFlags := 26, slot := 4, constantValue := 0 }, { name := "SLEEP_NANOS", type := .long, accessFlags := 26, slot := 5, constantValue := 0 }, { name := "STATE", type := (.object "java/lang/invoke/VarHandle"), accessFlags := 26, slot := 6, constantValue := 0 }, { name := "state", type := .long, accessFlags := 66, slot := 0, constantValue := 0 }]
  methods := #[k2m0]
  instanceTypes := #[.long]
  staticTypes := #[.long, .long, .long, .long, .long, .long, (.object "java/lang/invoke/VarHandle")]
  resolved := Array.replicate 133 none
  statics := none }

def pool3 : Array CpInfo := pool [(1, .methodref 2 3), (0, .class_ 4), (0, .nameAndType 5 6), (0, u "com/example/okno/okno/KeyTurn"), (0, u "<init>"), (0, u "()V"), (2, .long 9223372036854775808), (1, .fieldref 12 13), (0, .class_ 14), (0, .nameAndType 15 16), (0, u "com/example/okno/okno/AdmissionLog"), (0, u "newest"), (0, u "J"), (0, .fieldref 12 18), (0, .nameAndType 19 20), (0, u "NO_ENTRIES"), (0, u "[J"), (0, .fieldref 12 22), (0, .nameAndType 23 20), (0, u "subWindows"), (0, .fieldref 12 25), (0, .nameAndType 26 20), (0, u "amounts"), (0, .long 9223372036854775807), (1, .fieldref 12 30), (0, .nameAndType 31 16), (0, u "oldestSubWindow"), (0, .fieldref 12 33), (0, .nameAndType 34 16), (0, u "lastTime"), (0, .fieldref 12 36), (0, .nameAndType 37 16), (0, u "subWindowMillis"), (0, .methodref 39 40), (0, .class_ 41), (0, .nameAndType 42 43), (0, u "java/lang/Math"), (0, u "floorDiv"), (0, u "(JJ)J"), (0, .fieldref 12 45), (0, .nameAndType 46 16), (0, u "lastSubWindow"), (0, .fieldref 12 48), (0, .nameAndType 49 20), (0, u "shorterWindows"), (0, .fieldref 12 51), (0, .nameAndType 52 16), (0, u "total"), (2, u "newestSubWindowEnd"), (2, u "steadyOfNewest"), (0, .fieldref 12 60), (0, .nameAndType 61 16), (0, u "callTime"), (0, .fieldref 12 63), (0, .nameAndType 64 16), (0, u "callSteady"), (14, u "(JJ)V"), (6, u "newestSubWindow"), (2, u "olderTotal"), (5, u "size"), (0, u "I"), (2, u "head"), (22, u "INITIAL_CAPACITY"), (2, u "(JI)V"), (4, u "()J"), (1, u "setCallReadings")] 12

def k3c0 : Code := { maxStack := 5, maxLocals := 4, code := prog_2_method_1_code, exceptionTable := #[], attributes := #[] }
def k3m0 : Method := { name := "<init>", desc := "(JI)V", sig := { parameters := [.long, .int], returnType := none }, accessFlags := 0, code := some k3c0 }
def k3c1 : Code := { maxStack := 2, maxLocals := 1, code := prog_2_method_2_code, exceptionTable := #[], attributes := #[] }
def k3m1 : Method := { name := "total", desc := "()J", sig := { parameters := [], returnType := some .long }, accessFlags := 0, code := some k3c1 }
def k3c2 : Code := { maxStack := 2, maxLocals := 1, code := prog_2_method_4_code, exceptionTable := #[], attributes := #[] }
def k3m2 : Method := { name := "newest", desc := "()J", sig := { parameters := [], returnType := some .long }, accessFlags := 0, code := some k3c2 }
def k3c3 : Code := { maxStack := 4, maxLocals := 5, code := prog_2_method_8_code, exceptionTable := #[], attributes := #[] }
def k3m3 : Method := { name := "setCallReadings", desc := "(JJ)V", sig := { parameters := [.long, .long], returnType := none }, accessFlags := 0, code := some k3c3 }
def k3c4 : Code := { maxStack := 2, maxLocals := 1, code := prog_2_method_9_code, exceptionTable := #[], attributes := #[] }
def k3m4 : Method := { name := "callTime", desc := "()J", sig := { parameters := [], returnType := some .long }, accessFlags := 0, code := some k3c4 }
def k3c5 : Code := { maxStack := 2, maxLocals := 1, code := prog_2_method_10_code, exceptionTable := #[], attributes := #[] }
def k3m5 : Method := { name := "callSteady", desc := "()J", sig := { parameters := [], returnType := some .long }, accessFlags := 0, code := some k3c5 }
/-- com/example/okno/okno/AdmissionLog -/
def k3 : Class := { plain "com/example/okno/okno/AdmissionLog" (some 2) with
  accessFlags := 32
  interfaces := #[]
  cf := some (fileOf pool3 12 #[] #[{ accessFlags := 0, nameIndex := 5, descriptorIndex := 125, attributes := #[] }, { accessFlags := 0, nameIndex := 52, descriptorIndex := 130, attributes := #[] }, { accessFlags := 0, nameIndex := 15, descriptorIndex := 130, attributes := #[] }, { accessFlags := 0, nameIndex := 132, descriptorIndex := 79, attributes := #[] }, { accessFlags := 0, nameIndex := 61, descriptorIndex := 130, attributes := #[] }, { accessFlags := 0, nameIndex := 64, descriptorIndex := 130, attributes := #[] }] 32 2 #[] #[{ accessFlags := 26, nameIndex := 122, descriptorIndex := 96, attributes := #[] }, { accessFlags := 26, nameIndex := 19, descriptorIndex := 20, attributes := #[] }, { accessFlags := 2, nameIndex := 52, descriptorIndex := 16, attributes := #[] }, { accessFlags := 2, nameIndex := 15, descriptorIndex := 16, attributes := #[] }, { accessFlags := 2, nameIndex := 55, descriptorIndex := 16, attributes := #[] }, { accessFlags := 2, nameIndex := 58, descriptorIndex := 16, attributes := #[] }, { accessFlags := 2, nameIndex := 61, descriptorIndex := 16, attributes := #[] }, { accessFlags := 2, nameIndex := 64, descriptorIndex := 16, attributes := #[] }, { accessFlags := 18, nameIndex := 37, descriptorIndex := 16, attributes := #[] }, { accessFlags := 2, nameIndex := 23, descriptorIndex := 20, attributes := #[] }, { accessFlags := 2, nameIndex := 26, descriptorIndex := 20, attributes := #[] }, { accessFlags := 2, nameIndex := 99, descriptorIndex := 96, attributes := #[] }, { accessFlags := 2, nameIndex := 95, descriptorIndex := 96, attributes := #[] }, { accessFlags := 2, nameIndex := 86, descriptorIndex := 16, attributes := #[] }, { accessFlags := 2, nameIndex := 89, descriptorIndex := 16, attributes := #[] }, { accessFlags := 2, nameIndex := 31, descriptorIndex := 16, attributes := #[] }, { accessFlags := 2, nameIndex := 34, descriptorIndex := 16, attributes := #[] }, { accessFlags := 2, nameIndex := 46, descriptorIndex := 16, attributes := #[] }, { accessFlags := 18, nameIndex := 49, descriptorIndex := 20, attributes := #[] }])
  fields := #[{ name := "INITIAL_CAPACITY", type := .int, accessFlags := 26, slot := 0, constantValue := 0 }, { name := "NO_ENTRIES", type := (.array .long), accessFlags := 26, slot := 1, constantValue := 0 }, { name := "total", type := .long, accessFlags := 2, slot := 1, constantValue := 0 }, { name := "newest", type := .long, accessFlags := 2, slot := 2, constantValue := 0 }, { name := "newestSubWindowEnd", type := .long, accessFlags := 2, slot := 3, constantValue := 0 }, { name := "steadyOfNewest", type := .long, accessFlags := 2, slot := 4, constantValue := 0 }, { name := "callTime", type := .long, accessFlags := 2, slot := 5, constantValue := 0 }, { name := "callSteady", type := .long, accessFlags := 2, slot := 6, constantValue := 0 }, { name := "subWindowMillis", type := .long, accessFlags := 18, slot := 7, constantValue := 0 }, { name := "subWindows", type := (.array .long), accessFlags := 2, slot := 8, constantValue := 0 }, { name := "amounts", type := (.array .long), accessFlags := 2, slot := 9, constantValue := 0 }, { name := "head", type := .int, accessFlags := 2, slot := 10, constantValue := 0 }, { name := "size", type := .int, accessFlags := 2, slot := 11, constantValue := 0 }, { name := "newestSubWindow", type := .long, accessFlags := 2, slot := 12, constantValue := 0 }, { name := "olderTotal", type := .long, accessFlags := 2, slot := 13, constantValue := 0 }, { name := "oldestSubWindow", type := .long, accessFlags := 2, slot := 14, constantValue := 0 }, { name := "lastTime", type := .long, accessFlags := 2, slot := 15, constantValue := 0 }, { name := "lastSubWindow", type := .long, accessFlags := 2, slot := 16, constantValue := 0 }, { name := "shorterWindows", type := (.array .long), accessFlags := 18, slot := 17, constantValue := 0 }]
  methods := #[k3m0, k3m1, k3m2, k3m3, k3m4, k3m5]
  instanceTypes := #[.long, .long, .long, .long, .long, .long, .long, .long, (.array .long), (.array .long), .int, .int, .long, .long, .long, .long, .long, (.array .long)]
  staticTypes := #[.int, (.array .long)]
  resolved := Array.replicate 145 none
  statics := some 0 }

def pool4 : Array CpInfo := pool [(1, .class_ 2), (0, u "java/lang/Math"), (1, .class_ 6), (1, u "java/lang/Object"), (0, u "<init>"), (0, u "()V"), (89, .class_ 100), (1, u "java/lang/Math$RandomNumberGeneratorHolder"), (20, u "(JJ)J"), (23, u "floorDiv"), (26, u "negativeZeroFloatBits"), (0, u "J"), (2, u "negativeZeroDoubleBits"), (68, u "$assertionsDisabled"), (0, u "Z"), (91, u "twoToTheDoubleScaleDown"), (0, u "D"), (4, u "twoToTheDoubleScaleUp"), (9, u "E"), (3, u "PI"), (2, u "TAU"), (2, u "DEGREES_TO_RADIANS"), (0, u "RADIANS_TO_DEGREES")] 94

def k4m0 : Method := { name := "<init>", desc := "()V", sig := { parameters := [], returnType := none }, accessFlags := 2, code := none }
def k4c1 : Code := { maxStack := 4, maxLocals := 6, code := jdk_29_method_49_code, exceptionTable := #[], attributes := #[] }
def k4m1 : Method := { name := "floorDiv", desc := "(JJ)J", sig := { parameters := [.long, .long], returnType := some .long }, accessFlags := 9, code := some k4c1 }
/-- java/lang/Math -/
def k4 : Class := { plain "java/lang/Math" (some 0) with
  accessFlags := 49
  interfaces := #[]
  cf := some (fileOf pool4 1 #[.nestMembers #[98]] #[{ accessFlags := 2, nameIndex := 7, descriptorIndex := 8, attributes := #[] }, { accessFlags := 9, nameIndex := 145, descriptorIndex := 121, attributes := #[] }] 49 4 #[] #[{ accessFlags := 25, nameIndex := 354, descriptorIndex := 339, attributes := #[] }, { accessFlags := 25, nameIndex := 358, descriptorIndex := 339, attributes := #[] }, { accessFlags := 25, nameIndex := 361, descriptorIndex := 339, attributes := #[] }, { accessFlags := 26, nameIndex := 364, descriptorIndex := 339, attributes := #[] }, { accessFlags := 26, nameIndex := 365, descriptorIndex := 339, attributes := #[] }, { accessFlags := 26, nameIndex := 172, descriptorIndex := 173, attributes := #[] }, { accessFlags := 26, nameIndex := 176, descriptorIndex := 173, attributes := #[] }, { accessFlags := 8, nameIndex := 344, descriptorIndex := 339, attributes := #[] }, { accessFlags := 8, nameIndex := 338, descriptorIndex := 339, attributes := #[] }, { accessFlags := 4120, nameIndex := 245, descriptorIndex := 246, attributes := #[] }])
  fields := #[{ name := "E", type := .double, accessFlags := 25, slot := 0, constantValue := 0 }, { name := "PI", type := .double, accessFlags := 25, slot := 1, constantValue := 0 }, { name := "TAU", type := .double, accessFlags := 25, slot := 2, constantValue := 0 }, { name := "DEGREES_TO_RADIANS", type := .double, accessFlags := 26, slot := 3, constantValue := 0 }, { name := "RADIANS_TO_DEGREES", type := .double, accessFlags := 26, slot := 4, constantValue := 0 }, { name := "negativeZeroFloatBits", type := .long, accessFlags := 26, slot := 5, constantValue := 0 }, { name := "negativeZeroDoubleBits", type := .long, accessFlags := 26, slot := 6, constantValue := 0 }, { name := "twoToTheDoubleScaleUp", type := .double, accessFlags := 8, slot := 7, constantValue := 0 }, { name := "twoToTheDoubleScaleDown", type := .double, accessFlags := 8, slot := 8, constantValue := 0 }, { name := "$assertionsDisabled", type := .boolean, accessFlags := 4120, slot := 9, constantValue := 0 }]
  methods := #[k4m0, k4m1]
  instanceTypes := #[]
  staticTypes := #[.double, .double, .double, .double, .double, .long, .long, .double, .double, .boolean]
  resolved := Array.replicate 460 none
  statics := none }

def pool5 : Array CpInfo := pool [(1, u "java/lang/Cloneable"), (0, .class_ 1), (0, u "java/lang/Object"), (0, .class_ 3)] 3

/-- java/lang/Cloneable -/
def k5 : Class := { plain "java/lang/Cloneable" (some 0) with
  accessFlags := 1537
  interfaces := #[]
  cf := some (fileOf pool5 2 #[] #[] 1537 4 #[] #[])
  fields := #[]
  methods := #[]
  instanceTypes := #[]
  staticTypes := #[]
  resolved := Array.replicate 8 none
  statics := none }

def pool6 : Array CpInfo := pool [(1, u "java/io/Serializable"), (0, .class_ 1), (0, u "java/lang/Object"), (0, .class_ 3)] 3

/-- java/io/Serializable -/
def k6 : Class := { plain "java/io/Serializable" (some 0) with
  accessFlags := 1537
  interfaces := #[]
  cf := some (fileOf pool6 2 #[] #[] 1537 4 #[] #[])
  fields := #[]
  methods := #[]
  instanceTypes := #[]
  staticTypes := #[]
  resolved := Array.replicate 8 none
  statics := none }

/-- the primitive byte -/
def k7 : Class := { plain "byte" none with kind := .primitive 'B', accessFlags := 0x411 }
/-- [B -/
def k8 : Class := { plain "[B" (some 0) with kind := .array 7 .byte, interfaces := #[5, 6], accessFlags := 1041 }

/-- the primitive int -/
def k9 : Class := { plain "int" none with kind := .primitive 'I', accessFlags := 0x411 }
/-- [I -/
def k10 : Class := { plain "[I" (some 0) with kind := .array 9 .int, interfaces := #[5, 6], accessFlags := 1041 }

/-- the primitive long -/
def k11 : Class := { plain "long" none with kind := .primitive 'J', accessFlags := 0x411 }
/-- [J -/
def k12 : Class := { plain "[J" (some 0) with kind := .array 11 .long, interfaces := #[5, 6], accessFlags := 1041 }

def heap : Heap := #[{ cls := 3, slots := #[.int 0, .ref 1], vm := .statics 3 },
  { cls := 12, slots := #[], vm := .none }]
def classes : Array Class := #[k0, k1, k2, k3, k4, k5, k6, k7, k8, k9, k10, k11, k12]
def interned : List (Array UInt16 × Addr) := []
def slotsUsed : Nat := 2
def theMethod : MethodId := ⟨1, 1⟩
def args0 : Array Value := #[.long 5, .long 6, .long 7, .long 8, .int 3]
def aboutOver (below : List Frame) : State where
  vm := { classes := classes, interned := interned.toArray }
  heap := heap
  slotsUsed := slotsUsed
  threads := #[{ frames := .invoking theMethod args0 :: below }]
def below0 : List Frame := [.native { method := ⟨0, 0⟩, args := #[] }]
def about1 : State := aboutOver below0
def p0 : Program := .bare "" "" ""
def e0 : Env := launch0.env 0 0 0
theorem w_frames : about1.frames = Frame.invoking theMethod args0 :: below0 := rfl
set_option maxRecDepth 65536 in
theorem w_args : argsFit about1.vm theMethod args0 = true := by decide +kernel
set_option maxRecDepth 65536 in
theorem w_heap : heapFits about1 = true := by decide +kernel
set_option maxRecDepth 65536 in
theorem w_runnable : about1.curStatus? = some .runnable := by decide +kernel
set_option maxRecDepth 65536 in
theorem w_alone : about1.alone = true := by decide +kernel
set_option maxRecDepth 65536 in
theorem w_named : about1.methodNamed? x = some theMethod := by decide +kernel
set_option maxRecDepth 65536 in
theorem w_hears : about1.hears theMethod below0 = true := by decide +kernel
set_option maxRecDepth 65536 in
theorem w_ripe : about1.ripe theMethod args0 below0 = true := by decide +kernel
theorem w_running : about1.status = .running := rfl
set_option maxRecDepth 65536 in
theorem w_room : about1.hasRoom e0.platform room_1 = true :=
  launch0.hasRoom_least _ room_1 (by decide +kernel) (by decide +kernel) (by decide +kernel) (by decide +kernel) (by decide +kernel) (by decide +kernel)
theorem allAtoms_all (ts : List Jvm.Cond) (a : Array Jvm.Value) (st : Jvm.State) : (allAtoms ts).before a st = ts.all (fun c => c.before a st) := by
  induction ts with
  | nil => rfl
  | cons c t ih =>
    show (Jvm.Cond.and c (allAtoms t)).before a st = _
    rw [Jvm.Cond.before_and, ih, List.all_cons]
def words1 : List Jvm.Cond := Jvm.Cond.code x code maxLocals ret :: tables_1
/-- a 'code' word, met by the world's own term for the bytes: nothing is compared byte by byte -/
theorem code_word {y : MethodName} {bytes : ByteArray} {mx : Nat} {rt : Option FieldType} {a : Array Value} {s : State} {m : MethodId} {meth : Method} {c : Code} (h1 : s.methodNamed? y = some m) (h2 : s.vm.method? m = some meth) (h3 : meth.code = some c) (h4 : c.code = bytes)
    (h5 : (c.maxLocals == mx && c.exceptionTable.isEmpty && decide (c.maxStack ≤ mostOperands) && decide (meth.sig.returnType = rt) && !meth.locks && decide (parseMethodDescriptor y.desc = some meth.sig)) = true) : (Jvm.Cond.code y bytes mx rt).before a s = true := by
  simp only [Bool.and_eq_true, beq_iff_eq, Bool.not_eq_true', decide_eq_true_eq] at h5
  obtain ⟨⟨⟨⟨⟨g1, g2⟩, g3⟩, g4⟩, g5⟩, g6⟩ := h5
  simp [Cond.before, Cond.holds, Cond.value, h1, h2, h3, h4, g1, g2, g3, g4, g5, g6]
def isCode : Jvm.Cond → Bool
  | .code _ _ _ _ => true
  | _ => false
theorem all_split {L : List Jvm.Cond} {P : Jvm.Cond → Bool} (h1 : L.all (fun c => isCode c || P c) = true) (h2 : ∀ c ∈ L.filter isCode, P c = true) : L.all P = true := by
  refine List.all_eq_true.mpr fun c hc => ?_
  have h := List.all_eq_true.mp h1 c hc
  rcases Bool.eq_false_or_eq_true (isCode c) with hi | hi
  · exact h2 c (List.mem_filter.mpr ⟨hc, hi⟩)
  · simpa [hi] using h
set_option maxRecDepth 65536 in
theorem w_c0 : (Jvm.Cond.code x code maxLocals ret).before args0 about1 = true := code_word (m := ⟨1, 1⟩) (meth := k1m1) (c := k1c1) (by decide +kernel) rfl rfl rfl (by decide +kernel)
set_option maxRecDepth 65536 in
theorem w_c1 : (Jvm.Cond.code ({ cls := "com/example/okno/okno/AdmissionLog", name := "<init>", desc := "(JI)V" } : Jvm.MethodName) prog_2_method_1_code (4 : Nat) (Option.none : Option Jvm.ClassFile.FieldType)).before args0 about1 = true := code_word (m := ⟨3, 0⟩) (meth := k3m0) (c := k3c0) (by decide +kernel) rfl rfl rfl (by decide +kernel)
set_option maxRecDepth 65536 in
theorem w_c2 : (Jvm.Cond.code ({ cls := "com/example/okno/okno/KeyTurn", name := "<init>", desc := "()V" } : Jvm.MethodName) prog_8_method_1_code (1 : Nat) (Option.none : Option Jvm.ClassFile.FieldType)).before args0 about1 = true := code_word (m := ⟨2, 0⟩) (meth := k2m0) (c := k2c0) (by decide +kernel) rfl rfl rfl (by decide +kernel)
set_option maxRecDepth 65536 in
theorem w_c3 : (Jvm.Cond.code ({ cls := "java/lang/Object", name := "<init>", desc := "()V" } : Jvm.MethodName) object_method_1_code (1 : Nat) (Option.none : Option Jvm.ClassFile.FieldType)).before args0 about1 = true := code_word (m := ⟨0, 0⟩) (meth := k0m0) (c := k0c0) (by decide +kernel) rfl rfl rfl (by decide +kernel)
set_option maxRecDepth 65536 in
theorem w_c4 : (Jvm.Cond.code ({ cls := "java/lang/Math", name := "floorDiv", desc := "(JJ)J" } : Jvm.MethodName) jdk_29_method_49_code (6 : Nat) (Option.some Jvm.ClassFile.FieldType.long)).before args0 about1 = true := code_word (m := ⟨4, 1⟩) (meth := k4m1) (c := k4c1) (by decide +kernel) rfl rfl rfl (by decide +kernel)
set_option maxRecDepth 65536 in
theorem w_c5 : (Jvm.Cond.code ({ cls := "com/example/okno/okno/AdmissionLog", name := "setCallReadings", desc := "(JJ)V" } : Jvm.MethodName) prog_2_method_8_code (5 : Nat) (Option.none : Option Jvm.ClassFile.FieldType)).before args0 about1 = true := code_word (m := ⟨3, 3⟩) (meth := k3m3) (c := k3c3) (by decide +kernel) rfl rfl rfl (by decide +kernel)
set_option maxRecDepth 65536 in
theorem w_c6 : (Jvm.Cond.code ({ cls := "com/example/okno/okno/AdmissionLog", name := "callTime", desc := "()J" } : Jvm.MethodName) prog_2_method_9_code (1 : Nat) (Option.some Jvm.ClassFile.FieldType.long)).before args0 about1 = true := code_word (m := ⟨3, 4⟩) (meth := k3m4) (c := k3c4) (by decide +kernel) rfl rfl rfl (by decide +kernel)
set_option maxRecDepth 65536 in
theorem w_c7 : (Jvm.Cond.code ({ cls := "com/example/okno/okno/AdmissionLog", name := "callSteady", desc := "()J" } : Jvm.MethodName) prog_2_method_10_code (1 : Nat) (Option.some Jvm.ClassFile.FieldType.long)).before args0 about1 = true := code_word (m := ⟨3, 5⟩) (meth := k3m5) (c := k3c5) (by decide +kernel) rfl rfl rfl (by decide +kernel)
set_option maxRecDepth 65536 in
theorem w_c8 : (Jvm.Cond.code ({ cls := "com/example/okno/okno/AdmissionLog", name := "total", desc := "()J" } : Jvm.MethodName) prog_2_method_2_code (1 : Nat) (Option.some Jvm.ClassFile.FieldType.long)).before args0 about1 = true := code_word (m := ⟨3, 1⟩) (meth := k3m1) (c := k3c1) (by decide +kernel) rfl rfl rfl (by decide +kernel)
set_option maxRecDepth 65536 in
theorem w_c9 : (Jvm.Cond.code ({ cls := "com/example/okno/okno/AdmissionLog", name := "newest", desc := "()J" } : Jvm.MethodName) prog_2_method_4_code (1 : Nat) (Option.some Jvm.ClassFile.FieldType.long)).before args0 about1 = true := code_word (m := ⟨3, 2⟩) (meth := k3m2) (c := k3c2) (by decide +kernel) rfl rfl rfl (by decide +kernel)
def codes1 : List Jvm.Cond := [Jvm.Cond.code x code maxLocals ret, Jvm.Cond.code ({ cls := "com/example/okno/okno/AdmissionLog", name := "<init>", desc := "(JI)V" } : Jvm.MethodName) prog_2_method_1_code (4 : Nat) (Option.none : Option Jvm.ClassFile.FieldType), Jvm.Cond.code ({ cls := "com/example/okno/okno/KeyTurn", name := "<init>", desc := "()V" } : Jvm.MethodName) prog_8_method_1_code (1 : Nat) (Option.none : Option Jvm.ClassFile.FieldType), Jvm.Cond.code ({ cls := "java/lang/Object", name := "<init>", desc := "()V" } : Jvm.MethodName) object_method_1_code (1 : Nat) (Option.none : Option Jvm.ClassFile.FieldType), Jvm.Cond.code ({ cls := "java/lang/Math", name := "floorDiv", desc := "(JJ)J" } : Jvm.MethodName) jdk_29_method_49_code (6 : Nat) (Option.some Jvm.ClassFile.FieldType.long), Jvm.Cond.code ({ cls := "com/example/okno/okno/AdmissionLog", name := "setCallReadings", desc := "(JJ)V" } : Jvm.MethodName) prog_2_method_8_code (5 : Nat) (Option.none : Option Jvm.ClassFile.FieldType), Jvm.Cond.code ({ cls := "com/example/okno/okno/AdmissionLog", name := "callTime", desc := "()J" } : Jvm.MethodName) prog_2_method_9_code (1 : Nat) (Option.some Jvm.ClassFile.FieldType.long), Jvm.Cond.code ({ cls := "com/example/okno/okno/AdmissionLog", name := "callSteady", desc := "()J" } : Jvm.MethodName) prog_2_method_10_code (1 : Nat) (Option.some Jvm.ClassFile.FieldType.long), Jvm.Cond.code ({ cls := "com/example/okno/okno/AdmissionLog", name := "total", desc := "()J" } : Jvm.MethodName) prog_2_method_2_code (1 : Nat) (Option.some Jvm.ClassFile.FieldType.long), Jvm.Cond.code ({ cls := "com/example/okno/okno/AdmissionLog", name := "newest", desc := "()J" } : Jvm.MethodName) prog_2_method_4_code (1 : Nat) (Option.some Jvm.ClassFile.FieldType.long)]
set_option maxRecDepth 65536 in
theorem codes_eq : words1.filter isCode = codes1 := rfl
theorem w_codes : ∀ c ∈ words1.filter isCode, c.before args0 about1 = true := by
  rw [codes_eq]
  intro c hc
  simp only [codes1, List.mem_cons, List.not_mem_nil, or_false] at hc
  rcases hc with rfl | rfl | rfl | rfl | rfl | rfl | rfl | rfl | rfl | rfl
  · exact w_c0
  · exact w_c1
  · exact w_c2
  · exact w_c3
  · exact w_c4
  · exact w_c5
  · exact w_c6
  · exact w_c7
  · exact w_c8
  · exact w_c9
set_option maxRecDepth 65536 in
theorem w_t1 : (words1.take 24).all (fun c => isCode c || c.before args0 about1) = true := by decide +kernel
set_option maxRecDepth 65536 in
theorem w_t2 : ((words1.drop 24).take 24).all (fun c => isCode c || c.before args0 about1) = true := by decide +kernel
set_option maxRecDepth 65536 in
theorem w_t3 : ((words1.drop 24).drop 24).all (fun c => isCode c || c.before args0 about1) = true := by decide +kernel
theorem w_tables : (allAtoms (Jvm.Cond.code x code maxLocals ret :: tables_1)).before args0 about1 = true := by
  rw [allAtoms_all]
  show words1.all (fun c => c.before args0 about1) = true
  refine all_split ?_ w_codes
  rw [← List.take_append_drop 24 words1, List.all_append, w_t1, ← List.take_append_drop 24 (words1.drop 24), List.all_append, w_t2, w_t3]
  rfl
set_option maxRecDepth 65536 in
theorem w_case : (Jvm.Cond.and given_1 narrow_1).before args0 about1 = true := by decide +kernel
theorem w_applies : (headSpec (Jvm.Cond.code x code maxLocals ret :: tables_1) room_1).applies x e0.platform about1 = true :=
  (Spec.applies_iff w_frames).mpr ⟨w_running, w_runnable, w_alone, w_named, w_hears, w_ripe, w_room, w_tables⟩
theorem atStart : AtStart classFile x code maxLocals ret World_1 tables_1 room_1 Calls_1 rest_1 Pre_1 launch0 p0 e0 about1 theMethod args0 below0 :=
  ⟨lists_1, trivial, launch0.admits_env _ _ _, launch0.least_env, fairChoices_fair.cas, fairChoices_fair.clock, w_frames, w_args, w_heap, w_applies, trivial, trivial, w_case⟩
end start1
theorem witness_1 : WitnessClaimed_1 := ⟨start1.p0, start1.e0, start1.about1, start1.theMethod, start1.args0, start1.below0, start1.atStart⟩
end Jvm.Pilot.@@N@@
