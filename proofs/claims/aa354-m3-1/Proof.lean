import JvmDerived
import JvmDerived.Pilot.@@N@@Statement
import JvmDerived.Pilot.@@N@@Code
set_option linter.unusedVariables false
set_option linter.unusedSimpArgs false
namespace Jvm.RoadKit
open Sem ClassFile Op Lib Jvm.Stand Jvm.Free Jvm.LawKit
section New
variable {p : Program} {l : Launch} {e : Env} {R : Room} {s : State} {m : MethodId} {args : Array Value} {below : List Frame} {meth : Method} {c : Code} {T : State} {locs : List Loc} {cells slots : Nat}
theorem retI (X : Stand p l e R s m args below meth c T locs cells slots) (hx : p.tables.exec = Jvm.exec) {pc : Nat} {Ls : Array Slot} {z : Int32} {rest : List Value} (hret : meth.sig.returnType = some .int) (hd : decode c.code pc = .ok (.ireturn, 1)) {fs : List Frame}
    (hl : ∀ (f : JFrame) (acts : List Action), f.method = m → f.locked = none → f.entered = [] → (doReturn e (T.setTop f) acts (some (.int z))).1 = T.setFrames fs) : Steps p.tables e below (T.setTop (mkF m pc Ls (.int z :: rest))) (T.setFrames fs) := by
  have hm' : T.vm.method? m = some meth := X.method'
  have hn : narrow .int (.int z) = .int z := rfl
  show Steps p.tables e below (T.setTop { method := m, pc := pc, locals := Ls, stack := _ :: rest, locked := none }) _
  jvm_step X.here [X.here.top, hx, hd, hm', hret, hn]
  first | (intro acts; rw [hl _ acts rfl rfl rfl]) | rw [hl _ _ rfl rfl rfl]
  exact Steps.refl _
theorem own_lremM {g : JFrame} {target : State} (X : Stand p l e R s m args below meth c T locs cells slots) (hx : p.tables.exec = Jvm.exec) (hg : g.method = m) {x y : Int64} {rest : List Value} (hd : decode c.code g.pc = .ok (.lrem, 1)) (hs : g.stack = .long y :: .long x :: rest) (hy : y ≠ 0)
    (hr : Steps p.tables e below (T.setTop { g with pc := g.pc + 1, stack := .long (x % y) :: rest }) target) : Steps p.tables e below (T.setTop g) target := by
  have q : x - x / y * y = x % y := lrem_mod x y
  exact XS.lrem X.here hx hg hd hs hy (by rw [q]; exact hr)
theorem own_selP {Z : State} {a0 : Array Value} {C : String} {n : Nat} {y : MethodName} (hC : y.cls = C) (wi : (Cond.instantiable C n).before a0 Z = true) (wm : (Cond.instanceMethod y).before a0 Z = true) (wp : (Cond.privateMethod y).before a0 Z = true) (hy : y.cls ≠ "java/lang/invoke/MethodHandle" ∧ y.cls ≠ "java/lang/invoke/VarHandle") : (Cond.selects y.cls y y).before a0 Z = true := by
  obtain ⟨c, k, h1, h2, h3, h4, -⟩ := Cond.instantiable_spec wi
  simp only [Bool.or_eq_false_iff] at h4
  subst hC
  exact selects_self_of_private h1 h2 h4.1 (Cond.privateMethod_at wp) wm hy
end New
end Jvm.RoadKit
namespace Jvm.Pilot.@@N@@
open Jvm Jvm.ClassFile Sem Op Lib Jvm.Free Jvm.Stand Jvm.LawKit Jvm.RoadKit Bundle Jvm.Pilot.@@N@@.Jvm.D
def own_nm (m : Int64) (c : Int32) (now : Int64) : Int64 := if m < now then now else if c = (2147483647 : Int32) then (m + (1 : Int64)) else m
def own_nc (m : Int64) (c : Int32) (now : Int64) : Int32 := if m < now then (0 : Int32) else if c = (2147483647 : Int32) then (0 : Int32) else (c + (1 : Int32))
theorem own_mask (x : Int32) : ¬ (x &&& (2147483647 : Int32)) < (0 : Int32) := by
  have h := (c_and x 2147483647 (by decide)).1
  have k0 : (0 : Int32).toInt = 0 := by decide
  rw [Int32.lt_iff_toInt_lt]; omega
theorem own_law0 (q1 now : Int64) (cnt : Int32) (hc : ¬ cnt < (0 : Int32)) (hg : ¬ q1 = (9223372036854775807 : Int64) ∨ ¬ cnt = (2147483647 : Int32)) : (own_nm q1 cnt now) = (if (if cnt < (2147483647 : Int32) then q1 else (q1 + (1 : Int64))) < now then now else (if now = (if cnt < (2147483647 : Int32) then q1 else (q1 + (1 : Int64))) then (if (if cnt < (2147483647 : Int32) then (cnt + (1 : Int32)) else (0 : Int32)) < (0 : Int32) then now else (if cnt < (2147483647 : Int32) then q1 else (q1 + (1 : Int64)))) else (if cnt < (2147483647 : Int32) then q1 else (q1 + (1 : Int64))))) := by
  have e1 := c_ladd q1 1
  have e2 := c_iadd cnt 1
  have r1 := rng64 q1
  have r2 := rng32 cnt
  have r3 := rng64 (q1 + 1)
  have r4 := rng32 (cnt + 1)
  have r5 := rng64 now
  have k1 : (1 : Int64).toInt = 1 := by decide
  have k2 : (1 : Int32).toInt = 1 := by decide
  have k3 : (9223372036854775807 : Int64).toInt = 9223372036854775807 := by decide
  have k4 : (2147483647 : Int32).toInt = 2147483647 := by decide
  have k5 : (0 : Int32).toInt = 0 := by decide
  simp only [← Int64.toInt_inj, ← Int32.toInt_inj, Int64.lt_iff_toInt_lt, Int32.lt_iff_toInt_lt] at hc hg
  unfold own_nm
  simp only [← Int64.toInt_inj, ← Int32.toInt_inj, Int64.lt_iff_toInt_lt, Int32.lt_iff_toInt_lt]
  repeat' split
  all_goals (try simp only [Int64.lt_iff_toInt_lt, Int32.lt_iff_toInt_lt, ← Int64.toInt_inj, ← Int32.toInt_inj] at *)
  all_goals omega
theorem own_law1 (q1 now : Int64) (cnt : Int32) (hc : ¬ cnt < (0 : Int32)) (hg : ¬ q1 = (9223372036854775807 : Int64) ∨ ¬ cnt = (2147483647 : Int32)) : (own_nc q1 cnt now) = (if (if cnt < (2147483647 : Int32) then q1 else (q1 + (1 : Int64))) < now then (0 : Int32) else (if now = (if cnt < (2147483647 : Int32) then q1 else (q1 + (1 : Int64))) then (if (if cnt < (2147483647 : Int32) then (cnt + (1 : Int32)) else (0 : Int32)) < (0 : Int32) then (0 : Int32) else (if cnt < (2147483647 : Int32) then (cnt + (1 : Int32)) else (0 : Int32))) else (if cnt < (2147483647 : Int32) then (cnt + (1 : Int32)) else (0 : Int32)))) := by
  have e1 := c_ladd q1 1
  have e2 := c_iadd cnt 1
  have r1 := rng64 q1
  have r2 := rng32 cnt
  have r3 := rng64 (q1 + 1)
  have r4 := rng32 (cnt + 1)
  have r5 := rng64 now
  have k1 : (1 : Int64).toInt = 1 := by decide
  have k2 : (1 : Int32).toInt = 1 := by decide
  have k3 : (9223372036854775807 : Int64).toInt = 9223372036854775807 := by decide
  have k4 : (2147483647 : Int32).toInt = 2147483647 := by decide
  have k5 : (0 : Int32).toInt = 0 := by decide
  simp only [← Int64.toInt_inj, ← Int32.toInt_inj, Int64.lt_iff_toInt_lt, Int32.lt_iff_toInt_lt] at hc hg
  unfold own_nc
  simp only [← Int64.toInt_inj, ← Int32.toInt_inj, Int64.lt_iff_toInt_lt, Int32.lt_iff_toInt_lt]
  repeat' split
  all_goals (try simp only [Int64.lt_iff_toInt_lt, Int32.lt_iff_toInt_lt, ← Int64.toInt_inj, ← Int32.toInt_inj] at *)
  all_goals omega
theorem own_law2 (q1 now : Int64) (cnt : Int32) (hc : ¬ cnt < (0 : Int32)) (hg : ¬ q1 = (9223372036854775807 : Int64) ∨ ¬ cnt = (2147483647 : Int32)) : (own_nm q1 cnt now) = (if (if cnt < (2147483647 : Int32) then q1 else (q1 + (1 : Int64))) < now then now else (if now = (if cnt < (2147483647 : Int32) then q1 else (q1 + (1 : Int64))) then (if (if cnt < (2147483647 : Int32) then (cnt + (1 : Int32)) else (0 : Int32)) < (0 : Int32) then now else (if cnt < (2147483647 : Int32) then q1 else (q1 + (1 : Int64)))) else (if cnt < (2147483647 : Int32) then q1 else (q1 + (1 : Int64))))) := by
  have e1 := c_ladd q1 1
  have e2 := c_iadd cnt 1
  have r1 := rng64 q1
  have r2 := rng32 cnt
  have r3 := rng64 (q1 + 1)
  have r4 := rng32 (cnt + 1)
  have r5 := rng64 now
  have k1 : (1 : Int64).toInt = 1 := by decide
  have k2 : (1 : Int32).toInt = 1 := by decide
  have k3 : (9223372036854775807 : Int64).toInt = 9223372036854775807 := by decide
  have k4 : (2147483647 : Int32).toInt = 2147483647 := by decide
  have k5 : (0 : Int32).toInt = 0 := by decide
  simp only [← Int64.toInt_inj, ← Int32.toInt_inj, Int64.lt_iff_toInt_lt, Int32.lt_iff_toInt_lt] at hc hg
  unfold own_nm
  simp only [← Int64.toInt_inj, ← Int32.toInt_inj, Int64.lt_iff_toInt_lt, Int32.lt_iff_toInt_lt]
  repeat' split
  all_goals (try simp only [Int64.lt_iff_toInt_lt, Int32.lt_iff_toInt_lt, ← Int64.toInt_inj, ← Int32.toInt_inj] at *)
  all_goals omega
theorem own_law3 (q1 now : Int64) (cnt : Int32) (hc : ¬ cnt < (0 : Int32)) (hg : ¬ q1 = (9223372036854775807 : Int64) ∨ ¬ cnt = (2147483647 : Int32)) : (own_nc q1 cnt now) = (if (if cnt < (2147483647 : Int32) then q1 else (q1 + (1 : Int64))) < now then (0 : Int32) else (if now = (if cnt < (2147483647 : Int32) then q1 else (q1 + (1 : Int64))) then (if (if cnt < (2147483647 : Int32) then (cnt + (1 : Int32)) else (0 : Int32)) < (0 : Int32) then (0 : Int32) else (if cnt < (2147483647 : Int32) then (cnt + (1 : Int32)) else (0 : Int32))) else (if cnt < (2147483647 : Int32) then (cnt + (1 : Int32)) else (0 : Int32)))) := by
  have e1 := c_ladd q1 1
  have e2 := c_iadd cnt 1
  have r1 := rng64 q1
  have r2 := rng32 cnt
  have r3 := rng64 (q1 + 1)
  have r4 := rng32 (cnt + 1)
  have r5 := rng64 now
  have k1 : (1 : Int64).toInt = 1 := by decide
  have k2 : (1 : Int32).toInt = 1 := by decide
  have k3 : (9223372036854775807 : Int64).toInt = 9223372036854775807 := by decide
  have k4 : (2147483647 : Int32).toInt = 2147483647 := by decide
  have k5 : (0 : Int32).toInt = 0 := by decide
  simp only [← Int64.toInt_inj, ← Int32.toInt_inj, Int64.lt_iff_toInt_lt, Int32.lt_iff_toInt_lt] at hc hg
  unfold own_nc
  simp only [← Int64.toInt_inj, ← Int32.toInt_inj, Int64.lt_iff_toInt_lt, Int32.lt_iff_toInt_lt]
  repeat' split
  all_goals (try simp only [Int64.lt_iff_toInt_lt, Int32.lt_iff_toInt_lt, ← Int64.toInt_inj, ← Int32.toInt_inj] at *)
  all_goals omega
theorem kw0 {Z : State} {a0 : Array Value} (hw : ∀ d ∈ tables_1, d.before a0 Z = true) : (Jvm.Cond.constant "com/example/tidemark/tidemark/store/StampNextPinLaw" (9 : Nat) (2147483647 : Int32)).before a0 Z = true := hw _ (List.mem_of_getElem? (i := 0) rfl)
theorem kw1 {Z : State} {a0 : Array Value} (hw : ∀ d ∈ tables_1, d.before a0 Z = true) : (Jvm.Cond.constantLong "com/example/tidemark/tidemark/store/StampNextPinLaw" (14 : Nat) (9223372036854775807 : Int64)).before a0 Z = true := hw _ (List.mem_of_getElem? (i := 1) rfl)
theorem kw2 {Z : State} {a0 : Array Value} (hw : ∀ d ∈ tables_1, d.before a0 Z = true) : (Jvm.Cond.classLink "com/example/tidemark/tidemark/store/StampNextPinLaw" (16 : Nat) "com/example/tidemark/tidemark/store/Stamp").before a0 Z = true := hw _ (List.mem_of_getElem? (i := 2) rfl)
theorem kw3 {Z : State} {a0 : Array Value} (hw : ∀ d ∈ tables_1, d.before a0 Z = true) : (Jvm.Cond.instantiable "com/example/tidemark/tidemark/store/Stamp" (2 : Nat)).before a0 Z = true := hw _ (List.mem_of_getElem? (i := 3) rfl)
theorem kw4 {Z : State} {a0 : Array Value} (hw : ∀ d ∈ tables_1, d.before a0 Z = true) : (Jvm.Cond.initialized "com/example/tidemark/tidemark/store/Stamp").before a0 Z = true := hw _ (List.mem_of_getElem? (i := 4) rfl)
theorem kw5 {Z : State} {a0 : Array Value} (hw : ∀ d ∈ tables_1, d.before a0 Z = true) : (Jvm.Cond.methodLink "com/example/tidemark/tidemark/store/StampNextPinLaw" (18 : Nat) ({ cls := "com/example/tidemark/tidemark/store/Stamp", name := "<init>", desc := "(JI)V" } : Jvm.MethodName)).before a0 Z = true := hw _ (List.mem_of_getElem? (i := 5) rfl)
theorem kw6 {Z : State} {a0 : Array Value} (hw : ∀ d ∈ tables_1, d.before a0 Z = true) : (Jvm.Cond.instanceMethod ({ cls := "com/example/tidemark/tidemark/store/Stamp", name := "<init>", desc := "(JI)V" } : Jvm.MethodName)).before a0 Z = true := hw _ (List.mem_of_getElem? (i := 6) rfl)
theorem kw7 {Z : State} {a0 : Array Value} (hw : ∀ d ∈ tables_1, d.before a0 Z = true) : (Jvm.Cond.code ({ cls := "com/example/tidemark/tidemark/store/Stamp", name := "<init>", desc := "(JI)V" } : Jvm.MethodName) prog_37_method_1_code (4 : Nat) (Option.none : Option Jvm.ClassFile.FieldType)).before a0 Z = true := hw _ (List.mem_of_getElem? (i := 7) rfl)
theorem kw8 {Z : State} {a0 : Array Value} (hw : ∀ d ∈ tables_1, d.before a0 Z = true) : (Jvm.Cond.methodLink "com/example/tidemark/tidemark/store/Stamp" (1 : Nat) ({ cls := "java/lang/Record", name := "<init>", desc := "()V" } : Jvm.MethodName)).before a0 Z = true := hw _ (List.mem_of_getElem? (i := 8) rfl)
theorem kw9 {Z : State} {a0 : Array Value} (hw : ∀ d ∈ tables_1, d.before a0 Z = true) : (Jvm.Cond.instanceMethod ({ cls := "java/lang/Record", name := "<init>", desc := "()V" } : Jvm.MethodName)).before a0 Z = true := hw _ (List.mem_of_getElem? (i := 9) rfl)
theorem kw11 {Z : State} {a0 : Array Value} (hw : ∀ d ∈ tables_1, d.before a0 Z = true) : (Jvm.Cond.initialized "java/lang/Record").before a0 Z = true := hw _ (List.mem_of_getElem? (i := 11) rfl)
theorem kw12 {Z : State} {a0 : Array Value} (hw : ∀ d ∈ tables_1, d.before a0 Z = true) : (Jvm.Cond.code ({ cls := "java/lang/Record", name := "<init>", desc := "()V" } : Jvm.MethodName) jdk_30_method_1_code (1 : Nat) (Option.none : Option Jvm.ClassFile.FieldType)).before a0 Z = true := hw _ (List.mem_of_getElem? (i := 12) rfl)
theorem kw13 {Z : State} {a0 : Array Value} (hw : ∀ d ∈ tables_1, d.before a0 Z = true) : (Jvm.Cond.methodLink "java/lang/Record" (1 : Nat) ({ cls := "java/lang/Object", name := "<init>", desc := "()V" } : Jvm.MethodName)).before a0 Z = true := hw _ (List.mem_of_getElem? (i := 13) rfl)
theorem kw14 {Z : State} {a0 : Array Value} (hw : ∀ d ∈ tables_1, d.before a0 Z = true) : (Jvm.Cond.instanceMethod ({ cls := "java/lang/Object", name := "<init>", desc := "()V" } : Jvm.MethodName)).before a0 Z = true := hw _ (List.mem_of_getElem? (i := 14) rfl)
theorem kw15 {Z : State} {a0 : Array Value} (hw : ∀ d ∈ tables_1, d.before a0 Z = true) : (Jvm.Cond.code ({ cls := "java/lang/Object", name := "<init>", desc := "()V" } : Jvm.MethodName) object_method_1_code (1 : Nat) (Option.none : Option Jvm.ClassFile.FieldType)).before a0 Z = true := hw _ (List.mem_of_getElem? (i := 15) rfl)
theorem kw16 {Z : State} {a0 : Array Value} (hw : ∀ d ∈ tables_1, d.before a0 Z = true) : (Jvm.Cond.fieldLink "com/example/tidemark/tidemark/store/Stamp" (7 : Nat) "com/example/tidemark/tidemark/store/Stamp" "millis" "J").before a0 Z = true := hw _ (List.mem_of_getElem? (i := 16) rfl)
theorem kw17 {Z : State} {a0 : Array Value} (hw : ∀ d ∈ tables_1, d.before a0 Z = true) : (Jvm.Cond.laysFinal "com/example/tidemark/tidemark/store/Stamp" "com/example/tidemark/tidemark/store/Stamp" "millis" "J").before a0 Z = true := hw _ (List.mem_of_getElem? (i := 17) rfl)
theorem kw18 {Z : State} {a0 : Array Value} (hw : ∀ d ∈ tables_1, d.before a0 Z = true) : (Jvm.Cond.fieldLink "com/example/tidemark/tidemark/store/Stamp" (13 : Nat) "com/example/tidemark/tidemark/store/Stamp" "counter" "I").before a0 Z = true := hw _ (List.mem_of_getElem? (i := 18) rfl)
theorem kw19 {Z : State} {a0 : Array Value} (hw : ∀ d ∈ tables_1, d.before a0 Z = true) : (Jvm.Cond.laysFinal "com/example/tidemark/tidemark/store/Stamp" "com/example/tidemark/tidemark/store/Stamp" "counter" "I").before a0 Z = true := hw _ (List.mem_of_getElem? (i := 19) rfl)
theorem kw20 {Z : State} {a0 : Array Value} (hw : ∀ d ∈ tables_1, d.before a0 Z = true) : (Jvm.Cond.methodLink "com/example/tidemark/tidemark/store/StampNextPinLaw" (21 : Nat) ({ cls := "com/example/tidemark/tidemark/store/Stamp", name := "next", desc := "(J)Lcom/example/tidemark/tidemark/store/Stamp;" } : Jvm.MethodName)).before a0 Z = true := hw _ (List.mem_of_getElem? (i := 20) rfl)
theorem kw21 {Z : State} {a0 : Array Value} (hw : ∀ d ∈ tables_1, d.before a0 Z = true) : (Jvm.Cond.declares ({ cls := "com/example/tidemark/tidemark/store/Stamp", name := "next", desc := "(J)Lcom/example/tidemark/tidemark/store/Stamp;" } : Jvm.MethodName)).before a0 Z = true := hw _ (List.mem_of_getElem? (i := 21) rfl)
theorem kw22 {Z : State} {a0 : Array Value} (hw : ∀ d ∈ tables_1, d.before a0 Z = true) : (Jvm.Cond.instanceMethod ({ cls := "com/example/tidemark/tidemark/store/Stamp", name := "next", desc := "(J)Lcom/example/tidemark/tidemark/store/Stamp;" } : Jvm.MethodName)).before a0 Z = true := hw _ (List.mem_of_getElem? (i := 22) rfl)
theorem kw23 {Z : State} {a0 : Array Value} (hw : ∀ d ∈ tables_1, d.before a0 Z = true) : (Jvm.Cond.selects "com/example/tidemark/tidemark/store/Stamp" ({ cls := "com/example/tidemark/tidemark/store/Stamp", name := "next", desc := "(J)Lcom/example/tidemark/tidemark/store/Stamp;" } : Jvm.MethodName) ({ cls := "com/example/tidemark/tidemark/store/Stamp", name := "next", desc := "(J)Lcom/example/tidemark/tidemark/store/Stamp;" } : Jvm.MethodName)).before a0 Z = true := hw _ (List.mem_of_getElem? (i := 23) rfl)
theorem kw24 {Z : State} {a0 : Array Value} (hw : ∀ d ∈ tables_1, d.before a0 Z = true) : (Jvm.Cond.code ({ cls := "com/example/tidemark/tidemark/store/Stamp", name := "next", desc := "(J)Lcom/example/tidemark/tidemark/store/Stamp;" } : Jvm.MethodName) prog_37_method_3_code (3 : Nat) (Option.some (Jvm.ClassFile.FieldType.object "com/example/tidemark/tidemark/store/Stamp"))).before a0 Z = true := hw _ (List.mem_of_getElem? (i := 24) rfl)
theorem kw25 {Z : State} {a0 : Array Value} (hw : ∀ d ∈ tables_1, d.before a0 Z = true) : (Jvm.Cond.constant "com/example/tidemark/tidemark/store/Stamp" (51 : Nat) (2147483647 : Int32)).before a0 Z = true := hw _ (List.mem_of_getElem? (i := 25) rfl)
theorem kw26 {Z : State} {a0 : Array Value} (hw : ∀ d ∈ tables_1, d.before a0 Z = true) : (Jvm.Cond.classLink "com/example/tidemark/tidemark/store/Stamp" (8 : Nat) "com/example/tidemark/tidemark/store/Stamp").before a0 Z = true := hw _ (List.mem_of_getElem? (i := 26) rfl)
theorem kw27 {Z : State} {a0 : Array Value} (hw : ∀ d ∈ tables_1, d.before a0 Z = true) : (Jvm.Cond.methodLink "com/example/tidemark/tidemark/store/Stamp" (37 : Nat) ({ cls := "com/example/tidemark/tidemark/store/Stamp", name := "<init>", desc := "(JI)V" } : Jvm.MethodName)).before a0 Z = true := hw _ (List.mem_of_getElem? (i := 27) rfl)
theorem kw28 {Z : State} {a0 : Array Value} (hw : ∀ d ∈ tables_1, d.before a0 Z = true) : (Jvm.Cond.methodLink "com/example/tidemark/tidemark/store/StampNextPinLaw" (25 : Nat) ({ cls := "com/example/tidemark/tidemark/store/Stamp", name := "millis", desc := "()J" } : Jvm.MethodName)).before a0 Z = true := hw _ (List.mem_of_getElem? (i := 28) rfl)
theorem kw29 {Z : State} {a0 : Array Value} (hw : ∀ d ∈ tables_1, d.before a0 Z = true) : (Jvm.Cond.declares ({ cls := "com/example/tidemark/tidemark/store/Stamp", name := "millis", desc := "()J" } : Jvm.MethodName)).before a0 Z = true := hw _ (List.mem_of_getElem? (i := 29) rfl)
theorem kw30 {Z : State} {a0 : Array Value} (hw : ∀ d ∈ tables_1, d.before a0 Z = true) : (Jvm.Cond.instanceMethod ({ cls := "com/example/tidemark/tidemark/store/Stamp", name := "millis", desc := "()J" } : Jvm.MethodName)).before a0 Z = true := hw _ (List.mem_of_getElem? (i := 30) rfl)
theorem kw31 {Z : State} {a0 : Array Value} (hw : ∀ d ∈ tables_1, d.before a0 Z = true) : (Jvm.Cond.selects "com/example/tidemark/tidemark/store/Stamp" ({ cls := "com/example/tidemark/tidemark/store/Stamp", name := "millis", desc := "()J" } : Jvm.MethodName) ({ cls := "com/example/tidemark/tidemark/store/Stamp", name := "millis", desc := "()J" } : Jvm.MethodName)).before a0 Z = true := hw _ (List.mem_of_getElem? (i := 31) rfl)
theorem kw32 {Z : State} {a0 : Array Value} (hw : ∀ d ∈ tables_1, d.before a0 Z = true) : (Jvm.Cond.code ({ cls := "com/example/tidemark/tidemark/store/Stamp", name := "millis", desc := "()J" } : Jvm.MethodName) prog_37_method_9_code (1 : Nat) (Option.some Jvm.ClassFile.FieldType.long)).before a0 Z = true := hw _ (List.mem_of_getElem? (i := 32) rfl)
theorem kw33 {Z : State} {a0 : Array Value} (hw : ∀ d ∈ tables_1, d.before a0 Z = true) : (Jvm.Cond.methodLink "com/example/tidemark/tidemark/store/StampNextPinLaw" (29 : Nat) ({ cls := "com/example/tidemark/tidemark/store/Stamp", name := "counter", desc := "()I" } : Jvm.MethodName)).before a0 Z = true := hw _ (List.mem_of_getElem? (i := 33) rfl)
theorem kw34 {Z : State} {a0 : Array Value} (hw : ∀ d ∈ tables_1, d.before a0 Z = true) : (Jvm.Cond.declares ({ cls := "com/example/tidemark/tidemark/store/Stamp", name := "counter", desc := "()I" } : Jvm.MethodName)).before a0 Z = true := hw _ (List.mem_of_getElem? (i := 34) rfl)
theorem kw35 {Z : State} {a0 : Array Value} (hw : ∀ d ∈ tables_1, d.before a0 Z = true) : (Jvm.Cond.instanceMethod ({ cls := "com/example/tidemark/tidemark/store/Stamp", name := "counter", desc := "()I" } : Jvm.MethodName)).before a0 Z = true := hw _ (List.mem_of_getElem? (i := 35) rfl)
theorem kw36 {Z : State} {a0 : Array Value} (hw : ∀ d ∈ tables_1, d.before a0 Z = true) : (Jvm.Cond.selects "com/example/tidemark/tidemark/store/Stamp" ({ cls := "com/example/tidemark/tidemark/store/Stamp", name := "counter", desc := "()I" } : Jvm.MethodName) ({ cls := "com/example/tidemark/tidemark/store/Stamp", name := "counter", desc := "()I" } : Jvm.MethodName)).before a0 Z = true := hw _ (List.mem_of_getElem? (i := 36) rfl)
theorem kw37 {Z : State} {a0 : Array Value} (hw : ∀ d ∈ tables_1, d.before a0 Z = true) : (Jvm.Cond.code ({ cls := "com/example/tidemark/tidemark/store/Stamp", name := "counter", desc := "()I" } : Jvm.MethodName) prog_37_method_10_code (1 : Nat) (Option.some Jvm.ClassFile.FieldType.int)).before a0 Z = true := hw _ (List.mem_of_getElem? (i := 37) rfl)
theorem kw38 {Z : State} {a0 : Array Value} (hw : ∀ d ∈ tables_1, d.before a0 Z = true) : (Jvm.Cond.constantLong "com/example/tidemark/tidemark/store/StampNextPinLaw" (10 : Nat) (3 : Int64)).before a0 Z = true := hw _ (List.mem_of_getElem? (i := 38) rfl)
theorem pn_0 : plainName "java/lang/Record" = true := by first | (simp [plainName, overriddenIn]; done) | decide +kernel
theorem pn_1 : plainName "com/example/tidemark/tidemark/store/Stamp" = true := by first | (simp [plainName, overriddenIn]; done) | decide +kernel
theorem pn_2 : plainName "com/example/tidemark/tidemark/store/StampNextPinLaw" = true := by first | (simp [plainName, overriddenIn]; done) | decide +kernel
theorem pd_0 : parseMethodDescriptor "()V" = some ⟨[], none⟩ := by decide +kernel
theorem pd_1 : parseMethodDescriptor "(JI)V" = some ⟨[.long, .int], none⟩ := by decide +kernel
theorem pd_2 : parseMethodDescriptor "(J)Lcom/example/tidemark/tidemark/store/Stamp;" = some ⟨[.long], some (.object "com/example/tidemark/tidemark/store/Stamp")⟩ := by decide +kernel
theorem pd_3 : parseMethodDescriptor "()J" = some ⟨[], some .long⟩ := by decide +kernel
theorem pd_4 : parseMethodDescriptor "()I" = some ⟨[], some .int⟩ := by decide +kernel
theorem d1_0 : decode prog_37_method_1_code 0 = .ok (.aload_n 0, 1) := by decide +kernel
theorem d1_1 : decode prog_37_method_1_code 1 = .ok (.invokespecial 1, 3) := by decide +kernel
theorem d1_4 : decode prog_37_method_1_code 4 = .ok (.aload_n 0, 1) := by decide +kernel
theorem d1_5 : decode prog_37_method_1_code 5 = .ok (.lload_n 1, 1) := by decide +kernel
theorem d1_6 : decode prog_37_method_1_code 6 = .ok (.putfield 7, 3) := by decide +kernel
theorem d1_9 : decode prog_37_method_1_code 9 = .ok (.aload_n 0, 1) := by decide +kernel
theorem d1_10 : decode prog_37_method_1_code 10 = .ok (.iload_n 3, 1) := by decide +kernel
theorem d1_11 : decode prog_37_method_1_code 11 = .ok (.putfield 13, 3) := by decide +kernel
theorem d1_14 : decode prog_37_method_1_code 14 = .ok (.return_, 1) := by decide +kernel
theorem d2_0 : decode jdk_30_method_1_code 0 = .ok (.aload_n 0, 1) := by decide +kernel
theorem d2_1 : decode jdk_30_method_1_code 1 = .ok (.invokespecial 1, 3) := by decide +kernel
theorem d2_4 : decode jdk_30_method_1_code 4 = .ok (.return_, 1) := by decide +kernel
theorem d4_0 : decode prog_37_method_3_code 0 = .ok (.lload_n 1, 1) := by decide +kernel
theorem d4_1 : decode prog_37_method_3_code 1 = .ok (.aload_n 0, 1) := by decide +kernel
theorem d4_2 : decode prog_37_method_3_code 2 = .ok (.getfield 7, 3) := by decide +kernel
theorem d4_5 : decode prog_37_method_3_code 5 = .ok (.lcmp, 1) := by decide +kernel
theorem d4_6 : decode prog_37_method_3_code 6 = .ok (.ifCond .le 13, 3) := by decide +kernel
theorem d4_9 : decode prog_37_method_3_code 9 = .ok (.new 8, 3) := by decide +kernel
theorem d4_12 : decode prog_37_method_3_code 12 = .ok (.dup, 1) := by decide +kernel
theorem d4_13 : decode prog_37_method_3_code 13 = .ok (.lload_n 1, 1) := by decide +kernel
theorem d4_14 : decode prog_37_method_3_code 14 = .ok (.iconst 0, 1) := by decide +kernel
theorem d4_15 : decode prog_37_method_3_code 15 = .ok (.invokespecial 37, 3) := by decide +kernel
theorem d4_18 : decode prog_37_method_3_code 18 = .ok (.areturn, 1) := by decide +kernel
theorem d4_19 : decode prog_37_method_3_code 19 = .ok (.aload_n 0, 1) := by decide +kernel
theorem d4_20 : decode prog_37_method_3_code 20 = .ok (.getfield 13, 3) := by decide +kernel
theorem d4_23 : decode prog_37_method_3_code 23 = .ok (.ldc 51, 2) := by decide +kernel
theorem d4_25 : decode prog_37_method_3_code 25 = .ok (.if_icmp .ne 20, 3) := by decide +kernel
theorem d4_28 : decode prog_37_method_3_code 28 = .ok (.new 8, 3) := by decide +kernel
theorem d4_31 : decode prog_37_method_3_code 31 = .ok (.dup, 1) := by decide +kernel
theorem d4_32 : decode prog_37_method_3_code 32 = .ok (.aload_n 0, 1) := by decide +kernel
theorem d4_33 : decode prog_37_method_3_code 33 = .ok (.getfield 7, 3) := by decide +kernel
theorem d4_36 : decode prog_37_method_3_code 36 = .ok (.lconst 1, 1) := by decide +kernel
theorem d4_37 : decode prog_37_method_3_code 37 = .ok (.ladd, 1) := by decide +kernel
theorem d4_38 : decode prog_37_method_3_code 38 = .ok (.iconst 0, 1) := by decide +kernel
theorem d4_39 : decode prog_37_method_3_code 39 = .ok (.invokespecial 37, 3) := by decide +kernel
theorem d4_42 : decode prog_37_method_3_code 42 = .ok (.goto 20, 3) := by decide +kernel
theorem d4_45 : decode prog_37_method_3_code 45 = .ok (.new 8, 3) := by decide +kernel
theorem d4_48 : decode prog_37_method_3_code 48 = .ok (.dup, 1) := by decide +kernel
theorem d4_49 : decode prog_37_method_3_code 49 = .ok (.aload_n 0, 1) := by decide +kernel
theorem d4_50 : decode prog_37_method_3_code 50 = .ok (.getfield 7, 3) := by decide +kernel
theorem d4_53 : decode prog_37_method_3_code 53 = .ok (.aload_n 0, 1) := by decide +kernel
theorem d4_54 : decode prog_37_method_3_code 54 = .ok (.getfield 13, 3) := by decide +kernel
theorem d4_57 : decode prog_37_method_3_code 57 = .ok (.iconst 1, 1) := by decide +kernel
theorem d4_58 : decode prog_37_method_3_code 58 = .ok (.iadd, 1) := by decide +kernel
theorem d4_59 : decode prog_37_method_3_code 59 = .ok (.invokespecial 37, 3) := by decide +kernel
theorem d4_62 : decode prog_37_method_3_code 62 = .ok (.areturn, 1) := by decide +kernel
theorem d5_0 : decode prog_37_method_9_code 0 = .ok (.aload_n 0, 1) := by decide +kernel
theorem d5_1 : decode prog_37_method_9_code 1 = .ok (.getfield 7, 3) := by decide +kernel
theorem d5_4 : decode prog_37_method_9_code 4 = .ok (.lreturn, 1) := by decide +kernel
theorem d6_0 : decode prog_37_method_10_code 0 = .ok (.aload_n 0, 1) := by decide +kernel
theorem d6_1 : decode prog_37_method_10_code 1 = .ok (.getfield 13, 3) := by decide +kernel
theorem d6_4 : decode prog_37_method_10_code 4 = .ok (.ireturn, 1) := by decide +kernel
theorem ef_rm2 (m : MethodId) (x0 : Addr) : entryFrame m #[(.ref x0)] 1 = mkF m 0 #[.val (.ref x0)] [] := by first | (simp [entryFrame, mkF, argsToLocals, Value.category]; done) | rfl
def Q_rm2 (Z : State) (a1 : Addr) (h0 : Heap) (n0 : Nat) (v : Option Value) (h : Heap) (L : List Loc) : Prop := v = none ∧ Fr n0 L ∧ h = h0
set_option maxRecDepth 65536 in
set_option maxHeartbeats 40000000 in
theorem rm2 (l : Launch) (Z : State) (a0 : Array Value) (hw : ∀ d ∈ tables_1, d.before a0 Z = true) (ws : List Jvm.Cond) (a1 : Addr) (h0 : Heap) (n0 : Nat) (Z0 : n0 ≤ h0.size)  :
    MetFree l (⟨"java/lang/Record", "<init>", "()V"⟩ : MethodName) (head1 (Jvm.Cond.code (⟨"java/lang/Record", "<init>", "()V"⟩ : MethodName) jdk_30_method_1_code 1 none :: ws) ({ frames := 1, cells := 0, slots := 0, locals := 12 } : Room)) (fun a U => a = #[(.ref a1)] ∧ Z.Warmed39 U.vm ∧ U.heap = h0) (fun _ _ _ _ _ => True) (fun _ U o U' => ∃ v L, o = .returned v ∧ Q_rm2 Z a1 h0 n0 v U'.heap L ∧ FrameEnd U o U' L ({ frames := 1, cells := 0, slots := 0, locals := 12 } : Room).cells ({ frames := 1, cells := 0, slots := 0, locals := 12 } : Room).slots) := by
  refine MetFree.of_bodySF (plainFor_of_name pn_0) hisR ?_
  intro p e s m args below meth c s₁ Bd hml0 hP hK
  obtain ⟨rfl, hZ, hh⟩ := hP
  have hx := Bd.exec
  have hby := Bd.bytes
  have hml : c.maxLocals = 1 := hml0
  have hown : s.vm.findClass "java/lang/Record" = some m.cls := findClass_of_methodNamed Bd.named
  have hnm := (name_of_methodNamed Bd.named Bd.method).1
  have X0 : Stand p l e ({ frames := 1, cells := 0, slots := 0, locals := 12 } : Room) s m #[(.ref a1)] below meth c s₁ [] 0 0 := Stand.of_body Bd
  have e0 : s₁.heap = h0 := by rw [← hh, Bd.state]; rfl
  have N0 := Fr.nil n0
  have KR : Keep h0 h0 [] := Keep.refl h0 _
  have pre0 : ∀ t, Steps p.tables e below (s₁.setTop (mkF m 0 #[.val (.ref a1)] [])) t → Steps p.tables e below (s₁.setTop (entryFrame m #[(.ref a1)] 1)) t := fun t k => castTop (ef_rm2 m (a1)) k
  obtain ⟨T1, X1, e1, st1⟩ := initO X0 hx hZ hown (kw13 hw) (kw14 hw) (kw15 hw) e0 (g := (mkF m 1 #[.val (.ref a1)] [(.ref a1)])) rfl (by rw [hml]; rfl) rfl (hb hby d2_1) (by decide) (W := 0) (by show 2 * 0 + _ ≤ _; exact Nat.le_of_eq rfl) (by decide)
  obtain ⟨fs, hr, hrun, hended, hW, hsame⟩ := X1.leave (v := none) (fun _ => rfl)
  refine ⟨_, _, pre0 _ ?_, hrun, hended, _, _, rfl, ?_, ⟨_, rfl⟩, hW, hsame.mono (by decide) (by decide)⟩
  · skip
    show Steps p.tables e below (s₁.setTop (mkF m 0 #[.val (.ref a1)] [])) _
    refine XS.aloadN X0.here hx rfl (hb hby d2_0) rfl rfl ?_
    show Steps p.tables e below (s₁.setTop (mkF m 1 #[.val (.ref a1)] [(.ref a1)])) _
    refine st1 _ ?_
    show Steps p.tables e below (T1.setTop (mkF m 4 #[.val (.ref a1)] [])) _
    exact X1.returnOut hx Bd.returns (hb hby d2_4) hr
  · show Q_rm2 Z a1 h0 n0 _ T1.heap _
    rw [e1]
    exact ⟨rfl, N0, rfl⟩
theorem ef_rm1 (m : MethodId) (x0 : Addr) (x1 : Int64) (x2 : Int32) : entryFrame m #[(.ref x0), (.long x1), (.int x2)] 4 = mkF m 0 #[.val (.ref x0), .val (.long x1), .second, .val (.int x2)] [] := by first | (simp [entryFrame, mkF, argsToLocals, Value.category]; done) | rfl
def Q_rm1 (Z : State) (a1 : Addr) (q1 : Int64) (p2 : Int32) (h0 : Heap) (n0 : Nat) (v : Option Value) (h : Heap) (L : List Loc) : Prop := v = none ∧ Fr n0 L ∧ Keep h0 h [a1] ∧ Fld Z h a1 "com/example/tidemark/tidemark/store/Stamp" "millis" "J" (.long q1) ∧ Fld Z h a1 "com/example/tidemark/tidemark/store/Stamp" "counter" "I" (.int p2)
set_option maxRecDepth 65536 in
set_option maxHeartbeats 40000000 in
theorem rm1 (l : Launch) (Z : State) (a0 : Array Value) (hw : ∀ d ∈ tables_1, d.before a0 Z = true) (ws : List Jvm.Cond) (a1 : Addr) (q1 : Int64) (p2 : Int32) (h0 : Heap) (n0 : Nat) (Z0 : n0 ≤ h0.size) (P0 : Exa Z h0 a1 "com/example/tidemark/tidemark/store/Stamp") (P1 : Fld Z h0 a1 "com/example/tidemark/tidemark/store/Stamp" "millis" "J" (.long (0 : Int64))) (P2 : Fld Z h0 a1 "com/example/tidemark/tidemark/store/Stamp" "counter" "I" (.int (0 : Int32))) (P3 : n0 ≤ a1) :
    MetFree l (⟨"com/example/tidemark/tidemark/store/Stamp", "<init>", "(JI)V"⟩ : MethodName) (head1 (Jvm.Cond.code (⟨"com/example/tidemark/tidemark/store/Stamp", "<init>", "(JI)V"⟩ : MethodName) prog_37_method_1_code 4 none :: ws) ({ frames := 2, cells := 0, slots := 0, locals := 24 } : Room)) (fun a U => a = #[(.ref a1), (.long q1), (.int p2)] ∧ Z.Warmed39 U.vm ∧ U.heap = h0) (fun _ _ _ _ _ => True) (fun _ U o U' => ∃ v L, o = .returned v ∧ Q_rm1 Z a1 q1 p2 h0 n0 v U'.heap L ∧ FrameEnd U o U' L ({ frames := 2, cells := 0, slots := 0, locals := 24 } : Room).cells ({ frames := 2, cells := 0, slots := 0, locals := 24 } : Room).slots) := by
  refine MetFree.of_bodySF (plainFor_of_name pn_1) hisR ?_
  intro p e s m args below meth c s₁ Bd hml0 hP hK
  obtain ⟨rfl, hZ, hh⟩ := hP
  have hx := Bd.exec
  have hby := Bd.bytes
  have hml : c.maxLocals = 4 := hml0
  have hown : s.vm.findClass "com/example/tidemark/tidemark/store/Stamp" = some m.cls := findClass_of_methodNamed Bd.named
  have hnm := (name_of_methodNamed Bd.named Bd.method).1
  have X0 : Stand p l e ({ frames := 2, cells := 0, slots := 0, locals := 24 } : Room) s m #[(.ref a1), (.long q1), (.int p2)] below meth c s₁ [] 0 0 := Stand.of_body Bd
  have e0 : s₁.heap = h0 := by rw [← hh, Bd.state]; rfl
  have N0 := Fr.nil n0
  have KR : Keep h0 h0 [a1] := Keep.refl h0 _
  have pre0 : ∀ t, Steps p.tables e below (s₁.setTop (mkF m 0 #[.val (.ref a1), .val (.long q1), .second, .val (.int p2)] [])) t → Steps p.tables e below (s₁.setTop (entryFrame m #[(.ref a1), (.long q1), (.int p2)] 4)) t := fun t k => castTop (ef_rm1 m (a1) (q1) (p2)) k
  obtain ⟨_, _, ⟨T1, L1, k1, n1⟩, -, X1, ⟨Lc1, hQ1, l1, y1, z1⟩, st1⟩ := X0.specialBack hx (y := (⟨"java/lang/Record", "<init>", "()V"⟩ : MethodName)) rfl hown (mvT hZ (kw8 hw)) (mvT hZ (kw9 hw)) (mvT hZ (kw12 hw)) (by decide) (backOf (W := 0) (rm2 l Z a0 hw [] a1 h0 n0 Z0 ) hZ (kw12 hw) (kw11 hw) (by decide) (by decide)) (g := (mkF m 1 #[.val (.ref a1), .val (.long q1), .second, .val (.int p2)] [(.ref a1)])) rfl (by rw [hml]; rfl) (Steps.refl _) (a := a1) (argsL := []) (rest := []) (lenOf pd_0 rfl) rfl (by show 2 * 0 + _ ≤ _; exact Nat.le_of_eq rfl) (hb hby d1_1) (fun _ _ => ⟨rfl, e0, (by decide : 0 + 0 ≤ _), (by decide : 0 + 0 ≤ _)⟩)
  dsimp only [Pt.U, Pt.locs, Pt.cells, Pt.slots] at X1 l1 y1 z1 st1 hQ1
  subst l1 y1 z1
  obtain ⟨rfl, N1q, e1⟩ := hQ1
  have N1 := Fr.app N0 N1q
  obtain ⟨T2, h2, X2, e2, W2, st2⟩ := putF X1 hx hZ hown (host := "") (Or.inl (kw16 hw)) Via.refl e1 P1 P0 (Or.inr ⟨(kw17 hw), rfl, hnm⟩) (kw3 hw) (ty := .long) (by decide) rfl rfl (g := (mkF m 6 #[.val (.ref a1), .val (.long q1), .second, .val (.int p2)] [(.long q1), (.ref a1)])) rfl rfl (hb hby d1_6)
  have Z2 : n0 ≤ h2.size := Nat.le_trans Z0 (Keep.of_wr W2).1
  have K2 : Keep h0 h2 [a1] := KR.wr W2 (Or.inl (List.mem_of_getElem? (i := 0) rfl))
  have N2 := Fr.snoc X2 N1 P3
  have Fw2 : Fld Z h2 a1 "com/example/tidemark/tidemark/store/Stamp" "millis" "J" (.long q1) := P1.same W2
  have f3 : Exa Z h2 a1 "com/example/tidemark/tidemark/store/Stamp" := (P0.wr W2)
  have f4 : Fld Z h2 a1 "com/example/tidemark/tidemark/store/Stamp" "counter" "I" (.int (0 : Int32)) := (P2.other W2 (Or.inr (slot_ne (Or.inr (kw19 hw)) (Or.inr (kw17 hw)) (by decide) (t := .int) (t' := .long) (by decide) (by decide))))
  obtain ⟨T5, h5, X5, e5, W5, st5⟩ := putF X2 hx hZ hown (host := "") (Or.inl (kw18 hw)) Via.refl e2 f4 f3 (Or.inr ⟨(kw19 hw), rfl, hnm⟩) (kw3 hw) (ty := .int) (by decide) rfl rfl (g := (mkF m 11 #[.val (.ref a1), .val (.long q1), .second, .val (.int p2)] [(.int p2), (.ref a1)])) rfl rfl (hb hby d1_11)
  have Z5 : n0 ≤ h5.size := Nat.le_trans Z2 (Keep.of_wr W5).1
  have K5 : Keep h0 h5 [a1] := K2.wr W5 (Or.inl (List.mem_of_getElem? (i := 0) rfl))
  have N5 := Fr.snoc X5 N2 P3
  have Fw5 : Fld Z h5 a1 "com/example/tidemark/tidemark/store/Stamp" "counter" "I" (.int p2) := f4.same W5
  have f6 : Fld Z h5 a1 "com/example/tidemark/tidemark/store/Stamp" "millis" "J" (.long q1) := (Fw2.other W5 (Or.inr (slot_ne (Or.inr (kw17 hw)) (Or.inr (kw19 hw)) (by decide) (t := .long) (t' := .int) (by decide) (by decide))))
  obtain ⟨fs, hr, hrun, hended, hW, hsame⟩ := X5.leave (v := none) (fun _ => rfl)
  refine ⟨_, _, pre0 _ ?_, hrun, hended, _, _, rfl, ?_, ⟨_, rfl⟩, hW, hsame.mono (by decide) (by decide)⟩
  · skip
    show Steps p.tables e below (s₁.setTop (mkF m 0 #[.val (.ref a1), .val (.long q1), .second, .val (.int p2)] [])) _
    refine XS.aloadN X0.here hx rfl (hb hby d1_0) rfl rfl ?_
    show Steps p.tables e below (s₁.setTop (mkF m 1 #[.val (.ref a1), .val (.long q1), .second, .val (.int p2)] [(.ref a1)])) _
    refine st1.trans ?_
    show Steps p.tables e below (T1.setTop (mkF m 4 #[.val (.ref a1), .val (.long q1), .second, .val (.int p2)] [])) _
    refine XS.aloadN X1.here hx rfl (hb hby d1_4) rfl rfl ?_
    show Steps p.tables e below (T1.setTop (mkF m 5 #[.val (.ref a1), .val (.long q1), .second, .val (.int p2)] [(.ref a1)])) _
    refine XS.lloadN X1.here hx rfl (hb hby d1_5) rfl ?_
    show Steps p.tables e below (T1.setTop (mkF m 6 #[.val (.ref a1), .val (.long q1), .second, .val (.int p2)] [(.long q1), (.ref a1)])) _
    refine st2 _ ?_
    show Steps p.tables e below (T2.setTop (mkF m 9 #[.val (.ref a1), .val (.long q1), .second, .val (.int p2)] [])) _
    refine XS.aloadN X2.here hx rfl (hb hby d1_9) rfl rfl ?_
    show Steps p.tables e below (T2.setTop (mkF m 10 #[.val (.ref a1), .val (.long q1), .second, .val (.int p2)] [(.ref a1)])) _
    refine XS.iloadN X2.here hx rfl (hb hby d1_10) rfl ?_
    show Steps p.tables e below (T2.setTop (mkF m 11 #[.val (.ref a1), .val (.long q1), .second, .val (.int p2)] [(.int p2), (.ref a1)])) _
    refine st5 _ ?_
    show Steps p.tables e below (T5.setTop (mkF m 14 #[.val (.ref a1), .val (.long q1), .second, .val (.int p2)] [])) _
    exact X5.returnOut hx Bd.returns (hb hby d1_14) hr
  · show Q_rm1 Z a1 q1 p2 h0 n0 _ T5.heap _
    rw [e5]
    exact ⟨rfl, N5, K5, f6, Fw5⟩
theorem ef_rm5 (m : MethodId) (x0 : Addr) : entryFrame m #[(.ref x0)] 1 = mkF m 0 #[.val (.ref x0)] [] := by first | (simp [entryFrame, mkF, argsToLocals, Value.category]; done) | rfl
def Q_rm5 (Z : State) (a1 : Addr) (mi : Int64) (h0 : Heap) (n0 : Nat) (v : Option Value) (h : Heap) (L : List Loc) : Prop := v = some (.long mi) ∧ Fr n0 L ∧ h = h0
set_option maxRecDepth 65536 in
set_option maxHeartbeats 40000000 in
theorem rm5 (l : Launch) (Z : State) (a0 : Array Value) (hw : ∀ d ∈ tables_1, d.before a0 Z = true) (ws : List Jvm.Cond) (a1 : Addr) (mi : Int64) (h0 : Heap) (n0 : Nat) (Z0 : n0 ≤ h0.size) (P0 : Fld Z h0 a1 "com/example/tidemark/tidemark/store/Stamp" "millis" "J" (.long mi)) :
    MetFree l (⟨"com/example/tidemark/tidemark/store/Stamp", "millis", "()J"⟩ : MethodName) (head1 (Jvm.Cond.code (⟨"com/example/tidemark/tidemark/store/Stamp", "millis", "()J"⟩ : MethodName) prog_37_method_9_code 1 (some .long) :: ws) ({ frames := 0, cells := 0, slots := 0, locals := 0 } : Room)) (fun a U => a = #[(.ref a1)] ∧ Z.Warmed39 U.vm ∧ U.heap = h0) (fun _ _ _ _ _ => True) (fun _ U o U' => ∃ v L, o = .returned v ∧ Q_rm5 Z a1 mi h0 n0 v U'.heap L ∧ FrameEnd U o U' L ({ frames := 0, cells := 0, slots := 0, locals := 0 } : Room).cells ({ frames := 0, cells := 0, slots := 0, locals := 0 } : Room).slots) := by
  refine MetFree.of_bodySF (plainFor_of_name pn_1) hisR ?_
  intro p e s m args below meth c s₁ Bd hml0 hP hK
  obtain ⟨rfl, hZ, hh⟩ := hP
  have hx := Bd.exec
  have hby := Bd.bytes
  have hml : c.maxLocals = 1 := hml0
  have hown : s.vm.findClass "com/example/tidemark/tidemark/store/Stamp" = some m.cls := findClass_of_methodNamed Bd.named
  have hnm := (name_of_methodNamed Bd.named Bd.method).1
  have X0 : Stand p l e ({ frames := 0, cells := 0, slots := 0, locals := 0 } : Room) s m #[(.ref a1)] below meth c s₁ [] 0 0 := Stand.of_body Bd
  have e0 : s₁.heap = h0 := by rw [← hh, Bd.state]; rfl
  have N0 := Fr.nil n0
  have KR : Keep h0 h0 [] := Keep.refl h0 _
  have pre0 : ∀ t, Steps p.tables e below (s₁.setTop (mkF m 0 #[.val (.ref a1)] [])) t → Steps p.tables e below (s₁.setTop (entryFrame m #[(.ref a1)] 1)) t := fun t k => castTop (ef_rm5 m (a1)) k
  obtain ⟨T1, X1, e1, st1⟩ := getF X0 hx hZ hown (host := "") (Or.inl (kw16 hw)) Via.refl e0 P0 (g := (mkF m 1 #[.val (.ref a1)] [(.ref a1)])) rfl rfl (hb hby d5_1)
  obtain ⟨fs, hr, hrun, hended, hW, hsame⟩ := X1.leave (v := some (.long mi)) (fun h => by rw [Bd.returns] at h; cases h)
  refine ⟨_, _, pre0 _ ?_, hrun, hended, _, _, rfl, ?_, ⟨_, rfl⟩, hW, hsame.mono (by decide) (by decide)⟩
  · skip
    show Steps p.tables e below (s₁.setTop (mkF m 0 #[.val (.ref a1)] [])) _
    refine XS.aloadN X0.here hx rfl (hb hby d5_0) rfl rfl ?_
    show Steps p.tables e below (s₁.setTop (mkF m 1 #[.val (.ref a1)] [(.ref a1)])) _
    refine st1 _ ?_
    show Steps p.tables e below (T1.setTop (mkF m 4 #[.val (.ref a1)] [(.long mi)])) _
    jvm_step X1.here [X1.here.top, hx, (hb hby d5_4), X1.method', Bd.returns, narrow]
    first | (intro acts; rw [hr _ acts rfl rfl rfl]) | rw [hr _ _ rfl rfl rfl]
    exact Steps.refl _
  · show Q_rm5 Z a1 mi h0 n0 _ T1.heap _
    rw [e1]
    exact ⟨rfl, N0, rfl⟩
theorem ef_rm6 (m : MethodId) (x0 : Addr) : entryFrame m #[(.ref x0)] 1 = mkF m 0 #[.val (.ref x0)] [] := by first | (simp [entryFrame, mkF, argsToLocals, Value.category]; done) | rfl
def Q_rm6 (Z : State) (a1 : Addr) (co : Int32) (h0 : Heap) (n0 : Nat) (v : Option Value) (h : Heap) (L : List Loc) : Prop := v = some (.int co) ∧ Fr n0 L ∧ h = h0
set_option maxRecDepth 65536 in
set_option maxHeartbeats 40000000 in
theorem rm6 (l : Launch) (Z : State) (a0 : Array Value) (hw : ∀ d ∈ tables_1, d.before a0 Z = true) (ws : List Jvm.Cond) (a1 : Addr) (co : Int32) (h0 : Heap) (n0 : Nat) (Z0 : n0 ≤ h0.size) (P0 : Fld Z h0 a1 "com/example/tidemark/tidemark/store/Stamp" "counter" "I" (.int co)) :
    MetFree l (⟨"com/example/tidemark/tidemark/store/Stamp", "counter", "()I"⟩ : MethodName) (head1 (Jvm.Cond.code (⟨"com/example/tidemark/tidemark/store/Stamp", "counter", "()I"⟩ : MethodName) prog_37_method_10_code 1 (some .int) :: ws) ({ frames := 0, cells := 0, slots := 0, locals := 0 } : Room)) (fun a U => a = #[(.ref a1)] ∧ Z.Warmed39 U.vm ∧ U.heap = h0) (fun _ _ _ _ _ => True) (fun _ U o U' => ∃ v L, o = .returned v ∧ Q_rm6 Z a1 co h0 n0 v U'.heap L ∧ FrameEnd U o U' L ({ frames := 0, cells := 0, slots := 0, locals := 0 } : Room).cells ({ frames := 0, cells := 0, slots := 0, locals := 0 } : Room).slots) := by
  refine MetFree.of_bodySF (plainFor_of_name pn_1) hisR ?_
  intro p e s m args below meth c s₁ Bd hml0 hP hK
  obtain ⟨rfl, hZ, hh⟩ := hP
  have hx := Bd.exec
  have hby := Bd.bytes
  have hml : c.maxLocals = 1 := hml0
  have hown : s.vm.findClass "com/example/tidemark/tidemark/store/Stamp" = some m.cls := findClass_of_methodNamed Bd.named
  have hnm := (name_of_methodNamed Bd.named Bd.method).1
  have X0 : Stand p l e ({ frames := 0, cells := 0, slots := 0, locals := 0 } : Room) s m #[(.ref a1)] below meth c s₁ [] 0 0 := Stand.of_body Bd
  have e0 : s₁.heap = h0 := by rw [← hh, Bd.state]; rfl
  have N0 := Fr.nil n0
  have KR : Keep h0 h0 [] := Keep.refl h0 _
  have pre0 : ∀ t, Steps p.tables e below (s₁.setTop (mkF m 0 #[.val (.ref a1)] [])) t → Steps p.tables e below (s₁.setTop (entryFrame m #[(.ref a1)] 1)) t := fun t k => castTop (ef_rm6 m (a1)) k
  obtain ⟨T1, X1, e1, st1⟩ := getF X0 hx hZ hown (host := "") (Or.inl (kw18 hw)) Via.refl e0 P0 (g := (mkF m 1 #[.val (.ref a1)] [(.ref a1)])) rfl rfl (hb hby d6_1)
  obtain ⟨fs, hr, hrun, hended, hW, hsame⟩ := X1.leave (v := some (.int co)) (fun h => by rw [Bd.returns] at h; cases h)
  refine ⟨_, _, pre0 _ ?_, hrun, hended, _, _, rfl, ?_, ⟨_, rfl⟩, hW, hsame.mono (by decide) (by decide)⟩
  · skip
    show Steps p.tables e below (s₁.setTop (mkF m 0 #[.val (.ref a1)] [])) _
    refine XS.aloadN X0.here hx rfl (hb hby d6_0) rfl rfl ?_
    show Steps p.tables e below (s₁.setTop (mkF m 1 #[.val (.ref a1)] [(.ref a1)])) _
    refine st1 _ ?_
    show Steps p.tables e below (T1.setTop (mkF m 4 #[.val (.ref a1)] [(.int co)])) _
    exact retI X1 hx Bd.returns (hb hby d6_4) hr
  · show Q_rm6 Z a1 co h0 n0 _ T1.heap _
    rw [e1]
    exact ⟨rfl, N0, rfl⟩
theorem ef_rm4 (m : MethodId) (x0 : Addr) (x1 : Int64) : entryFrame m #[(.ref x0), (.long x1)] 3 = mkF m 0 #[.val (.ref x0), .val (.long x1), .second] [] := by first | (simp [entryFrame, mkF, argsToLocals, Value.category]; done) | rfl
def Q_rm4 (Z : State) (a1 : Addr) (q1 : Int64) (mi : Int64) (co : Int32) (h0 : Heap) (n0 : Nat) (v : Option Value) (h : Heap) (L : List Loc) : Prop := ∃ bb : Addr, v = some (.ref bb) ∧ Fr n0 L ∧ Keep h0 h [] ∧ n0 ≤ bb ∧ h0.size ≤ bb ∧ Exa Z h bb "com/example/tidemark/tidemark/store/Stamp" ∧ Fld Z h bb "com/example/tidemark/tidemark/store/Stamp" "millis" "J" (.long (own_nm mi co q1)) ∧ Fld Z h bb "com/example/tidemark/tidemark/store/Stamp" "counter" "I" (.int (own_nc mi co q1))
set_option maxRecDepth 65536 in
set_option maxHeartbeats 40000000 in
theorem rm4 (l : Launch) (Z : State) (a0 : Array Value) (hw : ∀ d ∈ tables_1, d.before a0 Z = true) (ws : List Jvm.Cond) (a1 : Addr) (q1 : Int64) (mi : Int64) (co : Int32) (h0 : Heap) (n0 : Nat) (Z0 : n0 ≤ h0.size) (P0 : Fld Z h0 a1 "com/example/tidemark/tidemark/store/Stamp" "millis" "J" (.long mi)) (P1 : Fld Z h0 a1 "com/example/tidemark/tidemark/store/Stamp" "counter" "I" (.int co)) :
    MetFree l (⟨"com/example/tidemark/tidemark/store/Stamp", "next", "(J)Lcom/example/tidemark/tidemark/store/Stamp;"⟩ : MethodName) (head1 (Jvm.Cond.code (⟨"com/example/tidemark/tidemark/store/Stamp", "next", "(J)Lcom/example/tidemark/tidemark/store/Stamp;"⟩ : MethodName) prog_37_method_3_code 3 (some (.object "com/example/tidemark/tidemark/store/Stamp")) :: ws) ({ frames := 3, cells := 1, slots := 2, locals := 40 } : Room)) (fun a U => a = #[(.ref a1), (.long q1)] ∧ Z.Warmed39 U.vm ∧ U.heap = h0) (fun _ _ _ _ _ => True) (fun _ U o U' => ∃ v L, o = .returned v ∧ Q_rm4 Z a1 q1 mi co h0 n0 v U'.heap L ∧ FrameEnd U o U' L ({ frames := 3, cells := 1, slots := 2, locals := 40 } : Room).cells ({ frames := 3, cells := 1, slots := 2, locals := 40 } : Room).slots) := by
  refine MetFree.of_bodySF (plainFor_of_name pn_1) hisR ?_
  intro p e s m args below meth c s₁ Bd hml0 hP hK
  obtain ⟨rfl, hZ, hh⟩ := hP
  have hx := Bd.exec
  have hby := Bd.bytes
  have hml : c.maxLocals = 3 := hml0
  have hown : s.vm.findClass "com/example/tidemark/tidemark/store/Stamp" = some m.cls := findClass_of_methodNamed Bd.named
  have hnm := (name_of_methodNamed Bd.named Bd.method).1
  have X0 : Stand p l e ({ frames := 3, cells := 1, slots := 2, locals := 40 } : Room) s m #[(.ref a1), (.long q1)] below meth c s₁ [] 0 0 := Stand.of_body Bd
  have e0 : s₁.heap = h0 := by rw [← hh, Bd.state]; rfl
  have N0 := Fr.nil n0
  have KR : Keep h0 h0 [] := Keep.refl h0 _
  have pre0 : ∀ t, Steps p.tables e below (s₁.setTop (mkF m 0 #[.val (.ref a1), .val (.long q1), .second] [])) t → Steps p.tables e below (s₁.setTop (entryFrame m #[(.ref a1), (.long q1)] 3)) t := fun t k => castTop (ef_rm4 m (a1) (q1)) k
  obtain ⟨T1, X1, e1, st1⟩ := getF X0 hx hZ hown (host := "") (Or.inl (kw16 hw)) Via.refl e0 P0 (g := (mkF m 2 #[.val (.ref a1), .val (.long q1), .second] [(.ref a1), (.long q1)])) rfl rfl (hb hby d4_2)
  have pre2 : ∀ t, Steps p.tables e below (T1.setTop (mkF m 6 #[.val (.ref a1), .val (.long q1), .second] [(.int (lcmpW q1 mi))])) t → Steps p.tables e below (s₁.setTop (entryFrame m #[(.ref a1), (.long q1)] 3)) t := fun t k => pre0 t (by
    show Steps p.tables e below (s₁.setTop (mkF m 0 #[.val (.ref a1), .val (.long q1), .second] [])) _
    refine XS.lloadN X0.here hx rfl (hb hby d4_0) rfl ?_
    show Steps p.tables e below (s₁.setTop (mkF m 1 #[.val (.ref a1), .val (.long q1), .second] [(.long q1)])) _
    refine XS.aloadN X0.here hx rfl (hb hby d4_1) rfl rfl ?_
    show Steps p.tables e below (s₁.setTop (mkF m 2 #[.val (.ref a1), .val (.long q1), .second] [(.ref a1), (.long q1)])) _
    refine st1 _ ?_
    show Steps p.tables e below (T1.setTop (mkF m 5 #[.val (.ref a1), .val (.long q1), .second] [(.long mi), (.long q1)])) _
    refine XS.lcmp X1.here hx rfl (hb hby d4_5) rfl ?_
    show Steps p.tables e below (T1.setTop (mkF m 6 #[.val (.ref a1), .val (.long q1), .second] [(.int (lcmpW q1 mi))])) _
    exact k)
  by_cases hc3 : mi < q1
  · skip
    obtain ⟨T4, h4, X4, e4, E4, A4, D4, -, st4⟩ := newO X1 hx hZ hown (kw26 hw) (kw3 hw) (kw4 hw) e1 (g := (mkF m 9 #[.val (.ref a1), .val (.long q1), .second] [])) rfl (hb hby d4_9) (by decide) (by decide)
    obtain ⟨b4, g4⟩ : ∃ z, z = h0.size := ⟨_, rfl⟩
    rw [← g4] at A4 D4 st4
    have ne4_a1 : a1 ≠ b4 := Nat.ne_of_lt (Nat.lt_of_lt_of_le P0.lt (Nat.le_of_eq g4.symm))
    have g_b4 : n0 ≤ b4 := Nat.le_trans Z0 (Nat.le_of_eq g4.symm)
    have sz_b4 : h0.size ≤ b4 := Nat.le_trans KR.1 (Nat.le_of_eq g4.symm)
    have Z4 : n0 ≤ h4.size := Nat.le_trans Z0 E4.1
    have K4 : Keep h0 h4 [] := KR.ext E4
    have F4_millis : Fld Z h4 b4 "com/example/tidemark/tidemark/store/Stamp" "millis" "J" (.long (0 : Int64)) := D4 (Or.inr (kw17 hw)) (ty := .long) (by decide)
    have F4_counter : Fld Z h4 b4 "com/example/tidemark/tidemark/store/Stamp" "counter" "I" (.int (0 : Int32)) := D4 (Or.inr (kw19 hw)) (ty := .int) (by decide)
    obtain ⟨_, _, ⟨T5, L5, k5, n5⟩, -, X5, ⟨Lc5, hQ5, l5, y5, z5⟩, st5⟩ := X4.specialBack hx (y := (⟨"com/example/tidemark/tidemark/store/Stamp", "<init>", "(JI)V"⟩ : MethodName)) rfl hown (mvT hZ (kw27 hw)) (mvT hZ (kw6 hw)) (mvT hZ (kw7 hw)) (by decide) (backOf (W := 1) (rm1 l Z a0 hw [] b4 q1 (0 : Int32) h4 n0 Z4 A4 F4_millis F4_counter g_b4) hZ (kw7 hw) (kw4 hw) (by decide) (by decide)) (g := (mkF m 15 #[.val (.ref a1), .val (.long q1), .second] [(.int (0 : Int32)), (.long q1), (.ref b4), (.ref b4)])) rfl (by rw [hml]; rfl) (Steps.refl _) (a := b4) (argsL := [(.long q1), (.int (0 : Int32))]) (rest := [(.ref b4)]) (lenOf pd_1 rfl) rfl (by show 2 * 0 + _ ≤ _; exact Nat.le_of_eq rfl) (hb hby d4_15) (fun _ _ => ⟨rfl, e4, (by decide : 1 + 0 ≤ _), (by decide : 2 + 0 ≤ _)⟩)
    dsimp only [Pt.U, Pt.locs, Pt.cells, Pt.slots] at X5 l5 y5 z5 st5 hQ5
    subst l5 y5 z5
    obtain ⟨rfl, N5q, Kq5, p5_0, p5_1⟩ := hQ5
    have N5 := Fr.app N0 N5q
    have Z5 : n0 ≤ T5.heap.size := Nat.le_trans Z4 Kq5.1
    have K5 : Keep h0 T5.heap [] := K4.trans Kq5 (allS (Or.inr sz_b4) all0)
    have f6 : Exa Z T5.heap b4 "com/example/tidemark/tidemark/store/Stamp" := (A4.keep Kq5)
    obtain ⟨fs, hr, hrun, hended, hW, hsame⟩ := X5.leave (v := some (.ref b4)) (fun h => by rw [Bd.returns] at h; cases h)
    refine ⟨_, _, pre2 _ ?_, hrun, hended, _, _, rfl, ?_, ⟨_, rfl⟩, hW, hsame.mono (by decide) (by decide)⟩
    · skip
      refine XS.ifNo X1.here hx rfl (hb hby d4_6) rfl ((if0 _ _).trans (tlt ((lw_gt _ _).mpr hc3)).2.2.2) ?_
      show Steps p.tables e below (T1.setTop (mkF m 9 #[.val (.ref a1), .val (.long q1), .second] [])) _
      refine st4 _ ?_
      show Steps p.tables e below (T4.setTop (mkF m 12 #[.val (.ref a1), .val (.long q1), .second] [(.ref b4)])) _
      refine XS.dup X4.here hx rfl (hb hby d4_12) rfl rfl ?_
      show Steps p.tables e below (T4.setTop (mkF m 13 #[.val (.ref a1), .val (.long q1), .second] [(.ref b4), (.ref b4)])) _
      refine XS.lloadN X4.here hx rfl (hb hby d4_13) rfl ?_
      show Steps p.tables e below (T4.setTop (mkF m 14 #[.val (.ref a1), .val (.long q1), .second] [(.long q1), (.ref b4), (.ref b4)])) _
      refine XS.iconst X4.here hx rfl (hb hby d4_14) ?_
      show Steps p.tables e below (T4.setTop (mkF m 15 #[.val (.ref a1), .val (.long q1), .second] [(.int (0 : Int32)), (.long q1), (.ref b4), (.ref b4)])) _
      refine st5.trans ?_
      show Steps p.tables e below (T5.setTop (mkF m 18 #[.val (.ref a1), .val (.long q1), .second] [(.ref b4)])) _
      jvm_step X5.here [X5.here.top, hx, (hb hby d4_18), X5.method', Bd.returns, Value.isRef, FieldType.isReference]
      first | (intro acts; rw [hr _ acts rfl rfl rfl]) | rw [hr _ _ rfl rfl rfl]
      exact Steps.refl _
    · show Q_rm4 Z a1 q1 mi co h0 n0 _ T5.heap _
      exact ⟨b4, rfl, N5, K5, g_b4, sz_b4, f6, (by unfold own_nm; rw [if_pos hc3]; exact p5_0), (by unfold own_nc; rw [if_pos hc3]; exact p5_1)⟩
  · skip
    obtain ⟨T8, X8, e8, st8⟩ := getF X1 hx hZ hown (host := "") (Or.inl (kw18 hw)) Via.refl e1 P1 (g := (mkF m 20 #[.val (.ref a1), .val (.long q1), .second] [(.ref a1)])) rfl rfl (hb hby d4_20)
    have pre9 : ∀ t, Steps p.tables e below (T8.setTop (mkF m 25 #[.val (.ref a1), .val (.long q1), .second] [(.int (2147483647 : Int32)), (.int co)])) t → Steps p.tables e below (s₁.setTop (entryFrame m #[(.ref a1), (.long q1)] 3)) t := fun t k => pre2 t (by
      refine XS.ifYes X1.here hx rfl (pc0 := 6) (pc' := 19) rfl (hb hby d4_6) rfl ((if0 _ _).trans (flt (fun q => hc3 ((lw_gt _ _).mp q))).2.2.2) (by decide) (by decide) ?_
      show Steps p.tables e below (T1.setTop (mkF m 19 #[.val (.ref a1), .val (.long q1), .second] [])) _
      refine XS.aloadN X1.here hx rfl (hb hby d4_19) rfl rfl ?_
      show Steps p.tables e below (T1.setTop (mkF m 20 #[.val (.ref a1), .val (.long q1), .second] [(.ref a1)])) _
      refine st8 _ ?_
      show Steps p.tables e below (T8.setTop (mkF m 23 #[.val (.ref a1), .val (.long q1), .second] [(.int co)])) _
      refine X8.ldcInt hx hown (mvT hZ (kw25 hw)) (g := (mkF m 23 #[.val (.ref a1), .val (.long q1), .second] [(.int co)])) rfl (hb hby d4_23) _ ?_
      show Steps p.tables e below (T8.setTop (mkF m 25 #[.val (.ref a1), .val (.long q1), .second] [(.int (2147483647 : Int32)), (.int co)])) _
      exact k)
    by_cases hc10 : co = (2147483647 : Int32)
    · skip
      obtain ⟨T11, h11, X11, e11, E11, A11, D11, -, st11⟩ := newO X8 hx hZ hown (kw26 hw) (kw3 hw) (kw4 hw) e8 (g := (mkF m 28 #[.val (.ref a1), .val (.long q1), .second] [])) rfl (hb hby d4_28) (by decide) (by decide)
      obtain ⟨b11, g11⟩ : ∃ z, z = h0.size := ⟨_, rfl⟩
      rw [← g11] at A11 D11 st11
      have ne11_a1 : a1 ≠ b11 := Nat.ne_of_lt (Nat.lt_of_lt_of_le P0.lt (Nat.le_of_eq g11.symm))
      have g_b11 : n0 ≤ b11 := Nat.le_trans Z0 (Nat.le_of_eq g11.symm)
      have sz_b11 : h0.size ≤ b11 := Nat.le_trans KR.1 (Nat.le_of_eq g11.symm)
      have Z11 : n0 ≤ h11.size := Nat.le_trans Z0 E11.1
      have K11 : Keep h0 h11 [] := KR.ext E11
      have F11_millis : Fld Z h11 b11 "com/example/tidemark/tidemark/store/Stamp" "millis" "J" (.long (0 : Int64)) := D11 (Or.inr (kw17 hw)) (ty := .long) (by decide)
      have F11_counter : Fld Z h11 b11 "com/example/tidemark/tidemark/store/Stamp" "counter" "I" (.int (0 : Int32)) := D11 (Or.inr (kw19 hw)) (ty := .int) (by decide)
      have f12 : Fld Z h11 a1 "com/example/tidemark/tidemark/store/Stamp" "millis" "J" (.long mi) := (P0.ext E11)
      obtain ⟨T13, X13, e13, st13⟩ := getF X11 hx hZ hown (host := "") (Or.inl (kw16 hw)) Via.refl e11 f12 (g := (mkF m 33 #[.val (.ref a1), .val (.long q1), .second] [(.ref a1), (.ref b11), (.ref b11)])) rfl rfl (hb hby d4_33)
      obtain ⟨_, _, ⟨T14, L14, k14, n14⟩, -, X14, ⟨Lc14, hQ14, l14, y14, z14⟩, st14⟩ := X13.specialBack hx (y := (⟨"com/example/tidemark/tidemark/store/Stamp", "<init>", "(JI)V"⟩ : MethodName)) rfl hown (mvT hZ (kw27 hw)) (mvT hZ (kw6 hw)) (mvT hZ (kw7 hw)) (by decide) (backOf (W := 1) (rm1 l Z a0 hw [] b11 (mi + (1 : Int64)) (0 : Int32) h11 n0 Z11 A11 F11_millis F11_counter g_b11) hZ (kw7 hw) (kw4 hw) (by decide) (by decide)) (g := (mkF m 39 #[.val (.ref a1), .val (.long q1), .second] [(.int (0 : Int32)), (.long (mi + (1 : Int64))), (.ref b11), (.ref b11)])) rfl (by rw [hml]; rfl) (Steps.refl _) (a := b11) (argsL := [(.long (mi + (1 : Int64))), (.int (0 : Int32))]) (rest := [(.ref b11)]) (lenOf pd_1 rfl) rfl (by show 2 * 0 + _ ≤ _; exact Nat.le_of_eq rfl) (hb hby d4_39) (fun _ _ => ⟨rfl, e13, (by decide : 1 + 0 ≤ _), (by decide : 2 + 0 ≤ _)⟩)
      dsimp only [Pt.U, Pt.locs, Pt.cells, Pt.slots] at X14 l14 y14 z14 st14 hQ14
      subst l14 y14 z14
      obtain ⟨rfl, N14q, Kq14, p14_0, p14_1⟩ := hQ14
      have N14 := Fr.app N0 N14q
      have Z14 : n0 ≤ T14.heap.size := Nat.le_trans Z11 Kq14.1
      have K14 : Keep h0 T14.heap [] := K11.trans Kq14 (allS (Or.inr sz_b11) all0)
      have f15 : Exa Z T14.heap b11 "com/example/tidemark/tidemark/store/Stamp" := (A11.keep Kq14)
      obtain ⟨fs, hr, hrun, hended, hW, hsame⟩ := X14.leave (v := some (.ref b11)) (fun h => by rw [Bd.returns] at h; cases h)
      refine ⟨_, _, pre9 _ ?_, hrun, hended, _, _, rfl, ?_, ⟨_, rfl⟩, hW, hsame.mono (by decide) (by decide)⟩
      · skip
        refine XS.icmpNo X8.here hx rfl (hb hby d4_25) rfl (teq hc10).2 ?_
        show Steps p.tables e below (T8.setTop (mkF m 28 #[.val (.ref a1), .val (.long q1), .second] [])) _
        refine st11 _ ?_
        show Steps p.tables e below (T11.setTop (mkF m 31 #[.val (.ref a1), .val (.long q1), .second] [(.ref b11)])) _
        refine XS.dup X11.here hx rfl (hb hby d4_31) rfl rfl ?_
        show Steps p.tables e below (T11.setTop (mkF m 32 #[.val (.ref a1), .val (.long q1), .second] [(.ref b11), (.ref b11)])) _
        refine XS.aloadN X11.here hx rfl (hb hby d4_32) rfl rfl ?_
        show Steps p.tables e below (T11.setTop (mkF m 33 #[.val (.ref a1), .val (.long q1), .second] [(.ref a1), (.ref b11), (.ref b11)])) _
        refine st13 _ ?_
        show Steps p.tables e below (T13.setTop (mkF m 36 #[.val (.ref a1), .val (.long q1), .second] [(.long mi), (.ref b11), (.ref b11)])) _
        refine XS.lconst X13.here hx rfl (hb hby d4_36) ?_
        show Steps p.tables e below (T13.setTop (mkF m 37 #[.val (.ref a1), .val (.long q1), .second] [(.long (1 : Int64)), (.long mi), (.ref b11), (.ref b11)])) _
        refine XS.ladd X13.here hx rfl (hb hby d4_37) rfl ?_
        show Steps p.tables e below (T13.setTop (mkF m 38 #[.val (.ref a1), .val (.long q1), .second] [(.long (mi + (1 : Int64))), (.ref b11), (.ref b11)])) _
        refine XS.iconst X13.here hx rfl (hb hby d4_38) ?_
        show Steps p.tables e below (T13.setTop (mkF m 39 #[.val (.ref a1), .val (.long q1), .second] [(.int (0 : Int32)), (.long (mi + (1 : Int64))), (.ref b11), (.ref b11)])) _
        refine st14.trans ?_
        show Steps p.tables e below (T14.setTop (mkF m 42 #[.val (.ref a1), .val (.long q1), .second] [(.ref b11)])) _
        refine XS.goto X14.here hx rfl (pc0 := 42) (pc' := 62) rfl (hb hby d4_42) (by decide) (by decide) ?_
        show Steps p.tables e below (T14.setTop (mkF m 62 #[.val (.ref a1), .val (.long q1), .second] [(.ref b11)])) _
        jvm_step X14.here [X14.here.top, hx, (hb hby d4_62), X14.method', Bd.returns, Value.isRef, FieldType.isReference]
        first | (intro acts; rw [hr _ acts rfl rfl rfl]) | rw [hr _ _ rfl rfl rfl]
        exact Steps.refl _
      · show Q_rm4 Z a1 q1 mi co h0 n0 _ T14.heap _
        exact ⟨b11, rfl, N14, K14, g_b11, sz_b11, f15, (by unfold own_nm; rw [if_neg hc3, if_pos hc10]; exact p14_0), (by unfold own_nc; rw [if_neg hc3, if_pos hc10]; exact p14_1)⟩
    · skip
      obtain ⟨T17, h17, X17, e17, E17, A17, D17, -, st17⟩ := newO X8 hx hZ hown (kw26 hw) (kw3 hw) (kw4 hw) e8 (g := (mkF m 45 #[.val (.ref a1), .val (.long q1), .second] [])) rfl (hb hby d4_45) (by decide) (by decide)
      obtain ⟨b17, g17⟩ : ∃ z, z = h0.size := ⟨_, rfl⟩
      rw [← g17] at A17 D17 st17
      have ne17_a1 : a1 ≠ b17 := Nat.ne_of_lt (Nat.lt_of_lt_of_le P0.lt (Nat.le_of_eq g17.symm))
      have g_b17 : n0 ≤ b17 := Nat.le_trans Z0 (Nat.le_of_eq g17.symm)
      have sz_b17 : h0.size ≤ b17 := Nat.le_trans KR.1 (Nat.le_of_eq g17.symm)
      have Z17 : n0 ≤ h17.size := Nat.le_trans Z0 E17.1
      have K17 : Keep h0 h17 [] := KR.ext E17
      have F17_millis : Fld Z h17 b17 "com/example/tidemark/tidemark/store/Stamp" "millis" "J" (.long (0 : Int64)) := D17 (Or.inr (kw17 hw)) (ty := .long) (by decide)
      have F17_counter : Fld Z h17 b17 "com/example/tidemark/tidemark/store/Stamp" "counter" "I" (.int (0 : Int32)) := D17 (Or.inr (kw19 hw)) (ty := .int) (by decide)
      have f18 : Fld Z h17 a1 "com/example/tidemark/tidemark/store/Stamp" "millis" "J" (.long mi) := (P0.ext E17)
      obtain ⟨T19, X19, e19, st19⟩ := getF X17 hx hZ hown (host := "") (Or.inl (kw16 hw)) Via.refl e17 f18 (g := (mkF m 50 #[.val (.ref a1), .val (.long q1), .second] [(.ref a1), (.ref b17), (.ref b17)])) rfl rfl (hb hby d4_50)
      have f20 : Fld Z h17 a1 "com/example/tidemark/tidemark/store/Stamp" "counter" "I" (.int co) := (P1.ext E17)
      obtain ⟨T21, X21, e21, st21⟩ := getF X19 hx hZ hown (host := "") (Or.inl (kw18 hw)) Via.refl e19 f20 (g := (mkF m 54 #[.val (.ref a1), .val (.long q1), .second] [(.ref a1), (.long mi), (.ref b17), (.ref b17)])) rfl rfl (hb hby d4_54)
      obtain ⟨_, _, ⟨T22, L22, k22, n22⟩, -, X22, ⟨Lc22, hQ22, l22, y22, z22⟩, st22⟩ := X21.specialBack hx (y := (⟨"com/example/tidemark/tidemark/store/Stamp", "<init>", "(JI)V"⟩ : MethodName)) rfl hown (mvT hZ (kw27 hw)) (mvT hZ (kw6 hw)) (mvT hZ (kw7 hw)) (by decide) (backOf (W := 1) (rm1 l Z a0 hw [] b17 mi (co + (1 : Int32)) h17 n0 Z17 A17 F17_millis F17_counter g_b17) hZ (kw7 hw) (kw4 hw) (by decide) (by decide)) (g := (mkF m 59 #[.val (.ref a1), .val (.long q1), .second] [(.int (co + (1 : Int32))), (.long mi), (.ref b17), (.ref b17)])) rfl (by rw [hml]; rfl) (Steps.refl _) (a := b17) (argsL := [(.long mi), (.int (co + (1 : Int32)))]) (rest := [(.ref b17)]) (lenOf pd_1 rfl) rfl (by show 2 * 0 + _ ≤ _; exact Nat.le_of_eq rfl) (hb hby d4_59) (fun _ _ => ⟨rfl, e21, (by decide : 1 + 0 ≤ _), (by decide : 2 + 0 ≤ _)⟩)
      dsimp only [Pt.U, Pt.locs, Pt.cells, Pt.slots] at X22 l22 y22 z22 st22 hQ22
      subst l22 y22 z22
      obtain ⟨rfl, N22q, Kq22, p22_0, p22_1⟩ := hQ22
      have N22 := Fr.app N0 N22q
      have Z22 : n0 ≤ T22.heap.size := Nat.le_trans Z17 Kq22.1
      have K22 : Keep h0 T22.heap [] := K17.trans Kq22 (allS (Or.inr sz_b17) all0)
      have f23 : Exa Z T22.heap b17 "com/example/tidemark/tidemark/store/Stamp" := (A17.keep Kq22)
      obtain ⟨fs, hr, hrun, hended, hW, hsame⟩ := X22.leave (v := some (.ref b17)) (fun h => by rw [Bd.returns] at h; cases h)
      refine ⟨_, _, pre9 _ ?_, hrun, hended, _, _, rfl, ?_, ⟨_, rfl⟩, hW, hsame.mono (by decide) (by decide)⟩
      · skip
        refine XS.icmpYes X8.here hx rfl (pc0 := 25) (pc' := 45) rfl (hb hby d4_25) rfl (feq hc10).2 (by decide) (by decide) ?_
        show Steps p.tables e below (T8.setTop (mkF m 45 #[.val (.ref a1), .val (.long q1), .second] [])) _
        refine st17 _ ?_
        show Steps p.tables e below (T17.setTop (mkF m 48 #[.val (.ref a1), .val (.long q1), .second] [(.ref b17)])) _
        refine XS.dup X17.here hx rfl (hb hby d4_48) rfl rfl ?_
        show Steps p.tables e below (T17.setTop (mkF m 49 #[.val (.ref a1), .val (.long q1), .second] [(.ref b17), (.ref b17)])) _
        refine XS.aloadN X17.here hx rfl (hb hby d4_49) rfl rfl ?_
        show Steps p.tables e below (T17.setTop (mkF m 50 #[.val (.ref a1), .val (.long q1), .second] [(.ref a1), (.ref b17), (.ref b17)])) _
        refine st19 _ ?_
        show Steps p.tables e below (T19.setTop (mkF m 53 #[.val (.ref a1), .val (.long q1), .second] [(.long mi), (.ref b17), (.ref b17)])) _
        refine XS.aloadN X19.here hx rfl (hb hby d4_53) rfl rfl ?_
        show Steps p.tables e below (T19.setTop (mkF m 54 #[.val (.ref a1), .val (.long q1), .second] [(.ref a1), (.long mi), (.ref b17), (.ref b17)])) _
        refine st21 _ ?_
        show Steps p.tables e below (T21.setTop (mkF m 57 #[.val (.ref a1), .val (.long q1), .second] [(.int co), (.long mi), (.ref b17), (.ref b17)])) _
        refine XS.iconst X21.here hx rfl (hb hby d4_57) ?_
        show Steps p.tables e below (T21.setTop (mkF m 58 #[.val (.ref a1), .val (.long q1), .second] [(.int (1 : Int32)), (.int co), (.long mi), (.ref b17), (.ref b17)])) _
        refine XS.iadd X21.here hx rfl (hb hby d4_58) rfl ?_
        show Steps p.tables e below (T21.setTop (mkF m 59 #[.val (.ref a1), .val (.long q1), .second] [(.int (co + (1 : Int32))), (.long mi), (.ref b17), (.ref b17)])) _
        refine st22.trans ?_
        show Steps p.tables e below (T22.setTop (mkF m 62 #[.val (.ref a1), .val (.long q1), .second] [(.ref b17)])) _
        jvm_step X22.here [X22.here.top, hx, (hb hby d4_62), X22.method', Bd.returns, Value.isRef, FieldType.isReference]
        first | (intro acts; rw [hr _ acts rfl rfl rfl]) | rw [hr _ _ rfl rfl rfl]
        exact Steps.refl _
      · show Q_rm4 Z a1 q1 mi co h0 n0 _ T22.heap _
        exact ⟨b17, rfl, N22, K22, g_b17, sz_b17, f23, (by unfold own_nm; rw [if_neg hc3, if_neg hc10]; exact p22_0), (by unfold own_nc; rw [if_neg hc3, if_neg hc10]; exact p22_1)⟩
theorem ef_rm0 (m : MethodId) (x0 : Int64) (x1 : Int32) (x2 : Int64) (x3 : Int32) : entryFrame m #[(.long x0), (.int x1), (.long x2), (.int x3)] maxLocals = mkF m 0 #[.val (.long x0), .second, .val (.int x1), .val (.long x2), .second, .val (.int x3), .unset, .unset, .unset, .unset, .unset, .unset, .unset, .unset, .unset, .unset, .unset] [] := by first | (simp [entryFrame, mkF, argsToLocals, Value.category, maxLocals]; done) | rfl
def Q_rm0 (Z : State) (q1 : Int64) (p2 : Int32) (q3 : Int64) (p4 : Int32) (h0 : Heap) (n0 : Nat) (v : Option Value) (h : Heap) (L : List Loc) : Prop := v = some (.int (1 : Int32)) ∧ Fr n0 L ∧ Keep h0 h []
set_option maxRecDepth 65536 in
set_option maxHeartbeats 40000000 in
theorem rm0 (l : Launch) (Z : State) (a0 : Array Value) (hw : ∀ d ∈ tables_1, d.before a0 Z = true) (ws : List Jvm.Cond) (q1 : Int64) (p2 : Int32) (q3 : Int64) (p4 : Int32) (h0 : Heap) (n0 : Nat) (Z0 : n0 ≤ h0.size)  :
    MetFree l x (head1 (Jvm.Cond.code x code maxLocals ret :: ws) room_1) (fun a U => a = #[(.long q1), (.int p2), (.long q3), (.int p4)] ∧ Z.Warmed39 U.vm ∧ U.heap = h0) (fun _ _ _ _ _ => True) (fun _ U o U' => ∃ v L, o = .returned v ∧ Q_rm0 Z q1 p2 q3 p4 h0 n0 v U'.heap L ∧ FrameEnd U o U' L room_1.cells room_1.slots) := by
  refine MetFree.of_bodySF (plainFor_of_name pn_2) hisR ?_
  intro p e s m args below meth c s₁ Bd hml0 hP hK
  obtain ⟨rfl, hZ, hh⟩ := hP
  have hx := Bd.exec
  have hby := Bd.bytes
  have hml : c.maxLocals = 17 := hml0
  have hown : s.vm.findClass "com/example/tidemark/tidemark/store/StampNextPinLaw" = some m.cls := findClass_of_methodNamed Bd.named
  have hnm := (name_of_methodNamed Bd.named Bd.method).1
  have X0 : Stand p l e room_1 s m #[(.long q1), (.int p2), (.long q3), (.int p4)] below meth c s₁ [] 0 0 := Stand.of_body Bd
  have e0 : s₁.heap = h0 := by rw [← hh, Bd.state]; rfl
  have N0 := Fr.nil n0
  have KR : Keep h0 h0 [] := Keep.refl h0 _
  have pre0 : ∀ t, Steps p.tables e below (s₁.setTop (mkF m 0 #[.val (.long q1), .second, .val (.int p2), .val (.long q3), .second, .val (.int p4), .unset, .unset, .unset, .unset, .unset, .unset, .unset, .unset, .unset, .unset, .unset] [])) t → Steps p.tables e below (s₁.setTop (entryFrame m #[(.long q1), (.int p2), (.long q3), (.int p4)] maxLocals)) t := fun t k => castTop (ef_rm0 m (q1) (p2) (q3) (p4)) k
  have pre1 : ∀ t, Steps p.tables e below (s₁.setTop (mkF m 4 #[.val (.long q1), .second, .val (.int p2), .val (.long q3), .second, .val (.int p4), .unset, .unset, .unset, .unset, .unset, .unset, .unset, .unset, .unset, .unset, .unset] [(.int (p4 &&& (4 : Int32)))])) t → Steps p.tables e below (s₁.setTop (entryFrame m #[(.long q1), (.int p2), (.long q3), (.int p4)] maxLocals)) t := fun t k => pre0 t (by
    show Steps p.tables e below (s₁.setTop (mkF m 0 #[.val (.long q1), .second, .val (.int p2), .val (.long q3), .second, .val (.int p4), .unset, .unset, .unset, .unset, .unset, .unset, .unset, .unset, .unset, .unset, .unset] [])) _
    refine XS.iload X0.here hx rfl (hb hby at_0) rfl ?_
    show Steps p.tables e below (s₁.setTop (mkF m 2 #[.val (.long q1), .second, .val (.int p2), .val (.long q3), .second, .val (.int p4), .unset, .unset, .unset, .unset, .unset, .unset, .unset, .unset, .unset, .unset, .unset] [(.int p4)])) _
    refine XS.iconst X0.here hx rfl (hb hby at_2) ?_
    show Steps p.tables e below (s₁.setTop (mkF m 3 #[.val (.long q1), .second, .val (.int p2), .val (.long q3), .second, .val (.int p4), .unset, .unset, .unset, .unset, .unset, .unset, .unset, .unset, .unset, .unset, .unset] [(.int (4 : Int32)), (.int p4)])) _
    refine XS.iand X0.here hx rfl (hb hby at_3) rfl ?_
    show Steps p.tables e below (s₁.setTop (mkF m 4 #[.val (.long q1), .second, .val (.int p2), .val (.long q3), .second, .val (.int p4), .unset, .unset, .unset, .unset, .unset, .unset, .unset, .unset, .unset, .unset, .unset] [(.int (p4 &&& (4 : Int32)))])) _
    exact k)
  have pre3 : ∀ t, Steps p.tables e below (s₁.setTop (mkF m 16 #[.val (.long q1), .second, .val (.int p2), .val (.long q3), .second, .val (.int p4), .unset, .unset, .unset, .unset, .unset, .unset, .unset, .unset, .unset, .unset, .unset] [(.int (if (p4 &&& (4 : Int32)) = (0 : Int32) then (p2 &&& (2147483647 : Int32)) else (2147483647 : Int32)))])) t → Steps p.tables e below (s₁.setTop (entryFrame m #[(.long q1), (.int p2), (.long q3), (.int p4)] maxLocals)) t := fun t k => pre1 t (by
    by_cases hc2 : (p4 &&& (4 : Int32)) = (0 : Int32)
    · skip
      refine XS.ifYes X0.here hx rfl (pc0 := 4) (pc' := 12) rfl (hb hby at_4) rfl ((if0 _ _).trans (teq hc2).1) (by decide) (by decide) ?_
      show Steps p.tables e below (s₁.setTop (mkF m 12 #[.val (.long q1), .second, .val (.int p2), .val (.long q3), .second, .val (.int p4), .unset, .unset, .unset, .unset, .unset, .unset, .unset, .unset, .unset, .unset, .unset] [])) _
      refine XS.iloadN X0.here hx rfl (hb hby at_12) rfl ?_
      show Steps p.tables e below (s₁.setTop (mkF m 13 #[.val (.long q1), .second, .val (.int p2), .val (.long q3), .second, .val (.int p4), .unset, .unset, .unset, .unset, .unset, .unset, .unset, .unset, .unset, .unset, .unset] [(.int p2)])) _
      refine X0.ldcInt hx hown (mvT hZ (kw0 hw)) (g := (mkF m 13 #[.val (.long q1), .second, .val (.int p2), .val (.long q3), .second, .val (.int p4), .unset, .unset, .unset, .unset, .unset, .unset, .unset, .unset, .unset, .unset, .unset] [(.int p2)])) rfl (hb hby at_13) _ ?_
      show Steps p.tables e below (s₁.setTop (mkF m 15 #[.val (.long q1), .second, .val (.int p2), .val (.long q3), .second, .val (.int p4), .unset, .unset, .unset, .unset, .unset, .unset, .unset, .unset, .unset, .unset, .unset] [(.int (2147483647 : Int32)), (.int p2)])) _
      refine XS.iand X0.here hx rfl (hb hby at_15) rfl ?_
      show Steps p.tables e below (s₁.setTop (mkF m 16 #[.val (.long q1), .second, .val (.int p2), .val (.long q3), .second, .val (.int p4), .unset, .unset, .unset, .unset, .unset, .unset, .unset, .unset, .unset, .unset, .unset] [(.int (p2 &&& (2147483647 : Int32)))])) _
      simp only [if_pos hc2] at k; exact k
    · skip
      refine XS.ifNo X0.here hx rfl (hb hby at_4) rfl ((if0 _ _).trans (feq hc2).1) ?_
      show Steps p.tables e below (s₁.setTop (mkF m 7 #[.val (.long q1), .second, .val (.int p2), .val (.long q3), .second, .val (.int p4), .unset, .unset, .unset, .unset, .unset, .unset, .unset, .unset, .unset, .unset, .unset] [])) _
      refine X0.ldcInt hx hown (mvT hZ (kw0 hw)) (g := (mkF m 7 #[.val (.long q1), .second, .val (.int p2), .val (.long q3), .second, .val (.int p4), .unset, .unset, .unset, .unset, .unset, .unset, .unset, .unset, .unset, .unset, .unset] [])) rfl (hb hby at_7) _ ?_
      show Steps p.tables e below (s₁.setTop (mkF m 9 #[.val (.long q1), .second, .val (.int p2), .val (.long q3), .second, .val (.int p4), .unset, .unset, .unset, .unset, .unset, .unset, .unset, .unset, .unset, .unset, .unset] [(.int (2147483647 : Int32))])) _
      refine XS.goto X0.here hx rfl (pc0 := 9) (pc' := 16) rfl (hb hby at_9) (by decide) (by decide) ?_
      show Steps p.tables e below (s₁.setTop (mkF m 16 #[.val (.long q1), .second, .val (.int p2), .val (.long q3), .second, .val (.int p4), .unset, .unset, .unset, .unset, .unset, .unset, .unset, .unset, .unset, .unset, .unset] [(.int (2147483647 : Int32))])) _
      simp only [if_neg hc2] at k; exact k)
  obtain ⟨cnt, h_cnt⟩ : ∃ z : Int32, z = (if (p4 &&& (4 : Int32)) = (0 : Int32) then (p2 &&& (2147483647 : Int32)) else (2147483647 : Int32)) := ⟨_, rfl⟩
  rw [← h_cnt] at pre3
  have hcnt : ¬ cnt < (0 : Int32) := by
    rw [h_cnt]; split
    · exact own_mask _
    · decide
  have pre4 : ∀ t, Steps p.tables e below (s₁.setTop (mkF m 22 #[.val (.long q1), .second, .val (.int p2), .val (.long q3), .second, .val (.int p4), .val (.int cnt), .unset, .unset, .unset, .unset, .unset, .unset, .unset, .unset, .unset, .unset] [(.int (p4 &&& (3 : Int32)))])) t → Steps p.tables e below (s₁.setTop (entryFrame m #[(.long q1), (.int p2), (.long q3), (.int p4)] maxLocals)) t := fun t k => pre3 t (by
    show Steps p.tables e below (s₁.setTop (mkF m 16 #[.val (.long q1), .second, .val (.int p2), .val (.long q3), .second, .val (.int p4), .unset, .unset, .unset, .unset, .unset, .unset, .unset, .unset, .unset, .unset, .unset] [(.int cnt)])) _
    refine XS.istore X0.here hx rfl (hb hby at_16) rfl (l' := #[.val (.long q1), .second, .val (.int p2), .val (.long q3), .second, .val (.int p4), .val (.int cnt), .unset, .unset, .unset, .unset, .unset, .unset, .unset, .unset, .unset, .unset]) rfl ?_
    show Steps p.tables e below (s₁.setTop (mkF m 18 #[.val (.long q1), .second, .val (.int p2), .val (.long q3), .second, .val (.int p4), .val (.int cnt), .unset, .unset, .unset, .unset, .unset, .unset, .unset, .unset, .unset, .unset] [])) _
    refine XS.iload X0.here hx rfl (hb hby at_18) rfl ?_
    show Steps p.tables e below (s₁.setTop (mkF m 20 #[.val (.long q1), .second, .val (.int p2), .val (.long q3), .second, .val (.int p4), .val (.int cnt), .unset, .unset, .unset, .unset, .unset, .unset, .unset, .unset, .unset, .unset] [(.int p4)])) _
    refine XS.iconst X0.here hx rfl (hb hby at_20) ?_
    show Steps p.tables e below (s₁.setTop (mkF m 21 #[.val (.long q1), .second, .val (.int p2), .val (.long q3), .second, .val (.int p4), .val (.int cnt), .unset, .unset, .unset, .unset, .unset, .unset, .unset, .unset, .unset, .unset] [(.int (3 : Int32)), (.int p4)])) _
    refine XS.iand X0.here hx rfl (hb hby at_21) rfl ?_
    show Steps p.tables e below (s₁.setTop (mkF m 22 #[.val (.long q1), .second, .val (.int p2), .val (.long q3), .second, .val (.int p4), .val (.int cnt), .unset, .unset, .unset, .unset, .unset, .unset, .unset, .unset, .unset, .unset] [(.int (p4 &&& (3 : Int32)))])) _
    exact k)
  have pre6 : ∀ t, Steps p.tables e below (s₁.setTop (mkF m 38 #[.val (.long q1), .second, .val (.int p2), .val (.long q3), .second, .val (.int p4), .val (.int cnt), .unset, .unset, .unset, .unset, .unset, .unset, .unset, .unset, .unset, .unset] [(.long (if (p4 &&& (3 : Int32)) = (0 : Int32) then q3 else (q1 + ((q3 &&& (3 : Int64)) - (1 : Int64)))))])) t → Steps p.tables e below (s₁.setTop (entryFrame m #[(.long q1), (.int p2), (.long q3), (.int p4)] maxLocals)) t := fun t k => pre4 t (by
    by_cases hc5 : (p4 &&& (3 : Int32)) = (0 : Int32)
    · skip
      refine XS.ifNo X0.here hx rfl (hb hby at_22) rfl ((if0 _ _).trans (teq hc5).2) ?_
      show Steps p.tables e below (s₁.setTop (mkF m 25 #[.val (.long q1), .second, .val (.int p2), .val (.long q3), .second, .val (.int p4), .val (.int cnt), .unset, .unset, .unset, .unset, .unset, .unset, .unset, .unset, .unset, .unset] [])) _
      refine XS.lloadN X0.here hx rfl (hb hby at_25) rfl ?_
      show Steps p.tables e below (s₁.setTop (mkF m 26 #[.val (.long q1), .second, .val (.int p2), .val (.long q3), .second, .val (.int p4), .val (.int cnt), .unset, .unset, .unset, .unset, .unset, .unset, .unset, .unset, .unset, .unset] [(.long q3)])) _
      refine XS.goto X0.here hx rfl (pc0 := 26) (pc' := 38) rfl (hb hby at_26) (by decide) (by decide) ?_
      show Steps p.tables e below (s₁.setTop (mkF m 38 #[.val (.long q1), .second, .val (.int p2), .val (.long q3), .second, .val (.int p4), .val (.int cnt), .unset, .unset, .unset, .unset, .unset, .unset, .unset, .unset, .unset, .unset] [(.long q3)])) _
      simp only [if_pos hc5] at k; exact k
    · skip
      refine XS.ifYes X0.here hx rfl (pc0 := 22) (pc' := 29) rfl (hb hby at_22) rfl ((if0 _ _).trans (feq hc5).2) (by decide) (by decide) ?_
      show Steps p.tables e below (s₁.setTop (mkF m 29 #[.val (.long q1), .second, .val (.int p2), .val (.long q3), .second, .val (.int p4), .val (.int cnt), .unset, .unset, .unset, .unset, .unset, .unset, .unset, .unset, .unset, .unset] [])) _
      refine XS.lloadN X0.here hx rfl (hb hby at_29) rfl ?_
      show Steps p.tables e below (s₁.setTop (mkF m 30 #[.val (.long q1), .second, .val (.int p2), .val (.long q3), .second, .val (.int p4), .val (.int cnt), .unset, .unset, .unset, .unset, .unset, .unset, .unset, .unset, .unset, .unset] [(.long q1)])) _
      refine XS.lloadN X0.here hx rfl (hb hby at_30) rfl ?_
      show Steps p.tables e below (s₁.setTop (mkF m 31 #[.val (.long q1), .second, .val (.int p2), .val (.long q3), .second, .val (.int p4), .val (.int cnt), .unset, .unset, .unset, .unset, .unset, .unset, .unset, .unset, .unset, .unset] [(.long q3), (.long q1)])) _
      refine X0.ldc2Long hx hown (mvT hZ (kw38 hw)) (g := (mkF m 31 #[.val (.long q1), .second, .val (.int p2), .val (.long q3), .second, .val (.int p4), .val (.int cnt), .unset, .unset, .unset, .unset, .unset, .unset, .unset, .unset, .unset, .unset] [(.long q3), (.long q1)])) rfl (hb hby at_31) _ ?_
      show Steps p.tables e below (s₁.setTop (mkF m 34 #[.val (.long q1), .second, .val (.int p2), .val (.long q3), .second, .val (.int p4), .val (.int cnt), .unset, .unset, .unset, .unset, .unset, .unset, .unset, .unset, .unset, .unset] [(.long (3 : Int64)), (.long q3), (.long q1)])) _
      refine XS.land X0.here hx rfl (hb hby at_34) rfl ?_
      show Steps p.tables e below (s₁.setTop (mkF m 35 #[.val (.long q1), .second, .val (.int p2), .val (.long q3), .second, .val (.int p4), .val (.int cnt), .unset, .unset, .unset, .unset, .unset, .unset, .unset, .unset, .unset, .unset] [(.long (q3 &&& (3 : Int64))), (.long q1)])) _
      refine XS.lconst X0.here hx rfl (hb hby at_35) ?_
      show Steps p.tables e below (s₁.setTop (mkF m 36 #[.val (.long q1), .second, .val (.int p2), .val (.long q3), .second, .val (.int p4), .val (.int cnt), .unset, .unset, .unset, .unset, .unset, .unset, .unset, .unset, .unset, .unset] [(.long (1 : Int64)), (.long (q3 &&& (3 : Int64))), (.long q1)])) _
      refine XS.lsub X0.here hx rfl (hb hby at_36) rfl ?_
      show Steps p.tables e below (s₁.setTop (mkF m 37 #[.val (.long q1), .second, .val (.int p2), .val (.long q3), .second, .val (.int p4), .val (.int cnt), .unset, .unset, .unset, .unset, .unset, .unset, .unset, .unset, .unset, .unset] [(.long ((q3 &&& (3 : Int64)) - (1 : Int64))), (.long q1)])) _
      refine XS.ladd X0.here hx rfl (hb hby at_37) rfl ?_
      show Steps p.tables e below (s₁.setTop (mkF m 38 #[.val (.long q1), .second, .val (.int p2), .val (.long q3), .second, .val (.int p4), .val (.int cnt), .unset, .unset, .unset, .unset, .unset, .unset, .unset, .unset, .unset, .unset] [(.long (q1 + ((q3 &&& (3 : Int64)) - (1 : Int64))))])) _
      simp only [if_neg hc5] at k; exact k)
  obtain ⟨now, h_now⟩ : ∃ z : Int64, z = (if (p4 &&& (3 : Int32)) = (0 : Int32) then q3 else (q1 + ((q3 &&& (3 : Int64)) - (1 : Int64)))) := ⟨_, rfl⟩
  rw [← h_now] at pre6
  have pre7 : ∀ t, Steps p.tables e below (s₁.setTop (mkF m 45 #[.val (.long q1), .second, .val (.int p2), .val (.long q3), .second, .val (.int p4), .val (.int cnt), .val (.long now), .second, .unset, .unset, .unset, .unset, .unset, .unset, .unset, .unset] [(.int (lcmpW q1 (9223372036854775807 : Int64)))])) t → Steps p.tables e below (s₁.setTop (entryFrame m #[(.long q1), (.int p2), (.long q3), (.int p4)] maxLocals)) t := fun t k => pre6 t (by
    show Steps p.tables e below (s₁.setTop (mkF m 38 #[.val (.long q1), .second, .val (.int p2), .val (.long q3), .second, .val (.int p4), .val (.int cnt), .unset, .unset, .unset, .unset, .unset, .unset, .unset, .unset, .unset, .unset] [(.long now)])) _
    refine XS.lstore X0.here hx rfl (hb hby at_38) rfl (l' := #[.val (.long q1), .second, .val (.int p2), .val (.long q3), .second, .val (.int p4), .val (.int cnt), .val (.long now), .second, .unset, .unset, .unset, .unset, .unset, .unset, .unset, .unset]) rfl ?_
    show Steps p.tables e below (s₁.setTop (mkF m 40 #[.val (.long q1), .second, .val (.int p2), .val (.long q3), .second, .val (.int p4), .val (.int cnt), .val (.long now), .second, .unset, .unset, .unset, .unset, .unset, .unset, .unset, .unset] [])) _
    refine XS.lloadN X0.here hx rfl (hb hby at_40) rfl ?_
    show Steps p.tables e below (s₁.setTop (mkF m 41 #[.val (.long q1), .second, .val (.int p2), .val (.long q3), .second, .val (.int p4), .val (.int cnt), .val (.long now), .second, .unset, .unset, .unset, .unset, .unset, .unset, .unset, .unset] [(.long q1)])) _
    refine X0.ldc2Long hx hown (mvT hZ (kw1 hw)) (g := (mkF m 41 #[.val (.long q1), .second, .val (.int p2), .val (.long q3), .second, .val (.int p4), .val (.int cnt), .val (.long now), .second, .unset, .unset, .unset, .unset, .unset, .unset, .unset, .unset] [(.long q1)])) rfl (hb hby at_41) _ ?_
    show Steps p.tables e below (s₁.setTop (mkF m 44 #[.val (.long q1), .second, .val (.int p2), .val (.long q3), .second, .val (.int p4), .val (.int cnt), .val (.long now), .second, .unset, .unset, .unset, .unset, .unset, .unset, .unset, .unset] [(.long (9223372036854775807 : Int64)), (.long q1)])) _
    refine XS.lcmp X0.here hx rfl (hb hby at_44) rfl ?_
    show Steps p.tables e below (s₁.setTop (mkF m 45 #[.val (.long q1), .second, .val (.int p2), .val (.long q3), .second, .val (.int p4), .val (.int cnt), .val (.long now), .second, .unset, .unset, .unset, .unset, .unset, .unset, .unset, .unset] [(.int (lcmpW q1 (9223372036854775807 : Int64)))])) _
    exact k)
  by_cases hc8 : q1 = (9223372036854775807 : Int64)
  · skip
    have pre9 : ∀ t, Steps p.tables e below (s₁.setTop (mkF m 52 #[.val (.long q1), .second, .val (.int p2), .val (.long q3), .second, .val (.int p4), .val (.int cnt), .val (.long now), .second, .unset, .unset, .unset, .unset, .unset, .unset, .unset, .unset] [(.int (2147483647 : Int32)), (.int cnt)])) t → Steps p.tables e below (s₁.setTop (entryFrame m #[(.long q1), (.int p2), (.long q3), (.int p4)] maxLocals)) t := fun t k => pre7 t (by
      refine XS.ifNo X0.here hx rfl (hb hby at_45) rfl ((if0 _ _).trans (teq ((lw_eq _ _).mpr hc8)).2) ?_
      show Steps p.tables e below (s₁.setTop (mkF m 48 #[.val (.long q1), .second, .val (.int p2), .val (.long q3), .second, .val (.int p4), .val (.int cnt), .val (.long now), .second, .unset, .unset, .unset, .unset, .unset, .unset, .unset, .unset] [])) _
      refine XS.iload X0.here hx rfl (hb hby at_48) rfl ?_
      show Steps p.tables e below (s₁.setTop (mkF m 50 #[.val (.long q1), .second, .val (.int p2), .val (.long q3), .second, .val (.int p4), .val (.int cnt), .val (.long now), .second, .unset, .unset, .unset, .unset, .unset, .unset, .unset, .unset] [(.int cnt)])) _
      refine X0.ldcInt hx hown (mvT hZ (kw0 hw)) (g := (mkF m 50 #[.val (.long q1), .second, .val (.int p2), .val (.long q3), .second, .val (.int p4), .val (.int cnt), .val (.long now), .second, .unset, .unset, .unset, .unset, .unset, .unset, .unset, .unset] [(.int cnt)])) rfl (hb hby at_50) _ ?_
      show Steps p.tables e below (s₁.setTop (mkF m 52 #[.val (.long q1), .second, .val (.int p2), .val (.long q3), .second, .val (.int p4), .val (.int cnt), .val (.long now), .second, .unset, .unset, .unset, .unset, .unset, .unset, .unset, .unset] [(.int (2147483647 : Int32)), (.int cnt)])) _
      exact k)
    by_cases hc10 : cnt = (2147483647 : Int32)
    · skip
      obtain ⟨fs, hr, hrun, hended, hW, hsame⟩ := X0.leave (v := some (.int (1 : Int32))) (fun h => by rw [Bd.returns] at h; cases h)
      refine ⟨_, _, pre9 _ ?_, hrun, hended, _, _, rfl, ?_, ⟨_, rfl⟩, hW, hsame.mono (by decide) (by decide)⟩
      · skip
        refine XS.icmpNo X0.here hx rfl (hb hby at_52) rfl (teq hc10).2 ?_
        show Steps p.tables e below (s₁.setTop (mkF m 55 #[.val (.long q1), .second, .val (.int p2), .val (.long q3), .second, .val (.int p4), .val (.int cnt), .val (.long now), .second, .unset, .unset, .unset, .unset, .unset, .unset, .unset, .unset] [])) _
        refine XS.iconst X0.here hx rfl (hb hby at_55) ?_
        show Steps p.tables e below (s₁.setTop (mkF m 56 #[.val (.long q1), .second, .val (.int p2), .val (.long q3), .second, .val (.int p4), .val (.int cnt), .val (.long now), .second, .unset, .unset, .unset, .unset, .unset, .unset, .unset, .unset] [(.int (1 : Int32))])) _
        exact retN X0 hx (t := .boolean) Bd.returns (by simp) (hb hby at_56) hr
      · show Q_rm0 Z q1 p2 q3 p4 h0 n0 _ s₁.heap _
        rw [e0]
        exact ⟨rfl, N0, KR⟩
    · skip
      obtain ⟨T12, h12, X12, e12, E12, A12, D12, -, st12⟩ := newO X0 hx hZ hown (kw2 hw) (kw3 hw) (kw4 hw) e0 (g := (mkF m 57 #[.val (.long q1), .second, .val (.int p2), .val (.long q3), .second, .val (.int p4), .val (.int cnt), .val (.long now), .second, .unset, .unset, .unset, .unset, .unset, .unset, .unset, .unset] [])) rfl (hb hby at_57) (by decide) (by decide)
      obtain ⟨b12, g12⟩ : ∃ z, z = h0.size := ⟨_, rfl⟩
      rw [← g12] at A12 D12 st12
      have g_b12 : n0 ≤ b12 := Nat.le_trans Z0 (Nat.le_of_eq g12.symm)
      have sz_b12 : h0.size ≤ b12 := Nat.le_trans KR.1 (Nat.le_of_eq g12.symm)
      have Z12 : n0 ≤ h12.size := Nat.le_trans Z0 E12.1
      have K12 : Keep h0 h12 [] := KR.ext E12
      have F12_millis : Fld Z h12 b12 "com/example/tidemark/tidemark/store/Stamp" "millis" "J" (.long (0 : Int64)) := D12 (Or.inr (kw17 hw)) (ty := .long) (by decide)
      have F12_counter : Fld Z h12 b12 "com/example/tidemark/tidemark/store/Stamp" "counter" "I" (.int (0 : Int32)) := D12 (Or.inr (kw19 hw)) (ty := .int) (by decide)
      obtain ⟨_, _, ⟨T13, L13, k13, n13⟩, -, X13, ⟨Lc13, hQ13, l13, y13, z13⟩, st13⟩ := X12.specialBack hx (y := (⟨"com/example/tidemark/tidemark/store/Stamp", "<init>", "(JI)V"⟩ : MethodName)) rfl hown (mvT hZ (kw5 hw)) (mvT hZ (kw6 hw)) (mvT hZ (kw7 hw)) (by decide) (backOf (W := 1) (rm1 l Z a0 hw [] b12 q1 cnt h12 n0 Z12 A12 F12_millis F12_counter g_b12) hZ (kw7 hw) (kw4 hw) (by decide) (by decide)) (g := (mkF m 64 #[.val (.long q1), .second, .val (.int p2), .val (.long q3), .second, .val (.int p4), .val (.int cnt), .val (.long now), .second, .unset, .unset, .unset, .unset, .unset, .unset, .unset, .unset] [(.int cnt), (.long q1), (.ref b12), (.ref b12)])) rfl (by rw [hml]; rfl) (Steps.refl _) (a := b12) (argsL := [(.long q1), (.int cnt)]) (rest := [(.ref b12)]) (lenOf pd_1 rfl) rfl (by show 2 * 0 + _ ≤ _; exact Nat.le_of_eq rfl) (hb hby at_64) (fun _ _ => ⟨rfl, e12, (by decide : 1 + 0 ≤ _), (by decide : 2 + 0 ≤ _)⟩)
      dsimp only [Pt.U, Pt.locs, Pt.cells, Pt.slots] at X13 l13 y13 z13 st13 hQ13
      subst l13 y13 z13
      obtain ⟨rfl, N13q, Kq13, p13_0, p13_1⟩ := hQ13
      have N13 := Fr.app N0 N13q
      have Z13 : n0 ≤ T13.heap.size := Nat.le_trans Z12 Kq13.1
      have K13 : Keep h0 T13.heap [] := K12.trans Kq13 (allS (Or.inr sz_b12) all0)
      have f15 : Exa Z T13.heap b12 "com/example/tidemark/tidemark/store/Stamp" := (A12.keep Kq13)
      obtain ⟨cq14, kq14, q14a, q14b, q14c⟩ := isOf hZ rfl f15
      obtain ⟨_, _, ⟨T14, L14, k14, n14⟩, -, X14, ⟨Lc14, hQ14, l14, y14, z14⟩, st14⟩ := X13.virtualBack hx (y := (⟨"com/example/tidemark/tidemark/store/Stamp", "next", "(J)Lcom/example/tidemark/tidemark/store/Stamp;"⟩ : MethodName)) (z := (⟨"com/example/tidemark/tidemark/store/Stamp", "next", "(J)Lcom/example/tidemark/tidemark/store/Stamp;"⟩ : MethodName)) hown (mvT hZ (kw20 hw)) (mvT hZ (kw21 hw)) (notFace_of_selects (args := #[]) (mvT hZ (kw23 hw))) (mvT hZ (kw23 hw)) (mvT hZ (kw22 hw)) (by decide) (backOf (W := 0) (rm4 l Z a0 hw [] b12 now q1 cnt T13.heap n0 Z13 p13_0 p13_1) hZ (kw24 hw) (kw4 hw) (by decide) (by decide)) q14a q14c (g := (mkF m 73 #[.val (.long q1), .second, .val (.int p2), .val (.long q3), .second, .val (.int p4), .val (.int cnt), .val (.long now), .second, .val (.ref b12), .unset, .unset, .unset, .unset, .unset, .unset, .unset] [(.long now), (.ref b12)])) rfl (by rw [hml]; rfl) (Steps.refl _) (argsL := [(.long now)]) (rest := []) (lenOf pd_2 rfl) rfl (by show 2 * 0 + _ ≤ _; exact Nat.le_of_eq rfl) (hb hby at_73) (fun _ _ => ⟨rfl, rfl, (by decide : 1 + 1 ≤ _), (by decide : 2 + 2 ≤ _)⟩)
      dsimp only [Pt.U, Pt.locs, Pt.cells, Pt.slots] at X14 l14 y14 z14 st14 hQ14
      subst l14 y14 z14
      obtain ⟨bb_14, rfl, N14q, Kq14, p14_0, p14_1, p14_2, p14_3, p14_4⟩ := hQ14
      have N14 := Fr.app N13 N14q
      have Z14 : n0 ≤ T14.heap.size := Nat.le_trans Z13 Kq14.1
      have K14 : Keep h0 T14.heap [] := K13.trans Kq14 all0
      have sz_bb_14 : h0.size ≤ bb_14 := Nat.le_trans K13.1 p14_1
      have ne14_b12_bb_14 : b12 ≠ bb_14 := Nat.ne_of_lt (Nat.lt_of_lt_of_le f15.lt p14_1)
      have pre16 : ∀ t, Steps p.tables e below (T14.setTop (mkF m 82 #[.val (.long q1), .second, .val (.int p2), .val (.long q3), .second, .val (.int p4), .val (.int cnt), .val (.long now), .second, .val (.ref b12), .val (.ref bb_14), .unset, .unset, .unset, .unset, .unset, .unset] [(.int (2147483647 : Int32)), (.int cnt)])) t → Steps p.tables e below (s₁.setTop (entryFrame m #[(.long q1), (.int p2), (.long q3), (.int p4)] maxLocals)) t := fun t k => pre9 t (by
        refine XS.icmpYes X0.here hx rfl (pc0 := 52) (pc' := 57) rfl (hb hby at_52) rfl (feq hc10).2 (by decide) (by decide) ?_
        show Steps p.tables e below (s₁.setTop (mkF m 57 #[.val (.long q1), .second, .val (.int p2), .val (.long q3), .second, .val (.int p4), .val (.int cnt), .val (.long now), .second, .unset, .unset, .unset, .unset, .unset, .unset, .unset, .unset] [])) _
        refine st12 _ ?_
        show Steps p.tables e below (T12.setTop (mkF m 60 #[.val (.long q1), .second, .val (.int p2), .val (.long q3), .second, .val (.int p4), .val (.int cnt), .val (.long now), .second, .unset, .unset, .unset, .unset, .unset, .unset, .unset, .unset] [(.ref b12)])) _
        refine XS.dup X12.here hx rfl (hb hby at_60) rfl rfl ?_
        show Steps p.tables e below (T12.setTop (mkF m 61 #[.val (.long q1), .second, .val (.int p2), .val (.long q3), .second, .val (.int p4), .val (.int cnt), .val (.long now), .second, .unset, .unset, .unset, .unset, .unset, .unset, .unset, .unset] [(.ref b12), (.ref b12)])) _
        refine XS.lloadN X12.here hx rfl (hb hby at_61) rfl ?_
        show Steps p.tables e below (T12.setTop (mkF m 62 #[.val (.long q1), .second, .val (.int p2), .val (.long q3), .second, .val (.int p4), .val (.int cnt), .val (.long now), .second, .unset, .unset, .unset, .unset, .unset, .unset, .unset, .unset] [(.long q1), (.ref b12), (.ref b12)])) _
        refine XS.iload X12.here hx rfl (hb hby at_62) rfl ?_
        show Steps p.tables e below (T12.setTop (mkF m 64 #[.val (.long q1), .second, .val (.int p2), .val (.long q3), .second, .val (.int p4), .val (.int cnt), .val (.long now), .second, .unset, .unset, .unset, .unset, .unset, .unset, .unset, .unset] [(.int cnt), (.long q1), (.ref b12), (.ref b12)])) _
        refine st13.trans ?_
        show Steps p.tables e below (T13.setTop (mkF m 67 #[.val (.long q1), .second, .val (.int p2), .val (.long q3), .second, .val (.int p4), .val (.int cnt), .val (.long now), .second, .unset, .unset, .unset, .unset, .unset, .unset, .unset, .unset] [(.ref b12)])) _
        refine XS.astore X13.here hx rfl (hb hby at_67) rfl rfl (l' := #[.val (.long q1), .second, .val (.int p2), .val (.long q3), .second, .val (.int p4), .val (.int cnt), .val (.long now), .second, .val (.ref b12), .unset, .unset, .unset, .unset, .unset, .unset, .unset]) rfl ?_
        show Steps p.tables e below (T13.setTop (mkF m 69 #[.val (.long q1), .second, .val (.int p2), .val (.long q3), .second, .val (.int p4), .val (.int cnt), .val (.long now), .second, .val (.ref b12), .unset, .unset, .unset, .unset, .unset, .unset, .unset] [])) _
        refine XS.aload X13.here hx rfl (hb hby at_69) rfl rfl ?_
        show Steps p.tables e below (T13.setTop (mkF m 71 #[.val (.long q1), .second, .val (.int p2), .val (.long q3), .second, .val (.int p4), .val (.int cnt), .val (.long now), .second, .val (.ref b12), .unset, .unset, .unset, .unset, .unset, .unset, .unset] [(.ref b12)])) _
        refine XS.lload X13.here hx rfl (hb hby at_71) rfl ?_
        show Steps p.tables e below (T13.setTop (mkF m 73 #[.val (.long q1), .second, .val (.int p2), .val (.long q3), .second, .val (.int p4), .val (.int cnt), .val (.long now), .second, .val (.ref b12), .unset, .unset, .unset, .unset, .unset, .unset, .unset] [(.long now), (.ref b12)])) _
        refine st14.trans ?_
        show Steps p.tables e below (T14.setTop (mkF m 76 #[.val (.long q1), .second, .val (.int p2), .val (.long q3), .second, .val (.int p4), .val (.int cnt), .val (.long now), .second, .val (.ref b12), .unset, .unset, .unset, .unset, .unset, .unset, .unset] [(.ref bb_14)])) _
        refine XS.astore X14.here hx rfl (hb hby at_76) rfl rfl (l' := #[.val (.long q1), .second, .val (.int p2), .val (.long q3), .second, .val (.int p4), .val (.int cnt), .val (.long now), .second, .val (.ref b12), .val (.ref bb_14), .unset, .unset, .unset, .unset, .unset, .unset]) rfl ?_
        show Steps p.tables e below (T14.setTop (mkF m 78 #[.val (.long q1), .second, .val (.int p2), .val (.long q3), .second, .val (.int p4), .val (.int cnt), .val (.long now), .second, .val (.ref b12), .val (.ref bb_14), .unset, .unset, .unset, .unset, .unset, .unset] [])) _
        refine XS.iload X14.here hx rfl (hb hby at_78) rfl ?_
        show Steps p.tables e below (T14.setTop (mkF m 80 #[.val (.long q1), .second, .val (.int p2), .val (.long q3), .second, .val (.int p4), .val (.int cnt), .val (.long now), .second, .val (.ref b12), .val (.ref bb_14), .unset, .unset, .unset, .unset, .unset, .unset] [(.int cnt)])) _
        refine X14.ldcInt hx hown (mvT hZ (kw0 hw)) (g := (mkF m 80 #[.val (.long q1), .second, .val (.int p2), .val (.long q3), .second, .val (.int p4), .val (.int cnt), .val (.long now), .second, .val (.ref b12), .val (.ref bb_14), .unset, .unset, .unset, .unset, .unset, .unset] [(.int cnt)])) rfl (hb hby at_80) _ ?_
        show Steps p.tables e below (T14.setTop (mkF m 82 #[.val (.long q1), .second, .val (.int p2), .val (.long q3), .second, .val (.int p4), .val (.int cnt), .val (.long now), .second, .val (.ref b12), .val (.ref bb_14), .unset, .unset, .unset, .unset, .unset, .unset] [(.int (2147483647 : Int32)), (.int cnt)])) _
        exact k)
      have pre18 : ∀ t, Steps p.tables e below (T14.setTop (mkF m 105 #[.val (.long q1), .second, .val (.int p2), .val (.long q3), .second, .val (.int p4), .val (.int cnt), .val (.long now), .second, .val (.ref b12), .val (.ref bb_14), .val (.long (if cnt < (2147483647 : Int32) then q1 else (q1 + (1 : Int64)))), .second, .val (.int (if cnt < (2147483647 : Int32) then (cnt + (1 : Int32)) else (0 : Int32))), .unset, .unset, .unset] [])) t → Steps p.tables e below (s₁.setTop (entryFrame m #[(.long q1), (.int p2), (.long q3), (.int p4)] maxLocals)) t := fun t k => pre16 t (by
        by_cases hc17 : cnt < (2147483647 : Int32)
        · skip
          refine XS.icmpNo X14.here hx rfl (hb hby at_82) rfl (tlt hc17).2.1 ?_
          show Steps p.tables e below (T14.setTop (mkF m 85 #[.val (.long q1), .second, .val (.int p2), .val (.long q3), .second, .val (.int p4), .val (.int cnt), .val (.long now), .second, .val (.ref b12), .val (.ref bb_14), .unset, .unset, .unset, .unset, .unset, .unset] [])) _
          refine XS.lloadN X14.here hx rfl (hb hby at_85) rfl ?_
          show Steps p.tables e below (T14.setTop (mkF m 86 #[.val (.long q1), .second, .val (.int p2), .val (.long q3), .second, .val (.int p4), .val (.int cnt), .val (.long now), .second, .val (.ref b12), .val (.ref bb_14), .unset, .unset, .unset, .unset, .unset, .unset] [(.long q1)])) _
          refine XS.lstore X14.here hx rfl (hb hby at_86) rfl (l' := #[.val (.long q1), .second, .val (.int p2), .val (.long q3), .second, .val (.int p4), .val (.int cnt), .val (.long now), .second, .val (.ref b12), .val (.ref bb_14), .val (.long q1), .second, .unset, .unset, .unset, .unset]) rfl ?_
          show Steps p.tables e below (T14.setTop (mkF m 88 #[.val (.long q1), .second, .val (.int p2), .val (.long q3), .second, .val (.int p4), .val (.int cnt), .val (.long now), .second, .val (.ref b12), .val (.ref bb_14), .val (.long q1), .second, .unset, .unset, .unset, .unset] [])) _
          refine XS.iload X14.here hx rfl (hb hby at_88) rfl ?_
          show Steps p.tables e below (T14.setTop (mkF m 90 #[.val (.long q1), .second, .val (.int p2), .val (.long q3), .second, .val (.int p4), .val (.int cnt), .val (.long now), .second, .val (.ref b12), .val (.ref bb_14), .val (.long q1), .second, .unset, .unset, .unset, .unset] [(.int cnt)])) _
          refine XS.iconst X14.here hx rfl (hb hby at_90) ?_
          show Steps p.tables e below (T14.setTop (mkF m 91 #[.val (.long q1), .second, .val (.int p2), .val (.long q3), .second, .val (.int p4), .val (.int cnt), .val (.long now), .second, .val (.ref b12), .val (.ref bb_14), .val (.long q1), .second, .unset, .unset, .unset, .unset] [(.int (1 : Int32)), (.int cnt)])) _
          refine XS.iadd X14.here hx rfl (hb hby at_91) rfl ?_
          show Steps p.tables e below (T14.setTop (mkF m 92 #[.val (.long q1), .second, .val (.int p2), .val (.long q3), .second, .val (.int p4), .val (.int cnt), .val (.long now), .second, .val (.ref b12), .val (.ref bb_14), .val (.long q1), .second, .unset, .unset, .unset, .unset] [(.int (cnt + (1 : Int32)))])) _
          refine XS.istore X14.here hx rfl (hb hby at_92) rfl (l' := #[.val (.long q1), .second, .val (.int p2), .val (.long q3), .second, .val (.int p4), .val (.int cnt), .val (.long now), .second, .val (.ref b12), .val (.ref bb_14), .val (.long q1), .second, .val (.int (cnt + (1 : Int32))), .unset, .unset, .unset]) rfl ?_
          show Steps p.tables e below (T14.setTop (mkF m 94 #[.val (.long q1), .second, .val (.int p2), .val (.long q3), .second, .val (.int p4), .val (.int cnt), .val (.long now), .second, .val (.ref b12), .val (.ref bb_14), .val (.long q1), .second, .val (.int (cnt + (1 : Int32))), .unset, .unset, .unset] [])) _
          refine XS.goto X14.here hx rfl (pc0 := 94) (pc' := 105) rfl (hb hby at_94) (by decide) (by decide) ?_
          show Steps p.tables e below (T14.setTop (mkF m 105 #[.val (.long q1), .second, .val (.int p2), .val (.long q3), .second, .val (.int p4), .val (.int cnt), .val (.long now), .second, .val (.ref b12), .val (.ref bb_14), .val (.long q1), .second, .val (.int (cnt + (1 : Int32))), .unset, .unset, .unset] [])) _
          simp only [if_pos hc17] at k; exact k
        · skip
          refine XS.icmpYes X14.here hx rfl (pc0 := 82) (pc' := 97) rfl (hb hby at_82) rfl (flt hc17).2.1 (by decide) (by decide) ?_
          show Steps p.tables e below (T14.setTop (mkF m 97 #[.val (.long q1), .second, .val (.int p2), .val (.long q3), .second, .val (.int p4), .val (.int cnt), .val (.long now), .second, .val (.ref b12), .val (.ref bb_14), .unset, .unset, .unset, .unset, .unset, .unset] [])) _
          refine XS.lloadN X14.here hx rfl (hb hby at_97) rfl ?_
          show Steps p.tables e below (T14.setTop (mkF m 98 #[.val (.long q1), .second, .val (.int p2), .val (.long q3), .second, .val (.int p4), .val (.int cnt), .val (.long now), .second, .val (.ref b12), .val (.ref bb_14), .unset, .unset, .unset, .unset, .unset, .unset] [(.long q1)])) _
          refine XS.lconst X14.here hx rfl (hb hby at_98) ?_
          show Steps p.tables e below (T14.setTop (mkF m 99 #[.val (.long q1), .second, .val (.int p2), .val (.long q3), .second, .val (.int p4), .val (.int cnt), .val (.long now), .second, .val (.ref b12), .val (.ref bb_14), .unset, .unset, .unset, .unset, .unset, .unset] [(.long (1 : Int64)), (.long q1)])) _
          refine XS.ladd X14.here hx rfl (hb hby at_99) rfl ?_
          show Steps p.tables e below (T14.setTop (mkF m 100 #[.val (.long q1), .second, .val (.int p2), .val (.long q3), .second, .val (.int p4), .val (.int cnt), .val (.long now), .second, .val (.ref b12), .val (.ref bb_14), .unset, .unset, .unset, .unset, .unset, .unset] [(.long (q1 + (1 : Int64)))])) _
          refine XS.lstore X14.here hx rfl (hb hby at_100) rfl (l' := #[.val (.long q1), .second, .val (.int p2), .val (.long q3), .second, .val (.int p4), .val (.int cnt), .val (.long now), .second, .val (.ref b12), .val (.ref bb_14), .val (.long (q1 + (1 : Int64))), .second, .unset, .unset, .unset, .unset]) rfl ?_
          show Steps p.tables e below (T14.setTop (mkF m 102 #[.val (.long q1), .second, .val (.int p2), .val (.long q3), .second, .val (.int p4), .val (.int cnt), .val (.long now), .second, .val (.ref b12), .val (.ref bb_14), .val (.long (q1 + (1 : Int64))), .second, .unset, .unset, .unset, .unset] [])) _
          refine XS.iconst X14.here hx rfl (hb hby at_102) ?_
          show Steps p.tables e below (T14.setTop (mkF m 103 #[.val (.long q1), .second, .val (.int p2), .val (.long q3), .second, .val (.int p4), .val (.int cnt), .val (.long now), .second, .val (.ref b12), .val (.ref bb_14), .val (.long (q1 + (1 : Int64))), .second, .unset, .unset, .unset, .unset] [(.int (0 : Int32))])) _
          refine XS.istore X14.here hx rfl (hb hby at_103) rfl (l' := #[.val (.long q1), .second, .val (.int p2), .val (.long q3), .second, .val (.int p4), .val (.int cnt), .val (.long now), .second, .val (.ref b12), .val (.ref bb_14), .val (.long (q1 + (1 : Int64))), .second, .val (.int (0 : Int32)), .unset, .unset, .unset]) rfl ?_
          show Steps p.tables e below (T14.setTop (mkF m 105 #[.val (.long q1), .second, .val (.int p2), .val (.long q3), .second, .val (.int p4), .val (.int cnt), .val (.long now), .second, .val (.ref b12), .val (.ref bb_14), .val (.long (q1 + (1 : Int64))), .second, .val (.int (0 : Int32)), .unset, .unset, .unset] [])) _
          simp only [if_neg hc17] at k; exact k)
      have pre19 : ∀ t, Steps p.tables e below (T14.setTop (mkF m 110 #[.val (.long q1), .second, .val (.int p2), .val (.long q3), .second, .val (.int p4), .val (.int cnt), .val (.long now), .second, .val (.ref b12), .val (.ref bb_14), .val (.long (if cnt < (2147483647 : Int32) then q1 else (q1 + (1 : Int64)))), .second, .val (.int (if cnt < (2147483647 : Int32) then (cnt + (1 : Int32)) else (0 : Int32))), .unset, .unset, .unset] [(.int (lcmpW now (if cnt < (2147483647 : Int32) then q1 else (q1 + (1 : Int64)))))])) t → Steps p.tables e below (s₁.setTop (entryFrame m #[(.long q1), (.int p2), (.long q3), (.int p4)] maxLocals)) t := fun t k => pre18 t (by
        show Steps p.tables e below (T14.setTop (mkF m 105 #[.val (.long q1), .second, .val (.int p2), .val (.long q3), .second, .val (.int p4), .val (.int cnt), .val (.long now), .second, .val (.ref b12), .val (.ref bb_14), .val (.long (if cnt < (2147483647 : Int32) then q1 else (q1 + (1 : Int64)))), .second, .val (.int (if cnt < (2147483647 : Int32) then (cnt + (1 : Int32)) else (0 : Int32))), .unset, .unset, .unset] [])) _
        refine XS.lload X14.here hx rfl (hb hby at_105) rfl ?_
        show Steps p.tables e below (T14.setTop (mkF m 107 #[.val (.long q1), .second, .val (.int p2), .val (.long q3), .second, .val (.int p4), .val (.int cnt), .val (.long now), .second, .val (.ref b12), .val (.ref bb_14), .val (.long (if cnt < (2147483647 : Int32) then q1 else (q1 + (1 : Int64)))), .second, .val (.int (if cnt < (2147483647 : Int32) then (cnt + (1 : Int32)) else (0 : Int32))), .unset, .unset, .unset] [(.long now)])) _
        refine XS.lload X14.here hx rfl (hb hby at_107) rfl ?_
        show Steps p.tables e below (T14.setTop (mkF m 109 #[.val (.long q1), .second, .val (.int p2), .val (.long q3), .second, .val (.int p4), .val (.int cnt), .val (.long now), .second, .val (.ref b12), .val (.ref bb_14), .val (.long (if cnt < (2147483647 : Int32) then q1 else (q1 + (1 : Int64)))), .second, .val (.int (if cnt < (2147483647 : Int32) then (cnt + (1 : Int32)) else (0 : Int32))), .unset, .unset, .unset] [(.long (if cnt < (2147483647 : Int32) then q1 else (q1 + (1 : Int64)))), (.long now)])) _
        refine XS.lcmp X14.here hx rfl (hb hby at_109) rfl ?_
        show Steps p.tables e below (T14.setTop (mkF m 110 #[.val (.long q1), .second, .val (.int p2), .val (.long q3), .second, .val (.int p4), .val (.int cnt), .val (.long now), .second, .val (.ref b12), .val (.ref bb_14), .val (.long (if cnt < (2147483647 : Int32) then q1 else (q1 + (1 : Int64)))), .second, .val (.int (if cnt < (2147483647 : Int32) then (cnt + (1 : Int32)) else (0 : Int32))), .unset, .unset, .unset] [(.int (lcmpW now (if cnt < (2147483647 : Int32) then q1 else (q1 + (1 : Int64)))))])) _
        exact k)
      have pre23 : ∀ t, Steps p.tables e below (T14.setTop (mkF m 145 #[.val (.long q1), .second, .val (.int p2), .val (.long q3), .second, .val (.int p4), .val (.int cnt), .val (.long now), .second, .val (.ref b12), .val (.ref bb_14), .val (.long (if cnt < (2147483647 : Int32) then q1 else (q1 + (1 : Int64)))), .second, .val (.int (if cnt < (2147483647 : Int32) then (cnt + (1 : Int32)) else (0 : Int32))), .val (.long (if (if cnt < (2147483647 : Int32) then q1 else (q1 + (1 : Int64))) < now then now else (if now = (if cnt < (2147483647 : Int32) then q1 else (q1 + (1 : Int64))) then (if (if cnt < (2147483647 : Int32) then (cnt + (1 : Int32)) else (0 : Int32)) < (0 : Int32) then now else (if cnt < (2147483647 : Int32) then q1 else (q1 + (1 : Int64)))) else (if cnt < (2147483647 : Int32) then q1 else (q1 + (1 : Int64)))))), .second, .val (.int (if (if cnt < (2147483647 : Int32) then q1 else (q1 + (1 : Int64))) < now then (0 : Int32) else (if now = (if cnt < (2147483647 : Int32) then q1 else (q1 + (1 : Int64))) then (if (if cnt < (2147483647 : Int32) then (cnt + (1 : Int32)) else (0 : Int32)) < (0 : Int32) then (0 : Int32) else (if cnt < (2147483647 : Int32) then (cnt + (1 : Int32)) else (0 : Int32))) else (if cnt < (2147483647 : Int32) then (cnt + (1 : Int32)) else (0 : Int32)))))] [])) t → Steps p.tables e below (s₁.setTop (entryFrame m #[(.long q1), (.int p2), (.long q3), (.int p4)] maxLocals)) t := fun t k => pre19 t (by
        by_cases hc20 : (if cnt < (2147483647 : Int32) then q1 else (q1 + (1 : Int64))) < now
        · skip
          refine XS.ifYes X14.here hx rfl (pc0 := 110) (pc' := 127) rfl (hb hby at_110) rfl ((if0 _ _).trans (tlt ((lw_gt _ _).mpr hc20)).2.2.1) (by decide) (by decide) ?_
          show Steps p.tables e below (T14.setTop (mkF m 127 #[.val (.long q1), .second, .val (.int p2), .val (.long q3), .second, .val (.int p4), .val (.int cnt), .val (.long now), .second, .val (.ref b12), .val (.ref bb_14), .val (.long (if cnt < (2147483647 : Int32) then q1 else (q1 + (1 : Int64)))), .second, .val (.int (if cnt < (2147483647 : Int32) then (cnt + (1 : Int32)) else (0 : Int32))), .unset, .unset, .unset] [])) _
          refine XS.lload X14.here hx rfl (hb hby at_127) rfl ?_
          show Steps p.tables e below (T14.setTop (mkF m 129 #[.val (.long q1), .second, .val (.int p2), .val (.long q3), .second, .val (.int p4), .val (.int cnt), .val (.long now), .second, .val (.ref b12), .val (.ref bb_14), .val (.long (if cnt < (2147483647 : Int32) then q1 else (q1 + (1 : Int64)))), .second, .val (.int (if cnt < (2147483647 : Int32) then (cnt + (1 : Int32)) else (0 : Int32))), .unset, .unset, .unset] [(.long now)])) _
          refine XS.lstore X14.here hx rfl (hb hby at_129) rfl (l' := #[.val (.long q1), .second, .val (.int p2), .val (.long q3), .second, .val (.int p4), .val (.int cnt), .val (.long now), .second, .val (.ref b12), .val (.ref bb_14), .val (.long (if cnt < (2147483647 : Int32) then q1 else (q1 + (1 : Int64)))), .second, .val (.int (if cnt < (2147483647 : Int32) then (cnt + (1 : Int32)) else (0 : Int32))), .val (.long now), .second, .unset]) rfl ?_
          show Steps p.tables e below (T14.setTop (mkF m 131 #[.val (.long q1), .second, .val (.int p2), .val (.long q3), .second, .val (.int p4), .val (.int cnt), .val (.long now), .second, .val (.ref b12), .val (.ref bb_14), .val (.long (if cnt < (2147483647 : Int32) then q1 else (q1 + (1 : Int64)))), .second, .val (.int (if cnt < (2147483647 : Int32) then (cnt + (1 : Int32)) else (0 : Int32))), .val (.long now), .second, .unset] [])) _
          refine XS.iconst X14.here hx rfl (hb hby at_131) ?_
          show Steps p.tables e below (T14.setTop (mkF m 132 #[.val (.long q1), .second, .val (.int p2), .val (.long q3), .second, .val (.int p4), .val (.int cnt), .val (.long now), .second, .val (.ref b12), .val (.ref bb_14), .val (.long (if cnt < (2147483647 : Int32) then q1 else (q1 + (1 : Int64)))), .second, .val (.int (if cnt < (2147483647 : Int32) then (cnt + (1 : Int32)) else (0 : Int32))), .val (.long now), .second, .unset] [(.int (0 : Int32))])) _
          refine XS.istore X14.here hx rfl (hb hby at_132) rfl (l' := #[.val (.long q1), .second, .val (.int p2), .val (.long q3), .second, .val (.int p4), .val (.int cnt), .val (.long now), .second, .val (.ref b12), .val (.ref bb_14), .val (.long (if cnt < (2147483647 : Int32) then q1 else (q1 + (1 : Int64)))), .second, .val (.int (if cnt < (2147483647 : Int32) then (cnt + (1 : Int32)) else (0 : Int32))), .val (.long now), .second, .val (.int (0 : Int32))]) rfl ?_
          show Steps p.tables e below (T14.setTop (mkF m 134 #[.val (.long q1), .second, .val (.int p2), .val (.long q3), .second, .val (.int p4), .val (.int cnt), .val (.long now), .second, .val (.ref b12), .val (.ref bb_14), .val (.long (if cnt < (2147483647 : Int32) then q1 else (q1 + (1 : Int64)))), .second, .val (.int (if cnt < (2147483647 : Int32) then (cnt + (1 : Int32)) else (0 : Int32))), .val (.long now), .second, .val (.int (0 : Int32))] [])) _
          refine XS.goto X14.here hx rfl (pc0 := 134) (pc' := 145) rfl (hb hby at_134) (by decide) (by decide) ?_
          show Steps p.tables e below (T14.setTop (mkF m 145 #[.val (.long q1), .second, .val (.int p2), .val (.long q3), .second, .val (.int p4), .val (.int cnt), .val (.long now), .second, .val (.ref b12), .val (.ref bb_14), .val (.long (if cnt < (2147483647 : Int32) then q1 else (q1 + (1 : Int64)))), .second, .val (.int (if cnt < (2147483647 : Int32) then (cnt + (1 : Int32)) else (0 : Int32))), .val (.long now), .second, .val (.int (0 : Int32))] [])) _
          simp only [if_pos hc20] at k; exact k
        · skip
          refine XS.ifNo X14.here hx rfl (hb hby at_110) rfl ((if0 _ _).trans (flt (fun q => hc20 ((lw_gt _ _).mp q))).2.2.1) ?_
          show Steps p.tables e below (T14.setTop (mkF m 113 #[.val (.long q1), .second, .val (.int p2), .val (.long q3), .second, .val (.int p4), .val (.int cnt), .val (.long now), .second, .val (.ref b12), .val (.ref bb_14), .val (.long (if cnt < (2147483647 : Int32) then q1 else (q1 + (1 : Int64)))), .second, .val (.int (if cnt < (2147483647 : Int32) then (cnt + (1 : Int32)) else (0 : Int32))), .unset, .unset, .unset] [])) _
          refine XS.lload X14.here hx rfl (hb hby at_113) rfl ?_
          show Steps p.tables e below (T14.setTop (mkF m 115 #[.val (.long q1), .second, .val (.int p2), .val (.long q3), .second, .val (.int p4), .val (.int cnt), .val (.long now), .second, .val (.ref b12), .val (.ref bb_14), .val (.long (if cnt < (2147483647 : Int32) then q1 else (q1 + (1 : Int64)))), .second, .val (.int (if cnt < (2147483647 : Int32) then (cnt + (1 : Int32)) else (0 : Int32))), .unset, .unset, .unset] [(.long now)])) _
          refine XS.lload X14.here hx rfl (hb hby at_115) rfl ?_
          show Steps p.tables e below (T14.setTop (mkF m 117 #[.val (.long q1), .second, .val (.int p2), .val (.long q3), .second, .val (.int p4), .val (.int cnt), .val (.long now), .second, .val (.ref b12), .val (.ref bb_14), .val (.long (if cnt < (2147483647 : Int32) then q1 else (q1 + (1 : Int64)))), .second, .val (.int (if cnt < (2147483647 : Int32) then (cnt + (1 : Int32)) else (0 : Int32))), .unset, .unset, .unset] [(.long (if cnt < (2147483647 : Int32) then q1 else (q1 + (1 : Int64)))), (.long now)])) _
          refine XS.lcmp X14.here hx rfl (hb hby at_117) rfl ?_
          show Steps p.tables e below (T14.setTop (mkF m 118 #[.val (.long q1), .second, .val (.int p2), .val (.long q3), .second, .val (.int p4), .val (.int cnt), .val (.long now), .second, .val (.ref b12), .val (.ref bb_14), .val (.long (if cnt < (2147483647 : Int32) then q1 else (q1 + (1 : Int64)))), .second, .val (.int (if cnt < (2147483647 : Int32) then (cnt + (1 : Int32)) else (0 : Int32))), .unset, .unset, .unset] [(.int (lcmpW now (if cnt < (2147483647 : Int32) then q1 else (q1 + (1 : Int64)))))])) _
          by_cases hc21 : now = (if cnt < (2147483647 : Int32) then q1 else (q1 + (1 : Int64)))
          · skip
            refine XS.ifNo X14.here hx rfl (hb hby at_118) rfl ((if0 _ _).trans (teq ((lw_eq _ _).mpr hc21)).2) ?_
            show Steps p.tables e below (T14.setTop (mkF m 121 #[.val (.long q1), .second, .val (.int p2), .val (.long q3), .second, .val (.int p4), .val (.int cnt), .val (.long now), .second, .val (.ref b12), .val (.ref bb_14), .val (.long (if cnt < (2147483647 : Int32) then q1 else (q1 + (1 : Int64)))), .second, .val (.int (if cnt < (2147483647 : Int32) then (cnt + (1 : Int32)) else (0 : Int32))), .unset, .unset, .unset] [])) _
            refine XS.iconst X14.here hx rfl (hb hby at_121) ?_
            show Steps p.tables e below (T14.setTop (mkF m 122 #[.val (.long q1), .second, .val (.int p2), .val (.long q3), .second, .val (.int p4), .val (.int cnt), .val (.long now), .second, .val (.ref b12), .val (.ref bb_14), .val (.long (if cnt < (2147483647 : Int32) then q1 else (q1 + (1 : Int64)))), .second, .val (.int (if cnt < (2147483647 : Int32) then (cnt + (1 : Int32)) else (0 : Int32))), .unset, .unset, .unset] [(.int (0 : Int32))])) _
            refine XS.iload X14.here hx rfl (hb hby at_122) rfl ?_
            show Steps p.tables e below (T14.setTop (mkF m 124 #[.val (.long q1), .second, .val (.int p2), .val (.long q3), .second, .val (.int p4), .val (.int cnt), .val (.long now), .second, .val (.ref b12), .val (.ref bb_14), .val (.long (if cnt < (2147483647 : Int32) then q1 else (q1 + (1 : Int64)))), .second, .val (.int (if cnt < (2147483647 : Int32) then (cnt + (1 : Int32)) else (0 : Int32))), .unset, .unset, .unset] [(.int (if cnt < (2147483647 : Int32) then (cnt + (1 : Int32)) else (0 : Int32))), (.int (0 : Int32))])) _
            by_cases hc22 : (if cnt < (2147483647 : Int32) then (cnt + (1 : Int32)) else (0 : Int32)) < (0 : Int32)
            · skip
              refine XS.icmpNo X14.here hx rfl (hb hby at_124) rfl (tlt hc22).2.2.2 ?_
              show Steps p.tables e below (T14.setTop (mkF m 127 #[.val (.long q1), .second, .val (.int p2), .val (.long q3), .second, .val (.int p4), .val (.int cnt), .val (.long now), .second, .val (.ref b12), .val (.ref bb_14), .val (.long (if cnt < (2147483647 : Int32) then q1 else (q1 + (1 : Int64)))), .second, .val (.int (if cnt < (2147483647 : Int32) then (cnt + (1 : Int32)) else (0 : Int32))), .unset, .unset, .unset] [])) _
              refine XS.lload X14.here hx rfl (hb hby at_127) rfl ?_
              show Steps p.tables e below (T14.setTop (mkF m 129 #[.val (.long q1), .second, .val (.int p2), .val (.long q3), .second, .val (.int p4), .val (.int cnt), .val (.long now), .second, .val (.ref b12), .val (.ref bb_14), .val (.long (if cnt < (2147483647 : Int32) then q1 else (q1 + (1 : Int64)))), .second, .val (.int (if cnt < (2147483647 : Int32) then (cnt + (1 : Int32)) else (0 : Int32))), .unset, .unset, .unset] [(.long now)])) _
              refine XS.lstore X14.here hx rfl (hb hby at_129) rfl (l' := #[.val (.long q1), .second, .val (.int p2), .val (.long q3), .second, .val (.int p4), .val (.int cnt), .val (.long now), .second, .val (.ref b12), .val (.ref bb_14), .val (.long (if cnt < (2147483647 : Int32) then q1 else (q1 + (1 : Int64)))), .second, .val (.int (if cnt < (2147483647 : Int32) then (cnt + (1 : Int32)) else (0 : Int32))), .val (.long now), .second, .unset]) rfl ?_
              show Steps p.tables e below (T14.setTop (mkF m 131 #[.val (.long q1), .second, .val (.int p2), .val (.long q3), .second, .val (.int p4), .val (.int cnt), .val (.long now), .second, .val (.ref b12), .val (.ref bb_14), .val (.long (if cnt < (2147483647 : Int32) then q1 else (q1 + (1 : Int64)))), .second, .val (.int (if cnt < (2147483647 : Int32) then (cnt + (1 : Int32)) else (0 : Int32))), .val (.long now), .second, .unset] [])) _
              refine XS.iconst X14.here hx rfl (hb hby at_131) ?_
              show Steps p.tables e below (T14.setTop (mkF m 132 #[.val (.long q1), .second, .val (.int p2), .val (.long q3), .second, .val (.int p4), .val (.int cnt), .val (.long now), .second, .val (.ref b12), .val (.ref bb_14), .val (.long (if cnt < (2147483647 : Int32) then q1 else (q1 + (1 : Int64)))), .second, .val (.int (if cnt < (2147483647 : Int32) then (cnt + (1 : Int32)) else (0 : Int32))), .val (.long now), .second, .unset] [(.int (0 : Int32))])) _
              refine XS.istore X14.here hx rfl (hb hby at_132) rfl (l' := #[.val (.long q1), .second, .val (.int p2), .val (.long q3), .second, .val (.int p4), .val (.int cnt), .val (.long now), .second, .val (.ref b12), .val (.ref bb_14), .val (.long (if cnt < (2147483647 : Int32) then q1 else (q1 + (1 : Int64)))), .second, .val (.int (if cnt < (2147483647 : Int32) then (cnt + (1 : Int32)) else (0 : Int32))), .val (.long now), .second, .val (.int (0 : Int32))]) rfl ?_
              show Steps p.tables e below (T14.setTop (mkF m 134 #[.val (.long q1), .second, .val (.int p2), .val (.long q3), .second, .val (.int p4), .val (.int cnt), .val (.long now), .second, .val (.ref b12), .val (.ref bb_14), .val (.long (if cnt < (2147483647 : Int32) then q1 else (q1 + (1 : Int64)))), .second, .val (.int (if cnt < (2147483647 : Int32) then (cnt + (1 : Int32)) else (0 : Int32))), .val (.long now), .second, .val (.int (0 : Int32))] [])) _
              refine XS.goto X14.here hx rfl (pc0 := 134) (pc' := 145) rfl (hb hby at_134) (by decide) (by decide) ?_
              show Steps p.tables e below (T14.setTop (mkF m 145 #[.val (.long q1), .second, .val (.int p2), .val (.long q3), .second, .val (.int p4), .val (.int cnt), .val (.long now), .second, .val (.ref b12), .val (.ref bb_14), .val (.long (if cnt < (2147483647 : Int32) then q1 else (q1 + (1 : Int64)))), .second, .val (.int (if cnt < (2147483647 : Int32) then (cnt + (1 : Int32)) else (0 : Int32))), .val (.long now), .second, .val (.int (0 : Int32))] [])) _
              simp only [if_neg hc20, if_pos hc21, if_pos hc22] at k; exact k
            · skip
              refine XS.icmpYes X14.here hx rfl (pc0 := 124) (pc' := 137) rfl (hb hby at_124) rfl (flt hc22).2.2.2 (by decide) (by decide) ?_
              show Steps p.tables e below (T14.setTop (mkF m 137 #[.val (.long q1), .second, .val (.int p2), .val (.long q3), .second, .val (.int p4), .val (.int cnt), .val (.long now), .second, .val (.ref b12), .val (.ref bb_14), .val (.long (if cnt < (2147483647 : Int32) then q1 else (q1 + (1 : Int64)))), .second, .val (.int (if cnt < (2147483647 : Int32) then (cnt + (1 : Int32)) else (0 : Int32))), .unset, .unset, .unset] [])) _
              refine XS.lload X14.here hx rfl (hb hby at_137) rfl ?_
              show Steps p.tables e below (T14.setTop (mkF m 139 #[.val (.long q1), .second, .val (.int p2), .val (.long q3), .second, .val (.int p4), .val (.int cnt), .val (.long now), .second, .val (.ref b12), .val (.ref bb_14), .val (.long (if cnt < (2147483647 : Int32) then q1 else (q1 + (1 : Int64)))), .second, .val (.int (if cnt < (2147483647 : Int32) then (cnt + (1 : Int32)) else (0 : Int32))), .unset, .unset, .unset] [(.long (if cnt < (2147483647 : Int32) then q1 else (q1 + (1 : Int64))))])) _
              refine XS.lstore X14.here hx rfl (hb hby at_139) rfl (l' := #[.val (.long q1), .second, .val (.int p2), .val (.long q3), .second, .val (.int p4), .val (.int cnt), .val (.long now), .second, .val (.ref b12), .val (.ref bb_14), .val (.long (if cnt < (2147483647 : Int32) then q1 else (q1 + (1 : Int64)))), .second, .val (.int (if cnt < (2147483647 : Int32) then (cnt + (1 : Int32)) else (0 : Int32))), .val (.long (if cnt < (2147483647 : Int32) then q1 else (q1 + (1 : Int64)))), .second, .unset]) rfl ?_
              show Steps p.tables e below (T14.setTop (mkF m 141 #[.val (.long q1), .second, .val (.int p2), .val (.long q3), .second, .val (.int p4), .val (.int cnt), .val (.long now), .second, .val (.ref b12), .val (.ref bb_14), .val (.long (if cnt < (2147483647 : Int32) then q1 else (q1 + (1 : Int64)))), .second, .val (.int (if cnt < (2147483647 : Int32) then (cnt + (1 : Int32)) else (0 : Int32))), .val (.long (if cnt < (2147483647 : Int32) then q1 else (q1 + (1 : Int64)))), .second, .unset] [])) _
              refine XS.iload X14.here hx rfl (hb hby at_141) rfl ?_
              show Steps p.tables e below (T14.setTop (mkF m 143 #[.val (.long q1), .second, .val (.int p2), .val (.long q3), .second, .val (.int p4), .val (.int cnt), .val (.long now), .second, .val (.ref b12), .val (.ref bb_14), .val (.long (if cnt < (2147483647 : Int32) then q1 else (q1 + (1 : Int64)))), .second, .val (.int (if cnt < (2147483647 : Int32) then (cnt + (1 : Int32)) else (0 : Int32))), .val (.long (if cnt < (2147483647 : Int32) then q1 else (q1 + (1 : Int64)))), .second, .unset] [(.int (if cnt < (2147483647 : Int32) then (cnt + (1 : Int32)) else (0 : Int32)))])) _
              refine XS.istore X14.here hx rfl (hb hby at_143) rfl (l' := #[.val (.long q1), .second, .val (.int p2), .val (.long q3), .second, .val (.int p4), .val (.int cnt), .val (.long now), .second, .val (.ref b12), .val (.ref bb_14), .val (.long (if cnt < (2147483647 : Int32) then q1 else (q1 + (1 : Int64)))), .second, .val (.int (if cnt < (2147483647 : Int32) then (cnt + (1 : Int32)) else (0 : Int32))), .val (.long (if cnt < (2147483647 : Int32) then q1 else (q1 + (1 : Int64)))), .second, .val (.int (if cnt < (2147483647 : Int32) then (cnt + (1 : Int32)) else (0 : Int32)))]) rfl ?_
              show Steps p.tables e below (T14.setTop (mkF m 145 #[.val (.long q1), .second, .val (.int p2), .val (.long q3), .second, .val (.int p4), .val (.int cnt), .val (.long now), .second, .val (.ref b12), .val (.ref bb_14), .val (.long (if cnt < (2147483647 : Int32) then q1 else (q1 + (1 : Int64)))), .second, .val (.int (if cnt < (2147483647 : Int32) then (cnt + (1 : Int32)) else (0 : Int32))), .val (.long (if cnt < (2147483647 : Int32) then q1 else (q1 + (1 : Int64)))), .second, .val (.int (if cnt < (2147483647 : Int32) then (cnt + (1 : Int32)) else (0 : Int32)))] [])) _
              simp only [if_neg hc20, if_pos hc21, if_neg hc22] at k; exact k
          · skip
            refine XS.ifYes X14.here hx rfl (pc0 := 118) (pc' := 137) rfl (hb hby at_118) rfl ((if0 _ _).trans (feq (fun q => hc21 ((lw_eq _ _).mp q))).2) (by decide) (by decide) ?_
            show Steps p.tables e below (T14.setTop (mkF m 137 #[.val (.long q1), .second, .val (.int p2), .val (.long q3), .second, .val (.int p4), .val (.int cnt), .val (.long now), .second, .val (.ref b12), .val (.ref bb_14), .val (.long (if cnt < (2147483647 : Int32) then q1 else (q1 + (1 : Int64)))), .second, .val (.int (if cnt < (2147483647 : Int32) then (cnt + (1 : Int32)) else (0 : Int32))), .unset, .unset, .unset] [])) _
            refine XS.lload X14.here hx rfl (hb hby at_137) rfl ?_
            show Steps p.tables e below (T14.setTop (mkF m 139 #[.val (.long q1), .second, .val (.int p2), .val (.long q3), .second, .val (.int p4), .val (.int cnt), .val (.long now), .second, .val (.ref b12), .val (.ref bb_14), .val (.long (if cnt < (2147483647 : Int32) then q1 else (q1 + (1 : Int64)))), .second, .val (.int (if cnt < (2147483647 : Int32) then (cnt + (1 : Int32)) else (0 : Int32))), .unset, .unset, .unset] [(.long (if cnt < (2147483647 : Int32) then q1 else (q1 + (1 : Int64))))])) _
            refine XS.lstore X14.here hx rfl (hb hby at_139) rfl (l' := #[.val (.long q1), .second, .val (.int p2), .val (.long q3), .second, .val (.int p4), .val (.int cnt), .val (.long now), .second, .val (.ref b12), .val (.ref bb_14), .val (.long (if cnt < (2147483647 : Int32) then q1 else (q1 + (1 : Int64)))), .second, .val (.int (if cnt < (2147483647 : Int32) then (cnt + (1 : Int32)) else (0 : Int32))), .val (.long (if cnt < (2147483647 : Int32) then q1 else (q1 + (1 : Int64)))), .second, .unset]) rfl ?_
            show Steps p.tables e below (T14.setTop (mkF m 141 #[.val (.long q1), .second, .val (.int p2), .val (.long q3), .second, .val (.int p4), .val (.int cnt), .val (.long now), .second, .val (.ref b12), .val (.ref bb_14), .val (.long (if cnt < (2147483647 : Int32) then q1 else (q1 + (1 : Int64)))), .second, .val (.int (if cnt < (2147483647 : Int32) then (cnt + (1 : Int32)) else (0 : Int32))), .val (.long (if cnt < (2147483647 : Int32) then q1 else (q1 + (1 : Int64)))), .second, .unset] [])) _
            refine XS.iload X14.here hx rfl (hb hby at_141) rfl ?_
            show Steps p.tables e below (T14.setTop (mkF m 143 #[.val (.long q1), .second, .val (.int p2), .val (.long q3), .second, .val (.int p4), .val (.int cnt), .val (.long now), .second, .val (.ref b12), .val (.ref bb_14), .val (.long (if cnt < (2147483647 : Int32) then q1 else (q1 + (1 : Int64)))), .second, .val (.int (if cnt < (2147483647 : Int32) then (cnt + (1 : Int32)) else (0 : Int32))), .val (.long (if cnt < (2147483647 : Int32) then q1 else (q1 + (1 : Int64)))), .second, .unset] [(.int (if cnt < (2147483647 : Int32) then (cnt + (1 : Int32)) else (0 : Int32)))])) _
            refine XS.istore X14.here hx rfl (hb hby at_143) rfl (l' := #[.val (.long q1), .second, .val (.int p2), .val (.long q3), .second, .val (.int p4), .val (.int cnt), .val (.long now), .second, .val (.ref b12), .val (.ref bb_14), .val (.long (if cnt < (2147483647 : Int32) then q1 else (q1 + (1 : Int64)))), .second, .val (.int (if cnt < (2147483647 : Int32) then (cnt + (1 : Int32)) else (0 : Int32))), .val (.long (if cnt < (2147483647 : Int32) then q1 else (q1 + (1 : Int64)))), .second, .val (.int (if cnt < (2147483647 : Int32) then (cnt + (1 : Int32)) else (0 : Int32)))]) rfl ?_
            show Steps p.tables e below (T14.setTop (mkF m 145 #[.val (.long q1), .second, .val (.int p2), .val (.long q3), .second, .val (.int p4), .val (.int cnt), .val (.long now), .second, .val (.ref b12), .val (.ref bb_14), .val (.long (if cnt < (2147483647 : Int32) then q1 else (q1 + (1 : Int64)))), .second, .val (.int (if cnt < (2147483647 : Int32) then (cnt + (1 : Int32)) else (0 : Int32))), .val (.long (if cnt < (2147483647 : Int32) then q1 else (q1 + (1 : Int64)))), .second, .val (.int (if cnt < (2147483647 : Int32) then (cnt + (1 : Int32)) else (0 : Int32)))] [])) _
            simp only [if_neg hc20, if_neg hc21] at k; exact k)
      obtain ⟨cq24, kq24, q24a, q24b, q24c⟩ := isOf hZ rfl p14_2
      obtain ⟨_, _, ⟨T24, L24, k24, n24⟩, -, X24, ⟨Lc24, hQ24, l24, y24, z24⟩, st24⟩ := X14.virtualBack hx (y := (⟨"com/example/tidemark/tidemark/store/Stamp", "millis", "()J"⟩ : MethodName)) (z := (⟨"com/example/tidemark/tidemark/store/Stamp", "millis", "()J"⟩ : MethodName)) hown (mvT hZ (kw28 hw)) (mvT hZ (kw29 hw)) (notFace_of_selects (args := #[]) (mvT hZ (kw31 hw))) (mvT hZ (kw31 hw)) (mvT hZ (kw30 hw)) (by decide) (backOf (W := 0) (rm5 l Z a0 hw [] bb_14 (own_nm q1 cnt now) T14.heap n0 Z14 p14_3) hZ (kw32 hw) (kw4 hw) (by decide) (by decide)) q24a q24c (g := (mkF m 147 #[.val (.long q1), .second, .val (.int p2), .val (.long q3), .second, .val (.int p4), .val (.int cnt), .val (.long now), .second, .val (.ref b12), .val (.ref bb_14), .val (.long (if cnt < (2147483647 : Int32) then q1 else (q1 + (1 : Int64)))), .second, .val (.int (if cnt < (2147483647 : Int32) then (cnt + (1 : Int32)) else (0 : Int32))), .val (.long (if (if cnt < (2147483647 : Int32) then q1 else (q1 + (1 : Int64))) < now then now else (if now = (if cnt < (2147483647 : Int32) then q1 else (q1 + (1 : Int64))) then (if (if cnt < (2147483647 : Int32) then (cnt + (1 : Int32)) else (0 : Int32)) < (0 : Int32) then now else (if cnt < (2147483647 : Int32) then q1 else (q1 + (1 : Int64)))) else (if cnt < (2147483647 : Int32) then q1 else (q1 + (1 : Int64)))))), .second, .val (.int (if (if cnt < (2147483647 : Int32) then q1 else (q1 + (1 : Int64))) < now then (0 : Int32) else (if now = (if cnt < (2147483647 : Int32) then q1 else (q1 + (1 : Int64))) then (if (if cnt < (2147483647 : Int32) then (cnt + (1 : Int32)) else (0 : Int32)) < (0 : Int32) then (0 : Int32) else (if cnt < (2147483647 : Int32) then (cnt + (1 : Int32)) else (0 : Int32))) else (if cnt < (2147483647 : Int32) then (cnt + (1 : Int32)) else (0 : Int32)))))] [(.ref bb_14)])) rfl (by rw [hml]; rfl) (Steps.refl _) (argsL := []) (rest := []) (lenOf pd_3 rfl) rfl (by show 2 * 0 + _ ≤ _; exact Nat.le_of_eq rfl) (hb hby at_147) (fun _ _ => ⟨rfl, rfl, (by decide : 2 + 0 ≤ _), (by decide : 4 + 0 ≤ _)⟩)
      dsimp only [Pt.U, Pt.locs, Pt.cells, Pt.slots] at X24 l24 y24 z24 st24 hQ24
      subst l24 y24 z24
      obtain ⟨rfl, N24q, e24⟩ := hQ24
      have N24 := Fr.app N14 N24q
      obtain ⟨cq25, kq25, q25a, q25b, q25c⟩ := isOf hZ e24 p14_2
      obtain ⟨_, _, ⟨T25, L25, k25, n25⟩, -, X25, ⟨Lc25, hQ25, l25, y25, z25⟩, st25⟩ := X24.virtualBack hx (y := (⟨"com/example/tidemark/tidemark/store/Stamp", "counter", "()I"⟩ : MethodName)) (z := (⟨"com/example/tidemark/tidemark/store/Stamp", "counter", "()I"⟩ : MethodName)) hown (mvT hZ (kw33 hw)) (mvT hZ (kw34 hw)) (notFace_of_selects (args := #[]) (mvT hZ (kw36 hw))) (mvT hZ (kw36 hw)) (mvT hZ (kw35 hw)) (by decide) (backOf (W := 0) (rm6 l Z a0 hw [] bb_14 (own_nc q1 cnt now) T14.heap n0 Z14 p14_4) hZ (kw37 hw) (kw4 hw) (by decide) (by decide)) q25a q25c (g := (mkF m 158 #[.val (.long q1), .second, .val (.int p2), .val (.long q3), .second, .val (.int p4), .val (.int cnt), .val (.long now), .second, .val (.ref b12), .val (.ref bb_14), .val (.long (if cnt < (2147483647 : Int32) then q1 else (q1 + (1 : Int64)))), .second, .val (.int (if cnt < (2147483647 : Int32) then (cnt + (1 : Int32)) else (0 : Int32))), .val (.long (if (if cnt < (2147483647 : Int32) then q1 else (q1 + (1 : Int64))) < now then now else (if now = (if cnt < (2147483647 : Int32) then q1 else (q1 + (1 : Int64))) then (if (if cnt < (2147483647 : Int32) then (cnt + (1 : Int32)) else (0 : Int32)) < (0 : Int32) then now else (if cnt < (2147483647 : Int32) then q1 else (q1 + (1 : Int64)))) else (if cnt < (2147483647 : Int32) then q1 else (q1 + (1 : Int64)))))), .second, .val (.int (if (if cnt < (2147483647 : Int32) then q1 else (q1 + (1 : Int64))) < now then (0 : Int32) else (if now = (if cnt < (2147483647 : Int32) then q1 else (q1 + (1 : Int64))) then (if (if cnt < (2147483647 : Int32) then (cnt + (1 : Int32)) else (0 : Int32)) < (0 : Int32) then (0 : Int32) else (if cnt < (2147483647 : Int32) then (cnt + (1 : Int32)) else (0 : Int32))) else (if cnt < (2147483647 : Int32) then (cnt + (1 : Int32)) else (0 : Int32)))))] [(.ref bb_14)])) rfl (by rw [hml]; rfl) (Steps.refl _) (argsL := []) (rest := []) (lenOf pd_4 rfl) rfl (by show 2 * 0 + _ ≤ _; exact Nat.le_of_eq rfl) (hb hby at_158) (fun _ _ => ⟨rfl, e24, (by decide : 2 + 0 ≤ _), (by decide : 4 + 0 ≤ _)⟩)
      dsimp only [Pt.U, Pt.locs, Pt.cells, Pt.slots] at X25 l25 y25 z25 st25 hQ25
      subst l25 y25 z25
      obtain ⟨rfl, N25q, e25⟩ := hQ25
      have N25 := Fr.app N24 N25q
      have f27 : Fld Z T14.heap b12 "com/example/tidemark/tidemark/store/Stamp" "millis" "J" (.long q1) := (p13_0.keep Kq14 nin0)
      have f28 : Exa Z T14.heap b12 "com/example/tidemark/tidemark/store/Stamp" := (f15.keep Kq14)
      obtain ⟨cq26, kq26, q26a, q26b, q26c⟩ := isOf hZ e25 f28
      obtain ⟨_, _, ⟨T26, L26, k26, n26⟩, -, X26, ⟨Lc26, hQ26, l26, y26, z26⟩, st26⟩ := X25.virtualBack hx (y := (⟨"com/example/tidemark/tidemark/store/Stamp", "millis", "()J"⟩ : MethodName)) (z := (⟨"com/example/tidemark/tidemark/store/Stamp", "millis", "()J"⟩ : MethodName)) hown (mvT hZ (kw28 hw)) (mvT hZ (kw29 hw)) (notFace_of_selects (args := #[]) (mvT hZ (kw31 hw))) (mvT hZ (kw31 hw)) (mvT hZ (kw30 hw)) (by decide) (backOf (W := 0) (rm5 l Z a0 hw [] b12 q1 T14.heap n0 Z14 f27) hZ (kw32 hw) (kw4 hw) (by decide) (by decide)) q26a q26c (g := (mkF m 168 #[.val (.long q1), .second, .val (.int p2), .val (.long q3), .second, .val (.int p4), .val (.int cnt), .val (.long now), .second, .val (.ref b12), .val (.ref bb_14), .val (.long (if cnt < (2147483647 : Int32) then q1 else (q1 + (1 : Int64)))), .second, .val (.int (if cnt < (2147483647 : Int32) then (cnt + (1 : Int32)) else (0 : Int32))), .val (.long (if (if cnt < (2147483647 : Int32) then q1 else (q1 + (1 : Int64))) < now then now else (if now = (if cnt < (2147483647 : Int32) then q1 else (q1 + (1 : Int64))) then (if (if cnt < (2147483647 : Int32) then (cnt + (1 : Int32)) else (0 : Int32)) < (0 : Int32) then now else (if cnt < (2147483647 : Int32) then q1 else (q1 + (1 : Int64)))) else (if cnt < (2147483647 : Int32) then q1 else (q1 + (1 : Int64)))))), .second, .val (.int (if (if cnt < (2147483647 : Int32) then q1 else (q1 + (1 : Int64))) < now then (0 : Int32) else (if now = (if cnt < (2147483647 : Int32) then q1 else (q1 + (1 : Int64))) then (if (if cnt < (2147483647 : Int32) then (cnt + (1 : Int32)) else (0 : Int32)) < (0 : Int32) then (0 : Int32) else (if cnt < (2147483647 : Int32) then (cnt + (1 : Int32)) else (0 : Int32))) else (if cnt < (2147483647 : Int32) then (cnt + (1 : Int32)) else (0 : Int32)))))] [(.ref b12)])) rfl (by rw [hml]; rfl) (Steps.refl _) (argsL := []) (rest := []) (lenOf pd_3 rfl) rfl (by show 2 * 0 + _ ≤ _; exact Nat.le_of_eq rfl) (hb hby at_168) (fun _ _ => ⟨rfl, e25, (by decide : 2 + 0 ≤ _), (by decide : 4 + 0 ≤ _)⟩)
      dsimp only [Pt.U, Pt.locs, Pt.cells, Pt.slots] at X26 l26 y26 z26 st26 hQ26
      subst l26 y26 z26
      obtain ⟨rfl, N26q, e26⟩ := hQ26
      have N26 := Fr.app N25 N26q
      have f30 : Fld Z T14.heap b12 "com/example/tidemark/tidemark/store/Stamp" "counter" "I" (.int cnt) := (p13_1.keep Kq14 nin0)
      obtain ⟨cq29, kq29, q29a, q29b, q29c⟩ := isOf hZ e26 f28
      obtain ⟨_, _, ⟨T29, L29, k29, n29⟩, -, X29, ⟨Lc29, hQ29, l29, y29, z29⟩, st29⟩ := X26.virtualBack hx (y := (⟨"com/example/tidemark/tidemark/store/Stamp", "counter", "()I"⟩ : MethodName)) (z := (⟨"com/example/tidemark/tidemark/store/Stamp", "counter", "()I"⟩ : MethodName)) hown (mvT hZ (kw33 hw)) (mvT hZ (kw34 hw)) (notFace_of_selects (args := #[]) (mvT hZ (kw36 hw))) (mvT hZ (kw36 hw)) (mvT hZ (kw35 hw)) (by decide) (backOf (W := 0) (rm6 l Z a0 hw [] b12 cnt T14.heap n0 Z14 f30) hZ (kw37 hw) (kw4 hw) (by decide) (by decide)) q29a q29c (g := (mkF m 178 #[.val (.long q1), .second, .val (.int p2), .val (.long q3), .second, .val (.int p4), .val (.int cnt), .val (.long now), .second, .val (.ref b12), .val (.ref bb_14), .val (.long (if cnt < (2147483647 : Int32) then q1 else (q1 + (1 : Int64)))), .second, .val (.int (if cnt < (2147483647 : Int32) then (cnt + (1 : Int32)) else (0 : Int32))), .val (.long (if (if cnt < (2147483647 : Int32) then q1 else (q1 + (1 : Int64))) < now then now else (if now = (if cnt < (2147483647 : Int32) then q1 else (q1 + (1 : Int64))) then (if (if cnt < (2147483647 : Int32) then (cnt + (1 : Int32)) else (0 : Int32)) < (0 : Int32) then now else (if cnt < (2147483647 : Int32) then q1 else (q1 + (1 : Int64)))) else (if cnt < (2147483647 : Int32) then q1 else (q1 + (1 : Int64)))))), .second, .val (.int (if (if cnt < (2147483647 : Int32) then q1 else (q1 + (1 : Int64))) < now then (0 : Int32) else (if now = (if cnt < (2147483647 : Int32) then q1 else (q1 + (1 : Int64))) then (if (if cnt < (2147483647 : Int32) then (cnt + (1 : Int32)) else (0 : Int32)) < (0 : Int32) then (0 : Int32) else (if cnt < (2147483647 : Int32) then (cnt + (1 : Int32)) else (0 : Int32))) else (if cnt < (2147483647 : Int32) then (cnt + (1 : Int32)) else (0 : Int32)))))] [(.ref b12)])) rfl (by rw [hml]; rfl) (Steps.refl _) (argsL := []) (rest := []) (lenOf pd_4 rfl) rfl (by show 2 * 0 + _ ≤ _; exact Nat.le_of_eq rfl) (hb hby at_178) (fun _ _ => ⟨rfl, e26, (by decide : 2 + 0 ≤ _), (by decide : 4 + 0 ≤ _)⟩)
      dsimp only [Pt.U, Pt.locs, Pt.cells, Pt.slots] at X29 l29 y29 z29 st29 hQ29
      subst l29 y29 z29
      obtain ⟨rfl, N29q, e29⟩ := hQ29
      have N29 := Fr.app N26 N29q
      obtain ⟨fs, hr, hrun, hended, hW, hsame⟩ := X29.leave (v := some (.int (1 : Int32))) (fun h => by rw [Bd.returns] at h; cases h)
      refine ⟨_, _, pre23 _ ?_, hrun, hended, _, _, rfl, ?_, ⟨_, rfl⟩, hW, hsame.mono (by decide) (by decide)⟩
      · skip
        show Steps p.tables e below (T14.setTop (mkF m 145 #[.val (.long q1), .second, .val (.int p2), .val (.long q3), .second, .val (.int p4), .val (.int cnt), .val (.long now), .second, .val (.ref b12), .val (.ref bb_14), .val (.long (if cnt < (2147483647 : Int32) then q1 else (q1 + (1 : Int64)))), .second, .val (.int (if cnt < (2147483647 : Int32) then (cnt + (1 : Int32)) else (0 : Int32))), .val (.long (if (if cnt < (2147483647 : Int32) then q1 else (q1 + (1 : Int64))) < now then now else (if now = (if cnt < (2147483647 : Int32) then q1 else (q1 + (1 : Int64))) then (if (if cnt < (2147483647 : Int32) then (cnt + (1 : Int32)) else (0 : Int32)) < (0 : Int32) then now else (if cnt < (2147483647 : Int32) then q1 else (q1 + (1 : Int64)))) else (if cnt < (2147483647 : Int32) then q1 else (q1 + (1 : Int64)))))), .second, .val (.int (if (if cnt < (2147483647 : Int32) then q1 else (q1 + (1 : Int64))) < now then (0 : Int32) else (if now = (if cnt < (2147483647 : Int32) then q1 else (q1 + (1 : Int64))) then (if (if cnt < (2147483647 : Int32) then (cnt + (1 : Int32)) else (0 : Int32)) < (0 : Int32) then (0 : Int32) else (if cnt < (2147483647 : Int32) then (cnt + (1 : Int32)) else (0 : Int32))) else (if cnt < (2147483647 : Int32) then (cnt + (1 : Int32)) else (0 : Int32)))))] [])) _
        refine XS.aload X14.here hx rfl (hb hby at_145) rfl rfl ?_
        show Steps p.tables e below (T14.setTop (mkF m 147 #[.val (.long q1), .second, .val (.int p2), .val (.long q3), .second, .val (.int p4), .val (.int cnt), .val (.long now), .second, .val (.ref b12), .val (.ref bb_14), .val (.long (if cnt < (2147483647 : Int32) then q1 else (q1 + (1 : Int64)))), .second, .val (.int (if cnt < (2147483647 : Int32) then (cnt + (1 : Int32)) else (0 : Int32))), .val (.long (if (if cnt < (2147483647 : Int32) then q1 else (q1 + (1 : Int64))) < now then now else (if now = (if cnt < (2147483647 : Int32) then q1 else (q1 + (1 : Int64))) then (if (if cnt < (2147483647 : Int32) then (cnt + (1 : Int32)) else (0 : Int32)) < (0 : Int32) then now else (if cnt < (2147483647 : Int32) then q1 else (q1 + (1 : Int64)))) else (if cnt < (2147483647 : Int32) then q1 else (q1 + (1 : Int64)))))), .second, .val (.int (if (if cnt < (2147483647 : Int32) then q1 else (q1 + (1 : Int64))) < now then (0 : Int32) else (if now = (if cnt < (2147483647 : Int32) then q1 else (q1 + (1 : Int64))) then (if (if cnt < (2147483647 : Int32) then (cnt + (1 : Int32)) else (0 : Int32)) < (0 : Int32) then (0 : Int32) else (if cnt < (2147483647 : Int32) then (cnt + (1 : Int32)) else (0 : Int32))) else (if cnt < (2147483647 : Int32) then (cnt + (1 : Int32)) else (0 : Int32)))))] [(.ref bb_14)])) _
        refine st24.trans ?_
        show Steps p.tables e below (T24.setTop (mkF m 150 #[.val (.long q1), .second, .val (.int p2), .val (.long q3), .second, .val (.int p4), .val (.int cnt), .val (.long now), .second, .val (.ref b12), .val (.ref bb_14), .val (.long (if cnt < (2147483647 : Int32) then q1 else (q1 + (1 : Int64)))), .second, .val (.int (if cnt < (2147483647 : Int32) then (cnt + (1 : Int32)) else (0 : Int32))), .val (.long (if (if cnt < (2147483647 : Int32) then q1 else (q1 + (1 : Int64))) < now then now else (if now = (if cnt < (2147483647 : Int32) then q1 else (q1 + (1 : Int64))) then (if (if cnt < (2147483647 : Int32) then (cnt + (1 : Int32)) else (0 : Int32)) < (0 : Int32) then now else (if cnt < (2147483647 : Int32) then q1 else (q1 + (1 : Int64)))) else (if cnt < (2147483647 : Int32) then q1 else (q1 + (1 : Int64)))))), .second, .val (.int (if (if cnt < (2147483647 : Int32) then q1 else (q1 + (1 : Int64))) < now then (0 : Int32) else (if now = (if cnt < (2147483647 : Int32) then q1 else (q1 + (1 : Int64))) then (if (if cnt < (2147483647 : Int32) then (cnt + (1 : Int32)) else (0 : Int32)) < (0 : Int32) then (0 : Int32) else (if cnt < (2147483647 : Int32) then (cnt + (1 : Int32)) else (0 : Int32))) else (if cnt < (2147483647 : Int32) then (cnt + (1 : Int32)) else (0 : Int32)))))] [(.long (own_nm q1 cnt now))])) _
        refine XS.lload X24.here hx rfl (hb hby at_150) rfl ?_
        show Steps p.tables e below (T24.setTop (mkF m 152 #[.val (.long q1), .second, .val (.int p2), .val (.long q3), .second, .val (.int p4), .val (.int cnt), .val (.long now), .second, .val (.ref b12), .val (.ref bb_14), .val (.long (if cnt < (2147483647 : Int32) then q1 else (q1 + (1 : Int64)))), .second, .val (.int (if cnt < (2147483647 : Int32) then (cnt + (1 : Int32)) else (0 : Int32))), .val (.long (if (if cnt < (2147483647 : Int32) then q1 else (q1 + (1 : Int64))) < now then now else (if now = (if cnt < (2147483647 : Int32) then q1 else (q1 + (1 : Int64))) then (if (if cnt < (2147483647 : Int32) then (cnt + (1 : Int32)) else (0 : Int32)) < (0 : Int32) then now else (if cnt < (2147483647 : Int32) then q1 else (q1 + (1 : Int64)))) else (if cnt < (2147483647 : Int32) then q1 else (q1 + (1 : Int64)))))), .second, .val (.int (if (if cnt < (2147483647 : Int32) then q1 else (q1 + (1 : Int64))) < now then (0 : Int32) else (if now = (if cnt < (2147483647 : Int32) then q1 else (q1 + (1 : Int64))) then (if (if cnt < (2147483647 : Int32) then (cnt + (1 : Int32)) else (0 : Int32)) < (0 : Int32) then (0 : Int32) else (if cnt < (2147483647 : Int32) then (cnt + (1 : Int32)) else (0 : Int32))) else (if cnt < (2147483647 : Int32) then (cnt + (1 : Int32)) else (0 : Int32)))))] [(.long (if (if cnt < (2147483647 : Int32) then q1 else (q1 + (1 : Int64))) < now then now else (if now = (if cnt < (2147483647 : Int32) then q1 else (q1 + (1 : Int64))) then (if (if cnt < (2147483647 : Int32) then (cnt + (1 : Int32)) else (0 : Int32)) < (0 : Int32) then now else (if cnt < (2147483647 : Int32) then q1 else (q1 + (1 : Int64)))) else (if cnt < (2147483647 : Int32) then q1 else (q1 + (1 : Int64)))))), (.long (own_nm q1 cnt now))])) _
        refine XS.lcmp X24.here hx rfl (hb hby at_152) rfl ?_
        show Steps p.tables e below (T24.setTop (mkF m 153 #[.val (.long q1), .second, .val (.int p2), .val (.long q3), .second, .val (.int p4), .val (.int cnt), .val (.long now), .second, .val (.ref b12), .val (.ref bb_14), .val (.long (if cnt < (2147483647 : Int32) then q1 else (q1 + (1 : Int64)))), .second, .val (.int (if cnt < (2147483647 : Int32) then (cnt + (1 : Int32)) else (0 : Int32))), .val (.long (if (if cnt < (2147483647 : Int32) then q1 else (q1 + (1 : Int64))) < now then now else (if now = (if cnt < (2147483647 : Int32) then q1 else (q1 + (1 : Int64))) then (if (if cnt < (2147483647 : Int32) then (cnt + (1 : Int32)) else (0 : Int32)) < (0 : Int32) then now else (if cnt < (2147483647 : Int32) then q1 else (q1 + (1 : Int64)))) else (if cnt < (2147483647 : Int32) then q1 else (q1 + (1 : Int64)))))), .second, .val (.int (if (if cnt < (2147483647 : Int32) then q1 else (q1 + (1 : Int64))) < now then (0 : Int32) else (if now = (if cnt < (2147483647 : Int32) then q1 else (q1 + (1 : Int64))) then (if (if cnt < (2147483647 : Int32) then (cnt + (1 : Int32)) else (0 : Int32)) < (0 : Int32) then (0 : Int32) else (if cnt < (2147483647 : Int32) then (cnt + (1 : Int32)) else (0 : Int32))) else (if cnt < (2147483647 : Int32) then (cnt + (1 : Int32)) else (0 : Int32)))))] [(.int (lcmpW (own_nm q1 cnt now) (if (if cnt < (2147483647 : Int32) then q1 else (q1 + (1 : Int64))) < now then now else (if now = (if cnt < (2147483647 : Int32) then q1 else (q1 + (1 : Int64))) then (if (if cnt < (2147483647 : Int32) then (cnt + (1 : Int32)) else (0 : Int32)) < (0 : Int32) then now else (if cnt < (2147483647 : Int32) then q1 else (q1 + (1 : Int64)))) else (if cnt < (2147483647 : Int32) then q1 else (q1 + (1 : Int64)))))))])) _
        refine XS.ifNo X24.here hx rfl (hb hby at_153) rfl ((if0 _ _).trans (teq ((lw_eq _ _).mpr (own_law0 q1 now cnt hcnt (Or.inr hc10)))).2) ?_
        show Steps p.tables e below (T24.setTop (mkF m 156 #[.val (.long q1), .second, .val (.int p2), .val (.long q3), .second, .val (.int p4), .val (.int cnt), .val (.long now), .second, .val (.ref b12), .val (.ref bb_14), .val (.long (if cnt < (2147483647 : Int32) then q1 else (q1 + (1 : Int64)))), .second, .val (.int (if cnt < (2147483647 : Int32) then (cnt + (1 : Int32)) else (0 : Int32))), .val (.long (if (if cnt < (2147483647 : Int32) then q1 else (q1 + (1 : Int64))) < now then now else (if now = (if cnt < (2147483647 : Int32) then q1 else (q1 + (1 : Int64))) then (if (if cnt < (2147483647 : Int32) then (cnt + (1 : Int32)) else (0 : Int32)) < (0 : Int32) then now else (if cnt < (2147483647 : Int32) then q1 else (q1 + (1 : Int64)))) else (if cnt < (2147483647 : Int32) then q1 else (q1 + (1 : Int64)))))), .second, .val (.int (if (if cnt < (2147483647 : Int32) then q1 else (q1 + (1 : Int64))) < now then (0 : Int32) else (if now = (if cnt < (2147483647 : Int32) then q1 else (q1 + (1 : Int64))) then (if (if cnt < (2147483647 : Int32) then (cnt + (1 : Int32)) else (0 : Int32)) < (0 : Int32) then (0 : Int32) else (if cnt < (2147483647 : Int32) then (cnt + (1 : Int32)) else (0 : Int32))) else (if cnt < (2147483647 : Int32) then (cnt + (1 : Int32)) else (0 : Int32)))))] [])) _
        refine XS.aload X24.here hx rfl (hb hby at_156) rfl rfl ?_
        show Steps p.tables e below (T24.setTop (mkF m 158 #[.val (.long q1), .second, .val (.int p2), .val (.long q3), .second, .val (.int p4), .val (.int cnt), .val (.long now), .second, .val (.ref b12), .val (.ref bb_14), .val (.long (if cnt < (2147483647 : Int32) then q1 else (q1 + (1 : Int64)))), .second, .val (.int (if cnt < (2147483647 : Int32) then (cnt + (1 : Int32)) else (0 : Int32))), .val (.long (if (if cnt < (2147483647 : Int32) then q1 else (q1 + (1 : Int64))) < now then now else (if now = (if cnt < (2147483647 : Int32) then q1 else (q1 + (1 : Int64))) then (if (if cnt < (2147483647 : Int32) then (cnt + (1 : Int32)) else (0 : Int32)) < (0 : Int32) then now else (if cnt < (2147483647 : Int32) then q1 else (q1 + (1 : Int64)))) else (if cnt < (2147483647 : Int32) then q1 else (q1 + (1 : Int64)))))), .second, .val (.int (if (if cnt < (2147483647 : Int32) then q1 else (q1 + (1 : Int64))) < now then (0 : Int32) else (if now = (if cnt < (2147483647 : Int32) then q1 else (q1 + (1 : Int64))) then (if (if cnt < (2147483647 : Int32) then (cnt + (1 : Int32)) else (0 : Int32)) < (0 : Int32) then (0 : Int32) else (if cnt < (2147483647 : Int32) then (cnt + (1 : Int32)) else (0 : Int32))) else (if cnt < (2147483647 : Int32) then (cnt + (1 : Int32)) else (0 : Int32)))))] [(.ref bb_14)])) _
        refine st25.trans ?_
        show Steps p.tables e below (T25.setTop (mkF m 161 #[.val (.long q1), .second, .val (.int p2), .val (.long q3), .second, .val (.int p4), .val (.int cnt), .val (.long now), .second, .val (.ref b12), .val (.ref bb_14), .val (.long (if cnt < (2147483647 : Int32) then q1 else (q1 + (1 : Int64)))), .second, .val (.int (if cnt < (2147483647 : Int32) then (cnt + (1 : Int32)) else (0 : Int32))), .val (.long (if (if cnt < (2147483647 : Int32) then q1 else (q1 + (1 : Int64))) < now then now else (if now = (if cnt < (2147483647 : Int32) then q1 else (q1 + (1 : Int64))) then (if (if cnt < (2147483647 : Int32) then (cnt + (1 : Int32)) else (0 : Int32)) < (0 : Int32) then now else (if cnt < (2147483647 : Int32) then q1 else (q1 + (1 : Int64)))) else (if cnt < (2147483647 : Int32) then q1 else (q1 + (1 : Int64)))))), .second, .val (.int (if (if cnt < (2147483647 : Int32) then q1 else (q1 + (1 : Int64))) < now then (0 : Int32) else (if now = (if cnt < (2147483647 : Int32) then q1 else (q1 + (1 : Int64))) then (if (if cnt < (2147483647 : Int32) then (cnt + (1 : Int32)) else (0 : Int32)) < (0 : Int32) then (0 : Int32) else (if cnt < (2147483647 : Int32) then (cnt + (1 : Int32)) else (0 : Int32))) else (if cnt < (2147483647 : Int32) then (cnt + (1 : Int32)) else (0 : Int32)))))] [(.int (own_nc q1 cnt now))])) _
        refine XS.iload X25.here hx rfl (hb hby at_161) rfl ?_
        show Steps p.tables e below (T25.setTop (mkF m 163 #[.val (.long q1), .second, .val (.int p2), .val (.long q3), .second, .val (.int p4), .val (.int cnt), .val (.long now), .second, .val (.ref b12), .val (.ref bb_14), .val (.long (if cnt < (2147483647 : Int32) then q1 else (q1 + (1 : Int64)))), .second, .val (.int (if cnt < (2147483647 : Int32) then (cnt + (1 : Int32)) else (0 : Int32))), .val (.long (if (if cnt < (2147483647 : Int32) then q1 else (q1 + (1 : Int64))) < now then now else (if now = (if cnt < (2147483647 : Int32) then q1 else (q1 + (1 : Int64))) then (if (if cnt < (2147483647 : Int32) then (cnt + (1 : Int32)) else (0 : Int32)) < (0 : Int32) then now else (if cnt < (2147483647 : Int32) then q1 else (q1 + (1 : Int64)))) else (if cnt < (2147483647 : Int32) then q1 else (q1 + (1 : Int64)))))), .second, .val (.int (if (if cnt < (2147483647 : Int32) then q1 else (q1 + (1 : Int64))) < now then (0 : Int32) else (if now = (if cnt < (2147483647 : Int32) then q1 else (q1 + (1 : Int64))) then (if (if cnt < (2147483647 : Int32) then (cnt + (1 : Int32)) else (0 : Int32)) < (0 : Int32) then (0 : Int32) else (if cnt < (2147483647 : Int32) then (cnt + (1 : Int32)) else (0 : Int32))) else (if cnt < (2147483647 : Int32) then (cnt + (1 : Int32)) else (0 : Int32)))))] [(.int (if (if cnt < (2147483647 : Int32) then q1 else (q1 + (1 : Int64))) < now then (0 : Int32) else (if now = (if cnt < (2147483647 : Int32) then q1 else (q1 + (1 : Int64))) then (if (if cnt < (2147483647 : Int32) then (cnt + (1 : Int32)) else (0 : Int32)) < (0 : Int32) then (0 : Int32) else (if cnt < (2147483647 : Int32) then (cnt + (1 : Int32)) else (0 : Int32))) else (if cnt < (2147483647 : Int32) then (cnt + (1 : Int32)) else (0 : Int32))))), (.int (own_nc q1 cnt now))])) _
        refine XS.icmpNo X25.here hx rfl (hb hby at_163) rfl (teq (own_law1 q1 now cnt hcnt (Or.inr hc10))).2 ?_
        show Steps p.tables e below (T25.setTop (mkF m 166 #[.val (.long q1), .second, .val (.int p2), .val (.long q3), .second, .val (.int p4), .val (.int cnt), .val (.long now), .second, .val (.ref b12), .val (.ref bb_14), .val (.long (if cnt < (2147483647 : Int32) then q1 else (q1 + (1 : Int64)))), .second, .val (.int (if cnt < (2147483647 : Int32) then (cnt + (1 : Int32)) else (0 : Int32))), .val (.long (if (if cnt < (2147483647 : Int32) then q1 else (q1 + (1 : Int64))) < now then now else (if now = (if cnt < (2147483647 : Int32) then q1 else (q1 + (1 : Int64))) then (if (if cnt < (2147483647 : Int32) then (cnt + (1 : Int32)) else (0 : Int32)) < (0 : Int32) then now else (if cnt < (2147483647 : Int32) then q1 else (q1 + (1 : Int64)))) else (if cnt < (2147483647 : Int32) then q1 else (q1 + (1 : Int64)))))), .second, .val (.int (if (if cnt < (2147483647 : Int32) then q1 else (q1 + (1 : Int64))) < now then (0 : Int32) else (if now = (if cnt < (2147483647 : Int32) then q1 else (q1 + (1 : Int64))) then (if (if cnt < (2147483647 : Int32) then (cnt + (1 : Int32)) else (0 : Int32)) < (0 : Int32) then (0 : Int32) else (if cnt < (2147483647 : Int32) then (cnt + (1 : Int32)) else (0 : Int32))) else (if cnt < (2147483647 : Int32) then (cnt + (1 : Int32)) else (0 : Int32)))))] [])) _
        refine XS.aload X25.here hx rfl (hb hby at_166) rfl rfl ?_
        show Steps p.tables e below (T25.setTop (mkF m 168 #[.val (.long q1), .second, .val (.int p2), .val (.long q3), .second, .val (.int p4), .val (.int cnt), .val (.long now), .second, .val (.ref b12), .val (.ref bb_14), .val (.long (if cnt < (2147483647 : Int32) then q1 else (q1 + (1 : Int64)))), .second, .val (.int (if cnt < (2147483647 : Int32) then (cnt + (1 : Int32)) else (0 : Int32))), .val (.long (if (if cnt < (2147483647 : Int32) then q1 else (q1 + (1 : Int64))) < now then now else (if now = (if cnt < (2147483647 : Int32) then q1 else (q1 + (1 : Int64))) then (if (if cnt < (2147483647 : Int32) then (cnt + (1 : Int32)) else (0 : Int32)) < (0 : Int32) then now else (if cnt < (2147483647 : Int32) then q1 else (q1 + (1 : Int64)))) else (if cnt < (2147483647 : Int32) then q1 else (q1 + (1 : Int64)))))), .second, .val (.int (if (if cnt < (2147483647 : Int32) then q1 else (q1 + (1 : Int64))) < now then (0 : Int32) else (if now = (if cnt < (2147483647 : Int32) then q1 else (q1 + (1 : Int64))) then (if (if cnt < (2147483647 : Int32) then (cnt + (1 : Int32)) else (0 : Int32)) < (0 : Int32) then (0 : Int32) else (if cnt < (2147483647 : Int32) then (cnt + (1 : Int32)) else (0 : Int32))) else (if cnt < (2147483647 : Int32) then (cnt + (1 : Int32)) else (0 : Int32)))))] [(.ref b12)])) _
        refine st26.trans ?_
        show Steps p.tables e below (T26.setTop (mkF m 171 #[.val (.long q1), .second, .val (.int p2), .val (.long q3), .second, .val (.int p4), .val (.int cnt), .val (.long now), .second, .val (.ref b12), .val (.ref bb_14), .val (.long (if cnt < (2147483647 : Int32) then q1 else (q1 + (1 : Int64)))), .second, .val (.int (if cnt < (2147483647 : Int32) then (cnt + (1 : Int32)) else (0 : Int32))), .val (.long (if (if cnt < (2147483647 : Int32) then q1 else (q1 + (1 : Int64))) < now then now else (if now = (if cnt < (2147483647 : Int32) then q1 else (q1 + (1 : Int64))) then (if (if cnt < (2147483647 : Int32) then (cnt + (1 : Int32)) else (0 : Int32)) < (0 : Int32) then now else (if cnt < (2147483647 : Int32) then q1 else (q1 + (1 : Int64)))) else (if cnt < (2147483647 : Int32) then q1 else (q1 + (1 : Int64)))))), .second, .val (.int (if (if cnt < (2147483647 : Int32) then q1 else (q1 + (1 : Int64))) < now then (0 : Int32) else (if now = (if cnt < (2147483647 : Int32) then q1 else (q1 + (1 : Int64))) then (if (if cnt < (2147483647 : Int32) then (cnt + (1 : Int32)) else (0 : Int32)) < (0 : Int32) then (0 : Int32) else (if cnt < (2147483647 : Int32) then (cnt + (1 : Int32)) else (0 : Int32))) else (if cnt < (2147483647 : Int32) then (cnt + (1 : Int32)) else (0 : Int32)))))] [(.long q1)])) _
        refine XS.lloadN X26.here hx rfl (hb hby at_171) rfl ?_
        show Steps p.tables e below (T26.setTop (mkF m 172 #[.val (.long q1), .second, .val (.int p2), .val (.long q3), .second, .val (.int p4), .val (.int cnt), .val (.long now), .second, .val (.ref b12), .val (.ref bb_14), .val (.long (if cnt < (2147483647 : Int32) then q1 else (q1 + (1 : Int64)))), .second, .val (.int (if cnt < (2147483647 : Int32) then (cnt + (1 : Int32)) else (0 : Int32))), .val (.long (if (if cnt < (2147483647 : Int32) then q1 else (q1 + (1 : Int64))) < now then now else (if now = (if cnt < (2147483647 : Int32) then q1 else (q1 + (1 : Int64))) then (if (if cnt < (2147483647 : Int32) then (cnt + (1 : Int32)) else (0 : Int32)) < (0 : Int32) then now else (if cnt < (2147483647 : Int32) then q1 else (q1 + (1 : Int64)))) else (if cnt < (2147483647 : Int32) then q1 else (q1 + (1 : Int64)))))), .second, .val (.int (if (if cnt < (2147483647 : Int32) then q1 else (q1 + (1 : Int64))) < now then (0 : Int32) else (if now = (if cnt < (2147483647 : Int32) then q1 else (q1 + (1 : Int64))) then (if (if cnt < (2147483647 : Int32) then (cnt + (1 : Int32)) else (0 : Int32)) < (0 : Int32) then (0 : Int32) else (if cnt < (2147483647 : Int32) then (cnt + (1 : Int32)) else (0 : Int32))) else (if cnt < (2147483647 : Int32) then (cnt + (1 : Int32)) else (0 : Int32)))))] [(.long q1), (.long q1)])) _
        refine XS.lcmp X26.here hx rfl (hb hby at_172) rfl ?_
        show Steps p.tables e below (T26.setTop (mkF m 173 #[.val (.long q1), .second, .val (.int p2), .val (.long q3), .second, .val (.int p4), .val (.int cnt), .val (.long now), .second, .val (.ref b12), .val (.ref bb_14), .val (.long (if cnt < (2147483647 : Int32) then q1 else (q1 + (1 : Int64)))), .second, .val (.int (if cnt < (2147483647 : Int32) then (cnt + (1 : Int32)) else (0 : Int32))), .val (.long (if (if cnt < (2147483647 : Int32) then q1 else (q1 + (1 : Int64))) < now then now else (if now = (if cnt < (2147483647 : Int32) then q1 else (q1 + (1 : Int64))) then (if (if cnt < (2147483647 : Int32) then (cnt + (1 : Int32)) else (0 : Int32)) < (0 : Int32) then now else (if cnt < (2147483647 : Int32) then q1 else (q1 + (1 : Int64)))) else (if cnt < (2147483647 : Int32) then q1 else (q1 + (1 : Int64)))))), .second, .val (.int (if (if cnt < (2147483647 : Int32) then q1 else (q1 + (1 : Int64))) < now then (0 : Int32) else (if now = (if cnt < (2147483647 : Int32) then q1 else (q1 + (1 : Int64))) then (if (if cnt < (2147483647 : Int32) then (cnt + (1 : Int32)) else (0 : Int32)) < (0 : Int32) then (0 : Int32) else (if cnt < (2147483647 : Int32) then (cnt + (1 : Int32)) else (0 : Int32))) else (if cnt < (2147483647 : Int32) then (cnt + (1 : Int32)) else (0 : Int32)))))] [(.int (lcmpW q1 q1))])) _
        refine XS.ifNo X26.here hx rfl (hb hby at_173) rfl ((if0 _ _).trans (teq ((lw_eq _ _).mpr rfl)).2) ?_
        show Steps p.tables e below (T26.setTop (mkF m 176 #[.val (.long q1), .second, .val (.int p2), .val (.long q3), .second, .val (.int p4), .val (.int cnt), .val (.long now), .second, .val (.ref b12), .val (.ref bb_14), .val (.long (if cnt < (2147483647 : Int32) then q1 else (q1 + (1 : Int64)))), .second, .val (.int (if cnt < (2147483647 : Int32) then (cnt + (1 : Int32)) else (0 : Int32))), .val (.long (if (if cnt < (2147483647 : Int32) then q1 else (q1 + (1 : Int64))) < now then now else (if now = (if cnt < (2147483647 : Int32) then q1 else (q1 + (1 : Int64))) then (if (if cnt < (2147483647 : Int32) then (cnt + (1 : Int32)) else (0 : Int32)) < (0 : Int32) then now else (if cnt < (2147483647 : Int32) then q1 else (q1 + (1 : Int64)))) else (if cnt < (2147483647 : Int32) then q1 else (q1 + (1 : Int64)))))), .second, .val (.int (if (if cnt < (2147483647 : Int32) then q1 else (q1 + (1 : Int64))) < now then (0 : Int32) else (if now = (if cnt < (2147483647 : Int32) then q1 else (q1 + (1 : Int64))) then (if (if cnt < (2147483647 : Int32) then (cnt + (1 : Int32)) else (0 : Int32)) < (0 : Int32) then (0 : Int32) else (if cnt < (2147483647 : Int32) then (cnt + (1 : Int32)) else (0 : Int32))) else (if cnt < (2147483647 : Int32) then (cnt + (1 : Int32)) else (0 : Int32)))))] [])) _
        refine XS.aload X26.here hx rfl (hb hby at_176) rfl rfl ?_
        show Steps p.tables e below (T26.setTop (mkF m 178 #[.val (.long q1), .second, .val (.int p2), .val (.long q3), .second, .val (.int p4), .val (.int cnt), .val (.long now), .second, .val (.ref b12), .val (.ref bb_14), .val (.long (if cnt < (2147483647 : Int32) then q1 else (q1 + (1 : Int64)))), .second, .val (.int (if cnt < (2147483647 : Int32) then (cnt + (1 : Int32)) else (0 : Int32))), .val (.long (if (if cnt < (2147483647 : Int32) then q1 else (q1 + (1 : Int64))) < now then now else (if now = (if cnt < (2147483647 : Int32) then q1 else (q1 + (1 : Int64))) then (if (if cnt < (2147483647 : Int32) then (cnt + (1 : Int32)) else (0 : Int32)) < (0 : Int32) then now else (if cnt < (2147483647 : Int32) then q1 else (q1 + (1 : Int64)))) else (if cnt < (2147483647 : Int32) then q1 else (q1 + (1 : Int64)))))), .second, .val (.int (if (if cnt < (2147483647 : Int32) then q1 else (q1 + (1 : Int64))) < now then (0 : Int32) else (if now = (if cnt < (2147483647 : Int32) then q1 else (q1 + (1 : Int64))) then (if (if cnt < (2147483647 : Int32) then (cnt + (1 : Int32)) else (0 : Int32)) < (0 : Int32) then (0 : Int32) else (if cnt < (2147483647 : Int32) then (cnt + (1 : Int32)) else (0 : Int32))) else (if cnt < (2147483647 : Int32) then (cnt + (1 : Int32)) else (0 : Int32)))))] [(.ref b12)])) _
        refine st29.trans ?_
        show Steps p.tables e below (T29.setTop (mkF m 181 #[.val (.long q1), .second, .val (.int p2), .val (.long q3), .second, .val (.int p4), .val (.int cnt), .val (.long now), .second, .val (.ref b12), .val (.ref bb_14), .val (.long (if cnt < (2147483647 : Int32) then q1 else (q1 + (1 : Int64)))), .second, .val (.int (if cnt < (2147483647 : Int32) then (cnt + (1 : Int32)) else (0 : Int32))), .val (.long (if (if cnt < (2147483647 : Int32) then q1 else (q1 + (1 : Int64))) < now then now else (if now = (if cnt < (2147483647 : Int32) then q1 else (q1 + (1 : Int64))) then (if (if cnt < (2147483647 : Int32) then (cnt + (1 : Int32)) else (0 : Int32)) < (0 : Int32) then now else (if cnt < (2147483647 : Int32) then q1 else (q1 + (1 : Int64)))) else (if cnt < (2147483647 : Int32) then q1 else (q1 + (1 : Int64)))))), .second, .val (.int (if (if cnt < (2147483647 : Int32) then q1 else (q1 + (1 : Int64))) < now then (0 : Int32) else (if now = (if cnt < (2147483647 : Int32) then q1 else (q1 + (1 : Int64))) then (if (if cnt < (2147483647 : Int32) then (cnt + (1 : Int32)) else (0 : Int32)) < (0 : Int32) then (0 : Int32) else (if cnt < (2147483647 : Int32) then (cnt + (1 : Int32)) else (0 : Int32))) else (if cnt < (2147483647 : Int32) then (cnt + (1 : Int32)) else (0 : Int32)))))] [(.int cnt)])) _
        refine XS.iload X29.here hx rfl (hb hby at_181) rfl ?_
        show Steps p.tables e below (T29.setTop (mkF m 183 #[.val (.long q1), .second, .val (.int p2), .val (.long q3), .second, .val (.int p4), .val (.int cnt), .val (.long now), .second, .val (.ref b12), .val (.ref bb_14), .val (.long (if cnt < (2147483647 : Int32) then q1 else (q1 + (1 : Int64)))), .second, .val (.int (if cnt < (2147483647 : Int32) then (cnt + (1 : Int32)) else (0 : Int32))), .val (.long (if (if cnt < (2147483647 : Int32) then q1 else (q1 + (1 : Int64))) < now then now else (if now = (if cnt < (2147483647 : Int32) then q1 else (q1 + (1 : Int64))) then (if (if cnt < (2147483647 : Int32) then (cnt + (1 : Int32)) else (0 : Int32)) < (0 : Int32) then now else (if cnt < (2147483647 : Int32) then q1 else (q1 + (1 : Int64)))) else (if cnt < (2147483647 : Int32) then q1 else (q1 + (1 : Int64)))))), .second, .val (.int (if (if cnt < (2147483647 : Int32) then q1 else (q1 + (1 : Int64))) < now then (0 : Int32) else (if now = (if cnt < (2147483647 : Int32) then q1 else (q1 + (1 : Int64))) then (if (if cnt < (2147483647 : Int32) then (cnt + (1 : Int32)) else (0 : Int32)) < (0 : Int32) then (0 : Int32) else (if cnt < (2147483647 : Int32) then (cnt + (1 : Int32)) else (0 : Int32))) else (if cnt < (2147483647 : Int32) then (cnt + (1 : Int32)) else (0 : Int32)))))] [(.int cnt), (.int cnt)])) _
        refine XS.icmpNo X29.here hx rfl (hb hby at_183) rfl (teq rfl).2 ?_
        show Steps p.tables e below (T29.setTop (mkF m 186 #[.val (.long q1), .second, .val (.int p2), .val (.long q3), .second, .val (.int p4), .val (.int cnt), .val (.long now), .second, .val (.ref b12), .val (.ref bb_14), .val (.long (if cnt < (2147483647 : Int32) then q1 else (q1 + (1 : Int64)))), .second, .val (.int (if cnt < (2147483647 : Int32) then (cnt + (1 : Int32)) else (0 : Int32))), .val (.long (if (if cnt < (2147483647 : Int32) then q1 else (q1 + (1 : Int64))) < now then now else (if now = (if cnt < (2147483647 : Int32) then q1 else (q1 + (1 : Int64))) then (if (if cnt < (2147483647 : Int32) then (cnt + (1 : Int32)) else (0 : Int32)) < (0 : Int32) then now else (if cnt < (2147483647 : Int32) then q1 else (q1 + (1 : Int64)))) else (if cnt < (2147483647 : Int32) then q1 else (q1 + (1 : Int64)))))), .second, .val (.int (if (if cnt < (2147483647 : Int32) then q1 else (q1 + (1 : Int64))) < now then (0 : Int32) else (if now = (if cnt < (2147483647 : Int32) then q1 else (q1 + (1 : Int64))) then (if (if cnt < (2147483647 : Int32) then (cnt + (1 : Int32)) else (0 : Int32)) < (0 : Int32) then (0 : Int32) else (if cnt < (2147483647 : Int32) then (cnt + (1 : Int32)) else (0 : Int32))) else (if cnt < (2147483647 : Int32) then (cnt + (1 : Int32)) else (0 : Int32)))))] [])) _
        refine XS.iconst X29.here hx rfl (hb hby at_186) ?_
        show Steps p.tables e below (T29.setTop (mkF m 187 #[.val (.long q1), .second, .val (.int p2), .val (.long q3), .second, .val (.int p4), .val (.int cnt), .val (.long now), .second, .val (.ref b12), .val (.ref bb_14), .val (.long (if cnt < (2147483647 : Int32) then q1 else (q1 + (1 : Int64)))), .second, .val (.int (if cnt < (2147483647 : Int32) then (cnt + (1 : Int32)) else (0 : Int32))), .val (.long (if (if cnt < (2147483647 : Int32) then q1 else (q1 + (1 : Int64))) < now then now else (if now = (if cnt < (2147483647 : Int32) then q1 else (q1 + (1 : Int64))) then (if (if cnt < (2147483647 : Int32) then (cnt + (1 : Int32)) else (0 : Int32)) < (0 : Int32) then now else (if cnt < (2147483647 : Int32) then q1 else (q1 + (1 : Int64)))) else (if cnt < (2147483647 : Int32) then q1 else (q1 + (1 : Int64)))))), .second, .val (.int (if (if cnt < (2147483647 : Int32) then q1 else (q1 + (1 : Int64))) < now then (0 : Int32) else (if now = (if cnt < (2147483647 : Int32) then q1 else (q1 + (1 : Int64))) then (if (if cnt < (2147483647 : Int32) then (cnt + (1 : Int32)) else (0 : Int32)) < (0 : Int32) then (0 : Int32) else (if cnt < (2147483647 : Int32) then (cnt + (1 : Int32)) else (0 : Int32))) else (if cnt < (2147483647 : Int32) then (cnt + (1 : Int32)) else (0 : Int32)))))] [(.int (1 : Int32))])) _
        refine XS.goto X29.here hx rfl (pc0 := 187) (pc' := 191) rfl (hb hby at_187) (by decide) (by decide) ?_
        show Steps p.tables e below (T29.setTop (mkF m 191 #[.val (.long q1), .second, .val (.int p2), .val (.long q3), .second, .val (.int p4), .val (.int cnt), .val (.long now), .second, .val (.ref b12), .val (.ref bb_14), .val (.long (if cnt < (2147483647 : Int32) then q1 else (q1 + (1 : Int64)))), .second, .val (.int (if cnt < (2147483647 : Int32) then (cnt + (1 : Int32)) else (0 : Int32))), .val (.long (if (if cnt < (2147483647 : Int32) then q1 else (q1 + (1 : Int64))) < now then now else (if now = (if cnt < (2147483647 : Int32) then q1 else (q1 + (1 : Int64))) then (if (if cnt < (2147483647 : Int32) then (cnt + (1 : Int32)) else (0 : Int32)) < (0 : Int32) then now else (if cnt < (2147483647 : Int32) then q1 else (q1 + (1 : Int64)))) else (if cnt < (2147483647 : Int32) then q1 else (q1 + (1 : Int64)))))), .second, .val (.int (if (if cnt < (2147483647 : Int32) then q1 else (q1 + (1 : Int64))) < now then (0 : Int32) else (if now = (if cnt < (2147483647 : Int32) then q1 else (q1 + (1 : Int64))) then (if (if cnt < (2147483647 : Int32) then (cnt + (1 : Int32)) else (0 : Int32)) < (0 : Int32) then (0 : Int32) else (if cnt < (2147483647 : Int32) then (cnt + (1 : Int32)) else (0 : Int32))) else (if cnt < (2147483647 : Int32) then (cnt + (1 : Int32)) else (0 : Int32)))))] [(.int (1 : Int32))])) _
        exact retN X29 hx (t := .boolean) Bd.returns (by simp) (hb hby at_191) hr
      · show Q_rm0 Z q1 p2 q3 p4 h0 n0 _ T29.heap _
        rw [e29]
        exact ⟨rfl, N29, K14⟩
  · skip
    obtain ⟨T32, h32, X32, e32, E32, A32, D32, -, st32⟩ := newO X0 hx hZ hown (kw2 hw) (kw3 hw) (kw4 hw) e0 (g := (mkF m 57 #[.val (.long q1), .second, .val (.int p2), .val (.long q3), .second, .val (.int p4), .val (.int cnt), .val (.long now), .second, .unset, .unset, .unset, .unset, .unset, .unset, .unset, .unset] [])) rfl (hb hby at_57) (by decide) (by decide)
    obtain ⟨b32, g32⟩ : ∃ z, z = h0.size := ⟨_, rfl⟩
    rw [← g32] at A32 D32 st32
    have g_b32 : n0 ≤ b32 := Nat.le_trans Z0 (Nat.le_of_eq g32.symm)
    have sz_b32 : h0.size ≤ b32 := Nat.le_trans KR.1 (Nat.le_of_eq g32.symm)
    have Z32 : n0 ≤ h32.size := Nat.le_trans Z0 E32.1
    have K32 : Keep h0 h32 [] := KR.ext E32
    have F32_millis : Fld Z h32 b32 "com/example/tidemark/tidemark/store/Stamp" "millis" "J" (.long (0 : Int64)) := D32 (Or.inr (kw17 hw)) (ty := .long) (by decide)
    have F32_counter : Fld Z h32 b32 "com/example/tidemark/tidemark/store/Stamp" "counter" "I" (.int (0 : Int32)) := D32 (Or.inr (kw19 hw)) (ty := .int) (by decide)
    obtain ⟨_, _, ⟨T33, L33, k33, n33⟩, -, X33, ⟨Lc33, hQ33, l33, y33, z33⟩, st33⟩ := X32.specialBack hx (y := (⟨"com/example/tidemark/tidemark/store/Stamp", "<init>", "(JI)V"⟩ : MethodName)) rfl hown (mvT hZ (kw5 hw)) (mvT hZ (kw6 hw)) (mvT hZ (kw7 hw)) (by decide) (backOf (W := 1) (rm1 l Z a0 hw [] b32 q1 cnt h32 n0 Z32 A32 F32_millis F32_counter g_b32) hZ (kw7 hw) (kw4 hw) (by decide) (by decide)) (g := (mkF m 64 #[.val (.long q1), .second, .val (.int p2), .val (.long q3), .second, .val (.int p4), .val (.int cnt), .val (.long now), .second, .unset, .unset, .unset, .unset, .unset, .unset, .unset, .unset] [(.int cnt), (.long q1), (.ref b32), (.ref b32)])) rfl (by rw [hml]; rfl) (Steps.refl _) (a := b32) (argsL := [(.long q1), (.int cnt)]) (rest := [(.ref b32)]) (lenOf pd_1 rfl) rfl (by show 2 * 0 + _ ≤ _; exact Nat.le_of_eq rfl) (hb hby at_64) (fun _ _ => ⟨rfl, e32, (by decide : 1 + 0 ≤ _), (by decide : 2 + 0 ≤ _)⟩)
    dsimp only [Pt.U, Pt.locs, Pt.cells, Pt.slots] at X33 l33 y33 z33 st33 hQ33
    subst l33 y33 z33
    obtain ⟨rfl, N33q, Kq33, p33_0, p33_1⟩ := hQ33
    have N33 := Fr.app N0 N33q
    have Z33 : n0 ≤ T33.heap.size := Nat.le_trans Z32 Kq33.1
    have K33 : Keep h0 T33.heap [] := K32.trans Kq33 (allS (Or.inr sz_b32) all0)
    have f35 : Exa Z T33.heap b32 "com/example/tidemark/tidemark/store/Stamp" := (A32.keep Kq33)
    obtain ⟨cq34, kq34, q34a, q34b, q34c⟩ := isOf hZ rfl f35
    obtain ⟨_, _, ⟨T34, L34, k34, n34⟩, -, X34, ⟨Lc34, hQ34, l34, y34, z34⟩, st34⟩ := X33.virtualBack hx (y := (⟨"com/example/tidemark/tidemark/store/Stamp", "next", "(J)Lcom/example/tidemark/tidemark/store/Stamp;"⟩ : MethodName)) (z := (⟨"com/example/tidemark/tidemark/store/Stamp", "next", "(J)Lcom/example/tidemark/tidemark/store/Stamp;"⟩ : MethodName)) hown (mvT hZ (kw20 hw)) (mvT hZ (kw21 hw)) (notFace_of_selects (args := #[]) (mvT hZ (kw23 hw))) (mvT hZ (kw23 hw)) (mvT hZ (kw22 hw)) (by decide) (backOf (W := 0) (rm4 l Z a0 hw [] b32 now q1 cnt T33.heap n0 Z33 p33_0 p33_1) hZ (kw24 hw) (kw4 hw) (by decide) (by decide)) q34a q34c (g := (mkF m 73 #[.val (.long q1), .second, .val (.int p2), .val (.long q3), .second, .val (.int p4), .val (.int cnt), .val (.long now), .second, .val (.ref b32), .unset, .unset, .unset, .unset, .unset, .unset, .unset] [(.long now), (.ref b32)])) rfl (by rw [hml]; rfl) (Steps.refl _) (argsL := [(.long now)]) (rest := []) (lenOf pd_2 rfl) rfl (by show 2 * 0 + _ ≤ _; exact Nat.le_of_eq rfl) (hb hby at_73) (fun _ _ => ⟨rfl, rfl, (by decide : 1 + 1 ≤ _), (by decide : 2 + 2 ≤ _)⟩)
    dsimp only [Pt.U, Pt.locs, Pt.cells, Pt.slots] at X34 l34 y34 z34 st34 hQ34
    subst l34 y34 z34
    obtain ⟨bb_34, rfl, N34q, Kq34, p34_0, p34_1, p34_2, p34_3, p34_4⟩ := hQ34
    have N34 := Fr.app N33 N34q
    have Z34 : n0 ≤ T34.heap.size := Nat.le_trans Z33 Kq34.1
    have K34 : Keep h0 T34.heap [] := K33.trans Kq34 all0
    have sz_bb_34 : h0.size ≤ bb_34 := Nat.le_trans K33.1 p34_1
    have ne34_b32_bb_34 : b32 ≠ bb_34 := Nat.ne_of_lt (Nat.lt_of_lt_of_le f35.lt p34_1)
    have pre36 : ∀ t, Steps p.tables e below (T34.setTop (mkF m 82 #[.val (.long q1), .second, .val (.int p2), .val (.long q3), .second, .val (.int p4), .val (.int cnt), .val (.long now), .second, .val (.ref b32), .val (.ref bb_34), .unset, .unset, .unset, .unset, .unset, .unset] [(.int (2147483647 : Int32)), (.int cnt)])) t → Steps p.tables e below (s₁.setTop (entryFrame m #[(.long q1), (.int p2), (.long q3), (.int p4)] maxLocals)) t := fun t k => pre7 t (by
      refine XS.ifYes X0.here hx rfl (pc0 := 45) (pc' := 57) rfl (hb hby at_45) rfl ((if0 _ _).trans (feq (fun q => hc8 ((lw_eq _ _).mp q))).2) (by decide) (by decide) ?_
      show Steps p.tables e below (s₁.setTop (mkF m 57 #[.val (.long q1), .second, .val (.int p2), .val (.long q3), .second, .val (.int p4), .val (.int cnt), .val (.long now), .second, .unset, .unset, .unset, .unset, .unset, .unset, .unset, .unset] [])) _
      refine st32 _ ?_
      show Steps p.tables e below (T32.setTop (mkF m 60 #[.val (.long q1), .second, .val (.int p2), .val (.long q3), .second, .val (.int p4), .val (.int cnt), .val (.long now), .second, .unset, .unset, .unset, .unset, .unset, .unset, .unset, .unset] [(.ref b32)])) _
      refine XS.dup X32.here hx rfl (hb hby at_60) rfl rfl ?_
      show Steps p.tables e below (T32.setTop (mkF m 61 #[.val (.long q1), .second, .val (.int p2), .val (.long q3), .second, .val (.int p4), .val (.int cnt), .val (.long now), .second, .unset, .unset, .unset, .unset, .unset, .unset, .unset, .unset] [(.ref b32), (.ref b32)])) _
      refine XS.lloadN X32.here hx rfl (hb hby at_61) rfl ?_
      show Steps p.tables e below (T32.setTop (mkF m 62 #[.val (.long q1), .second, .val (.int p2), .val (.long q3), .second, .val (.int p4), .val (.int cnt), .val (.long now), .second, .unset, .unset, .unset, .unset, .unset, .unset, .unset, .unset] [(.long q1), (.ref b32), (.ref b32)])) _
      refine XS.iload X32.here hx rfl (hb hby at_62) rfl ?_
      show Steps p.tables e below (T32.setTop (mkF m 64 #[.val (.long q1), .second, .val (.int p2), .val (.long q3), .second, .val (.int p4), .val (.int cnt), .val (.long now), .second, .unset, .unset, .unset, .unset, .unset, .unset, .unset, .unset] [(.int cnt), (.long q1), (.ref b32), (.ref b32)])) _
      refine st33.trans ?_
      show Steps p.tables e below (T33.setTop (mkF m 67 #[.val (.long q1), .second, .val (.int p2), .val (.long q3), .second, .val (.int p4), .val (.int cnt), .val (.long now), .second, .unset, .unset, .unset, .unset, .unset, .unset, .unset, .unset] [(.ref b32)])) _
      refine XS.astore X33.here hx rfl (hb hby at_67) rfl rfl (l' := #[.val (.long q1), .second, .val (.int p2), .val (.long q3), .second, .val (.int p4), .val (.int cnt), .val (.long now), .second, .val (.ref b32), .unset, .unset, .unset, .unset, .unset, .unset, .unset]) rfl ?_
      show Steps p.tables e below (T33.setTop (mkF m 69 #[.val (.long q1), .second, .val (.int p2), .val (.long q3), .second, .val (.int p4), .val (.int cnt), .val (.long now), .second, .val (.ref b32), .unset, .unset, .unset, .unset, .unset, .unset, .unset] [])) _
      refine XS.aload X33.here hx rfl (hb hby at_69) rfl rfl ?_
      show Steps p.tables e below (T33.setTop (mkF m 71 #[.val (.long q1), .second, .val (.int p2), .val (.long q3), .second, .val (.int p4), .val (.int cnt), .val (.long now), .second, .val (.ref b32), .unset, .unset, .unset, .unset, .unset, .unset, .unset] [(.ref b32)])) _
      refine XS.lload X33.here hx rfl (hb hby at_71) rfl ?_
      show Steps p.tables e below (T33.setTop (mkF m 73 #[.val (.long q1), .second, .val (.int p2), .val (.long q3), .second, .val (.int p4), .val (.int cnt), .val (.long now), .second, .val (.ref b32), .unset, .unset, .unset, .unset, .unset, .unset, .unset] [(.long now), (.ref b32)])) _
      refine st34.trans ?_
      show Steps p.tables e below (T34.setTop (mkF m 76 #[.val (.long q1), .second, .val (.int p2), .val (.long q3), .second, .val (.int p4), .val (.int cnt), .val (.long now), .second, .val (.ref b32), .unset, .unset, .unset, .unset, .unset, .unset, .unset] [(.ref bb_34)])) _
      refine XS.astore X34.here hx rfl (hb hby at_76) rfl rfl (l' := #[.val (.long q1), .second, .val (.int p2), .val (.long q3), .second, .val (.int p4), .val (.int cnt), .val (.long now), .second, .val (.ref b32), .val (.ref bb_34), .unset, .unset, .unset, .unset, .unset, .unset]) rfl ?_
      show Steps p.tables e below (T34.setTop (mkF m 78 #[.val (.long q1), .second, .val (.int p2), .val (.long q3), .second, .val (.int p4), .val (.int cnt), .val (.long now), .second, .val (.ref b32), .val (.ref bb_34), .unset, .unset, .unset, .unset, .unset, .unset] [])) _
      refine XS.iload X34.here hx rfl (hb hby at_78) rfl ?_
      show Steps p.tables e below (T34.setTop (mkF m 80 #[.val (.long q1), .second, .val (.int p2), .val (.long q3), .second, .val (.int p4), .val (.int cnt), .val (.long now), .second, .val (.ref b32), .val (.ref bb_34), .unset, .unset, .unset, .unset, .unset, .unset] [(.int cnt)])) _
      refine X34.ldcInt hx hown (mvT hZ (kw0 hw)) (g := (mkF m 80 #[.val (.long q1), .second, .val (.int p2), .val (.long q3), .second, .val (.int p4), .val (.int cnt), .val (.long now), .second, .val (.ref b32), .val (.ref bb_34), .unset, .unset, .unset, .unset, .unset, .unset] [(.int cnt)])) rfl (hb hby at_80) _ ?_
      show Steps p.tables e below (T34.setTop (mkF m 82 #[.val (.long q1), .second, .val (.int p2), .val (.long q3), .second, .val (.int p4), .val (.int cnt), .val (.long now), .second, .val (.ref b32), .val (.ref bb_34), .unset, .unset, .unset, .unset, .unset, .unset] [(.int (2147483647 : Int32)), (.int cnt)])) _
      exact k)
    have pre38 : ∀ t, Steps p.tables e below (T34.setTop (mkF m 105 #[.val (.long q1), .second, .val (.int p2), .val (.long q3), .second, .val (.int p4), .val (.int cnt), .val (.long now), .second, .val (.ref b32), .val (.ref bb_34), .val (.long (if cnt < (2147483647 : Int32) then q1 else (q1 + (1 : Int64)))), .second, .val (.int (if cnt < (2147483647 : Int32) then (cnt + (1 : Int32)) else (0 : Int32))), .unset, .unset, .unset] [])) t → Steps p.tables e below (s₁.setTop (entryFrame m #[(.long q1), (.int p2), (.long q3), (.int p4)] maxLocals)) t := fun t k => pre36 t (by
      by_cases hc37 : cnt < (2147483647 : Int32)
      · skip
        refine XS.icmpNo X34.here hx rfl (hb hby at_82) rfl (tlt hc37).2.1 ?_
        show Steps p.tables e below (T34.setTop (mkF m 85 #[.val (.long q1), .second, .val (.int p2), .val (.long q3), .second, .val (.int p4), .val (.int cnt), .val (.long now), .second, .val (.ref b32), .val (.ref bb_34), .unset, .unset, .unset, .unset, .unset, .unset] [])) _
        refine XS.lloadN X34.here hx rfl (hb hby at_85) rfl ?_
        show Steps p.tables e below (T34.setTop (mkF m 86 #[.val (.long q1), .second, .val (.int p2), .val (.long q3), .second, .val (.int p4), .val (.int cnt), .val (.long now), .second, .val (.ref b32), .val (.ref bb_34), .unset, .unset, .unset, .unset, .unset, .unset] [(.long q1)])) _
        refine XS.lstore X34.here hx rfl (hb hby at_86) rfl (l' := #[.val (.long q1), .second, .val (.int p2), .val (.long q3), .second, .val (.int p4), .val (.int cnt), .val (.long now), .second, .val (.ref b32), .val (.ref bb_34), .val (.long q1), .second, .unset, .unset, .unset, .unset]) rfl ?_
        show Steps p.tables e below (T34.setTop (mkF m 88 #[.val (.long q1), .second, .val (.int p2), .val (.long q3), .second, .val (.int p4), .val (.int cnt), .val (.long now), .second, .val (.ref b32), .val (.ref bb_34), .val (.long q1), .second, .unset, .unset, .unset, .unset] [])) _
        refine XS.iload X34.here hx rfl (hb hby at_88) rfl ?_
        show Steps p.tables e below (T34.setTop (mkF m 90 #[.val (.long q1), .second, .val (.int p2), .val (.long q3), .second, .val (.int p4), .val (.int cnt), .val (.long now), .second, .val (.ref b32), .val (.ref bb_34), .val (.long q1), .second, .unset, .unset, .unset, .unset] [(.int cnt)])) _
        refine XS.iconst X34.here hx rfl (hb hby at_90) ?_
        show Steps p.tables e below (T34.setTop (mkF m 91 #[.val (.long q1), .second, .val (.int p2), .val (.long q3), .second, .val (.int p4), .val (.int cnt), .val (.long now), .second, .val (.ref b32), .val (.ref bb_34), .val (.long q1), .second, .unset, .unset, .unset, .unset] [(.int (1 : Int32)), (.int cnt)])) _
        refine XS.iadd X34.here hx rfl (hb hby at_91) rfl ?_
        show Steps p.tables e below (T34.setTop (mkF m 92 #[.val (.long q1), .second, .val (.int p2), .val (.long q3), .second, .val (.int p4), .val (.int cnt), .val (.long now), .second, .val (.ref b32), .val (.ref bb_34), .val (.long q1), .second, .unset, .unset, .unset, .unset] [(.int (cnt + (1 : Int32)))])) _
        refine XS.istore X34.here hx rfl (hb hby at_92) rfl (l' := #[.val (.long q1), .second, .val (.int p2), .val (.long q3), .second, .val (.int p4), .val (.int cnt), .val (.long now), .second, .val (.ref b32), .val (.ref bb_34), .val (.long q1), .second, .val (.int (cnt + (1 : Int32))), .unset, .unset, .unset]) rfl ?_
        show Steps p.tables e below (T34.setTop (mkF m 94 #[.val (.long q1), .second, .val (.int p2), .val (.long q3), .second, .val (.int p4), .val (.int cnt), .val (.long now), .second, .val (.ref b32), .val (.ref bb_34), .val (.long q1), .second, .val (.int (cnt + (1 : Int32))), .unset, .unset, .unset] [])) _
        refine XS.goto X34.here hx rfl (pc0 := 94) (pc' := 105) rfl (hb hby at_94) (by decide) (by decide) ?_
        show Steps p.tables e below (T34.setTop (mkF m 105 #[.val (.long q1), .second, .val (.int p2), .val (.long q3), .second, .val (.int p4), .val (.int cnt), .val (.long now), .second, .val (.ref b32), .val (.ref bb_34), .val (.long q1), .second, .val (.int (cnt + (1 : Int32))), .unset, .unset, .unset] [])) _
        simp only [if_pos hc37] at k; exact k
      · skip
        refine XS.icmpYes X34.here hx rfl (pc0 := 82) (pc' := 97) rfl (hb hby at_82) rfl (flt hc37).2.1 (by decide) (by decide) ?_
        show Steps p.tables e below (T34.setTop (mkF m 97 #[.val (.long q1), .second, .val (.int p2), .val (.long q3), .second, .val (.int p4), .val (.int cnt), .val (.long now), .second, .val (.ref b32), .val (.ref bb_34), .unset, .unset, .unset, .unset, .unset, .unset] [])) _
        refine XS.lloadN X34.here hx rfl (hb hby at_97) rfl ?_
        show Steps p.tables e below (T34.setTop (mkF m 98 #[.val (.long q1), .second, .val (.int p2), .val (.long q3), .second, .val (.int p4), .val (.int cnt), .val (.long now), .second, .val (.ref b32), .val (.ref bb_34), .unset, .unset, .unset, .unset, .unset, .unset] [(.long q1)])) _
        refine XS.lconst X34.here hx rfl (hb hby at_98) ?_
        show Steps p.tables e below (T34.setTop (mkF m 99 #[.val (.long q1), .second, .val (.int p2), .val (.long q3), .second, .val (.int p4), .val (.int cnt), .val (.long now), .second, .val (.ref b32), .val (.ref bb_34), .unset, .unset, .unset, .unset, .unset, .unset] [(.long (1 : Int64)), (.long q1)])) _
        refine XS.ladd X34.here hx rfl (hb hby at_99) rfl ?_
        show Steps p.tables e below (T34.setTop (mkF m 100 #[.val (.long q1), .second, .val (.int p2), .val (.long q3), .second, .val (.int p4), .val (.int cnt), .val (.long now), .second, .val (.ref b32), .val (.ref bb_34), .unset, .unset, .unset, .unset, .unset, .unset] [(.long (q1 + (1 : Int64)))])) _
        refine XS.lstore X34.here hx rfl (hb hby at_100) rfl (l' := #[.val (.long q1), .second, .val (.int p2), .val (.long q3), .second, .val (.int p4), .val (.int cnt), .val (.long now), .second, .val (.ref b32), .val (.ref bb_34), .val (.long (q1 + (1 : Int64))), .second, .unset, .unset, .unset, .unset]) rfl ?_
        show Steps p.tables e below (T34.setTop (mkF m 102 #[.val (.long q1), .second, .val (.int p2), .val (.long q3), .second, .val (.int p4), .val (.int cnt), .val (.long now), .second, .val (.ref b32), .val (.ref bb_34), .val (.long (q1 + (1 : Int64))), .second, .unset, .unset, .unset, .unset] [])) _
        refine XS.iconst X34.here hx rfl (hb hby at_102) ?_
        show Steps p.tables e below (T34.setTop (mkF m 103 #[.val (.long q1), .second, .val (.int p2), .val (.long q3), .second, .val (.int p4), .val (.int cnt), .val (.long now), .second, .val (.ref b32), .val (.ref bb_34), .val (.long (q1 + (1 : Int64))), .second, .unset, .unset, .unset, .unset] [(.int (0 : Int32))])) _
        refine XS.istore X34.here hx rfl (hb hby at_103) rfl (l' := #[.val (.long q1), .second, .val (.int p2), .val (.long q3), .second, .val (.int p4), .val (.int cnt), .val (.long now), .second, .val (.ref b32), .val (.ref bb_34), .val (.long (q1 + (1 : Int64))), .second, .val (.int (0 : Int32)), .unset, .unset, .unset]) rfl ?_
        show Steps p.tables e below (T34.setTop (mkF m 105 #[.val (.long q1), .second, .val (.int p2), .val (.long q3), .second, .val (.int p4), .val (.int cnt), .val (.long now), .second, .val (.ref b32), .val (.ref bb_34), .val (.long (q1 + (1 : Int64))), .second, .val (.int (0 : Int32)), .unset, .unset, .unset] [])) _
        simp only [if_neg hc37] at k; exact k)
    have pre39 : ∀ t, Steps p.tables e below (T34.setTop (mkF m 110 #[.val (.long q1), .second, .val (.int p2), .val (.long q3), .second, .val (.int p4), .val (.int cnt), .val (.long now), .second, .val (.ref b32), .val (.ref bb_34), .val (.long (if cnt < (2147483647 : Int32) then q1 else (q1 + (1 : Int64)))), .second, .val (.int (if cnt < (2147483647 : Int32) then (cnt + (1 : Int32)) else (0 : Int32))), .unset, .unset, .unset] [(.int (lcmpW now (if cnt < (2147483647 : Int32) then q1 else (q1 + (1 : Int64)))))])) t → Steps p.tables e below (s₁.setTop (entryFrame m #[(.long q1), (.int p2), (.long q3), (.int p4)] maxLocals)) t := fun t k => pre38 t (by
      show Steps p.tables e below (T34.setTop (mkF m 105 #[.val (.long q1), .second, .val (.int p2), .val (.long q3), .second, .val (.int p4), .val (.int cnt), .val (.long now), .second, .val (.ref b32), .val (.ref bb_34), .val (.long (if cnt < (2147483647 : Int32) then q1 else (q1 + (1 : Int64)))), .second, .val (.int (if cnt < (2147483647 : Int32) then (cnt + (1 : Int32)) else (0 : Int32))), .unset, .unset, .unset] [])) _
      refine XS.lload X34.here hx rfl (hb hby at_105) rfl ?_
      show Steps p.tables e below (T34.setTop (mkF m 107 #[.val (.long q1), .second, .val (.int p2), .val (.long q3), .second, .val (.int p4), .val (.int cnt), .val (.long now), .second, .val (.ref b32), .val (.ref bb_34), .val (.long (if cnt < (2147483647 : Int32) then q1 else (q1 + (1 : Int64)))), .second, .val (.int (if cnt < (2147483647 : Int32) then (cnt + (1 : Int32)) else (0 : Int32))), .unset, .unset, .unset] [(.long now)])) _
      refine XS.lload X34.here hx rfl (hb hby at_107) rfl ?_
      show Steps p.tables e below (T34.setTop (mkF m 109 #[.val (.long q1), .second, .val (.int p2), .val (.long q3), .second, .val (.int p4), .val (.int cnt), .val (.long now), .second, .val (.ref b32), .val (.ref bb_34), .val (.long (if cnt < (2147483647 : Int32) then q1 else (q1 + (1 : Int64)))), .second, .val (.int (if cnt < (2147483647 : Int32) then (cnt + (1 : Int32)) else (0 : Int32))), .unset, .unset, .unset] [(.long (if cnt < (2147483647 : Int32) then q1 else (q1 + (1 : Int64)))), (.long now)])) _
      refine XS.lcmp X34.here hx rfl (hb hby at_109) rfl ?_
      show Steps p.tables e below (T34.setTop (mkF m 110 #[.val (.long q1), .second, .val (.int p2), .val (.long q3), .second, .val (.int p4), .val (.int cnt), .val (.long now), .second, .val (.ref b32), .val (.ref bb_34), .val (.long (if cnt < (2147483647 : Int32) then q1 else (q1 + (1 : Int64)))), .second, .val (.int (if cnt < (2147483647 : Int32) then (cnt + (1 : Int32)) else (0 : Int32))), .unset, .unset, .unset] [(.int (lcmpW now (if cnt < (2147483647 : Int32) then q1 else (q1 + (1 : Int64)))))])) _
      exact k)
    have pre43 : ∀ t, Steps p.tables e below (T34.setTop (mkF m 145 #[.val (.long q1), .second, .val (.int p2), .val (.long q3), .second, .val (.int p4), .val (.int cnt), .val (.long now), .second, .val (.ref b32), .val (.ref bb_34), .val (.long (if cnt < (2147483647 : Int32) then q1 else (q1 + (1 : Int64)))), .second, .val (.int (if cnt < (2147483647 : Int32) then (cnt + (1 : Int32)) else (0 : Int32))), .val (.long (if (if cnt < (2147483647 : Int32) then q1 else (q1 + (1 : Int64))) < now then now else (if now = (if cnt < (2147483647 : Int32) then q1 else (q1 + (1 : Int64))) then (if (if cnt < (2147483647 : Int32) then (cnt + (1 : Int32)) else (0 : Int32)) < (0 : Int32) then now else (if cnt < (2147483647 : Int32) then q1 else (q1 + (1 : Int64)))) else (if cnt < (2147483647 : Int32) then q1 else (q1 + (1 : Int64)))))), .second, .val (.int (if (if cnt < (2147483647 : Int32) then q1 else (q1 + (1 : Int64))) < now then (0 : Int32) else (if now = (if cnt < (2147483647 : Int32) then q1 else (q1 + (1 : Int64))) then (if (if cnt < (2147483647 : Int32) then (cnt + (1 : Int32)) else (0 : Int32)) < (0 : Int32) then (0 : Int32) else (if cnt < (2147483647 : Int32) then (cnt + (1 : Int32)) else (0 : Int32))) else (if cnt < (2147483647 : Int32) then (cnt + (1 : Int32)) else (0 : Int32)))))] [])) t → Steps p.tables e below (s₁.setTop (entryFrame m #[(.long q1), (.int p2), (.long q3), (.int p4)] maxLocals)) t := fun t k => pre39 t (by
      by_cases hc40 : (if cnt < (2147483647 : Int32) then q1 else (q1 + (1 : Int64))) < now
      · skip
        refine XS.ifYes X34.here hx rfl (pc0 := 110) (pc' := 127) rfl (hb hby at_110) rfl ((if0 _ _).trans (tlt ((lw_gt _ _).mpr hc40)).2.2.1) (by decide) (by decide) ?_
        show Steps p.tables e below (T34.setTop (mkF m 127 #[.val (.long q1), .second, .val (.int p2), .val (.long q3), .second, .val (.int p4), .val (.int cnt), .val (.long now), .second, .val (.ref b32), .val (.ref bb_34), .val (.long (if cnt < (2147483647 : Int32) then q1 else (q1 + (1 : Int64)))), .second, .val (.int (if cnt < (2147483647 : Int32) then (cnt + (1 : Int32)) else (0 : Int32))), .unset, .unset, .unset] [])) _
        refine XS.lload X34.here hx rfl (hb hby at_127) rfl ?_
        show Steps p.tables e below (T34.setTop (mkF m 129 #[.val (.long q1), .second, .val (.int p2), .val (.long q3), .second, .val (.int p4), .val (.int cnt), .val (.long now), .second, .val (.ref b32), .val (.ref bb_34), .val (.long (if cnt < (2147483647 : Int32) then q1 else (q1 + (1 : Int64)))), .second, .val (.int (if cnt < (2147483647 : Int32) then (cnt + (1 : Int32)) else (0 : Int32))), .unset, .unset, .unset] [(.long now)])) _
        refine XS.lstore X34.here hx rfl (hb hby at_129) rfl (l' := #[.val (.long q1), .second, .val (.int p2), .val (.long q3), .second, .val (.int p4), .val (.int cnt), .val (.long now), .second, .val (.ref b32), .val (.ref bb_34), .val (.long (if cnt < (2147483647 : Int32) then q1 else (q1 + (1 : Int64)))), .second, .val (.int (if cnt < (2147483647 : Int32) then (cnt + (1 : Int32)) else (0 : Int32))), .val (.long now), .second, .unset]) rfl ?_
        show Steps p.tables e below (T34.setTop (mkF m 131 #[.val (.long q1), .second, .val (.int p2), .val (.long q3), .second, .val (.int p4), .val (.int cnt), .val (.long now), .second, .val (.ref b32), .val (.ref bb_34), .val (.long (if cnt < (2147483647 : Int32) then q1 else (q1 + (1 : Int64)))), .second, .val (.int (if cnt < (2147483647 : Int32) then (cnt + (1 : Int32)) else (0 : Int32))), .val (.long now), .second, .unset] [])) _
        refine XS.iconst X34.here hx rfl (hb hby at_131) ?_
        show Steps p.tables e below (T34.setTop (mkF m 132 #[.val (.long q1), .second, .val (.int p2), .val (.long q3), .second, .val (.int p4), .val (.int cnt), .val (.long now), .second, .val (.ref b32), .val (.ref bb_34), .val (.long (if cnt < (2147483647 : Int32) then q1 else (q1 + (1 : Int64)))), .second, .val (.int (if cnt < (2147483647 : Int32) then (cnt + (1 : Int32)) else (0 : Int32))), .val (.long now), .second, .unset] [(.int (0 : Int32))])) _
        refine XS.istore X34.here hx rfl (hb hby at_132) rfl (l' := #[.val (.long q1), .second, .val (.int p2), .val (.long q3), .second, .val (.int p4), .val (.int cnt), .val (.long now), .second, .val (.ref b32), .val (.ref bb_34), .val (.long (if cnt < (2147483647 : Int32) then q1 else (q1 + (1 : Int64)))), .second, .val (.int (if cnt < (2147483647 : Int32) then (cnt + (1 : Int32)) else (0 : Int32))), .val (.long now), .second, .val (.int (0 : Int32))]) rfl ?_
        show Steps p.tables e below (T34.setTop (mkF m 134 #[.val (.long q1), .second, .val (.int p2), .val (.long q3), .second, .val (.int p4), .val (.int cnt), .val (.long now), .second, .val (.ref b32), .val (.ref bb_34), .val (.long (if cnt < (2147483647 : Int32) then q1 else (q1 + (1 : Int64)))), .second, .val (.int (if cnt < (2147483647 : Int32) then (cnt + (1 : Int32)) else (0 : Int32))), .val (.long now), .second, .val (.int (0 : Int32))] [])) _
        refine XS.goto X34.here hx rfl (pc0 := 134) (pc' := 145) rfl (hb hby at_134) (by decide) (by decide) ?_
        show Steps p.tables e below (T34.setTop (mkF m 145 #[.val (.long q1), .second, .val (.int p2), .val (.long q3), .second, .val (.int p4), .val (.int cnt), .val (.long now), .second, .val (.ref b32), .val (.ref bb_34), .val (.long (if cnt < (2147483647 : Int32) then q1 else (q1 + (1 : Int64)))), .second, .val (.int (if cnt < (2147483647 : Int32) then (cnt + (1 : Int32)) else (0 : Int32))), .val (.long now), .second, .val (.int (0 : Int32))] [])) _
        simp only [if_pos hc40] at k; exact k
      · skip
        refine XS.ifNo X34.here hx rfl (hb hby at_110) rfl ((if0 _ _).trans (flt (fun q => hc40 ((lw_gt _ _).mp q))).2.2.1) ?_
        show Steps p.tables e below (T34.setTop (mkF m 113 #[.val (.long q1), .second, .val (.int p2), .val (.long q3), .second, .val (.int p4), .val (.int cnt), .val (.long now), .second, .val (.ref b32), .val (.ref bb_34), .val (.long (if cnt < (2147483647 : Int32) then q1 else (q1 + (1 : Int64)))), .second, .val (.int (if cnt < (2147483647 : Int32) then (cnt + (1 : Int32)) else (0 : Int32))), .unset, .unset, .unset] [])) _
        refine XS.lload X34.here hx rfl (hb hby at_113) rfl ?_
        show Steps p.tables e below (T34.setTop (mkF m 115 #[.val (.long q1), .second, .val (.int p2), .val (.long q3), .second, .val (.int p4), .val (.int cnt), .val (.long now), .second, .val (.ref b32), .val (.ref bb_34), .val (.long (if cnt < (2147483647 : Int32) then q1 else (q1 + (1 : Int64)))), .second, .val (.int (if cnt < (2147483647 : Int32) then (cnt + (1 : Int32)) else (0 : Int32))), .unset, .unset, .unset] [(.long now)])) _
        refine XS.lload X34.here hx rfl (hb hby at_115) rfl ?_
        show Steps p.tables e below (T34.setTop (mkF m 117 #[.val (.long q1), .second, .val (.int p2), .val (.long q3), .second, .val (.int p4), .val (.int cnt), .val (.long now), .second, .val (.ref b32), .val (.ref bb_34), .val (.long (if cnt < (2147483647 : Int32) then q1 else (q1 + (1 : Int64)))), .second, .val (.int (if cnt < (2147483647 : Int32) then (cnt + (1 : Int32)) else (0 : Int32))), .unset, .unset, .unset] [(.long (if cnt < (2147483647 : Int32) then q1 else (q1 + (1 : Int64)))), (.long now)])) _
        refine XS.lcmp X34.here hx rfl (hb hby at_117) rfl ?_
        show Steps p.tables e below (T34.setTop (mkF m 118 #[.val (.long q1), .second, .val (.int p2), .val (.long q3), .second, .val (.int p4), .val (.int cnt), .val (.long now), .second, .val (.ref b32), .val (.ref bb_34), .val (.long (if cnt < (2147483647 : Int32) then q1 else (q1 + (1 : Int64)))), .second, .val (.int (if cnt < (2147483647 : Int32) then (cnt + (1 : Int32)) else (0 : Int32))), .unset, .unset, .unset] [(.int (lcmpW now (if cnt < (2147483647 : Int32) then q1 else (q1 + (1 : Int64)))))])) _
        by_cases hc41 : now = (if cnt < (2147483647 : Int32) then q1 else (q1 + (1 : Int64)))
        · skip
          refine XS.ifNo X34.here hx rfl (hb hby at_118) rfl ((if0 _ _).trans (teq ((lw_eq _ _).mpr hc41)).2) ?_
          show Steps p.tables e below (T34.setTop (mkF m 121 #[.val (.long q1), .second, .val (.int p2), .val (.long q3), .second, .val (.int p4), .val (.int cnt), .val (.long now), .second, .val (.ref b32), .val (.ref bb_34), .val (.long (if cnt < (2147483647 : Int32) then q1 else (q1 + (1 : Int64)))), .second, .val (.int (if cnt < (2147483647 : Int32) then (cnt + (1 : Int32)) else (0 : Int32))), .unset, .unset, .unset] [])) _
          refine XS.iconst X34.here hx rfl (hb hby at_121) ?_
          show Steps p.tables e below (T34.setTop (mkF m 122 #[.val (.long q1), .second, .val (.int p2), .val (.long q3), .second, .val (.int p4), .val (.int cnt), .val (.long now), .second, .val (.ref b32), .val (.ref bb_34), .val (.long (if cnt < (2147483647 : Int32) then q1 else (q1 + (1 : Int64)))), .second, .val (.int (if cnt < (2147483647 : Int32) then (cnt + (1 : Int32)) else (0 : Int32))), .unset, .unset, .unset] [(.int (0 : Int32))])) _
          refine XS.iload X34.here hx rfl (hb hby at_122) rfl ?_
          show Steps p.tables e below (T34.setTop (mkF m 124 #[.val (.long q1), .second, .val (.int p2), .val (.long q3), .second, .val (.int p4), .val (.int cnt), .val (.long now), .second, .val (.ref b32), .val (.ref bb_34), .val (.long (if cnt < (2147483647 : Int32) then q1 else (q1 + (1 : Int64)))), .second, .val (.int (if cnt < (2147483647 : Int32) then (cnt + (1 : Int32)) else (0 : Int32))), .unset, .unset, .unset] [(.int (if cnt < (2147483647 : Int32) then (cnt + (1 : Int32)) else (0 : Int32))), (.int (0 : Int32))])) _
          by_cases hc42 : (if cnt < (2147483647 : Int32) then (cnt + (1 : Int32)) else (0 : Int32)) < (0 : Int32)
          · skip
            refine XS.icmpNo X34.here hx rfl (hb hby at_124) rfl (tlt hc42).2.2.2 ?_
            show Steps p.tables e below (T34.setTop (mkF m 127 #[.val (.long q1), .second, .val (.int p2), .val (.long q3), .second, .val (.int p4), .val (.int cnt), .val (.long now), .second, .val (.ref b32), .val (.ref bb_34), .val (.long (if cnt < (2147483647 : Int32) then q1 else (q1 + (1 : Int64)))), .second, .val (.int (if cnt < (2147483647 : Int32) then (cnt + (1 : Int32)) else (0 : Int32))), .unset, .unset, .unset] [])) _
            refine XS.lload X34.here hx rfl (hb hby at_127) rfl ?_
            show Steps p.tables e below (T34.setTop (mkF m 129 #[.val (.long q1), .second, .val (.int p2), .val (.long q3), .second, .val (.int p4), .val (.int cnt), .val (.long now), .second, .val (.ref b32), .val (.ref bb_34), .val (.long (if cnt < (2147483647 : Int32) then q1 else (q1 + (1 : Int64)))), .second, .val (.int (if cnt < (2147483647 : Int32) then (cnt + (1 : Int32)) else (0 : Int32))), .unset, .unset, .unset] [(.long now)])) _
            refine XS.lstore X34.here hx rfl (hb hby at_129) rfl (l' := #[.val (.long q1), .second, .val (.int p2), .val (.long q3), .second, .val (.int p4), .val (.int cnt), .val (.long now), .second, .val (.ref b32), .val (.ref bb_34), .val (.long (if cnt < (2147483647 : Int32) then q1 else (q1 + (1 : Int64)))), .second, .val (.int (if cnt < (2147483647 : Int32) then (cnt + (1 : Int32)) else (0 : Int32))), .val (.long now), .second, .unset]) rfl ?_
            show Steps p.tables e below (T34.setTop (mkF m 131 #[.val (.long q1), .second, .val (.int p2), .val (.long q3), .second, .val (.int p4), .val (.int cnt), .val (.long now), .second, .val (.ref b32), .val (.ref bb_34), .val (.long (if cnt < (2147483647 : Int32) then q1 else (q1 + (1 : Int64)))), .second, .val (.int (if cnt < (2147483647 : Int32) then (cnt + (1 : Int32)) else (0 : Int32))), .val (.long now), .second, .unset] [])) _
            refine XS.iconst X34.here hx rfl (hb hby at_131) ?_
            show Steps p.tables e below (T34.setTop (mkF m 132 #[.val (.long q1), .second, .val (.int p2), .val (.long q3), .second, .val (.int p4), .val (.int cnt), .val (.long now), .second, .val (.ref b32), .val (.ref bb_34), .val (.long (if cnt < (2147483647 : Int32) then q1 else (q1 + (1 : Int64)))), .second, .val (.int (if cnt < (2147483647 : Int32) then (cnt + (1 : Int32)) else (0 : Int32))), .val (.long now), .second, .unset] [(.int (0 : Int32))])) _
            refine XS.istore X34.here hx rfl (hb hby at_132) rfl (l' := #[.val (.long q1), .second, .val (.int p2), .val (.long q3), .second, .val (.int p4), .val (.int cnt), .val (.long now), .second, .val (.ref b32), .val (.ref bb_34), .val (.long (if cnt < (2147483647 : Int32) then q1 else (q1 + (1 : Int64)))), .second, .val (.int (if cnt < (2147483647 : Int32) then (cnt + (1 : Int32)) else (0 : Int32))), .val (.long now), .second, .val (.int (0 : Int32))]) rfl ?_
            show Steps p.tables e below (T34.setTop (mkF m 134 #[.val (.long q1), .second, .val (.int p2), .val (.long q3), .second, .val (.int p4), .val (.int cnt), .val (.long now), .second, .val (.ref b32), .val (.ref bb_34), .val (.long (if cnt < (2147483647 : Int32) then q1 else (q1 + (1 : Int64)))), .second, .val (.int (if cnt < (2147483647 : Int32) then (cnt + (1 : Int32)) else (0 : Int32))), .val (.long now), .second, .val (.int (0 : Int32))] [])) _
            refine XS.goto X34.here hx rfl (pc0 := 134) (pc' := 145) rfl (hb hby at_134) (by decide) (by decide) ?_
            show Steps p.tables e below (T34.setTop (mkF m 145 #[.val (.long q1), .second, .val (.int p2), .val (.long q3), .second, .val (.int p4), .val (.int cnt), .val (.long now), .second, .val (.ref b32), .val (.ref bb_34), .val (.long (if cnt < (2147483647 : Int32) then q1 else (q1 + (1 : Int64)))), .second, .val (.int (if cnt < (2147483647 : Int32) then (cnt + (1 : Int32)) else (0 : Int32))), .val (.long now), .second, .val (.int (0 : Int32))] [])) _
            simp only [if_neg hc40, if_pos hc41, if_pos hc42] at k; exact k
          · skip
            refine XS.icmpYes X34.here hx rfl (pc0 := 124) (pc' := 137) rfl (hb hby at_124) rfl (flt hc42).2.2.2 (by decide) (by decide) ?_
            show Steps p.tables e below (T34.setTop (mkF m 137 #[.val (.long q1), .second, .val (.int p2), .val (.long q3), .second, .val (.int p4), .val (.int cnt), .val (.long now), .second, .val (.ref b32), .val (.ref bb_34), .val (.long (if cnt < (2147483647 : Int32) then q1 else (q1 + (1 : Int64)))), .second, .val (.int (if cnt < (2147483647 : Int32) then (cnt + (1 : Int32)) else (0 : Int32))), .unset, .unset, .unset] [])) _
            refine XS.lload X34.here hx rfl (hb hby at_137) rfl ?_
            show Steps p.tables e below (T34.setTop (mkF m 139 #[.val (.long q1), .second, .val (.int p2), .val (.long q3), .second, .val (.int p4), .val (.int cnt), .val (.long now), .second, .val (.ref b32), .val (.ref bb_34), .val (.long (if cnt < (2147483647 : Int32) then q1 else (q1 + (1 : Int64)))), .second, .val (.int (if cnt < (2147483647 : Int32) then (cnt + (1 : Int32)) else (0 : Int32))), .unset, .unset, .unset] [(.long (if cnt < (2147483647 : Int32) then q1 else (q1 + (1 : Int64))))])) _
            refine XS.lstore X34.here hx rfl (hb hby at_139) rfl (l' := #[.val (.long q1), .second, .val (.int p2), .val (.long q3), .second, .val (.int p4), .val (.int cnt), .val (.long now), .second, .val (.ref b32), .val (.ref bb_34), .val (.long (if cnt < (2147483647 : Int32) then q1 else (q1 + (1 : Int64)))), .second, .val (.int (if cnt < (2147483647 : Int32) then (cnt + (1 : Int32)) else (0 : Int32))), .val (.long (if cnt < (2147483647 : Int32) then q1 else (q1 + (1 : Int64)))), .second, .unset]) rfl ?_
            show Steps p.tables e below (T34.setTop (mkF m 141 #[.val (.long q1), .second, .val (.int p2), .val (.long q3), .second, .val (.int p4), .val (.int cnt), .val (.long now), .second, .val (.ref b32), .val (.ref bb_34), .val (.long (if cnt < (2147483647 : Int32) then q1 else (q1 + (1 : Int64)))), .second, .val (.int (if cnt < (2147483647 : Int32) then (cnt + (1 : Int32)) else (0 : Int32))), .val (.long (if cnt < (2147483647 : Int32) then q1 else (q1 + (1 : Int64)))), .second, .unset] [])) _
            refine XS.iload X34.here hx rfl (hb hby at_141) rfl ?_
            show Steps p.tables e below (T34.setTop (mkF m 143 #[.val (.long q1), .second, .val (.int p2), .val (.long q3), .second, .val (.int p4), .val (.int cnt), .val (.long now), .second, .val (.ref b32), .val (.ref bb_34), .val (.long (if cnt < (2147483647 : Int32) then q1 else (q1 + (1 : Int64)))), .second, .val (.int (if cnt < (2147483647 : Int32) then (cnt + (1 : Int32)) else (0 : Int32))), .val (.long (if cnt < (2147483647 : Int32) then q1 else (q1 + (1 : Int64)))), .second, .unset] [(.int (if cnt < (2147483647 : Int32) then (cnt + (1 : Int32)) else (0 : Int32)))])) _
            refine XS.istore X34.here hx rfl (hb hby at_143) rfl (l' := #[.val (.long q1), .second, .val (.int p2), .val (.long q3), .second, .val (.int p4), .val (.int cnt), .val (.long now), .second, .val (.ref b32), .val (.ref bb_34), .val (.long (if cnt < (2147483647 : Int32) then q1 else (q1 + (1 : Int64)))), .second, .val (.int (if cnt < (2147483647 : Int32) then (cnt + (1 : Int32)) else (0 : Int32))), .val (.long (if cnt < (2147483647 : Int32) then q1 else (q1 + (1 : Int64)))), .second, .val (.int (if cnt < (2147483647 : Int32) then (cnt + (1 : Int32)) else (0 : Int32)))]) rfl ?_
            show Steps p.tables e below (T34.setTop (mkF m 145 #[.val (.long q1), .second, .val (.int p2), .val (.long q3), .second, .val (.int p4), .val (.int cnt), .val (.long now), .second, .val (.ref b32), .val (.ref bb_34), .val (.long (if cnt < (2147483647 : Int32) then q1 else (q1 + (1 : Int64)))), .second, .val (.int (if cnt < (2147483647 : Int32) then (cnt + (1 : Int32)) else (0 : Int32))), .val (.long (if cnt < (2147483647 : Int32) then q1 else (q1 + (1 : Int64)))), .second, .val (.int (if cnt < (2147483647 : Int32) then (cnt + (1 : Int32)) else (0 : Int32)))] [])) _
            simp only [if_neg hc40, if_pos hc41, if_neg hc42] at k; exact k
        · skip
          refine XS.ifYes X34.here hx rfl (pc0 := 118) (pc' := 137) rfl (hb hby at_118) rfl ((if0 _ _).trans (feq (fun q => hc41 ((lw_eq _ _).mp q))).2) (by decide) (by decide) ?_
          show Steps p.tables e below (T34.setTop (mkF m 137 #[.val (.long q1), .second, .val (.int p2), .val (.long q3), .second, .val (.int p4), .val (.int cnt), .val (.long now), .second, .val (.ref b32), .val (.ref bb_34), .val (.long (if cnt < (2147483647 : Int32) then q1 else (q1 + (1 : Int64)))), .second, .val (.int (if cnt < (2147483647 : Int32) then (cnt + (1 : Int32)) else (0 : Int32))), .unset, .unset, .unset] [])) _
          refine XS.lload X34.here hx rfl (hb hby at_137) rfl ?_
          show Steps p.tables e below (T34.setTop (mkF m 139 #[.val (.long q1), .second, .val (.int p2), .val (.long q3), .second, .val (.int p4), .val (.int cnt), .val (.long now), .second, .val (.ref b32), .val (.ref bb_34), .val (.long (if cnt < (2147483647 : Int32) then q1 else (q1 + (1 : Int64)))), .second, .val (.int (if cnt < (2147483647 : Int32) then (cnt + (1 : Int32)) else (0 : Int32))), .unset, .unset, .unset] [(.long (if cnt < (2147483647 : Int32) then q1 else (q1 + (1 : Int64))))])) _
          refine XS.lstore X34.here hx rfl (hb hby at_139) rfl (l' := #[.val (.long q1), .second, .val (.int p2), .val (.long q3), .second, .val (.int p4), .val (.int cnt), .val (.long now), .second, .val (.ref b32), .val (.ref bb_34), .val (.long (if cnt < (2147483647 : Int32) then q1 else (q1 + (1 : Int64)))), .second, .val (.int (if cnt < (2147483647 : Int32) then (cnt + (1 : Int32)) else (0 : Int32))), .val (.long (if cnt < (2147483647 : Int32) then q1 else (q1 + (1 : Int64)))), .second, .unset]) rfl ?_
          show Steps p.tables e below (T34.setTop (mkF m 141 #[.val (.long q1), .second, .val (.int p2), .val (.long q3), .second, .val (.int p4), .val (.int cnt), .val (.long now), .second, .val (.ref b32), .val (.ref bb_34), .val (.long (if cnt < (2147483647 : Int32) then q1 else (q1 + (1 : Int64)))), .second, .val (.int (if cnt < (2147483647 : Int32) then (cnt + (1 : Int32)) else (0 : Int32))), .val (.long (if cnt < (2147483647 : Int32) then q1 else (q1 + (1 : Int64)))), .second, .unset] [])) _
          refine XS.iload X34.here hx rfl (hb hby at_141) rfl ?_
          show Steps p.tables e below (T34.setTop (mkF m 143 #[.val (.long q1), .second, .val (.int p2), .val (.long q3), .second, .val (.int p4), .val (.int cnt), .val (.long now), .second, .val (.ref b32), .val (.ref bb_34), .val (.long (if cnt < (2147483647 : Int32) then q1 else (q1 + (1 : Int64)))), .second, .val (.int (if cnt < (2147483647 : Int32) then (cnt + (1 : Int32)) else (0 : Int32))), .val (.long (if cnt < (2147483647 : Int32) then q1 else (q1 + (1 : Int64)))), .second, .unset] [(.int (if cnt < (2147483647 : Int32) then (cnt + (1 : Int32)) else (0 : Int32)))])) _
          refine XS.istore X34.here hx rfl (hb hby at_143) rfl (l' := #[.val (.long q1), .second, .val (.int p2), .val (.long q3), .second, .val (.int p4), .val (.int cnt), .val (.long now), .second, .val (.ref b32), .val (.ref bb_34), .val (.long (if cnt < (2147483647 : Int32) then q1 else (q1 + (1 : Int64)))), .second, .val (.int (if cnt < (2147483647 : Int32) then (cnt + (1 : Int32)) else (0 : Int32))), .val (.long (if cnt < (2147483647 : Int32) then q1 else (q1 + (1 : Int64)))), .second, .val (.int (if cnt < (2147483647 : Int32) then (cnt + (1 : Int32)) else (0 : Int32)))]) rfl ?_
          show Steps p.tables e below (T34.setTop (mkF m 145 #[.val (.long q1), .second, .val (.int p2), .val (.long q3), .second, .val (.int p4), .val (.int cnt), .val (.long now), .second, .val (.ref b32), .val (.ref bb_34), .val (.long (if cnt < (2147483647 : Int32) then q1 else (q1 + (1 : Int64)))), .second, .val (.int (if cnt < (2147483647 : Int32) then (cnt + (1 : Int32)) else (0 : Int32))), .val (.long (if cnt < (2147483647 : Int32) then q1 else (q1 + (1 : Int64)))), .second, .val (.int (if cnt < (2147483647 : Int32) then (cnt + (1 : Int32)) else (0 : Int32)))] [])) _
          simp only [if_neg hc40, if_neg hc41] at k; exact k)
    obtain ⟨cq44, kq44, q44a, q44b, q44c⟩ := isOf hZ rfl p34_2
    obtain ⟨_, _, ⟨T44, L44, k44, n44⟩, -, X44, ⟨Lc44, hQ44, l44, y44, z44⟩, st44⟩ := X34.virtualBack hx (y := (⟨"com/example/tidemark/tidemark/store/Stamp", "millis", "()J"⟩ : MethodName)) (z := (⟨"com/example/tidemark/tidemark/store/Stamp", "millis", "()J"⟩ : MethodName)) hown (mvT hZ (kw28 hw)) (mvT hZ (kw29 hw)) (notFace_of_selects (args := #[]) (mvT hZ (kw31 hw))) (mvT hZ (kw31 hw)) (mvT hZ (kw30 hw)) (by decide) (backOf (W := 0) (rm5 l Z a0 hw [] bb_34 (own_nm q1 cnt now) T34.heap n0 Z34 p34_3) hZ (kw32 hw) (kw4 hw) (by decide) (by decide)) q44a q44c (g := (mkF m 147 #[.val (.long q1), .second, .val (.int p2), .val (.long q3), .second, .val (.int p4), .val (.int cnt), .val (.long now), .second, .val (.ref b32), .val (.ref bb_34), .val (.long (if cnt < (2147483647 : Int32) then q1 else (q1 + (1 : Int64)))), .second, .val (.int (if cnt < (2147483647 : Int32) then (cnt + (1 : Int32)) else (0 : Int32))), .val (.long (if (if cnt < (2147483647 : Int32) then q1 else (q1 + (1 : Int64))) < now then now else (if now = (if cnt < (2147483647 : Int32) then q1 else (q1 + (1 : Int64))) then (if (if cnt < (2147483647 : Int32) then (cnt + (1 : Int32)) else (0 : Int32)) < (0 : Int32) then now else (if cnt < (2147483647 : Int32) then q1 else (q1 + (1 : Int64)))) else (if cnt < (2147483647 : Int32) then q1 else (q1 + (1 : Int64)))))), .second, .val (.int (if (if cnt < (2147483647 : Int32) then q1 else (q1 + (1 : Int64))) < now then (0 : Int32) else (if now = (if cnt < (2147483647 : Int32) then q1 else (q1 + (1 : Int64))) then (if (if cnt < (2147483647 : Int32) then (cnt + (1 : Int32)) else (0 : Int32)) < (0 : Int32) then (0 : Int32) else (if cnt < (2147483647 : Int32) then (cnt + (1 : Int32)) else (0 : Int32))) else (if cnt < (2147483647 : Int32) then (cnt + (1 : Int32)) else (0 : Int32)))))] [(.ref bb_34)])) rfl (by rw [hml]; rfl) (Steps.refl _) (argsL := []) (rest := []) (lenOf pd_3 rfl) rfl (by show 2 * 0 + _ ≤ _; exact Nat.le_of_eq rfl) (hb hby at_147) (fun _ _ => ⟨rfl, rfl, (by decide : 2 + 0 ≤ _), (by decide : 4 + 0 ≤ _)⟩)
    dsimp only [Pt.U, Pt.locs, Pt.cells, Pt.slots] at X44 l44 y44 z44 st44 hQ44
    subst l44 y44 z44
    obtain ⟨rfl, N44q, e44⟩ := hQ44
    have N44 := Fr.app N34 N44q
    obtain ⟨cq45, kq45, q45a, q45b, q45c⟩ := isOf hZ e44 p34_2
    obtain ⟨_, _, ⟨T45, L45, k45, n45⟩, -, X45, ⟨Lc45, hQ45, l45, y45, z45⟩, st45⟩ := X44.virtualBack hx (y := (⟨"com/example/tidemark/tidemark/store/Stamp", "counter", "()I"⟩ : MethodName)) (z := (⟨"com/example/tidemark/tidemark/store/Stamp", "counter", "()I"⟩ : MethodName)) hown (mvT hZ (kw33 hw)) (mvT hZ (kw34 hw)) (notFace_of_selects (args := #[]) (mvT hZ (kw36 hw))) (mvT hZ (kw36 hw)) (mvT hZ (kw35 hw)) (by decide) (backOf (W := 0) (rm6 l Z a0 hw [] bb_34 (own_nc q1 cnt now) T34.heap n0 Z34 p34_4) hZ (kw37 hw) (kw4 hw) (by decide) (by decide)) q45a q45c (g := (mkF m 158 #[.val (.long q1), .second, .val (.int p2), .val (.long q3), .second, .val (.int p4), .val (.int cnt), .val (.long now), .second, .val (.ref b32), .val (.ref bb_34), .val (.long (if cnt < (2147483647 : Int32) then q1 else (q1 + (1 : Int64)))), .second, .val (.int (if cnt < (2147483647 : Int32) then (cnt + (1 : Int32)) else (0 : Int32))), .val (.long (if (if cnt < (2147483647 : Int32) then q1 else (q1 + (1 : Int64))) < now then now else (if now = (if cnt < (2147483647 : Int32) then q1 else (q1 + (1 : Int64))) then (if (if cnt < (2147483647 : Int32) then (cnt + (1 : Int32)) else (0 : Int32)) < (0 : Int32) then now else (if cnt < (2147483647 : Int32) then q1 else (q1 + (1 : Int64)))) else (if cnt < (2147483647 : Int32) then q1 else (q1 + (1 : Int64)))))), .second, .val (.int (if (if cnt < (2147483647 : Int32) then q1 else (q1 + (1 : Int64))) < now then (0 : Int32) else (if now = (if cnt < (2147483647 : Int32) then q1 else (q1 + (1 : Int64))) then (if (if cnt < (2147483647 : Int32) then (cnt + (1 : Int32)) else (0 : Int32)) < (0 : Int32) then (0 : Int32) else (if cnt < (2147483647 : Int32) then (cnt + (1 : Int32)) else (0 : Int32))) else (if cnt < (2147483647 : Int32) then (cnt + (1 : Int32)) else (0 : Int32)))))] [(.ref bb_34)])) rfl (by rw [hml]; rfl) (Steps.refl _) (argsL := []) (rest := []) (lenOf pd_4 rfl) rfl (by show 2 * 0 + _ ≤ _; exact Nat.le_of_eq rfl) (hb hby at_158) (fun _ _ => ⟨rfl, e44, (by decide : 2 + 0 ≤ _), (by decide : 4 + 0 ≤ _)⟩)
    dsimp only [Pt.U, Pt.locs, Pt.cells, Pt.slots] at X45 l45 y45 z45 st45 hQ45
    subst l45 y45 z45
    obtain ⟨rfl, N45q, e45⟩ := hQ45
    have N45 := Fr.app N44 N45q
    have f47 : Fld Z T34.heap b32 "com/example/tidemark/tidemark/store/Stamp" "millis" "J" (.long q1) := (p33_0.keep Kq34 nin0)
    have f48 : Exa Z T34.heap b32 "com/example/tidemark/tidemark/store/Stamp" := (f35.keep Kq34)
    obtain ⟨cq46, kq46, q46a, q46b, q46c⟩ := isOf hZ e45 f48
    obtain ⟨_, _, ⟨T46, L46, k46, n46⟩, -, X46, ⟨Lc46, hQ46, l46, y46, z46⟩, st46⟩ := X45.virtualBack hx (y := (⟨"com/example/tidemark/tidemark/store/Stamp", "millis", "()J"⟩ : MethodName)) (z := (⟨"com/example/tidemark/tidemark/store/Stamp", "millis", "()J"⟩ : MethodName)) hown (mvT hZ (kw28 hw)) (mvT hZ (kw29 hw)) (notFace_of_selects (args := #[]) (mvT hZ (kw31 hw))) (mvT hZ (kw31 hw)) (mvT hZ (kw30 hw)) (by decide) (backOf (W := 0) (rm5 l Z a0 hw [] b32 q1 T34.heap n0 Z34 f47) hZ (kw32 hw) (kw4 hw) (by decide) (by decide)) q46a q46c (g := (mkF m 168 #[.val (.long q1), .second, .val (.int p2), .val (.long q3), .second, .val (.int p4), .val (.int cnt), .val (.long now), .second, .val (.ref b32), .val (.ref bb_34), .val (.long (if cnt < (2147483647 : Int32) then q1 else (q1 + (1 : Int64)))), .second, .val (.int (if cnt < (2147483647 : Int32) then (cnt + (1 : Int32)) else (0 : Int32))), .val (.long (if (if cnt < (2147483647 : Int32) then q1 else (q1 + (1 : Int64))) < now then now else (if now = (if cnt < (2147483647 : Int32) then q1 else (q1 + (1 : Int64))) then (if (if cnt < (2147483647 : Int32) then (cnt + (1 : Int32)) else (0 : Int32)) < (0 : Int32) then now else (if cnt < (2147483647 : Int32) then q1 else (q1 + (1 : Int64)))) else (if cnt < (2147483647 : Int32) then q1 else (q1 + (1 : Int64)))))), .second, .val (.int (if (if cnt < (2147483647 : Int32) then q1 else (q1 + (1 : Int64))) < now then (0 : Int32) else (if now = (if cnt < (2147483647 : Int32) then q1 else (q1 + (1 : Int64))) then (if (if cnt < (2147483647 : Int32) then (cnt + (1 : Int32)) else (0 : Int32)) < (0 : Int32) then (0 : Int32) else (if cnt < (2147483647 : Int32) then (cnt + (1 : Int32)) else (0 : Int32))) else (if cnt < (2147483647 : Int32) then (cnt + (1 : Int32)) else (0 : Int32)))))] [(.ref b32)])) rfl (by rw [hml]; rfl) (Steps.refl _) (argsL := []) (rest := []) (lenOf pd_3 rfl) rfl (by show 2 * 0 + _ ≤ _; exact Nat.le_of_eq rfl) (hb hby at_168) (fun _ _ => ⟨rfl, e45, (by decide : 2 + 0 ≤ _), (by decide : 4 + 0 ≤ _)⟩)
    dsimp only [Pt.U, Pt.locs, Pt.cells, Pt.slots] at X46 l46 y46 z46 st46 hQ46
    subst l46 y46 z46
    obtain ⟨rfl, N46q, e46⟩ := hQ46
    have N46 := Fr.app N45 N46q
    have f50 : Fld Z T34.heap b32 "com/example/tidemark/tidemark/store/Stamp" "counter" "I" (.int cnt) := (p33_1.keep Kq34 nin0)
    obtain ⟨cq49, kq49, q49a, q49b, q49c⟩ := isOf hZ e46 f48
    obtain ⟨_, _, ⟨T49, L49, k49, n49⟩, -, X49, ⟨Lc49, hQ49, l49, y49, z49⟩, st49⟩ := X46.virtualBack hx (y := (⟨"com/example/tidemark/tidemark/store/Stamp", "counter", "()I"⟩ : MethodName)) (z := (⟨"com/example/tidemark/tidemark/store/Stamp", "counter", "()I"⟩ : MethodName)) hown (mvT hZ (kw33 hw)) (mvT hZ (kw34 hw)) (notFace_of_selects (args := #[]) (mvT hZ (kw36 hw))) (mvT hZ (kw36 hw)) (mvT hZ (kw35 hw)) (by decide) (backOf (W := 0) (rm6 l Z a0 hw [] b32 cnt T34.heap n0 Z34 f50) hZ (kw37 hw) (kw4 hw) (by decide) (by decide)) q49a q49c (g := (mkF m 178 #[.val (.long q1), .second, .val (.int p2), .val (.long q3), .second, .val (.int p4), .val (.int cnt), .val (.long now), .second, .val (.ref b32), .val (.ref bb_34), .val (.long (if cnt < (2147483647 : Int32) then q1 else (q1 + (1 : Int64)))), .second, .val (.int (if cnt < (2147483647 : Int32) then (cnt + (1 : Int32)) else (0 : Int32))), .val (.long (if (if cnt < (2147483647 : Int32) then q1 else (q1 + (1 : Int64))) < now then now else (if now = (if cnt < (2147483647 : Int32) then q1 else (q1 + (1 : Int64))) then (if (if cnt < (2147483647 : Int32) then (cnt + (1 : Int32)) else (0 : Int32)) < (0 : Int32) then now else (if cnt < (2147483647 : Int32) then q1 else (q1 + (1 : Int64)))) else (if cnt < (2147483647 : Int32) then q1 else (q1 + (1 : Int64)))))), .second, .val (.int (if (if cnt < (2147483647 : Int32) then q1 else (q1 + (1 : Int64))) < now then (0 : Int32) else (if now = (if cnt < (2147483647 : Int32) then q1 else (q1 + (1 : Int64))) then (if (if cnt < (2147483647 : Int32) then (cnt + (1 : Int32)) else (0 : Int32)) < (0 : Int32) then (0 : Int32) else (if cnt < (2147483647 : Int32) then (cnt + (1 : Int32)) else (0 : Int32))) else (if cnt < (2147483647 : Int32) then (cnt + (1 : Int32)) else (0 : Int32)))))] [(.ref b32)])) rfl (by rw [hml]; rfl) (Steps.refl _) (argsL := []) (rest := []) (lenOf pd_4 rfl) rfl (by show 2 * 0 + _ ≤ _; exact Nat.le_of_eq rfl) (hb hby at_178) (fun _ _ => ⟨rfl, e46, (by decide : 2 + 0 ≤ _), (by decide : 4 + 0 ≤ _)⟩)
    dsimp only [Pt.U, Pt.locs, Pt.cells, Pt.slots] at X49 l49 y49 z49 st49 hQ49
    subst l49 y49 z49
    obtain ⟨rfl, N49q, e49⟩ := hQ49
    have N49 := Fr.app N46 N49q
    obtain ⟨fs, hr, hrun, hended, hW, hsame⟩ := X49.leave (v := some (.int (1 : Int32))) (fun h => by rw [Bd.returns] at h; cases h)
    refine ⟨_, _, pre43 _ ?_, hrun, hended, _, _, rfl, ?_, ⟨_, rfl⟩, hW, hsame.mono (by decide) (by decide)⟩
    · skip
      show Steps p.tables e below (T34.setTop (mkF m 145 #[.val (.long q1), .second, .val (.int p2), .val (.long q3), .second, .val (.int p4), .val (.int cnt), .val (.long now), .second, .val (.ref b32), .val (.ref bb_34), .val (.long (if cnt < (2147483647 : Int32) then q1 else (q1 + (1 : Int64)))), .second, .val (.int (if cnt < (2147483647 : Int32) then (cnt + (1 : Int32)) else (0 : Int32))), .val (.long (if (if cnt < (2147483647 : Int32) then q1 else (q1 + (1 : Int64))) < now then now else (if now = (if cnt < (2147483647 : Int32) then q1 else (q1 + (1 : Int64))) then (if (if cnt < (2147483647 : Int32) then (cnt + (1 : Int32)) else (0 : Int32)) < (0 : Int32) then now else (if cnt < (2147483647 : Int32) then q1 else (q1 + (1 : Int64)))) else (if cnt < (2147483647 : Int32) then q1 else (q1 + (1 : Int64)))))), .second, .val (.int (if (if cnt < (2147483647 : Int32) then q1 else (q1 + (1 : Int64))) < now then (0 : Int32) else (if now = (if cnt < (2147483647 : Int32) then q1 else (q1 + (1 : Int64))) then (if (if cnt < (2147483647 : Int32) then (cnt + (1 : Int32)) else (0 : Int32)) < (0 : Int32) then (0 : Int32) else (if cnt < (2147483647 : Int32) then (cnt + (1 : Int32)) else (0 : Int32))) else (if cnt < (2147483647 : Int32) then (cnt + (1 : Int32)) else (0 : Int32)))))] [])) _
      refine XS.aload X34.here hx rfl (hb hby at_145) rfl rfl ?_
      show Steps p.tables e below (T34.setTop (mkF m 147 #[.val (.long q1), .second, .val (.int p2), .val (.long q3), .second, .val (.int p4), .val (.int cnt), .val (.long now), .second, .val (.ref b32), .val (.ref bb_34), .val (.long (if cnt < (2147483647 : Int32) then q1 else (q1 + (1 : Int64)))), .second, .val (.int (if cnt < (2147483647 : Int32) then (cnt + (1 : Int32)) else (0 : Int32))), .val (.long (if (if cnt < (2147483647 : Int32) then q1 else (q1 + (1 : Int64))) < now then now else (if now = (if cnt < (2147483647 : Int32) then q1 else (q1 + (1 : Int64))) then (if (if cnt < (2147483647 : Int32) then (cnt + (1 : Int32)) else (0 : Int32)) < (0 : Int32) then now else (if cnt < (2147483647 : Int32) then q1 else (q1 + (1 : Int64)))) else (if cnt < (2147483647 : Int32) then q1 else (q1 + (1 : Int64)))))), .second, .val (.int (if (if cnt < (2147483647 : Int32) then q1 else (q1 + (1 : Int64))) < now then (0 : Int32) else (if now = (if cnt < (2147483647 : Int32) then q1 else (q1 + (1 : Int64))) then (if (if cnt < (2147483647 : Int32) then (cnt + (1 : Int32)) else (0 : Int32)) < (0 : Int32) then (0 : Int32) else (if cnt < (2147483647 : Int32) then (cnt + (1 : Int32)) else (0 : Int32))) else (if cnt < (2147483647 : Int32) then (cnt + (1 : Int32)) else (0 : Int32)))))] [(.ref bb_34)])) _
      refine st44.trans ?_
      show Steps p.tables e below (T44.setTop (mkF m 150 #[.val (.long q1), .second, .val (.int p2), .val (.long q3), .second, .val (.int p4), .val (.int cnt), .val (.long now), .second, .val (.ref b32), .val (.ref bb_34), .val (.long (if cnt < (2147483647 : Int32) then q1 else (q1 + (1 : Int64)))), .second, .val (.int (if cnt < (2147483647 : Int32) then (cnt + (1 : Int32)) else (0 : Int32))), .val (.long (if (if cnt < (2147483647 : Int32) then q1 else (q1 + (1 : Int64))) < now then now else (if now = (if cnt < (2147483647 : Int32) then q1 else (q1 + (1 : Int64))) then (if (if cnt < (2147483647 : Int32) then (cnt + (1 : Int32)) else (0 : Int32)) < (0 : Int32) then now else (if cnt < (2147483647 : Int32) then q1 else (q1 + (1 : Int64)))) else (if cnt < (2147483647 : Int32) then q1 else (q1 + (1 : Int64)))))), .second, .val (.int (if (if cnt < (2147483647 : Int32) then q1 else (q1 + (1 : Int64))) < now then (0 : Int32) else (if now = (if cnt < (2147483647 : Int32) then q1 else (q1 + (1 : Int64))) then (if (if cnt < (2147483647 : Int32) then (cnt + (1 : Int32)) else (0 : Int32)) < (0 : Int32) then (0 : Int32) else (if cnt < (2147483647 : Int32) then (cnt + (1 : Int32)) else (0 : Int32))) else (if cnt < (2147483647 : Int32) then (cnt + (1 : Int32)) else (0 : Int32)))))] [(.long (own_nm q1 cnt now))])) _
      refine XS.lload X44.here hx rfl (hb hby at_150) rfl ?_
      show Steps p.tables e below (T44.setTop (mkF m 152 #[.val (.long q1), .second, .val (.int p2), .val (.long q3), .second, .val (.int p4), .val (.int cnt), .val (.long now), .second, .val (.ref b32), .val (.ref bb_34), .val (.long (if cnt < (2147483647 : Int32) then q1 else (q1 + (1 : Int64)))), .second, .val (.int (if cnt < (2147483647 : Int32) then (cnt + (1 : Int32)) else (0 : Int32))), .val (.long (if (if cnt < (2147483647 : Int32) then q1 else (q1 + (1 : Int64))) < now then now else (if now = (if cnt < (2147483647 : Int32) then q1 else (q1 + (1 : Int64))) then (if (if cnt < (2147483647 : Int32) then (cnt + (1 : Int32)) else (0 : Int32)) < (0 : Int32) then now else (if cnt < (2147483647 : Int32) then q1 else (q1 + (1 : Int64)))) else (if cnt < (2147483647 : Int32) then q1 else (q1 + (1 : Int64)))))), .second, .val (.int (if (if cnt < (2147483647 : Int32) then q1 else (q1 + (1 : Int64))) < now then (0 : Int32) else (if now = (if cnt < (2147483647 : Int32) then q1 else (q1 + (1 : Int64))) then (if (if cnt < (2147483647 : Int32) then (cnt + (1 : Int32)) else (0 : Int32)) < (0 : Int32) then (0 : Int32) else (if cnt < (2147483647 : Int32) then (cnt + (1 : Int32)) else (0 : Int32))) else (if cnt < (2147483647 : Int32) then (cnt + (1 : Int32)) else (0 : Int32)))))] [(.long (if (if cnt < (2147483647 : Int32) then q1 else (q1 + (1 : Int64))) < now then now else (if now = (if cnt < (2147483647 : Int32) then q1 else (q1 + (1 : Int64))) then (if (if cnt < (2147483647 : Int32) then (cnt + (1 : Int32)) else (0 : Int32)) < (0 : Int32) then now else (if cnt < (2147483647 : Int32) then q1 else (q1 + (1 : Int64)))) else (if cnt < (2147483647 : Int32) then q1 else (q1 + (1 : Int64)))))), (.long (own_nm q1 cnt now))])) _
      refine XS.lcmp X44.here hx rfl (hb hby at_152) rfl ?_
      show Steps p.tables e below (T44.setTop (mkF m 153 #[.val (.long q1), .second, .val (.int p2), .val (.long q3), .second, .val (.int p4), .val (.int cnt), .val (.long now), .second, .val (.ref b32), .val (.ref bb_34), .val (.long (if cnt < (2147483647 : Int32) then q1 else (q1 + (1 : Int64)))), .second, .val (.int (if cnt < (2147483647 : Int32) then (cnt + (1 : Int32)) else (0 : Int32))), .val (.long (if (if cnt < (2147483647 : Int32) then q1 else (q1 + (1 : Int64))) < now then now else (if now = (if cnt < (2147483647 : Int32) then q1 else (q1 + (1 : Int64))) then (if (if cnt < (2147483647 : Int32) then (cnt + (1 : Int32)) else (0 : Int32)) < (0 : Int32) then now else (if cnt < (2147483647 : Int32) then q1 else (q1 + (1 : Int64)))) else (if cnt < (2147483647 : Int32) then q1 else (q1 + (1 : Int64)))))), .second, .val (.int (if (if cnt < (2147483647 : Int32) then q1 else (q1 + (1 : Int64))) < now then (0 : Int32) else (if now = (if cnt < (2147483647 : Int32) then q1 else (q1 + (1 : Int64))) then (if (if cnt < (2147483647 : Int32) then (cnt + (1 : Int32)) else (0 : Int32)) < (0 : Int32) then (0 : Int32) else (if cnt < (2147483647 : Int32) then (cnt + (1 : Int32)) else (0 : Int32))) else (if cnt < (2147483647 : Int32) then (cnt + (1 : Int32)) else (0 : Int32)))))] [(.int (lcmpW (own_nm q1 cnt now) (if (if cnt < (2147483647 : Int32) then q1 else (q1 + (1 : Int64))) < now then now else (if now = (if cnt < (2147483647 : Int32) then q1 else (q1 + (1 : Int64))) then (if (if cnt < (2147483647 : Int32) then (cnt + (1 : Int32)) else (0 : Int32)) < (0 : Int32) then now else (if cnt < (2147483647 : Int32) then q1 else (q1 + (1 : Int64)))) else (if cnt < (2147483647 : Int32) then q1 else (q1 + (1 : Int64)))))))])) _
      refine XS.ifNo X44.here hx rfl (hb hby at_153) rfl ((if0 _ _).trans (teq ((lw_eq _ _).mpr (own_law2 q1 now cnt hcnt (Or.inl hc8)))).2) ?_
      show Steps p.tables e below (T44.setTop (mkF m 156 #[.val (.long q1), .second, .val (.int p2), .val (.long q3), .second, .val (.int p4), .val (.int cnt), .val (.long now), .second, .val (.ref b32), .val (.ref bb_34), .val (.long (if cnt < (2147483647 : Int32) then q1 else (q1 + (1 : Int64)))), .second, .val (.int (if cnt < (2147483647 : Int32) then (cnt + (1 : Int32)) else (0 : Int32))), .val (.long (if (if cnt < (2147483647 : Int32) then q1 else (q1 + (1 : Int64))) < now then now else (if now = (if cnt < (2147483647 : Int32) then q1 else (q1 + (1 : Int64))) then (if (if cnt < (2147483647 : Int32) then (cnt + (1 : Int32)) else (0 : Int32)) < (0 : Int32) then now else (if cnt < (2147483647 : Int32) then q1 else (q1 + (1 : Int64)))) else (if cnt < (2147483647 : Int32) then q1 else (q1 + (1 : Int64)))))), .second, .val (.int (if (if cnt < (2147483647 : Int32) then q1 else (q1 + (1 : Int64))) < now then (0 : Int32) else (if now = (if cnt < (2147483647 : Int32) then q1 else (q1 + (1 : Int64))) then (if (if cnt < (2147483647 : Int32) then (cnt + (1 : Int32)) else (0 : Int32)) < (0 : Int32) then (0 : Int32) else (if cnt < (2147483647 : Int32) then (cnt + (1 : Int32)) else (0 : Int32))) else (if cnt < (2147483647 : Int32) then (cnt + (1 : Int32)) else (0 : Int32)))))] [])) _
      refine XS.aload X44.here hx rfl (hb hby at_156) rfl rfl ?_
      show Steps p.tables e below (T44.setTop (mkF m 158 #[.val (.long q1), .second, .val (.int p2), .val (.long q3), .second, .val (.int p4), .val (.int cnt), .val (.long now), .second, .val (.ref b32), .val (.ref bb_34), .val (.long (if cnt < (2147483647 : Int32) then q1 else (q1 + (1 : Int64)))), .second, .val (.int (if cnt < (2147483647 : Int32) then (cnt + (1 : Int32)) else (0 : Int32))), .val (.long (if (if cnt < (2147483647 : Int32) then q1 else (q1 + (1 : Int64))) < now then now else (if now = (if cnt < (2147483647 : Int32) then q1 else (q1 + (1 : Int64))) then (if (if cnt < (2147483647 : Int32) then (cnt + (1 : Int32)) else (0 : Int32)) < (0 : Int32) then now else (if cnt < (2147483647 : Int32) then q1 else (q1 + (1 : Int64)))) else (if cnt < (2147483647 : Int32) then q1 else (q1 + (1 : Int64)))))), .second, .val (.int (if (if cnt < (2147483647 : Int32) then q1 else (q1 + (1 : Int64))) < now then (0 : Int32) else (if now = (if cnt < (2147483647 : Int32) then q1 else (q1 + (1 : Int64))) then (if (if cnt < (2147483647 : Int32) then (cnt + (1 : Int32)) else (0 : Int32)) < (0 : Int32) then (0 : Int32) else (if cnt < (2147483647 : Int32) then (cnt + (1 : Int32)) else (0 : Int32))) else (if cnt < (2147483647 : Int32) then (cnt + (1 : Int32)) else (0 : Int32)))))] [(.ref bb_34)])) _
      refine st45.trans ?_
      show Steps p.tables e below (T45.setTop (mkF m 161 #[.val (.long q1), .second, .val (.int p2), .val (.long q3), .second, .val (.int p4), .val (.int cnt), .val (.long now), .second, .val (.ref b32), .val (.ref bb_34), .val (.long (if cnt < (2147483647 : Int32) then q1 else (q1 + (1 : Int64)))), .second, .val (.int (if cnt < (2147483647 : Int32) then (cnt + (1 : Int32)) else (0 : Int32))), .val (.long (if (if cnt < (2147483647 : Int32) then q1 else (q1 + (1 : Int64))) < now then now else (if now = (if cnt < (2147483647 : Int32) then q1 else (q1 + (1 : Int64))) then (if (if cnt < (2147483647 : Int32) then (cnt + (1 : Int32)) else (0 : Int32)) < (0 : Int32) then now else (if cnt < (2147483647 : Int32) then q1 else (q1 + (1 : Int64)))) else (if cnt < (2147483647 : Int32) then q1 else (q1 + (1 : Int64)))))), .second, .val (.int (if (if cnt < (2147483647 : Int32) then q1 else (q1 + (1 : Int64))) < now then (0 : Int32) else (if now = (if cnt < (2147483647 : Int32) then q1 else (q1 + (1 : Int64))) then (if (if cnt < (2147483647 : Int32) then (cnt + (1 : Int32)) else (0 : Int32)) < (0 : Int32) then (0 : Int32) else (if cnt < (2147483647 : Int32) then (cnt + (1 : Int32)) else (0 : Int32))) else (if cnt < (2147483647 : Int32) then (cnt + (1 : Int32)) else (0 : Int32)))))] [(.int (own_nc q1 cnt now))])) _
      refine XS.iload X45.here hx rfl (hb hby at_161) rfl ?_
      show Steps p.tables e below (T45.setTop (mkF m 163 #[.val (.long q1), .second, .val (.int p2), .val (.long q3), .second, .val (.int p4), .val (.int cnt), .val (.long now), .second, .val (.ref b32), .val (.ref bb_34), .val (.long (if cnt < (2147483647 : Int32) then q1 else (q1 + (1 : Int64)))), .second, .val (.int (if cnt < (2147483647 : Int32) then (cnt + (1 : Int32)) else (0 : Int32))), .val (.long (if (if cnt < (2147483647 : Int32) then q1 else (q1 + (1 : Int64))) < now then now else (if now = (if cnt < (2147483647 : Int32) then q1 else (q1 + (1 : Int64))) then (if (if cnt < (2147483647 : Int32) then (cnt + (1 : Int32)) else (0 : Int32)) < (0 : Int32) then now else (if cnt < (2147483647 : Int32) then q1 else (q1 + (1 : Int64)))) else (if cnt < (2147483647 : Int32) then q1 else (q1 + (1 : Int64)))))), .second, .val (.int (if (if cnt < (2147483647 : Int32) then q1 else (q1 + (1 : Int64))) < now then (0 : Int32) else (if now = (if cnt < (2147483647 : Int32) then q1 else (q1 + (1 : Int64))) then (if (if cnt < (2147483647 : Int32) then (cnt + (1 : Int32)) else (0 : Int32)) < (0 : Int32) then (0 : Int32) else (if cnt < (2147483647 : Int32) then (cnt + (1 : Int32)) else (0 : Int32))) else (if cnt < (2147483647 : Int32) then (cnt + (1 : Int32)) else (0 : Int32)))))] [(.int (if (if cnt < (2147483647 : Int32) then q1 else (q1 + (1 : Int64))) < now then (0 : Int32) else (if now = (if cnt < (2147483647 : Int32) then q1 else (q1 + (1 : Int64))) then (if (if cnt < (2147483647 : Int32) then (cnt + (1 : Int32)) else (0 : Int32)) < (0 : Int32) then (0 : Int32) else (if cnt < (2147483647 : Int32) then (cnt + (1 : Int32)) else (0 : Int32))) else (if cnt < (2147483647 : Int32) then (cnt + (1 : Int32)) else (0 : Int32))))), (.int (own_nc q1 cnt now))])) _
      refine XS.icmpNo X45.here hx rfl (hb hby at_163) rfl (teq (own_law3 q1 now cnt hcnt (Or.inl hc8))).2 ?_
      show Steps p.tables e below (T45.setTop (mkF m 166 #[.val (.long q1), .second, .val (.int p2), .val (.long q3), .second, .val (.int p4), .val (.int cnt), .val (.long now), .second, .val (.ref b32), .val (.ref bb_34), .val (.long (if cnt < (2147483647 : Int32) then q1 else (q1 + (1 : Int64)))), .second, .val (.int (if cnt < (2147483647 : Int32) then (cnt + (1 : Int32)) else (0 : Int32))), .val (.long (if (if cnt < (2147483647 : Int32) then q1 else (q1 + (1 : Int64))) < now then now else (if now = (if cnt < (2147483647 : Int32) then q1 else (q1 + (1 : Int64))) then (if (if cnt < (2147483647 : Int32) then (cnt + (1 : Int32)) else (0 : Int32)) < (0 : Int32) then now else (if cnt < (2147483647 : Int32) then q1 else (q1 + (1 : Int64)))) else (if cnt < (2147483647 : Int32) then q1 else (q1 + (1 : Int64)))))), .second, .val (.int (if (if cnt < (2147483647 : Int32) then q1 else (q1 + (1 : Int64))) < now then (0 : Int32) else (if now = (if cnt < (2147483647 : Int32) then q1 else (q1 + (1 : Int64))) then (if (if cnt < (2147483647 : Int32) then (cnt + (1 : Int32)) else (0 : Int32)) < (0 : Int32) then (0 : Int32) else (if cnt < (2147483647 : Int32) then (cnt + (1 : Int32)) else (0 : Int32))) else (if cnt < (2147483647 : Int32) then (cnt + (1 : Int32)) else (0 : Int32)))))] [])) _
      refine XS.aload X45.here hx rfl (hb hby at_166) rfl rfl ?_
      show Steps p.tables e below (T45.setTop (mkF m 168 #[.val (.long q1), .second, .val (.int p2), .val (.long q3), .second, .val (.int p4), .val (.int cnt), .val (.long now), .second, .val (.ref b32), .val (.ref bb_34), .val (.long (if cnt < (2147483647 : Int32) then q1 else (q1 + (1 : Int64)))), .second, .val (.int (if cnt < (2147483647 : Int32) then (cnt + (1 : Int32)) else (0 : Int32))), .val (.long (if (if cnt < (2147483647 : Int32) then q1 else (q1 + (1 : Int64))) < now then now else (if now = (if cnt < (2147483647 : Int32) then q1 else (q1 + (1 : Int64))) then (if (if cnt < (2147483647 : Int32) then (cnt + (1 : Int32)) else (0 : Int32)) < (0 : Int32) then now else (if cnt < (2147483647 : Int32) then q1 else (q1 + (1 : Int64)))) else (if cnt < (2147483647 : Int32) then q1 else (q1 + (1 : Int64)))))), .second, .val (.int (if (if cnt < (2147483647 : Int32) then q1 else (q1 + (1 : Int64))) < now then (0 : Int32) else (if now = (if cnt < (2147483647 : Int32) then q1 else (q1 + (1 : Int64))) then (if (if cnt < (2147483647 : Int32) then (cnt + (1 : Int32)) else (0 : Int32)) < (0 : Int32) then (0 : Int32) else (if cnt < (2147483647 : Int32) then (cnt + (1 : Int32)) else (0 : Int32))) else (if cnt < (2147483647 : Int32) then (cnt + (1 : Int32)) else (0 : Int32)))))] [(.ref b32)])) _
      refine st46.trans ?_
      show Steps p.tables e below (T46.setTop (mkF m 171 #[.val (.long q1), .second, .val (.int p2), .val (.long q3), .second, .val (.int p4), .val (.int cnt), .val (.long now), .second, .val (.ref b32), .val (.ref bb_34), .val (.long (if cnt < (2147483647 : Int32) then q1 else (q1 + (1 : Int64)))), .second, .val (.int (if cnt < (2147483647 : Int32) then (cnt + (1 : Int32)) else (0 : Int32))), .val (.long (if (if cnt < (2147483647 : Int32) then q1 else (q1 + (1 : Int64))) < now then now else (if now = (if cnt < (2147483647 : Int32) then q1 else (q1 + (1 : Int64))) then (if (if cnt < (2147483647 : Int32) then (cnt + (1 : Int32)) else (0 : Int32)) < (0 : Int32) then now else (if cnt < (2147483647 : Int32) then q1 else (q1 + (1 : Int64)))) else (if cnt < (2147483647 : Int32) then q1 else (q1 + (1 : Int64)))))), .second, .val (.int (if (if cnt < (2147483647 : Int32) then q1 else (q1 + (1 : Int64))) < now then (0 : Int32) else (if now = (if cnt < (2147483647 : Int32) then q1 else (q1 + (1 : Int64))) then (if (if cnt < (2147483647 : Int32) then (cnt + (1 : Int32)) else (0 : Int32)) < (0 : Int32) then (0 : Int32) else (if cnt < (2147483647 : Int32) then (cnt + (1 : Int32)) else (0 : Int32))) else (if cnt < (2147483647 : Int32) then (cnt + (1 : Int32)) else (0 : Int32)))))] [(.long q1)])) _
      refine XS.lloadN X46.here hx rfl (hb hby at_171) rfl ?_
      show Steps p.tables e below (T46.setTop (mkF m 172 #[.val (.long q1), .second, .val (.int p2), .val (.long q3), .second, .val (.int p4), .val (.int cnt), .val (.long now), .second, .val (.ref b32), .val (.ref bb_34), .val (.long (if cnt < (2147483647 : Int32) then q1 else (q1 + (1 : Int64)))), .second, .val (.int (if cnt < (2147483647 : Int32) then (cnt + (1 : Int32)) else (0 : Int32))), .val (.long (if (if cnt < (2147483647 : Int32) then q1 else (q1 + (1 : Int64))) < now then now else (if now = (if cnt < (2147483647 : Int32) then q1 else (q1 + (1 : Int64))) then (if (if cnt < (2147483647 : Int32) then (cnt + (1 : Int32)) else (0 : Int32)) < (0 : Int32) then now else (if cnt < (2147483647 : Int32) then q1 else (q1 + (1 : Int64)))) else (if cnt < (2147483647 : Int32) then q1 else (q1 + (1 : Int64)))))), .second, .val (.int (if (if cnt < (2147483647 : Int32) then q1 else (q1 + (1 : Int64))) < now then (0 : Int32) else (if now = (if cnt < (2147483647 : Int32) then q1 else (q1 + (1 : Int64))) then (if (if cnt < (2147483647 : Int32) then (cnt + (1 : Int32)) else (0 : Int32)) < (0 : Int32) then (0 : Int32) else (if cnt < (2147483647 : Int32) then (cnt + (1 : Int32)) else (0 : Int32))) else (if cnt < (2147483647 : Int32) then (cnt + (1 : Int32)) else (0 : Int32)))))] [(.long q1), (.long q1)])) _
      refine XS.lcmp X46.here hx rfl (hb hby at_172) rfl ?_
      show Steps p.tables e below (T46.setTop (mkF m 173 #[.val (.long q1), .second, .val (.int p2), .val (.long q3), .second, .val (.int p4), .val (.int cnt), .val (.long now), .second, .val (.ref b32), .val (.ref bb_34), .val (.long (if cnt < (2147483647 : Int32) then q1 else (q1 + (1 : Int64)))), .second, .val (.int (if cnt < (2147483647 : Int32) then (cnt + (1 : Int32)) else (0 : Int32))), .val (.long (if (if cnt < (2147483647 : Int32) then q1 else (q1 + (1 : Int64))) < now then now else (if now = (if cnt < (2147483647 : Int32) then q1 else (q1 + (1 : Int64))) then (if (if cnt < (2147483647 : Int32) then (cnt + (1 : Int32)) else (0 : Int32)) < (0 : Int32) then now else (if cnt < (2147483647 : Int32) then q1 else (q1 + (1 : Int64)))) else (if cnt < (2147483647 : Int32) then q1 else (q1 + (1 : Int64)))))), .second, .val (.int (if (if cnt < (2147483647 : Int32) then q1 else (q1 + (1 : Int64))) < now then (0 : Int32) else (if now = (if cnt < (2147483647 : Int32) then q1 else (q1 + (1 : Int64))) then (if (if cnt < (2147483647 : Int32) then (cnt + (1 : Int32)) else (0 : Int32)) < (0 : Int32) then (0 : Int32) else (if cnt < (2147483647 : Int32) then (cnt + (1 : Int32)) else (0 : Int32))) else (if cnt < (2147483647 : Int32) then (cnt + (1 : Int32)) else (0 : Int32)))))] [(.int (lcmpW q1 q1))])) _
      refine XS.ifNo X46.here hx rfl (hb hby at_173) rfl ((if0 _ _).trans (teq ((lw_eq _ _).mpr rfl)).2) ?_
      show Steps p.tables e below (T46.setTop (mkF m 176 #[.val (.long q1), .second, .val (.int p2), .val (.long q3), .second, .val (.int p4), .val (.int cnt), .val (.long now), .second, .val (.ref b32), .val (.ref bb_34), .val (.long (if cnt < (2147483647 : Int32) then q1 else (q1 + (1 : Int64)))), .second, .val (.int (if cnt < (2147483647 : Int32) then (cnt + (1 : Int32)) else (0 : Int32))), .val (.long (if (if cnt < (2147483647 : Int32) then q1 else (q1 + (1 : Int64))) < now then now else (if now = (if cnt < (2147483647 : Int32) then q1 else (q1 + (1 : Int64))) then (if (if cnt < (2147483647 : Int32) then (cnt + (1 : Int32)) else (0 : Int32)) < (0 : Int32) then now else (if cnt < (2147483647 : Int32) then q1 else (q1 + (1 : Int64)))) else (if cnt < (2147483647 : Int32) then q1 else (q1 + (1 : Int64)))))), .second, .val (.int (if (if cnt < (2147483647 : Int32) then q1 else (q1 + (1 : Int64))) < now then (0 : Int32) else (if now = (if cnt < (2147483647 : Int32) then q1 else (q1 + (1 : Int64))) then (if (if cnt < (2147483647 : Int32) then (cnt + (1 : Int32)) else (0 : Int32)) < (0 : Int32) then (0 : Int32) else (if cnt < (2147483647 : Int32) then (cnt + (1 : Int32)) else (0 : Int32))) else (if cnt < (2147483647 : Int32) then (cnt + (1 : Int32)) else (0 : Int32)))))] [])) _
      refine XS.aload X46.here hx rfl (hb hby at_176) rfl rfl ?_
      show Steps p.tables e below (T46.setTop (mkF m 178 #[.val (.long q1), .second, .val (.int p2), .val (.long q3), .second, .val (.int p4), .val (.int cnt), .val (.long now), .second, .val (.ref b32), .val (.ref bb_34), .val (.long (if cnt < (2147483647 : Int32) then q1 else (q1 + (1 : Int64)))), .second, .val (.int (if cnt < (2147483647 : Int32) then (cnt + (1 : Int32)) else (0 : Int32))), .val (.long (if (if cnt < (2147483647 : Int32) then q1 else (q1 + (1 : Int64))) < now then now else (if now = (if cnt < (2147483647 : Int32) then q1 else (q1 + (1 : Int64))) then (if (if cnt < (2147483647 : Int32) then (cnt + (1 : Int32)) else (0 : Int32)) < (0 : Int32) then now else (if cnt < (2147483647 : Int32) then q1 else (q1 + (1 : Int64)))) else (if cnt < (2147483647 : Int32) then q1 else (q1 + (1 : Int64)))))), .second, .val (.int (if (if cnt < (2147483647 : Int32) then q1 else (q1 + (1 : Int64))) < now then (0 : Int32) else (if now = (if cnt < (2147483647 : Int32) then q1 else (q1 + (1 : Int64))) then (if (if cnt < (2147483647 : Int32) then (cnt + (1 : Int32)) else (0 : Int32)) < (0 : Int32) then (0 : Int32) else (if cnt < (2147483647 : Int32) then (cnt + (1 : Int32)) else (0 : Int32))) else (if cnt < (2147483647 : Int32) then (cnt + (1 : Int32)) else (0 : Int32)))))] [(.ref b32)])) _
      refine st49.trans ?_
      show Steps p.tables e below (T49.setTop (mkF m 181 #[.val (.long q1), .second, .val (.int p2), .val (.long q3), .second, .val (.int p4), .val (.int cnt), .val (.long now), .second, .val (.ref b32), .val (.ref bb_34), .val (.long (if cnt < (2147483647 : Int32) then q1 else (q1 + (1 : Int64)))), .second, .val (.int (if cnt < (2147483647 : Int32) then (cnt + (1 : Int32)) else (0 : Int32))), .val (.long (if (if cnt < (2147483647 : Int32) then q1 else (q1 + (1 : Int64))) < now then now else (if now = (if cnt < (2147483647 : Int32) then q1 else (q1 + (1 : Int64))) then (if (if cnt < (2147483647 : Int32) then (cnt + (1 : Int32)) else (0 : Int32)) < (0 : Int32) then now else (if cnt < (2147483647 : Int32) then q1 else (q1 + (1 : Int64)))) else (if cnt < (2147483647 : Int32) then q1 else (q1 + (1 : Int64)))))), .second, .val (.int (if (if cnt < (2147483647 : Int32) then q1 else (q1 + (1 : Int64))) < now then (0 : Int32) else (if now = (if cnt < (2147483647 : Int32) then q1 else (q1 + (1 : Int64))) then (if (if cnt < (2147483647 : Int32) then (cnt + (1 : Int32)) else (0 : Int32)) < (0 : Int32) then (0 : Int32) else (if cnt < (2147483647 : Int32) then (cnt + (1 : Int32)) else (0 : Int32))) else (if cnt < (2147483647 : Int32) then (cnt + (1 : Int32)) else (0 : Int32)))))] [(.int cnt)])) _
      refine XS.iload X49.here hx rfl (hb hby at_181) rfl ?_
      show Steps p.tables e below (T49.setTop (mkF m 183 #[.val (.long q1), .second, .val (.int p2), .val (.long q3), .second, .val (.int p4), .val (.int cnt), .val (.long now), .second, .val (.ref b32), .val (.ref bb_34), .val (.long (if cnt < (2147483647 : Int32) then q1 else (q1 + (1 : Int64)))), .second, .val (.int (if cnt < (2147483647 : Int32) then (cnt + (1 : Int32)) else (0 : Int32))), .val (.long (if (if cnt < (2147483647 : Int32) then q1 else (q1 + (1 : Int64))) < now then now else (if now = (if cnt < (2147483647 : Int32) then q1 else (q1 + (1 : Int64))) then (if (if cnt < (2147483647 : Int32) then (cnt + (1 : Int32)) else (0 : Int32)) < (0 : Int32) then now else (if cnt < (2147483647 : Int32) then q1 else (q1 + (1 : Int64)))) else (if cnt < (2147483647 : Int32) then q1 else (q1 + (1 : Int64)))))), .second, .val (.int (if (if cnt < (2147483647 : Int32) then q1 else (q1 + (1 : Int64))) < now then (0 : Int32) else (if now = (if cnt < (2147483647 : Int32) then q1 else (q1 + (1 : Int64))) then (if (if cnt < (2147483647 : Int32) then (cnt + (1 : Int32)) else (0 : Int32)) < (0 : Int32) then (0 : Int32) else (if cnt < (2147483647 : Int32) then (cnt + (1 : Int32)) else (0 : Int32))) else (if cnt < (2147483647 : Int32) then (cnt + (1 : Int32)) else (0 : Int32)))))] [(.int cnt), (.int cnt)])) _
      refine XS.icmpNo X49.here hx rfl (hb hby at_183) rfl (teq rfl).2 ?_
      show Steps p.tables e below (T49.setTop (mkF m 186 #[.val (.long q1), .second, .val (.int p2), .val (.long q3), .second, .val (.int p4), .val (.int cnt), .val (.long now), .second, .val (.ref b32), .val (.ref bb_34), .val (.long (if cnt < (2147483647 : Int32) then q1 else (q1 + (1 : Int64)))), .second, .val (.int (if cnt < (2147483647 : Int32) then (cnt + (1 : Int32)) else (0 : Int32))), .val (.long (if (if cnt < (2147483647 : Int32) then q1 else (q1 + (1 : Int64))) < now then now else (if now = (if cnt < (2147483647 : Int32) then q1 else (q1 + (1 : Int64))) then (if (if cnt < (2147483647 : Int32) then (cnt + (1 : Int32)) else (0 : Int32)) < (0 : Int32) then now else (if cnt < (2147483647 : Int32) then q1 else (q1 + (1 : Int64)))) else (if cnt < (2147483647 : Int32) then q1 else (q1 + (1 : Int64)))))), .second, .val (.int (if (if cnt < (2147483647 : Int32) then q1 else (q1 + (1 : Int64))) < now then (0 : Int32) else (if now = (if cnt < (2147483647 : Int32) then q1 else (q1 + (1 : Int64))) then (if (if cnt < (2147483647 : Int32) then (cnt + (1 : Int32)) else (0 : Int32)) < (0 : Int32) then (0 : Int32) else (if cnt < (2147483647 : Int32) then (cnt + (1 : Int32)) else (0 : Int32))) else (if cnt < (2147483647 : Int32) then (cnt + (1 : Int32)) else (0 : Int32)))))] [])) _
      refine XS.iconst X49.here hx rfl (hb hby at_186) ?_
      show Steps p.tables e below (T49.setTop (mkF m 187 #[.val (.long q1), .second, .val (.int p2), .val (.long q3), .second, .val (.int p4), .val (.int cnt), .val (.long now), .second, .val (.ref b32), .val (.ref bb_34), .val (.long (if cnt < (2147483647 : Int32) then q1 else (q1 + (1 : Int64)))), .second, .val (.int (if cnt < (2147483647 : Int32) then (cnt + (1 : Int32)) else (0 : Int32))), .val (.long (if (if cnt < (2147483647 : Int32) then q1 else (q1 + (1 : Int64))) < now then now else (if now = (if cnt < (2147483647 : Int32) then q1 else (q1 + (1 : Int64))) then (if (if cnt < (2147483647 : Int32) then (cnt + (1 : Int32)) else (0 : Int32)) < (0 : Int32) then now else (if cnt < (2147483647 : Int32) then q1 else (q1 + (1 : Int64)))) else (if cnt < (2147483647 : Int32) then q1 else (q1 + (1 : Int64)))))), .second, .val (.int (if (if cnt < (2147483647 : Int32) then q1 else (q1 + (1 : Int64))) < now then (0 : Int32) else (if now = (if cnt < (2147483647 : Int32) then q1 else (q1 + (1 : Int64))) then (if (if cnt < (2147483647 : Int32) then (cnt + (1 : Int32)) else (0 : Int32)) < (0 : Int32) then (0 : Int32) else (if cnt < (2147483647 : Int32) then (cnt + (1 : Int32)) else (0 : Int32))) else (if cnt < (2147483647 : Int32) then (cnt + (1 : Int32)) else (0 : Int32)))))] [(.int (1 : Int32))])) _
      refine XS.goto X49.here hx rfl (pc0 := 187) (pc' := 191) rfl (hb hby at_187) (by decide) (by decide) ?_
      show Steps p.tables e below (T49.setTop (mkF m 191 #[.val (.long q1), .second, .val (.int p2), .val (.long q3), .second, .val (.int p4), .val (.int cnt), .val (.long now), .second, .val (.ref b32), .val (.ref bb_34), .val (.long (if cnt < (2147483647 : Int32) then q1 else (q1 + (1 : Int64)))), .second, .val (.int (if cnt < (2147483647 : Int32) then (cnt + (1 : Int32)) else (0 : Int32))), .val (.long (if (if cnt < (2147483647 : Int32) then q1 else (q1 + (1 : Int64))) < now then now else (if now = (if cnt < (2147483647 : Int32) then q1 else (q1 + (1 : Int64))) then (if (if cnt < (2147483647 : Int32) then (cnt + (1 : Int32)) else (0 : Int32)) < (0 : Int32) then now else (if cnt < (2147483647 : Int32) then q1 else (q1 + (1 : Int64)))) else (if cnt < (2147483647 : Int32) then q1 else (q1 + (1 : Int64)))))), .second, .val (.int (if (if cnt < (2147483647 : Int32) then q1 else (q1 + (1 : Int64))) < now then (0 : Int32) else (if now = (if cnt < (2147483647 : Int32) then q1 else (q1 + (1 : Int64))) then (if (if cnt < (2147483647 : Int32) then (cnt + (1 : Int32)) else (0 : Int32)) < (0 : Int32) then (0 : Int32) else (if cnt < (2147483647 : Int32) then (cnt + (1 : Int32)) else (0 : Int32))) else (if cnt < (2147483647 : Int32) then (cnt + (1 : Int32)) else (0 : Int32)))))] [(.int (1 : Int32))])) _
      exact retN X49 hx (t := .boolean) Bd.returns (by simp) (hb hby at_191) hr
    · show Q_rm0 Z q1 p2 q3 p4 h0 n0 _ T49.heap _
      rw [e49]
      exact ⟨rfl, N49, K34⟩
set_option maxRecDepth 65536 in
set_option maxHeartbeats 40000000 in
theorem comes_1 {Post : Tables → Env → Array Value → State → Outcome → State → Prop} (hpost : ∀ tb e args s v u, (limb_1_1.after args s (.returned v) u = true ∧ limb_1_2.after args s (.returned v) u = true ∧ True) → FrameEnd s (.returned v) u (Jvm.fieldLocs frame_1_writes args s ++ Jvm.arrayLocs frame_1_arrays args s ++ Jvm.staticLocs frame_1_statics s) 16 128 → Post tb e args s (.returned v) u) :
    ArmFor flags0 classFile x code maxLocals ret World_1 tables_1 room_1 Calls_1 rest_1 Pre_1 Post := by
  intro l hfl _ _ p e ha hc hk s m args below hf hA hF happ hP
  obtain ⟨hcalls, hrest, hpre⟩ := hP
  obtain ⟨-, -, -, hnamed, -, -, -, hat⟩ := (Spec.applies_iff hf).mp happ
  obtain ⟨hg, hn⟩ := and_e (Cond.before_iff.mp (show (Jvm.Cond.and given_1 narrow_1).before args s = true from hpre))
  obtain ⟨g1, g2⟩ := and_e hg
  obtain ⟨g3, g4⟩ := and_e g2
  obtain ⟨g5, g6⟩ := and_e g4
  obtain ⟨g7, g8⟩ := and_e g6
  obtain ⟨w0, w1, w2, w3, rfl⟩ : ∃ w0 w1 w2 w3 : Value, args = #[w0, w1, w2, w3] := by
    have hs : args.size = 4 := by simpa [Cond.value, given_1] using g1
    obtain ⟨L⟩ := args
    match L, hs with
    | [w0, w1, w2, w3], _ => exact ⟨w0, w1, w2, w3, rfl⟩
  have hw0 := fun d (hd : d ∈ tables_1) => atoms_spec (ws := Jvm.Cond.code x code maxLocals ret :: tables_1) hat d (List.mem_cons_of_mem _ hd)
  have hfit : Fit s := fun {y c} hc i hi => by
    obtain ⟨ha, rfl⟩ := Array.getElem?_eq_some_iff.mp hc
    have q := List.all_eq_true.mp ((Array.all_eq_true_iff_forall_mem.mp hF) _ (Array.getElem_mem ha)) i (List.mem_range.mpr hi)
    simpa [Array.getElem?_eq_getElem hi] using q
  have hw := hw0
  obtain ⟨i0, ei0⟩ := isL_v g3
  obtain rfl : w0 = (.long i0) := Option.some.inj ei0
  obtain ⟨i1, ei1⟩ := is_v g5
  obtain rfl : w1 = (.int i1) := Option.some.inj ei1
  obtain ⟨i2, ei2⟩ := isL_v g7
  obtain rfl : w2 = (.long i2) := Option.some.inj ei2
  obtain ⟨i3, ei3⟩ := is_v g8
  obtain rfl : w3 = (.int i3) := Option.some.inj ei3
  obtain ⟨n, o, h1, h2, h3, _, L, rfl, ⟨rfl, N, -⟩, hq⟩ := rm0 l s _ hw tables_1 i0 i1 i2 i3 s.heap s.heap.size (Nat.le_refl _)  p e ha hc hk s m _ below hf ((Spec.applies_iff_loose hf).mp happ).1 ⟨rfl, State.Warmed39.refl s, rfl⟩ trivial
  refine ⟨n, _, h1, h2, h3, hpost _ _ _ _ _ _ ⟨Cond.after_iff.mpr rfl, Cond.after_iff.mpr (eq_i res_at (Term.int_eval (1)) rfl), trivial⟩ ⟨hq.1, hq.2.1, (hq.2.2.sift fun y hy => Or.inr (N y hy)).mono (by decide) (by decide)⟩⟩
theorem main_1_1 : Claimed_1_1 := comes_1 fun _ _ _ _ _ _ h hF => ⟨h.1, hF⟩
theorem main_1_2 : Claimed_1_2 := comes_1 fun _ _ _ _ _ _ h hF => ⟨h.2.1, hF⟩
end Jvm.Pilot.@@N@@
namespace Jvm.Pilot.@@N@@
open Jvm Jvm.ClassFile Sem Op Lib Jvm.Free Jvm.Stand Jvm.Pilot.@@N@@.Jvm.D
/-! MADE BY PROGRAM (witnessworld.py) out of the Statement's table words and the real class files: 11 classes; the members and pool entries that the words name. The judged class is class 1, her method 1. -/
namespace start1
open Jvm.ClassFile
def u (s : String) : CpInfo := .utf8 (stringToUtf16 s)
/-- a pool by its gaps: so many unusable entries, then the entry; so many at the end -/
def gap : Nat → List CpInfo → List CpInfo
  | 0, r => r
  | n + 1, r => .unusable :: gap n r
def poolList (es : List (Nat × CpInfo)) (last : Nat) : List CpInfo := es.foldr (fun e r => gap e.1 (e.2 :: r)) (gap last [])
def pool (es : List (Nat × CpInfo)) (last : Nat) : Array CpInfo := ⟨poolList es last⟩
def fileOf (pool : Array CpInfo) (this : Nat) (attrs : Array Attribute := #[]) (ms : Array MethodInfo := #[]) (fl : Nat := 33) (sup : Nat := 0) (ifs : Array Nat := #[]) (fds : Array FieldInfo := #[]) : ClassFile where
  minorVersion := 0
  majorVersion := 65
  constantPool := pool
  accessFlags := fl
  thisClass := this
  superClass := sup
  interfaces := ifs
  fields := fds
  methods := ms
  attributes := attrs
def plain (name : String) (sup : Option ClassId) : Class where
  name := name
  kind := .ordinary
  loader := none
  accessFlags := 33
  super := sup
  interfaces := #[]
  cf := none
  fields := #[]
  methods := #[]
  instanceTypes := #[]
  staticTypes := #[]
  resolved := #[]
  callSites := []
  init := .initialized
  statics := none
  mirror := none

def pool0 : Array CpInfo := pool [(5, u "<init>"), (0, u "()V"), (1, .class_ 10), (1, u "java/lang/Object")] 113

def k0c0 : Code := { maxStack := 0, maxLocals := 1, code := object_method_1_code, exceptionTable := #[], attributes := #[] }
def k0m0 : Method := { name := "<init>", desc := "()V", sig := { parameters := [], returnType := none }, accessFlags := 1, code := some k0c0 }
/-- java/lang/Object -/
def k0 : Class := { plain "java/lang/Object" none with
  accessFlags := 33
  interfaces := #[]
  cf := some (fileOf pool0 8 #[] #[{ accessFlags := 1, nameIndex := 5, descriptorIndex := 6, attributes := #[] }] 33 0 #[] #[])
  fields := #[]
  methods := #[k0m0]
  instanceTypes := #[]
  staticTypes := #[]
  resolved := Array.replicate 124 none
  statics := none }

def pool1 : Array CpInfo := pool [(2, .class_ 4), (1, u "java/lang/Object"), (0, u "<init>"), (0, u "()V"), (2, .integer 2147483647), (0, .long 3), (3, .long 9223372036854775807), (1, .class_ 17), (0, u "com/example/tidemark/tidemark/store/Stamp"), (0, .methodref 16 19), (0, .nameAndType 5 20), (0, u "(JI)V"), (0, .methodref 16 22), (0, .nameAndType 23 24), (0, u "next"), (0, u "(J)Lcom/example/tidemark/tidemark/store/Stamp;"), (0, .methodref 16 26), (0, .nameAndType 27 28), (0, u "millis"), (0, u "()J"), (0, .methodref 16 30), (0, .nameAndType 31 32), (0, u "counter"), (0, u "()I"), (0, .class_ 34), (0, u "com/example/tidemark/tidemark/store/StampNextPinLaw"), (2, u "law"), (0, u "(JIJI)Z")] 3

def k1m0 : Method := { name := "<init>", desc := "()V", sig := { parameters := [], returnType := none }, accessFlags := 1, code := none }
def k1c1 : Code := { maxStack := 6, maxLocals := 17, code := code, exceptionTable := #[], attributes := #[] }
def k1m1 : Method := { name := "law", desc := "(JIJI)Z", sig := { parameters := [.long, .int, .long, .int], returnType := some .boolean }, accessFlags := 9, code := some k1c1 }
/-- com/example/tidemark/tidemark/store/StampNextPinLaw -/
def k1 : Class := { plain "com/example/tidemark/tidemark/store/StampNextPinLaw" (some 0) with
  accessFlags := 49
  interfaces := #[]
  cf := some (fileOf pool1 33 #[] #[{ accessFlags := 1, nameIndex := 5, descriptorIndex := 6, attributes := #[] }, { accessFlags := 9, nameIndex := 37, descriptorIndex := 38, attributes := #[] }] 49 2 #[] #[])
  fields := #[]
  methods := #[k1m0, k1m1]
  instanceTypes := #[]
  staticTypes := #[]
  resolved := Array.replicate 42 none
  statics := none }

def pool2 : Array CpInfo := pool [(1, .methodref 2 3), (0, .class_ 4), (0, .nameAndType 5 6), (0, u "java/lang/Object"), (0, u "<init>"), (0, u "()V"), (0, .class_ 8), (0, u "java/lang/Record")] 13

def k2c0 : Code := { maxStack := 1, maxLocals := 1, code := jdk_30_method_1_code, exceptionTable := #[], attributes := #[] }
def k2m0 : Method := { name := "<init>", desc := "()V", sig := { parameters := [], returnType := none }, accessFlags := 4, code := some k2c0 }
/-- java/lang/Record -/
def k2 : Class := { plain "java/lang/Record" (some 0) with
  accessFlags := 1057
  interfaces := #[]
  cf := some (fileOf pool2 7 #[] #[{ accessFlags := 4, nameIndex := 5, descriptorIndex := 6, attributes := #[] }] 1057 2 #[] #[])
  fields := #[]
  methods := #[k2m0]
  instanceTypes := #[]
  staticTypes := #[]
  resolved := Array.replicate 22 none
  statics := none }

def pool3 : Array CpInfo := pool [(1, .class_ 2), (0, u "java/lang/Comparable"), (0, .class_ 4), (0, u "java/lang/Object")] 7

/-- java/lang/Comparable -/
def k3 : Class := { plain "java/lang/Comparable" (some 0) with
  accessFlags := 1537
  interfaces := #[]
  cf := some (fileOf pool3 1 #[] #[] 1537 3 #[] #[])
  fields := #[]
  methods := #[]
  instanceTypes := #[]
  staticTypes := #[]
  resolved := Array.replicate 12 none
  statics := none }

def pool4 : Array CpInfo := pool [(1, .methodref 2 3), (0, .class_ 4), (0, .nameAndType 5 6), (0, u "java/lang/Record"), (0, u "<init>"), (0, u "()V"), (0, .fieldref 8 9), (0, .class_ 10), (0, .nameAndType 11 12), (0, u "com/example/tidemark/tidemark/store/Stamp"), (0, u "millis"), (0, u "J"), (0, .fieldref 8 14), (0, .nameAndType 15 16), (0, u "counter"), (0, u "I"), (2, u "TIME"), (0, u "Ljava/time/format/DateTimeFormatter;"), (15, u "()J"), (0, .methodref 8 38), (0, .nameAndType 5 39), (0, u "(JI)V"), (11, .integer 2147483647), (2, u "ORDER"), (0, u "Ljava/util/Comparator;"), (71, .class_ 128), (0, u "java/lang/Comparable"), (8, u "next"), (0, u "(J)Lcom/example/tidemark/tidemark/store/Stamp;"), (3, u "()I")] 52

def k4c0 : Code := { maxStack := 3, maxLocals := 4, code := prog_37_method_1_code, exceptionTable := #[], attributes := #[] }
def k4m0 : Method := { name := "<init>", desc := "(JI)V", sig := { parameters := [.long, .int], returnType := none }, accessFlags := 1, code := some k4c0 }
def k4c1 : Code := { maxStack := 6, maxLocals := 3, code := prog_37_method_3_code, exceptionTable := #[], attributes := #[] }
def k4m1 : Method := { name := "next", desc := "(J)Lcom/example/tidemark/tidemark/store/Stamp;", sig := { parameters := [.long], returnType := some (.object "com/example/tidemark/tidemark/store/Stamp") }, accessFlags := 0, code := some k4c1 }
def k4c2 : Code := { maxStack := 2, maxLocals := 1, code := prog_37_method_9_code, exceptionTable := #[], attributes := #[] }
def k4m2 : Method := { name := "millis", desc := "()J", sig := { parameters := [], returnType := some .long }, accessFlags := 1, code := some k4c2 }
def k4c3 : Code := { maxStack := 1, maxLocals := 1, code := prog_37_method_10_code, exceptionTable := #[], attributes := #[] }
def k4m3 : Method := { name := "counter", desc := "()I", sig := { parameters := [], returnType := some .int }, accessFlags := 1, code := some k4c3 }
/-- com/example/tidemark/tidemark/store/Stamp -/
def k4 : Class := { plain "com/example/tidemark/tidemark/store/Stamp" (some 2) with
  accessFlags := 49
  interfaces := #[3]
  cf := some (fileOf pool4 8 #[] #[{ accessFlags := 1, nameIndex := 5, descriptorIndex := 39, attributes := #[] }, { accessFlags := 0, nameIndex := 137, descriptorIndex := 138, attributes := #[] }, { accessFlags := 1, nameIndex := 11, descriptorIndex := 36, attributes := #[] }, { accessFlags := 1, nameIndex := 15, descriptorIndex := 142, attributes := #[] }] 49 2 #[127] #[{ accessFlags := 18, nameIndex := 11, descriptorIndex := 12, attributes := #[] }, { accessFlags := 18, nameIndex := 15, descriptorIndex := 16, attributes := #[] }, { accessFlags := 26, nameIndex := 19, descriptorIndex := 20, attributes := #[] }, { accessFlags := 26, nameIndex := 54, descriptorIndex := 55, attributes := #[] }])
  fields := #[{ name := "millis", type := .long, accessFlags := 18, slot := 0, constantValue := 0 }, { name := "counter", type := .int, accessFlags := 18, slot := 1, constantValue := 0 }, { name := "TIME", type := (.object "java/time/format/DateTimeFormatter"), accessFlags := 26, slot := 0, constantValue := 0 }, { name := "ORDER", type := (.object "java/util/Comparator"), accessFlags := 26, slot := 1, constantValue := 0 }]
  methods := #[k4m0, k4m1, k4m2, k4m3]
  instanceTypes := #[.long, .int]
  staticTypes := #[(.object "java/time/format/DateTimeFormatter"), (.object "java/util/Comparator")]
  resolved := Array.replicate 195 none
  statics := none }

def pool5 : Array CpInfo := pool [(1, u "java/lang/Cloneable"), (0, .class_ 1), (0, u "java/lang/Object"), (0, .class_ 3)] 3

/-- java/lang/Cloneable -/
def k5 : Class := { plain "java/lang/Cloneable" (some 0) with
  accessFlags := 1537
  interfaces := #[]
  cf := some (fileOf pool5 2 #[] #[] 1537 4 #[] #[])
  fields := #[]
  methods := #[]
  instanceTypes := #[]
  staticTypes := #[]
  resolved := Array.replicate 8 none
  statics := none }

def pool6 : Array CpInfo := pool [(1, u "java/io/Serializable"), (0, .class_ 1), (0, u "java/lang/Object"), (0, .class_ 3)] 3

/-- java/io/Serializable -/
def k6 : Class := { plain "java/io/Serializable" (some 0) with
  accessFlags := 1537
  interfaces := #[]
  cf := some (fileOf pool6 2 #[] #[] 1537 4 #[] #[])
  fields := #[]
  methods := #[]
  instanceTypes := #[]
  staticTypes := #[]
  resolved := Array.replicate 8 none
  statics := none }

/-- the primitive byte -/
def k7 : Class := { plain "byte" none with kind := .primitive 'B', accessFlags := 0x411 }
/-- [B -/
def k8 : Class := { plain "[B" (some 0) with kind := .array 7 .byte, interfaces := #[5, 6], accessFlags := 1041 }

/-- the primitive int -/
def k9 : Class := { plain "int" none with kind := .primitive 'I', accessFlags := 0x411 }
/-- [I -/
def k10 : Class := { plain "[I" (some 0) with kind := .array 9 .int, interfaces := #[5, 6], accessFlags := 1041 }

def heap : Heap := #[]
def classes : Array Class := #[k0, k1, k2, k3, k4, k5, k6, k7, k8, k9, k10]
def interned : List (Array UInt16 × Addr) := []
def slotsUsed : Nat := 0
def theMethod : MethodId := ⟨1, 1⟩
def args0 : Array Value := #[.long 5, .int 6, .long 7, .int 0]
def aboutOver (below : List Frame) : State where
  vm := { classes := classes, interned := interned.toArray }
  heap := heap
  slotsUsed := slotsUsed
  threads := #[{ frames := .invoking theMethod args0 :: below }]
def below0 : List Frame := [.native { method := ⟨0, 0⟩, args := #[] }]
def about1 : State := aboutOver below0
def p0 : Program := .bare "" "" ""
def e0 : Env := launch0.env 0 0 0
theorem w_frames : about1.frames = Frame.invoking theMethod args0 :: below0 := rfl
set_option maxRecDepth 65536 in
theorem w_args : argsFit about1.vm theMethod args0 = true := by decide +kernel
set_option maxRecDepth 65536 in
theorem w_heap : heapFits about1 = true := by decide +kernel
set_option maxRecDepth 65536 in
theorem w_runnable : about1.curStatus? = some .runnable := by decide +kernel
set_option maxRecDepth 65536 in
theorem w_alone : about1.alone = true := by decide +kernel
set_option maxRecDepth 65536 in
theorem w_named : about1.methodNamed? x = some theMethod := by decide +kernel
set_option maxRecDepth 65536 in
theorem w_hears : about1.hears theMethod below0 = true := by decide +kernel
set_option maxRecDepth 65536 in
theorem w_ripe : about1.ripe theMethod args0 below0 = true := by decide +kernel
theorem w_running : about1.status = .running := rfl
set_option maxRecDepth 65536 in
theorem w_room : about1.hasRoom e0.platform room_1 = true :=
  launch0.hasRoom_least _ room_1 (by decide +kernel) (by decide +kernel) (by decide +kernel) (by decide +kernel) (by decide +kernel) (by decide +kernel)
theorem allAtoms_all (ts : List Jvm.Cond) (a : Array Jvm.Value) (st : Jvm.State) : (allAtoms ts).before a st = ts.all (fun c => c.before a st) := by
  induction ts with
  | nil => rfl
  | cons c t ih =>
    show (Jvm.Cond.and c (allAtoms t)).before a st = _
    rw [Jvm.Cond.before_and, ih, List.all_cons]
def words1 : List Jvm.Cond := Jvm.Cond.code x code maxLocals ret :: tables_1
/-- a 'code' word, met by the world's own term for the bytes: nothing is compared byte by byte -/
theorem code_word {y : MethodName} {bytes : ByteArray} {mx : Nat} {rt : Option FieldType} {a : Array Value} {s : State} {m : MethodId} {meth : Method} {c : Code} (h1 : s.methodNamed? y = some m) (h2 : s.vm.method? m = some meth) (h3 : meth.code = some c) (h4 : c.code = bytes)
    (h5 : (c.maxLocals == mx && c.exceptionTable.isEmpty && decide (c.maxStack ≤ mostOperands) && decide (meth.sig.returnType = rt) && !meth.locks && decide (parseMethodDescriptor y.desc = some meth.sig)) = true) : (Jvm.Cond.code y bytes mx rt).before a s = true := by
  simp only [Bool.and_eq_true, beq_iff_eq, Bool.not_eq_true', decide_eq_true_eq] at h5
  obtain ⟨⟨⟨⟨⟨g1, g2⟩, g3⟩, g4⟩, g5⟩, g6⟩ := h5
  simp [Cond.before, Cond.holds, Cond.value, h1, h2, h3, h4, g1, g2, g3, g4, g5, g6]
def isCode : Jvm.Cond → Bool
  | .code _ _ _ _ => true
  | _ => false
theorem all_split {L : List Jvm.Cond} {P : Jvm.Cond → Bool} (h1 : L.all (fun c => isCode c || P c) = true) (h2 : ∀ c ∈ L.filter isCode, P c = true) : L.all P = true := by
  refine List.all_eq_true.mpr fun c hc => ?_
  have h := List.all_eq_true.mp h1 c hc
  rcases Bool.eq_false_or_eq_true (isCode c) with hi | hi
  · exact h2 c (List.mem_filter.mpr ⟨hc, hi⟩)
  · simpa [hi] using h
set_option maxRecDepth 65536 in
theorem w_c0 : (Jvm.Cond.code x code maxLocals ret).before args0 about1 = true := code_word (m := ⟨1, 1⟩) (meth := k1m1) (c := k1c1) (by decide +kernel) rfl rfl rfl (by decide +kernel)
set_option maxRecDepth 65536 in
theorem w_c1 : (Jvm.Cond.code ({ cls := "com/example/tidemark/tidemark/store/Stamp", name := "<init>", desc := "(JI)V" } : Jvm.MethodName) prog_37_method_1_code (4 : Nat) (Option.none : Option Jvm.ClassFile.FieldType)).before args0 about1 = true := code_word (m := ⟨4, 0⟩) (meth := k4m0) (c := k4c0) (by decide +kernel) rfl rfl rfl (by decide +kernel)
set_option maxRecDepth 65536 in
theorem w_c2 : (Jvm.Cond.code ({ cls := "java/lang/Record", name := "<init>", desc := "()V" } : Jvm.MethodName) jdk_30_method_1_code (1 : Nat) (Option.none : Option Jvm.ClassFile.FieldType)).before args0 about1 = true := code_word (m := ⟨2, 0⟩) (meth := k2m0) (c := k2c0) (by decide +kernel) rfl rfl rfl (by decide +kernel)
set_option maxRecDepth 65536 in
theorem w_c3 : (Jvm.Cond.code ({ cls := "java/lang/Object", name := "<init>", desc := "()V" } : Jvm.MethodName) object_method_1_code (1 : Nat) (Option.none : Option Jvm.ClassFile.FieldType)).before args0 about1 = true := code_word (m := ⟨0, 0⟩) (meth := k0m0) (c := k0c0) (by decide +kernel) rfl rfl rfl (by decide +kernel)
set_option maxRecDepth 65536 in
theorem w_c4 : (Jvm.Cond.code ({ cls := "com/example/tidemark/tidemark/store/Stamp", name := "next", desc := "(J)Lcom/example/tidemark/tidemark/store/Stamp;" } : Jvm.MethodName) prog_37_method_3_code (3 : Nat) (Option.some (Jvm.ClassFile.FieldType.object "com/example/tidemark/tidemark/store/Stamp"))).before args0 about1 = true := code_word (m := ⟨4, 1⟩) (meth := k4m1) (c := k4c1) (by decide +kernel) rfl rfl rfl (by decide +kernel)
set_option maxRecDepth 65536 in
theorem w_c5 : (Jvm.Cond.code ({ cls := "com/example/tidemark/tidemark/store/Stamp", name := "millis", desc := "()J" } : Jvm.MethodName) prog_37_method_9_code (1 : Nat) (Option.some Jvm.ClassFile.FieldType.long)).before args0 about1 = true := code_word (m := ⟨4, 2⟩) (meth := k4m2) (c := k4c2) (by decide +kernel) rfl rfl rfl (by decide +kernel)
set_option maxRecDepth 65536 in
theorem w_c6 : (Jvm.Cond.code ({ cls := "com/example/tidemark/tidemark/store/Stamp", name := "counter", desc := "()I" } : Jvm.MethodName) prog_37_method_10_code (1 : Nat) (Option.some Jvm.ClassFile.FieldType.int)).before args0 about1 = true := code_word (m := ⟨4, 3⟩) (meth := k4m3) (c := k4c3) (by decide +kernel) rfl rfl rfl (by decide +kernel)
def codes1 : List Jvm.Cond := [Jvm.Cond.code x code maxLocals ret, Jvm.Cond.code ({ cls := "com/example/tidemark/tidemark/store/Stamp", name := "<init>", desc := "(JI)V" } : Jvm.MethodName) prog_37_method_1_code (4 : Nat) (Option.none : Option Jvm.ClassFile.FieldType), Jvm.Cond.code ({ cls := "java/lang/Record", name := "<init>", desc := "()V" } : Jvm.MethodName) jdk_30_method_1_code (1 : Nat) (Option.none : Option Jvm.ClassFile.FieldType), Jvm.Cond.code ({ cls := "java/lang/Object", name := "<init>", desc := "()V" } : Jvm.MethodName) object_method_1_code (1 : Nat) (Option.none : Option Jvm.ClassFile.FieldType), Jvm.Cond.code ({ cls := "com/example/tidemark/tidemark/store/Stamp", name := "next", desc := "(J)Lcom/example/tidemark/tidemark/store/Stamp;" } : Jvm.MethodName) prog_37_method_3_code (3 : Nat) (Option.some (Jvm.ClassFile.FieldType.object "com/example/tidemark/tidemark/store/Stamp")), Jvm.Cond.code ({ cls := "com/example/tidemark/tidemark/store/Stamp", name := "millis", desc := "()J" } : Jvm.MethodName) prog_37_method_9_code (1 : Nat) (Option.some Jvm.ClassFile.FieldType.long), Jvm.Cond.code ({ cls := "com/example/tidemark/tidemark/store/Stamp", name := "counter", desc := "()I" } : Jvm.MethodName) prog_37_method_10_code (1 : Nat) (Option.some Jvm.ClassFile.FieldType.int)]
set_option maxRecDepth 65536 in
theorem codes_eq : words1.filter isCode = codes1 := rfl
theorem w_codes : ∀ c ∈ words1.filter isCode, c.before args0 about1 = true := by
  rw [codes_eq]
  intro c hc
  simp only [codes1, List.mem_cons, List.not_mem_nil, or_false] at hc
  rcases hc with rfl | rfl | rfl | rfl | rfl | rfl | rfl
  · exact w_c0
  · exact w_c1
  · exact w_c2
  · exact w_c3
  · exact w_c4
  · exact w_c5
  · exact w_c6
set_option maxRecDepth 65536 in
theorem w_t1 : (words1.take 24).all (fun c => isCode c || c.before args0 about1) = true := by decide +kernel
set_option maxRecDepth 65536 in
theorem w_t2 : (words1.drop 24).all (fun c => isCode c || c.before args0 about1) = true := by decide +kernel
theorem w_tables : (allAtoms (Jvm.Cond.code x code maxLocals ret :: tables_1)).before args0 about1 = true := by
  rw [allAtoms_all]
  show words1.all (fun c => c.before args0 about1) = true
  refine all_split ?_ w_codes
  rw [← List.take_append_drop 24 words1, List.all_append, w_t1, w_t2]
  rfl
set_option maxRecDepth 65536 in
theorem w_case : (Jvm.Cond.and given_1 narrow_1).before args0 about1 = true := by decide +kernel
theorem w_applies : (headSpec (Jvm.Cond.code x code maxLocals ret :: tables_1) room_1).applies x e0.platform about1 = true :=
  (Spec.applies_iff w_frames).mpr ⟨w_running, w_runnable, w_alone, w_named, w_hears, w_ripe, w_room, w_tables⟩
theorem atStart : AtStart classFile x code maxLocals ret World_1 tables_1 room_1 Calls_1 rest_1 Pre_1 launch0 p0 e0 about1 theMethod args0 below0 :=
  ⟨lists_1, trivial, launch0.admits_env _ _ _, launch0.least_env, fairChoices_fair.cas, fairChoices_fair.clock, w_frames, w_args, w_heap, w_applies, trivial, trivial, w_case⟩
end start1
theorem witness_1 : WitnessClaimed_1 := ⟨start1.p0, start1.e0, start1.about1, start1.theMethod, start1.args0, start1.below0, start1.atStart⟩
end Jvm.Pilot.@@N@@
