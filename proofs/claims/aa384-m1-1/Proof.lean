import JvmDerived
import JvmDerived.Pilot.@@N@@Statement
import JvmDerived.Pilot.@@N@@Code
set_option linter.unusedVariables false
set_option linter.unusedSimpArgs false
namespace Jvm.RoadKit
open Sem ClassFile Op Lib Jvm.Stand Jvm.Free Jvm.LawKit
section New
variable {p : Program} {l : Launch} {e : Env} {R : Room} {s : State} {m : MethodId} {args : Array Value} {below : List Frame} {meth : Method} {c : Code} {T : State} {locs : List Loc} {cells slots : Nat}
theorem retI (X : Stand p l e R s m args below meth c T locs cells slots) (hx : p.tables.exec = Jvm.exec) {pc : Nat} {Ls : Array Slot} {z : Int32} {rest : List Value} (hret : meth.sig.returnType = some .int) (hd : decode c.code pc = .ok (.ireturn, 1)) {fs : List Frame}
    (hl : ∀ (f : JFrame) (acts : List Action), f.method = m → f.locked = none → f.entered = [] → (doReturn e (T.setTop f) acts (some (.int z))).1 = T.setFrames fs) : Steps p.tables e below (T.setTop (mkF m pc Ls (.int z :: rest))) (T.setFrames fs) := by
  have hm' : T.vm.method? m = some meth := X.method'
  have hn : narrow .int (.int z) = .int z := rfl
  show Steps p.tables e below (T.setTop { method := m, pc := pc, locals := Ls, stack := _ :: rest, locked := none }) _
  jvm_step X.here [X.here.top, hx, hd, hm', hret, hn]
  first | (intro acts; rw [hl _ acts rfl rfl rfl]) | rw [hl _ _ rfl rfl rfl]
  exact Steps.refl _
theorem own_lremM {g : JFrame} {target : State} (X : Stand p l e R s m args below meth c T locs cells slots) (hx : p.tables.exec = Jvm.exec) (hg : g.method = m) {x y : Int64} {rest : List Value} (hd : decode c.code g.pc = .ok (.lrem, 1)) (hs : g.stack = .long y :: .long x :: rest) (hy : y ≠ 0)
    (hr : Steps p.tables e below (T.setTop { g with pc := g.pc + 1, stack := .long (x % y) :: rest }) target) : Steps p.tables e below (T.setTop g) target := by
  have q : x - x / y * y = x % y := lrem_mod x y
  exact XS.lrem X.here hx hg hd hs hy (by rw [q]; exact hr)
theorem own_selP {Z : State} {a0 : Array Value} {C : String} {n : Nat} {y : MethodName} (hC : y.cls = C) (wi : (Cond.instantiable C n).before a0 Z = true) (wm : (Cond.instanceMethod y).before a0 Z = true) (wp : (Cond.privateMethod y).before a0 Z = true) (hy : y.cls ≠ "java/lang/invoke/MethodHandle" ∧ y.cls ≠ "java/lang/invoke/VarHandle") : (Cond.selects y.cls y y).before a0 Z = true := by
  obtain ⟨c, k, h1, h2, h3, h4, -⟩ := Cond.instantiable_spec wi
  simp only [Bool.or_eq_false_iff] at h4
  subst hC
  exact selects_self_of_private h1 h2 h4.1 (Cond.privateMethod_at wp) wm hy
end New
end Jvm.RoadKit
namespace Jvm.Pilot.@@N@@
open Jvm Jvm.ClassFile Sem Op Lib Jvm.Free Jvm.Stand Jvm.LawKit Jvm.RoadKit Bundle Jvm.Pilot.@@N@@.Jvm.D
def own_lag (t lag : Int64) : Int64 := if t < (t - lag) then (-9223372036854775808 : Int64) else (t - lag)
def own_gr (a b : Int64) : Int64 := if a < b then b else a
def own_adv (cur lag t : Int64) : Int64 := if t < ((-9223372036854775808 : Int64) + lag) then own_gr cur (-9223372036854775808 : Int64) else own_gr cur (t - lag)
theorem own_eq (cur lag t : Int64) (h : ¬ lag < (0 : Int64)) : own_adv cur lag t = own_gr cur (own_lag t lag) := by
  have e1 := c_ladd (-9223372036854775808) lag
  have e2 := c_lsub t lag
  have r1 := rng64 t
  have r2 := rng64 lag
  have r3 := rng64 (t - lag)
  have r4 := rng64 ((-9223372036854775808 : Int64) + lag)
  have k1 : (-9223372036854775808 : Int64).toInt = -9223372036854775808 := by decide
  have k0 : (0 : Int64).toInt = 0 := by decide
  rw [Int64.lt_iff_toInt_lt] at h
  unfold own_adv own_lag
  by_cases h1 : t < ((-9223372036854775808 : Int64) + lag)
  · have h2 : t < (t - lag) := by
      rw [Int64.lt_iff_toInt_lt] at h1 ⊢; omega
    rw [if_pos h1, if_pos h2]
  · have h2 : ¬ t < (t - lag) := by
      rw [Int64.lt_iff_toInt_lt] at h1 ⊢; omega
    rw [if_neg h1, if_neg h2]
theorem own_mask (x : Int64) : ¬ (x &&& (9223372036854775807 : Int64)) < (0 : Int64) := by
  have h := (c_andSL x 9223372036854775807).2.2 (by decide)
  have k0 : (0 : Int64).toInt = 0 := by decide
  rw [Int64.lt_iff_toInt_lt]; omega

theorem kw0 {Z : State} {a0 : Array Value} (hw : ∀ d ∈ tables_1, d.before a0 Z = true) : (Jvm.Cond.constantLong "com/example/casement/casement/time/WatermarkAdvancePinLaw" (11 : Nat) (9223372036854775807 : Int64)).before a0 Z = true := hw _ (List.mem_of_getElem? (i := 0) rfl)
theorem kw1 {Z : State} {a0 : Array Value} (hw : ∀ d ∈ tables_1, d.before a0 Z = true) : (Jvm.Cond.classLink "com/example/casement/casement/time/WatermarkAdvancePinLaw" (13 : Nat) "com/example/casement/casement/time/Watermark").before a0 Z = true := hw _ (List.mem_of_getElem? (i := 1) rfl)
theorem kw2 {Z : State} {a0 : Array Value} (hw : ∀ d ∈ tables_1, d.before a0 Z = true) : (Jvm.Cond.instantiable "com/example/casement/casement/time/Watermark" (2 : Nat)).before a0 Z = true := hw _ (List.mem_of_getElem? (i := 2) rfl)
theorem kw3 {Z : State} {a0 : Array Value} (hw : ∀ d ∈ tables_1, d.before a0 Z = true) : (Jvm.Cond.initialized "com/example/casement/casement/time/Watermark").before a0 Z = true := hw _ (List.mem_of_getElem? (i := 3) rfl)
theorem kw4 {Z : State} {a0 : Array Value} (hw : ∀ d ∈ tables_1, d.before a0 Z = true) : (Jvm.Cond.methodLink "com/example/casement/casement/time/WatermarkAdvancePinLaw" (15 : Nat) ({ cls := "com/example/casement/casement/time/Watermark", name := "<init>", desc := "(J)V" } : Jvm.MethodName)).before a0 Z = true := hw _ (List.mem_of_getElem? (i := 4) rfl)
theorem kw5 {Z : State} {a0 : Array Value} (hw : ∀ d ∈ tables_1, d.before a0 Z = true) : (Jvm.Cond.instanceMethod ({ cls := "com/example/casement/casement/time/Watermark", name := "<init>", desc := "(J)V" } : Jvm.MethodName)).before a0 Z = true := hw _ (List.mem_of_getElem? (i := 5) rfl)
theorem kw6 {Z : State} {a0 : Array Value} (hw : ∀ d ∈ tables_1, d.before a0 Z = true) : (Jvm.Cond.code ({ cls := "com/example/casement/casement/time/Watermark", name := "<init>", desc := "(J)V" } : Jvm.MethodName) prog_25_method_1_code (3 : Nat) (Option.none : Option Jvm.ClassFile.FieldType)).before a0 Z = true := hw _ (List.mem_of_getElem? (i := 6) rfl)
theorem kw7 {Z : State} {a0 : Array Value} (hw : ∀ d ∈ tables_1, d.before a0 Z = true) : (Jvm.Cond.methodLink "com/example/casement/casement/time/Watermark" (1 : Nat) ({ cls := "java/lang/Object", name := "<init>", desc := "()V" } : Jvm.MethodName)).before a0 Z = true := hw _ (List.mem_of_getElem? (i := 7) rfl)
theorem kw8 {Z : State} {a0 : Array Value} (hw : ∀ d ∈ tables_1, d.before a0 Z = true) : (Jvm.Cond.instanceMethod ({ cls := "java/lang/Object", name := "<init>", desc := "()V" } : Jvm.MethodName)).before a0 Z = true := hw _ (List.mem_of_getElem? (i := 8) rfl)
theorem kw9 {Z : State} {a0 : Array Value} (hw : ∀ d ∈ tables_1, d.before a0 Z = true) : (Jvm.Cond.code ({ cls := "java/lang/Object", name := "<init>", desc := "()V" } : Jvm.MethodName) object_method_1_code (1 : Nat) (Option.none : Option Jvm.ClassFile.FieldType)).before a0 Z = true := hw _ (List.mem_of_getElem? (i := 9) rfl)
theorem kw10 {Z : State} {a0 : Array Value} (hw : ∀ d ∈ tables_1, d.before a0 Z = true) : (Jvm.Cond.constantLong "com/example/casement/casement/time/Watermark" (9 : Nat) (-9223372036854775808 : Int64)).before a0 Z = true := hw _ (List.mem_of_getElem? (i := 10) rfl)
theorem kw11 {Z : State} {a0 : Array Value} (hw : ∀ d ∈ tables_1, d.before a0 Z = true) : (Jvm.Cond.fieldLink "com/example/casement/casement/time/Watermark" (11 : Nat) "com/example/casement/casement/time/Watermark" "current" "J").before a0 Z = true := hw _ (List.mem_of_getElem? (i := 11) rfl)
theorem kw12 {Z : State} {a0 : Array Value} (hw : ∀ d ∈ tables_1, d.before a0 Z = true) : (Jvm.Cond.lays "com/example/casement/casement/time/Watermark" "com/example/casement/casement/time/Watermark" "current" "J").before a0 Z = true := hw _ (List.mem_of_getElem? (i := 12) rfl)
theorem kw13 {Z : State} {a0 : Array Value} (hw : ∀ d ∈ tables_1, d.before a0 Z = true) : (Jvm.Cond.fieldLink "com/example/casement/casement/time/Watermark" (26 : Nat) "com/example/casement/casement/time/Watermark" "lag" "J").before a0 Z = true := hw _ (List.mem_of_getElem? (i := 13) rfl)
theorem kw14 {Z : State} {a0 : Array Value} (hw : ∀ d ∈ tables_1, d.before a0 Z = true) : (Jvm.Cond.laysFinal "com/example/casement/casement/time/Watermark" "com/example/casement/casement/time/Watermark" "lag" "J").before a0 Z = true := hw _ (List.mem_of_getElem? (i := 14) rfl)
theorem kw15 {Z : State} {a0 : Array Value} (hw : ∀ d ∈ tables_1, d.before a0 Z = true) : (Jvm.Cond.methodLink "com/example/casement/casement/time/WatermarkAdvancePinLaw" (18 : Nat) ({ cls := "com/example/casement/casement/time/Watermark", name := "current", desc := "()J" } : Jvm.MethodName)).before a0 Z = true := hw _ (List.mem_of_getElem? (i := 15) rfl)
theorem kw16 {Z : State} {a0 : Array Value} (hw : ∀ d ∈ tables_1, d.before a0 Z = true) : (Jvm.Cond.declares ({ cls := "com/example/casement/casement/time/Watermark", name := "current", desc := "()J" } : Jvm.MethodName)).before a0 Z = true := hw _ (List.mem_of_getElem? (i := 16) rfl)
theorem kw17 {Z : State} {a0 : Array Value} (hw : ∀ d ∈ tables_1, d.before a0 Z = true) : (Jvm.Cond.instanceMethod ({ cls := "com/example/casement/casement/time/Watermark", name := "current", desc := "()J" } : Jvm.MethodName)).before a0 Z = true := hw _ (List.mem_of_getElem? (i := 17) rfl)
theorem kw18 {Z : State} {a0 : Array Value} (hw : ∀ d ∈ tables_1, d.before a0 Z = true) : (Jvm.Cond.selects "com/example/casement/casement/time/Watermark" ({ cls := "com/example/casement/casement/time/Watermark", name := "current", desc := "()J" } : Jvm.MethodName) ({ cls := "com/example/casement/casement/time/Watermark", name := "current", desc := "()J" } : Jvm.MethodName)).before a0 Z = true := hw _ (List.mem_of_getElem? (i := 18) rfl)
theorem kw19 {Z : State} {a0 : Array Value} (hw : ∀ d ∈ tables_1, d.before a0 Z = true) : (Jvm.Cond.code ({ cls := "com/example/casement/casement/time/Watermark", name := "current", desc := "()J" } : Jvm.MethodName) prog_25_method_3_code (1 : Nat) (Option.some Jvm.ClassFile.FieldType.long)).before a0 Z = true := hw _ (List.mem_of_getElem? (i := 19) rfl)
theorem kw20 {Z : State} {a0 : Array Value} (hw : ∀ d ∈ tables_1, d.before a0 Z = true) : (Jvm.Cond.constantLong "com/example/casement/casement/time/WatermarkAdvancePinLaw" (9 : Nat) (-9223372036854775808 : Int64)).before a0 Z = true := hw _ (List.mem_of_getElem? (i := 20) rfl)
theorem kw21 {Z : State} {a0 : Array Value} (hw : ∀ d ∈ tables_1, d.before a0 Z = true) : (Jvm.Cond.methodLink "com/example/casement/casement/time/WatermarkAdvancePinLaw" (22 : Nat) ({ cls := "com/example/casement/casement/time/WatermarkAdvancePinLaw", name := "lagged", desc := "(JJ)J" } : Jvm.MethodName)).before a0 Z = true := hw _ (List.mem_of_getElem? (i := 21) rfl)
theorem kw22 {Z : State} {a0 : Array Value} (hw : ∀ d ∈ tables_1, d.before a0 Z = true) : (Jvm.Cond.static ({ cls := "com/example/casement/casement/time/WatermarkAdvancePinLaw", name := "lagged", desc := "(JJ)J" } : Jvm.MethodName)).before a0 Z = true := hw _ (List.mem_of_getElem? (i := 22) rfl)
theorem kw23 {Z : State} {a0 : Array Value} (hw : ∀ d ∈ tables_1, d.before a0 Z = true) : (Jvm.Cond.initialized "com/example/casement/casement/time/WatermarkAdvancePinLaw").before a0 Z = true := hw _ (List.mem_of_getElem? (i := 23) rfl)
theorem kw24 {Z : State} {a0 : Array Value} (hw : ∀ d ∈ tables_1, d.before a0 Z = true) : (Jvm.Cond.code ({ cls := "com/example/casement/casement/time/WatermarkAdvancePinLaw", name := "lagged", desc := "(JJ)J" } : Jvm.MethodName) method_2_code (6 : Nat) (Option.some Jvm.ClassFile.FieldType.long)).before a0 Z = true := hw _ (List.mem_of_getElem? (i := 24) rfl)
theorem kw25 {Z : State} {a0 : Array Value} (hw : ∀ d ∈ tables_1, d.before a0 Z = true) : (Jvm.Cond.methodLink "com/example/casement/casement/time/WatermarkAdvancePinLaw" (28 : Nat) ({ cls := "com/example/casement/casement/time/WatermarkAdvancePinLaw", name := "greater", desc := "(JJ)J" } : Jvm.MethodName)).before a0 Z = true := hw _ (List.mem_of_getElem? (i := 25) rfl)
theorem kw26 {Z : State} {a0 : Array Value} (hw : ∀ d ∈ tables_1, d.before a0 Z = true) : (Jvm.Cond.static ({ cls := "com/example/casement/casement/time/WatermarkAdvancePinLaw", name := "greater", desc := "(JJ)J" } : Jvm.MethodName)).before a0 Z = true := hw _ (List.mem_of_getElem? (i := 26) rfl)
theorem kw27 {Z : State} {a0 : Array Value} (hw : ∀ d ∈ tables_1, d.before a0 Z = true) : (Jvm.Cond.code ({ cls := "com/example/casement/casement/time/WatermarkAdvancePinLaw", name := "greater", desc := "(JJ)J" } : Jvm.MethodName) method_3_code (4 : Nat) (Option.some Jvm.ClassFile.FieldType.long)).before a0 Z = true := hw _ (List.mem_of_getElem? (i := 27) rfl)
theorem kw28 {Z : State} {a0 : Array Value} (hw : ∀ d ∈ tables_1, d.before a0 Z = true) : (Jvm.Cond.methodLink "com/example/casement/casement/time/WatermarkAdvancePinLaw" (31 : Nat) ({ cls := "com/example/casement/casement/time/Watermark", name := "advance", desc := "(J)J" } : Jvm.MethodName)).before a0 Z = true := hw _ (List.mem_of_getElem? (i := 28) rfl)
theorem kw29 {Z : State} {a0 : Array Value} (hw : ∀ d ∈ tables_1, d.before a0 Z = true) : (Jvm.Cond.declares ({ cls := "com/example/casement/casement/time/Watermark", name := "advance", desc := "(J)J" } : Jvm.MethodName)).before a0 Z = true := hw _ (List.mem_of_getElem? (i := 29) rfl)
theorem kw30 {Z : State} {a0 : Array Value} (hw : ∀ d ∈ tables_1, d.before a0 Z = true) : (Jvm.Cond.instanceMethod ({ cls := "com/example/casement/casement/time/Watermark", name := "advance", desc := "(J)J" } : Jvm.MethodName)).before a0 Z = true := hw _ (List.mem_of_getElem? (i := 30) rfl)
theorem kw31 {Z : State} {a0 : Array Value} (hw : ∀ d ∈ tables_1, d.before a0 Z = true) : (Jvm.Cond.selects "com/example/casement/casement/time/Watermark" ({ cls := "com/example/casement/casement/time/Watermark", name := "advance", desc := "(J)J" } : Jvm.MethodName) ({ cls := "com/example/casement/casement/time/Watermark", name := "advance", desc := "(J)J" } : Jvm.MethodName)).before a0 Z = true := hw _ (List.mem_of_getElem? (i := 31) rfl)
theorem kw32 {Z : State} {a0 : Array Value} (hw : ∀ d ∈ tables_1, d.before a0 Z = true) : (Jvm.Cond.code ({ cls := "com/example/casement/casement/time/Watermark", name := "advance", desc := "(J)J" } : Jvm.MethodName) prog_25_method_2_code (5 : Nat) (Option.some Jvm.ClassFile.FieldType.long)).before a0 Z = true := hw _ (List.mem_of_getElem? (i := 32) rfl)
theorem kw33 {Z : State} {a0 : Array Value} (hw : ∀ d ∈ tables_1, d.before a0 Z = true) : (Jvm.Cond.methodLink "com/example/casement/casement/time/Watermark" (29 : Nat) ({ cls := "java/lang/Math", name := "max", desc := "(JJ)J" } : Jvm.MethodName)).before a0 Z = true := hw _ (List.mem_of_getElem? (i := 33) rfl)
theorem kw34 {Z : State} {a0 : Array Value} (hw : ∀ d ∈ tables_1, d.before a0 Z = true) : (Jvm.Cond.static ({ cls := "java/lang/Math", name := "max", desc := "(JJ)J" } : Jvm.MethodName)).before a0 Z = true := hw _ (List.mem_of_getElem? (i := 34) rfl)
theorem kw35 {Z : State} {a0 : Array Value} (hw : ∀ d ∈ tables_1, d.before a0 Z = true) : (Jvm.Cond.initialized "java/lang/Math").before a0 Z = true := hw _ (List.mem_of_getElem? (i := 35) rfl)
theorem kw36 {Z : State} {a0 : Array Value} (hw : ∀ d ∈ tables_1, d.before a0 Z = true) : (Jvm.Cond.code ({ cls := "java/lang/Math", name := "max", desc := "(JJ)J" } : Jvm.MethodName) jdk_29_method_66_code (4 : Nat) (Option.some Jvm.ClassFile.FieldType.long)).before a0 Z = true := hw _ (List.mem_of_getElem? (i := 36) rfl)
theorem pn_0 : plainName "com/example/casement/casement/time/Watermark" = true := by first | (simp [plainName, overriddenIn]; done) | decide +kernel
theorem pn_1 : plainName "com/example/casement/casement/time/WatermarkAdvancePinLaw" = true := by first | (simp [plainName, overriddenIn]; done) | decide +kernel
theorem pd_0 : parseMethodDescriptor "(JJ)J" = some ⟨[.long, .long], some .long⟩ := by decide +kernel
theorem pd_1 : parseMethodDescriptor "(J)V" = some ⟨[.long], none⟩ := by decide +kernel
theorem pd_2 : parseMethodDescriptor "()J" = some ⟨[], some .long⟩ := by decide +kernel
theorem pd_3 : parseMethodDescriptor "(J)J" = some ⟨[.long], some .long⟩ := by decide +kernel
theorem d1_0 : decode prog_25_method_1_code 0 = .ok (.aload_n 0, 1) := by decide +kernel
theorem d1_1 : decode prog_25_method_1_code 1 = .ok (.invokespecial 1, 3) := by decide +kernel
theorem d1_4 : decode prog_25_method_1_code 4 = .ok (.aload_n 0, 1) := by decide +kernel
theorem d1_5 : decode prog_25_method_1_code 5 = .ok (.ldc2_w 9, 3) := by decide +kernel
theorem d1_8 : decode prog_25_method_1_code 8 = .ok (.putfield 11, 3) := by decide +kernel
theorem d1_11 : decode prog_25_method_1_code 11 = .ok (.lload_n 1, 1) := by decide +kernel
theorem d1_12 : decode prog_25_method_1_code 12 = .ok (.lconst 0, 1) := by decide +kernel
theorem d1_13 : decode prog_25_method_1_code 13 = .ok (.lcmp, 1) := by decide +kernel
theorem d1_14 : decode prog_25_method_1_code 14 = .ok (.ifCond .ge 17, 3) := by decide +kernel
theorem d1_31 : decode prog_25_method_1_code 31 = .ok (.aload_n 0, 1) := by decide +kernel
theorem d1_32 : decode prog_25_method_1_code 32 = .ok (.lload_n 1, 1) := by decide +kernel
theorem d1_33 : decode prog_25_method_1_code 33 = .ok (.putfield 26, 3) := by decide +kernel
theorem d1_36 : decode prog_25_method_1_code 36 = .ok (.return_, 1) := by decide +kernel
theorem d3_0 : decode prog_25_method_3_code 0 = .ok (.aload_n 0, 1) := by decide +kernel
theorem d3_1 : decode prog_25_method_3_code 1 = .ok (.getfield 11, 3) := by decide +kernel
theorem d3_4 : decode prog_25_method_3_code 4 = .ok (.lreturn, 1) := by decide +kernel
theorem d4_0 : decode method_2_code 0 = .ok (.lload_n 0, 1) := by decide +kernel
theorem d4_1 : decode method_2_code 1 = .ok (.lload_n 2, 1) := by decide +kernel
theorem d4_2 : decode method_2_code 2 = .ok (.lsub, 1) := by decide +kernel
theorem d4_3 : decode method_2_code 3 = .ok (.lstore 4, 2) := by decide +kernel
theorem d4_5 : decode method_2_code 5 = .ok (.lload 4, 2) := by decide +kernel
theorem d4_7 : decode method_2_code 7 = .ok (.lload_n 0, 1) := by decide +kernel
theorem d4_8 : decode method_2_code 8 = .ok (.lcmp, 1) := by decide +kernel
theorem d4_9 : decode method_2_code 9 = .ok (.ifCond .le 7, 3) := by decide +kernel
theorem d4_12 : decode method_2_code 12 = .ok (.ldc2_w 9, 3) := by decide +kernel
theorem d4_15 : decode method_2_code 15 = .ok (.lreturn, 1) := by decide +kernel
theorem d4_16 : decode method_2_code 16 = .ok (.lload 4, 2) := by decide +kernel
theorem d4_18 : decode method_2_code 18 = .ok (.lreturn, 1) := by decide +kernel
theorem d5_0 : decode method_3_code 0 = .ok (.lload_n 0, 1) := by decide +kernel
theorem d5_1 : decode method_3_code 1 = .ok (.lload_n 2, 1) := by decide +kernel
theorem d5_2 : decode method_3_code 2 = .ok (.lcmp, 1) := by decide +kernel
theorem d5_3 : decode method_3_code 3 = .ok (.ifCond .ge 5, 3) := by decide +kernel
theorem d5_6 : decode method_3_code 6 = .ok (.lload_n 2, 1) := by decide +kernel
theorem d5_7 : decode method_3_code 7 = .ok (.lreturn, 1) := by decide +kernel
theorem d5_8 : decode method_3_code 8 = .ok (.lload_n 0, 1) := by decide +kernel
theorem d5_9 : decode method_3_code 9 = .ok (.lreturn, 1) := by decide +kernel
theorem d6_0 : decode prog_25_method_2_code 0 = .ok (.lload_n 1, 1) := by decide +kernel
theorem d6_1 : decode prog_25_method_2_code 1 = .ok (.ldc2_w 9, 3) := by decide +kernel
theorem d6_4 : decode prog_25_method_2_code 4 = .ok (.aload_n 0, 1) := by decide +kernel
theorem d6_5 : decode prog_25_method_2_code 5 = .ok (.getfield 26, 3) := by decide +kernel
theorem d6_8 : decode prog_25_method_2_code 8 = .ok (.ladd, 1) := by decide +kernel
theorem d6_9 : decode prog_25_method_2_code 9 = .ok (.lcmp, 1) := by decide +kernel
theorem d6_10 : decode prog_25_method_2_code 10 = .ok (.ifCond .ge 9, 3) := by decide +kernel
theorem d6_13 : decode prog_25_method_2_code 13 = .ok (.ldc2_w 9, 3) := by decide +kernel
theorem d6_16 : decode prog_25_method_2_code 16 = .ok (.goto 9, 3) := by decide +kernel
theorem d6_19 : decode prog_25_method_2_code 19 = .ok (.lload_n 1, 1) := by decide +kernel
theorem d6_20 : decode prog_25_method_2_code 20 = .ok (.aload_n 0, 1) := by decide +kernel
theorem d6_21 : decode prog_25_method_2_code 21 = .ok (.getfield 26, 3) := by decide +kernel
theorem d6_24 : decode prog_25_method_2_code 24 = .ok (.lsub, 1) := by decide +kernel
theorem d6_25 : decode prog_25_method_2_code 25 = .ok (.lstore_n 3, 1) := by decide +kernel
theorem d6_26 : decode prog_25_method_2_code 26 = .ok (.aload_n 0, 1) := by decide +kernel
theorem d6_27 : decode prog_25_method_2_code 27 = .ok (.aload_n 0, 1) := by decide +kernel
theorem d6_28 : decode prog_25_method_2_code 28 = .ok (.getfield 11, 3) := by decide +kernel
theorem d6_31 : decode prog_25_method_2_code 31 = .ok (.lload_n 3, 1) := by decide +kernel
theorem d6_32 : decode prog_25_method_2_code 32 = .ok (.invokestatic 29, 3) := by decide +kernel
theorem d6_35 : decode prog_25_method_2_code 35 = .ok (.putfield 11, 3) := by decide +kernel
theorem d6_38 : decode prog_25_method_2_code 38 = .ok (.aload_n 0, 1) := by decide +kernel
theorem d6_39 : decode prog_25_method_2_code 39 = .ok (.getfield 11, 3) := by decide +kernel
theorem d6_42 : decode prog_25_method_2_code 42 = .ok (.lreturn, 1) := by decide +kernel
theorem d7_0 : decode jdk_29_method_66_code 0 = .ok (.lload_n 0, 1) := by decide +kernel
theorem d7_1 : decode jdk_29_method_66_code 1 = .ok (.lload_n 2, 1) := by decide +kernel
theorem d7_2 : decode jdk_29_method_66_code 2 = .ok (.lcmp, 1) := by decide +kernel
theorem d7_3 : decode jdk_29_method_66_code 3 = .ok (.ifCond .lt 7, 3) := by decide +kernel
theorem d7_6 : decode jdk_29_method_66_code 6 = .ok (.lload_n 0, 1) := by decide +kernel
theorem d7_7 : decode jdk_29_method_66_code 7 = .ok (.goto 4, 3) := by decide +kernel
theorem d7_10 : decode jdk_29_method_66_code 10 = .ok (.lload_n 2, 1) := by decide +kernel
theorem d7_11 : decode jdk_29_method_66_code 11 = .ok (.lreturn, 1) := by decide +kernel
theorem ef_rm1 (m : MethodId) (x0 : Addr) (x1 : Int64) : entryFrame m #[(.ref x0), (.long x1)] 3 = mkF m 0 #[.val (.ref x0), .val (.long x1), .second] [] := by first | (simp [entryFrame, mkF, argsToLocals, Value.category]; done) | rfl
def Q_rm1 (Z : State) (a1 : Addr) (q1 : Int64) (h0 : Heap) (n0 : Nat) (v : Option Value) (h : Heap) (L : List Loc) : Prop := v = none ∧ Fr n0 L ∧ Keep h0 h [a1] ∧ Fld Z h a1 "com/example/casement/casement/time/Watermark" "current" "J" (.long (-9223372036854775808 : Int64)) ∧ Fld Z h a1 "com/example/casement/casement/time/Watermark" "lag" "J" (.long q1)
set_option maxRecDepth 65536 in
set_option maxHeartbeats 40000000 in
theorem rm1 (l : Launch) (Z : State) (a0 : Array Value) (hw : ∀ d ∈ tables_1, d.before a0 Z = true) (ws : List Jvm.Cond) (a1 : Addr) (q1 : Int64) (h0 : Heap) (n0 : Nat) (Z0 : n0 ≤ h0.size) (P0 : Exa Z h0 a1 "com/example/casement/casement/time/Watermark") (P1 : Fld Z h0 a1 "com/example/casement/casement/time/Watermark" "current" "J" (.long (0 : Int64))) (P2 : Fld Z h0 a1 "com/example/casement/casement/time/Watermark" "lag" "J" (.long (0 : Int64))) (P3 : n0 ≤ a1) (hq : ¬ q1 < (0 : Int64)) :
    MetFree l (⟨"com/example/casement/casement/time/Watermark", "<init>", "(J)V"⟩ : MethodName) (head1 (Jvm.Cond.code (⟨"com/example/casement/casement/time/Watermark", "<init>", "(J)V"⟩ : MethodName) prog_25_method_1_code 3 none :: ws) ({ frames := 1, cells := 0, slots := 0, locals := 12 } : Room)) (fun a U => a = #[(.ref a1), (.long q1)] ∧ Z.Warmed39 U.vm ∧ U.heap = h0) (fun _ _ _ _ _ => True) (fun _ U o U' => ∃ v L, o = .returned v ∧ Q_rm1 Z a1 q1 h0 n0 v U'.heap L ∧ FrameEnd U o U' L ({ frames := 1, cells := 0, slots := 0, locals := 12 } : Room).cells ({ frames := 1, cells := 0, slots := 0, locals := 12 } : Room).slots) := by
  refine MetFree.of_bodySF (plainFor_of_name pn_0) hisR ?_
  intro p e s m args below meth c s₁ Bd hml0 hP hK
  obtain ⟨rfl, hZ, hh⟩ := hP
  have hx := Bd.exec
  have hby := Bd.bytes
  have hml : c.maxLocals = 3 := hml0
  have hown : s.vm.findClass "com/example/casement/casement/time/Watermark" = some m.cls := findClass_of_methodNamed Bd.named
  have hnm := (name_of_methodNamed Bd.named Bd.method).1
  have X0 : Stand p l e ({ frames := 1, cells := 0, slots := 0, locals := 12 } : Room) s m #[(.ref a1), (.long q1)] below meth c s₁ [] 0 0 := Stand.of_body Bd
  have e0 : s₁.heap = h0 := by rw [← hh, Bd.state]; rfl
  have N0 := Fr.nil n0
  have KR : Keep h0 h0 [a1] := Keep.refl h0 _
  have pre0 : ∀ t, Steps p.tables e below (s₁.setTop (mkF m 0 #[.val (.ref a1), .val (.long q1), .second] [])) t → Steps p.tables e below (s₁.setTop (entryFrame m #[(.ref a1), (.long q1)] 3)) t := fun t k => castTop (ef_rm1 m (a1) (q1)) k
  obtain ⟨T1, X1, e1, st1⟩ := initO X0 hx hZ hown (kw7 hw) (kw8 hw) (kw9 hw) e0 (g := (mkF m 1 #[.val (.ref a1), .val (.long q1), .second] [(.ref a1)])) rfl (by rw [hml]; rfl) rfl (hb hby d1_1) (by decide) (W := 0) (by show 2 * 0 + _ ≤ _; exact Nat.le_of_eq rfl) (by decide)
  obtain ⟨T2, h2, X2, e2, W2, st2⟩ := putF X1 hx hZ hown (host := "") (Or.inl (kw11 hw)) Via.refl e1 P1 P0 (Or.inl (kw12 hw)) (kw2 hw) (ty := .long) (by decide) rfl rfl (g := (mkF m 8 #[.val (.ref a1), .val (.long q1), .second] [(.long (-9223372036854775808 : Int64)), (.ref a1)])) rfl rfl (hb hby d1_8)
  have Z2 : n0 ≤ h2.size := Nat.le_trans Z0 (Keep.of_wr W2).1
  have K2 : Keep h0 h2 [a1] := KR.wr W2 (Or.inl (List.mem_of_getElem? (i := 0) rfl))
  have N2 := Fr.snoc X2 N0 P3
  have Fw2 : Fld Z h2 a1 "com/example/casement/casement/time/Watermark" "current" "J" (.long (-9223372036854775808 : Int64)) := P1.same W2
  have f3 : Exa Z h2 a1 "com/example/casement/casement/time/Watermark" := (P0.wr W2)
  have f4 : Fld Z h2 a1 "com/example/casement/casement/time/Watermark" "lag" "J" (.long (0 : Int64)) := (P2.other W2 (Or.inr (slot_ne (Or.inr (kw14 hw)) (Or.inl (kw12 hw)) (by decide) (t := .long) (t' := .long) (by decide) (by decide))))
  obtain ⟨T5, h5, X5, e5, W5, st5⟩ := putF X2 hx hZ hown (host := "") (Or.inl (kw13 hw)) Via.refl e2 f4 f3 (Or.inr ⟨(kw14 hw), rfl, hnm⟩) (kw2 hw) (ty := .long) (by decide) rfl rfl (g := (mkF m 33 #[.val (.ref a1), .val (.long q1), .second] [(.long q1), (.ref a1)])) rfl rfl (hb hby d1_33)
  have Z5 : n0 ≤ h5.size := Nat.le_trans Z2 (Keep.of_wr W5).1
  have K5 : Keep h0 h5 [a1] := K2.wr W5 (Or.inl (List.mem_of_getElem? (i := 0) rfl))
  have N5 := Fr.snoc X5 N2 P3
  have Fw5 : Fld Z h5 a1 "com/example/casement/casement/time/Watermark" "lag" "J" (.long q1) := f4.same W5
  have f6 : Fld Z h5 a1 "com/example/casement/casement/time/Watermark" "current" "J" (.long (-9223372036854775808 : Int64)) := (Fw2.other W5 (Or.inr (slot_ne (Or.inl (kw12 hw)) (Or.inr (kw14 hw)) (by decide) (t := .long) (t' := .long) (by decide) (by decide))))
  obtain ⟨fs, hr, hrun, hended, hW, hsame⟩ := X5.leave (v := none) (fun _ => rfl)
  refine ⟨_, _, pre0 _ ?_, hrun, hended, _, _, rfl, ?_, ⟨_, rfl⟩, hW, hsame.mono (by decide) (by decide)⟩
  · skip
    show Steps p.tables e below (s₁.setTop (mkF m 0 #[.val (.ref a1), .val (.long q1), .second] [])) _
    refine XS.aloadN X0.here hx rfl (hb hby d1_0) rfl rfl ?_
    show Steps p.tables e below (s₁.setTop (mkF m 1 #[.val (.ref a1), .val (.long q1), .second] [(.ref a1)])) _
    refine st1 _ ?_
    show Steps p.tables e below (T1.setTop (mkF m 4 #[.val (.ref a1), .val (.long q1), .second] [])) _
    refine XS.aloadN X1.here hx rfl (hb hby d1_4) rfl rfl ?_
    show Steps p.tables e below (T1.setTop (mkF m 5 #[.val (.ref a1), .val (.long q1), .second] [(.ref a1)])) _
    refine X1.ldc2Long hx hown (mvT hZ (kw10 hw)) (g := (mkF m 5 #[.val (.ref a1), .val (.long q1), .second] [(.ref a1)])) rfl (hb hby d1_5) _ ?_
    show Steps p.tables e below (T1.setTop (mkF m 8 #[.val (.ref a1), .val (.long q1), .second] [(.long (-9223372036854775808 : Int64)), (.ref a1)])) _
    refine st2 _ ?_
    show Steps p.tables e below (T2.setTop (mkF m 11 #[.val (.ref a1), .val (.long q1), .second] [])) _
    refine XS.lloadN X2.here hx rfl (hb hby d1_11) rfl ?_
    show Steps p.tables e below (T2.setTop (mkF m 12 #[.val (.ref a1), .val (.long q1), .second] [(.long q1)])) _
    refine XS.lconst X2.here hx rfl (hb hby d1_12) ?_
    show Steps p.tables e below (T2.setTop (mkF m 13 #[.val (.ref a1), .val (.long q1), .second] [(.long (0 : Int64)), (.long q1)])) _
    refine XS.lcmp X2.here hx rfl (hb hby d1_13) rfl ?_
    show Steps p.tables e below (T2.setTop (mkF m 14 #[.val (.ref a1), .val (.long q1), .second] [(.int (lcmpW q1 (0 : Int64)))])) _
    refine XS.ifYes X2.here hx rfl (pc0 := 14) (pc' := 31) rfl (hb hby d1_14) rfl ((if0 _ _).trans (flt (fun q => hq ((lw_lt _ _).mp q))).2.1) (by decide) (by decide) ?_
    show Steps p.tables e below (T2.setTop (mkF m 31 #[.val (.ref a1), .val (.long q1), .second] [])) _
    refine XS.aloadN X2.here hx rfl (hb hby d1_31) rfl rfl ?_
    show Steps p.tables e below (T2.setTop (mkF m 32 #[.val (.ref a1), .val (.long q1), .second] [(.ref a1)])) _
    refine XS.lloadN X2.here hx rfl (hb hby d1_32) rfl ?_
    show Steps p.tables e below (T2.setTop (mkF m 33 #[.val (.ref a1), .val (.long q1), .second] [(.long q1), (.ref a1)])) _
    refine st5 _ ?_
    show Steps p.tables e below (T5.setTop (mkF m 36 #[.val (.ref a1), .val (.long q1), .second] [])) _
    exact X5.returnOut hx Bd.returns (hb hby d1_36) hr
  · show Q_rm1 Z a1 q1 h0 n0 _ T5.heap _
    rw [e5]
    exact ⟨rfl, N5, K5, f6, Fw5⟩
theorem ef_rm3 (m : MethodId) (x0 : Addr) : entryFrame m #[(.ref x0)] 1 = mkF m 0 #[.val (.ref x0)] [] := by first | (simp [entryFrame, mkF, argsToLocals, Value.category]; done) | rfl
def Q_rm3 (Z : State) (a1 : Addr) (cur : Int64) (h0 : Heap) (n0 : Nat) (v : Option Value) (h : Heap) (L : List Loc) : Prop := v = some (.long cur) ∧ Fr n0 L ∧ h = h0
set_option maxRecDepth 65536 in
set_option maxHeartbeats 40000000 in
theorem rm3 (l : Launch) (Z : State) (a0 : Array Value) (hw : ∀ d ∈ tables_1, d.before a0 Z = true) (ws : List Jvm.Cond) (a1 : Addr) (cur : Int64) (h0 : Heap) (n0 : Nat) (Z0 : n0 ≤ h0.size) (P0 : Fld Z h0 a1 "com/example/casement/casement/time/Watermark" "current" "J" (.long cur)) :
    MetFree l (⟨"com/example/casement/casement/time/Watermark", "current", "()J"⟩ : MethodName) (head1 (Jvm.Cond.code (⟨"com/example/casement/casement/time/Watermark", "current", "()J"⟩ : MethodName) prog_25_method_3_code 1 (some .long) :: ws) ({ frames := 0, cells := 0, slots := 0, locals := 0 } : Room)) (fun a U => a = #[(.ref a1)] ∧ Z.Warmed39 U.vm ∧ U.heap = h0) (fun _ _ _ _ _ => True) (fun _ U o U' => ∃ v L, o = .returned v ∧ Q_rm3 Z a1 cur h0 n0 v U'.heap L ∧ FrameEnd U o U' L ({ frames := 0, cells := 0, slots := 0, locals := 0 } : Room).cells ({ frames := 0, cells := 0, slots := 0, locals := 0 } : Room).slots) := by
  refine MetFree.of_bodySF (plainFor_of_name pn_0) hisR ?_
  intro p e s m args below meth c s₁ Bd hml0 hP hK
  obtain ⟨rfl, hZ, hh⟩ := hP
  have hx := Bd.exec
  have hby := Bd.bytes
  have hml : c.maxLocals = 1 := hml0
  have hown : s.vm.findClass "com/example/casement/casement/time/Watermark" = some m.cls := findClass_of_methodNamed Bd.named
  have hnm := (name_of_methodNamed Bd.named Bd.method).1
  have X0 : Stand p l e ({ frames := 0, cells := 0, slots := 0, locals := 0 } : Room) s m #[(.ref a1)] below meth c s₁ [] 0 0 := Stand.of_body Bd
  have e0 : s₁.heap = h0 := by rw [← hh, Bd.state]; rfl
  have N0 := Fr.nil n0
  have KR : Keep h0 h0 [] := Keep.refl h0 _
  have pre0 : ∀ t, Steps p.tables e below (s₁.setTop (mkF m 0 #[.val (.ref a1)] [])) t → Steps p.tables e below (s₁.setTop (entryFrame m #[(.ref a1)] 1)) t := fun t k => castTop (ef_rm3 m (a1)) k
  obtain ⟨T1, X1, e1, st1⟩ := getF X0 hx hZ hown (host := "") (Or.inl (kw11 hw)) Via.refl e0 P0 (g := (mkF m 1 #[.val (.ref a1)] [(.ref a1)])) rfl rfl (hb hby d3_1)
  obtain ⟨fs, hr, hrun, hended, hW, hsame⟩ := X1.leave (v := some (.long cur)) (fun h => by rw [Bd.returns] at h; cases h)
  refine ⟨_, _, pre0 _ ?_, hrun, hended, _, _, rfl, ?_, ⟨_, rfl⟩, hW, hsame.mono (by decide) (by decide)⟩
  · skip
    show Steps p.tables e below (s₁.setTop (mkF m 0 #[.val (.ref a1)] [])) _
    refine XS.aloadN X0.here hx rfl (hb hby d3_0) rfl rfl ?_
    show Steps p.tables e below (s₁.setTop (mkF m 1 #[.val (.ref a1)] [(.ref a1)])) _
    refine st1 _ ?_
    show Steps p.tables e below (T1.setTop (mkF m 4 #[.val (.ref a1)] [(.long cur)])) _
    jvm_step X1.here [X1.here.top, hx, (hb hby d3_4), X1.method', Bd.returns, narrow]
    first | (intro acts; rw [hr _ acts rfl rfl rfl]) | rw [hr _ _ rfl rfl rfl]
    exact Steps.refl _
  · show Q_rm3 Z a1 cur h0 n0 _ T1.heap _
    rw [e1]
    exact ⟨rfl, N0, rfl⟩
theorem ef_rm4 (m : MethodId) (x0 : Int64) (x1 : Int64) : entryFrame m #[(.long x0), (.long x1)] 6 = mkF m 0 #[.val (.long x0), .second, .val (.long x1), .second, .unset, .unset] [] := by first | (simp [entryFrame, mkF, argsToLocals, Value.category]; done) | rfl
def Q_rm4 (Z : State) (q1 : Int64) (q2 : Int64) (h0 : Heap) (n0 : Nat) (v : Option Value) (h : Heap) (L : List Loc) : Prop := v = some (.long (own_lag q1 q2)) ∧ Fr n0 L ∧ h = h0
set_option maxRecDepth 65536 in
set_option maxHeartbeats 40000000 in
theorem rm4 (l : Launch) (Z : State) (a0 : Array Value) (hw : ∀ d ∈ tables_1, d.before a0 Z = true) (ws : List Jvm.Cond) (q1 : Int64) (q2 : Int64) (h0 : Heap) (n0 : Nat) (Z0 : n0 ≤ h0.size)  :
    MetFree l (⟨"com/example/casement/casement/time/WatermarkAdvancePinLaw", "lagged", "(JJ)J"⟩ : MethodName) (head1 (Jvm.Cond.code (⟨"com/example/casement/casement/time/WatermarkAdvancePinLaw", "lagged", "(JJ)J"⟩ : MethodName) method_2_code 6 (some .long) :: ws) ({ frames := 0, cells := 0, slots := 0, locals := 0 } : Room)) (fun a U => a = #[(.long q1), (.long q2)] ∧ Z.Warmed39 U.vm ∧ U.heap = h0) (fun _ _ _ _ _ => True) (fun _ U o U' => ∃ v L, o = .returned v ∧ Q_rm4 Z q1 q2 h0 n0 v U'.heap L ∧ FrameEnd U o U' L ({ frames := 0, cells := 0, slots := 0, locals := 0 } : Room).cells ({ frames := 0, cells := 0, slots := 0, locals := 0 } : Room).slots) := by
  refine MetFree.of_bodySF (plainFor_of_name pn_1) hisR ?_
  intro p e s m args below meth c s₁ Bd hml0 hP hK
  obtain ⟨rfl, hZ, hh⟩ := hP
  have hx := Bd.exec
  have hby := Bd.bytes
  have hml : c.maxLocals = 6 := hml0
  have hown : s.vm.findClass "com/example/casement/casement/time/WatermarkAdvancePinLaw" = some m.cls := findClass_of_methodNamed Bd.named
  have hnm := (name_of_methodNamed Bd.named Bd.method).1
  have X0 : Stand p l e ({ frames := 0, cells := 0, slots := 0, locals := 0 } : Room) s m #[(.long q1), (.long q2)] below meth c s₁ [] 0 0 := Stand.of_body Bd
  have e0 : s₁.heap = h0 := by rw [← hh, Bd.state]; rfl
  have N0 := Fr.nil n0
  have KR : Keep h0 h0 [] := Keep.refl h0 _
  have pre0 : ∀ t, Steps p.tables e below (s₁.setTop (mkF m 0 #[.val (.long q1), .second, .val (.long q2), .second, .unset, .unset] [])) t → Steps p.tables e below (s₁.setTop (entryFrame m #[(.long q1), (.long q2)] 6)) t := fun t k => castTop (ef_rm4 m (q1) (q2)) k
  have pre1 : ∀ t, Steps p.tables e below (s₁.setTop (mkF m 9 #[.val (.long q1), .second, .val (.long q2), .second, .val (.long (q1 - q2)), .second] [(.int (lcmpW (q1 - q2) q1))])) t → Steps p.tables e below (s₁.setTop (entryFrame m #[(.long q1), (.long q2)] 6)) t := fun t k => pre0 t (by
    show Steps p.tables e below (s₁.setTop (mkF m 0 #[.val (.long q1), .second, .val (.long q2), .second, .unset, .unset] [])) _
    refine XS.lloadN X0.here hx rfl (hb hby d4_0) rfl ?_
    show Steps p.tables e below (s₁.setTop (mkF m 1 #[.val (.long q1), .second, .val (.long q2), .second, .unset, .unset] [(.long q1)])) _
    refine XS.lloadN X0.here hx rfl (hb hby d4_1) rfl ?_
    show Steps p.tables e below (s₁.setTop (mkF m 2 #[.val (.long q1), .second, .val (.long q2), .second, .unset, .unset] [(.long q2), (.long q1)])) _
    refine XS.lsub X0.here hx rfl (hb hby d4_2) rfl ?_
    show Steps p.tables e below (s₁.setTop (mkF m 3 #[.val (.long q1), .second, .val (.long q2), .second, .unset, .unset] [(.long (q1 - q2))])) _
    refine XS.lstore X0.here hx rfl (hb hby d4_3) rfl (l' := #[.val (.long q1), .second, .val (.long q2), .second, .val (.long (q1 - q2)), .second]) rfl ?_
    show Steps p.tables e below (s₁.setTop (mkF m 5 #[.val (.long q1), .second, .val (.long q2), .second, .val (.long (q1 - q2)), .second] [])) _
    refine XS.lload X0.here hx rfl (hb hby d4_5) rfl ?_
    show Steps p.tables e below (s₁.setTop (mkF m 7 #[.val (.long q1), .second, .val (.long q2), .second, .val (.long (q1 - q2)), .second] [(.long (q1 - q2))])) _
    refine XS.lloadN X0.here hx rfl (hb hby d4_7) rfl ?_
    show Steps p.tables e below (s₁.setTop (mkF m 8 #[.val (.long q1), .second, .val (.long q2), .second, .val (.long (q1 - q2)), .second] [(.long q1), (.long (q1 - q2))])) _
    refine XS.lcmp X0.here hx rfl (hb hby d4_8) rfl ?_
    show Steps p.tables e below (s₁.setTop (mkF m 9 #[.val (.long q1), .second, .val (.long q2), .second, .val (.long (q1 - q2)), .second] [(.int (lcmpW (q1 - q2) q1))])) _
    exact k)
  by_cases hc2 : q1 < (q1 - q2)
  · skip
    obtain ⟨fs, hr, hrun, hended, hW, hsame⟩ := X0.leave (v := some (.long (-9223372036854775808 : Int64))) (fun h => by rw [Bd.returns] at h; cases h)
    refine ⟨_, _, pre1 _ ?_, hrun, hended, _, _, rfl, ?_, ⟨_, rfl⟩, hW, hsame.mono (by decide) (by decide)⟩
    · skip
      refine XS.ifNo X0.here hx rfl (hb hby d4_9) rfl ((if0 _ _).trans (tlt ((lw_gt _ _).mpr hc2)).2.2.2) ?_
      show Steps p.tables e below (s₁.setTop (mkF m 12 #[.val (.long q1), .second, .val (.long q2), .second, .val (.long (q1 - q2)), .second] [])) _
      refine X0.ldc2Long hx hown (mvT hZ (kw20 hw)) (g := (mkF m 12 #[.val (.long q1), .second, .val (.long q2), .second, .val (.long (q1 - q2)), .second] [])) rfl (hb hby d4_12) _ ?_
      show Steps p.tables e below (s₁.setTop (mkF m 15 #[.val (.long q1), .second, .val (.long q2), .second, .val (.long (q1 - q2)), .second] [(.long (-9223372036854775808 : Int64))])) _
      jvm_step X0.here [X0.here.top, hx, (hb hby d4_15), X0.method', Bd.returns, narrow]
      first | (intro acts; rw [hr _ acts rfl rfl rfl]) | rw [hr _ _ rfl rfl rfl]
      exact Steps.refl _
    · show Q_rm4 Z q1 q2 h0 n0 _ s₁.heap _
      rw [e0]
      exact ⟨(by unfold own_lag; rw [if_pos hc2]), N0, rfl⟩
  · skip
    obtain ⟨fs, hr, hrun, hended, hW, hsame⟩ := X0.leave (v := some (.long (q1 - q2))) (fun h => by rw [Bd.returns] at h; cases h)
    refine ⟨_, _, pre1 _ ?_, hrun, hended, _, _, rfl, ?_, ⟨_, rfl⟩, hW, hsame.mono (by decide) (by decide)⟩
    · skip
      refine XS.ifYes X0.here hx rfl (pc0 := 9) (pc' := 16) rfl (hb hby d4_9) rfl ((if0 _ _).trans (flt (fun q => hc2 ((lw_gt _ _).mp q))).2.2.2) (by decide) (by decide) ?_
      show Steps p.tables e below (s₁.setTop (mkF m 16 #[.val (.long q1), .second, .val (.long q2), .second, .val (.long (q1 - q2)), .second] [])) _
      refine XS.lload X0.here hx rfl (hb hby d4_16) rfl ?_
      show Steps p.tables e below (s₁.setTop (mkF m 18 #[.val (.long q1), .second, .val (.long q2), .second, .val (.long (q1 - q2)), .second] [(.long (q1 - q2))])) _
      jvm_step X0.here [X0.here.top, hx, (hb hby d4_18), X0.method', Bd.returns, narrow]
      first | (intro acts; rw [hr _ acts rfl rfl rfl]) | rw [hr _ _ rfl rfl rfl]
      exact Steps.refl _
    · show Q_rm4 Z q1 q2 h0 n0 _ s₁.heap _
      rw [e0]
      exact ⟨(by unfold own_lag; rw [if_neg hc2]), N0, rfl⟩
theorem ef_rm5 (m : MethodId) (x0 : Int64) (x1 : Int64) : entryFrame m #[(.long x0), (.long x1)] 4 = mkF m 0 #[.val (.long x0), .second, .val (.long x1), .second] [] := by first | (simp [entryFrame, mkF, argsToLocals, Value.category]; done) | rfl
def Q_rm5 (Z : State) (q1 : Int64) (q2 : Int64) (h0 : Heap) (n0 : Nat) (v : Option Value) (h : Heap) (L : List Loc) : Prop := v = some (.long (own_gr q1 q2)) ∧ Fr n0 L ∧ h = h0
set_option maxRecDepth 65536 in
set_option maxHeartbeats 40000000 in
theorem rm5 (l : Launch) (Z : State) (a0 : Array Value) (hw : ∀ d ∈ tables_1, d.before a0 Z = true) (ws : List Jvm.Cond) (q1 : Int64) (q2 : Int64) (h0 : Heap) (n0 : Nat) (Z0 : n0 ≤ h0.size)  :
    MetFree l (⟨"com/example/casement/casement/time/WatermarkAdvancePinLaw", "greater", "(JJ)J"⟩ : MethodName) (head1 (Jvm.Cond.code (⟨"com/example/casement/casement/time/WatermarkAdvancePinLaw", "greater", "(JJ)J"⟩ : MethodName) method_3_code 4 (some .long) :: ws) ({ frames := 0, cells := 0, slots := 0, locals := 0 } : Room)) (fun a U => a = #[(.long q1), (.long q2)] ∧ Z.Warmed39 U.vm ∧ U.heap = h0) (fun _ _ _ _ _ => True) (fun _ U o U' => ∃ v L, o = .returned v ∧ Q_rm5 Z q1 q2 h0 n0 v U'.heap L ∧ FrameEnd U o U' L ({ frames := 0, cells := 0, slots := 0, locals := 0 } : Room).cells ({ frames := 0, cells := 0, slots := 0, locals := 0 } : Room).slots) := by
  refine MetFree.of_bodySF (plainFor_of_name pn_1) hisR ?_
  intro p e s m args below meth c s₁ Bd hml0 hP hK
  obtain ⟨rfl, hZ, hh⟩ := hP
  have hx := Bd.exec
  have hby := Bd.bytes
  have hml : c.maxLocals = 4 := hml0
  have hown : s.vm.findClass "com/example/casement/casement/time/WatermarkAdvancePinLaw" = some m.cls := findClass_of_methodNamed Bd.named
  have hnm := (name_of_methodNamed Bd.named Bd.method).1
  have X0 : Stand p l e ({ frames := 0, cells := 0, slots := 0, locals := 0 } : Room) s m #[(.long q1), (.long q2)] below meth c s₁ [] 0 0 := Stand.of_body Bd
  have e0 : s₁.heap = h0 := by rw [← hh, Bd.state]; rfl
  have N0 := Fr.nil n0
  have KR : Keep h0 h0 [] := Keep.refl h0 _
  have pre0 : ∀ t, Steps p.tables e below (s₁.setTop (mkF m 0 #[.val (.long q1), .second, .val (.long q2), .second] [])) t → Steps p.tables e below (s₁.setTop (entryFrame m #[(.long q1), (.long q2)] 4)) t := fun t k => castTop (ef_rm5 m (q1) (q2)) k
  have pre1 : ∀ t, Steps p.tables e below (s₁.setTop (mkF m 3 #[.val (.long q1), .second, .val (.long q2), .second] [(.int (lcmpW q1 q2))])) t → Steps p.tables e below (s₁.setTop (entryFrame m #[(.long q1), (.long q2)] 4)) t := fun t k => pre0 t (by
    show Steps p.tables e below (s₁.setTop (mkF m 0 #[.val (.long q1), .second, .val (.long q2), .second] [])) _
    refine XS.lloadN X0.here hx rfl (hb hby d5_0) rfl ?_
    show Steps p.tables e below (s₁.setTop (mkF m 1 #[.val (.long q1), .second, .val (.long q2), .second] [(.long q1)])) _
    refine XS.lloadN X0.here hx rfl (hb hby d5_1) rfl ?_
    show Steps p.tables e below (s₁.setTop (mkF m 2 #[.val (.long q1), .second, .val (.long q2), .second] [(.long q2), (.long q1)])) _
    refine XS.lcmp X0.here hx rfl (hb hby d5_2) rfl ?_
    show Steps p.tables e below (s₁.setTop (mkF m 3 #[.val (.long q1), .second, .val (.long q2), .second] [(.int (lcmpW q1 q2))])) _
    exact k)
  by_cases hc2 : q1 < q2
  · skip
    obtain ⟨fs, hr, hrun, hended, hW, hsame⟩ := X0.leave (v := some (.long q2)) (fun h => by rw [Bd.returns] at h; cases h)
    refine ⟨_, _, pre1 _ ?_, hrun, hended, _, _, rfl, ?_, ⟨_, rfl⟩, hW, hsame.mono (by decide) (by decide)⟩
    · skip
      refine XS.ifNo X0.here hx rfl (hb hby d5_3) rfl ((if0 _ _).trans (tlt ((lw_lt _ _).mpr hc2)).2.1) ?_
      show Steps p.tables e below (s₁.setTop (mkF m 6 #[.val (.long q1), .second, .val (.long q2), .second] [])) _
      refine XS.lloadN X0.here hx rfl (hb hby d5_6) rfl ?_
      show Steps p.tables e below (s₁.setTop (mkF m 7 #[.val (.long q1), .second, .val (.long q2), .second] [(.long q2)])) _
      jvm_step X0.here [X0.here.top, hx, (hb hby d5_7), X0.method', Bd.returns, narrow]
      first | (intro acts; rw [hr _ acts rfl rfl rfl]) | rw [hr _ _ rfl rfl rfl]
      exact Steps.refl _
    · show Q_rm5 Z q1 q2 h0 n0 _ s₁.heap _
      rw [e0]
      exact ⟨(by unfold own_gr; rw [if_pos hc2]), N0, rfl⟩
  · skip
    obtain ⟨fs, hr, hrun, hended, hW, hsame⟩ := X0.leave (v := some (.long q1)) (fun h => by rw [Bd.returns] at h; cases h)
    refine ⟨_, _, pre1 _ ?_, hrun, hended, _, _, rfl, ?_, ⟨_, rfl⟩, hW, hsame.mono (by decide) (by decide)⟩
    · skip
      refine XS.ifYes X0.here hx rfl (pc0 := 3) (pc' := 8) rfl (hb hby d5_3) rfl ((if0 _ _).trans (flt (fun q => hc2 ((lw_lt _ _).mp q))).2.1) (by decide) (by decide) ?_
      show Steps p.tables e below (s₁.setTop (mkF m 8 #[.val (.long q1), .second, .val (.long q2), .second] [])) _
      refine XS.lloadN X0.here hx rfl (hb hby d5_8) rfl ?_
      show Steps p.tables e below (s₁.setTop (mkF m 9 #[.val (.long q1), .second, .val (.long q2), .second] [(.long q1)])) _
      jvm_step X0.here [X0.here.top, hx, (hb hby d5_9), X0.method', Bd.returns, narrow]
      first | (intro acts; rw [hr _ acts rfl rfl rfl]) | rw [hr _ _ rfl rfl rfl]
      exact Steps.refl _
    · show Q_rm5 Z q1 q2 h0 n0 _ s₁.heap _
      rw [e0]
      exact ⟨(by unfold own_gr; rw [if_neg hc2]), N0, rfl⟩
theorem ef_rm7 (m : MethodId) (x0 : Int64) (x1 : Int64) : entryFrame m #[(.long x0), (.long x1)] 4 = mkF m 0 #[.val (.long x0), .second, .val (.long x1), .second] [] := by first | (simp [entryFrame, mkF, argsToLocals, Value.category]; done) | rfl
def Q_rm7 (Z : State) (q1 : Int64) (q2 : Int64) (h0 : Heap) (n0 : Nat) (v : Option Value) (h : Heap) (L : List Loc) : Prop := v = some (.long (own_gr q1 q2)) ∧ Fr n0 L ∧ h = h0
set_option maxRecDepth 65536 in
set_option maxHeartbeats 40000000 in
theorem rm7 (l : Launch) (Z : State) (a0 : Array Value) (hw : ∀ d ∈ tables_1, d.before a0 Z = true) (ws : List Jvm.Cond) (q1 : Int64) (q2 : Int64) (h0 : Heap) (n0 : Nat) (Z0 : n0 ≤ h0.size)  :
    MetFree l (⟨"java/lang/Math", "max", "(JJ)J"⟩ : MethodName) (head1 (Jvm.Cond.code (⟨"java/lang/Math", "max", "(JJ)J"⟩ : MethodName) jdk_29_method_66_code 4 (some .long) :: ws) ({ frames := 0, cells := 0, slots := 0, locals := 0 } : Room)) (fun a U => a = #[(.long q1), (.long q2)] ∧ Z.Warmed39 U.vm ∧ U.heap = h0) (fun _ _ _ _ _ => True) (fun _ U o U' => ∃ v L, o = .returned v ∧ Q_rm7 Z q1 q2 h0 n0 v U'.heap L ∧ FrameEnd U o U' L ({ frames := 0, cells := 0, slots := 0, locals := 0 } : Room).cells ({ frames := 0, cells := 0, slots := 0, locals := 0 } : Room).slots) := by
  refine MetFree.of_bodySF (Jvm.Free.JP.mathPlain rfl (by decide +kernel)) hisR ?_
  intro p e s m args below meth c s₁ Bd hml0 hP hK
  obtain ⟨rfl, hZ, hh⟩ := hP
  have hx := Bd.exec
  have hby := Bd.bytes
  have hml : c.maxLocals = 4 := hml0
  have hown : s.vm.findClass "java/lang/Math" = some m.cls := findClass_of_methodNamed Bd.named
  have hnm := (name_of_methodNamed Bd.named Bd.method).1
  have X0 : Stand p l e ({ frames := 0, cells := 0, slots := 0, locals := 0 } : Room) s m #[(.long q1), (.long q2)] below meth c s₁ [] 0 0 := Stand.of_body Bd
  have e0 : s₁.heap = h0 := by rw [← hh, Bd.state]; rfl
  have N0 := Fr.nil n0
  have KR : Keep h0 h0 [] := Keep.refl h0 _
  have pre0 : ∀ t, Steps p.tables e below (s₁.setTop (mkF m 0 #[.val (.long q1), .second, .val (.long q2), .second] [])) t → Steps p.tables e below (s₁.setTop (entryFrame m #[(.long q1), (.long q2)] 4)) t := fun t k => castTop (ef_rm7 m (q1) (q2)) k
  have pre1 : ∀ t, Steps p.tables e below (s₁.setTop (mkF m 3 #[.val (.long q1), .second, .val (.long q2), .second] [(.int (lcmpW q1 q2))])) t → Steps p.tables e below (s₁.setTop (entryFrame m #[(.long q1), (.long q2)] 4)) t := fun t k => pre0 t (by
    show Steps p.tables e below (s₁.setTop (mkF m 0 #[.val (.long q1), .second, .val (.long q2), .second] [])) _
    refine XS.lloadN X0.here hx rfl (hb hby d7_0) rfl ?_
    show Steps p.tables e below (s₁.setTop (mkF m 1 #[.val (.long q1), .second, .val (.long q2), .second] [(.long q1)])) _
    refine XS.lloadN X0.here hx rfl (hb hby d7_1) rfl ?_
    show Steps p.tables e below (s₁.setTop (mkF m 2 #[.val (.long q1), .second, .val (.long q2), .second] [(.long q2), (.long q1)])) _
    refine XS.lcmp X0.here hx rfl (hb hby d7_2) rfl ?_
    show Steps p.tables e below (s₁.setTop (mkF m 3 #[.val (.long q1), .second, .val (.long q2), .second] [(.int (lcmpW q1 q2))])) _
    exact k)
  by_cases hc2 : q1 < q2
  · skip
    obtain ⟨fs, hr, hrun, hended, hW, hsame⟩ := X0.leave (v := some (.long q2)) (fun h => by rw [Bd.returns] at h; cases h)
    refine ⟨_, _, pre1 _ ?_, hrun, hended, _, _, rfl, ?_, ⟨_, rfl⟩, hW, hsame.mono (by decide) (by decide)⟩
    · skip
      refine XS.ifYes X0.here hx rfl (pc0 := 3) (pc' := 10) rfl (hb hby d7_3) rfl ((if0 _ _).trans (tlt ((lw_lt _ _).mpr hc2)).1) (by decide) (by decide) ?_
      show Steps p.tables e below (s₁.setTop (mkF m 10 #[.val (.long q1), .second, .val (.long q2), .second] [])) _
      refine XS.lloadN X0.here hx rfl (hb hby d7_10) rfl ?_
      show Steps p.tables e below (s₁.setTop (mkF m 11 #[.val (.long q1), .second, .val (.long q2), .second] [(.long q2)])) _
      jvm_step X0.here [X0.here.top, hx, (hb hby d7_11), X0.method', Bd.returns, narrow]
      first | (intro acts; rw [hr _ acts rfl rfl rfl]) | rw [hr _ _ rfl rfl rfl]
      exact Steps.refl _
    · show Q_rm7 Z q1 q2 h0 n0 _ s₁.heap _
      rw [e0]
      exact ⟨(by unfold own_gr; rw [if_pos hc2]), N0, rfl⟩
  · skip
    obtain ⟨fs, hr, hrun, hended, hW, hsame⟩ := X0.leave (v := some (.long q1)) (fun h => by rw [Bd.returns] at h; cases h)
    refine ⟨_, _, pre1 _ ?_, hrun, hended, _, _, rfl, ?_, ⟨_, rfl⟩, hW, hsame.mono (by decide) (by decide)⟩
    · skip
      refine XS.ifNo X0.here hx rfl (hb hby d7_3) rfl ((if0 _ _).trans (flt (fun q => hc2 ((lw_lt _ _).mp q))).1) ?_
      show Steps p.tables e below (s₁.setTop (mkF m 6 #[.val (.long q1), .second, .val (.long q2), .second] [])) _
      refine XS.lloadN X0.here hx rfl (hb hby d7_6) rfl ?_
      show Steps p.tables e below (s₁.setTop (mkF m 7 #[.val (.long q1), .second, .val (.long q2), .second] [(.long q1)])) _
      refine XS.goto X0.here hx rfl (pc0 := 7) (pc' := 11) rfl (hb hby d7_7) (by decide) (by decide) ?_
      show Steps p.tables e below (s₁.setTop (mkF m 11 #[.val (.long q1), .second, .val (.long q2), .second] [(.long q1)])) _
      jvm_step X0.here [X0.here.top, hx, (hb hby d7_11), X0.method', Bd.returns, narrow]
      first | (intro acts; rw [hr _ acts rfl rfl rfl]) | rw [hr _ _ rfl rfl rfl]
      exact Steps.refl _
    · show Q_rm7 Z q1 q2 h0 n0 _ s₁.heap _
      rw [e0]
      exact ⟨(by unfold own_gr; rw [if_neg hc2]), N0, rfl⟩
theorem ef_rm6 (m : MethodId) (x0 : Addr) (x1 : Int64) : entryFrame m #[(.ref x0), (.long x1)] 5 = mkF m 0 #[.val (.ref x0), .val (.long x1), .second, .unset, .unset] [] := by first | (simp [entryFrame, mkF, argsToLocals, Value.category]; done) | rfl
def Q_rm6 (Z : State) (a1 : Addr) (q1 : Int64) (cur : Int64) (lag : Int64) (h0 : Heap) (n0 : Nat) (v : Option Value) (h : Heap) (L : List Loc) : Prop := v = some (.long (own_adv cur lag q1)) ∧ Fr n0 L ∧ Keep h0 h [a1] ∧ Fld Z h a1 "com/example/casement/casement/time/Watermark" "current" "J" (.long (own_adv cur lag q1)) ∧ Fld Z h a1 "com/example/casement/casement/time/Watermark" "lag" "J" (.long lag)
set_option maxRecDepth 65536 in
set_option maxHeartbeats 40000000 in
theorem rm6 (l : Launch) (Z : State) (a0 : Array Value) (hw : ∀ d ∈ tables_1, d.before a0 Z = true) (ws : List Jvm.Cond) (a1 : Addr) (q1 : Int64) (cur : Int64) (lag : Int64) (h0 : Heap) (n0 : Nat) (Z0 : n0 ≤ h0.size) (P0 : Exa Z h0 a1 "com/example/casement/casement/time/Watermark") (P1 : Fld Z h0 a1 "com/example/casement/casement/time/Watermark" "current" "J" (.long cur)) (P2 : Fld Z h0 a1 "com/example/casement/casement/time/Watermark" "lag" "J" (.long lag)) (P3 : n0 ≤ a1) :
    MetFree l (⟨"com/example/casement/casement/time/Watermark", "advance", "(J)J"⟩ : MethodName) (head1 (Jvm.Cond.code (⟨"com/example/casement/casement/time/Watermark", "advance", "(J)J"⟩ : MethodName) prog_25_method_2_code 5 (some .long) :: ws) ({ frames := 1, cells := 0, slots := 0, locals := 16 } : Room)) (fun a U => a = #[(.ref a1), (.long q1)] ∧ Z.Warmed39 U.vm ∧ U.heap = h0) (fun _ _ _ _ _ => True) (fun _ U o U' => ∃ v L, o = .returned v ∧ Q_rm6 Z a1 q1 cur lag h0 n0 v U'.heap L ∧ FrameEnd U o U' L ({ frames := 1, cells := 0, slots := 0, locals := 16 } : Room).cells ({ frames := 1, cells := 0, slots := 0, locals := 16 } : Room).slots) := by
  refine MetFree.of_bodySF (plainFor_of_name pn_0) hisR ?_
  intro p e s m args below meth c s₁ Bd hml0 hP hK
  obtain ⟨rfl, hZ, hh⟩ := hP
  have hx := Bd.exec
  have hby := Bd.bytes
  have hml : c.maxLocals = 5 := hml0
  have hown : s.vm.findClass "com/example/casement/casement/time/Watermark" = some m.cls := findClass_of_methodNamed Bd.named
  have hnm := (name_of_methodNamed Bd.named Bd.method).1
  have X0 : Stand p l e ({ frames := 1, cells := 0, slots := 0, locals := 16 } : Room) s m #[(.ref a1), (.long q1)] below meth c s₁ [] 0 0 := Stand.of_body Bd
  have e0 : s₁.heap = h0 := by rw [← hh, Bd.state]; rfl
  have N0 := Fr.nil n0
  have KR : Keep h0 h0 [a1] := Keep.refl h0 _
  have pre0 : ∀ t, Steps p.tables e below (s₁.setTop (mkF m 0 #[.val (.ref a1), .val (.long q1), .second, .unset, .unset] [])) t → Steps p.tables e below (s₁.setTop (entryFrame m #[(.ref a1), (.long q1)] 5)) t := fun t k => castTop (ef_rm6 m (a1) (q1)) k
  obtain ⟨T1, X1, e1, st1⟩ := getF X0 hx hZ hown (host := "") (Or.inl (kw13 hw)) Via.refl e0 P2 (g := (mkF m 5 #[.val (.ref a1), .val (.long q1), .second, .unset, .unset] [(.ref a1), (.long (-9223372036854775808 : Int64)), (.long q1)])) rfl rfl (hb hby d6_5)
  have pre2 : ∀ t, Steps p.tables e below (T1.setTop (mkF m 10 #[.val (.ref a1), .val (.long q1), .second, .unset, .unset] [(.int (lcmpW q1 ((-9223372036854775808 : Int64) + lag)))])) t → Steps p.tables e below (s₁.setTop (entryFrame m #[(.ref a1), (.long q1)] 5)) t := fun t k => pre0 t (by
    show Steps p.tables e below (s₁.setTop (mkF m 0 #[.val (.ref a1), .val (.long q1), .second, .unset, .unset] [])) _
    refine XS.lloadN X0.here hx rfl (hb hby d6_0) rfl ?_
    show Steps p.tables e below (s₁.setTop (mkF m 1 #[.val (.ref a1), .val (.long q1), .second, .unset, .unset] [(.long q1)])) _
    refine X0.ldc2Long hx hown (mvT hZ (kw10 hw)) (g := (mkF m 1 #[.val (.ref a1), .val (.long q1), .second, .unset, .unset] [(.long q1)])) rfl (hb hby d6_1) _ ?_
    show Steps p.tables e below (s₁.setTop (mkF m 4 #[.val (.ref a1), .val (.long q1), .second, .unset, .unset] [(.long (-9223372036854775808 : Int64)), (.long q1)])) _
    refine XS.aloadN X0.here hx rfl (hb hby d6_4) rfl rfl ?_
    show Steps p.tables e below (s₁.setTop (mkF m 5 #[.val (.ref a1), .val (.long q1), .second, .unset, .unset] [(.ref a1), (.long (-9223372036854775808 : Int64)), (.long q1)])) _
    refine st1 _ ?_
    show Steps p.tables e below (T1.setTop (mkF m 8 #[.val (.ref a1), .val (.long q1), .second, .unset, .unset] [(.long lag), (.long (-9223372036854775808 : Int64)), (.long q1)])) _
    refine XS.ladd X1.here hx rfl (hb hby d6_8) rfl ?_
    show Steps p.tables e below (T1.setTop (mkF m 9 #[.val (.ref a1), .val (.long q1), .second, .unset, .unset] [(.long ((-9223372036854775808 : Int64) + lag)), (.long q1)])) _
    refine XS.lcmp X1.here hx rfl (hb hby d6_9) rfl ?_
    show Steps p.tables e below (T1.setTop (mkF m 10 #[.val (.ref a1), .val (.long q1), .second, .unset, .unset] [(.int (lcmpW q1 ((-9223372036854775808 : Int64) + lag)))])) _
    exact k)
  by_cases hc3 : q1 < ((-9223372036854775808 : Int64) + lag)
  · skip
    obtain ⟨T4, X4, e4, st4⟩ := getF X1 hx hZ hown (host := "") (Or.inl (kw11 hw)) Via.refl e1 P1 (g := (mkF m 28 #[.val (.ref a1), .val (.long q1), .second, .val (.long (-9223372036854775808 : Int64)), .second] [(.ref a1), (.ref a1)])) rfl rfl (hb hby d6_28)
    obtain ⟨_, _, ⟨T5, L5, k5, n5⟩, -, X5, ⟨Lc5, hQ5, l5, y5, z5⟩, st5⟩ := Jvm.LawKit.callS X4 hx (y := (⟨"java/lang/Math", "max", "(JJ)J"⟩ : MethodName)) hown (mvT hZ (kw33 hw)) (mvT hZ (kw34 hw)) (mvT hZ (kw35 hw)) (mvT hZ (kw36 hw)) (by decide) (backOf (W := 1) (rm7 l Z a0 hw [] cur (-9223372036854775808 : Int64) h0 n0 Z0 ) hZ (kw36 hw) (kw35 hw) (by decide) (by decide)) (g := (mkF m 32 #[.val (.ref a1), .val (.long q1), .second, .val (.long (-9223372036854775808 : Int64)), .second] [(.long (-9223372036854775808 : Int64)), (.long cur), (.ref a1)])) rfl (by rw [hml]; rfl) (argsL := [(.long cur), (.long (-9223372036854775808 : Int64))]) (rest := [(.ref a1)]) (lenOf pd_0 rfl) rfl (by show 2 * 0 + _ ≤ _; exact Nat.le_of_eq rfl) (hb hby d6_32) (fun _ _ => ⟨rfl, e4, (by decide : 0 + 0 ≤ _), (by decide : 0 + 0 ≤ _)⟩)
    dsimp only [Pt.U, Pt.locs, Pt.cells, Pt.slots] at X5 l5 y5 z5 st5 hQ5
    subst l5 y5 z5
    obtain ⟨rfl, N5q, e5⟩ := hQ5
    have N5 := Fr.app N0 N5q
    obtain ⟨T6, h6, X6, e6, W6, st6⟩ := putF X5 hx hZ hown (host := "") (Or.inl (kw11 hw)) Via.refl e5 P1 P0 (Or.inl (kw12 hw)) (kw2 hw) (ty := .long) (by decide) rfl rfl (g := (mkF m 35 #[.val (.ref a1), .val (.long q1), .second, .val (.long (-9223372036854775808 : Int64)), .second] [(.long (own_gr cur (-9223372036854775808 : Int64))), (.ref a1)])) rfl rfl (hb hby d6_35)
    have Z6 : n0 ≤ h6.size := Nat.le_trans Z0 (Keep.of_wr W6).1
    have K6 : Keep h0 h6 [a1] := KR.wr W6 (Or.inl (List.mem_of_getElem? (i := 0) rfl))
    have N6 := Fr.snoc X6 N5 P3
    have Fw6 : Fld Z h6 a1 "com/example/casement/casement/time/Watermark" "current" "J" (.long (own_gr cur (-9223372036854775808 : Int64))) := P1.same W6
    obtain ⟨T7, X7, e7, st7⟩ := getF X6 hx hZ hown (host := "") (Or.inl (kw11 hw)) Via.refl e6 Fw6 (g := (mkF m 39 #[.val (.ref a1), .val (.long q1), .second, .val (.long (-9223372036854775808 : Int64)), .second] [(.ref a1)])) rfl rfl (hb hby d6_39)
    have f8 : Fld Z h6 a1 "com/example/casement/casement/time/Watermark" "lag" "J" (.long lag) := (P2.other W6 (Or.inr (slot_ne (Or.inr (kw14 hw)) (Or.inl (kw12 hw)) (by decide) (t := .long) (t' := .long) (by decide) (by decide))))
    obtain ⟨fs, hr, hrun, hended, hW, hsame⟩ := X7.leave (v := some (.long (own_gr cur (-9223372036854775808 : Int64)))) (fun h => by rw [Bd.returns] at h; cases h)
    refine ⟨_, _, pre2 _ ?_, hrun, hended, _, _, rfl, ?_, ⟨_, rfl⟩, hW, hsame.mono (by decide) (by decide)⟩
    · skip
      refine XS.ifNo X1.here hx rfl (hb hby d6_10) rfl ((if0 _ _).trans (tlt ((lw_lt _ _).mpr hc3)).2.1) ?_
      show Steps p.tables e below (T1.setTop (mkF m 13 #[.val (.ref a1), .val (.long q1), .second, .unset, .unset] [])) _
      refine X1.ldc2Long hx hown (mvT hZ (kw10 hw)) (g := (mkF m 13 #[.val (.ref a1), .val (.long q1), .second, .unset, .unset] [])) rfl (hb hby d6_13) _ ?_
      show Steps p.tables e below (T1.setTop (mkF m 16 #[.val (.ref a1), .val (.long q1), .second, .unset, .unset] [(.long (-9223372036854775808 : Int64))])) _
      refine XS.goto X1.here hx rfl (pc0 := 16) (pc' := 25) rfl (hb hby d6_16) (by decide) (by decide) ?_
      show Steps p.tables e below (T1.setTop (mkF m 25 #[.val (.ref a1), .val (.long q1), .second, .unset, .unset] [(.long (-9223372036854775808 : Int64))])) _
      refine XS.lstoreN X1.here hx rfl (hb hby d6_25) rfl (l' := #[.val (.ref a1), .val (.long q1), .second, .val (.long (-9223372036854775808 : Int64)), .second]) rfl ?_
      show Steps p.tables e below (T1.setTop (mkF m 26 #[.val (.ref a1), .val (.long q1), .second, .val (.long (-9223372036854775808 : Int64)), .second] [])) _
      refine XS.aloadN X1.here hx rfl (hb hby d6_26) rfl rfl ?_
      show Steps p.tables e below (T1.setTop (mkF m 27 #[.val (.ref a1), .val (.long q1), .second, .val (.long (-9223372036854775808 : Int64)), .second] [(.ref a1)])) _
      refine XS.aloadN X1.here hx rfl (hb hby d6_27) rfl rfl ?_
      show Steps p.tables e below (T1.setTop (mkF m 28 #[.val (.ref a1), .val (.long q1), .second, .val (.long (-9223372036854775808 : Int64)), .second] [(.ref a1), (.ref a1)])) _
      refine st4 _ ?_
      show Steps p.tables e below (T4.setTop (mkF m 31 #[.val (.ref a1), .val (.long q1), .second, .val (.long (-9223372036854775808 : Int64)), .second] [(.long cur), (.ref a1)])) _
      refine XS.lloadN X4.here hx rfl (hb hby d6_31) rfl ?_
      show Steps p.tables e below (T4.setTop (mkF m 32 #[.val (.ref a1), .val (.long q1), .second, .val (.long (-9223372036854775808 : Int64)), .second] [(.long (-9223372036854775808 : Int64)), (.long cur), (.ref a1)])) _
      refine st5 _ ?_
      show Steps p.tables e below (T5.setTop (mkF m 35 #[.val (.ref a1), .val (.long q1), .second, .val (.long (-9223372036854775808 : Int64)), .second] [(.long (own_gr cur (-9223372036854775808 : Int64))), (.ref a1)])) _
      refine st6 _ ?_
      show Steps p.tables e below (T6.setTop (mkF m 38 #[.val (.ref a1), .val (.long q1), .second, .val (.long (-9223372036854775808 : Int64)), .second] [])) _
      refine XS.aloadN X6.here hx rfl (hb hby d6_38) rfl rfl ?_
      show Steps p.tables e below (T6.setTop (mkF m 39 #[.val (.ref a1), .val (.long q1), .second, .val (.long (-9223372036854775808 : Int64)), .second] [(.ref a1)])) _
      refine st7 _ ?_
      show Steps p.tables e below (T7.setTop (mkF m 42 #[.val (.ref a1), .val (.long q1), .second, .val (.long (-9223372036854775808 : Int64)), .second] [(.long (own_gr cur (-9223372036854775808 : Int64)))])) _
      jvm_step X7.here [X7.here.top, hx, (hb hby d6_42), X7.method', Bd.returns, narrow]
      first | (intro acts; rw [hr _ acts rfl rfl rfl]) | rw [hr _ _ rfl rfl rfl]
      exact Steps.refl _
    · show Q_rm6 Z a1 q1 cur lag h0 n0 _ T7.heap _
      rw [e7]
      exact ⟨(by unfold own_adv; rw [if_pos hc3]), N6, K6, (by unfold own_adv; rw [if_pos hc3]; exact Fw6), f8⟩
  · skip
    obtain ⟨T10, X10, e10, st10⟩ := getF X1 hx hZ hown (host := "") (Or.inl (kw13 hw)) Via.refl e1 P2 (g := (mkF m 21 #[.val (.ref a1), .val (.long q1), .second, .unset, .unset] [(.ref a1), (.long q1)])) rfl rfl (hb hby d6_21)
    obtain ⟨T11, X11, e11, st11⟩ := getF X10 hx hZ hown (host := "") (Or.inl (kw11 hw)) Via.refl e10 P1 (g := (mkF m 28 #[.val (.ref a1), .val (.long q1), .second, .val (.long (q1 - lag)), .second] [(.ref a1), (.ref a1)])) rfl rfl (hb hby d6_28)
    obtain ⟨_, _, ⟨T12, L12, k12, n12⟩, -, X12, ⟨Lc12, hQ12, l12, y12, z12⟩, st12⟩ := Jvm.LawKit.callS X11 hx (y := (⟨"java/lang/Math", "max", "(JJ)J"⟩ : MethodName)) hown (mvT hZ (kw33 hw)) (mvT hZ (kw34 hw)) (mvT hZ (kw35 hw)) (mvT hZ (kw36 hw)) (by decide) (backOf (W := 1) (rm7 l Z a0 hw [] cur (q1 - lag) h0 n0 Z0 ) hZ (kw36 hw) (kw35 hw) (by decide) (by decide)) (g := (mkF m 32 #[.val (.ref a1), .val (.long q1), .second, .val (.long (q1 - lag)), .second] [(.long (q1 - lag)), (.long cur), (.ref a1)])) rfl (by rw [hml]; rfl) (argsL := [(.long cur), (.long (q1 - lag))]) (rest := [(.ref a1)]) (lenOf pd_0 rfl) rfl (by show 2 * 0 + _ ≤ _; exact Nat.le_of_eq rfl) (hb hby d6_32) (fun _ _ => ⟨rfl, e11, (by decide : 0 + 0 ≤ _), (by decide : 0 + 0 ≤ _)⟩)
    dsimp only [Pt.U, Pt.locs, Pt.cells, Pt.slots] at X12 l12 y12 z12 st12 hQ12
    subst l12 y12 z12
    obtain ⟨rfl, N12q, e12⟩ := hQ12
    have N12 := Fr.app N0 N12q
    obtain ⟨T13, h13, X13, e13, W13, st13⟩ := putF X12 hx hZ hown (host := "") (Or.inl (kw11 hw)) Via.refl e12 P1 P0 (Or.inl (kw12 hw)) (kw2 hw) (ty := .long) (by decide) rfl rfl (g := (mkF m 35 #[.val (.ref a1), .val (.long q1), .second, .val (.long (q1 - lag)), .second] [(.long (own_gr cur (q1 - lag))), (.ref a1)])) rfl rfl (hb hby d6_35)
    have Z13 : n0 ≤ h13.size := Nat.le_trans Z0 (Keep.of_wr W13).1
    have K13 : Keep h0 h13 [a1] := KR.wr W13 (Or.inl (List.mem_of_getElem? (i := 0) rfl))
    have N13 := Fr.snoc X13 N12 P3
    have Fw13 : Fld Z h13 a1 "com/example/casement/casement/time/Watermark" "current" "J" (.long (own_gr cur (q1 - lag))) := P1.same W13
    obtain ⟨T14, X14, e14, st14⟩ := getF X13 hx hZ hown (host := "") (Or.inl (kw11 hw)) Via.refl e13 Fw13 (g := (mkF m 39 #[.val (.ref a1), .val (.long q1), .second, .val (.long (q1 - lag)), .second] [(.ref a1)])) rfl rfl (hb hby d6_39)
    have f15 : Fld Z h13 a1 "com/example/casement/casement/time/Watermark" "lag" "J" (.long lag) := (P2.other W13 (Or.inr (slot_ne (Or.inr (kw14 hw)) (Or.inl (kw12 hw)) (by decide) (t := .long) (t' := .long) (by decide) (by decide))))
    obtain ⟨fs, hr, hrun, hended, hW, hsame⟩ := X14.leave (v := some (.long (own_gr cur (q1 - lag)))) (fun h => by rw [Bd.returns] at h; cases h)
    refine ⟨_, _, pre2 _ ?_, hrun, hended, _, _, rfl, ?_, ⟨_, rfl⟩, hW, hsame.mono (by decide) (by decide)⟩
    · skip
      refine XS.ifYes X1.here hx rfl (pc0 := 10) (pc' := 19) rfl (hb hby d6_10) rfl ((if0 _ _).trans (flt (fun q => hc3 ((lw_lt _ _).mp q))).2.1) (by decide) (by decide) ?_
      show Steps p.tables e below (T1.setTop (mkF m 19 #[.val (.ref a1), .val (.long q1), .second, .unset, .unset] [])) _
      refine XS.lloadN X1.here hx rfl (hb hby d6_19) rfl ?_
      show Steps p.tables e below (T1.setTop (mkF m 20 #[.val (.ref a1), .val (.long q1), .second, .unset, .unset] [(.long q1)])) _
      refine XS.aloadN X1.here hx rfl (hb hby d6_20) rfl rfl ?_
      show Steps p.tables e below (T1.setTop (mkF m 21 #[.val (.ref a1), .val (.long q1), .second, .unset, .unset] [(.ref a1), (.long q1)])) _
      refine st10 _ ?_
      show Steps p.tables e below (T10.setTop (mkF m 24 #[.val (.ref a1), .val (.long q1), .second, .unset, .unset] [(.long lag), (.long q1)])) _
      refine XS.lsub X10.here hx rfl (hb hby d6_24) rfl ?_
      show Steps p.tables e below (T10.setTop (mkF m 25 #[.val (.ref a1), .val (.long q1), .second, .unset, .unset] [(.long (q1 - lag))])) _
      refine XS.lstoreN X10.here hx rfl (hb hby d6_25) rfl (l' := #[.val (.ref a1), .val (.long q1), .second, .val (.long (q1 - lag)), .second]) rfl ?_
      show Steps p.tables e below (T10.setTop (mkF m 26 #[.val (.ref a1), .val (.long q1), .second, .val (.long (q1 - lag)), .second] [])) _
      refine XS.aloadN X10.here hx rfl (hb hby d6_26) rfl rfl ?_
      show Steps p.tables e below (T10.setTop (mkF m 27 #[.val (.ref a1), .val (.long q1), .second, .val (.long (q1 - lag)), .second] [(.ref a1)])) _
      refine XS.aloadN X10.here hx rfl (hb hby d6_27) rfl rfl ?_
      show Steps p.tables e below (T10.setTop (mkF m 28 #[.val (.ref a1), .val (.long q1), .second, .val (.long (q1 - lag)), .second] [(.ref a1), (.ref a1)])) _
      refine st11 _ ?_
      show Steps p.tables e below (T11.setTop (mkF m 31 #[.val (.ref a1), .val (.long q1), .second, .val (.long (q1 - lag)), .second] [(.long cur), (.ref a1)])) _
      refine XS.lloadN X11.here hx rfl (hb hby d6_31) rfl ?_
      show Steps p.tables e below (T11.setTop (mkF m 32 #[.val (.ref a1), .val (.long q1), .second, .val (.long (q1 - lag)), .second] [(.long (q1 - lag)), (.long cur), (.ref a1)])) _
      refine st12 _ ?_
      show Steps p.tables e below (T12.setTop (mkF m 35 #[.val (.ref a1), .val (.long q1), .second, .val (.long (q1 - lag)), .second] [(.long (own_gr cur (q1 - lag))), (.ref a1)])) _
      refine st13 _ ?_
      show Steps p.tables e below (T13.setTop (mkF m 38 #[.val (.ref a1), .val (.long q1), .second, .val (.long (q1 - lag)), .second] [])) _
      refine XS.aloadN X13.here hx rfl (hb hby d6_38) rfl rfl ?_
      show Steps p.tables e below (T13.setTop (mkF m 39 #[.val (.ref a1), .val (.long q1), .second, .val (.long (q1 - lag)), .second] [(.ref a1)])) _
      refine st14 _ ?_
      show Steps p.tables e below (T14.setTop (mkF m 42 #[.val (.ref a1), .val (.long q1), .second, .val (.long (q1 - lag)), .second] [(.long (own_gr cur (q1 - lag)))])) _
      jvm_step X14.here [X14.here.top, hx, (hb hby d6_42), X14.method', Bd.returns, narrow]
      first | (intro acts; rw [hr _ acts rfl rfl rfl]) | rw [hr _ _ rfl rfl rfl]
      exact Steps.refl _
    · show Q_rm6 Z a1 q1 cur lag h0 n0 _ T14.heap _
      rw [e14]
      exact ⟨(by unfold own_adv; rw [if_neg hc3]), N13, K13, (by unfold own_adv; rw [if_neg hc3]; exact Fw13), f15⟩
theorem ef_rm0 (m : MethodId) (x0 : Int64) (x1 : Int64) (x2 : Int64) (x3 : Int64) : entryFrame m #[(.long x0), (.long x1), (.long x2), (.long x3)] maxLocals = mkF m 0 #[.val (.long x0), .second, .val (.long x1), .second, .val (.long x2), .second, .val (.long x3), .second, .unset, .unset, .unset, .unset, .unset, .unset, .unset, .unset, .unset, .unset, .unset, .unset, .unset, .unset, .unset] [] := by first | (simp [entryFrame, mkF, argsToLocals, Value.category, maxLocals]; done) | rfl
def Q_rm0 (Z : State) (q1 : Int64) (q2 : Int64) (q3 : Int64) (q4 : Int64) (h0 : Heap) (n0 : Nat) (v : Option Value) (h : Heap) (L : List Loc) : Prop := v = some (.int (1 : Int32)) ∧ Fr n0 L ∧ Keep h0 h []
set_option maxRecDepth 65536 in
set_option maxHeartbeats 40000000 in
theorem rm0 (l : Launch) (Z : State) (a0 : Array Value) (hw : ∀ d ∈ tables_1, d.before a0 Z = true) (ws : List Jvm.Cond) (q1 : Int64) (q2 : Int64) (q3 : Int64) (q4 : Int64) (h0 : Heap) (n0 : Nat) (Z0 : n0 ≤ h0.size)  :
    MetFree l x (head1 (Jvm.Cond.code x code maxLocals ret :: ws) room_1) (fun a U => a = #[(.long q1), (.long q2), (.long q3), (.long q4)] ∧ Z.Warmed39 U.vm ∧ U.heap = h0) (fun _ _ _ _ _ => True) (fun _ U o U' => ∃ v L, o = .returned v ∧ Q_rm0 Z q1 q2 q3 q4 h0 n0 v U'.heap L ∧ FrameEnd U o U' L room_1.cells room_1.slots) := by
  refine MetFree.of_bodySF (plainFor_of_name pn_1) hisR ?_
  intro p e s m args below meth c s₁ Bd hml0 hP hK
  obtain ⟨rfl, hZ, hh⟩ := hP
  have hx := Bd.exec
  have hby := Bd.bytes
  have hml : c.maxLocals = 23 := hml0
  have hown : s.vm.findClass "com/example/casement/casement/time/WatermarkAdvancePinLaw" = some m.cls := findClass_of_methodNamed Bd.named
  have hnm := (name_of_methodNamed Bd.named Bd.method).1
  have X0 : Stand p l e room_1 s m #[(.long q1), (.long q2), (.long q3), (.long q4)] below meth c s₁ [] 0 0 := Stand.of_body Bd
  have e0 : s₁.heap = h0 := by rw [← hh, Bd.state]; rfl
  have N0 := Fr.nil n0
  have KR : Keep h0 h0 [] := Keep.refl h0 _
  have pre0 : ∀ t, Steps p.tables e below (s₁.setTop (mkF m 0 #[.val (.long q1), .second, .val (.long q2), .second, .val (.long q3), .second, .val (.long q4), .second, .unset, .unset, .unset, .unset, .unset, .unset, .unset, .unset, .unset, .unset, .unset, .unset, .unset, .unset, .unset] [])) t → Steps p.tables e below (s₁.setTop (entryFrame m #[(.long q1), (.long q2), (.long q3), (.long q4)] maxLocals)) t := fun t k => castTop (ef_rm0 m (q1) (q2) (q3) (q4)) k
  obtain ⟨T1, h1, X1, e1, E1, A1, D1, -, st1⟩ := newO X0 hx hZ hown (kw1 hw) (kw2 hw) (kw3 hw) e0 (g := (mkF m 7 #[.val (.long q1), .second, .val (.long q2), .second, .val (.long q3), .second, .val (.long q4), .second, .val (.long (q1 &&& (9223372036854775807 : Int64))), .second, .unset, .unset, .unset, .unset, .unset, .unset, .unset, .unset, .unset, .unset, .unset, .unset, .unset] [])) rfl (hb hby at_7) (by decide) (by decide)
  obtain ⟨b1, g1⟩ : ∃ z, z = h0.size := ⟨_, rfl⟩
  rw [← g1] at A1 D1 st1
  have g_b1 : n0 ≤ b1 := Nat.le_trans Z0 (Nat.le_of_eq g1.symm)
  have sz_b1 : h0.size ≤ b1 := Nat.le_trans KR.1 (Nat.le_of_eq g1.symm)
  have Z1 : n0 ≤ h1.size := Nat.le_trans Z0 E1.1
  have K1 : Keep h0 h1 [] := KR.ext E1
  have F1_current : Fld Z h1 b1 "com/example/casement/casement/time/Watermark" "current" "J" (.long (0 : Int64)) := D1 (Or.inl (kw12 hw)) (ty := .long) (by decide)
  have F1_lag : Fld Z h1 b1 "com/example/casement/casement/time/Watermark" "lag" "J" (.long (0 : Int64)) := D1 (Or.inr (kw14 hw)) (ty := .long) (by decide)
  obtain ⟨_, _, ⟨T2, L2, k2, n2⟩, -, X2, ⟨Lc2, hQ2, l2, y2, z2⟩, st2⟩ := X1.specialBack hx (y := (⟨"com/example/casement/casement/time/Watermark", "<init>", "(J)V"⟩ : MethodName)) rfl hown (mvT hZ (kw4 hw)) (mvT hZ (kw5 hw)) (mvT hZ (kw6 hw)) (by decide) (backOf (W := 1) (rm1 l Z a0 hw [] b1 (q1 &&& (9223372036854775807 : Int64)) h1 n0 Z1 A1 F1_current F1_lag g_b1 (own_mask q1)) hZ (kw6 hw) (kw3 hw) (by decide) (by decide)) (g := (mkF m 13 #[.val (.long q1), .second, .val (.long q2), .second, .val (.long q3), .second, .val (.long q4), .second, .val (.long (q1 &&& (9223372036854775807 : Int64))), .second, .unset, .unset, .unset, .unset, .unset, .unset, .unset, .unset, .unset, .unset, .unset, .unset, .unset] [(.long (q1 &&& (9223372036854775807 : Int64))), (.ref b1), (.ref b1)])) rfl (by rw [hml]; rfl) (Steps.refl _) (a := b1) (argsL := [(.long (q1 &&& (9223372036854775807 : Int64)))]) (rest := [(.ref b1)]) (lenOf pd_1 rfl) rfl (by show 2 * 0 + _ ≤ _; exact Nat.le_of_eq rfl) (hb hby at_13) (fun _ _ => ⟨rfl, e1, (by decide : 1 + 0 ≤ _), (by decide : 2 + 0 ≤ _)⟩)
  dsimp only [Pt.U, Pt.locs, Pt.cells, Pt.slots] at X2 l2 y2 z2 st2 hQ2
  subst l2 y2 z2
  obtain ⟨rfl, N2q, Kq2, p2_0, p2_1⟩ := hQ2
  have N2 := Fr.app N0 N2q
  have Z2 : n0 ≤ T2.heap.size := Nat.le_trans Z1 Kq2.1
  have K2 : Keep h0 T2.heap [] := K1.trans Kq2 (allS (Or.inr sz_b1) all0)
  have f4 : Exa Z T2.heap b1 "com/example/casement/casement/time/Watermark" := (A1.keep Kq2)
  obtain ⟨cq3, kq3, q3a, q3b, q3c⟩ := isOf hZ rfl f4
  obtain ⟨_, _, ⟨T3, L3, k3, n3⟩, -, X3, ⟨Lc3, hQ3, l3, y3, z3⟩, st3⟩ := X2.virtualBack hx (y := (⟨"com/example/casement/casement/time/Watermark", "current", "()J"⟩ : MethodName)) (z := (⟨"com/example/casement/casement/time/Watermark", "current", "()J"⟩ : MethodName)) hown (mvT hZ (kw15 hw)) (mvT hZ (kw16 hw)) (notFace_of_selects (args := #[]) (mvT hZ (kw18 hw))) (mvT hZ (kw18 hw)) (mvT hZ (kw17 hw)) (by decide) (backOf (W := 0) (rm3 l Z a0 hw [] b1 (-9223372036854775808 : Int64) T2.heap n0 Z2 p2_0) hZ (kw19 hw) (kw3 hw) (by decide) (by decide)) q3a q3c (g := (mkF m 20 #[.val (.long q1), .second, .val (.long q2), .second, .val (.long q3), .second, .val (.long q4), .second, .val (.long (q1 &&& (9223372036854775807 : Int64))), .second, .val (.ref b1), .unset, .unset, .unset, .unset, .unset, .unset, .unset, .unset, .unset, .unset, .unset, .unset] [(.ref b1)])) rfl (by rw [hml]; rfl) (Steps.refl _) (argsL := []) (rest := []) (lenOf pd_2 rfl) rfl (by show 2 * 0 + _ ≤ _; exact Nat.le_of_eq rfl) (hb hby at_20) (fun _ _ => ⟨rfl, rfl, (by decide : 1 + 0 ≤ _), (by decide : 2 + 0 ≤ _)⟩)
  dsimp only [Pt.U, Pt.locs, Pt.cells, Pt.slots] at X3 l3 y3 z3 st3 hQ3
  subst l3 y3 z3
  obtain ⟨rfl, N3q, e3⟩ := hQ3
  have N3 := Fr.app N2 N3q
  obtain ⟨_, _, ⟨T5, L5, k5, n5⟩, -, X5, ⟨Lc5, hQ5, l5, y5, z5⟩, st5⟩ := Jvm.LawKit.callS X3 hx (y := (⟨"com/example/casement/casement/time/WatermarkAdvancePinLaw", "lagged", "(JJ)J"⟩ : MethodName)) hown (mvT hZ (kw21 hw)) (mvT hZ (kw22 hw)) (mvT hZ (kw23 hw)) (mvT hZ (kw24 hw)) (by decide) (backOf (W := 2) (rm4 l Z a0 hw [] q2 (q1 &&& (9223372036854775807 : Int64)) T2.heap n0 Z2 ) hZ (kw24 hw) (kw23 hw) (by decide) (by decide)) (g := (mkF m 38 #[.val (.long q1), .second, .val (.long q2), .second, .val (.long q3), .second, .val (.long q4), .second, .val (.long (q1 &&& (9223372036854775807 : Int64))), .second, .val (.ref b1), .unset, .unset, .unset, .unset, .unset, .unset, .unset, .unset, .unset, .unset, .unset, .unset] [(.long (q1 &&& (9223372036854775807 : Int64))), (.long q2), (.long (-9223372036854775808 : Int64))])) rfl (by rw [hml]; rfl) (argsL := [(.long q2), (.long (q1 &&& (9223372036854775807 : Int64)))]) (rest := [(.long (-9223372036854775808 : Int64))]) (lenOf pd_0 rfl) rfl (by show 2 * 0 + _ ≤ _; exact Nat.le_of_eq rfl) (hb hby at_38) (fun _ _ => ⟨rfl, e3, (by decide : 1 + 0 ≤ _), (by decide : 2 + 0 ≤ _)⟩)
  dsimp only [Pt.U, Pt.locs, Pt.cells, Pt.slots] at X5 l5 y5 z5 st5 hQ5
  subst l5 y5 z5
  obtain ⟨rfl, N5q, e5⟩ := hQ5
  have N5 := Fr.app N3 N5q
  obtain ⟨_, _, ⟨T6, L6, k6, n6⟩, -, X6, ⟨Lc6, hQ6, l6, y6, z6⟩, st6⟩ := Jvm.LawKit.callS X5 hx (y := (⟨"com/example/casement/casement/time/WatermarkAdvancePinLaw", "greater", "(JJ)J"⟩ : MethodName)) hown (mvT hZ (kw25 hw)) (mvT hZ (kw26 hw)) (mvT hZ (kw23 hw)) (mvT hZ (kw27 hw)) (by decide) (backOf (W := 0) (rm5 l Z a0 hw [] (-9223372036854775808 : Int64) (own_lag q2 (q1 &&& (9223372036854775807 : Int64))) T2.heap n0 Z2 ) hZ (kw27 hw) (kw23 hw) (by decide) (by decide)) (g := (mkF m 41 #[.val (.long q1), .second, .val (.long q2), .second, .val (.long q3), .second, .val (.long q4), .second, .val (.long (q1 &&& (9223372036854775807 : Int64))), .second, .val (.ref b1), .unset, .unset, .unset, .unset, .unset, .unset, .unset, .unset, .unset, .unset, .unset, .unset] [(.long (own_lag q2 (q1 &&& (9223372036854775807 : Int64)))), (.long (-9223372036854775808 : Int64))])) rfl (by rw [hml]; rfl) (argsL := [(.long (-9223372036854775808 : Int64)), (.long (own_lag q2 (q1 &&& (9223372036854775807 : Int64))))]) (rest := []) (lenOf pd_0 rfl) rfl (by show 2 * 0 + _ ≤ _; exact Nat.le_of_eq rfl) (hb hby at_41) (fun _ _ => ⟨rfl, e5, (by decide : 1 + 0 ≤ _), (by decide : 2 + 0 ≤ _)⟩)
  dsimp only [Pt.U, Pt.locs, Pt.cells, Pt.slots] at X6 l6 y6 z6 st6 hQ6
  subst l6 y6 z6
  obtain ⟨rfl, N6q, e6⟩ := hQ6
  have N6 := Fr.app N5 N6q
  obtain ⟨cq7, kq7, q7a, q7b, q7c⟩ := isOf hZ e6 f4
  obtain ⟨_, _, ⟨T7, L7, k7, n7⟩, -, X7, ⟨Lc7, hQ7, l7, y7, z7⟩, st7⟩ := X6.virtualBack hx (y := (⟨"com/example/casement/casement/time/Watermark", "advance", "(J)J"⟩ : MethodName)) (z := (⟨"com/example/casement/casement/time/Watermark", "advance", "(J)J"⟩ : MethodName)) hown (mvT hZ (kw28 hw)) (mvT hZ (kw29 hw)) (notFace_of_selects (args := #[]) (mvT hZ (kw31 hw))) (mvT hZ (kw31 hw)) (mvT hZ (kw30 hw)) (by decide) (backOf (W := 0) (rm6 l Z a0 hw [] b1 q2 (-9223372036854775808 : Int64) (q1 &&& (9223372036854775807 : Int64)) T2.heap n0 Z2 f4 p2_0 p2_1 g_b1) hZ (kw32 hw) (kw3 hw) (by decide) (by decide)) q7a q7c (g := (mkF m 49 #[.val (.long q1), .second, .val (.long q2), .second, .val (.long q3), .second, .val (.long q4), .second, .val (.long (q1 &&& (9223372036854775807 : Int64))), .second, .val (.ref b1), .val (.long (own_gr (-9223372036854775808 : Int64) (own_lag q2 (q1 &&& (9223372036854775807 : Int64))))), .second, .unset, .unset, .unset, .unset, .unset, .unset, .unset, .unset, .unset, .unset] [(.long q2), (.ref b1)])) rfl (by rw [hml]; rfl) (Steps.refl _) (argsL := [(.long q2)]) (rest := []) (lenOf pd_3 rfl) rfl (by show 2 * 0 + _ ≤ _; exact Nat.le_of_eq rfl) (hb hby at_49) (fun _ _ => ⟨rfl, e6, (by decide : 1 + 0 ≤ _), (by decide : 2 + 0 ≤ _)⟩)
  dsimp only [Pt.U, Pt.locs, Pt.cells, Pt.slots] at X7 l7 y7 z7 st7 hQ7
  subst l7 y7 z7
  obtain ⟨rfl, N7q, Kq7, p7_0, p7_1⟩ := hQ7
  have N7 := Fr.app N6 N7q
  have Z7 : n0 ≤ T7.heap.size := Nat.le_trans Z2 Kq7.1
  have K7 : Keep h0 T7.heap [] := K2.trans Kq7 (allS (Or.inr sz_b1) all0)
  have f9 : Exa Z T7.heap b1 "com/example/casement/casement/time/Watermark" := (f4.keep Kq7)
  obtain ⟨cq8, kq8, q8a, q8b, q8c⟩ := isOf hZ rfl f9
  obtain ⟨_, _, ⟨T8, L8, k8, n8⟩, -, X8, ⟨Lc8, hQ8, l8, y8, z8⟩, st8⟩ := X7.virtualBack hx (y := (⟨"com/example/casement/casement/time/Watermark", "current", "()J"⟩ : MethodName)) (z := (⟨"com/example/casement/casement/time/Watermark", "current", "()J"⟩ : MethodName)) hown (mvT hZ (kw15 hw)) (mvT hZ (kw16 hw)) (notFace_of_selects (args := #[]) (mvT hZ (kw18 hw))) (mvT hZ (kw18 hw)) (mvT hZ (kw17 hw)) (by decide) (backOf (W := 0) (rm3 l Z a0 hw [] b1 (own_adv (-9223372036854775808 : Int64) (q1 &&& (9223372036854775807 : Int64)) q2) T7.heap n0 Z7 p7_0) hZ (kw19 hw) (kw3 hw) (by decide) (by decide)) q8a q8c (g := (mkF m 64 #[.val (.long q1), .second, .val (.long q2), .second, .val (.long q3), .second, .val (.long q4), .second, .val (.long (q1 &&& (9223372036854775807 : Int64))), .second, .val (.ref b1), .val (.long (own_gr (-9223372036854775808 : Int64) (own_lag q2 (q1 &&& (9223372036854775807 : Int64))))), .second, .val (.long (own_adv (-9223372036854775808 : Int64) (q1 &&& (9223372036854775807 : Int64)) q2)), .second, .unset, .unset, .unset, .unset, .unset, .unset, .unset, .unset] [(.ref b1)])) rfl (by rw [hml]; rfl) (Steps.refl _) (argsL := []) (rest := []) (lenOf pd_2 rfl) rfl (by show 2 * 0 + _ ≤ _; exact Nat.le_of_eq rfl) (hb hby at_64) (fun _ _ => ⟨rfl, rfl, (by decide : 1 + 0 ≤ _), (by decide : 2 + 0 ≤ _)⟩)
  dsimp only [Pt.U, Pt.locs, Pt.cells, Pt.slots] at X8 l8 y8 z8 st8 hQ8
  subst l8 y8 z8
  obtain ⟨rfl, N8q, e8⟩ := hQ8
  have N8 := Fr.app N7 N8q
  obtain ⟨_, _, ⟨T10, L10, k10, n10⟩, -, X10, ⟨Lc10, hQ10, l10, y10, z10⟩, st10⟩ := Jvm.LawKit.callS X8 hx (y := (⟨"com/example/casement/casement/time/WatermarkAdvancePinLaw", "lagged", "(JJ)J"⟩ : MethodName)) hown (mvT hZ (kw21 hw)) (mvT hZ (kw22 hw)) (mvT hZ (kw23 hw)) (mvT hZ (kw24 hw)) (by decide) (backOf (W := 2) (rm4 l Z a0 hw [] q3 (q1 &&& (9223372036854775807 : Int64)) T7.heap n0 Z7 ) hZ (kw24 hw) (kw23 hw) (by decide) (by decide)) (g := (mkF m 81 #[.val (.long q1), .second, .val (.long q2), .second, .val (.long q3), .second, .val (.long q4), .second, .val (.long (q1 &&& (9223372036854775807 : Int64))), .second, .val (.ref b1), .val (.long (own_gr (-9223372036854775808 : Int64) (own_lag q2 (q1 &&& (9223372036854775807 : Int64))))), .second, .val (.long (own_adv (-9223372036854775808 : Int64) (q1 &&& (9223372036854775807 : Int64)) q2)), .second, .unset, .unset, .unset, .unset, .unset, .unset, .unset, .unset] [(.long (q1 &&& (9223372036854775807 : Int64))), (.long q3), (.long (own_gr (-9223372036854775808 : Int64) (own_lag q2 (q1 &&& (9223372036854775807 : Int64)))))])) rfl (by rw [hml]; rfl) (argsL := [(.long q3), (.long (q1 &&& (9223372036854775807 : Int64)))]) (rest := [(.long (own_gr (-9223372036854775808 : Int64) (own_lag q2 (q1 &&& (9223372036854775807 : Int64)))))]) (lenOf pd_0 rfl) rfl (by show 2 * 0 + _ ≤ _; exact Nat.le_of_eq rfl) (hb hby at_81) (fun _ _ => ⟨rfl, e8, (by decide : 1 + 0 ≤ _), (by decide : 2 + 0 ≤ _)⟩)
  dsimp only [Pt.U, Pt.locs, Pt.cells, Pt.slots] at X10 l10 y10 z10 st10 hQ10
  subst l10 y10 z10
  obtain ⟨rfl, N10q, e10⟩ := hQ10
  have N10 := Fr.app N8 N10q
  obtain ⟨_, _, ⟨T11, L11, k11, n11⟩, -, X11, ⟨Lc11, hQ11, l11, y11, z11⟩, st11⟩ := Jvm.LawKit.callS X10 hx (y := (⟨"com/example/casement/casement/time/WatermarkAdvancePinLaw", "greater", "(JJ)J"⟩ : MethodName)) hown (mvT hZ (kw25 hw)) (mvT hZ (kw26 hw)) (mvT hZ (kw23 hw)) (mvT hZ (kw27 hw)) (by decide) (backOf (W := 0) (rm5 l Z a0 hw [] (own_gr (-9223372036854775808 : Int64) (own_lag q2 (q1 &&& (9223372036854775807 : Int64)))) (own_lag q3 (q1 &&& (9223372036854775807 : Int64))) T7.heap n0 Z7 ) hZ (kw27 hw) (kw23 hw) (by decide) (by decide)) (g := (mkF m 84 #[.val (.long q1), .second, .val (.long q2), .second, .val (.long q3), .second, .val (.long q4), .second, .val (.long (q1 &&& (9223372036854775807 : Int64))), .second, .val (.ref b1), .val (.long (own_gr (-9223372036854775808 : Int64) (own_lag q2 (q1 &&& (9223372036854775807 : Int64))))), .second, .val (.long (own_adv (-9223372036854775808 : Int64) (q1 &&& (9223372036854775807 : Int64)) q2)), .second, .unset, .unset, .unset, .unset, .unset, .unset, .unset, .unset] [(.long (own_lag q3 (q1 &&& (9223372036854775807 : Int64)))), (.long (own_gr (-9223372036854775808 : Int64) (own_lag q2 (q1 &&& (9223372036854775807 : Int64)))))])) rfl (by rw [hml]; rfl) (argsL := [(.long (own_gr (-9223372036854775808 : Int64) (own_lag q2 (q1 &&& (9223372036854775807 : Int64))))), (.long (own_lag q3 (q1 &&& (9223372036854775807 : Int64))))]) (rest := []) (lenOf pd_0 rfl) rfl (by show 2 * 0 + _ ≤ _; exact Nat.le_of_eq rfl) (hb hby at_84) (fun _ _ => ⟨rfl, e10, (by decide : 1 + 0 ≤ _), (by decide : 2 + 0 ≤ _)⟩)
  dsimp only [Pt.U, Pt.locs, Pt.cells, Pt.slots] at X11 l11 y11 z11 st11 hQ11
  subst l11 y11 z11
  obtain ⟨rfl, N11q, e11⟩ := hQ11
  have N11 := Fr.app N10 N11q
  obtain ⟨cq12, kq12, q12a, q12b, q12c⟩ := isOf hZ e11 f9
  obtain ⟨_, _, ⟨T12, L12, k12, n12⟩, -, X12, ⟨Lc12, hQ12, l12, y12, z12⟩, st12⟩ := X11.virtualBack hx (y := (⟨"com/example/casement/casement/time/Watermark", "advance", "(J)J"⟩ : MethodName)) (z := (⟨"com/example/casement/casement/time/Watermark", "advance", "(J)J"⟩ : MethodName)) hown (mvT hZ (kw28 hw)) (mvT hZ (kw29 hw)) (notFace_of_selects (args := #[]) (mvT hZ (kw31 hw))) (mvT hZ (kw31 hw)) (mvT hZ (kw30 hw)) (by decide) (backOf (W := 0) (rm6 l Z a0 hw [] b1 q3 (own_adv (-9223372036854775808 : Int64) (q1 &&& (9223372036854775807 : Int64)) q2) (q1 &&& (9223372036854775807 : Int64)) T7.heap n0 Z7 f9 p7_0 p7_1 g_b1) hZ (kw32 hw) (kw3 hw) (by decide) (by decide)) q12a q12c (g := (mkF m 93 #[.val (.long q1), .second, .val (.long q2), .second, .val (.long q3), .second, .val (.long q4), .second, .val (.long (q1 &&& (9223372036854775807 : Int64))), .second, .val (.ref b1), .val (.long (own_gr (-9223372036854775808 : Int64) (own_lag q2 (q1 &&& (9223372036854775807 : Int64))))), .second, .val (.long (own_adv (-9223372036854775808 : Int64) (q1 &&& (9223372036854775807 : Int64)) q2)), .second, .val (.long (own_gr (own_gr (-9223372036854775808 : Int64) (own_lag q2 (q1 &&& (9223372036854775807 : Int64)))) (own_lag q3 (q1 &&& (9223372036854775807 : Int64))))), .second, .unset, .unset, .unset, .unset, .unset, .unset] [(.long q3), (.ref b1)])) rfl (by rw [hml]; rfl) (Steps.refl _) (argsL := [(.long q3)]) (rest := []) (lenOf pd_3 rfl) rfl (by show 2 * 0 + _ ≤ _; exact Nat.le_of_eq rfl) (hb hby at_93) (fun _ _ => ⟨rfl, e11, (by decide : 1 + 0 ≤ _), (by decide : 2 + 0 ≤ _)⟩)
  dsimp only [Pt.U, Pt.locs, Pt.cells, Pt.slots] at X12 l12 y12 z12 st12 hQ12
  subst l12 y12 z12
  obtain ⟨rfl, N12q, Kq12, p12_0, p12_1⟩ := hQ12
  have N12 := Fr.app N11 N12q
  have Z12 : n0 ≤ T12.heap.size := Nat.le_trans Z7 Kq12.1
  have K12 : Keep h0 T12.heap [] := K7.trans Kq12 (allS (Or.inr sz_b1) all0)
  have f14 : Exa Z T12.heap b1 "com/example/casement/casement/time/Watermark" := (f9.keep Kq12)
  obtain ⟨cq13, kq13, q13a, q13b, q13c⟩ := isOf hZ rfl f14
  obtain ⟨_, _, ⟨T13, L13, k13, n13⟩, -, X13, ⟨Lc13, hQ13, l13, y13, z13⟩, st13⟩ := X12.virtualBack hx (y := (⟨"com/example/casement/casement/time/Watermark", "current", "()J"⟩ : MethodName)) (z := (⟨"com/example/casement/casement/time/Watermark", "current", "()J"⟩ : MethodName)) hown (mvT hZ (kw15 hw)) (mvT hZ (kw16 hw)) (notFace_of_selects (args := #[]) (mvT hZ (kw18 hw))) (mvT hZ (kw18 hw)) (mvT hZ (kw17 hw)) (by decide) (backOf (W := 0) (rm3 l Z a0 hw [] b1 (own_adv (own_adv (-9223372036854775808 : Int64) (q1 &&& (9223372036854775807 : Int64)) q2) (q1 &&& (9223372036854775807 : Int64)) q3) T12.heap n0 Z12 p12_0) hZ (kw19 hw) (kw3 hw) (by decide) (by decide)) q13a q13c (g := (mkF m 108 #[.val (.long q1), .second, .val (.long q2), .second, .val (.long q3), .second, .val (.long q4), .second, .val (.long (q1 &&& (9223372036854775807 : Int64))), .second, .val (.ref b1), .val (.long (own_gr (-9223372036854775808 : Int64) (own_lag q2 (q1 &&& (9223372036854775807 : Int64))))), .second, .val (.long (own_adv (-9223372036854775808 : Int64) (q1 &&& (9223372036854775807 : Int64)) q2)), .second, .val (.long (own_gr (own_gr (-9223372036854775808 : Int64) (own_lag q2 (q1 &&& (9223372036854775807 : Int64)))) (own_lag q3 (q1 &&& (9223372036854775807 : Int64))))), .second, .val (.long (own_adv (own_adv (-9223372036854775808 : Int64) (q1 &&& (9223372036854775807 : Int64)) q2) (q1 &&& (9223372036854775807 : Int64)) q3)), .second, .unset, .unset, .unset, .unset] [(.ref b1)])) rfl (by rw [hml]; rfl) (Steps.refl _) (argsL := []) (rest := []) (lenOf pd_2 rfl) rfl (by show 2 * 0 + _ ≤ _; exact Nat.le_of_eq rfl) (hb hby at_108) (fun _ _ => ⟨rfl, rfl, (by decide : 1 + 0 ≤ _), (by decide : 2 + 0 ≤ _)⟩)
  dsimp only [Pt.U, Pt.locs, Pt.cells, Pt.slots] at X13 l13 y13 z13 st13 hQ13
  subst l13 y13 z13
  obtain ⟨rfl, N13q, e13⟩ := hQ13
  have N13 := Fr.app N12 N13q
  obtain ⟨_, _, ⟨T15, L15, k15, n15⟩, -, X15, ⟨Lc15, hQ15, l15, y15, z15⟩, st15⟩ := Jvm.LawKit.callS X13 hx (y := (⟨"com/example/casement/casement/time/WatermarkAdvancePinLaw", "lagged", "(JJ)J"⟩ : MethodName)) hown (mvT hZ (kw21 hw)) (mvT hZ (kw22 hw)) (mvT hZ (kw23 hw)) (mvT hZ (kw24 hw)) (by decide) (backOf (W := 2) (rm4 l Z a0 hw [] q4 (q1 &&& (9223372036854775807 : Int64)) T12.heap n0 Z12 ) hZ (kw24 hw) (kw23 hw) (by decide) (by decide)) (g := (mkF m 125 #[.val (.long q1), .second, .val (.long q2), .second, .val (.long q3), .second, .val (.long q4), .second, .val (.long (q1 &&& (9223372036854775807 : Int64))), .second, .val (.ref b1), .val (.long (own_gr (-9223372036854775808 : Int64) (own_lag q2 (q1 &&& (9223372036854775807 : Int64))))), .second, .val (.long (own_adv (-9223372036854775808 : Int64) (q1 &&& (9223372036854775807 : Int64)) q2)), .second, .val (.long (own_gr (own_gr (-9223372036854775808 : Int64) (own_lag q2 (q1 &&& (9223372036854775807 : Int64)))) (own_lag q3 (q1 &&& (9223372036854775807 : Int64))))), .second, .val (.long (own_adv (own_adv (-9223372036854775808 : Int64) (q1 &&& (9223372036854775807 : Int64)) q2) (q1 &&& (9223372036854775807 : Int64)) q3)), .second, .unset, .unset, .unset, .unset] [(.long (q1 &&& (9223372036854775807 : Int64))), (.long q4), (.long (own_gr (own_gr (-9223372036854775808 : Int64) (own_lag q2 (q1 &&& (9223372036854775807 : Int64)))) (own_lag q3 (q1 &&& (9223372036854775807 : Int64)))))])) rfl (by rw [hml]; rfl) (argsL := [(.long q4), (.long (q1 &&& (9223372036854775807 : Int64)))]) (rest := [(.long (own_gr (own_gr (-9223372036854775808 : Int64) (own_lag q2 (q1 &&& (9223372036854775807 : Int64)))) (own_lag q3 (q1 &&& (9223372036854775807 : Int64)))))]) (lenOf pd_0 rfl) rfl (by show 2 * 0 + _ ≤ _; exact Nat.le_of_eq rfl) (hb hby at_125) (fun _ _ => ⟨rfl, e13, (by decide : 1 + 0 ≤ _), (by decide : 2 + 0 ≤ _)⟩)
  dsimp only [Pt.U, Pt.locs, Pt.cells, Pt.slots] at X15 l15 y15 z15 st15 hQ15
  subst l15 y15 z15
  obtain ⟨rfl, N15q, e15⟩ := hQ15
  have N15 := Fr.app N13 N15q
  obtain ⟨_, _, ⟨T16, L16, k16, n16⟩, -, X16, ⟨Lc16, hQ16, l16, y16, z16⟩, st16⟩ := Jvm.LawKit.callS X15 hx (y := (⟨"com/example/casement/casement/time/WatermarkAdvancePinLaw", "greater", "(JJ)J"⟩ : MethodName)) hown (mvT hZ (kw25 hw)) (mvT hZ (kw26 hw)) (mvT hZ (kw23 hw)) (mvT hZ (kw27 hw)) (by decide) (backOf (W := 0) (rm5 l Z a0 hw [] (own_gr (own_gr (-9223372036854775808 : Int64) (own_lag q2 (q1 &&& (9223372036854775807 : Int64)))) (own_lag q3 (q1 &&& (9223372036854775807 : Int64)))) (own_lag q4 (q1 &&& (9223372036854775807 : Int64))) T12.heap n0 Z12 ) hZ (kw27 hw) (kw23 hw) (by decide) (by decide)) (g := (mkF m 128 #[.val (.long q1), .second, .val (.long q2), .second, .val (.long q3), .second, .val (.long q4), .second, .val (.long (q1 &&& (9223372036854775807 : Int64))), .second, .val (.ref b1), .val (.long (own_gr (-9223372036854775808 : Int64) (own_lag q2 (q1 &&& (9223372036854775807 : Int64))))), .second, .val (.long (own_adv (-9223372036854775808 : Int64) (q1 &&& (9223372036854775807 : Int64)) q2)), .second, .val (.long (own_gr (own_gr (-9223372036854775808 : Int64) (own_lag q2 (q1 &&& (9223372036854775807 : Int64)))) (own_lag q3 (q1 &&& (9223372036854775807 : Int64))))), .second, .val (.long (own_adv (own_adv (-9223372036854775808 : Int64) (q1 &&& (9223372036854775807 : Int64)) q2) (q1 &&& (9223372036854775807 : Int64)) q3)), .second, .unset, .unset, .unset, .unset] [(.long (own_lag q4 (q1 &&& (9223372036854775807 : Int64)))), (.long (own_gr (own_gr (-9223372036854775808 : Int64) (own_lag q2 (q1 &&& (9223372036854775807 : Int64)))) (own_lag q3 (q1 &&& (9223372036854775807 : Int64)))))])) rfl (by rw [hml]; rfl) (argsL := [(.long (own_gr (own_gr (-9223372036854775808 : Int64) (own_lag q2 (q1 &&& (9223372036854775807 : Int64)))) (own_lag q3 (q1 &&& (9223372036854775807 : Int64))))), (.long (own_lag q4 (q1 &&& (9223372036854775807 : Int64))))]) (rest := []) (lenOf pd_0 rfl) rfl (by show 2 * 0 + _ ≤ _; exact Nat.le_of_eq rfl) (hb hby at_128) (fun _ _ => ⟨rfl, e15, (by decide : 1 + 0 ≤ _), (by decide : 2 + 0 ≤ _)⟩)
  dsimp only [Pt.U, Pt.locs, Pt.cells, Pt.slots] at X16 l16 y16 z16 st16 hQ16
  subst l16 y16 z16
  obtain ⟨rfl, N16q, e16⟩ := hQ16
  have N16 := Fr.app N15 N16q
  obtain ⟨cq17, kq17, q17a, q17b, q17c⟩ := isOf hZ e16 f14
  obtain ⟨_, _, ⟨T17, L17, k17, n17⟩, -, X17, ⟨Lc17, hQ17, l17, y17, z17⟩, st17⟩ := X16.virtualBack hx (y := (⟨"com/example/casement/casement/time/Watermark", "advance", "(J)J"⟩ : MethodName)) (z := (⟨"com/example/casement/casement/time/Watermark", "advance", "(J)J"⟩ : MethodName)) hown (mvT hZ (kw28 hw)) (mvT hZ (kw29 hw)) (notFace_of_selects (args := #[]) (mvT hZ (kw31 hw))) (mvT hZ (kw31 hw)) (mvT hZ (kw30 hw)) (by decide) (backOf (W := 0) (rm6 l Z a0 hw [] b1 q4 (own_adv (own_adv (-9223372036854775808 : Int64) (q1 &&& (9223372036854775807 : Int64)) q2) (q1 &&& (9223372036854775807 : Int64)) q3) (q1 &&& (9223372036854775807 : Int64)) T12.heap n0 Z12 f14 p12_0 p12_1 g_b1) hZ (kw32 hw) (kw3 hw) (by decide) (by decide)) q17a q17c (g := (mkF m 137 #[.val (.long q1), .second, .val (.long q2), .second, .val (.long q3), .second, .val (.long q4), .second, .val (.long (q1 &&& (9223372036854775807 : Int64))), .second, .val (.ref b1), .val (.long (own_gr (-9223372036854775808 : Int64) (own_lag q2 (q1 &&& (9223372036854775807 : Int64))))), .second, .val (.long (own_adv (-9223372036854775808 : Int64) (q1 &&& (9223372036854775807 : Int64)) q2)), .second, .val (.long (own_gr (own_gr (-9223372036854775808 : Int64) (own_lag q2 (q1 &&& (9223372036854775807 : Int64)))) (own_lag q3 (q1 &&& (9223372036854775807 : Int64))))), .second, .val (.long (own_adv (own_adv (-9223372036854775808 : Int64) (q1 &&& (9223372036854775807 : Int64)) q2) (q1 &&& (9223372036854775807 : Int64)) q3)), .second, .val (.long (own_gr (own_gr (own_gr (-9223372036854775808 : Int64) (own_lag q2 (q1 &&& (9223372036854775807 : Int64)))) (own_lag q3 (q1 &&& (9223372036854775807 : Int64)))) (own_lag q4 (q1 &&& (9223372036854775807 : Int64))))), .second, .unset, .unset] [(.long q4), (.ref b1)])) rfl (by rw [hml]; rfl) (Steps.refl _) (argsL := [(.long q4)]) (rest := []) (lenOf pd_3 rfl) rfl (by show 2 * 0 + _ ≤ _; exact Nat.le_of_eq rfl) (hb hby at_137) (fun _ _ => ⟨rfl, e16, (by decide : 1 + 0 ≤ _), (by decide : 2 + 0 ≤ _)⟩)
  dsimp only [Pt.U, Pt.locs, Pt.cells, Pt.slots] at X17 l17 y17 z17 st17 hQ17
  subst l17 y17 z17
  obtain ⟨rfl, N17q, Kq17, p17_0, p17_1⟩ := hQ17
  have N17 := Fr.app N16 N17q
  have Z17 : n0 ≤ T17.heap.size := Nat.le_trans Z12 Kq17.1
  have K17 : Keep h0 T17.heap [] := K12.trans Kq17 (allS (Or.inr sz_b1) all0)
  have f19 : Exa Z T17.heap b1 "com/example/casement/casement/time/Watermark" := (f14.keep Kq17)
  obtain ⟨cq18, kq18, q18a, q18b, q18c⟩ := isOf hZ rfl f19
  obtain ⟨_, _, ⟨T18, L18, k18, n18⟩, -, X18, ⟨Lc18, hQ18, l18, y18, z18⟩, st18⟩ := X17.virtualBack hx (y := (⟨"com/example/casement/casement/time/Watermark", "current", "()J"⟩ : MethodName)) (z := (⟨"com/example/casement/casement/time/Watermark", "current", "()J"⟩ : MethodName)) hown (mvT hZ (kw15 hw)) (mvT hZ (kw16 hw)) (notFace_of_selects (args := #[]) (mvT hZ (kw18 hw))) (mvT hZ (kw18 hw)) (mvT hZ (kw17 hw)) (by decide) (backOf (W := 0) (rm3 l Z a0 hw [] b1 (own_adv (own_adv (own_adv (-9223372036854775808 : Int64) (q1 &&& (9223372036854775807 : Int64)) q2) (q1 &&& (9223372036854775807 : Int64)) q3) (q1 &&& (9223372036854775807 : Int64)) q4) T17.heap n0 Z17 p17_0) hZ (kw19 hw) (kw3 hw) (by decide) (by decide)) q18a q18c (g := (mkF m 152 #[.val (.long q1), .second, .val (.long q2), .second, .val (.long q3), .second, .val (.long q4), .second, .val (.long (q1 &&& (9223372036854775807 : Int64))), .second, .val (.ref b1), .val (.long (own_gr (-9223372036854775808 : Int64) (own_lag q2 (q1 &&& (9223372036854775807 : Int64))))), .second, .val (.long (own_adv (-9223372036854775808 : Int64) (q1 &&& (9223372036854775807 : Int64)) q2)), .second, .val (.long (own_gr (own_gr (-9223372036854775808 : Int64) (own_lag q2 (q1 &&& (9223372036854775807 : Int64)))) (own_lag q3 (q1 &&& (9223372036854775807 : Int64))))), .second, .val (.long (own_adv (own_adv (-9223372036854775808 : Int64) (q1 &&& (9223372036854775807 : Int64)) q2) (q1 &&& (9223372036854775807 : Int64)) q3)), .second, .val (.long (own_gr (own_gr (own_gr (-9223372036854775808 : Int64) (own_lag q2 (q1 &&& (9223372036854775807 : Int64)))) (own_lag q3 (q1 &&& (9223372036854775807 : Int64)))) (own_lag q4 (q1 &&& (9223372036854775807 : Int64))))), .second, .val (.long (own_adv (own_adv (own_adv (-9223372036854775808 : Int64) (q1 &&& (9223372036854775807 : Int64)) q2) (q1 &&& (9223372036854775807 : Int64)) q3) (q1 &&& (9223372036854775807 : Int64)) q4)), .second] [(.ref b1)])) rfl (by rw [hml]; rfl) (Steps.refl _) (argsL := []) (rest := []) (lenOf pd_2 rfl) rfl (by show 2 * 0 + _ ≤ _; exact Nat.le_of_eq rfl) (hb hby at_152) (fun _ _ => ⟨rfl, rfl, (by decide : 1 + 0 ≤ _), (by decide : 2 + 0 ≤ _)⟩)
  dsimp only [Pt.U, Pt.locs, Pt.cells, Pt.slots] at X18 l18 y18 z18 st18 hQ18
  subst l18 y18 z18
  obtain ⟨rfl, N18q, e18⟩ := hQ18
  have N18 := Fr.app N17 N18q
  obtain ⟨fs, hr, hrun, hended, hW, hsame⟩ := X18.leave (v := some (.int (1 : Int32))) (fun h => by rw [Bd.returns] at h; cases h)
  refine ⟨_, _, pre0 _ ?_, hrun, hended, _, _, rfl, ?_, ⟨_, rfl⟩, hW, hsame.mono (by decide) (by decide)⟩
  · skip
    show Steps p.tables e below (s₁.setTop (mkF m 0 #[.val (.long q1), .second, .val (.long q2), .second, .val (.long q3), .second, .val (.long q4), .second, .unset, .unset, .unset, .unset, .unset, .unset, .unset, .unset, .unset, .unset, .unset, .unset, .unset, .unset, .unset] [])) _
    refine XS.lloadN X0.here hx rfl (hb hby at_0) rfl ?_
    show Steps p.tables e below (s₁.setTop (mkF m 1 #[.val (.long q1), .second, .val (.long q2), .second, .val (.long q3), .second, .val (.long q4), .second, .unset, .unset, .unset, .unset, .unset, .unset, .unset, .unset, .unset, .unset, .unset, .unset, .unset, .unset, .unset] [(.long q1)])) _
    refine X0.ldc2Long hx hown (mvT hZ (kw0 hw)) (g := (mkF m 1 #[.val (.long q1), .second, .val (.long q2), .second, .val (.long q3), .second, .val (.long q4), .second, .unset, .unset, .unset, .unset, .unset, .unset, .unset, .unset, .unset, .unset, .unset, .unset, .unset, .unset, .unset] [(.long q1)])) rfl (hb hby at_1) _ ?_
    show Steps p.tables e below (s₁.setTop (mkF m 4 #[.val (.long q1), .second, .val (.long q2), .second, .val (.long q3), .second, .val (.long q4), .second, .unset, .unset, .unset, .unset, .unset, .unset, .unset, .unset, .unset, .unset, .unset, .unset, .unset, .unset, .unset] [(.long (9223372036854775807 : Int64)), (.long q1)])) _
    refine XS.land X0.here hx rfl (hb hby at_4) rfl ?_
    show Steps p.tables e below (s₁.setTop (mkF m 5 #[.val (.long q1), .second, .val (.long q2), .second, .val (.long q3), .second, .val (.long q4), .second, .unset, .unset, .unset, .unset, .unset, .unset, .unset, .unset, .unset, .unset, .unset, .unset, .unset, .unset, .unset] [(.long (q1 &&& (9223372036854775807 : Int64)))])) _
    refine XS.lstore X0.here hx rfl (hb hby at_5) rfl (l' := #[.val (.long q1), .second, .val (.long q2), .second, .val (.long q3), .second, .val (.long q4), .second, .val (.long (q1 &&& (9223372036854775807 : Int64))), .second, .unset, .unset, .unset, .unset, .unset, .unset, .unset, .unset, .unset, .unset, .unset, .unset, .unset]) rfl ?_
    show Steps p.tables e below (s₁.setTop (mkF m 7 #[.val (.long q1), .second, .val (.long q2), .second, .val (.long q3), .second, .val (.long q4), .second, .val (.long (q1 &&& (9223372036854775807 : Int64))), .second, .unset, .unset, .unset, .unset, .unset, .unset, .unset, .unset, .unset, .unset, .unset, .unset, .unset] [])) _
    refine st1 _ ?_
    show Steps p.tables e below (T1.setTop (mkF m 10 #[.val (.long q1), .second, .val (.long q2), .second, .val (.long q3), .second, .val (.long q4), .second, .val (.long (q1 &&& (9223372036854775807 : Int64))), .second, .unset, .unset, .unset, .unset, .unset, .unset, .unset, .unset, .unset, .unset, .unset, .unset, .unset] [(.ref b1)])) _
    refine XS.dup X1.here hx rfl (hb hby at_10) rfl rfl ?_
    show Steps p.tables e below (T1.setTop (mkF m 11 #[.val (.long q1), .second, .val (.long q2), .second, .val (.long q3), .second, .val (.long q4), .second, .val (.long (q1 &&& (9223372036854775807 : Int64))), .second, .unset, .unset, .unset, .unset, .unset, .unset, .unset, .unset, .unset, .unset, .unset, .unset, .unset] [(.ref b1), (.ref b1)])) _
    refine XS.lload X1.here hx rfl (hb hby at_11) rfl ?_
    show Steps p.tables e below (T1.setTop (mkF m 13 #[.val (.long q1), .second, .val (.long q2), .second, .val (.long q3), .second, .val (.long q4), .second, .val (.long (q1 &&& (9223372036854775807 : Int64))), .second, .unset, .unset, .unset, .unset, .unset, .unset, .unset, .unset, .unset, .unset, .unset, .unset, .unset] [(.long (q1 &&& (9223372036854775807 : Int64))), (.ref b1), (.ref b1)])) _
    refine st2.trans ?_
    show Steps p.tables e below (T2.setTop (mkF m 16 #[.val (.long q1), .second, .val (.long q2), .second, .val (.long q3), .second, .val (.long q4), .second, .val (.long (q1 &&& (9223372036854775807 : Int64))), .second, .unset, .unset, .unset, .unset, .unset, .unset, .unset, .unset, .unset, .unset, .unset, .unset, .unset] [(.ref b1)])) _
    refine XS.astore X2.here hx rfl (hb hby at_16) rfl rfl (l' := #[.val (.long q1), .second, .val (.long q2), .second, .val (.long q3), .second, .val (.long q4), .second, .val (.long (q1 &&& (9223372036854775807 : Int64))), .second, .val (.ref b1), .unset, .unset, .unset, .unset, .unset, .unset, .unset, .unset, .unset, .unset, .unset, .unset]) rfl ?_
    show Steps p.tables e below (T2.setTop (mkF m 18 #[.val (.long q1), .second, .val (.long q2), .second, .val (.long q3), .second, .val (.long q4), .second, .val (.long (q1 &&& (9223372036854775807 : Int64))), .second, .val (.ref b1), .unset, .unset, .unset, .unset, .unset, .unset, .unset, .unset, .unset, .unset, .unset, .unset] [])) _
    refine XS.aload X2.here hx rfl (hb hby at_18) rfl rfl ?_
    show Steps p.tables e below (T2.setTop (mkF m 20 #[.val (.long q1), .second, .val (.long q2), .second, .val (.long q3), .second, .val (.long q4), .second, .val (.long (q1 &&& (9223372036854775807 : Int64))), .second, .val (.ref b1), .unset, .unset, .unset, .unset, .unset, .unset, .unset, .unset, .unset, .unset, .unset, .unset] [(.ref b1)])) _
    refine st3.trans ?_
    show Steps p.tables e below (T3.setTop (mkF m 23 #[.val (.long q1), .second, .val (.long q2), .second, .val (.long q3), .second, .val (.long q4), .second, .val (.long (q1 &&& (9223372036854775807 : Int64))), .second, .val (.ref b1), .unset, .unset, .unset, .unset, .unset, .unset, .unset, .unset, .unset, .unset, .unset, .unset] [(.long (-9223372036854775808 : Int64))])) _
    refine X3.ldc2Long hx hown (mvT hZ (kw20 hw)) (g := (mkF m 23 #[.val (.long q1), .second, .val (.long q2), .second, .val (.long q3), .second, .val (.long q4), .second, .val (.long (q1 &&& (9223372036854775807 : Int64))), .second, .val (.ref b1), .unset, .unset, .unset, .unset, .unset, .unset, .unset, .unset, .unset, .unset, .unset, .unset] [(.long (-9223372036854775808 : Int64))])) rfl (hb hby at_23) _ ?_
    show Steps p.tables e below (T3.setTop (mkF m 26 #[.val (.long q1), .second, .val (.long q2), .second, .val (.long q3), .second, .val (.long q4), .second, .val (.long (q1 &&& (9223372036854775807 : Int64))), .second, .val (.ref b1), .unset, .unset, .unset, .unset, .unset, .unset, .unset, .unset, .unset, .unset, .unset, .unset] [(.long (-9223372036854775808 : Int64)), (.long (-9223372036854775808 : Int64))])) _
    refine XS.lcmp X3.here hx rfl (hb hby at_26) rfl ?_
    show Steps p.tables e below (T3.setTop (mkF m 27 #[.val (.long q1), .second, .val (.long q2), .second, .val (.long q3), .second, .val (.long q4), .second, .val (.long (q1 &&& (9223372036854775807 : Int64))), .second, .val (.ref b1), .unset, .unset, .unset, .unset, .unset, .unset, .unset, .unset, .unset, .unset, .unset, .unset] [(.int (lcmpW (-9223372036854775808 : Int64) (-9223372036854775808 : Int64)))])) _
    refine XS.ifYes X3.here hx rfl (pc0 := 27) (pc' := 32) rfl (hb hby at_27) rfl ((if0 _ _).trans (teq ((lw_eq _ _).mpr rfl)).1) (by decide) (by decide) ?_
    show Steps p.tables e below (T3.setTop (mkF m 32 #[.val (.long q1), .second, .val (.long q2), .second, .val (.long q3), .second, .val (.long q4), .second, .val (.long (q1 &&& (9223372036854775807 : Int64))), .second, .val (.ref b1), .unset, .unset, .unset, .unset, .unset, .unset, .unset, .unset, .unset, .unset, .unset, .unset] [])) _
    refine X3.ldc2Long hx hown (mvT hZ (kw20 hw)) (g := (mkF m 32 #[.val (.long q1), .second, .val (.long q2), .second, .val (.long q3), .second, .val (.long q4), .second, .val (.long (q1 &&& (9223372036854775807 : Int64))), .second, .val (.ref b1), .unset, .unset, .unset, .unset, .unset, .unset, .unset, .unset, .unset, .unset, .unset, .unset] [])) rfl (hb hby at_32) _ ?_
    show Steps p.tables e below (T3.setTop (mkF m 35 #[.val (.long q1), .second, .val (.long q2), .second, .val (.long q3), .second, .val (.long q4), .second, .val (.long (q1 &&& (9223372036854775807 : Int64))), .second, .val (.ref b1), .unset, .unset, .unset, .unset, .unset, .unset, .unset, .unset, .unset, .unset, .unset, .unset] [(.long (-9223372036854775808 : Int64))])) _
    refine XS.lloadN X3.here hx rfl (hb hby at_35) rfl ?_
    show Steps p.tables e below (T3.setTop (mkF m 36 #[.val (.long q1), .second, .val (.long q2), .second, .val (.long q3), .second, .val (.long q4), .second, .val (.long (q1 &&& (9223372036854775807 : Int64))), .second, .val (.ref b1), .unset, .unset, .unset, .unset, .unset, .unset, .unset, .unset, .unset, .unset, .unset, .unset] [(.long q2), (.long (-9223372036854775808 : Int64))])) _
    refine XS.lload X3.here hx rfl (hb hby at_36) rfl ?_
    show Steps p.tables e below (T3.setTop (mkF m 38 #[.val (.long q1), .second, .val (.long q2), .second, .val (.long q3), .second, .val (.long q4), .second, .val (.long (q1 &&& (9223372036854775807 : Int64))), .second, .val (.ref b1), .unset, .unset, .unset, .unset, .unset, .unset, .unset, .unset, .unset, .unset, .unset, .unset] [(.long (q1 &&& (9223372036854775807 : Int64))), (.long q2), (.long (-9223372036854775808 : Int64))])) _
    refine st5 _ ?_
    show Steps p.tables e below (T5.setTop (mkF m 41 #[.val (.long q1), .second, .val (.long q2), .second, .val (.long q3), .second, .val (.long q4), .second, .val (.long (q1 &&& (9223372036854775807 : Int64))), .second, .val (.ref b1), .unset, .unset, .unset, .unset, .unset, .unset, .unset, .unset, .unset, .unset, .unset, .unset] [(.long (own_lag q2 (q1 &&& (9223372036854775807 : Int64)))), (.long (-9223372036854775808 : Int64))])) _
    refine st6 _ ?_
    show Steps p.tables e below (T6.setTop (mkF m 44 #[.val (.long q1), .second, .val (.long q2), .second, .val (.long q3), .second, .val (.long q4), .second, .val (.long (q1 &&& (9223372036854775807 : Int64))), .second, .val (.ref b1), .unset, .unset, .unset, .unset, .unset, .unset, .unset, .unset, .unset, .unset, .unset, .unset] [(.long (own_gr (-9223372036854775808 : Int64) (own_lag q2 (q1 &&& (9223372036854775807 : Int64)))))])) _
    refine XS.lstore X6.here hx rfl (hb hby at_44) rfl (l' := #[.val (.long q1), .second, .val (.long q2), .second, .val (.long q3), .second, .val (.long q4), .second, .val (.long (q1 &&& (9223372036854775807 : Int64))), .second, .val (.ref b1), .val (.long (own_gr (-9223372036854775808 : Int64) (own_lag q2 (q1 &&& (9223372036854775807 : Int64))))), .second, .unset, .unset, .unset, .unset, .unset, .unset, .unset, .unset, .unset, .unset]) rfl ?_
    show Steps p.tables e below (T6.setTop (mkF m 46 #[.val (.long q1), .second, .val (.long q2), .second, .val (.long q3), .second, .val (.long q4), .second, .val (.long (q1 &&& (9223372036854775807 : Int64))), .second, .val (.ref b1), .val (.long (own_gr (-9223372036854775808 : Int64) (own_lag q2 (q1 &&& (9223372036854775807 : Int64))))), .second, .unset, .unset, .unset, .unset, .unset, .unset, .unset, .unset, .unset, .unset] [])) _
    refine XS.aload X6.here hx rfl (hb hby at_46) rfl rfl ?_
    show Steps p.tables e below (T6.setTop (mkF m 48 #[.val (.long q1), .second, .val (.long q2), .second, .val (.long q3), .second, .val (.long q4), .second, .val (.long (q1 &&& (9223372036854775807 : Int64))), .second, .val (.ref b1), .val (.long (own_gr (-9223372036854775808 : Int64) (own_lag q2 (q1 &&& (9223372036854775807 : Int64))))), .second, .unset, .unset, .unset, .unset, .unset, .unset, .unset, .unset, .unset, .unset] [(.ref b1)])) _
    refine XS.lloadN X6.here hx rfl (hb hby at_48) rfl ?_
    show Steps p.tables e below (T6.setTop (mkF m 49 #[.val (.long q1), .second, .val (.long q2), .second, .val (.long q3), .second, .val (.long q4), .second, .val (.long (q1 &&& (9223372036854775807 : Int64))), .second, .val (.ref b1), .val (.long (own_gr (-9223372036854775808 : Int64) (own_lag q2 (q1 &&& (9223372036854775807 : Int64))))), .second, .unset, .unset, .unset, .unset, .unset, .unset, .unset, .unset, .unset, .unset] [(.long q2), (.ref b1)])) _
    refine st7.trans ?_
    show Steps p.tables e below (T7.setTop (mkF m 52 #[.val (.long q1), .second, .val (.long q2), .second, .val (.long q3), .second, .val (.long q4), .second, .val (.long (q1 &&& (9223372036854775807 : Int64))), .second, .val (.ref b1), .val (.long (own_gr (-9223372036854775808 : Int64) (own_lag q2 (q1 &&& (9223372036854775807 : Int64))))), .second, .unset, .unset, .unset, .unset, .unset, .unset, .unset, .unset, .unset, .unset] [(.long (own_adv (-9223372036854775808 : Int64) (q1 &&& (9223372036854775807 : Int64)) q2))])) _
    refine XS.lstore X7.here hx rfl (hb hby at_52) rfl (l' := #[.val (.long q1), .second, .val (.long q2), .second, .val (.long q3), .second, .val (.long q4), .second, .val (.long (q1 &&& (9223372036854775807 : Int64))), .second, .val (.ref b1), .val (.long (own_gr (-9223372036854775808 : Int64) (own_lag q2 (q1 &&& (9223372036854775807 : Int64))))), .second, .val (.long (own_adv (-9223372036854775808 : Int64) (q1 &&& (9223372036854775807 : Int64)) q2)), .second, .unset, .unset, .unset, .unset, .unset, .unset, .unset, .unset]) rfl ?_
    show Steps p.tables e below (T7.setTop (mkF m 54 #[.val (.long q1), .second, .val (.long q2), .second, .val (.long q3), .second, .val (.long q4), .second, .val (.long (q1 &&& (9223372036854775807 : Int64))), .second, .val (.ref b1), .val (.long (own_gr (-9223372036854775808 : Int64) (own_lag q2 (q1 &&& (9223372036854775807 : Int64))))), .second, .val (.long (own_adv (-9223372036854775808 : Int64) (q1 &&& (9223372036854775807 : Int64)) q2)), .second, .unset, .unset, .unset, .unset, .unset, .unset, .unset, .unset] [])) _
    refine XS.lload X7.here hx rfl (hb hby at_54) rfl ?_
    show Steps p.tables e below (T7.setTop (mkF m 56 #[.val (.long q1), .second, .val (.long q2), .second, .val (.long q3), .second, .val (.long q4), .second, .val (.long (q1 &&& (9223372036854775807 : Int64))), .second, .val (.ref b1), .val (.long (own_gr (-9223372036854775808 : Int64) (own_lag q2 (q1 &&& (9223372036854775807 : Int64))))), .second, .val (.long (own_adv (-9223372036854775808 : Int64) (q1 &&& (9223372036854775807 : Int64)) q2)), .second, .unset, .unset, .unset, .unset, .unset, .unset, .unset, .unset] [(.long (own_adv (-9223372036854775808 : Int64) (q1 &&& (9223372036854775807 : Int64)) q2))])) _
    refine XS.lload X7.here hx rfl (hb hby at_56) rfl ?_
    show Steps p.tables e below (T7.setTop (mkF m 58 #[.val (.long q1), .second, .val (.long q2), .second, .val (.long q3), .second, .val (.long q4), .second, .val (.long (q1 &&& (9223372036854775807 : Int64))), .second, .val (.ref b1), .val (.long (own_gr (-9223372036854775808 : Int64) (own_lag q2 (q1 &&& (9223372036854775807 : Int64))))), .second, .val (.long (own_adv (-9223372036854775808 : Int64) (q1 &&& (9223372036854775807 : Int64)) q2)), .second, .unset, .unset, .unset, .unset, .unset, .unset, .unset, .unset] [(.long (own_gr (-9223372036854775808 : Int64) (own_lag q2 (q1 &&& (9223372036854775807 : Int64))))), (.long (own_adv (-9223372036854775808 : Int64) (q1 &&& (9223372036854775807 : Int64)) q2))])) _
    refine XS.lcmp X7.here hx rfl (hb hby at_58) rfl ?_
    show Steps p.tables e below (T7.setTop (mkF m 59 #[.val (.long q1), .second, .val (.long q2), .second, .val (.long q3), .second, .val (.long q4), .second, .val (.long (q1 &&& (9223372036854775807 : Int64))), .second, .val (.ref b1), .val (.long (own_gr (-9223372036854775808 : Int64) (own_lag q2 (q1 &&& (9223372036854775807 : Int64))))), .second, .val (.long (own_adv (-9223372036854775808 : Int64) (q1 &&& (9223372036854775807 : Int64)) q2)), .second, .unset, .unset, .unset, .unset, .unset, .unset, .unset, .unset] [(.int (lcmpW (own_adv (-9223372036854775808 : Int64) (q1 &&& (9223372036854775807 : Int64)) q2) (own_gr (-9223372036854775808 : Int64) (own_lag q2 (q1 &&& (9223372036854775807 : Int64))))))])) _
    refine XS.ifNo X7.here hx rfl (hb hby at_59) rfl ((if0 _ _).trans (teq ((lw_eq _ _).mpr (by first | rfl | (simp only [own_eq _ _ _ (own_mask q1)])))).2) ?_
    show Steps p.tables e below (T7.setTop (mkF m 62 #[.val (.long q1), .second, .val (.long q2), .second, .val (.long q3), .second, .val (.long q4), .second, .val (.long (q1 &&& (9223372036854775807 : Int64))), .second, .val (.ref b1), .val (.long (own_gr (-9223372036854775808 : Int64) (own_lag q2 (q1 &&& (9223372036854775807 : Int64))))), .second, .val (.long (own_adv (-9223372036854775808 : Int64) (q1 &&& (9223372036854775807 : Int64)) q2)), .second, .unset, .unset, .unset, .unset, .unset, .unset, .unset, .unset] [])) _
    refine XS.aload X7.here hx rfl (hb hby at_62) rfl rfl ?_
    show Steps p.tables e below (T7.setTop (mkF m 64 #[.val (.long q1), .second, .val (.long q2), .second, .val (.long q3), .second, .val (.long q4), .second, .val (.long (q1 &&& (9223372036854775807 : Int64))), .second, .val (.ref b1), .val (.long (own_gr (-9223372036854775808 : Int64) (own_lag q2 (q1 &&& (9223372036854775807 : Int64))))), .second, .val (.long (own_adv (-9223372036854775808 : Int64) (q1 &&& (9223372036854775807 : Int64)) q2)), .second, .unset, .unset, .unset, .unset, .unset, .unset, .unset, .unset] [(.ref b1)])) _
    refine st8.trans ?_
    show Steps p.tables e below (T8.setTop (mkF m 67 #[.val (.long q1), .second, .val (.long q2), .second, .val (.long q3), .second, .val (.long q4), .second, .val (.long (q1 &&& (9223372036854775807 : Int64))), .second, .val (.ref b1), .val (.long (own_gr (-9223372036854775808 : Int64) (own_lag q2 (q1 &&& (9223372036854775807 : Int64))))), .second, .val (.long (own_adv (-9223372036854775808 : Int64) (q1 &&& (9223372036854775807 : Int64)) q2)), .second, .unset, .unset, .unset, .unset, .unset, .unset, .unset, .unset] [(.long (own_adv (-9223372036854775808 : Int64) (q1 &&& (9223372036854775807 : Int64)) q2))])) _
    refine XS.lload X8.here hx rfl (hb hby at_67) rfl ?_
    show Steps p.tables e below (T8.setTop (mkF m 69 #[.val (.long q1), .second, .val (.long q2), .second, .val (.long q3), .second, .val (.long q4), .second, .val (.long (q1 &&& (9223372036854775807 : Int64))), .second, .val (.ref b1), .val (.long (own_gr (-9223372036854775808 : Int64) (own_lag q2 (q1 &&& (9223372036854775807 : Int64))))), .second, .val (.long (own_adv (-9223372036854775808 : Int64) (q1 &&& (9223372036854775807 : Int64)) q2)), .second, .unset, .unset, .unset, .unset, .unset, .unset, .unset, .unset] [(.long (own_gr (-9223372036854775808 : Int64) (own_lag q2 (q1 &&& (9223372036854775807 : Int64))))), (.long (own_adv (-9223372036854775808 : Int64) (q1 &&& (9223372036854775807 : Int64)) q2))])) _
    refine XS.lcmp X8.here hx rfl (hb hby at_69) rfl ?_
    show Steps p.tables e below (T8.setTop (mkF m 70 #[.val (.long q1), .second, .val (.long q2), .second, .val (.long q3), .second, .val (.long q4), .second, .val (.long (q1 &&& (9223372036854775807 : Int64))), .second, .val (.ref b1), .val (.long (own_gr (-9223372036854775808 : Int64) (own_lag q2 (q1 &&& (9223372036854775807 : Int64))))), .second, .val (.long (own_adv (-9223372036854775808 : Int64) (q1 &&& (9223372036854775807 : Int64)) q2)), .second, .unset, .unset, .unset, .unset, .unset, .unset, .unset, .unset] [(.int (lcmpW (own_adv (-9223372036854775808 : Int64) (q1 &&& (9223372036854775807 : Int64)) q2) (own_gr (-9223372036854775808 : Int64) (own_lag q2 (q1 &&& (9223372036854775807 : Int64))))))])) _
    refine XS.ifYes X8.here hx rfl (pc0 := 70) (pc' := 75) rfl (hb hby at_70) rfl ((if0 _ _).trans (teq ((lw_eq _ _).mpr (by first | rfl | (simp only [own_eq _ _ _ (own_mask q1)])))).1) (by decide) (by decide) ?_
    show Steps p.tables e below (T8.setTop (mkF m 75 #[.val (.long q1), .second, .val (.long q2), .second, .val (.long q3), .second, .val (.long q4), .second, .val (.long (q1 &&& (9223372036854775807 : Int64))), .second, .val (.ref b1), .val (.long (own_gr (-9223372036854775808 : Int64) (own_lag q2 (q1 &&& (9223372036854775807 : Int64))))), .second, .val (.long (own_adv (-9223372036854775808 : Int64) (q1 &&& (9223372036854775807 : Int64)) q2)), .second, .unset, .unset, .unset, .unset, .unset, .unset, .unset, .unset] [])) _
    refine XS.lload X8.here hx rfl (hb hby at_75) rfl ?_
    show Steps p.tables e below (T8.setTop (mkF m 77 #[.val (.long q1), .second, .val (.long q2), .second, .val (.long q3), .second, .val (.long q4), .second, .val (.long (q1 &&& (9223372036854775807 : Int64))), .second, .val (.ref b1), .val (.long (own_gr (-9223372036854775808 : Int64) (own_lag q2 (q1 &&& (9223372036854775807 : Int64))))), .second, .val (.long (own_adv (-9223372036854775808 : Int64) (q1 &&& (9223372036854775807 : Int64)) q2)), .second, .unset, .unset, .unset, .unset, .unset, .unset, .unset, .unset] [(.long (own_gr (-9223372036854775808 : Int64) (own_lag q2 (q1 &&& (9223372036854775807 : Int64)))))])) _
    refine XS.lload X8.here hx rfl (hb hby at_77) rfl ?_
    show Steps p.tables e below (T8.setTop (mkF m 79 #[.val (.long q1), .second, .val (.long q2), .second, .val (.long q3), .second, .val (.long q4), .second, .val (.long (q1 &&& (9223372036854775807 : Int64))), .second, .val (.ref b1), .val (.long (own_gr (-9223372036854775808 : Int64) (own_lag q2 (q1 &&& (9223372036854775807 : Int64))))), .second, .val (.long (own_adv (-9223372036854775808 : Int64) (q1 &&& (9223372036854775807 : Int64)) q2)), .second, .unset, .unset, .unset, .unset, .unset, .unset, .unset, .unset] [(.long q3), (.long (own_gr (-9223372036854775808 : Int64) (own_lag q2 (q1 &&& (9223372036854775807 : Int64)))))])) _
    refine XS.lload X8.here hx rfl (hb hby at_79) rfl ?_
    show Steps p.tables e below (T8.setTop (mkF m 81 #[.val (.long q1), .second, .val (.long q2), .second, .val (.long q3), .second, .val (.long q4), .second, .val (.long (q1 &&& (9223372036854775807 : Int64))), .second, .val (.ref b1), .val (.long (own_gr (-9223372036854775808 : Int64) (own_lag q2 (q1 &&& (9223372036854775807 : Int64))))), .second, .val (.long (own_adv (-9223372036854775808 : Int64) (q1 &&& (9223372036854775807 : Int64)) q2)), .second, .unset, .unset, .unset, .unset, .unset, .unset, .unset, .unset] [(.long (q1 &&& (9223372036854775807 : Int64))), (.long q3), (.long (own_gr (-9223372036854775808 : Int64) (own_lag q2 (q1 &&& (9223372036854775807 : Int64)))))])) _
    refine st10 _ ?_
    show Steps p.tables e below (T10.setTop (mkF m 84 #[.val (.long q1), .second, .val (.long q2), .second, .val (.long q3), .second, .val (.long q4), .second, .val (.long (q1 &&& (9223372036854775807 : Int64))), .second, .val (.ref b1), .val (.long (own_gr (-9223372036854775808 : Int64) (own_lag q2 (q1 &&& (9223372036854775807 : Int64))))), .second, .val (.long (own_adv (-9223372036854775808 : Int64) (q1 &&& (9223372036854775807 : Int64)) q2)), .second, .unset, .unset, .unset, .unset, .unset, .unset, .unset, .unset] [(.long (own_lag q3 (q1 &&& (9223372036854775807 : Int64)))), (.long (own_gr (-9223372036854775808 : Int64) (own_lag q2 (q1 &&& (9223372036854775807 : Int64)))))])) _
    refine st11 _ ?_
    show Steps p.tables e below (T11.setTop (mkF m 87 #[.val (.long q1), .second, .val (.long q2), .second, .val (.long q3), .second, .val (.long q4), .second, .val (.long (q1 &&& (9223372036854775807 : Int64))), .second, .val (.ref b1), .val (.long (own_gr (-9223372036854775808 : Int64) (own_lag q2 (q1 &&& (9223372036854775807 : Int64))))), .second, .val (.long (own_adv (-9223372036854775808 : Int64) (q1 &&& (9223372036854775807 : Int64)) q2)), .second, .unset, .unset, .unset, .unset, .unset, .unset, .unset, .unset] [(.long (own_gr (own_gr (-9223372036854775808 : Int64) (own_lag q2 (q1 &&& (9223372036854775807 : Int64)))) (own_lag q3 (q1 &&& (9223372036854775807 : Int64)))))])) _
    refine XS.lstore X11.here hx rfl (hb hby at_87) rfl (l' := #[.val (.long q1), .second, .val (.long q2), .second, .val (.long q3), .second, .val (.long q4), .second, .val (.long (q1 &&& (9223372036854775807 : Int64))), .second, .val (.ref b1), .val (.long (own_gr (-9223372036854775808 : Int64) (own_lag q2 (q1 &&& (9223372036854775807 : Int64))))), .second, .val (.long (own_adv (-9223372036854775808 : Int64) (q1 &&& (9223372036854775807 : Int64)) q2)), .second, .val (.long (own_gr (own_gr (-9223372036854775808 : Int64) (own_lag q2 (q1 &&& (9223372036854775807 : Int64)))) (own_lag q3 (q1 &&& (9223372036854775807 : Int64))))), .second, .unset, .unset, .unset, .unset, .unset, .unset]) rfl ?_
    show Steps p.tables e below (T11.setTop (mkF m 89 #[.val (.long q1), .second, .val (.long q2), .second, .val (.long q3), .second, .val (.long q4), .second, .val (.long (q1 &&& (9223372036854775807 : Int64))), .second, .val (.ref b1), .val (.long (own_gr (-9223372036854775808 : Int64) (own_lag q2 (q1 &&& (9223372036854775807 : Int64))))), .second, .val (.long (own_adv (-9223372036854775808 : Int64) (q1 &&& (9223372036854775807 : Int64)) q2)), .second, .val (.long (own_gr (own_gr (-9223372036854775808 : Int64) (own_lag q2 (q1 &&& (9223372036854775807 : Int64)))) (own_lag q3 (q1 &&& (9223372036854775807 : Int64))))), .second, .unset, .unset, .unset, .unset, .unset, .unset] [])) _
    refine XS.aload X11.here hx rfl (hb hby at_89) rfl rfl ?_
    show Steps p.tables e below (T11.setTop (mkF m 91 #[.val (.long q1), .second, .val (.long q2), .second, .val (.long q3), .second, .val (.long q4), .second, .val (.long (q1 &&& (9223372036854775807 : Int64))), .second, .val (.ref b1), .val (.long (own_gr (-9223372036854775808 : Int64) (own_lag q2 (q1 &&& (9223372036854775807 : Int64))))), .second, .val (.long (own_adv (-9223372036854775808 : Int64) (q1 &&& (9223372036854775807 : Int64)) q2)), .second, .val (.long (own_gr (own_gr (-9223372036854775808 : Int64) (own_lag q2 (q1 &&& (9223372036854775807 : Int64)))) (own_lag q3 (q1 &&& (9223372036854775807 : Int64))))), .second, .unset, .unset, .unset, .unset, .unset, .unset] [(.ref b1)])) _
    refine XS.lload X11.here hx rfl (hb hby at_91) rfl ?_
    show Steps p.tables e below (T11.setTop (mkF m 93 #[.val (.long q1), .second, .val (.long q2), .second, .val (.long q3), .second, .val (.long q4), .second, .val (.long (q1 &&& (9223372036854775807 : Int64))), .second, .val (.ref b1), .val (.long (own_gr (-9223372036854775808 : Int64) (own_lag q2 (q1 &&& (9223372036854775807 : Int64))))), .second, .val (.long (own_adv (-9223372036854775808 : Int64) (q1 &&& (9223372036854775807 : Int64)) q2)), .second, .val (.long (own_gr (own_gr (-9223372036854775808 : Int64) (own_lag q2 (q1 &&& (9223372036854775807 : Int64)))) (own_lag q3 (q1 &&& (9223372036854775807 : Int64))))), .second, .unset, .unset, .unset, .unset, .unset, .unset] [(.long q3), (.ref b1)])) _
    refine st12.trans ?_
    show Steps p.tables e below (T12.setTop (mkF m 96 #[.val (.long q1), .second, .val (.long q2), .second, .val (.long q3), .second, .val (.long q4), .second, .val (.long (q1 &&& (9223372036854775807 : Int64))), .second, .val (.ref b1), .val (.long (own_gr (-9223372036854775808 : Int64) (own_lag q2 (q1 &&& (9223372036854775807 : Int64))))), .second, .val (.long (own_adv (-9223372036854775808 : Int64) (q1 &&& (9223372036854775807 : Int64)) q2)), .second, .val (.long (own_gr (own_gr (-9223372036854775808 : Int64) (own_lag q2 (q1 &&& (9223372036854775807 : Int64)))) (own_lag q3 (q1 &&& (9223372036854775807 : Int64))))), .second, .unset, .unset, .unset, .unset, .unset, .unset] [(.long (own_adv (own_adv (-9223372036854775808 : Int64) (q1 &&& (9223372036854775807 : Int64)) q2) (q1 &&& (9223372036854775807 : Int64)) q3))])) _
    refine XS.lstore X12.here hx rfl (hb hby at_96) rfl (l' := #[.val (.long q1), .second, .val (.long q2), .second, .val (.long q3), .second, .val (.long q4), .second, .val (.long (q1 &&& (9223372036854775807 : Int64))), .second, .val (.ref b1), .val (.long (own_gr (-9223372036854775808 : Int64) (own_lag q2 (q1 &&& (9223372036854775807 : Int64))))), .second, .val (.long (own_adv (-9223372036854775808 : Int64) (q1 &&& (9223372036854775807 : Int64)) q2)), .second, .val (.long (own_gr (own_gr (-9223372036854775808 : Int64) (own_lag q2 (q1 &&& (9223372036854775807 : Int64)))) (own_lag q3 (q1 &&& (9223372036854775807 : Int64))))), .second, .val (.long (own_adv (own_adv (-9223372036854775808 : Int64) (q1 &&& (9223372036854775807 : Int64)) q2) (q1 &&& (9223372036854775807 : Int64)) q3)), .second, .unset, .unset, .unset, .unset]) rfl ?_
    show Steps p.tables e below (T12.setTop (mkF m 98 #[.val (.long q1), .second, .val (.long q2), .second, .val (.long q3), .second, .val (.long q4), .second, .val (.long (q1 &&& (9223372036854775807 : Int64))), .second, .val (.ref b1), .val (.long (own_gr (-9223372036854775808 : Int64) (own_lag q2 (q1 &&& (9223372036854775807 : Int64))))), .second, .val (.long (own_adv (-9223372036854775808 : Int64) (q1 &&& (9223372036854775807 : Int64)) q2)), .second, .val (.long (own_gr (own_gr (-9223372036854775808 : Int64) (own_lag q2 (q1 &&& (9223372036854775807 : Int64)))) (own_lag q3 (q1 &&& (9223372036854775807 : Int64))))), .second, .val (.long (own_adv (own_adv (-9223372036854775808 : Int64) (q1 &&& (9223372036854775807 : Int64)) q2) (q1 &&& (9223372036854775807 : Int64)) q3)), .second, .unset, .unset, .unset, .unset] [])) _
    refine XS.lload X12.here hx rfl (hb hby at_98) rfl ?_
    show Steps p.tables e below (T12.setTop (mkF m 100 #[.val (.long q1), .second, .val (.long q2), .second, .val (.long q3), .second, .val (.long q4), .second, .val (.long (q1 &&& (9223372036854775807 : Int64))), .second, .val (.ref b1), .val (.long (own_gr (-9223372036854775808 : Int64) (own_lag q2 (q1 &&& (9223372036854775807 : Int64))))), .second, .val (.long (own_adv (-9223372036854775808 : Int64) (q1 &&& (9223372036854775807 : Int64)) q2)), .second, .val (.long (own_gr (own_gr (-9223372036854775808 : Int64) (own_lag q2 (q1 &&& (9223372036854775807 : Int64)))) (own_lag q3 (q1 &&& (9223372036854775807 : Int64))))), .second, .val (.long (own_adv (own_adv (-9223372036854775808 : Int64) (q1 &&& (9223372036854775807 : Int64)) q2) (q1 &&& (9223372036854775807 : Int64)) q3)), .second, .unset, .unset, .unset, .unset] [(.long (own_adv (own_adv (-9223372036854775808 : Int64) (q1 &&& (9223372036854775807 : Int64)) q2) (q1 &&& (9223372036854775807 : Int64)) q3))])) _
    refine XS.lload X12.here hx rfl (hb hby at_100) rfl ?_
    show Steps p.tables e below (T12.setTop (mkF m 102 #[.val (.long q1), .second, .val (.long q2), .second, .val (.long q3), .second, .val (.long q4), .second, .val (.long (q1 &&& (9223372036854775807 : Int64))), .second, .val (.ref b1), .val (.long (own_gr (-9223372036854775808 : Int64) (own_lag q2 (q1 &&& (9223372036854775807 : Int64))))), .second, .val (.long (own_adv (-9223372036854775808 : Int64) (q1 &&& (9223372036854775807 : Int64)) q2)), .second, .val (.long (own_gr (own_gr (-9223372036854775808 : Int64) (own_lag q2 (q1 &&& (9223372036854775807 : Int64)))) (own_lag q3 (q1 &&& (9223372036854775807 : Int64))))), .second, .val (.long (own_adv (own_adv (-9223372036854775808 : Int64) (q1 &&& (9223372036854775807 : Int64)) q2) (q1 &&& (9223372036854775807 : Int64)) q3)), .second, .unset, .unset, .unset, .unset] [(.long (own_gr (own_gr (-9223372036854775808 : Int64) (own_lag q2 (q1 &&& (9223372036854775807 : Int64)))) (own_lag q3 (q1 &&& (9223372036854775807 : Int64))))), (.long (own_adv (own_adv (-9223372036854775808 : Int64) (q1 &&& (9223372036854775807 : Int64)) q2) (q1 &&& (9223372036854775807 : Int64)) q3))])) _
    refine XS.lcmp X12.here hx rfl (hb hby at_102) rfl ?_
    show Steps p.tables e below (T12.setTop (mkF m 103 #[.val (.long q1), .second, .val (.long q2), .second, .val (.long q3), .second, .val (.long q4), .second, .val (.long (q1 &&& (9223372036854775807 : Int64))), .second, .val (.ref b1), .val (.long (own_gr (-9223372036854775808 : Int64) (own_lag q2 (q1 &&& (9223372036854775807 : Int64))))), .second, .val (.long (own_adv (-9223372036854775808 : Int64) (q1 &&& (9223372036854775807 : Int64)) q2)), .second, .val (.long (own_gr (own_gr (-9223372036854775808 : Int64) (own_lag q2 (q1 &&& (9223372036854775807 : Int64)))) (own_lag q3 (q1 &&& (9223372036854775807 : Int64))))), .second, .val (.long (own_adv (own_adv (-9223372036854775808 : Int64) (q1 &&& (9223372036854775807 : Int64)) q2) (q1 &&& (9223372036854775807 : Int64)) q3)), .second, .unset, .unset, .unset, .unset] [(.int (lcmpW (own_adv (own_adv (-9223372036854775808 : Int64) (q1 &&& (9223372036854775807 : Int64)) q2) (q1 &&& (9223372036854775807 : Int64)) q3) (own_gr (own_gr (-9223372036854775808 : Int64) (own_lag q2 (q1 &&& (9223372036854775807 : Int64)))) (own_lag q3 (q1 &&& (9223372036854775807 : Int64))))))])) _
    refine XS.ifNo X12.here hx rfl (hb hby at_103) rfl ((if0 _ _).trans (teq ((lw_eq _ _).mpr (by first | rfl | (simp only [own_eq _ _ _ (own_mask q1)])))).2) ?_
    show Steps p.tables e below (T12.setTop (mkF m 106 #[.val (.long q1), .second, .val (.long q2), .second, .val (.long q3), .second, .val (.long q4), .second, .val (.long (q1 &&& (9223372036854775807 : Int64))), .second, .val (.ref b1), .val (.long (own_gr (-9223372036854775808 : Int64) (own_lag q2 (q1 &&& (9223372036854775807 : Int64))))), .second, .val (.long (own_adv (-9223372036854775808 : Int64) (q1 &&& (9223372036854775807 : Int64)) q2)), .second, .val (.long (own_gr (own_gr (-9223372036854775808 : Int64) (own_lag q2 (q1 &&& (9223372036854775807 : Int64)))) (own_lag q3 (q1 &&& (9223372036854775807 : Int64))))), .second, .val (.long (own_adv (own_adv (-9223372036854775808 : Int64) (q1 &&& (9223372036854775807 : Int64)) q2) (q1 &&& (9223372036854775807 : Int64)) q3)), .second, .unset, .unset, .unset, .unset] [])) _
    refine XS.aload X12.here hx rfl (hb hby at_106) rfl rfl ?_
    show Steps p.tables e below (T12.setTop (mkF m 108 #[.val (.long q1), .second, .val (.long q2), .second, .val (.long q3), .second, .val (.long q4), .second, .val (.long (q1 &&& (9223372036854775807 : Int64))), .second, .val (.ref b1), .val (.long (own_gr (-9223372036854775808 : Int64) (own_lag q2 (q1 &&& (9223372036854775807 : Int64))))), .second, .val (.long (own_adv (-9223372036854775808 : Int64) (q1 &&& (9223372036854775807 : Int64)) q2)), .second, .val (.long (own_gr (own_gr (-9223372036854775808 : Int64) (own_lag q2 (q1 &&& (9223372036854775807 : Int64)))) (own_lag q3 (q1 &&& (9223372036854775807 : Int64))))), .second, .val (.long (own_adv (own_adv (-9223372036854775808 : Int64) (q1 &&& (9223372036854775807 : Int64)) q2) (q1 &&& (9223372036854775807 : Int64)) q3)), .second, .unset, .unset, .unset, .unset] [(.ref b1)])) _
    refine st13.trans ?_
    show Steps p.tables e below (T13.setTop (mkF m 111 #[.val (.long q1), .second, .val (.long q2), .second, .val (.long q3), .second, .val (.long q4), .second, .val (.long (q1 &&& (9223372036854775807 : Int64))), .second, .val (.ref b1), .val (.long (own_gr (-9223372036854775808 : Int64) (own_lag q2 (q1 &&& (9223372036854775807 : Int64))))), .second, .val (.long (own_adv (-9223372036854775808 : Int64) (q1 &&& (9223372036854775807 : Int64)) q2)), .second, .val (.long (own_gr (own_gr (-9223372036854775808 : Int64) (own_lag q2 (q1 &&& (9223372036854775807 : Int64)))) (own_lag q3 (q1 &&& (9223372036854775807 : Int64))))), .second, .val (.long (own_adv (own_adv (-9223372036854775808 : Int64) (q1 &&& (9223372036854775807 : Int64)) q2) (q1 &&& (9223372036854775807 : Int64)) q3)), .second, .unset, .unset, .unset, .unset] [(.long (own_adv (own_adv (-9223372036854775808 : Int64) (q1 &&& (9223372036854775807 : Int64)) q2) (q1 &&& (9223372036854775807 : Int64)) q3))])) _
    refine XS.lload X13.here hx rfl (hb hby at_111) rfl ?_
    show Steps p.tables e below (T13.setTop (mkF m 113 #[.val (.long q1), .second, .val (.long q2), .second, .val (.long q3), .second, .val (.long q4), .second, .val (.long (q1 &&& (9223372036854775807 : Int64))), .second, .val (.ref b1), .val (.long (own_gr (-9223372036854775808 : Int64) (own_lag q2 (q1 &&& (9223372036854775807 : Int64))))), .second, .val (.long (own_adv (-9223372036854775808 : Int64) (q1 &&& (9223372036854775807 : Int64)) q2)), .second, .val (.long (own_gr (own_gr (-9223372036854775808 : Int64) (own_lag q2 (q1 &&& (9223372036854775807 : Int64)))) (own_lag q3 (q1 &&& (9223372036854775807 : Int64))))), .second, .val (.long (own_adv (own_adv (-9223372036854775808 : Int64) (q1 &&& (9223372036854775807 : Int64)) q2) (q1 &&& (9223372036854775807 : Int64)) q3)), .second, .unset, .unset, .unset, .unset] [(.long (own_gr (own_gr (-9223372036854775808 : Int64) (own_lag q2 (q1 &&& (9223372036854775807 : Int64)))) (own_lag q3 (q1 &&& (9223372036854775807 : Int64))))), (.long (own_adv (own_adv (-9223372036854775808 : Int64) (q1 &&& (9223372036854775807 : Int64)) q2) (q1 &&& (9223372036854775807 : Int64)) q3))])) _
    refine XS.lcmp X13.here hx rfl (hb hby at_113) rfl ?_
    show Steps p.tables e below (T13.setTop (mkF m 114 #[.val (.long q1), .second, .val (.long q2), .second, .val (.long q3), .second, .val (.long q4), .second, .val (.long (q1 &&& (9223372036854775807 : Int64))), .second, .val (.ref b1), .val (.long (own_gr (-9223372036854775808 : Int64) (own_lag q2 (q1 &&& (9223372036854775807 : Int64))))), .second, .val (.long (own_adv (-9223372036854775808 : Int64) (q1 &&& (9223372036854775807 : Int64)) q2)), .second, .val (.long (own_gr (own_gr (-9223372036854775808 : Int64) (own_lag q2 (q1 &&& (9223372036854775807 : Int64)))) (own_lag q3 (q1 &&& (9223372036854775807 : Int64))))), .second, .val (.long (own_adv (own_adv (-9223372036854775808 : Int64) (q1 &&& (9223372036854775807 : Int64)) q2) (q1 &&& (9223372036854775807 : Int64)) q3)), .second, .unset, .unset, .unset, .unset] [(.int (lcmpW (own_adv (own_adv (-9223372036854775808 : Int64) (q1 &&& (9223372036854775807 : Int64)) q2) (q1 &&& (9223372036854775807 : Int64)) q3) (own_gr (own_gr (-9223372036854775808 : Int64) (own_lag q2 (q1 &&& (9223372036854775807 : Int64)))) (own_lag q3 (q1 &&& (9223372036854775807 : Int64))))))])) _
    refine XS.ifYes X13.here hx rfl (pc0 := 114) (pc' := 119) rfl (hb hby at_114) rfl ((if0 _ _).trans (teq ((lw_eq _ _).mpr (by first | rfl | (simp only [own_eq _ _ _ (own_mask q1)])))).1) (by decide) (by decide) ?_
    show Steps p.tables e below (T13.setTop (mkF m 119 #[.val (.long q1), .second, .val (.long q2), .second, .val (.long q3), .second, .val (.long q4), .second, .val (.long (q1 &&& (9223372036854775807 : Int64))), .second, .val (.ref b1), .val (.long (own_gr (-9223372036854775808 : Int64) (own_lag q2 (q1 &&& (9223372036854775807 : Int64))))), .second, .val (.long (own_adv (-9223372036854775808 : Int64) (q1 &&& (9223372036854775807 : Int64)) q2)), .second, .val (.long (own_gr (own_gr (-9223372036854775808 : Int64) (own_lag q2 (q1 &&& (9223372036854775807 : Int64)))) (own_lag q3 (q1 &&& (9223372036854775807 : Int64))))), .second, .val (.long (own_adv (own_adv (-9223372036854775808 : Int64) (q1 &&& (9223372036854775807 : Int64)) q2) (q1 &&& (9223372036854775807 : Int64)) q3)), .second, .unset, .unset, .unset, .unset] [])) _
    refine XS.lload X13.here hx rfl (hb hby at_119) rfl ?_
    show Steps p.tables e below (T13.setTop (mkF m 121 #[.val (.long q1), .second, .val (.long q2), .second, .val (.long q3), .second, .val (.long q4), .second, .val (.long (q1 &&& (9223372036854775807 : Int64))), .second, .val (.ref b1), .val (.long (own_gr (-9223372036854775808 : Int64) (own_lag q2 (q1 &&& (9223372036854775807 : Int64))))), .second, .val (.long (own_adv (-9223372036854775808 : Int64) (q1 &&& (9223372036854775807 : Int64)) q2)), .second, .val (.long (own_gr (own_gr (-9223372036854775808 : Int64) (own_lag q2 (q1 &&& (9223372036854775807 : Int64)))) (own_lag q3 (q1 &&& (9223372036854775807 : Int64))))), .second, .val (.long (own_adv (own_adv (-9223372036854775808 : Int64) (q1 &&& (9223372036854775807 : Int64)) q2) (q1 &&& (9223372036854775807 : Int64)) q3)), .second, .unset, .unset, .unset, .unset] [(.long (own_gr (own_gr (-9223372036854775808 : Int64) (own_lag q2 (q1 &&& (9223372036854775807 : Int64)))) (own_lag q3 (q1 &&& (9223372036854775807 : Int64)))))])) _
    refine XS.lload X13.here hx rfl (hb hby at_121) rfl ?_
    show Steps p.tables e below (T13.setTop (mkF m 123 #[.val (.long q1), .second, .val (.long q2), .second, .val (.long q3), .second, .val (.long q4), .second, .val (.long (q1 &&& (9223372036854775807 : Int64))), .second, .val (.ref b1), .val (.long (own_gr (-9223372036854775808 : Int64) (own_lag q2 (q1 &&& (9223372036854775807 : Int64))))), .second, .val (.long (own_adv (-9223372036854775808 : Int64) (q1 &&& (9223372036854775807 : Int64)) q2)), .second, .val (.long (own_gr (own_gr (-9223372036854775808 : Int64) (own_lag q2 (q1 &&& (9223372036854775807 : Int64)))) (own_lag q3 (q1 &&& (9223372036854775807 : Int64))))), .second, .val (.long (own_adv (own_adv (-9223372036854775808 : Int64) (q1 &&& (9223372036854775807 : Int64)) q2) (q1 &&& (9223372036854775807 : Int64)) q3)), .second, .unset, .unset, .unset, .unset] [(.long q4), (.long (own_gr (own_gr (-9223372036854775808 : Int64) (own_lag q2 (q1 &&& (9223372036854775807 : Int64)))) (own_lag q3 (q1 &&& (9223372036854775807 : Int64)))))])) _
    refine XS.lload X13.here hx rfl (hb hby at_123) rfl ?_
    show Steps p.tables e below (T13.setTop (mkF m 125 #[.val (.long q1), .second, .val (.long q2), .second, .val (.long q3), .second, .val (.long q4), .second, .val (.long (q1 &&& (9223372036854775807 : Int64))), .second, .val (.ref b1), .val (.long (own_gr (-9223372036854775808 : Int64) (own_lag q2 (q1 &&& (9223372036854775807 : Int64))))), .second, .val (.long (own_adv (-9223372036854775808 : Int64) (q1 &&& (9223372036854775807 : Int64)) q2)), .second, .val (.long (own_gr (own_gr (-9223372036854775808 : Int64) (own_lag q2 (q1 &&& (9223372036854775807 : Int64)))) (own_lag q3 (q1 &&& (9223372036854775807 : Int64))))), .second, .val (.long (own_adv (own_adv (-9223372036854775808 : Int64) (q1 &&& (9223372036854775807 : Int64)) q2) (q1 &&& (9223372036854775807 : Int64)) q3)), .second, .unset, .unset, .unset, .unset] [(.long (q1 &&& (9223372036854775807 : Int64))), (.long q4), (.long (own_gr (own_gr (-9223372036854775808 : Int64) (own_lag q2 (q1 &&& (9223372036854775807 : Int64)))) (own_lag q3 (q1 &&& (9223372036854775807 : Int64)))))])) _
    refine st15 _ ?_
    show Steps p.tables e below (T15.setTop (mkF m 128 #[.val (.long q1), .second, .val (.long q2), .second, .val (.long q3), .second, .val (.long q4), .second, .val (.long (q1 &&& (9223372036854775807 : Int64))), .second, .val (.ref b1), .val (.long (own_gr (-9223372036854775808 : Int64) (own_lag q2 (q1 &&& (9223372036854775807 : Int64))))), .second, .val (.long (own_adv (-9223372036854775808 : Int64) (q1 &&& (9223372036854775807 : Int64)) q2)), .second, .val (.long (own_gr (own_gr (-9223372036854775808 : Int64) (own_lag q2 (q1 &&& (9223372036854775807 : Int64)))) (own_lag q3 (q1 &&& (9223372036854775807 : Int64))))), .second, .val (.long (own_adv (own_adv (-9223372036854775808 : Int64) (q1 &&& (9223372036854775807 : Int64)) q2) (q1 &&& (9223372036854775807 : Int64)) q3)), .second, .unset, .unset, .unset, .unset] [(.long (own_lag q4 (q1 &&& (9223372036854775807 : Int64)))), (.long (own_gr (own_gr (-9223372036854775808 : Int64) (own_lag q2 (q1 &&& (9223372036854775807 : Int64)))) (own_lag q3 (q1 &&& (9223372036854775807 : Int64)))))])) _
    refine st16 _ ?_
    show Steps p.tables e below (T16.setTop (mkF m 131 #[.val (.long q1), .second, .val (.long q2), .second, .val (.long q3), .second, .val (.long q4), .second, .val (.long (q1 &&& (9223372036854775807 : Int64))), .second, .val (.ref b1), .val (.long (own_gr (-9223372036854775808 : Int64) (own_lag q2 (q1 &&& (9223372036854775807 : Int64))))), .second, .val (.long (own_adv (-9223372036854775808 : Int64) (q1 &&& (9223372036854775807 : Int64)) q2)), .second, .val (.long (own_gr (own_gr (-9223372036854775808 : Int64) (own_lag q2 (q1 &&& (9223372036854775807 : Int64)))) (own_lag q3 (q1 &&& (9223372036854775807 : Int64))))), .second, .val (.long (own_adv (own_adv (-9223372036854775808 : Int64) (q1 &&& (9223372036854775807 : Int64)) q2) (q1 &&& (9223372036854775807 : Int64)) q3)), .second, .unset, .unset, .unset, .unset] [(.long (own_gr (own_gr (own_gr (-9223372036854775808 : Int64) (own_lag q2 (q1 &&& (9223372036854775807 : Int64)))) (own_lag q3 (q1 &&& (9223372036854775807 : Int64)))) (own_lag q4 (q1 &&& (9223372036854775807 : Int64)))))])) _
    refine XS.lstore X16.here hx rfl (hb hby at_131) rfl (l' := #[.val (.long q1), .second, .val (.long q2), .second, .val (.long q3), .second, .val (.long q4), .second, .val (.long (q1 &&& (9223372036854775807 : Int64))), .second, .val (.ref b1), .val (.long (own_gr (-9223372036854775808 : Int64) (own_lag q2 (q1 &&& (9223372036854775807 : Int64))))), .second, .val (.long (own_adv (-9223372036854775808 : Int64) (q1 &&& (9223372036854775807 : Int64)) q2)), .second, .val (.long (own_gr (own_gr (-9223372036854775808 : Int64) (own_lag q2 (q1 &&& (9223372036854775807 : Int64)))) (own_lag q3 (q1 &&& (9223372036854775807 : Int64))))), .second, .val (.long (own_adv (own_adv (-9223372036854775808 : Int64) (q1 &&& (9223372036854775807 : Int64)) q2) (q1 &&& (9223372036854775807 : Int64)) q3)), .second, .val (.long (own_gr (own_gr (own_gr (-9223372036854775808 : Int64) (own_lag q2 (q1 &&& (9223372036854775807 : Int64)))) (own_lag q3 (q1 &&& (9223372036854775807 : Int64)))) (own_lag q4 (q1 &&& (9223372036854775807 : Int64))))), .second, .unset, .unset]) rfl ?_
    show Steps p.tables e below (T16.setTop (mkF m 133 #[.val (.long q1), .second, .val (.long q2), .second, .val (.long q3), .second, .val (.long q4), .second, .val (.long (q1 &&& (9223372036854775807 : Int64))), .second, .val (.ref b1), .val (.long (own_gr (-9223372036854775808 : Int64) (own_lag q2 (q1 &&& (9223372036854775807 : Int64))))), .second, .val (.long (own_adv (-9223372036854775808 : Int64) (q1 &&& (9223372036854775807 : Int64)) q2)), .second, .val (.long (own_gr (own_gr (-9223372036854775808 : Int64) (own_lag q2 (q1 &&& (9223372036854775807 : Int64)))) (own_lag q3 (q1 &&& (9223372036854775807 : Int64))))), .second, .val (.long (own_adv (own_adv (-9223372036854775808 : Int64) (q1 &&& (9223372036854775807 : Int64)) q2) (q1 &&& (9223372036854775807 : Int64)) q3)), .second, .val (.long (own_gr (own_gr (own_gr (-9223372036854775808 : Int64) (own_lag q2 (q1 &&& (9223372036854775807 : Int64)))) (own_lag q3 (q1 &&& (9223372036854775807 : Int64)))) (own_lag q4 (q1 &&& (9223372036854775807 : Int64))))), .second, .unset, .unset] [])) _
    refine XS.aload X16.here hx rfl (hb hby at_133) rfl rfl ?_
    show Steps p.tables e below (T16.setTop (mkF m 135 #[.val (.long q1), .second, .val (.long q2), .second, .val (.long q3), .second, .val (.long q4), .second, .val (.long (q1 &&& (9223372036854775807 : Int64))), .second, .val (.ref b1), .val (.long (own_gr (-9223372036854775808 : Int64) (own_lag q2 (q1 &&& (9223372036854775807 : Int64))))), .second, .val (.long (own_adv (-9223372036854775808 : Int64) (q1 &&& (9223372036854775807 : Int64)) q2)), .second, .val (.long (own_gr (own_gr (-9223372036854775808 : Int64) (own_lag q2 (q1 &&& (9223372036854775807 : Int64)))) (own_lag q3 (q1 &&& (9223372036854775807 : Int64))))), .second, .val (.long (own_adv (own_adv (-9223372036854775808 : Int64) (q1 &&& (9223372036854775807 : Int64)) q2) (q1 &&& (9223372036854775807 : Int64)) q3)), .second, .val (.long (own_gr (own_gr (own_gr (-9223372036854775808 : Int64) (own_lag q2 (q1 &&& (9223372036854775807 : Int64)))) (own_lag q3 (q1 &&& (9223372036854775807 : Int64)))) (own_lag q4 (q1 &&& (9223372036854775807 : Int64))))), .second, .unset, .unset] [(.ref b1)])) _
    refine XS.lload X16.here hx rfl (hb hby at_135) rfl ?_
    show Steps p.tables e below (T16.setTop (mkF m 137 #[.val (.long q1), .second, .val (.long q2), .second, .val (.long q3), .second, .val (.long q4), .second, .val (.long (q1 &&& (9223372036854775807 : Int64))), .second, .val (.ref b1), .val (.long (own_gr (-9223372036854775808 : Int64) (own_lag q2 (q1 &&& (9223372036854775807 : Int64))))), .second, .val (.long (own_adv (-9223372036854775808 : Int64) (q1 &&& (9223372036854775807 : Int64)) q2)), .second, .val (.long (own_gr (own_gr (-9223372036854775808 : Int64) (own_lag q2 (q1 &&& (9223372036854775807 : Int64)))) (own_lag q3 (q1 &&& (9223372036854775807 : Int64))))), .second, .val (.long (own_adv (own_adv (-9223372036854775808 : Int64) (q1 &&& (9223372036854775807 : Int64)) q2) (q1 &&& (9223372036854775807 : Int64)) q3)), .second, .val (.long (own_gr (own_gr (own_gr (-9223372036854775808 : Int64) (own_lag q2 (q1 &&& (9223372036854775807 : Int64)))) (own_lag q3 (q1 &&& (9223372036854775807 : Int64)))) (own_lag q4 (q1 &&& (9223372036854775807 : Int64))))), .second, .unset, .unset] [(.long q4), (.ref b1)])) _
    refine st17.trans ?_
    show Steps p.tables e below (T17.setTop (mkF m 140 #[.val (.long q1), .second, .val (.long q2), .second, .val (.long q3), .second, .val (.long q4), .second, .val (.long (q1 &&& (9223372036854775807 : Int64))), .second, .val (.ref b1), .val (.long (own_gr (-9223372036854775808 : Int64) (own_lag q2 (q1 &&& (9223372036854775807 : Int64))))), .second, .val (.long (own_adv (-9223372036854775808 : Int64) (q1 &&& (9223372036854775807 : Int64)) q2)), .second, .val (.long (own_gr (own_gr (-9223372036854775808 : Int64) (own_lag q2 (q1 &&& (9223372036854775807 : Int64)))) (own_lag q3 (q1 &&& (9223372036854775807 : Int64))))), .second, .val (.long (own_adv (own_adv (-9223372036854775808 : Int64) (q1 &&& (9223372036854775807 : Int64)) q2) (q1 &&& (9223372036854775807 : Int64)) q3)), .second, .val (.long (own_gr (own_gr (own_gr (-9223372036854775808 : Int64) (own_lag q2 (q1 &&& (9223372036854775807 : Int64)))) (own_lag q3 (q1 &&& (9223372036854775807 : Int64)))) (own_lag q4 (q1 &&& (9223372036854775807 : Int64))))), .second, .unset, .unset] [(.long (own_adv (own_adv (own_adv (-9223372036854775808 : Int64) (q1 &&& (9223372036854775807 : Int64)) q2) (q1 &&& (9223372036854775807 : Int64)) q3) (q1 &&& (9223372036854775807 : Int64)) q4))])) _
    refine XS.lstore X17.here hx rfl (hb hby at_140) rfl (l' := #[.val (.long q1), .second, .val (.long q2), .second, .val (.long q3), .second, .val (.long q4), .second, .val (.long (q1 &&& (9223372036854775807 : Int64))), .second, .val (.ref b1), .val (.long (own_gr (-9223372036854775808 : Int64) (own_lag q2 (q1 &&& (9223372036854775807 : Int64))))), .second, .val (.long (own_adv (-9223372036854775808 : Int64) (q1 &&& (9223372036854775807 : Int64)) q2)), .second, .val (.long (own_gr (own_gr (-9223372036854775808 : Int64) (own_lag q2 (q1 &&& (9223372036854775807 : Int64)))) (own_lag q3 (q1 &&& (9223372036854775807 : Int64))))), .second, .val (.long (own_adv (own_adv (-9223372036854775808 : Int64) (q1 &&& (9223372036854775807 : Int64)) q2) (q1 &&& (9223372036854775807 : Int64)) q3)), .second, .val (.long (own_gr (own_gr (own_gr (-9223372036854775808 : Int64) (own_lag q2 (q1 &&& (9223372036854775807 : Int64)))) (own_lag q3 (q1 &&& (9223372036854775807 : Int64)))) (own_lag q4 (q1 &&& (9223372036854775807 : Int64))))), .second, .val (.long (own_adv (own_adv (own_adv (-9223372036854775808 : Int64) (q1 &&& (9223372036854775807 : Int64)) q2) (q1 &&& (9223372036854775807 : Int64)) q3) (q1 &&& (9223372036854775807 : Int64)) q4)), .second]) rfl ?_
    show Steps p.tables e below (T17.setTop (mkF m 142 #[.val (.long q1), .second, .val (.long q2), .second, .val (.long q3), .second, .val (.long q4), .second, .val (.long (q1 &&& (9223372036854775807 : Int64))), .second, .val (.ref b1), .val (.long (own_gr (-9223372036854775808 : Int64) (own_lag q2 (q1 &&& (9223372036854775807 : Int64))))), .second, .val (.long (own_adv (-9223372036854775808 : Int64) (q1 &&& (9223372036854775807 : Int64)) q2)), .second, .val (.long (own_gr (own_gr (-9223372036854775808 : Int64) (own_lag q2 (q1 &&& (9223372036854775807 : Int64)))) (own_lag q3 (q1 &&& (9223372036854775807 : Int64))))), .second, .val (.long (own_adv (own_adv (-9223372036854775808 : Int64) (q1 &&& (9223372036854775807 : Int64)) q2) (q1 &&& (9223372036854775807 : Int64)) q3)), .second, .val (.long (own_gr (own_gr (own_gr (-9223372036854775808 : Int64) (own_lag q2 (q1 &&& (9223372036854775807 : Int64)))) (own_lag q3 (q1 &&& (9223372036854775807 : Int64)))) (own_lag q4 (q1 &&& (9223372036854775807 : Int64))))), .second, .val (.long (own_adv (own_adv (own_adv (-9223372036854775808 : Int64) (q1 &&& (9223372036854775807 : Int64)) q2) (q1 &&& (9223372036854775807 : Int64)) q3) (q1 &&& (9223372036854775807 : Int64)) q4)), .second] [])) _
    refine XS.lload X17.here hx rfl (hb hby at_142) rfl ?_
    show Steps p.tables e below (T17.setTop (mkF m 144 #[.val (.long q1), .second, .val (.long q2), .second, .val (.long q3), .second, .val (.long q4), .second, .val (.long (q1 &&& (9223372036854775807 : Int64))), .second, .val (.ref b1), .val (.long (own_gr (-9223372036854775808 : Int64) (own_lag q2 (q1 &&& (9223372036854775807 : Int64))))), .second, .val (.long (own_adv (-9223372036854775808 : Int64) (q1 &&& (9223372036854775807 : Int64)) q2)), .second, .val (.long (own_gr (own_gr (-9223372036854775808 : Int64) (own_lag q2 (q1 &&& (9223372036854775807 : Int64)))) (own_lag q3 (q1 &&& (9223372036854775807 : Int64))))), .second, .val (.long (own_adv (own_adv (-9223372036854775808 : Int64) (q1 &&& (9223372036854775807 : Int64)) q2) (q1 &&& (9223372036854775807 : Int64)) q3)), .second, .val (.long (own_gr (own_gr (own_gr (-9223372036854775808 : Int64) (own_lag q2 (q1 &&& (9223372036854775807 : Int64)))) (own_lag q3 (q1 &&& (9223372036854775807 : Int64)))) (own_lag q4 (q1 &&& (9223372036854775807 : Int64))))), .second, .val (.long (own_adv (own_adv (own_adv (-9223372036854775808 : Int64) (q1 &&& (9223372036854775807 : Int64)) q2) (q1 &&& (9223372036854775807 : Int64)) q3) (q1 &&& (9223372036854775807 : Int64)) q4)), .second] [(.long (own_adv (own_adv (own_adv (-9223372036854775808 : Int64) (q1 &&& (9223372036854775807 : Int64)) q2) (q1 &&& (9223372036854775807 : Int64)) q3) (q1 &&& (9223372036854775807 : Int64)) q4))])) _
    refine XS.lload X17.here hx rfl (hb hby at_144) rfl ?_
    show Steps p.tables e below (T17.setTop (mkF m 146 #[.val (.long q1), .second, .val (.long q2), .second, .val (.long q3), .second, .val (.long q4), .second, .val (.long (q1 &&& (9223372036854775807 : Int64))), .second, .val (.ref b1), .val (.long (own_gr (-9223372036854775808 : Int64) (own_lag q2 (q1 &&& (9223372036854775807 : Int64))))), .second, .val (.long (own_adv (-9223372036854775808 : Int64) (q1 &&& (9223372036854775807 : Int64)) q2)), .second, .val (.long (own_gr (own_gr (-9223372036854775808 : Int64) (own_lag q2 (q1 &&& (9223372036854775807 : Int64)))) (own_lag q3 (q1 &&& (9223372036854775807 : Int64))))), .second, .val (.long (own_adv (own_adv (-9223372036854775808 : Int64) (q1 &&& (9223372036854775807 : Int64)) q2) (q1 &&& (9223372036854775807 : Int64)) q3)), .second, .val (.long (own_gr (own_gr (own_gr (-9223372036854775808 : Int64) (own_lag q2 (q1 &&& (9223372036854775807 : Int64)))) (own_lag q3 (q1 &&& (9223372036854775807 : Int64)))) (own_lag q4 (q1 &&& (9223372036854775807 : Int64))))), .second, .val (.long (own_adv (own_adv (own_adv (-9223372036854775808 : Int64) (q1 &&& (9223372036854775807 : Int64)) q2) (q1 &&& (9223372036854775807 : Int64)) q3) (q1 &&& (9223372036854775807 : Int64)) q4)), .second] [(.long (own_gr (own_gr (own_gr (-9223372036854775808 : Int64) (own_lag q2 (q1 &&& (9223372036854775807 : Int64)))) (own_lag q3 (q1 &&& (9223372036854775807 : Int64)))) (own_lag q4 (q1 &&& (9223372036854775807 : Int64))))), (.long (own_adv (own_adv (own_adv (-9223372036854775808 : Int64) (q1 &&& (9223372036854775807 : Int64)) q2) (q1 &&& (9223372036854775807 : Int64)) q3) (q1 &&& (9223372036854775807 : Int64)) q4))])) _
    refine XS.lcmp X17.here hx rfl (hb hby at_146) rfl ?_
    show Steps p.tables e below (T17.setTop (mkF m 147 #[.val (.long q1), .second, .val (.long q2), .second, .val (.long q3), .second, .val (.long q4), .second, .val (.long (q1 &&& (9223372036854775807 : Int64))), .second, .val (.ref b1), .val (.long (own_gr (-9223372036854775808 : Int64) (own_lag q2 (q1 &&& (9223372036854775807 : Int64))))), .second, .val (.long (own_adv (-9223372036854775808 : Int64) (q1 &&& (9223372036854775807 : Int64)) q2)), .second, .val (.long (own_gr (own_gr (-9223372036854775808 : Int64) (own_lag q2 (q1 &&& (9223372036854775807 : Int64)))) (own_lag q3 (q1 &&& (9223372036854775807 : Int64))))), .second, .val (.long (own_adv (own_adv (-9223372036854775808 : Int64) (q1 &&& (9223372036854775807 : Int64)) q2) (q1 &&& (9223372036854775807 : Int64)) q3)), .second, .val (.long (own_gr (own_gr (own_gr (-9223372036854775808 : Int64) (own_lag q2 (q1 &&& (9223372036854775807 : Int64)))) (own_lag q3 (q1 &&& (9223372036854775807 : Int64)))) (own_lag q4 (q1 &&& (9223372036854775807 : Int64))))), .second, .val (.long (own_adv (own_adv (own_adv (-9223372036854775808 : Int64) (q1 &&& (9223372036854775807 : Int64)) q2) (q1 &&& (9223372036854775807 : Int64)) q3) (q1 &&& (9223372036854775807 : Int64)) q4)), .second] [(.int (lcmpW (own_adv (own_adv (own_adv (-9223372036854775808 : Int64) (q1 &&& (9223372036854775807 : Int64)) q2) (q1 &&& (9223372036854775807 : Int64)) q3) (q1 &&& (9223372036854775807 : Int64)) q4) (own_gr (own_gr (own_gr (-9223372036854775808 : Int64) (own_lag q2 (q1 &&& (9223372036854775807 : Int64)))) (own_lag q3 (q1 &&& (9223372036854775807 : Int64)))) (own_lag q4 (q1 &&& (9223372036854775807 : Int64))))))])) _
    refine XS.ifNo X17.here hx rfl (hb hby at_147) rfl ((if0 _ _).trans (teq ((lw_eq _ _).mpr (by first | rfl | (simp only [own_eq _ _ _ (own_mask q1)])))).2) ?_
    show Steps p.tables e below (T17.setTop (mkF m 150 #[.val (.long q1), .second, .val (.long q2), .second, .val (.long q3), .second, .val (.long q4), .second, .val (.long (q1 &&& (9223372036854775807 : Int64))), .second, .val (.ref b1), .val (.long (own_gr (-9223372036854775808 : Int64) (own_lag q2 (q1 &&& (9223372036854775807 : Int64))))), .second, .val (.long (own_adv (-9223372036854775808 : Int64) (q1 &&& (9223372036854775807 : Int64)) q2)), .second, .val (.long (own_gr (own_gr (-9223372036854775808 : Int64) (own_lag q2 (q1 &&& (9223372036854775807 : Int64)))) (own_lag q3 (q1 &&& (9223372036854775807 : Int64))))), .second, .val (.long (own_adv (own_adv (-9223372036854775808 : Int64) (q1 &&& (9223372036854775807 : Int64)) q2) (q1 &&& (9223372036854775807 : Int64)) q3)), .second, .val (.long (own_gr (own_gr (own_gr (-9223372036854775808 : Int64) (own_lag q2 (q1 &&& (9223372036854775807 : Int64)))) (own_lag q3 (q1 &&& (9223372036854775807 : Int64)))) (own_lag q4 (q1 &&& (9223372036854775807 : Int64))))), .second, .val (.long (own_adv (own_adv (own_adv (-9223372036854775808 : Int64) (q1 &&& (9223372036854775807 : Int64)) q2) (q1 &&& (9223372036854775807 : Int64)) q3) (q1 &&& (9223372036854775807 : Int64)) q4)), .second] [])) _
    refine XS.aload X17.here hx rfl (hb hby at_150) rfl rfl ?_
    show Steps p.tables e below (T17.setTop (mkF m 152 #[.val (.long q1), .second, .val (.long q2), .second, .val (.long q3), .second, .val (.long q4), .second, .val (.long (q1 &&& (9223372036854775807 : Int64))), .second, .val (.ref b1), .val (.long (own_gr (-9223372036854775808 : Int64) (own_lag q2 (q1 &&& (9223372036854775807 : Int64))))), .second, .val (.long (own_adv (-9223372036854775808 : Int64) (q1 &&& (9223372036854775807 : Int64)) q2)), .second, .val (.long (own_gr (own_gr (-9223372036854775808 : Int64) (own_lag q2 (q1 &&& (9223372036854775807 : Int64)))) (own_lag q3 (q1 &&& (9223372036854775807 : Int64))))), .second, .val (.long (own_adv (own_adv (-9223372036854775808 : Int64) (q1 &&& (9223372036854775807 : Int64)) q2) (q1 &&& (9223372036854775807 : Int64)) q3)), .second, .val (.long (own_gr (own_gr (own_gr (-9223372036854775808 : Int64) (own_lag q2 (q1 &&& (9223372036854775807 : Int64)))) (own_lag q3 (q1 &&& (9223372036854775807 : Int64)))) (own_lag q4 (q1 &&& (9223372036854775807 : Int64))))), .second, .val (.long (own_adv (own_adv (own_adv (-9223372036854775808 : Int64) (q1 &&& (9223372036854775807 : Int64)) q2) (q1 &&& (9223372036854775807 : Int64)) q3) (q1 &&& (9223372036854775807 : Int64)) q4)), .second] [(.ref b1)])) _
    refine st18.trans ?_
    show Steps p.tables e below (T18.setTop (mkF m 155 #[.val (.long q1), .second, .val (.long q2), .second, .val (.long q3), .second, .val (.long q4), .second, .val (.long (q1 &&& (9223372036854775807 : Int64))), .second, .val (.ref b1), .val (.long (own_gr (-9223372036854775808 : Int64) (own_lag q2 (q1 &&& (9223372036854775807 : Int64))))), .second, .val (.long (own_adv (-9223372036854775808 : Int64) (q1 &&& (9223372036854775807 : Int64)) q2)), .second, .val (.long (own_gr (own_gr (-9223372036854775808 : Int64) (own_lag q2 (q1 &&& (9223372036854775807 : Int64)))) (own_lag q3 (q1 &&& (9223372036854775807 : Int64))))), .second, .val (.long (own_adv (own_adv (-9223372036854775808 : Int64) (q1 &&& (9223372036854775807 : Int64)) q2) (q1 &&& (9223372036854775807 : Int64)) q3)), .second, .val (.long (own_gr (own_gr (own_gr (-9223372036854775808 : Int64) (own_lag q2 (q1 &&& (9223372036854775807 : Int64)))) (own_lag q3 (q1 &&& (9223372036854775807 : Int64)))) (own_lag q4 (q1 &&& (9223372036854775807 : Int64))))), .second, .val (.long (own_adv (own_adv (own_adv (-9223372036854775808 : Int64) (q1 &&& (9223372036854775807 : Int64)) q2) (q1 &&& (9223372036854775807 : Int64)) q3) (q1 &&& (9223372036854775807 : Int64)) q4)), .second] [(.long (own_adv (own_adv (own_adv (-9223372036854775808 : Int64) (q1 &&& (9223372036854775807 : Int64)) q2) (q1 &&& (9223372036854775807 : Int64)) q3) (q1 &&& (9223372036854775807 : Int64)) q4))])) _
    refine XS.lload X18.here hx rfl (hb hby at_155) rfl ?_
    show Steps p.tables e below (T18.setTop (mkF m 157 #[.val (.long q1), .second, .val (.long q2), .second, .val (.long q3), .second, .val (.long q4), .second, .val (.long (q1 &&& (9223372036854775807 : Int64))), .second, .val (.ref b1), .val (.long (own_gr (-9223372036854775808 : Int64) (own_lag q2 (q1 &&& (9223372036854775807 : Int64))))), .second, .val (.long (own_adv (-9223372036854775808 : Int64) (q1 &&& (9223372036854775807 : Int64)) q2)), .second, .val (.long (own_gr (own_gr (-9223372036854775808 : Int64) (own_lag q2 (q1 &&& (9223372036854775807 : Int64)))) (own_lag q3 (q1 &&& (9223372036854775807 : Int64))))), .second, .val (.long (own_adv (own_adv (-9223372036854775808 : Int64) (q1 &&& (9223372036854775807 : Int64)) q2) (q1 &&& (9223372036854775807 : Int64)) q3)), .second, .val (.long (own_gr (own_gr (own_gr (-9223372036854775808 : Int64) (own_lag q2 (q1 &&& (9223372036854775807 : Int64)))) (own_lag q3 (q1 &&& (9223372036854775807 : Int64)))) (own_lag q4 (q1 &&& (9223372036854775807 : Int64))))), .second, .val (.long (own_adv (own_adv (own_adv (-9223372036854775808 : Int64) (q1 &&& (9223372036854775807 : Int64)) q2) (q1 &&& (9223372036854775807 : Int64)) q3) (q1 &&& (9223372036854775807 : Int64)) q4)), .second] [(.long (own_gr (own_gr (own_gr (-9223372036854775808 : Int64) (own_lag q2 (q1 &&& (9223372036854775807 : Int64)))) (own_lag q3 (q1 &&& (9223372036854775807 : Int64)))) (own_lag q4 (q1 &&& (9223372036854775807 : Int64))))), (.long (own_adv (own_adv (own_adv (-9223372036854775808 : Int64) (q1 &&& (9223372036854775807 : Int64)) q2) (q1 &&& (9223372036854775807 : Int64)) q3) (q1 &&& (9223372036854775807 : Int64)) q4))])) _
    refine XS.lcmp X18.here hx rfl (hb hby at_157) rfl ?_
    show Steps p.tables e below (T18.setTop (mkF m 158 #[.val (.long q1), .second, .val (.long q2), .second, .val (.long q3), .second, .val (.long q4), .second, .val (.long (q1 &&& (9223372036854775807 : Int64))), .second, .val (.ref b1), .val (.long (own_gr (-9223372036854775808 : Int64) (own_lag q2 (q1 &&& (9223372036854775807 : Int64))))), .second, .val (.long (own_adv (-9223372036854775808 : Int64) (q1 &&& (9223372036854775807 : Int64)) q2)), .second, .val (.long (own_gr (own_gr (-9223372036854775808 : Int64) (own_lag q2 (q1 &&& (9223372036854775807 : Int64)))) (own_lag q3 (q1 &&& (9223372036854775807 : Int64))))), .second, .val (.long (own_adv (own_adv (-9223372036854775808 : Int64) (q1 &&& (9223372036854775807 : Int64)) q2) (q1 &&& (9223372036854775807 : Int64)) q3)), .second, .val (.long (own_gr (own_gr (own_gr (-9223372036854775808 : Int64) (own_lag q2 (q1 &&& (9223372036854775807 : Int64)))) (own_lag q3 (q1 &&& (9223372036854775807 : Int64)))) (own_lag q4 (q1 &&& (9223372036854775807 : Int64))))), .second, .val (.long (own_adv (own_adv (own_adv (-9223372036854775808 : Int64) (q1 &&& (9223372036854775807 : Int64)) q2) (q1 &&& (9223372036854775807 : Int64)) q3) (q1 &&& (9223372036854775807 : Int64)) q4)), .second] [(.int (lcmpW (own_adv (own_adv (own_adv (-9223372036854775808 : Int64) (q1 &&& (9223372036854775807 : Int64)) q2) (q1 &&& (9223372036854775807 : Int64)) q3) (q1 &&& (9223372036854775807 : Int64)) q4) (own_gr (own_gr (own_gr (-9223372036854775808 : Int64) (own_lag q2 (q1 &&& (9223372036854775807 : Int64)))) (own_lag q3 (q1 &&& (9223372036854775807 : Int64)))) (own_lag q4 (q1 &&& (9223372036854775807 : Int64))))))])) _
    refine XS.ifYes X18.here hx rfl (pc0 := 158) (pc' := 163) rfl (hb hby at_158) rfl ((if0 _ _).trans (teq ((lw_eq _ _).mpr (by first | rfl | (simp only [own_eq _ _ _ (own_mask q1)])))).1) (by decide) (by decide) ?_
    show Steps p.tables e below (T18.setTop (mkF m 163 #[.val (.long q1), .second, .val (.long q2), .second, .val (.long q3), .second, .val (.long q4), .second, .val (.long (q1 &&& (9223372036854775807 : Int64))), .second, .val (.ref b1), .val (.long (own_gr (-9223372036854775808 : Int64) (own_lag q2 (q1 &&& (9223372036854775807 : Int64))))), .second, .val (.long (own_adv (-9223372036854775808 : Int64) (q1 &&& (9223372036854775807 : Int64)) q2)), .second, .val (.long (own_gr (own_gr (-9223372036854775808 : Int64) (own_lag q2 (q1 &&& (9223372036854775807 : Int64)))) (own_lag q3 (q1 &&& (9223372036854775807 : Int64))))), .second, .val (.long (own_adv (own_adv (-9223372036854775808 : Int64) (q1 &&& (9223372036854775807 : Int64)) q2) (q1 &&& (9223372036854775807 : Int64)) q3)), .second, .val (.long (own_gr (own_gr (own_gr (-9223372036854775808 : Int64) (own_lag q2 (q1 &&& (9223372036854775807 : Int64)))) (own_lag q3 (q1 &&& (9223372036854775807 : Int64)))) (own_lag q4 (q1 &&& (9223372036854775807 : Int64))))), .second, .val (.long (own_adv (own_adv (own_adv (-9223372036854775808 : Int64) (q1 &&& (9223372036854775807 : Int64)) q2) (q1 &&& (9223372036854775807 : Int64)) q3) (q1 &&& (9223372036854775807 : Int64)) q4)), .second] [])) _
    refine XS.iconst X18.here hx rfl (hb hby at_163) ?_
    show Steps p.tables e below (T18.setTop (mkF m 164 #[.val (.long q1), .second, .val (.long q2), .second, .val (.long q3), .second, .val (.long q4), .second, .val (.long (q1 &&& (9223372036854775807 : Int64))), .second, .val (.ref b1), .val (.long (own_gr (-9223372036854775808 : Int64) (own_lag q2 (q1 &&& (9223372036854775807 : Int64))))), .second, .val (.long (own_adv (-9223372036854775808 : Int64) (q1 &&& (9223372036854775807 : Int64)) q2)), .second, .val (.long (own_gr (own_gr (-9223372036854775808 : Int64) (own_lag q2 (q1 &&& (9223372036854775807 : Int64)))) (own_lag q3 (q1 &&& (9223372036854775807 : Int64))))), .second, .val (.long (own_adv (own_adv (-9223372036854775808 : Int64) (q1 &&& (9223372036854775807 : Int64)) q2) (q1 &&& (9223372036854775807 : Int64)) q3)), .second, .val (.long (own_gr (own_gr (own_gr (-9223372036854775808 : Int64) (own_lag q2 (q1 &&& (9223372036854775807 : Int64)))) (own_lag q3 (q1 &&& (9223372036854775807 : Int64)))) (own_lag q4 (q1 &&& (9223372036854775807 : Int64))))), .second, .val (.long (own_adv (own_adv (own_adv (-9223372036854775808 : Int64) (q1 &&& (9223372036854775807 : Int64)) q2) (q1 &&& (9223372036854775807 : Int64)) q3) (q1 &&& (9223372036854775807 : Int64)) q4)), .second] [(.int (1 : Int32))])) _
    exact retN X18 hx (t := .boolean) Bd.returns (by simp) (hb hby at_164) hr
  · show Q_rm0 Z q1 q2 q3 q4 h0 n0 _ T18.heap _
    rw [e18]
    exact ⟨rfl, N18, K17⟩
set_option maxRecDepth 65536 in
set_option maxHeartbeats 40000000 in
theorem comes_1 {Post : Tables → Env → Array Value → State → Outcome → State → Prop} (hpost : ∀ tb e args s v u, (limb_1_1.after args s (.returned v) u = true ∧ limb_1_2.after args s (.returned v) u = true ∧ True) → FrameEnd s (.returned v) u (Jvm.fieldLocs frame_1_writes args s ++ Jvm.arrayLocs frame_1_arrays args s ++ Jvm.staticLocs frame_1_statics s) 16 128 → Post tb e args s (.returned v) u) :
    ArmFor flags0 classFile x code maxLocals ret World_1 tables_1 room_1 Calls_1 rest_1 Pre_1 Post := by
  intro l hfl _ _ p e ha hc hk s m args below hf hA hF happ hP
  obtain ⟨hcalls, hrest, hpre⟩ := hP
  obtain ⟨-, -, -, hnamed, -, -, -, hat⟩ := (Spec.applies_iff hf).mp happ
  obtain ⟨hg, hn⟩ := and_e (Cond.before_iff.mp (show (Jvm.Cond.and given_1 narrow_1).before args s = true from hpre))
  obtain ⟨g1, g2⟩ := and_e hg
  obtain ⟨g3, g4⟩ := and_e g2
  obtain ⟨g5, g6⟩ := and_e g4
  obtain ⟨g7, g8⟩ := and_e g6
  obtain ⟨w0, w1, w2, w3, rfl⟩ : ∃ w0 w1 w2 w3 : Value, args = #[w0, w1, w2, w3] := by
    have hs : args.size = 4 := by simpa [Cond.value, given_1] using g1
    obtain ⟨L⟩ := args
    match L, hs with
    | [w0, w1, w2, w3], _ => exact ⟨w0, w1, w2, w3, rfl⟩
  have hw0 := fun d (hd : d ∈ tables_1) => atoms_spec (ws := Jvm.Cond.code x code maxLocals ret :: tables_1) hat d (List.mem_cons_of_mem _ hd)
  have hfit : Fit s := fun {y c} hc i hi => by
    obtain ⟨ha, rfl⟩ := Array.getElem?_eq_some_iff.mp hc
    have q := List.all_eq_true.mp ((Array.all_eq_true_iff_forall_mem.mp hF) _ (Array.getElem_mem ha)) i (List.mem_range.mpr hi)
    simpa [Array.getElem?_eq_getElem hi] using q
  have hw := hw0
  obtain ⟨i0, ei0⟩ := isL_v g3
  obtain rfl : w0 = (.long i0) := Option.some.inj ei0
  obtain ⟨i1, ei1⟩ := isL_v g5
  obtain rfl : w1 = (.long i1) := Option.some.inj ei1
  obtain ⟨i2, ei2⟩ := isL_v g7
  obtain rfl : w2 = (.long i2) := Option.some.inj ei2
  obtain ⟨i3, ei3⟩ := isL_v g8
  obtain rfl : w3 = (.long i3) := Option.some.inj ei3
  obtain ⟨n, o, h1, h2, h3, _, L, rfl, ⟨rfl, N, -⟩, hq⟩ := rm0 l s _ hw tables_1 i0 i1 i2 i3 s.heap s.heap.size (Nat.le_refl _)  p e ha hc hk s m _ below hf ((Spec.applies_iff_loose hf).mp happ).1 ⟨rfl, State.Warmed39.refl s, rfl⟩ trivial
  refine ⟨n, _, h1, h2, h3, hpost _ _ _ _ _ _ ⟨Cond.after_iff.mpr rfl, Cond.after_iff.mpr (eq_i res_at (Term.int_eval (1)) rfl), trivial⟩ ⟨hq.1, hq.2.1, (hq.2.2.sift fun y hy => Or.inr (N y hy)).mono (by decide) (by decide)⟩⟩
theorem main_1_1 : Claimed_1_1 := comes_1 fun _ _ _ _ _ _ h hF => ⟨h.1, hF⟩
theorem main_1_2 : Claimed_1_2 := comes_1 fun _ _ _ _ _ _ h hF => ⟨h.2.1, hF⟩
end Jvm.Pilot.@@N@@
namespace Jvm.Pilot.@@N@@
open Jvm Jvm.ClassFile Sem Op Lib Jvm.Free Jvm.Stand Jvm.Pilot.@@N@@.Jvm.D
/-! MADE BY PROGRAM (witnessworld.py) out of the Statement's table words and the real class files: 10 classes; the members and pool entries that the words name. The judged class is class 1, her method 3. -/
namespace start1
open Jvm.ClassFile
def u (s : String) : CpInfo := .utf8 (stringToUtf16 s)
/-- a pool by its gaps: so many unusable entries, then the entry; so many at the end -/
def gap : Nat → List CpInfo → List CpInfo
  | 0, r => r
  | n + 1, r => .unusable :: gap n r
def poolList (es : List (Nat × CpInfo)) (last : Nat) : List CpInfo := es.foldr (fun e r => gap e.1 (e.2 :: r)) (gap last [])
def pool (es : List (Nat × CpInfo)) (last : Nat) : Array CpInfo := ⟨poolList es last⟩
def fileOf (pool : Array CpInfo) (this : Nat) (attrs : Array Attribute := #[]) (ms : Array MethodInfo := #[]) (fl : Nat := 33) (sup : Nat := 0) (ifs : Array Nat := #[]) (fds : Array FieldInfo := #[]) : ClassFile where
  minorVersion := 0
  majorVersion := 65
  constantPool := pool
  accessFlags := fl
  thisClass := this
  superClass := sup
  interfaces := ifs
  fields := fds
  methods := ms
  attributes := attrs
def plain (name : String) (sup : Option ClassId) : Class where
  name := name
  kind := .ordinary
  loader := none
  accessFlags := 33
  super := sup
  interfaces := #[]
  cf := none
  fields := #[]
  methods := #[]
  instanceTypes := #[]
  staticTypes := #[]
  resolved := #[]
  callSites := []
  init := .initialized
  statics := none
  mirror := none

def pool0 : Array CpInfo := pool [(5, u "<init>"), (0, u "()V"), (1, .class_ 10), (1, u "java/lang/Object")] 113

def k0c0 : Code := { maxStack := 0, maxLocals := 1, code := object_method_1_code, exceptionTable := #[], attributes := #[] }
def k0m0 : Method := { name := "<init>", desc := "()V", sig := { parameters := [], returnType := none }, accessFlags := 1, code := some k0c0 }
/-- java/lang/Object -/
def k0 : Class := { plain "java/lang/Object" none with
  accessFlags := 33
  interfaces := #[]
  cf := some (fileOf pool0 8 #[] #[{ accessFlags := 1, nameIndex := 5, descriptorIndex := 6, attributes := #[] }] 33 0 #[] #[])
  fields := #[]
  methods := #[k0m0]
  instanceTypes := #[]
  staticTypes := #[]
  resolved := Array.replicate 124 none
  statics := none }

def pool1 : Array CpInfo := pool [(2, .class_ 4), (1, u "java/lang/Object"), (0, u "<init>"), (0, u "()V"), (2, .long 9223372036854775808), (1, .long 9223372036854775807), (1, .class_ 14), (0, u "com/example/casement/casement/time/Watermark"), (0, .methodref 13 16), (0, .nameAndType 5 17), (0, u "(J)V"), (0, .methodref 13 19), (0, .nameAndType 20 21), (0, u "current"), (0, u "()J"), (0, .methodref 23 24), (0, .class_ 25), (0, .nameAndType 26 27), (0, u "com/example/casement/casement/time/WatermarkAdvancePinLaw"), (0, u "lagged"), (0, u "(JJ)J"), (0, .methodref 23 29), (0, .nameAndType 30 27), (0, u "greater"), (0, .methodref 13 32), (0, .nameAndType 33 34), (0, u "advance"), (0, u "(J)J"), (3, u "law"), (0, u "(JJJJ)Z")] 2

def k1m0 : Method := { name := "<init>", desc := "()V", sig := { parameters := [], returnType := none }, accessFlags := 1, code := none }
def k1c1 : Code := { maxStack := 4, maxLocals := 6, code := method_2_code, exceptionTable := #[], attributes := #[] }
def k1m1 : Method := { name := "lagged", desc := "(JJ)J", sig := { parameters := [.long, .long], returnType := some .long }, accessFlags := 10, code := some k1c1 }
def k1c2 : Code := { maxStack := 4, maxLocals := 4, code := method_3_code, exceptionTable := #[], attributes := #[] }
def k1m2 : Method := { name := "greater", desc := "(JJ)J", sig := { parameters := [.long, .long], returnType := some .long }, accessFlags := 10, code := some k1c2 }
def k1c3 : Code := { maxStack := 6, maxLocals := 23, code := code, exceptionTable := #[], attributes := #[] }
def k1m3 : Method := { name := "law", desc := "(JJJJ)Z", sig := { parameters := [.long, .long, .long, .long], returnType := some .boolean }, accessFlags := 9, code := some k1c3 }
/-- com/example/casement/casement/time/WatermarkAdvancePinLaw -/
def k1 : Class := { plain "com/example/casement/casement/time/WatermarkAdvancePinLaw" (some 0) with
  accessFlags := 49
  interfaces := #[]
  cf := some (fileOf pool1 23 #[] #[{ accessFlags := 1, nameIndex := 5, descriptorIndex := 6, attributes := #[] }, { accessFlags := 10, nameIndex := 26, descriptorIndex := 27, attributes := #[] }, { accessFlags := 10, nameIndex := 30, descriptorIndex := 27, attributes := #[] }, { accessFlags := 9, nameIndex := 38, descriptorIndex := 39, attributes := #[] }] 49 2 #[] #[])
  fields := #[]
  methods := #[k1m0, k1m1, k1m2, k1m3]
  instanceTypes := #[]
  staticTypes := #[]
  resolved := Array.replicate 42 none
  statics := none }

def pool2 : Array CpInfo := pool [(1, .methodref 2 3), (0, .class_ 4), (0, .nameAndType 5 6), (0, u "java/lang/Object"), (0, u "<init>"), (0, u "()V"), (2, .long 9223372036854775808), (1, .fieldref 12 13), (0, .class_ 14), (0, .nameAndType 15 16), (0, u "com/example/casement/casement/time/Watermark"), (0, u "current"), (0, u "J"), (9, .fieldref 12 27), (0, .nameAndType 28 16), (0, u "lag"), (0, .methodref 30 31), (0, .class_ 32), (0, .nameAndType 33 34), (0, u "java/lang/Math"), (0, u "max"), (0, u "(JJ)J"), (0, u "(J)V"), (3, u "advance"), (0, u "(J)J"), (0, u "()J")] 17

def k2c0 : Code := { maxStack := 4, maxLocals := 3, code := prog_25_method_1_code, exceptionTable := #[], attributes := #[] }
def k2m0 : Method := { name := "<init>", desc := "(J)V", sig := { parameters := [.long], returnType := none }, accessFlags := 1, code := some k2c0 }
def k2c1 : Code := { maxStack := 6, maxLocals := 5, code := prog_25_method_2_code, exceptionTable := #[], attributes := #[] }
def k2m1 : Method := { name := "advance", desc := "(J)J", sig := { parameters := [.long], returnType := some .long }, accessFlags := 1, code := some k2c1 }
def k2c2 : Code := { maxStack := 2, maxLocals := 1, code := prog_25_method_3_code, exceptionTable := #[], attributes := #[] }
def k2m2 : Method := { name := "current", desc := "()J", sig := { parameters := [], returnType := some .long }, accessFlags := 1, code := some k2c2 }
/-- com/example/casement/casement/time/Watermark -/
def k2 : Class := { plain "com/example/casement/casement/time/Watermark" (some 0) with
  accessFlags := 33
  interfaces := #[]
  cf := some (fileOf pool2 12 #[] #[{ accessFlags := 1, nameIndex := 5, descriptorIndex := 35, attributes := #[] }, { accessFlags := 1, nameIndex := 39, descriptorIndex := 40, attributes := #[] }, { accessFlags := 1, nameIndex := 15, descriptorIndex := 41, attributes := #[] }] 33 2 #[] #[{ accessFlags := 18, nameIndex := 28, descriptorIndex := 16, attributes := #[] }, { accessFlags := 2, nameIndex := 15, descriptorIndex := 16, attributes := #[] }])
  fields := #[{ name := "lag", type := .long, accessFlags := 18, slot := 0, constantValue := 0 }, { name := "current", type := .long, accessFlags := 2, slot := 1, constantValue := 0 }]
  methods := #[k2m0, k2m1, k2m2]
  instanceTypes := #[.long, .long]
  staticTypes := #[]
  resolved := Array.replicate 59 none
  statics := none }

def pool3 : Array CpInfo := pool [(1, .class_ 2), (0, u "java/lang/Math"), (1, .class_ 6), (1, u "java/lang/Object"), (0, u "<init>"), (0, u "()V"), (89, .class_ 100), (1, u "java/lang/Math$RandomNumberGeneratorHolder"), (20, u "(JJ)J"), (50, u "negativeZeroFloatBits"), (0, u "J"), (2, u "negativeZeroDoubleBits"), (21, u "max"), (46, u "$assertionsDisabled"), (0, u "Z"), (91, u "twoToTheDoubleScaleDown"), (0, u "D"), (4, u "twoToTheDoubleScaleUp"), (9, u "E"), (3, u "PI"), (2, u "TAU"), (2, u "DEGREES_TO_RADIANS"), (0, u "RADIANS_TO_DEGREES")] 94

def k3m0 : Method := { name := "<init>", desc := "()V", sig := { parameters := [], returnType := none }, accessFlags := 2, code := none }
def k3c1 : Code := { maxStack := 4, maxLocals := 4, code := jdk_29_method_66_code, exceptionTable := #[], attributes := #[] }
def k3m1 : Method := { name := "max", desc := "(JJ)J", sig := { parameters := [.long, .long], returnType := some .long }, accessFlags := 9, code := some k3c1 }
/-- java/lang/Math -/
def k3 : Class := { plain "java/lang/Math" (some 0) with
  accessFlags := 49
  interfaces := #[]
  cf := some (fileOf pool3 1 #[.nestMembers #[98]] #[{ accessFlags := 2, nameIndex := 7, descriptorIndex := 8, attributes := #[] }, { accessFlags := 9, nameIndex := 198, descriptorIndex := 121, attributes := #[] }] 49 4 #[] #[{ accessFlags := 25, nameIndex := 354, descriptorIndex := 339, attributes := #[] }, { accessFlags := 25, nameIndex := 358, descriptorIndex := 339, attributes := #[] }, { accessFlags := 25, nameIndex := 361, descriptorIndex := 339, attributes := #[] }, { accessFlags := 26, nameIndex := 364, descriptorIndex := 339, attributes := #[] }, { accessFlags := 26, nameIndex := 365, descriptorIndex := 339, attributes := #[] }, { accessFlags := 26, nameIndex := 172, descriptorIndex := 173, attributes := #[] }, { accessFlags := 26, nameIndex := 176, descriptorIndex := 173, attributes := #[] }, { accessFlags := 8, nameIndex := 344, descriptorIndex := 339, attributes := #[] }, { accessFlags := 8, nameIndex := 338, descriptorIndex := 339, attributes := #[] }, { accessFlags := 4120, nameIndex := 245, descriptorIndex := 246, attributes := #[] }])
  fields := #[{ name := "E", type := .double, accessFlags := 25, slot := 0, constantValue := 0 }, { name := "PI", type := .double, accessFlags := 25, slot := 1, constantValue := 0 }, { name := "TAU", type := .double, accessFlags := 25, slot := 2, constantValue := 0 }, { name := "DEGREES_TO_RADIANS", type := .double, accessFlags := 26, slot := 3, constantValue := 0 }, { name := "RADIANS_TO_DEGREES", type := .double, accessFlags := 26, slot := 4, constantValue := 0 }, { name := "negativeZeroFloatBits", type := .long, accessFlags := 26, slot := 5, constantValue := 0 }, { name := "negativeZeroDoubleBits", type := .long, accessFlags := 26, slot := 6, constantValue := 0 }, { name := "twoToTheDoubleScaleUp", type := .double, accessFlags := 8, slot := 7, constantValue := 0 }, { name := "twoToTheDoubleScaleDown", type := .double, accessFlags := 8, slot := 8, constantValue := 0 }, { name := "$assertionsDisabled", type := .boolean, accessFlags := 4120, slot := 9, constantValue := 0 }]
  methods := #[k3m0, k3m1]
  instanceTypes := #[]
  staticTypes := #[.double, .double, .double, .double, .double, .long, .long, .double, .double, .boolean]
  resolved := Array.replicate 460 none
  statics := none }

def pool4 : Array CpInfo := pool [(1, u "java/lang/Cloneable"), (0, .class_ 1), (0, u "java/lang/Object"), (0, .class_ 3)] 3

/-- java/lang/Cloneable -/
def k4 : Class := { plain "java/lang/Cloneable" (some 0) with
  accessFlags := 1537
  interfaces := #[]
  cf := some (fileOf pool4 2 #[] #[] 1537 4 #[] #[])
  fields := #[]
  methods := #[]
  instanceTypes := #[]
  staticTypes := #[]
  resolved := Array.replicate 8 none
  statics := none }

def pool5 : Array CpInfo := pool [(1, u "java/io/Serializable"), (0, .class_ 1), (0, u "java/lang/Object"), (0, .class_ 3)] 3

/-- java/io/Serializable -/
def k5 : Class := { plain "java/io/Serializable" (some 0) with
  accessFlags := 1537
  interfaces := #[]
  cf := some (fileOf pool5 2 #[] #[] 1537 4 #[] #[])
  fields := #[]
  methods := #[]
  instanceTypes := #[]
  staticTypes := #[]
  resolved := Array.replicate 8 none
  statics := none }

/-- the primitive byte -/
def k6 : Class := { plain "byte" none with kind := .primitive 'B', accessFlags := 0x411 }
/-- [B -/
def k7 : Class := { plain "[B" (some 0) with kind := .array 6 .byte, interfaces := #[4, 5], accessFlags := 1041 }

/-- the primitive int -/
def k8 : Class := { plain "int" none with kind := .primitive 'I', accessFlags := 0x411 }
/-- [I -/
def k9 : Class := { plain "[I" (some 0) with kind := .array 8 .int, interfaces := #[4, 5], accessFlags := 1041 }

def heap : Heap := #[]
def classes : Array Class := #[k0, k1, k2, k3, k4, k5, k6, k7, k8, k9]
def interned : List (Array UInt16 × Addr) := []
def slotsUsed : Nat := 0
def theMethod : MethodId := ⟨1, 3⟩
def args0 : Array Value := #[.long 5, .long 6, .long 7, .long 8]
def aboutOver (below : List Frame) : State where
  vm := { classes := classes, interned := interned.toArray }
  heap := heap
  slotsUsed := slotsUsed
  threads := #[{ frames := .invoking theMethod args0 :: below }]
def below0 : List Frame := [.native { method := ⟨0, 0⟩, args := #[] }]
def about1 : State := aboutOver below0
def p0 : Program := .bare "" "" ""
def e0 : Env := launch0.env 0 0 0
theorem w_frames : about1.frames = Frame.invoking theMethod args0 :: below0 := rfl
set_option maxRecDepth 65536 in
theorem w_args : argsFit about1.vm theMethod args0 = true := by decide +kernel
set_option maxRecDepth 65536 in
theorem w_heap : heapFits about1 = true := by decide +kernel
set_option maxRecDepth 65536 in
theorem w_runnable : about1.curStatus? = some .runnable := by decide +kernel
set_option maxRecDepth 65536 in
theorem w_alone : about1.alone = true := by decide +kernel
set_option maxRecDepth 65536 in
theorem w_named : about1.methodNamed? x = some theMethod := by decide +kernel
set_option maxRecDepth 65536 in
theorem w_hears : about1.hears theMethod below0 = true := by decide +kernel
set_option maxRecDepth 65536 in
theorem w_ripe : about1.ripe theMethod args0 below0 = true := by decide +kernel
theorem w_running : about1.status = .running := rfl
set_option maxRecDepth 65536 in
theorem w_room : about1.hasRoom e0.platform room_1 = true :=
  launch0.hasRoom_least _ room_1 (by decide +kernel) (by decide +kernel) (by decide +kernel) (by decide +kernel) (by decide +kernel) (by decide +kernel)
theorem allAtoms_all (ts : List Jvm.Cond) (a : Array Jvm.Value) (st : Jvm.State) : (allAtoms ts).before a st = ts.all (fun c => c.before a st) := by
  induction ts with
  | nil => rfl
  | cons c t ih =>
    show (Jvm.Cond.and c (allAtoms t)).before a st = _
    rw [Jvm.Cond.before_and, ih, List.all_cons]
def words1 : List Jvm.Cond := Jvm.Cond.code x code maxLocals ret :: tables_1
/-- a 'code' word, met by the world's own term for the bytes: nothing is compared byte by byte -/
theorem code_word {y : MethodName} {bytes : ByteArray} {mx : Nat} {rt : Option FieldType} {a : Array Value} {s : State} {m : MethodId} {meth : Method} {c : Code} (h1 : s.methodNamed? y = some m) (h2 : s.vm.method? m = some meth) (h3 : meth.code = some c) (h4 : c.code = bytes)
    (h5 : (c.maxLocals == mx && c.exceptionTable.isEmpty && decide (c.maxStack ≤ mostOperands) && decide (meth.sig.returnType = rt) && !meth.locks && decide (parseMethodDescriptor y.desc = some meth.sig)) = true) : (Jvm.Cond.code y bytes mx rt).before a s = true := by
  simp only [Bool.and_eq_true, beq_iff_eq, Bool.not_eq_true', decide_eq_true_eq] at h5
  obtain ⟨⟨⟨⟨⟨g1, g2⟩, g3⟩, g4⟩, g5⟩, g6⟩ := h5
  simp [Cond.before, Cond.holds, Cond.value, h1, h2, h3, h4, g1, g2, g3, g4, g5, g6]
def isCode : Jvm.Cond → Bool
  | .code _ _ _ _ => true
  | _ => false
theorem all_split {L : List Jvm.Cond} {P : Jvm.Cond → Bool} (h1 : L.all (fun c => isCode c || P c) = true) (h2 : ∀ c ∈ L.filter isCode, P c = true) : L.all P = true := by
  refine List.all_eq_true.mpr fun c hc => ?_
  have h := List.all_eq_true.mp h1 c hc
  rcases Bool.eq_false_or_eq_true (isCode c) with hi | hi
  · exact h2 c (List.mem_filter.mpr ⟨hc, hi⟩)
  · simpa [hi] using h
set_option maxRecDepth 65536 in
theorem w_c0 : (Jvm.Cond.code x code maxLocals ret).before args0 about1 = true := code_word (m := ⟨1, 3⟩) (meth := k1m3) (c := k1c3) (by decide +kernel) rfl rfl rfl (by decide +kernel)
set_option maxRecDepth 65536 in
theorem w_c1 : (Jvm.Cond.code ({ cls := "com/example/casement/casement/time/Watermark", name := "<init>", desc := "(J)V" } : Jvm.MethodName) prog_25_method_1_code (3 : Nat) (Option.none : Option Jvm.ClassFile.FieldType)).before args0 about1 = true := code_word (m := ⟨2, 0⟩) (meth := k2m0) (c := k2c0) (by decide +kernel) rfl rfl rfl (by decide +kernel)
set_option maxRecDepth 65536 in
theorem w_c2 : (Jvm.Cond.code ({ cls := "java/lang/Object", name := "<init>", desc := "()V" } : Jvm.MethodName) object_method_1_code (1 : Nat) (Option.none : Option Jvm.ClassFile.FieldType)).before args0 about1 = true := code_word (m := ⟨0, 0⟩) (meth := k0m0) (c := k0c0) (by decide +kernel) rfl rfl rfl (by decide +kernel)
set_option maxRecDepth 65536 in
theorem w_c3 : (Jvm.Cond.code ({ cls := "com/example/casement/casement/time/Watermark", name := "current", desc := "()J" } : Jvm.MethodName) prog_25_method_3_code (1 : Nat) (Option.some Jvm.ClassFile.FieldType.long)).before args0 about1 = true := code_word (m := ⟨2, 2⟩) (meth := k2m2) (c := k2c2) (by decide +kernel) rfl rfl rfl (by decide +kernel)
set_option maxRecDepth 65536 in
theorem w_c4 : (Jvm.Cond.code ({ cls := "com/example/casement/casement/time/WatermarkAdvancePinLaw", name := "lagged", desc := "(JJ)J" } : Jvm.MethodName) method_2_code (6 : Nat) (Option.some Jvm.ClassFile.FieldType.long)).before args0 about1 = true := code_word (m := ⟨1, 1⟩) (meth := k1m1) (c := k1c1) (by decide +kernel) rfl rfl rfl (by decide +kernel)
set_option maxRecDepth 65536 in
theorem w_c5 : (Jvm.Cond.code ({ cls := "com/example/casement/casement/time/WatermarkAdvancePinLaw", name := "greater", desc := "(JJ)J" } : Jvm.MethodName) method_3_code (4 : Nat) (Option.some Jvm.ClassFile.FieldType.long)).before args0 about1 = true := code_word (m := ⟨1, 2⟩) (meth := k1m2) (c := k1c2) (by decide +kernel) rfl rfl rfl (by decide +kernel)
set_option maxRecDepth 65536 in
theorem w_c6 : (Jvm.Cond.code ({ cls := "com/example/casement/casement/time/Watermark", name := "advance", desc := "(J)J" } : Jvm.MethodName) prog_25_method_2_code (5 : Nat) (Option.some Jvm.ClassFile.FieldType.long)).before args0 about1 = true := code_word (m := ⟨2, 1⟩) (meth := k2m1) (c := k2c1) (by decide +kernel) rfl rfl rfl (by decide +kernel)
set_option maxRecDepth 65536 in
theorem w_c7 : (Jvm.Cond.code ({ cls := "java/lang/Math", name := "max", desc := "(JJ)J" } : Jvm.MethodName) jdk_29_method_66_code (4 : Nat) (Option.some Jvm.ClassFile.FieldType.long)).before args0 about1 = true := code_word (m := ⟨3, 1⟩) (meth := k3m1) (c := k3c1) (by decide +kernel) rfl rfl rfl (by decide +kernel)
def codes1 : List Jvm.Cond := [Jvm.Cond.code x code maxLocals ret, Jvm.Cond.code ({ cls := "com/example/casement/casement/time/Watermark", name := "<init>", desc := "(J)V" } : Jvm.MethodName) prog_25_method_1_code (3 : Nat) (Option.none : Option Jvm.ClassFile.FieldType), Jvm.Cond.code ({ cls := "java/lang/Object", name := "<init>", desc := "()V" } : Jvm.MethodName) object_method_1_code (1 : Nat) (Option.none : Option Jvm.ClassFile.FieldType), Jvm.Cond.code ({ cls := "com/example/casement/casement/time/Watermark", name := "current", desc := "()J" } : Jvm.MethodName) prog_25_method_3_code (1 : Nat) (Option.some Jvm.ClassFile.FieldType.long), Jvm.Cond.code ({ cls := "com/example/casement/casement/time/WatermarkAdvancePinLaw", name := "lagged", desc := "(JJ)J" } : Jvm.MethodName) method_2_code (6 : Nat) (Option.some Jvm.ClassFile.FieldType.long), Jvm.Cond.code ({ cls := "com/example/casement/casement/time/WatermarkAdvancePinLaw", name := "greater", desc := "(JJ)J" } : Jvm.MethodName) method_3_code (4 : Nat) (Option.some Jvm.ClassFile.FieldType.long), Jvm.Cond.code ({ cls := "com/example/casement/casement/time/Watermark", name := "advance", desc := "(J)J" } : Jvm.MethodName) prog_25_method_2_code (5 : Nat) (Option.some Jvm.ClassFile.FieldType.long), Jvm.Cond.code ({ cls := "java/lang/Math", name := "max", desc := "(JJ)J" } : Jvm.MethodName) jdk_29_method_66_code (4 : Nat) (Option.some Jvm.ClassFile.FieldType.long)]
set_option maxRecDepth 65536 in
theorem codes_eq : words1.filter isCode = codes1 := rfl
theorem w_codes : ∀ c ∈ words1.filter isCode, c.before args0 about1 = true := by
  rw [codes_eq]
  intro c hc
  simp only [codes1, List.mem_cons, List.not_mem_nil, or_false] at hc
  rcases hc with rfl | rfl | rfl | rfl | rfl | rfl | rfl | rfl
  · exact w_c0
  · exact w_c1
  · exact w_c2
  · exact w_c3
  · exact w_c4
  · exact w_c5
  · exact w_c6
  · exact w_c7
set_option maxRecDepth 65536 in
theorem w_t1 : (words1.take 24).all (fun c => isCode c || c.before args0 about1) = true := by decide +kernel
set_option maxRecDepth 65536 in
theorem w_t2 : (words1.drop 24).all (fun c => isCode c || c.before args0 about1) = true := by decide +kernel
theorem w_tables : (allAtoms (Jvm.Cond.code x code maxLocals ret :: tables_1)).before args0 about1 = true := by
  rw [allAtoms_all]
  show words1.all (fun c => c.before args0 about1) = true
  refine all_split ?_ w_codes
  rw [← List.take_append_drop 24 words1, List.all_append, w_t1, w_t2]
  rfl
set_option maxRecDepth 65536 in
theorem w_case : (Jvm.Cond.and given_1 narrow_1).before args0 about1 = true := by decide +kernel
theorem w_applies : (headSpec (Jvm.Cond.code x code maxLocals ret :: tables_1) room_1).applies x e0.platform about1 = true :=
  (Spec.applies_iff w_frames).mpr ⟨w_running, w_runnable, w_alone, w_named, w_hears, w_ripe, w_room, w_tables⟩
theorem atStart : AtStart classFile x code maxLocals ret World_1 tables_1 room_1 Calls_1 rest_1 Pre_1 launch0 p0 e0 about1 theMethod args0 below0 :=
  ⟨lists_1, trivial, launch0.admits_env _ _ _, launch0.least_env, fairChoices_fair.cas, fairChoices_fair.clock, w_frames, w_args, w_heap, w_applies, trivial, trivial, w_case⟩
end start1
theorem witness_1 : WitnessClaimed_1 := ⟨start1.p0, start1.e0, start1.about1, start1.theMethod, start1.args0, start1.below0, start1.atStart⟩
end Jvm.Pilot.@@N@@
