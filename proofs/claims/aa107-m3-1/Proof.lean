import JvmDerived
import JvmDerived.Pilot.@@N@@Statement
import JvmDerived.Pilot.@@N@@Code
set_option linter.unusedVariables false
set_option linter.unusedSimpArgs false
namespace Jvm.RoadKit
open Sem ClassFile Op Lib Jvm.Stand Jvm.Free Jvm.LawKit
section New
variable {p : Program} {l : Launch} {e : Env} {R : Room} {s : State} {m : MethodId} {args : Array Value} {below : List Frame} {meth : Method} {c : Code} {T : State} {locs : List Loc} {cells slots : Nat}
theorem retI (X : Stand p l e R s m args below meth c T locs cells slots) (hx : p.tables.exec = Jvm.exec) {pc : Nat} {Ls : Array Slot} {z : Int32} {rest : List Value} (hret : meth.sig.returnType = some .int) (hd : decode c.code pc = .ok (.ireturn, 1)) {fs : List Frame}
    (hl : ∀ (f : JFrame) (acts : List Action), f.method = m → f.locked = none → f.entered = [] → (doReturn e (T.setTop f) acts (some (.int z))).1 = T.setFrames fs) : Steps p.tables e below (T.setTop (mkF m pc Ls (.int z :: rest))) (T.setFrames fs) := by
  have hm' : T.vm.method? m = some meth := X.method'
  have hn : narrow .int (.int z) = .int z := rfl
  show Steps p.tables e below (T.setTop { method := m, pc := pc, locals := Ls, stack := _ :: rest, locked := none }) _
  jvm_step X.here [X.here.top, hx, hd, hm', hret, hn]
  first | (intro acts; rw [hl _ acts rfl rfl rfl]) | rw [hl _ _ rfl rfl rfl]
  exact Steps.refl _
theorem own_lremM {g : JFrame} {target : State} (X : Stand p l e R s m args below meth c T locs cells slots) (hx : p.tables.exec = Jvm.exec) (hg : g.method = m) {x y : Int64} {rest : List Value} (hd : decode c.code g.pc = .ok (.lrem, 1)) (hs : g.stack = .long y :: .long x :: rest) (hy : y ≠ 0)
    (hr : Steps p.tables e below (T.setTop { g with pc := g.pc + 1, stack := .long (x % y) :: rest }) target) : Steps p.tables e below (T.setTop g) target := by
  have q : x - x / y * y = x % y := lrem_mod x y
  exact XS.lrem X.here hx hg hd hs hy (by rw [q]; exact hr)
theorem own_selP {Z : State} {a0 : Array Value} {C : String} {n : Nat} {y : MethodName} (hC : y.cls = C) (wi : (Cond.instantiable C n).before a0 Z = true) (wm : (Cond.instanceMethod y).before a0 Z = true) (wp : (Cond.privateMethod y).before a0 Z = true) (hy : y.cls ≠ "java/lang/invoke/MethodHandle" ∧ y.cls ≠ "java/lang/invoke/VarHandle") : (Cond.selects y.cls y y).before a0 Z = true := by
  obtain ⟨c, k, h1, h2, h3, h4, -⟩ := Cond.instantiable_spec wi
  simp only [Bool.or_eq_false_iff] at h4
  subst hC
  exact selects_self_of_private h1 h2 h4.1 (Cond.privateMethod_at wp) wm hy
end New
end Jvm.RoadKit
namespace Jvm.Pilot.@@N@@
open Jvm Jvm.ClassFile Sem Op Lib Jvm.Free Jvm.Stand Jvm.LawKit Jvm.RoadKit Bundle Jvm.Pilot.@@N@@.Jvm.D
def own_fd (a b : Int64) : Int64 := if (a ^^^ b) < (0 : Int64) then (if ((a / b) * b) = a then (a / b) else ((a / b) - (1 : Int64))) else (a / b)
theorem own_len {s : State} {args : Array Value} {t : Term} {a : Addr} {c : Cell} {ty : FieldType} {n : Int32} (ev : t.eval args s none [] s = some (.ref a)) (A : Arr s s.heap a c ty) (h : (Jvm.Cond.eq (Term.length t) (Term.int n)).value args s none s [] = some true) : c.slots.size < 2 ^ 31 ∧ c.slots.size.toInt32 = n := by
  obtain ⟨x, y, h1, h2, h3, h4⟩ := cmp_v (Or.inl h)
  have e2 : y = .int n := (Option.some.inj h2).symm
  subst e2
  obtain ⟨z, rfl⟩ := h4
  have q : z = n := by
    simp only [Cond.value, h1, h2] at h; simpa using h
  subst q
  have hat : s.arrayAt? a = some c := A.fin (Vm.Alike.refl _)
  simp only [Term.eval, ev, hat, Option.bind_eq_bind, Option.bind_some] at h1
  split at h1
  · rename_i g3
    exact ⟨g3, Value.int.inj (Option.some.inj h1)⟩
  · cases h1
theorem own_size {c : Cell} {n : Int32} (h : c.slots.size < 2 ^ 31 ∧ c.slots.size.toInt32 = n) : (c.slots.size : Int) = n.toInt := by
  rw [← h.2]; exact (Int32.toInt_ofNat_of_lt h.1).symm
theorem own_len0 {s : State} {args : Array Value} {t : Term} {a : Addr} {c : Cell} {ty : FieldType} (hf : Fit s) (ev : t.eval args s none [] s = some (.ref a)) (A : Arr s s.heap a c ty) (h : (Jvm.Cond.eq (Term.length t) (Term.int (0 : Int32))).value args s none s [] = some true) : Arv s s.heap a c.cls ty (0 : Int32) [] (defaultValue ty) := by
  have q := own_len ev A h
  have hz : c.slots.size = 0 := by
    have e := own_size q
    have k0 : (0 : Int32).toInt = 0 := by decide
    omega
  exact Arv.start hf A q.1 q.2 (by decide) rfl trivial
def own_em (t : Int64) : Int32 := if t = (0 : Int64) then (1 : Int32) else (0 : Int32)
def own_end (sw t g : Int64) : Int64 := if t < ((sw + (1 : Int64)) * g) then ((sw + (1 : Int64)) * g) else (9223372036854775807 : Int64)
def own_mx (a b : Int64) : Int64 := if a < b then b else a
theorem own_nov (a : Int64) : ¬ (((0 : Int64) ^^^ ((0 : Int64) + a)) &&& (a ^^^ ((0 : Int64) + a))) < (0 : Int64) := by
  have e : (0 : Int64) + a = a := Int64.zero_add a
  rw [e]
  have e2 : a ^^^ a = 0 := Int64.xor_self
  rw [e2, Int64.and_zero]
  decide
theorem own_gne (x : Int64) : (if (x &&& (9223372036854775807 : Int64)) = (0 : Int64) then (1 : Int64) else (x &&& (9223372036854775807 : Int64))) ≠ (0 : Int64) := by
  split
  · decide
  · assumption
theorem own_a0 (p : Int64) : 1 ≤ ((p &&& (4611686018427387903 : Int64)) + (1 : Int64)).toInt ∧ ((p &&& (4611686018427387903 : Int64)) + (1 : Int64)).toInt ≤ 4611686018427387904 := by
  have h := c_maskL p 4611686018427387903 62 (by decide) (by decide)
  have e := c_ladd (p &&& 4611686018427387903) 1
  have k1 : (1 : Int64).toInt = 1 := by decide
  have r := rng64 ((p &&& 4611686018427387903) + 1)
  have h2 : (2 ^ 62 : Nat) = 4611686018427387904 := by decide
  rw [h2] at h
  omega
theorem own_room {a : Int64} (h : 1 ≤ a.toInt ∧ a.toInt ≤ 4611686018427387904) : ((9223372036854775807 : Int64) - a).toInt = 9223372036854775807 - a.toInt := by
  have e := c_lsub 9223372036854775807 a
  have k1 : (9223372036854775807 : Int64).toInt = 9223372036854775807 := by decide
  have r := rng64 ((9223372036854775807 : Int64) - a)
  omega
theorem own_roomnz {a : Int64} (h : 1 ≤ a.toInt ∧ a.toInt ≤ 4611686018427387904) : ((9223372036854775807 : Int64) - a) ≠ (0 : Int64) := by
  intro q
  have e := own_room h
  rw [q] at e
  have k0 : (0 : Int64).toInt = 0 := by decide
  omega
theorem own_nz {a q : Int64} (h : 1 ≤ a.toInt ∧ a.toInt ≤ 4611686018427387904) : (((0 : Int64) + a) + (((q &&& (9223372036854775807 : Int64)) % ((9223372036854775807 : Int64) - a)) + (1 : Int64))) ≠ (0 : Int64) := by
  intro hq
  have e := own_room h
  have m := (c_andSL q 9223372036854775807).2.2 (by decide)
  have t := Int64.toInt_mod (q &&& 9223372036854775807) ((9223372036854775807 : Int64) - a)
  rw [Int.tmod_eq_emod_of_nonneg m, e] at t
  have t1 := Int.emod_nonneg (q &&& 9223372036854775807).toInt (b := 9223372036854775807 - a.toInt) (by omega)
  have t2 := Int.emod_lt_of_pos (q &&& 9223372036854775807).toInt (b := 9223372036854775807 - a.toInt) (by omega)
  rw [← t] at t1 t2
  have k1 : (1 : Int64).toInt = 1 := by decide
  have k0 : (0 : Int64).toInt = 0 := by decide
  have e1 := c_ladd ((q &&& 9223372036854775807) % ((9223372036854775807 : Int64) - a)) 1
  have e2 := c_ladd 0 a
  have e3 := c_ladd ((0 : Int64) + a) (((q &&& 9223372036854775807) % ((9223372036854775807 : Int64) - a)) + 1)
  have r1 := rng64 (((q &&& 9223372036854775807) % ((9223372036854775807 : Int64) - a)) + 1)
  have r2 := rng64 ((0 : Int64) + a)
  rw [hq] at e3
  omega

theorem kw0 {Z : State} {a0 : Array Value} (hw : ∀ d ∈ tables_1, d.before a0 Z = true) : (Jvm.Cond.constantLong "com/example/okno/okno/AdmissionLogAddToNewestPinLaw" (9 : Nat) (9223372036854775807 : Int64)).before a0 Z = true := hw _ (List.mem_of_getElem? (i := 0) rfl)
theorem kw1 {Z : State} {a0 : Array Value} (hw : ∀ d ∈ tables_1, d.before a0 Z = true) : (Jvm.Cond.constantLong "com/example/okno/okno/AdmissionLogAddToNewestPinLaw" (11 : Nat) (4611686018427387903 : Int64)).before a0 Z = true := hw _ (List.mem_of_getElem? (i := 1) rfl)
theorem kw2 {Z : State} {a0 : Array Value} (hw : ∀ d ∈ tables_1, d.before a0 Z = true) : (Jvm.Cond.classLink "com/example/okno/okno/AdmissionLogAddToNewestPinLaw" (13 : Nat) "com/example/okno/okno/AdmissionLog").before a0 Z = true := hw _ (List.mem_of_getElem? (i := 2) rfl)
theorem kw3 {Z : State} {a0 : Array Value} (hw : ∀ d ∈ tables_1, d.before a0 Z = true) : (Jvm.Cond.instantiable "com/example/okno/okno/AdmissionLog" (18 : Nat)).before a0 Z = true := hw _ (List.mem_of_getElem? (i := 3) rfl)
theorem kw4 {Z : State} {a0 : Array Value} (hw : ∀ d ∈ tables_1, d.before a0 Z = true) : (Jvm.Cond.initialized "com/example/okno/okno/AdmissionLog").before a0 Z = true := hw _ (List.mem_of_getElem? (i := 4) rfl)
theorem kw5 {Z : State} {a0 : Array Value} (hw : ∀ d ∈ tables_1, d.before a0 Z = true) : (Jvm.Cond.methodLink "com/example/okno/okno/AdmissionLogAddToNewestPinLaw" (15 : Nat) ({ cls := "com/example/okno/okno/AdmissionLog", name := "<init>", desc := "(JI)V" } : Jvm.MethodName)).before a0 Z = true := hw _ (List.mem_of_getElem? (i := 5) rfl)
theorem kw6 {Z : State} {a0 : Array Value} (hw : ∀ d ∈ tables_1, d.before a0 Z = true) : (Jvm.Cond.instanceMethod ({ cls := "com/example/okno/okno/AdmissionLog", name := "<init>", desc := "(JI)V" } : Jvm.MethodName)).before a0 Z = true := hw _ (List.mem_of_getElem? (i := 6) rfl)
theorem kw7 {Z : State} {a0 : Array Value} (hw : ∀ d ∈ tables_1, d.before a0 Z = true) : (Jvm.Cond.code ({ cls := "com/example/okno/okno/AdmissionLog", name := "<init>", desc := "(JI)V" } : Jvm.MethodName) prog_2_method_1_code (4 : Nat) (Option.none : Option Jvm.ClassFile.FieldType)).before a0 Z = true := hw _ (List.mem_of_getElem? (i := 7) rfl)
theorem kw8 {Z : State} {a0 : Array Value} (hw : ∀ d ∈ tables_1, d.before a0 Z = true) : (Jvm.Cond.methodLink "com/example/okno/okno/AdmissionLog" (1 : Nat) ({ cls := "com/example/okno/okno/KeyTurn", name := "<init>", desc := "()V" } : Jvm.MethodName)).before a0 Z = true := hw _ (List.mem_of_getElem? (i := 8) rfl)
theorem kw9 {Z : State} {a0 : Array Value} (hw : ∀ d ∈ tables_1, d.before a0 Z = true) : (Jvm.Cond.instanceMethod ({ cls := "com/example/okno/okno/KeyTurn", name := "<init>", desc := "()V" } : Jvm.MethodName)).before a0 Z = true := hw _ (List.mem_of_getElem? (i := 9) rfl)
theorem kw11 {Z : State} {a0 : Array Value} (hw : ∀ d ∈ tables_1, d.before a0 Z = true) : (Jvm.Cond.initialized "com/example/okno/okno/KeyTurn").before a0 Z = true := hw _ (List.mem_of_getElem? (i := 11) rfl)
theorem kw12 {Z : State} {a0 : Array Value} (hw : ∀ d ∈ tables_1, d.before a0 Z = true) : (Jvm.Cond.code ({ cls := "com/example/okno/okno/KeyTurn", name := "<init>", desc := "()V" } : Jvm.MethodName) prog_8_method_1_code (1 : Nat) (Option.none : Option Jvm.ClassFile.FieldType)).before a0 Z = true := hw _ (List.mem_of_getElem? (i := 12) rfl)
theorem kw13 {Z : State} {a0 : Array Value} (hw : ∀ d ∈ tables_1, d.before a0 Z = true) : (Jvm.Cond.methodLink "com/example/okno/okno/KeyTurn" (1 : Nat) ({ cls := "java/lang/Object", name := "<init>", desc := "()V" } : Jvm.MethodName)).before a0 Z = true := hw _ (List.mem_of_getElem? (i := 13) rfl)
theorem kw14 {Z : State} {a0 : Array Value} (hw : ∀ d ∈ tables_1, d.before a0 Z = true) : (Jvm.Cond.instanceMethod ({ cls := "java/lang/Object", name := "<init>", desc := "()V" } : Jvm.MethodName)).before a0 Z = true := hw _ (List.mem_of_getElem? (i := 14) rfl)
theorem kw15 {Z : State} {a0 : Array Value} (hw : ∀ d ∈ tables_1, d.before a0 Z = true) : (Jvm.Cond.code ({ cls := "java/lang/Object", name := "<init>", desc := "()V" } : Jvm.MethodName) object_method_1_code (1 : Nat) (Option.none : Option Jvm.ClassFile.FieldType)).before a0 Z = true := hw _ (List.mem_of_getElem? (i := 15) rfl)
theorem kw16 {Z : State} {a0 : Array Value} (hw : ∀ d ∈ tables_1, d.before a0 Z = true) : (Jvm.Cond.constantLong "com/example/okno/okno/AdmissionLog" (9 : Nat) (-9223372036854775808 : Int64)).before a0 Z = true := hw _ (List.mem_of_getElem? (i := 16) rfl)
theorem kw17 {Z : State} {a0 : Array Value} (hw : ∀ d ∈ tables_1, d.before a0 Z = true) : (Jvm.Cond.fieldLink "com/example/okno/okno/AdmissionLog" (11 : Nat) "com/example/okno/okno/AdmissionLog" "newest" "J").before a0 Z = true := hw _ (List.mem_of_getElem? (i := 17) rfl)
theorem kw18 {Z : State} {a0 : Array Value} (hw : ∀ d ∈ tables_1, d.before a0 Z = true) : (Jvm.Cond.lays "com/example/okno/okno/AdmissionLog" "com/example/okno/okno/AdmissionLog" "newest" "J").before a0 Z = true := hw _ (List.mem_of_getElem? (i := 18) rfl)
theorem kw19 {Z : State} {a0 : Array Value} (hw : ∀ d ∈ tables_1, d.before a0 Z = true) : (Jvm.Cond.fieldLink "com/example/okno/okno/AdmissionLog" (17 : Nat) "com/example/okno/okno/AdmissionLog" "NO_ENTRIES" "[J").before a0 Z = true := hw _ (List.mem_of_getElem? (i := 19) rfl)
theorem kw20 {Z : State} {a0 : Array Value} (hw : ∀ d ∈ tables_1, d.before a0 Z = true) : (Jvm.Cond.laysStatic "com/example/okno/okno/AdmissionLog" "NO_ENTRIES" "[J").before a0 Z = true := hw _ (List.mem_of_getElem? (i := 20) rfl)
theorem kw21 {Z : State} {a0 : Array Value} (hw : ∀ d ∈ tables_1, d.before a0 Z = true) : (Jvm.Cond.fieldLink "com/example/okno/okno/AdmissionLog" (21 : Nat) "com/example/okno/okno/AdmissionLog" "subWindows" "[J").before a0 Z = true := hw _ (List.mem_of_getElem? (i := 21) rfl)
theorem kw22 {Z : State} {a0 : Array Value} (hw : ∀ d ∈ tables_1, d.before a0 Z = true) : (Jvm.Cond.lays "com/example/okno/okno/AdmissionLog" "com/example/okno/okno/AdmissionLog" "subWindows" "[J").before a0 Z = true := hw _ (List.mem_of_getElem? (i := 22) rfl)
theorem kw23 {Z : State} {a0 : Array Value} (hw : ∀ d ∈ tables_1, d.before a0 Z = true) : (Jvm.Cond.fieldLink "com/example/okno/okno/AdmissionLog" (24 : Nat) "com/example/okno/okno/AdmissionLog" "amounts" "[J").before a0 Z = true := hw _ (List.mem_of_getElem? (i := 23) rfl)
theorem kw24 {Z : State} {a0 : Array Value} (hw : ∀ d ∈ tables_1, d.before a0 Z = true) : (Jvm.Cond.lays "com/example/okno/okno/AdmissionLog" "com/example/okno/okno/AdmissionLog" "amounts" "[J").before a0 Z = true := hw _ (List.mem_of_getElem? (i := 24) rfl)
theorem kw25 {Z : State} {a0 : Array Value} (hw : ∀ d ∈ tables_1, d.before a0 Z = true) : (Jvm.Cond.constantLong "com/example/okno/okno/AdmissionLog" (27 : Nat) (9223372036854775807 : Int64)).before a0 Z = true := hw _ (List.mem_of_getElem? (i := 25) rfl)
theorem kw26 {Z : State} {a0 : Array Value} (hw : ∀ d ∈ tables_1, d.before a0 Z = true) : (Jvm.Cond.fieldLink "com/example/okno/okno/AdmissionLog" (29 : Nat) "com/example/okno/okno/AdmissionLog" "oldestSubWindow" "J").before a0 Z = true := hw _ (List.mem_of_getElem? (i := 26) rfl)
theorem kw27 {Z : State} {a0 : Array Value} (hw : ∀ d ∈ tables_1, d.before a0 Z = true) : (Jvm.Cond.lays "com/example/okno/okno/AdmissionLog" "com/example/okno/okno/AdmissionLog" "oldestSubWindow" "J").before a0 Z = true := hw _ (List.mem_of_getElem? (i := 27) rfl)
theorem kw28 {Z : State} {a0 : Array Value} (hw : ∀ d ∈ tables_1, d.before a0 Z = true) : (Jvm.Cond.fieldLink "com/example/okno/okno/AdmissionLog" (32 : Nat) "com/example/okno/okno/AdmissionLog" "lastTime" "J").before a0 Z = true := hw _ (List.mem_of_getElem? (i := 28) rfl)
theorem kw29 {Z : State} {a0 : Array Value} (hw : ∀ d ∈ tables_1, d.before a0 Z = true) : (Jvm.Cond.lays "com/example/okno/okno/AdmissionLog" "com/example/okno/okno/AdmissionLog" "lastTime" "J").before a0 Z = true := hw _ (List.mem_of_getElem? (i := 29) rfl)
theorem kw30 {Z : State} {a0 : Array Value} (hw : ∀ d ∈ tables_1, d.before a0 Z = true) : (Jvm.Cond.fieldLink "com/example/okno/okno/AdmissionLog" (35 : Nat) "com/example/okno/okno/AdmissionLog" "subWindowMillis" "J").before a0 Z = true := hw _ (List.mem_of_getElem? (i := 30) rfl)
theorem kw31 {Z : State} {a0 : Array Value} (hw : ∀ d ∈ tables_1, d.before a0 Z = true) : (Jvm.Cond.laysFinal "com/example/okno/okno/AdmissionLog" "com/example/okno/okno/AdmissionLog" "subWindowMillis" "J").before a0 Z = true := hw _ (List.mem_of_getElem? (i := 31) rfl)
theorem kw32 {Z : State} {a0 : Array Value} (hw : ∀ d ∈ tables_1, d.before a0 Z = true) : (Jvm.Cond.methodLink "com/example/okno/okno/AdmissionLog" (38 : Nat) ({ cls := "java/lang/Math", name := "floorDiv", desc := "(JJ)J" } : Jvm.MethodName)).before a0 Z = true := hw _ (List.mem_of_getElem? (i := 32) rfl)
theorem kw33 {Z : State} {a0 : Array Value} (hw : ∀ d ∈ tables_1, d.before a0 Z = true) : (Jvm.Cond.static ({ cls := "java/lang/Math", name := "floorDiv", desc := "(JJ)J" } : Jvm.MethodName)).before a0 Z = true := hw _ (List.mem_of_getElem? (i := 33) rfl)
theorem kw34 {Z : State} {a0 : Array Value} (hw : ∀ d ∈ tables_1, d.before a0 Z = true) : (Jvm.Cond.initialized "java/lang/Math").before a0 Z = true := hw _ (List.mem_of_getElem? (i := 34) rfl)
theorem kw35 {Z : State} {a0 : Array Value} (hw : ∀ d ∈ tables_1, d.before a0 Z = true) : (Jvm.Cond.code ({ cls := "java/lang/Math", name := "floorDiv", desc := "(JJ)J" } : Jvm.MethodName) jdk_29_method_49_code (6 : Nat) (Option.some Jvm.ClassFile.FieldType.long)).before a0 Z = true := hw _ (List.mem_of_getElem? (i := 35) rfl)
theorem kw36 {Z : State} {a0 : Array Value} (hw : ∀ d ∈ tables_1, d.before a0 Z = true) : (Jvm.Cond.fieldLink "com/example/okno/okno/AdmissionLog" (44 : Nat) "com/example/okno/okno/AdmissionLog" "lastSubWindow" "J").before a0 Z = true := hw _ (List.mem_of_getElem? (i := 36) rfl)
theorem kw37 {Z : State} {a0 : Array Value} (hw : ∀ d ∈ tables_1, d.before a0 Z = true) : (Jvm.Cond.lays "com/example/okno/okno/AdmissionLog" "com/example/okno/okno/AdmissionLog" "lastSubWindow" "J").before a0 Z = true := hw _ (List.mem_of_getElem? (i := 37) rfl)
theorem kw38 {Z : State} {a0 : Array Value} (hw : ∀ d ∈ tables_1, d.before a0 Z = true) : (Jvm.Cond.fieldLink "com/example/okno/okno/AdmissionLog" (47 : Nat) "com/example/okno/okno/AdmissionLog" "shorterWindows" "[J").before a0 Z = true := hw _ (List.mem_of_getElem? (i := 38) rfl)
theorem kw39 {Z : State} {a0 : Array Value} (hw : ∀ d ∈ tables_1, d.before a0 Z = true) : (Jvm.Cond.laysFinal "com/example/okno/okno/AdmissionLog" "com/example/okno/okno/AdmissionLog" "shorterWindows" "[J").before a0 Z = true := hw _ (List.mem_of_getElem? (i := 39) rfl)
theorem kw40 {Z : State} {a0 : Array Value} (hw : ∀ d ∈ tables_1, d.before a0 Z = true) : (Jvm.Cond.methodLink "com/example/okno/okno/AdmissionLogAddToNewestPinLaw" (18 : Nat) ({ cls := "com/example/okno/okno/AdmissionLog", name := "append", desc := "(JJ)V" } : Jvm.MethodName)).before a0 Z = true := hw _ (List.mem_of_getElem? (i := 40) rfl)
theorem kw41 {Z : State} {a0 : Array Value} (hw : ∀ d ∈ tables_1, d.before a0 Z = true) : (Jvm.Cond.declares ({ cls := "com/example/okno/okno/AdmissionLog", name := "append", desc := "(JJ)V" } : Jvm.MethodName)).before a0 Z = true := hw _ (List.mem_of_getElem? (i := 41) rfl)
theorem kw42 {Z : State} {a0 : Array Value} (hw : ∀ d ∈ tables_1, d.before a0 Z = true) : (Jvm.Cond.instanceMethod ({ cls := "com/example/okno/okno/AdmissionLog", name := "append", desc := "(JJ)V" } : Jvm.MethodName)).before a0 Z = true := hw _ (List.mem_of_getElem? (i := 42) rfl)
theorem kw43 {Z : State} {a0 : Array Value} (hw : ∀ d ∈ tables_1, d.before a0 Z = true) : (Jvm.Cond.selects "com/example/okno/okno/AdmissionLog" ({ cls := "com/example/okno/okno/AdmissionLog", name := "append", desc := "(JJ)V" } : Jvm.MethodName) ({ cls := "com/example/okno/okno/AdmissionLog", name := "append", desc := "(JJ)V" } : Jvm.MethodName)).before a0 Z = true := hw _ (List.mem_of_getElem? (i := 43) rfl)
theorem kw44 {Z : State} {a0 : Array Value} (hw : ∀ d ∈ tables_1, d.before a0 Z = true) : (Jvm.Cond.code ({ cls := "com/example/okno/okno/AdmissionLog", name := "append", desc := "(JJ)V" } : Jvm.MethodName) prog_2_method_12_code (11 : Nat) (Option.none : Option Jvm.ClassFile.FieldType)).before a0 Z = true := hw _ (List.mem_of_getElem? (i := 44) rfl)
theorem kw45 {Z : State} {a0 : Array Value} (hw : ∀ d ∈ tables_1, d.before a0 Z = true) : (Jvm.Cond.fieldLink "com/example/okno/okno/AdmissionLog" (50 : Nat) "com/example/okno/okno/AdmissionLog" "total" "J").before a0 Z = true := hw _ (List.mem_of_getElem? (i := 45) rfl)
theorem kw46 {Z : State} {a0 : Array Value} (hw : ∀ d ∈ tables_1, d.before a0 Z = true) : (Jvm.Cond.lays "com/example/okno/okno/AdmissionLog" "com/example/okno/okno/AdmissionLog" "total" "J").before a0 Z = true := hw _ (List.mem_of_getElem? (i := 46) rfl)
theorem kw47 {Z : State} {a0 : Array Value} (hw : ∀ d ∈ tables_1, d.before a0 Z = true) : (Jvm.Cond.methodLink "com/example/okno/okno/AdmissionLog" (65 : Nat) ({ cls := "java/lang/Math", name := "addExact", desc := "(JJ)J" } : Jvm.MethodName)).before a0 Z = true := hw _ (List.mem_of_getElem? (i := 47) rfl)
theorem kw48 {Z : State} {a0 : Array Value} (hw : ∀ d ∈ tables_1, d.before a0 Z = true) : (Jvm.Cond.static ({ cls := "java/lang/Math", name := "addExact", desc := "(JJ)J" } : Jvm.MethodName)).before a0 Z = true := hw _ (List.mem_of_getElem? (i := 48) rfl)
theorem kw49 {Z : State} {a0 : Array Value} (hw : ∀ d ∈ tables_1, d.before a0 Z = true) : (Jvm.Cond.code ({ cls := "java/lang/Math", name := "addExact", desc := "(JJ)J" } : Jvm.MethodName) jdk_29_method_25_code (6 : Nat) (Option.some Jvm.ClassFile.FieldType.long)).before a0 Z = true := hw _ (List.mem_of_getElem? (i := 49) rfl)
theorem kw50 {Z : State} {a0 : Array Value} (hw : ∀ d ∈ tables_1, d.before a0 Z = true) : (Jvm.Cond.methodLink "com/example/okno/okno/AdmissionLog" (68 : Nat) ({ cls := "com/example/okno/okno/AdmissionLog", name := "subWindowOf", desc := "(J)J" } : Jvm.MethodName)).before a0 Z = true := hw _ (List.mem_of_getElem? (i := 50) rfl)
theorem kw51 {Z : State} {a0 : Array Value} (hw : ∀ d ∈ tables_1, d.before a0 Z = true) : (Jvm.Cond.declares ({ cls := "com/example/okno/okno/AdmissionLog", name := "subWindowOf", desc := "(J)J" } : Jvm.MethodName)).before a0 Z = true := hw _ (List.mem_of_getElem? (i := 51) rfl)
theorem kw52 {Z : State} {a0 : Array Value} (hw : ∀ d ∈ tables_1, d.before a0 Z = true) : (Jvm.Cond.instanceMethod ({ cls := "com/example/okno/okno/AdmissionLog", name := "subWindowOf", desc := "(J)J" } : Jvm.MethodName)).before a0 Z = true := hw _ (List.mem_of_getElem? (i := 52) rfl)
theorem kw53 {Z : State} {a0 : Array Value} (hw : ∀ d ∈ tables_1, d.before a0 Z = true) : (Jvm.Cond.selects "com/example/okno/okno/AdmissionLog" ({ cls := "com/example/okno/okno/AdmissionLog", name := "subWindowOf", desc := "(J)J" } : Jvm.MethodName) ({ cls := "com/example/okno/okno/AdmissionLog", name := "subWindowOf", desc := "(J)J" } : Jvm.MethodName)).before a0 Z = true := hw _ (List.mem_of_getElem? (i := 53) rfl)
theorem kw54 {Z : State} {a0 : Array Value} (hw : ∀ d ∈ tables_1, d.before a0 Z = true) : (Jvm.Cond.code ({ cls := "com/example/okno/okno/AdmissionLog", name := "subWindowOf", desc := "(J)J" } : Jvm.MethodName) prog_2_method_11_code (3 : Nat) (Option.some Jvm.ClassFile.FieldType.long)).before a0 Z = true := hw _ (List.mem_of_getElem? (i := 54) rfl)
theorem kw55 {Z : State} {a0 : Array Value} (hw : ∀ d ∈ tables_1, d.before a0 Z = true) : (Jvm.Cond.methodLink "com/example/okno/okno/AdmissionLog" (72 : Nat) ({ cls := "com/example/okno/okno/AdmissionLog", name := "isEmpty", desc := "()Z" } : Jvm.MethodName)).before a0 Z = true := hw _ (List.mem_of_getElem? (i := 55) rfl)
theorem kw56 {Z : State} {a0 : Array Value} (hw : ∀ d ∈ tables_1, d.before a0 Z = true) : (Jvm.Cond.declares ({ cls := "com/example/okno/okno/AdmissionLog", name := "isEmpty", desc := "()Z" } : Jvm.MethodName)).before a0 Z = true := hw _ (List.mem_of_getElem? (i := 56) rfl)
theorem kw57 {Z : State} {a0 : Array Value} (hw : ∀ d ∈ tables_1, d.before a0 Z = true) : (Jvm.Cond.instanceMethod ({ cls := "com/example/okno/okno/AdmissionLog", name := "isEmpty", desc := "()Z" } : Jvm.MethodName)).before a0 Z = true := hw _ (List.mem_of_getElem? (i := 57) rfl)
theorem kw58 {Z : State} {a0 : Array Value} (hw : ∀ d ∈ tables_1, d.before a0 Z = true) : (Jvm.Cond.selects "com/example/okno/okno/AdmissionLog" ({ cls := "com/example/okno/okno/AdmissionLog", name := "isEmpty", desc := "()Z" } : Jvm.MethodName) ({ cls := "com/example/okno/okno/AdmissionLog", name := "isEmpty", desc := "()Z" } : Jvm.MethodName)).before a0 Z = true := hw _ (List.mem_of_getElem? (i := 58) rfl)
theorem kw59 {Z : State} {a0 : Array Value} (hw : ∀ d ∈ tables_1, d.before a0 Z = true) : (Jvm.Cond.code ({ cls := "com/example/okno/okno/AdmissionLog", name := "isEmpty", desc := "()Z" } : Jvm.MethodName) prog_2_method_3_code (1 : Nat) (Option.some Jvm.ClassFile.FieldType.boolean)).before a0 Z = true := hw _ (List.mem_of_getElem? (i := 59) rfl)
theorem kw60 {Z : State} {a0 : Array Value} (hw : ∀ d ∈ tables_1, d.before a0 Z = true) : (Jvm.Cond.methodLink "com/example/okno/okno/AdmissionLog" (76 : Nat) ({ cls := "com/example/okno/okno/AdmissionLog", name := "startNewestEntry", desc := "(JJ)V" } : Jvm.MethodName)).before a0 Z = true := hw _ (List.mem_of_getElem? (i := 60) rfl)
theorem kw61 {Z : State} {a0 : Array Value} (hw : ∀ d ∈ tables_1, d.before a0 Z = true) : (Jvm.Cond.instanceMethod ({ cls := "com/example/okno/okno/AdmissionLog", name := "startNewestEntry", desc := "(JJ)V" } : Jvm.MethodName)).before a0 Z = true := hw _ (List.mem_of_getElem? (i := 61) rfl)
theorem kw62 {Z : State} {a0 : Array Value} (hw : ∀ d ∈ tables_1, d.before a0 Z = true) : (Jvm.Cond.privateMethod ({ cls := "com/example/okno/okno/AdmissionLog", name := "startNewestEntry", desc := "(JJ)V" } : Jvm.MethodName)).before a0 Z = true := hw _ (List.mem_of_getElem? (i := 62) rfl)
theorem kw63 {Z : State} {a0 : Array Value} (hw : ∀ d ∈ tables_1, d.before a0 Z = true) : (Jvm.Cond.code ({ cls := "com/example/okno/okno/AdmissionLog", name := "startNewestEntry", desc := "(JJ)V" } : Jvm.MethodName) prog_2_method_23_code (7 : Nat) (Option.none : Option Jvm.ClassFile.FieldType)).before a0 Z = true := hw _ (List.mem_of_getElem? (i := 63) rfl)
theorem kw64 {Z : State} {a0 : Array Value} (hw : ∀ d ∈ tables_1, d.before a0 Z = true) : (Jvm.Cond.fieldLink "com/example/okno/okno/AdmissionLog" (84 : Nat) "com/example/okno/okno/AdmissionLog" "newestSubWindow" "J").before a0 Z = true := hw _ (List.mem_of_getElem? (i := 64) rfl)
theorem kw65 {Z : State} {a0 : Array Value} (hw : ∀ d ∈ tables_1, d.before a0 Z = true) : (Jvm.Cond.lays "com/example/okno/okno/AdmissionLog" "com/example/okno/okno/AdmissionLog" "newestSubWindow" "J").before a0 Z = true := hw _ (List.mem_of_getElem? (i := 65) rfl)
theorem kw66 {Z : State} {a0 : Array Value} (hw : ∀ d ∈ tables_1, d.before a0 Z = true) : (Jvm.Cond.fieldLink "com/example/okno/okno/AdmissionLog" (53 : Nat) "com/example/okno/okno/AdmissionLog" "newestSubWindowEnd" "J").before a0 Z = true := hw _ (List.mem_of_getElem? (i := 66) rfl)
theorem kw67 {Z : State} {a0 : Array Value} (hw : ∀ d ∈ tables_1, d.before a0 Z = true) : (Jvm.Cond.lays "com/example/okno/okno/AdmissionLog" "com/example/okno/okno/AdmissionLog" "newestSubWindowEnd" "J").before a0 Z = true := hw _ (List.mem_of_getElem? (i := 67) rfl)
theorem kw68 {Z : State} {a0 : Array Value} (hw : ∀ d ∈ tables_1, d.before a0 Z = true) : (Jvm.Cond.methodLink "com/example/okno/okno/AdmissionLog" (80 : Nat) ({ cls := "com/example/okno/okno/AdmissionLog", name := "countNewEntryInShorterWindows", desc := "(J)V" } : Jvm.MethodName)).before a0 Z = true := hw _ (List.mem_of_getElem? (i := 68) rfl)
theorem kw69 {Z : State} {a0 : Array Value} (hw : ∀ d ∈ tables_1, d.before a0 Z = true) : (Jvm.Cond.instanceMethod ({ cls := "com/example/okno/okno/AdmissionLog", name := "countNewEntryInShorterWindows", desc := "(J)V" } : Jvm.MethodName)).before a0 Z = true := hw _ (List.mem_of_getElem? (i := 69) rfl)
theorem kw70 {Z : State} {a0 : Array Value} (hw : ∀ d ∈ tables_1, d.before a0 Z = true) : (Jvm.Cond.privateMethod ({ cls := "com/example/okno/okno/AdmissionLog", name := "countNewEntryInShorterWindows", desc := "(J)V" } : Jvm.MethodName)).before a0 Z = true := hw _ (List.mem_of_getElem? (i := 70) rfl)
theorem kw71 {Z : State} {a0 : Array Value} (hw : ∀ d ∈ tables_1, d.before a0 Z = true) : (Jvm.Cond.code ({ cls := "com/example/okno/okno/AdmissionLog", name := "countNewEntryInShorterWindows", desc := "(J)V" } : Jvm.MethodName) prog_2_method_19_code (4 : Nat) (Option.none : Option Jvm.ClassFile.FieldType)).before a0 Z = true := hw _ (List.mem_of_getElem? (i := 71) rfl)
theorem kw72 {Z : State} {a0 : Array Value} (hw : ∀ d ∈ tables_1, d.before a0 Z = true) : (Jvm.Cond.methodLink "com/example/okno/okno/AdmissionLogAddToNewestPinLaw" (22 : Nat) ({ cls := "com/example/okno/okno/AdmissionLog", name := "newestSubWindowEnd", desc := "()J" } : Jvm.MethodName)).before a0 Z = true := hw _ (List.mem_of_getElem? (i := 72) rfl)
theorem kw73 {Z : State} {a0 : Array Value} (hw : ∀ d ∈ tables_1, d.before a0 Z = true) : (Jvm.Cond.declares ({ cls := "com/example/okno/okno/AdmissionLog", name := "newestSubWindowEnd", desc := "()J" } : Jvm.MethodName)).before a0 Z = true := hw _ (List.mem_of_getElem? (i := 73) rfl)
theorem kw74 {Z : State} {a0 : Array Value} (hw : ∀ d ∈ tables_1, d.before a0 Z = true) : (Jvm.Cond.instanceMethod ({ cls := "com/example/okno/okno/AdmissionLog", name := "newestSubWindowEnd", desc := "()J" } : Jvm.MethodName)).before a0 Z = true := hw _ (List.mem_of_getElem? (i := 74) rfl)
theorem kw75 {Z : State} {a0 : Array Value} (hw : ∀ d ∈ tables_1, d.before a0 Z = true) : (Jvm.Cond.selects "com/example/okno/okno/AdmissionLog" ({ cls := "com/example/okno/okno/AdmissionLog", name := "newestSubWindowEnd", desc := "()J" } : Jvm.MethodName) ({ cls := "com/example/okno/okno/AdmissionLog", name := "newestSubWindowEnd", desc := "()J" } : Jvm.MethodName)).before a0 Z = true := hw _ (List.mem_of_getElem? (i := 75) rfl)
theorem kw76 {Z : State} {a0 : Array Value} (hw : ∀ d ∈ tables_1, d.before a0 Z = true) : (Jvm.Cond.code ({ cls := "com/example/okno/okno/AdmissionLog", name := "newestSubWindowEnd", desc := "()J" } : Jvm.MethodName) prog_2_method_5_code (1 : Nat) (Option.some Jvm.ClassFile.FieldType.long)).before a0 Z = true := hw _ (List.mem_of_getElem? (i := 76) rfl)
theorem kw77 {Z : State} {a0 : Array Value} (hw : ∀ d ∈ tables_1, d.before a0 Z = true) : (Jvm.Cond.methodLink "com/example/okno/okno/AdmissionLogAddToNewestPinLaw" (26 : Nat) ({ cls := "com/example/okno/okno/AdmissionLog", name := "addToNewest", desc := "(JJ)V" } : Jvm.MethodName)).before a0 Z = true := hw _ (List.mem_of_getElem? (i := 77) rfl)
theorem kw78 {Z : State} {a0 : Array Value} (hw : ∀ d ∈ tables_1, d.before a0 Z = true) : (Jvm.Cond.declares ({ cls := "com/example/okno/okno/AdmissionLog", name := "addToNewest", desc := "(JJ)V" } : Jvm.MethodName)).before a0 Z = true := hw _ (List.mem_of_getElem? (i := 78) rfl)
theorem kw79 {Z : State} {a0 : Array Value} (hw : ∀ d ∈ tables_1, d.before a0 Z = true) : (Jvm.Cond.instanceMethod ({ cls := "com/example/okno/okno/AdmissionLog", name := "addToNewest", desc := "(JJ)V" } : Jvm.MethodName)).before a0 Z = true := hw _ (List.mem_of_getElem? (i := 79) rfl)
theorem kw80 {Z : State} {a0 : Array Value} (hw : ∀ d ∈ tables_1, d.before a0 Z = true) : (Jvm.Cond.selects "com/example/okno/okno/AdmissionLog" ({ cls := "com/example/okno/okno/AdmissionLog", name := "addToNewest", desc := "(JJ)V" } : Jvm.MethodName) ({ cls := "com/example/okno/okno/AdmissionLog", name := "addToNewest", desc := "(JJ)V" } : Jvm.MethodName)).before a0 Z = true := hw _ (List.mem_of_getElem? (i := 80) rfl)
theorem kw81 {Z : State} {a0 : Array Value} (hw : ∀ d ∈ tables_1, d.before a0 Z = true) : (Jvm.Cond.code ({ cls := "com/example/okno/okno/AdmissionLog", name := "addToNewest", desc := "(JJ)V" } : Jvm.MethodName) prog_2_method_13_code (5 : Nat) (Option.none : Option Jvm.ClassFile.FieldType)).before a0 Z = true := hw _ (List.mem_of_getElem? (i := 81) rfl)
theorem kw82 {Z : State} {a0 : Array Value} (hw : ∀ d ∈ tables_1, d.before a0 Z = true) : (Jvm.Cond.methodLink "com/example/okno/okno/AdmissionLogAddToNewestPinLaw" (29 : Nat) ({ cls := "com/example/okno/okno/AdmissionLog", name := "total", desc := "()J" } : Jvm.MethodName)).before a0 Z = true := hw _ (List.mem_of_getElem? (i := 82) rfl)
theorem kw83 {Z : State} {a0 : Array Value} (hw : ∀ d ∈ tables_1, d.before a0 Z = true) : (Jvm.Cond.declares ({ cls := "com/example/okno/okno/AdmissionLog", name := "total", desc := "()J" } : Jvm.MethodName)).before a0 Z = true := hw _ (List.mem_of_getElem? (i := 83) rfl)
theorem kw84 {Z : State} {a0 : Array Value} (hw : ∀ d ∈ tables_1, d.before a0 Z = true) : (Jvm.Cond.instanceMethod ({ cls := "com/example/okno/okno/AdmissionLog", name := "total", desc := "()J" } : Jvm.MethodName)).before a0 Z = true := hw _ (List.mem_of_getElem? (i := 84) rfl)
theorem kw85 {Z : State} {a0 : Array Value} (hw : ∀ d ∈ tables_1, d.before a0 Z = true) : (Jvm.Cond.selects "com/example/okno/okno/AdmissionLog" ({ cls := "com/example/okno/okno/AdmissionLog", name := "total", desc := "()J" } : Jvm.MethodName) ({ cls := "com/example/okno/okno/AdmissionLog", name := "total", desc := "()J" } : Jvm.MethodName)).before a0 Z = true := hw _ (List.mem_of_getElem? (i := 85) rfl)
theorem kw86 {Z : State} {a0 : Array Value} (hw : ∀ d ∈ tables_1, d.before a0 Z = true) : (Jvm.Cond.code ({ cls := "com/example/okno/okno/AdmissionLog", name := "total", desc := "()J" } : Jvm.MethodName) prog_2_method_2_code (1 : Nat) (Option.some Jvm.ClassFile.FieldType.long)).before a0 Z = true := hw _ (List.mem_of_getElem? (i := 86) rfl)
theorem kw87 {Z : State} {a0 : Array Value} (hw : ∀ d ∈ tables_1, d.before a0 Z = true) : (Jvm.Cond.methodLink "com/example/okno/okno/AdmissionLogAddToNewestPinLaw" (32 : Nat) ({ cls := "com/example/okno/okno/AdmissionLog", name := "newest", desc := "()J" } : Jvm.MethodName)).before a0 Z = true := hw _ (List.mem_of_getElem? (i := 87) rfl)
theorem kw88 {Z : State} {a0 : Array Value} (hw : ∀ d ∈ tables_1, d.before a0 Z = true) : (Jvm.Cond.declares ({ cls := "com/example/okno/okno/AdmissionLog", name := "newest", desc := "()J" } : Jvm.MethodName)).before a0 Z = true := hw _ (List.mem_of_getElem? (i := 88) rfl)
theorem kw89 {Z : State} {a0 : Array Value} (hw : ∀ d ∈ tables_1, d.before a0 Z = true) : (Jvm.Cond.instanceMethod ({ cls := "com/example/okno/okno/AdmissionLog", name := "newest", desc := "()J" } : Jvm.MethodName)).before a0 Z = true := hw _ (List.mem_of_getElem? (i := 89) rfl)
theorem kw90 {Z : State} {a0 : Array Value} (hw : ∀ d ∈ tables_1, d.before a0 Z = true) : (Jvm.Cond.selects "com/example/okno/okno/AdmissionLog" ({ cls := "com/example/okno/okno/AdmissionLog", name := "newest", desc := "()J" } : Jvm.MethodName) ({ cls := "com/example/okno/okno/AdmissionLog", name := "newest", desc := "()J" } : Jvm.MethodName)).before a0 Z = true := hw _ (List.mem_of_getElem? (i := 90) rfl)
theorem kw91 {Z : State} {a0 : Array Value} (hw : ∀ d ∈ tables_1, d.before a0 Z = true) : (Jvm.Cond.code ({ cls := "com/example/okno/okno/AdmissionLog", name := "newest", desc := "()J" } : Jvm.MethodName) prog_2_method_4_code (1 : Nat) (Option.some Jvm.ClassFile.FieldType.long)).before a0 Z = true := hw _ (List.mem_of_getElem? (i := 91) rfl)
theorem kw92 {Z : State} {a0 : Array Value} (hw : ∀ d ∈ tables_1, d.before a0 Z = true) : (Jvm.Cond.methodLink "com/example/okno/okno/AdmissionLogAddToNewestPinLaw" (35 : Nat) ({ cls := "com/example/okno/okno/AdmissionLog", name := "isEmpty", desc := "()Z" } : Jvm.MethodName)).before a0 Z = true := hw _ (List.mem_of_getElem? (i := 92) rfl)
theorem kw95 {Z : State} {a0 : Array Value} (hw : ∀ d ∈ tables_1, d.before a0 Z = true) : (Jvm.Cond.lays "com/example/okno/okno/AdmissionLog" "com/example/okno/okno/AdmissionLog" "olderTotal" "J").before a0 Z = true := hw _ (List.mem_of_getElem? (i := 95) rfl)
theorem pn_0 : plainName "com/example/okno/okno/KeyTurn" = true := by first | (simp [plainName, overriddenIn]; done) | decide +kernel
theorem pn_1 : plainName "com/example/okno/okno/AdmissionLog" = true := by first | (simp [plainName, overriddenIn]; done) | decide +kernel
theorem pn_2 : plainName "com/example/okno/okno/AdmissionLogAddToNewestPinLaw" = true := by first | (simp [plainName, overriddenIn]; done) | decide +kernel
theorem pd_0 : parseMethodDescriptor "()V" = some ⟨[], none⟩ := by decide +kernel
theorem pd_1 : parseMethodDescriptor "(JJ)J" = some ⟨[.long, .long], some .long⟩ := by decide +kernel
theorem pd_2 : parseMethodDescriptor "(J)J" = some ⟨[.long], some .long⟩ := by decide +kernel
theorem pd_3 : parseMethodDescriptor "()Z" = some ⟨[], some .boolean⟩ := by decide +kernel
theorem pd_4 : parseMethodDescriptor "(JJ)V" = some ⟨[.long, .long], none⟩ := by decide +kernel
theorem pd_5 : parseMethodDescriptor "(J)V" = some ⟨[.long], none⟩ := by decide +kernel
theorem pd_6 : parseMethodDescriptor "(JI)V" = some ⟨[.long, .int], none⟩ := by decide +kernel
theorem pd_7 : parseMethodDescriptor "()J" = some ⟨[], some .long⟩ := by decide +kernel
theorem d1_0 : decode prog_2_method_1_code 0 = .ok (.aload_n 0, 1) := by decide +kernel
theorem d1_1 : decode prog_2_method_1_code 1 = .ok (.invokespecial 1, 3) := by decide +kernel
theorem d1_4 : decode prog_2_method_1_code 4 = .ok (.aload_n 0, 1) := by decide +kernel
theorem d1_5 : decode prog_2_method_1_code 5 = .ok (.ldc2_w 9, 3) := by decide +kernel
theorem d1_8 : decode prog_2_method_1_code 8 = .ok (.putfield 11, 3) := by decide +kernel
theorem d1_11 : decode prog_2_method_1_code 11 = .ok (.aload_n 0, 1) := by decide +kernel
theorem d1_12 : decode prog_2_method_1_code 12 = .ok (.getstatic 17, 3) := by decide +kernel
theorem d1_15 : decode prog_2_method_1_code 15 = .ok (.putfield 21, 3) := by decide +kernel
theorem d1_18 : decode prog_2_method_1_code 18 = .ok (.aload_n 0, 1) := by decide +kernel
theorem d1_19 : decode prog_2_method_1_code 19 = .ok (.getstatic 17, 3) := by decide +kernel
theorem d1_22 : decode prog_2_method_1_code 22 = .ok (.putfield 24, 3) := by decide +kernel
theorem d1_25 : decode prog_2_method_1_code 25 = .ok (.aload_n 0, 1) := by decide +kernel
theorem d1_26 : decode prog_2_method_1_code 26 = .ok (.ldc2_w 27, 3) := by decide +kernel
theorem d1_29 : decode prog_2_method_1_code 29 = .ok (.putfield 29, 3) := by decide +kernel
theorem d1_32 : decode prog_2_method_1_code 32 = .ok (.aload_n 0, 1) := by decide +kernel
theorem d1_33 : decode prog_2_method_1_code 33 = .ok (.ldc2_w 9, 3) := by decide +kernel
theorem d1_36 : decode prog_2_method_1_code 36 = .ok (.putfield 32, 3) := by decide +kernel
theorem d1_39 : decode prog_2_method_1_code 39 = .ok (.aload_n 0, 1) := by decide +kernel
theorem d1_40 : decode prog_2_method_1_code 40 = .ok (.lload_n 1, 1) := by decide +kernel
theorem d1_41 : decode prog_2_method_1_code 41 = .ok (.putfield 35, 3) := by decide +kernel
theorem d1_44 : decode prog_2_method_1_code 44 = .ok (.aload_n 0, 1) := by decide +kernel
theorem d1_45 : decode prog_2_method_1_code 45 = .ok (.aload_n 0, 1) := by decide +kernel
theorem d1_46 : decode prog_2_method_1_code 46 = .ok (.getfield 32, 3) := by decide +kernel
theorem d1_49 : decode prog_2_method_1_code 49 = .ok (.lload_n 1, 1) := by decide +kernel
theorem d1_50 : decode prog_2_method_1_code 50 = .ok (.invokestatic 38, 3) := by decide +kernel
theorem d1_53 : decode prog_2_method_1_code 53 = .ok (.putfield 44, 3) := by decide +kernel
theorem d1_56 : decode prog_2_method_1_code 56 = .ok (.aload_n 0, 1) := by decide +kernel
theorem d1_57 : decode prog_2_method_1_code 57 = .ok (.iload_n 3, 1) := by decide +kernel
theorem d1_58 : decode prog_2_method_1_code 58 = .ok (.ifCond .ne 9, 3) := by decide +kernel
theorem d1_61 : decode prog_2_method_1_code 61 = .ok (.getstatic 17, 3) := by decide +kernel
theorem d1_64 : decode prog_2_method_1_code 64 = .ok (.goto 8, 3) := by decide +kernel
theorem d1_72 : decode prog_2_method_1_code 72 = .ok (.putfield 47, 3) := by decide +kernel
theorem d1_75 : decode prog_2_method_1_code 75 = .ok (.return_, 1) := by decide +kernel
theorem d2_0 : decode prog_8_method_1_code 0 = .ok (.aload_n 0, 1) := by decide +kernel
theorem d2_1 : decode prog_8_method_1_code 1 = .ok (.invokespecial 1, 3) := by decide +kernel
theorem d2_4 : decode prog_8_method_1_code 4 = .ok (.return_, 1) := by decide +kernel
theorem d4_0 : decode jdk_29_method_49_code 0 = .ok (.lload_n 0, 1) := by decide +kernel
theorem d4_1 : decode jdk_29_method_49_code 1 = .ok (.lload_n 2, 1) := by decide +kernel
theorem d4_2 : decode jdk_29_method_49_code 2 = .ok (.ldiv, 1) := by decide +kernel
theorem d4_3 : decode jdk_29_method_49_code 3 = .ok (.lstore 4, 2) := by decide +kernel
theorem d4_5 : decode jdk_29_method_49_code 5 = .ok (.lload_n 0, 1) := by decide +kernel
theorem d4_6 : decode jdk_29_method_49_code 6 = .ok (.lload_n 2, 1) := by decide +kernel
theorem d4_7 : decode jdk_29_method_49_code 7 = .ok (.lxor, 1) := by decide +kernel
theorem d4_8 : decode jdk_29_method_49_code 8 = .ok (.lconst 0, 1) := by decide +kernel
theorem d4_9 : decode jdk_29_method_49_code 9 = .ok (.lcmp, 1) := by decide +kernel
theorem d4_10 : decode jdk_29_method_49_code 10 = .ok (.ifCond .ge 17, 3) := by decide +kernel
theorem d4_13 : decode jdk_29_method_49_code 13 = .ok (.lload 4, 2) := by decide +kernel
theorem d4_15 : decode jdk_29_method_49_code 15 = .ok (.lload_n 2, 1) := by decide +kernel
theorem d4_16 : decode jdk_29_method_49_code 16 = .ok (.lmul, 1) := by decide +kernel
theorem d4_17 : decode jdk_29_method_49_code 17 = .ok (.lload_n 0, 1) := by decide +kernel
theorem d4_18 : decode jdk_29_method_49_code 18 = .ok (.lcmp, 1) := by decide +kernel
theorem d4_19 : decode jdk_29_method_49_code 19 = .ok (.ifCond .eq 8, 3) := by decide +kernel
theorem d4_22 : decode jdk_29_method_49_code 22 = .ok (.lload 4, 2) := by decide +kernel
theorem d4_24 : decode jdk_29_method_49_code 24 = .ok (.lconst 1, 1) := by decide +kernel
theorem d4_25 : decode jdk_29_method_49_code 25 = .ok (.lsub, 1) := by decide +kernel
theorem d4_26 : decode jdk_29_method_49_code 26 = .ok (.lreturn, 1) := by decide +kernel
theorem d4_27 : decode jdk_29_method_49_code 27 = .ok (.lload 4, 2) := by decide +kernel
theorem d4_29 : decode jdk_29_method_49_code 29 = .ok (.lreturn, 1) := by decide +kernel
theorem d5_0 : decode prog_2_method_12_code 0 = .ok (.aload_n 0, 1) := by decide +kernel
theorem d5_1 : decode prog_2_method_12_code 1 = .ok (.getfield 50, 3) := by decide +kernel
theorem d5_4 : decode prog_2_method_12_code 4 = .ok (.lload_n 3, 1) := by decide +kernel
theorem d5_5 : decode prog_2_method_12_code 5 = .ok (.invokestatic 65, 3) := by decide +kernel
theorem d5_8 : decode prog_2_method_12_code 8 = .ok (.lstore 5, 2) := by decide +kernel
theorem d5_10 : decode prog_2_method_12_code 10 = .ok (.aload_n 0, 1) := by decide +kernel
theorem d5_11 : decode prog_2_method_12_code 11 = .ok (.lload_n 1, 1) := by decide +kernel
theorem d5_12 : decode prog_2_method_12_code 12 = .ok (.invokevirtual 68, 3) := by decide +kernel
theorem d5_15 : decode prog_2_method_12_code 15 = .ok (.lstore 7, 2) := by decide +kernel
theorem d5_17 : decode prog_2_method_12_code 17 = .ok (.aload_n 0, 1) := by decide +kernel
theorem d5_18 : decode prog_2_method_12_code 18 = .ok (.invokevirtual 72, 3) := by decide +kernel
theorem d5_21 : decode prog_2_method_12_code 21 = .ok (.ifCond .eq 24, 3) := by decide +kernel
theorem d5_24 : decode prog_2_method_12_code 24 = .ok (.aload_n 0, 1) := by decide +kernel
theorem d5_25 : decode prog_2_method_12_code 25 = .ok (.lload 7, 2) := by decide +kernel
theorem d5_27 : decode prog_2_method_12_code 27 = .ok (.putfield 29, 3) := by decide +kernel
theorem d5_30 : decode prog_2_method_12_code 30 = .ok (.aload_n 0, 1) := by decide +kernel
theorem d5_31 : decode prog_2_method_12_code 31 = .ok (.lload 7, 2) := by decide +kernel
theorem d5_33 : decode prog_2_method_12_code 33 = .ok (.lload_n 1, 1) := by decide +kernel
theorem d5_34 : decode prog_2_method_12_code 34 = .ok (.invokevirtual 76, 3) := by decide +kernel
theorem d5_37 : decode prog_2_method_12_code 37 = .ok (.aload_n 0, 1) := by decide +kernel
theorem d5_38 : decode prog_2_method_12_code 38 = .ok (.lconst 0, 1) := by decide +kernel
theorem d5_39 : decode prog_2_method_12_code 39 = .ok (.invokevirtual 80, 3) := by decide +kernel
theorem d5_42 : decode prog_2_method_12_code 42 = .ok (.goto 47, 3) := by decide +kernel
theorem d5_89 : decode prog_2_method_12_code 89 = .ok (.aload_n 0, 1) := by decide +kernel
theorem d5_90 : decode prog_2_method_12_code 90 = .ok (.lload 5, 2) := by decide +kernel
theorem d5_92 : decode prog_2_method_12_code 92 = .ok (.putfield 50, 3) := by decide +kernel
theorem d5_95 : decode prog_2_method_12_code 95 = .ok (.aload_n 0, 1) := by decide +kernel
theorem d5_96 : decode prog_2_method_12_code 96 = .ok (.lload_n 1, 1) := by decide +kernel
theorem d5_97 : decode prog_2_method_12_code 97 = .ok (.putfield 11, 3) := by decide +kernel
theorem d5_100 : decode prog_2_method_12_code 100 = .ok (.return_, 1) := by decide +kernel
theorem d6_0 : decode jdk_29_method_25_code 0 = .ok (.lload_n 0, 1) := by decide +kernel
theorem d6_1 : decode jdk_29_method_25_code 1 = .ok (.lload_n 2, 1) := by decide +kernel
theorem d6_2 : decode jdk_29_method_25_code 2 = .ok (.ladd, 1) := by decide +kernel
theorem d6_3 : decode jdk_29_method_25_code 3 = .ok (.lstore 4, 2) := by decide +kernel
theorem d6_5 : decode jdk_29_method_25_code 5 = .ok (.lload_n 0, 1) := by decide +kernel
theorem d6_6 : decode jdk_29_method_25_code 6 = .ok (.lload 4, 2) := by decide +kernel
theorem d6_8 : decode jdk_29_method_25_code 8 = .ok (.lxor, 1) := by decide +kernel
theorem d6_9 : decode jdk_29_method_25_code 9 = .ok (.lload_n 2, 1) := by decide +kernel
theorem d6_10 : decode jdk_29_method_25_code 10 = .ok (.lload 4, 2) := by decide +kernel
theorem d6_12 : decode jdk_29_method_25_code 12 = .ok (.lxor, 1) := by decide +kernel
theorem d6_13 : decode jdk_29_method_25_code 13 = .ok (.land, 1) := by decide +kernel
theorem d6_14 : decode jdk_29_method_25_code 14 = .ok (.lconst 0, 1) := by decide +kernel
theorem d6_15 : decode jdk_29_method_25_code 15 = .ok (.lcmp, 1) := by decide +kernel
theorem d6_16 : decode jdk_29_method_25_code 16 = .ok (.ifCond .ge 13, 3) := by decide +kernel
theorem d6_29 : decode jdk_29_method_25_code 29 = .ok (.lload 4, 2) := by decide +kernel
theorem d6_31 : decode jdk_29_method_25_code 31 = .ok (.lreturn, 1) := by decide +kernel
theorem d7_0 : decode prog_2_method_11_code 0 = .ok (.lload_n 1, 1) := by decide +kernel
theorem d7_1 : decode prog_2_method_11_code 1 = .ok (.aload_n 0, 1) := by decide +kernel
theorem d7_2 : decode prog_2_method_11_code 2 = .ok (.getfield 32, 3) := by decide +kernel
theorem d7_5 : decode prog_2_method_11_code 5 = .ok (.lcmp, 1) := by decide +kernel
theorem d7_6 : decode prog_2_method_11_code 6 = .ok (.ifCond .eq 20, 3) := by decide +kernel
theorem d7_9 : decode prog_2_method_11_code 9 = .ok (.aload_n 0, 1) := by decide +kernel
theorem d7_10 : decode prog_2_method_11_code 10 = .ok (.lload_n 1, 1) := by decide +kernel
theorem d7_11 : decode prog_2_method_11_code 11 = .ok (.aload_n 0, 1) := by decide +kernel
theorem d7_12 : decode prog_2_method_11_code 12 = .ok (.getfield 35, 3) := by decide +kernel
theorem d7_15 : decode prog_2_method_11_code 15 = .ok (.invokestatic 38, 3) := by decide +kernel
theorem d7_18 : decode prog_2_method_11_code 18 = .ok (.putfield 44, 3) := by decide +kernel
theorem d7_21 : decode prog_2_method_11_code 21 = .ok (.aload_n 0, 1) := by decide +kernel
theorem d7_22 : decode prog_2_method_11_code 22 = .ok (.lload_n 1, 1) := by decide +kernel
theorem d7_23 : decode prog_2_method_11_code 23 = .ok (.putfield 32, 3) := by decide +kernel
theorem d7_26 : decode prog_2_method_11_code 26 = .ok (.aload_n 0, 1) := by decide +kernel
theorem d7_27 : decode prog_2_method_11_code 27 = .ok (.getfield 44, 3) := by decide +kernel
theorem d7_30 : decode prog_2_method_11_code 30 = .ok (.lreturn, 1) := by decide +kernel
theorem d8_0 : decode prog_2_method_3_code 0 = .ok (.aload_n 0, 1) := by decide +kernel
theorem d8_1 : decode prog_2_method_3_code 1 = .ok (.getfield 50, 3) := by decide +kernel
theorem d8_4 : decode prog_2_method_3_code 4 = .ok (.lconst 0, 1) := by decide +kernel
theorem d8_5 : decode prog_2_method_3_code 5 = .ok (.lcmp, 1) := by decide +kernel
theorem d8_6 : decode prog_2_method_3_code 6 = .ok (.ifCond .ne 7, 3) := by decide +kernel
theorem d8_9 : decode prog_2_method_3_code 9 = .ok (.iconst 1, 1) := by decide +kernel
theorem d8_10 : decode prog_2_method_3_code 10 = .ok (.goto 4, 3) := by decide +kernel
theorem d8_13 : decode prog_2_method_3_code 13 = .ok (.iconst 0, 1) := by decide +kernel
theorem d8_14 : decode prog_2_method_3_code 14 = .ok (.ireturn, 1) := by decide +kernel
theorem d9_0 : decode prog_2_method_23_code 0 = .ok (.lload_n 1, 1) := by decide +kernel
theorem d9_1 : decode prog_2_method_23_code 1 = .ok (.lconst 1, 1) := by decide +kernel
theorem d9_2 : decode prog_2_method_23_code 2 = .ok (.ladd, 1) := by decide +kernel
theorem d9_3 : decode prog_2_method_23_code 3 = .ok (.aload_n 0, 1) := by decide +kernel
theorem d9_4 : decode prog_2_method_23_code 4 = .ok (.getfield 35, 3) := by decide +kernel
theorem d9_7 : decode prog_2_method_23_code 7 = .ok (.lmul, 1) := by decide +kernel
theorem d9_8 : decode prog_2_method_23_code 8 = .ok (.lstore 5, 2) := by decide +kernel
theorem d9_10 : decode prog_2_method_23_code 10 = .ok (.aload_n 0, 1) := by decide +kernel
theorem d9_11 : decode prog_2_method_23_code 11 = .ok (.lload_n 1, 1) := by decide +kernel
theorem d9_12 : decode prog_2_method_23_code 12 = .ok (.putfield 84, 3) := by decide +kernel
theorem d9_15 : decode prog_2_method_23_code 15 = .ok (.aload_n 0, 1) := by decide +kernel
theorem d9_16 : decode prog_2_method_23_code 16 = .ok (.lload 5, 2) := by decide +kernel
theorem d9_18 : decode prog_2_method_23_code 18 = .ok (.lload_n 3, 1) := by decide +kernel
theorem d9_19 : decode prog_2_method_23_code 19 = .ok (.lcmp, 1) := by decide +kernel
theorem d9_20 : decode prog_2_method_23_code 20 = .ok (.ifCond .le 8, 3) := by decide +kernel
theorem d9_23 : decode prog_2_method_23_code 23 = .ok (.lload 5, 2) := by decide +kernel
theorem d9_25 : decode prog_2_method_23_code 25 = .ok (.goto 6, 3) := by decide +kernel
theorem d9_28 : decode prog_2_method_23_code 28 = .ok (.ldc2_w 27, 3) := by decide +kernel
theorem d9_31 : decode prog_2_method_23_code 31 = .ok (.putfield 53, 3) := by decide +kernel
theorem d9_34 : decode prog_2_method_23_code 34 = .ok (.return_, 1) := by decide +kernel
theorem d10_0 : decode prog_2_method_19_code 0 = .ok (.iconst 0, 1) := by decide +kernel
theorem d10_1 : decode prog_2_method_19_code 1 = .ok (.istore_n 3, 1) := by decide +kernel
theorem d10_2 : decode prog_2_method_19_code 2 = .ok (.iload_n 3, 1) := by decide +kernel
theorem d10_3 : decode prog_2_method_19_code 3 = .ok (.aload_n 0, 1) := by decide +kernel
theorem d10_4 : decode prog_2_method_19_code 4 = .ok (.getfield 47, 3) := by decide +kernel
theorem d10_7 : decode prog_2_method_19_code 7 = .ok (.arraylength, 1) := by decide +kernel
theorem d10_8 : decode prog_2_method_19_code 8 = .ok (.if_icmp .ge 44, 3) := by decide +kernel
theorem d10_52 : decode prog_2_method_19_code 52 = .ok (.return_, 1) := by decide +kernel
theorem d11_0 : decode prog_2_method_5_code 0 = .ok (.aload_n 0, 1) := by decide +kernel
theorem d11_1 : decode prog_2_method_5_code 1 = .ok (.getfield 53, 3) := by decide +kernel
theorem d11_4 : decode prog_2_method_5_code 4 = .ok (.lreturn, 1) := by decide +kernel
theorem d12_0 : decode prog_2_method_13_code 0 = .ok (.aload_n 0, 1) := by decide +kernel
theorem d12_1 : decode prog_2_method_13_code 1 = .ok (.dup, 1) := by decide +kernel
theorem d12_2 : decode prog_2_method_13_code 2 = .ok (.getfield 50, 3) := by decide +kernel
theorem d12_5 : decode prog_2_method_13_code 5 = .ok (.lload_n 3, 1) := by decide +kernel
theorem d12_6 : decode prog_2_method_13_code 6 = .ok (.ladd, 1) := by decide +kernel
theorem d12_7 : decode prog_2_method_13_code 7 = .ok (.putfield 50, 3) := by decide +kernel
theorem d12_10 : decode prog_2_method_13_code 10 = .ok (.lload_n 1, 1) := by decide +kernel
theorem d12_11 : decode prog_2_method_13_code 11 = .ok (.aload_n 0, 1) := by decide +kernel
theorem d12_12 : decode prog_2_method_13_code 12 = .ok (.getfield 11, 3) := by decide +kernel
theorem d12_15 : decode prog_2_method_13_code 15 = .ok (.lcmp, 1) := by decide +kernel
theorem d12_16 : decode prog_2_method_13_code 16 = .ok (.ifCond .le 8, 3) := by decide +kernel
theorem d12_19 : decode prog_2_method_13_code 19 = .ok (.aload_n 0, 1) := by decide +kernel
theorem d12_20 : decode prog_2_method_13_code 20 = .ok (.lload_n 1, 1) := by decide +kernel
theorem d12_21 : decode prog_2_method_13_code 21 = .ok (.putfield 11, 3) := by decide +kernel
theorem d12_24 : decode prog_2_method_13_code 24 = .ok (.return_, 1) := by decide +kernel
theorem d13_0 : decode prog_2_method_2_code 0 = .ok (.aload_n 0, 1) := by decide +kernel
theorem d13_1 : decode prog_2_method_2_code 1 = .ok (.getfield 50, 3) := by decide +kernel
theorem d13_4 : decode prog_2_method_2_code 4 = .ok (.lreturn, 1) := by decide +kernel
theorem d14_0 : decode prog_2_method_4_code 0 = .ok (.aload_n 0, 1) := by decide +kernel
theorem d14_1 : decode prog_2_method_4_code 1 = .ok (.getfield 11, 3) := by decide +kernel
theorem d14_4 : decode prog_2_method_4_code 4 = .ok (.lreturn, 1) := by decide +kernel
theorem ef_rm2 (m : MethodId) (x0 : Addr) : entryFrame m #[(.ref x0)] 1 = mkF m 0 #[.val (.ref x0)] [] := by first | (simp [entryFrame, mkF, argsToLocals, Value.category]; done) | rfl
def Q_rm2 (Z : State) (a1 : Addr) (h0 : Heap) (n0 : Nat) (v : Option Value) (h : Heap) (L : List Loc) : Prop := v = none ∧ Fr n0 L ∧ h = h0
set_option maxRecDepth 65536 in
set_option maxHeartbeats 40000000 in
theorem rm2 (l : Launch) (Z : State) (a0 : Array Value) (hw : ∀ d ∈ tables_1, d.before a0 Z = true) (ws : List Jvm.Cond) (a1 : Addr) (h0 : Heap) (n0 : Nat) (Z0 : n0 ≤ h0.size)  :
    MetFree l (⟨"com/example/okno/okno/KeyTurn", "<init>", "()V"⟩ : MethodName) (head1 (Jvm.Cond.code (⟨"com/example/okno/okno/KeyTurn", "<init>", "()V"⟩ : MethodName) prog_8_method_1_code 1 none :: ws) ({ frames := 1, cells := 0, slots := 0, locals := 12 } : Room)) (fun a U => a = #[(.ref a1)] ∧ Z.Warmed39 U.vm ∧ U.heap = h0) (fun _ _ _ _ _ => True) (fun _ U o U' => ∃ v L, o = .returned v ∧ Q_rm2 Z a1 h0 n0 v U'.heap L ∧ FrameEnd U o U' L ({ frames := 1, cells := 0, slots := 0, locals := 12 } : Room).cells ({ frames := 1, cells := 0, slots := 0, locals := 12 } : Room).slots) := by
  refine MetFree.of_bodySF (plainFor_of_name pn_0) hisR ?_
  intro p e s m args below meth c s₁ Bd hml0 hP hK
  obtain ⟨rfl, hZ, hh⟩ := hP
  have hx := Bd.exec
  have hby := Bd.bytes
  have hml : c.maxLocals = 1 := hml0
  have hown : s.vm.findClass "com/example/okno/okno/KeyTurn" = some m.cls := findClass_of_methodNamed Bd.named
  have hnm := (name_of_methodNamed Bd.named Bd.method).1
  have X0 : Stand p l e ({ frames := 1, cells := 0, slots := 0, locals := 12 } : Room) s m #[(.ref a1)] below meth c s₁ [] 0 0 := Stand.of_body Bd
  have e0 : s₁.heap = h0 := by rw [← hh, Bd.state]; rfl
  have N0 := Fr.nil n0
  have KR : Keep h0 h0 [] := Keep.refl h0 _
  have pre0 : ∀ t, Steps p.tables e below (s₁.setTop (mkF m 0 #[.val (.ref a1)] [])) t → Steps p.tables e below (s₁.setTop (entryFrame m #[(.ref a1)] 1)) t := fun t k => castTop (ef_rm2 m (a1)) k
  obtain ⟨T1, X1, e1, st1⟩ := initO X0 hx hZ hown (kw13 hw) (kw14 hw) (kw15 hw) e0 (g := (mkF m 1 #[.val (.ref a1)] [(.ref a1)])) rfl (by rw [hml]; rfl) rfl (hb hby d2_1) (by decide) (W := 0) (by show 2 * 0 + _ ≤ _; exact Nat.le_of_eq rfl) (by decide)
  obtain ⟨fs, hr, hrun, hended, hW, hsame⟩ := X1.leave (v := none) (fun _ => rfl)
  refine ⟨_, _, pre0 _ ?_, hrun, hended, _, _, rfl, ?_, ⟨_, rfl⟩, hW, hsame.mono (by decide) (by decide)⟩
  · skip
    show Steps p.tables e below (s₁.setTop (mkF m 0 #[.val (.ref a1)] [])) _
    refine XS.aloadN X0.here hx rfl (hb hby d2_0) rfl rfl ?_
    show Steps p.tables e below (s₁.setTop (mkF m 1 #[.val (.ref a1)] [(.ref a1)])) _
    refine st1 _ ?_
    show Steps p.tables e below (T1.setTop (mkF m 4 #[.val (.ref a1)] [])) _
    exact X1.returnOut hx Bd.returns (hb hby d2_4) hr
  · show Q_rm2 Z a1 h0 n0 _ T1.heap _
    rw [e1]
    exact ⟨rfl, N0, rfl⟩
theorem ef_rm4 (m : MethodId) (x0 : Int64) (x1 : Int64) : entryFrame m #[(.long x0), (.long x1)] 6 = mkF m 0 #[.val (.long x0), .second, .val (.long x1), .second, .unset, .unset] [] := by first | (simp [entryFrame, mkF, argsToLocals, Value.category]; done) | rfl
def Q_rm4 (Z : State) (q1 : Int64) (q2 : Int64) (h0 : Heap) (n0 : Nat) (v : Option Value) (h : Heap) (L : List Loc) : Prop := v = some (.long (own_fd q1 q2)) ∧ Fr n0 L ∧ h = h0
set_option maxRecDepth 65536 in
set_option maxHeartbeats 40000000 in
theorem rm4 (l : Launch) (Z : State) (a0 : Array Value) (hw : ∀ d ∈ tables_1, d.before a0 Z = true) (ws : List Jvm.Cond) (q1 : Int64) (q2 : Int64) (h0 : Heap) (n0 : Nat) (Z0 : n0 ≤ h0.size) (hz : q2 ≠ (0 : Int64)) :
    MetFree l (⟨"java/lang/Math", "floorDiv", "(JJ)J"⟩ : MethodName) (head1 (Jvm.Cond.code (⟨"java/lang/Math", "floorDiv", "(JJ)J"⟩ : MethodName) jdk_29_method_49_code 6 (some .long) :: ws) ({ frames := 0, cells := 0, slots := 0, locals := 0 } : Room)) (fun a U => a = #[(.long q1), (.long q2)] ∧ Z.Warmed39 U.vm ∧ U.heap = h0) (fun _ _ _ _ _ => True) (fun _ U o U' => ∃ v L, o = .returned v ∧ Q_rm4 Z q1 q2 h0 n0 v U'.heap L ∧ FrameEnd U o U' L ({ frames := 0, cells := 0, slots := 0, locals := 0 } : Room).cells ({ frames := 0, cells := 0, slots := 0, locals := 0 } : Room).slots) := by
  refine MetFree.of_bodySF (Jvm.Free.JP.mathPlain rfl (by decide +kernel)) hisR ?_
  intro p e s m args below meth c s₁ Bd hml0 hP hK
  obtain ⟨rfl, hZ, hh⟩ := hP
  have hx := Bd.exec
  have hby := Bd.bytes
  have hml : c.maxLocals = 6 := hml0
  have hown : s.vm.findClass "java/lang/Math" = some m.cls := findClass_of_methodNamed Bd.named
  have hnm := (name_of_methodNamed Bd.named Bd.method).1
  have X0 : Stand p l e ({ frames := 0, cells := 0, slots := 0, locals := 0 } : Room) s m #[(.long q1), (.long q2)] below meth c s₁ [] 0 0 := Stand.of_body Bd
  have e0 : s₁.heap = h0 := by rw [← hh, Bd.state]; rfl
  have N0 := Fr.nil n0
  have KR : Keep h0 h0 [] := Keep.refl h0 _
  have pre0 : ∀ t, Steps p.tables e below (s₁.setTop (mkF m 0 #[.val (.long q1), .second, .val (.long q2), .second, .unset, .unset] [])) t → Steps p.tables e below (s₁.setTop (entryFrame m #[(.long q1), (.long q2)] 6)) t := fun t k => castTop (ef_rm4 m (q1) (q2)) k
  have pre1 : ∀ t, Steps p.tables e below (s₁.setTop (mkF m 10 #[.val (.long q1), .second, .val (.long q2), .second, .val (.long (q1 / q2)), .second] [(.int (lcmpW (q1 ^^^ q2) (0 : Int64)))])) t → Steps p.tables e below (s₁.setTop (entryFrame m #[(.long q1), (.long q2)] 6)) t := fun t k => pre0 t (by
    show Steps p.tables e below (s₁.setTop (mkF m 0 #[.val (.long q1), .second, .val (.long q2), .second, .unset, .unset] [])) _
    refine XS.lloadN X0.here hx rfl (hb hby d4_0) rfl ?_
    show Steps p.tables e below (s₁.setTop (mkF m 1 #[.val (.long q1), .second, .val (.long q2), .second, .unset, .unset] [(.long q1)])) _
    refine XS.lloadN X0.here hx rfl (hb hby d4_1) rfl ?_
    show Steps p.tables e below (s₁.setTop (mkF m 2 #[.val (.long q1), .second, .val (.long q2), .second, .unset, .unset] [(.long q2), (.long q1)])) _
    refine XS.ldiv X0.here hx rfl (hb hby d4_2) rfl hz ?_
    show Steps p.tables e below (s₁.setTop (mkF m 3 #[.val (.long q1), .second, .val (.long q2), .second, .unset, .unset] [(.long (q1 / q2))])) _
    refine XS.lstore X0.here hx rfl (hb hby d4_3) rfl (l' := #[.val (.long q1), .second, .val (.long q2), .second, .val (.long (q1 / q2)), .second]) rfl ?_
    show Steps p.tables e below (s₁.setTop (mkF m 5 #[.val (.long q1), .second, .val (.long q2), .second, .val (.long (q1 / q2)), .second] [])) _
    refine XS.lloadN X0.here hx rfl (hb hby d4_5) rfl ?_
    show Steps p.tables e below (s₁.setTop (mkF m 6 #[.val (.long q1), .second, .val (.long q2), .second, .val (.long (q1 / q2)), .second] [(.long q1)])) _
    refine XS.lloadN X0.here hx rfl (hb hby d4_6) rfl ?_
    show Steps p.tables e below (s₁.setTop (mkF m 7 #[.val (.long q1), .second, .val (.long q2), .second, .val (.long (q1 / q2)), .second] [(.long q2), (.long q1)])) _
    refine XS.lxor X0.here hx rfl (hb hby d4_7) rfl ?_
    show Steps p.tables e below (s₁.setTop (mkF m 8 #[.val (.long q1), .second, .val (.long q2), .second, .val (.long (q1 / q2)), .second] [(.long (q1 ^^^ q2))])) _
    refine XS.lconst X0.here hx rfl (hb hby d4_8) ?_
    show Steps p.tables e below (s₁.setTop (mkF m 9 #[.val (.long q1), .second, .val (.long q2), .second, .val (.long (q1 / q2)), .second] [(.long (0 : Int64)), (.long (q1 ^^^ q2))])) _
    refine XS.lcmp X0.here hx rfl (hb hby d4_9) rfl ?_
    show Steps p.tables e below (s₁.setTop (mkF m 10 #[.val (.long q1), .second, .val (.long q2), .second, .val (.long (q1 / q2)), .second] [(.int (lcmpW (q1 ^^^ q2) (0 : Int64)))])) _
    exact k)
  by_cases hc2 : (q1 ^^^ q2) < (0 : Int64)
  · skip
    have pre3 : ∀ t, Steps p.tables e below (s₁.setTop (mkF m 19 #[.val (.long q1), .second, .val (.long q2), .second, .val (.long (q1 / q2)), .second] [(.int (lcmpW ((q1 / q2) * q2) q1))])) t → Steps p.tables e below (s₁.setTop (entryFrame m #[(.long q1), (.long q2)] 6)) t := fun t k => pre1 t (by
      refine XS.ifNo X0.here hx rfl (hb hby d4_10) rfl ((if0 _ _).trans (tlt ((lw_lt _ _).mpr hc2)).2.1) ?_
      show Steps p.tables e below (s₁.setTop (mkF m 13 #[.val (.long q1), .second, .val (.long q2), .second, .val (.long (q1 / q2)), .second] [])) _
      refine XS.lload X0.here hx rfl (hb hby d4_13) rfl ?_
      show Steps p.tables e below (s₁.setTop (mkF m 15 #[.val (.long q1), .second, .val (.long q2), .second, .val (.long (q1 / q2)), .second] [(.long (q1 / q2))])) _
      refine XS.lloadN X0.here hx rfl (hb hby d4_15) rfl ?_
      show Steps p.tables e below (s₁.setTop (mkF m 16 #[.val (.long q1), .second, .val (.long q2), .second, .val (.long (q1 / q2)), .second] [(.long q2), (.long (q1 / q2))])) _
      refine XS.lmul X0.here hx rfl (hb hby d4_16) rfl ?_
      show Steps p.tables e below (s₁.setTop (mkF m 17 #[.val (.long q1), .second, .val (.long q2), .second, .val (.long (q1 / q2)), .second] [(.long ((q1 / q2) * q2))])) _
      refine XS.lloadN X0.here hx rfl (hb hby d4_17) rfl ?_
      show Steps p.tables e below (s₁.setTop (mkF m 18 #[.val (.long q1), .second, .val (.long q2), .second, .val (.long (q1 / q2)), .second] [(.long q1), (.long ((q1 / q2) * q2))])) _
      refine XS.lcmp X0.here hx rfl (hb hby d4_18) rfl ?_
      show Steps p.tables e below (s₁.setTop (mkF m 19 #[.val (.long q1), .second, .val (.long q2), .second, .val (.long (q1 / q2)), .second] [(.int (lcmpW ((q1 / q2) * q2) q1))])) _
      exact k)
    by_cases hc4 : ((q1 / q2) * q2) = q1
    · skip
      obtain ⟨fs, hr, hrun, hended, hW, hsame⟩ := X0.leave (v := some (.long (q1 / q2))) (fun h => by rw [Bd.returns] at h; cases h)
      refine ⟨_, _, pre3 _ ?_, hrun, hended, _, _, rfl, ?_, ⟨_, rfl⟩, hW, hsame.mono (by decide) (by decide)⟩
      · skip
        refine XS.ifYes X0.here hx rfl (pc0 := 19) (pc' := 27) rfl (hb hby d4_19) rfl ((if0 _ _).trans (teq ((lw_eq _ _).mpr hc4)).1) (by decide) (by decide) ?_
        show Steps p.tables e below (s₁.setTop (mkF m 27 #[.val (.long q1), .second, .val (.long q2), .second, .val (.long (q1 / q2)), .second] [])) _
        refine XS.lload X0.here hx rfl (hb hby d4_27) rfl ?_
        show Steps p.tables e below (s₁.setTop (mkF m 29 #[.val (.long q1), .second, .val (.long q2), .second, .val (.long (q1 / q2)), .second] [(.long (q1 / q2))])) _
        jvm_step X0.here [X0.here.top, hx, (hb hby d4_29), X0.method', Bd.returns, narrow]
        first | (intro acts; rw [hr _ acts rfl rfl rfl]) | rw [hr _ _ rfl rfl rfl]
        exact Steps.refl _
      · show Q_rm4 Z q1 q2 h0 n0 _ s₁.heap _
        rw [e0]
        exact ⟨(by unfold own_fd; rw [if_pos hc2, if_pos hc4]), N0, rfl⟩
    · skip
      obtain ⟨fs, hr, hrun, hended, hW, hsame⟩ := X0.leave (v := some (.long ((q1 / q2) - (1 : Int64)))) (fun h => by rw [Bd.returns] at h; cases h)
      refine ⟨_, _, pre3 _ ?_, hrun, hended, _, _, rfl, ?_, ⟨_, rfl⟩, hW, hsame.mono (by decide) (by decide)⟩
      · skip
        refine XS.ifNo X0.here hx rfl (hb hby d4_19) rfl ((if0 _ _).trans (feq (fun q => hc4 ((lw_eq _ _).mp q))).1) ?_
        show Steps p.tables e below (s₁.setTop (mkF m 22 #[.val (.long q1), .second, .val (.long q2), .second, .val (.long (q1 / q2)), .second] [])) _
        refine XS.lload X0.here hx rfl (hb hby d4_22) rfl ?_
        show Steps p.tables e below (s₁.setTop (mkF m 24 #[.val (.long q1), .second, .val (.long q2), .second, .val (.long (q1 / q2)), .second] [(.long (q1 / q2))])) _
        refine XS.lconst X0.here hx rfl (hb hby d4_24) ?_
        show Steps p.tables e below (s₁.setTop (mkF m 25 #[.val (.long q1), .second, .val (.long q2), .second, .val (.long (q1 / q2)), .second] [(.long (1 : Int64)), (.long (q1 / q2))])) _
        refine XS.lsub X0.here hx rfl (hb hby d4_25) rfl ?_
        show Steps p.tables e below (s₁.setTop (mkF m 26 #[.val (.long q1), .second, .val (.long q2), .second, .val (.long (q1 / q2)), .second] [(.long ((q1 / q2) - (1 : Int64)))])) _
        jvm_step X0.here [X0.here.top, hx, (hb hby d4_26), X0.method', Bd.returns, narrow]
        first | (intro acts; rw [hr _ acts rfl rfl rfl]) | rw [hr _ _ rfl rfl rfl]
        exact Steps.refl _
      · show Q_rm4 Z q1 q2 h0 n0 _ s₁.heap _
        rw [e0]
        exact ⟨(by unfold own_fd; rw [if_pos hc2, if_neg hc4]), N0, rfl⟩
  · skip
    obtain ⟨fs, hr, hrun, hended, hW, hsame⟩ := X0.leave (v := some (.long (q1 / q2))) (fun h => by rw [Bd.returns] at h; cases h)
    refine ⟨_, _, pre1 _ ?_, hrun, hended, _, _, rfl, ?_, ⟨_, rfl⟩, hW, hsame.mono (by decide) (by decide)⟩
    · skip
      refine XS.ifYes X0.here hx rfl (pc0 := 10) (pc' := 27) rfl (hb hby d4_10) rfl ((if0 _ _).trans (flt (fun q => hc2 ((lw_lt _ _).mp q))).2.1) (by decide) (by decide) ?_
      show Steps p.tables e below (s₁.setTop (mkF m 27 #[.val (.long q1), .second, .val (.long q2), .second, .val (.long (q1 / q2)), .second] [])) _
      refine XS.lload X0.here hx rfl (hb hby d4_27) rfl ?_
      show Steps p.tables e below (s₁.setTop (mkF m 29 #[.val (.long q1), .second, .val (.long q2), .second, .val (.long (q1 / q2)), .second] [(.long (q1 / q2))])) _
      jvm_step X0.here [X0.here.top, hx, (hb hby d4_29), X0.method', Bd.returns, narrow]
      first | (intro acts; rw [hr _ acts rfl rfl rfl]) | rw [hr _ _ rfl rfl rfl]
      exact Steps.refl _
    · show Q_rm4 Z q1 q2 h0 n0 _ s₁.heap _
      rw [e0]
      exact ⟨(by unfold own_fd; rw [if_neg hc2]), N0, rfl⟩
theorem ef_rm1 (m : MethodId) (x0 : Addr) (x1 : Int64) (x2 : Int32) : entryFrame m #[(.ref x0), (.long x1), (.int x2)] 4 = mkF m 0 #[.val (.ref x0), .val (.long x1), .second, .val (.int x2)] [] := by first | (simp [entryFrame, mkF, argsToLocals, Value.category]; done) | rfl
def Q_rm1 (Z : State) (a1 : Addr) (q1 : Int64) (w_NO_ENTRIES : Addr) (h0 : Heap) (n0 : Nat) (v : Option Value) (h : Heap) (L : List Loc) : Prop := v = none ∧ Fr n0 L ∧ Keep h0 h [a1] ∧ Fld Z h a1 "com/example/okno/okno/AdmissionLog" "newest" "J" (.long (-9223372036854775808 : Int64)) ∧ Fld Z h a1 "com/example/okno/okno/AdmissionLog" "subWindows" "[J" (.ref w_NO_ENTRIES) ∧ Fld Z h a1 "com/example/okno/okno/AdmissionLog" "amounts" "[J" (.ref w_NO_ENTRIES) ∧ Fld Z h a1 "com/example/okno/okno/AdmissionLog" "oldestSubWindow" "J" (.long (9223372036854775807 : Int64)) ∧ Fld Z h a1 "com/example/okno/okno/AdmissionLog" "lastTime" "J" (.long (-9223372036854775808 : Int64)) ∧ Fld Z h a1 "com/example/okno/okno/AdmissionLog" "subWindowMillis" "J" (.long q1) ∧ Fld Z h a1 "com/example/okno/okno/AdmissionLog" "lastSubWindow" "J" (.long (own_fd (-9223372036854775808 : Int64) q1)) ∧ Fld Z h a1 "com/example/okno/okno/AdmissionLog" "shorterWindows" "[J" (.ref w_NO_ENTRIES) ∧ Fld Z h a1 "com/example/okno/okno/AdmissionLog" "total" "J" (.long (0 : Int64)) ∧ Fld Z h a1 "com/example/okno/okno/AdmissionLog" "newestSubWindow" "J" (.long (0 : Int64)) ∧ Fld Z h a1 "com/example/okno/okno/AdmissionLog" "newestSubWindowEnd" "J" (.long (0 : Int64)) ∧ Fld Z h a1 "com/example/okno/okno/AdmissionLog" "olderTotal" "J" (.long (0 : Int64))
set_option maxRecDepth 65536 in
set_option maxHeartbeats 40000000 in
theorem rm1 (l : Launch) (Z : State) (a0 : Array Value) (hw : ∀ d ∈ tables_1, d.before a0 Z = true) (ws : List Jvm.Cond) (a1 : Addr) (q1 : Int64) (w_NO_ENTRIES : Addr) (h0 : Heap) (n0 : Nat) (Z0 : n0 ≤ h0.size) (P0 : Exa Z h0 a1 "com/example/okno/okno/AdmissionLog") (P1 : n0 ≤ a1) (P2 : Old Z n0 h0) (P3 : Sta Z Z.heap "com/example/okno/okno/AdmissionLog" "NO_ENTRIES" "[J" (.ref w_NO_ENTRIES)) (hq : q1 ≠ (0 : Int64)) (P5 : Fld Z h0 a1 "com/example/okno/okno/AdmissionLog" "newest" "J" (.long (0 : Int64))) (P6 : Fld Z h0 a1 "com/example/okno/okno/AdmissionLog" "subWindows" "[J" .null) (P7 : Fld Z h0 a1 "com/example/okno/okno/AdmissionLog" "amounts" "[J" .null) (P8 : Fld Z h0 a1 "com/example/okno/okno/AdmissionLog" "oldestSubWindow" "J" (.long (0 : Int64))) (P9 : Fld Z h0 a1 "com/example/okno/okno/AdmissionLog" "lastTime" "J" (.long (0 : Int64))) (P10 : Fld Z h0 a1 "com/example/okno/okno/AdmissionLog" "subWindowMillis" "J" (.long (0 : Int64))) (P11 : Fld Z h0 a1 "com/example/okno/okno/AdmissionLog" "lastSubWindow" "J" (.long (0 : Int64))) (P12 : Fld Z h0 a1 "com/example/okno/okno/AdmissionLog" "shorterWindows" "[J" .null) (P13 : Fld Z h0 a1 "com/example/okno/okno/AdmissionLog" "total" "J" (.long (0 : Int64))) (P14 : Fld Z h0 a1 "com/example/okno/okno/AdmissionLog" "newestSubWindow" "J" (.long (0 : Int64))) (P15 : Fld Z h0 a1 "com/example/okno/okno/AdmissionLog" "newestSubWindowEnd" "J" (.long (0 : Int64))) (P16 : Fld Z h0 a1 "com/example/okno/okno/AdmissionLog" "olderTotal" "J" (.long (0 : Int64))) :
    MetFree l (⟨"com/example/okno/okno/AdmissionLog", "<init>", "(JI)V"⟩ : MethodName) (head1 (Jvm.Cond.code (⟨"com/example/okno/okno/AdmissionLog", "<init>", "(JI)V"⟩ : MethodName) prog_2_method_1_code 4 none :: ws) ({ frames := 2, cells := 0, slots := 0, locals := 24 } : Room)) (fun a U => a = #[(.ref a1), (.long q1), (.int (0 : Int32))] ∧ Z.Warmed39 U.vm ∧ U.heap = h0) (fun _ _ _ _ _ => True) (fun _ U o U' => ∃ v L, o = .returned v ∧ Q_rm1 Z a1 q1 w_NO_ENTRIES h0 n0 v U'.heap L ∧ FrameEnd U o U' L ({ frames := 2, cells := 0, slots := 0, locals := 24 } : Room).cells ({ frames := 2, cells := 0, slots := 0, locals := 24 } : Room).slots) := by
  refine MetFree.of_bodySF (plainFor_of_name pn_1) hisR ?_
  intro p e s m args below meth c s₁ Bd hml0 hP hK
  obtain ⟨rfl, hZ, hh⟩ := hP
  have hx := Bd.exec
  have hby := Bd.bytes
  have hml : c.maxLocals = 4 := hml0
  have hown : s.vm.findClass "com/example/okno/okno/AdmissionLog" = some m.cls := findClass_of_methodNamed Bd.named
  have hnm := (name_of_methodNamed Bd.named Bd.method).1
  have X0 : Stand p l e ({ frames := 2, cells := 0, slots := 0, locals := 24 } : Room) s m #[(.ref a1), (.long q1), (.int (0 : Int32))] below meth c s₁ [] 0 0 := Stand.of_body Bd
  have e0 : s₁.heap = h0 := by rw [← hh, Bd.state]; rfl
  have N0 := Fr.nil n0
  have KR : Keep h0 h0 [a1] := Keep.refl h0 _
  have pre0 : ∀ t, Steps p.tables e below (s₁.setTop (mkF m 0 #[.val (.ref a1), .val (.long q1), .second, .val (.int (0 : Int32))] [])) t → Steps p.tables e below (s₁.setTop (entryFrame m #[(.ref a1), (.long q1), (.int (0 : Int32))] 4)) t := fun t k => castTop (ef_rm1 m (a1) (q1) ((0 : Int32))) k
  obtain ⟨_, _, ⟨T1, L1, k1, n1⟩, -, X1, ⟨Lc1, hQ1, l1, y1, z1⟩, st1⟩ := X0.specialBack hx (y := (⟨"com/example/okno/okno/KeyTurn", "<init>", "()V"⟩ : MethodName)) rfl hown (mvT hZ (kw8 hw)) (mvT hZ (kw9 hw)) (mvT hZ (kw12 hw)) (by decide) (backOf (W := 0) (rm2 l Z a0 hw [] a1 h0 n0 Z0 ) hZ (kw12 hw) (kw11 hw) (by decide) (by decide)) (g := (mkF m 1 #[.val (.ref a1), .val (.long q1), .second, .val (.int (0 : Int32))] [(.ref a1)])) rfl (by rw [hml]; rfl) (Steps.refl _) (a := a1) (argsL := []) (rest := []) (lenOf pd_0 rfl) rfl (by show 2 * 0 + _ ≤ _; exact Nat.le_of_eq rfl) (hb hby d1_1) (fun _ _ => ⟨rfl, e0, (by decide : 0 + 0 ≤ _), (by decide : 0 + 0 ≤ _)⟩)
  dsimp only [Pt.U, Pt.locs, Pt.cells, Pt.slots] at X1 l1 y1 z1 st1 hQ1
  subst l1 y1 z1
  obtain ⟨rfl, N1q, e1⟩ := hQ1
  have N1 := Fr.app N0 N1q
  obtain ⟨T2, h2, X2, e2, W2, st2⟩ := putF X1 hx hZ hown (host := "") (Or.inl (kw17 hw)) Via.refl e1 P5 P0 (Or.inl (kw18 hw)) (kw3 hw) (ty := .long) (by decide) rfl rfl (g := (mkF m 8 #[.val (.ref a1), .val (.long q1), .second, .val (.int (0 : Int32))] [(.long (-9223372036854775808 : Int64)), (.ref a1)])) rfl rfl (hb hby d1_8)
  have Z2 : n0 ≤ h2.size := Nat.le_trans Z0 (Keep.of_wr W2).1
  have K2 : Keep h0 h2 [a1] := KR.wr W2 (Or.inl (List.mem_of_getElem? (i := 0) rfl))
  have N2 := Fr.snoc X2 N1 P1
  have Fw2 : Fld Z h2 a1 "com/example/okno/okno/AdmissionLog" "newest" "J" (.long (-9223372036854775808 : Int64)) := P5.same W2
  have f4 : Old Z n0 h2 := (P2.wr W2 P1)
  obtain ⟨T3, X3, e3, st3⟩ := getS2 X2 hx hZ hown (host := "") (Or.inl (kw19 hw)) Via.refl e2 (Sta.ext f4.2 P3) (g := (mkF m 12 #[.val (.ref a1), .val (.long q1), .second, .val (.int (0 : Int32))] [(.ref a1)])) rfl (hb hby d1_12)
  have f5 : Exa Z h2 a1 "com/example/okno/okno/AdmissionLog" := (P0.wr W2)
  have f6 : Fld Z h2 a1 "com/example/okno/okno/AdmissionLog" "subWindows" "[J" .null := (P6.other W2 (Or.inr (slot_ne (Or.inl (kw22 hw)) (Or.inl (kw18 hw)) (by decide) (t := (.array .long)) (t' := .long) (by decide) (by decide))))
  obtain ⟨T7, h7, X7, e7, W7, st7⟩ := putF X3 hx hZ hown (host := "") (Or.inl (kw21 hw)) Via.refl e3 f6 f5 (Or.inl (kw22 hw)) (kw3 hw) (ty := (.array .long)) (by decide) rfl rfl (g := (mkF m 15 #[.val (.ref a1), .val (.long q1), .second, .val (.int (0 : Int32))] [(.ref w_NO_ENTRIES), (.ref a1)])) rfl rfl (hb hby d1_15)
  have Z7 : n0 ≤ h7.size := Nat.le_trans Z2 (Keep.of_wr W7).1
  have K7 : Keep h0 h7 [a1] := K2.wr W7 (Or.inl (List.mem_of_getElem? (i := 0) rfl))
  have N7 := Fr.snoc X7 N2 P1
  have Fw7 : Fld Z h7 a1 "com/example/okno/okno/AdmissionLog" "subWindows" "[J" (.ref w_NO_ENTRIES) := f6.same W7
  have f9 : Old Z n0 h7 := (f4.wr W7 P1)
  obtain ⟨T8, X8, e8, st8⟩ := getS2 X7 hx hZ hown (host := "") (Or.inl (kw19 hw)) Via.refl e7 (Sta.ext f9.2 P3) (g := (mkF m 19 #[.val (.ref a1), .val (.long q1), .second, .val (.int (0 : Int32))] [(.ref a1)])) rfl (hb hby d1_19)
  have f10 : Exa Z h7 a1 "com/example/okno/okno/AdmissionLog" := (f5.wr W7)
  have f11 : Fld Z h7 a1 "com/example/okno/okno/AdmissionLog" "amounts" "[J" .null := ((P7.other W2 (Or.inr (slot_ne (Or.inl (kw24 hw)) (Or.inl (kw18 hw)) (by decide) (t := (.array .long)) (t' := .long) (by decide) (by decide)))).other W7 (Or.inr (slot_ne (Or.inl (kw24 hw)) (Or.inl (kw22 hw)) (by decide) (t := (.array .long)) (t' := (.array .long)) (by decide) (by decide))))
  obtain ⟨T12, h12, X12, e12, W12, st12⟩ := putF X8 hx hZ hown (host := "") (Or.inl (kw23 hw)) Via.refl e8 f11 f10 (Or.inl (kw24 hw)) (kw3 hw) (ty := (.array .long)) (by decide) rfl rfl (g := (mkF m 22 #[.val (.ref a1), .val (.long q1), .second, .val (.int (0 : Int32))] [(.ref w_NO_ENTRIES), (.ref a1)])) rfl rfl (hb hby d1_22)
  have Z12 : n0 ≤ h12.size := Nat.le_trans Z7 (Keep.of_wr W12).1
  have K12 : Keep h0 h12 [a1] := K7.wr W12 (Or.inl (List.mem_of_getElem? (i := 0) rfl))
  have N12 := Fr.snoc X12 N7 P1
  have Fw12 : Fld Z h12 a1 "com/example/okno/okno/AdmissionLog" "amounts" "[J" (.ref w_NO_ENTRIES) := f11.same W12
  have f13 : Exa Z h12 a1 "com/example/okno/okno/AdmissionLog" := (f10.wr W12)
  have f14 : Fld Z h12 a1 "com/example/okno/okno/AdmissionLog" "oldestSubWindow" "J" (.long (0 : Int64)) := (((P8.other W2 (Or.inr (slot_ne (Or.inl (kw27 hw)) (Or.inl (kw18 hw)) (by decide) (t := .long) (t' := .long) (by decide) (by decide)))).other W7 (Or.inr (slot_ne (Or.inl (kw27 hw)) (Or.inl (kw22 hw)) (by decide) (t := .long) (t' := (.array .long)) (by decide) (by decide)))).other W12 (Or.inr (slot_ne (Or.inl (kw27 hw)) (Or.inl (kw24 hw)) (by decide) (t := .long) (t' := (.array .long)) (by decide) (by decide))))
  obtain ⟨T15, h15, X15, e15, W15, st15⟩ := putF X12 hx hZ hown (host := "") (Or.inl (kw26 hw)) Via.refl e12 f14 f13 (Or.inl (kw27 hw)) (kw3 hw) (ty := .long) (by decide) rfl rfl (g := (mkF m 29 #[.val (.ref a1), .val (.long q1), .second, .val (.int (0 : Int32))] [(.long (9223372036854775807 : Int64)), (.ref a1)])) rfl rfl (hb hby d1_29)
  have Z15 : n0 ≤ h15.size := Nat.le_trans Z12 (Keep.of_wr W15).1
  have K15 : Keep h0 h15 [a1] := K12.wr W15 (Or.inl (List.mem_of_getElem? (i := 0) rfl))
  have N15 := Fr.snoc X15 N12 P1
  have Fw15 : Fld Z h15 a1 "com/example/okno/okno/AdmissionLog" "oldestSubWindow" "J" (.long (9223372036854775807 : Int64)) := f14.same W15
  have f16 : Exa Z h15 a1 "com/example/okno/okno/AdmissionLog" := (f13.wr W15)
  have f17 : Fld Z h15 a1 "com/example/okno/okno/AdmissionLog" "lastTime" "J" (.long (0 : Int64)) := ((((P9.other W2 (Or.inr (slot_ne (Or.inl (kw29 hw)) (Or.inl (kw18 hw)) (by decide) (t := .long) (t' := .long) (by decide) (by decide)))).other W7 (Or.inr (slot_ne (Or.inl (kw29 hw)) (Or.inl (kw22 hw)) (by decide) (t := .long) (t' := (.array .long)) (by decide) (by decide)))).other W12 (Or.inr (slot_ne (Or.inl (kw29 hw)) (Or.inl (kw24 hw)) (by decide) (t := .long) (t' := (.array .long)) (by decide) (by decide)))).other W15 (Or.inr (slot_ne (Or.inl (kw29 hw)) (Or.inl (kw27 hw)) (by decide) (t := .long) (t' := .long) (by decide) (by decide))))
  obtain ⟨T18, h18, X18, e18, W18, st18⟩ := putF X15 hx hZ hown (host := "") (Or.inl (kw28 hw)) Via.refl e15 f17 f16 (Or.inl (kw29 hw)) (kw3 hw) (ty := .long) (by decide) rfl rfl (g := (mkF m 36 #[.val (.ref a1), .val (.long q1), .second, .val (.int (0 : Int32))] [(.long (-9223372036854775808 : Int64)), (.ref a1)])) rfl rfl (hb hby d1_36)
  have Z18 : n0 ≤ h18.size := Nat.le_trans Z15 (Keep.of_wr W18).1
  have K18 : Keep h0 h18 [a1] := K15.wr W18 (Or.inl (List.mem_of_getElem? (i := 0) rfl))
  have N18 := Fr.snoc X18 N15 P1
  have Fw18 : Fld Z h18 a1 "com/example/okno/okno/AdmissionLog" "lastTime" "J" (.long (-9223372036854775808 : Int64)) := f17.same W18
  have f19 : Exa Z h18 a1 "com/example/okno/okno/AdmissionLog" := (f16.wr W18)
  have f20 : Fld Z h18 a1 "com/example/okno/okno/AdmissionLog" "subWindowMillis" "J" (.long (0 : Int64)) := (((((P10.other W2 (Or.inr (slot_ne (Or.inr (kw31 hw)) (Or.inl (kw18 hw)) (by decide) (t := .long) (t' := .long) (by decide) (by decide)))).other W7 (Or.inr (slot_ne (Or.inr (kw31 hw)) (Or.inl (kw22 hw)) (by decide) (t := .long) (t' := (.array .long)) (by decide) (by decide)))).other W12 (Or.inr (slot_ne (Or.inr (kw31 hw)) (Or.inl (kw24 hw)) (by decide) (t := .long) (t' := (.array .long)) (by decide) (by decide)))).other W15 (Or.inr (slot_ne (Or.inr (kw31 hw)) (Or.inl (kw27 hw)) (by decide) (t := .long) (t' := .long) (by decide) (by decide)))).other W18 (Or.inr (slot_ne (Or.inr (kw31 hw)) (Or.inl (kw29 hw)) (by decide) (t := .long) (t' := .long) (by decide) (by decide))))
  obtain ⟨T21, h21, X21, e21, W21, st21⟩ := putF X18 hx hZ hown (host := "") (Or.inl (kw30 hw)) Via.refl e18 f20 f19 (Or.inr ⟨(kw31 hw), rfl, hnm⟩) (kw3 hw) (ty := .long) (by decide) rfl rfl (g := (mkF m 41 #[.val (.ref a1), .val (.long q1), .second, .val (.int (0 : Int32))] [(.long q1), (.ref a1)])) rfl rfl (hb hby d1_41)
  have Z21 : n0 ≤ h21.size := Nat.le_trans Z18 (Keep.of_wr W21).1
  have K21 : Keep h0 h21 [a1] := K18.wr W21 (Or.inl (List.mem_of_getElem? (i := 0) rfl))
  have N21 := Fr.snoc X21 N18 P1
  have Fw21 : Fld Z h21 a1 "com/example/okno/okno/AdmissionLog" "subWindowMillis" "J" (.long q1) := f20.same W21
  have f22 : Fld Z h21 a1 "com/example/okno/okno/AdmissionLog" "lastTime" "J" (.long (-9223372036854775808 : Int64)) := (Fw18.other W21 (Or.inr (slot_ne (Or.inl (kw29 hw)) (Or.inr (kw31 hw)) (by decide) (t := .long) (t' := .long) (by decide) (by decide))))
  obtain ⟨T23, X23, e23, st23⟩ := getF X21 hx hZ hown (host := "") (Or.inl (kw28 hw)) Via.refl e21 f22 (g := (mkF m 46 #[.val (.ref a1), .val (.long q1), .second, .val (.int (0 : Int32))] [(.ref a1), (.ref a1)])) rfl rfl (hb hby d1_46)
  obtain ⟨_, _, ⟨T24, L24, k24, n24⟩, -, X24, ⟨Lc24, hQ24, l24, y24, z24⟩, st24⟩ := Jvm.LawKit.callS X23 hx (y := (⟨"java/lang/Math", "floorDiv", "(JJ)J"⟩ : MethodName)) hown (mvT hZ (kw32 hw)) (mvT hZ (kw33 hw)) (mvT hZ (kw34 hw)) (mvT hZ (kw35 hw)) (by decide) (backOf (W := 1) (rm4 l Z a0 hw [] (-9223372036854775808 : Int64) q1 h21 n0 Z21 hq) hZ (kw35 hw) (kw34 hw) (by decide) (by decide)) (g := (mkF m 50 #[.val (.ref a1), .val (.long q1), .second, .val (.int (0 : Int32))] [(.long q1), (.long (-9223372036854775808 : Int64)), (.ref a1)])) rfl (by rw [hml]; rfl) (argsL := [(.long (-9223372036854775808 : Int64)), (.long q1)]) (rest := [(.ref a1)]) (lenOf pd_1 rfl) rfl (by show 2 * 0 + _ ≤ _; exact Nat.le_of_eq rfl) (hb hby d1_50) (fun _ _ => ⟨rfl, e23, (by decide : 0 + 0 ≤ _), (by decide : 0 + 0 ≤ _)⟩)
  dsimp only [Pt.U, Pt.locs, Pt.cells, Pt.slots] at X24 l24 y24 z24 st24 hQ24
  subst l24 y24 z24
  obtain ⟨rfl, N24q, e24⟩ := hQ24
  have N24 := Fr.app N21 N24q
  have f25 : Exa Z h21 a1 "com/example/okno/okno/AdmissionLog" := (f19.wr W21)
  have f26 : Fld Z h21 a1 "com/example/okno/okno/AdmissionLog" "lastSubWindow" "J" (.long (0 : Int64)) := ((((((P11.other W2 (Or.inr (slot_ne (Or.inl (kw37 hw)) (Or.inl (kw18 hw)) (by decide) (t := .long) (t' := .long) (by decide) (by decide)))).other W7 (Or.inr (slot_ne (Or.inl (kw37 hw)) (Or.inl (kw22 hw)) (by decide) (t := .long) (t' := (.array .long)) (by decide) (by decide)))).other W12 (Or.inr (slot_ne (Or.inl (kw37 hw)) (Or.inl (kw24 hw)) (by decide) (t := .long) (t' := (.array .long)) (by decide) (by decide)))).other W15 (Or.inr (slot_ne (Or.inl (kw37 hw)) (Or.inl (kw27 hw)) (by decide) (t := .long) (t' := .long) (by decide) (by decide)))).other W18 (Or.inr (slot_ne (Or.inl (kw37 hw)) (Or.inl (kw29 hw)) (by decide) (t := .long) (t' := .long) (by decide) (by decide)))).other W21 (Or.inr (slot_ne (Or.inl (kw37 hw)) (Or.inr (kw31 hw)) (by decide) (t := .long) (t' := .long) (by decide) (by decide))))
  obtain ⟨T27, h27, X27, e27, W27, st27⟩ := putF X24 hx hZ hown (host := "") (Or.inl (kw36 hw)) Via.refl e24 f26 f25 (Or.inl (kw37 hw)) (kw3 hw) (ty := .long) (by decide) rfl rfl (g := (mkF m 53 #[.val (.ref a1), .val (.long q1), .second, .val (.int (0 : Int32))] [(.long (own_fd (-9223372036854775808 : Int64) q1)), (.ref a1)])) rfl rfl (hb hby d1_53)
  have Z27 : n0 ≤ h27.size := Nat.le_trans Z21 (Keep.of_wr W27).1
  have K27 : Keep h0 h27 [a1] := K21.wr W27 (Or.inl (List.mem_of_getElem? (i := 0) rfl))
  have N27 := Fr.snoc X27 N24 P1
  have Fw27 : Fld Z h27 a1 "com/example/okno/okno/AdmissionLog" "lastSubWindow" "J" (.long (own_fd (-9223372036854775808 : Int64) q1)) := f26.same W27
  have f29 : Old Z n0 h27 := (((((f9.wr W12 P1).wr W15 P1).wr W18 P1).wr W21 P1).wr W27 P1)
  obtain ⟨T28, X28, e28, st28⟩ := getS2 X27 hx hZ hown (host := "") (Or.inl (kw19 hw)) Via.refl e27 (Sta.ext f29.2 P3) (g := (mkF m 61 #[.val (.ref a1), .val (.long q1), .second, .val (.int (0 : Int32))] [(.ref a1)])) rfl (hb hby d1_61)
  have f30 : Exa Z h27 a1 "com/example/okno/okno/AdmissionLog" := (f25.wr W27)
  have f31 : Fld Z h27 a1 "com/example/okno/okno/AdmissionLog" "shorterWindows" "[J" .null := (((((((P12.other W2 (Or.inr (slot_ne (Or.inr (kw39 hw)) (Or.inl (kw18 hw)) (by decide) (t := (.array .long)) (t' := .long) (by decide) (by decide)))).other W7 (Or.inr (slot_ne (Or.inr (kw39 hw)) (Or.inl (kw22 hw)) (by decide) (t := (.array .long)) (t' := (.array .long)) (by decide) (by decide)))).other W12 (Or.inr (slot_ne (Or.inr (kw39 hw)) (Or.inl (kw24 hw)) (by decide) (t := (.array .long)) (t' := (.array .long)) (by decide) (by decide)))).other W15 (Or.inr (slot_ne (Or.inr (kw39 hw)) (Or.inl (kw27 hw)) (by decide) (t := (.array .long)) (t' := .long) (by decide) (by decide)))).other W18 (Or.inr (slot_ne (Or.inr (kw39 hw)) (Or.inl (kw29 hw)) (by decide) (t := (.array .long)) (t' := .long) (by decide) (by decide)))).other W21 (Or.inr (slot_ne (Or.inr (kw39 hw)) (Or.inr (kw31 hw)) (by decide) (t := (.array .long)) (t' := .long) (by decide) (by decide)))).other W27 (Or.inr (slot_ne (Or.inr (kw39 hw)) (Or.inl (kw37 hw)) (by decide) (t := (.array .long)) (t' := .long) (by decide) (by decide))))
  obtain ⟨T32, h32, X32, e32, W32, st32⟩ := putF X28 hx hZ hown (host := "") (Or.inl (kw38 hw)) Via.refl e28 f31 f30 (Or.inr ⟨(kw39 hw), rfl, hnm⟩) (kw3 hw) (ty := (.array .long)) (by decide) rfl rfl (g := (mkF m 72 #[.val (.ref a1), .val (.long q1), .second, .val (.int (0 : Int32))] [(.ref w_NO_ENTRIES), (.ref a1)])) rfl rfl (hb hby d1_72)
  have Z32 : n0 ≤ h32.size := Nat.le_trans Z27 (Keep.of_wr W32).1
  have K32 : Keep h0 h32 [a1] := K27.wr W32 (Or.inl (List.mem_of_getElem? (i := 0) rfl))
  have N32 := Fr.snoc X32 N27 P1
  have Fw32 : Fld Z h32 a1 "com/example/okno/okno/AdmissionLog" "shorterWindows" "[J" (.ref w_NO_ENTRIES) := f31.same W32
  have f33 : Fld Z h32 a1 "com/example/okno/okno/AdmissionLog" "newest" "J" (.long (-9223372036854775808 : Int64)) := (((((((Fw2.other W7 (Or.inr (slot_ne (Or.inl (kw18 hw)) (Or.inl (kw22 hw)) (by decide) (t := .long) (t' := (.array .long)) (by decide) (by decide)))).other W12 (Or.inr (slot_ne (Or.inl (kw18 hw)) (Or.inl (kw24 hw)) (by decide) (t := .long) (t' := (.array .long)) (by decide) (by decide)))).other W15 (Or.inr (slot_ne (Or.inl (kw18 hw)) (Or.inl (kw27 hw)) (by decide) (t := .long) (t' := .long) (by decide) (by decide)))).other W18 (Or.inr (slot_ne (Or.inl (kw18 hw)) (Or.inl (kw29 hw)) (by decide) (t := .long) (t' := .long) (by decide) (by decide)))).other W21 (Or.inr (slot_ne (Or.inl (kw18 hw)) (Or.inr (kw31 hw)) (by decide) (t := .long) (t' := .long) (by decide) (by decide)))).other W27 (Or.inr (slot_ne (Or.inl (kw18 hw)) (Or.inl (kw37 hw)) (by decide) (t := .long) (t' := .long) (by decide) (by decide)))).other W32 (Or.inr (slot_ne (Or.inl (kw18 hw)) (Or.inr (kw39 hw)) (by decide) (t := .long) (t' := (.array .long)) (by decide) (by decide))))
  have f34 : Fld Z h32 a1 "com/example/okno/okno/AdmissionLog" "subWindows" "[J" (.ref w_NO_ENTRIES) := ((((((Fw7.other W12 (Or.inr (slot_ne (Or.inl (kw22 hw)) (Or.inl (kw24 hw)) (by decide) (t := (.array .long)) (t' := (.array .long)) (by decide) (by decide)))).other W15 (Or.inr (slot_ne (Or.inl (kw22 hw)) (Or.inl (kw27 hw)) (by decide) (t := (.array .long)) (t' := .long) (by decide) (by decide)))).other W18 (Or.inr (slot_ne (Or.inl (kw22 hw)) (Or.inl (kw29 hw)) (by decide) (t := (.array .long)) (t' := .long) (by decide) (by decide)))).other W21 (Or.inr (slot_ne (Or.inl (kw22 hw)) (Or.inr (kw31 hw)) (by decide) (t := (.array .long)) (t' := .long) (by decide) (by decide)))).other W27 (Or.inr (slot_ne (Or.inl (kw22 hw)) (Or.inl (kw37 hw)) (by decide) (t := (.array .long)) (t' := .long) (by decide) (by decide)))).other W32 (Or.inr (slot_ne (Or.inl (kw22 hw)) (Or.inr (kw39 hw)) (by decide) (t := (.array .long)) (t' := (.array .long)) (by decide) (by decide))))
  have f35 : Fld Z h32 a1 "com/example/okno/okno/AdmissionLog" "amounts" "[J" (.ref w_NO_ENTRIES) := (((((Fw12.other W15 (Or.inr (slot_ne (Or.inl (kw24 hw)) (Or.inl (kw27 hw)) (by decide) (t := (.array .long)) (t' := .long) (by decide) (by decide)))).other W18 (Or.inr (slot_ne (Or.inl (kw24 hw)) (Or.inl (kw29 hw)) (by decide) (t := (.array .long)) (t' := .long) (by decide) (by decide)))).other W21 (Or.inr (slot_ne (Or.inl (kw24 hw)) (Or.inr (kw31 hw)) (by decide) (t := (.array .long)) (t' := .long) (by decide) (by decide)))).other W27 (Or.inr (slot_ne (Or.inl (kw24 hw)) (Or.inl (kw37 hw)) (by decide) (t := (.array .long)) (t' := .long) (by decide) (by decide)))).other W32 (Or.inr (slot_ne (Or.inl (kw24 hw)) (Or.inr (kw39 hw)) (by decide) (t := (.array .long)) (t' := (.array .long)) (by decide) (by decide))))
  have f36 : Fld Z h32 a1 "com/example/okno/okno/AdmissionLog" "oldestSubWindow" "J" (.long (9223372036854775807 : Int64)) := ((((Fw15.other W18 (Or.inr (slot_ne (Or.inl (kw27 hw)) (Or.inl (kw29 hw)) (by decide) (t := .long) (t' := .long) (by decide) (by decide)))).other W21 (Or.inr (slot_ne (Or.inl (kw27 hw)) (Or.inr (kw31 hw)) (by decide) (t := .long) (t' := .long) (by decide) (by decide)))).other W27 (Or.inr (slot_ne (Or.inl (kw27 hw)) (Or.inl (kw37 hw)) (by decide) (t := .long) (t' := .long) (by decide) (by decide)))).other W32 (Or.inr (slot_ne (Or.inl (kw27 hw)) (Or.inr (kw39 hw)) (by decide) (t := .long) (t' := (.array .long)) (by decide) (by decide))))
  have f37 : Fld Z h32 a1 "com/example/okno/okno/AdmissionLog" "lastTime" "J" (.long (-9223372036854775808 : Int64)) := ((f22.other W27 (Or.inr (slot_ne (Or.inl (kw29 hw)) (Or.inl (kw37 hw)) (by decide) (t := .long) (t' := .long) (by decide) (by decide)))).other W32 (Or.inr (slot_ne (Or.inl (kw29 hw)) (Or.inr (kw39 hw)) (by decide) (t := .long) (t' := (.array .long)) (by decide) (by decide))))
  have f38 : Fld Z h32 a1 "com/example/okno/okno/AdmissionLog" "subWindowMillis" "J" (.long q1) := ((Fw21.other W27 (Or.inr (slot_ne (Or.inr (kw31 hw)) (Or.inl (kw37 hw)) (by decide) (t := .long) (t' := .long) (by decide) (by decide)))).other W32 (Or.inr (slot_ne (Or.inr (kw31 hw)) (Or.inr (kw39 hw)) (by decide) (t := .long) (t' := (.array .long)) (by decide) (by decide))))
  have f39 : Fld Z h32 a1 "com/example/okno/okno/AdmissionLog" "lastSubWindow" "J" (.long (own_fd (-9223372036854775808 : Int64) q1)) := (Fw27.other W32 (Or.inr (slot_ne (Or.inl (kw37 hw)) (Or.inr (kw39 hw)) (by decide) (t := .long) (t' := (.array .long)) (by decide) (by decide))))
  have f40 : Fld Z h32 a1 "com/example/okno/okno/AdmissionLog" "total" "J" (.long (0 : Int64)) := ((((((((P13.other W2 (Or.inr (slot_ne (Or.inl (kw46 hw)) (Or.inl (kw18 hw)) (by decide) (t := .long) (t' := .long) (by decide) (by decide)))).other W7 (Or.inr (slot_ne (Or.inl (kw46 hw)) (Or.inl (kw22 hw)) (by decide) (t := .long) (t' := (.array .long)) (by decide) (by decide)))).other W12 (Or.inr (slot_ne (Or.inl (kw46 hw)) (Or.inl (kw24 hw)) (by decide) (t := .long) (t' := (.array .long)) (by decide) (by decide)))).other W15 (Or.inr (slot_ne (Or.inl (kw46 hw)) (Or.inl (kw27 hw)) (by decide) (t := .long) (t' := .long) (by decide) (by decide)))).other W18 (Or.inr (slot_ne (Or.inl (kw46 hw)) (Or.inl (kw29 hw)) (by decide) (t := .long) (t' := .long) (by decide) (by decide)))).other W21 (Or.inr (slot_ne (Or.inl (kw46 hw)) (Or.inr (kw31 hw)) (by decide) (t := .long) (t' := .long) (by decide) (by decide)))).other W27 (Or.inr (slot_ne (Or.inl (kw46 hw)) (Or.inl (kw37 hw)) (by decide) (t := .long) (t' := .long) (by decide) (by decide)))).other W32 (Or.inr (slot_ne (Or.inl (kw46 hw)) (Or.inr (kw39 hw)) (by decide) (t := .long) (t' := (.array .long)) (by decide) (by decide))))
  have f41 : Fld Z h32 a1 "com/example/okno/okno/AdmissionLog" "newestSubWindow" "J" (.long (0 : Int64)) := ((((((((P14.other W2 (Or.inr (slot_ne (Or.inl (kw65 hw)) (Or.inl (kw18 hw)) (by decide) (t := .long) (t' := .long) (by decide) (by decide)))).other W7 (Or.inr (slot_ne (Or.inl (kw65 hw)) (Or.inl (kw22 hw)) (by decide) (t := .long) (t' := (.array .long)) (by decide) (by decide)))).other W12 (Or.inr (slot_ne (Or.inl (kw65 hw)) (Or.inl (kw24 hw)) (by decide) (t := .long) (t' := (.array .long)) (by decide) (by decide)))).other W15 (Or.inr (slot_ne (Or.inl (kw65 hw)) (Or.inl (kw27 hw)) (by decide) (t := .long) (t' := .long) (by decide) (by decide)))).other W18 (Or.inr (slot_ne (Or.inl (kw65 hw)) (Or.inl (kw29 hw)) (by decide) (t := .long) (t' := .long) (by decide) (by decide)))).other W21 (Or.inr (slot_ne (Or.inl (kw65 hw)) (Or.inr (kw31 hw)) (by decide) (t := .long) (t' := .long) (by decide) (by decide)))).other W27 (Or.inr (slot_ne (Or.inl (kw65 hw)) (Or.inl (kw37 hw)) (by decide) (t := .long) (t' := .long) (by decide) (by decide)))).other W32 (Or.inr (slot_ne (Or.inl (kw65 hw)) (Or.inr (kw39 hw)) (by decide) (t := .long) (t' := (.array .long)) (by decide) (by decide))))
  have f42 : Fld Z h32 a1 "com/example/okno/okno/AdmissionLog" "newestSubWindowEnd" "J" (.long (0 : Int64)) := ((((((((P15.other W2 (Or.inr (slot_ne (Or.inl (kw67 hw)) (Or.inl (kw18 hw)) (by decide) (t := .long) (t' := .long) (by decide) (by decide)))).other W7 (Or.inr (slot_ne (Or.inl (kw67 hw)) (Or.inl (kw22 hw)) (by decide) (t := .long) (t' := (.array .long)) (by decide) (by decide)))).other W12 (Or.inr (slot_ne (Or.inl (kw67 hw)) (Or.inl (kw24 hw)) (by decide) (t := .long) (t' := (.array .long)) (by decide) (by decide)))).other W15 (Or.inr (slot_ne (Or.inl (kw67 hw)) (Or.inl (kw27 hw)) (by decide) (t := .long) (t' := .long) (by decide) (by decide)))).other W18 (Or.inr (slot_ne (Or.inl (kw67 hw)) (Or.inl (kw29 hw)) (by decide) (t := .long) (t' := .long) (by decide) (by decide)))).other W21 (Or.inr (slot_ne (Or.inl (kw67 hw)) (Or.inr (kw31 hw)) (by decide) (t := .long) (t' := .long) (by decide) (by decide)))).other W27 (Or.inr (slot_ne (Or.inl (kw67 hw)) (Or.inl (kw37 hw)) (by decide) (t := .long) (t' := .long) (by decide) (by decide)))).other W32 (Or.inr (slot_ne (Or.inl (kw67 hw)) (Or.inr (kw39 hw)) (by decide) (t := .long) (t' := (.array .long)) (by decide) (by decide))))
  have f43 : Fld Z h32 a1 "com/example/okno/okno/AdmissionLog" "olderTotal" "J" (.long (0 : Int64)) := ((((((((P16.other W2 (Or.inr (slot_ne (Or.inl (kw95 hw)) (Or.inl (kw18 hw)) (by decide) (t := .long) (t' := .long) (by decide) (by decide)))).other W7 (Or.inr (slot_ne (Or.inl (kw95 hw)) (Or.inl (kw22 hw)) (by decide) (t := .long) (t' := (.array .long)) (by decide) (by decide)))).other W12 (Or.inr (slot_ne (Or.inl (kw95 hw)) (Or.inl (kw24 hw)) (by decide) (t := .long) (t' := (.array .long)) (by decide) (by decide)))).other W15 (Or.inr (slot_ne (Or.inl (kw95 hw)) (Or.inl (kw27 hw)) (by decide) (t := .long) (t' := .long) (by decide) (by decide)))).other W18 (Or.inr (slot_ne (Or.inl (kw95 hw)) (Or.inl (kw29 hw)) (by decide) (t := .long) (t' := .long) (by decide) (by decide)))).other W21 (Or.inr (slot_ne (Or.inl (kw95 hw)) (Or.inr (kw31 hw)) (by decide) (t := .long) (t' := .long) (by decide) (by decide)))).other W27 (Or.inr (slot_ne (Or.inl (kw95 hw)) (Or.inl (kw37 hw)) (by decide) (t := .long) (t' := .long) (by decide) (by decide)))).other W32 (Or.inr (slot_ne (Or.inl (kw95 hw)) (Or.inr (kw39 hw)) (by decide) (t := .long) (t' := (.array .long)) (by decide) (by decide))))
  obtain ⟨fs, hr, hrun, hended, hW, hsame⟩ := X32.leave (v := none) (fun _ => rfl)
  refine ⟨_, _, pre0 _ ?_, hrun, hended, _, _, rfl, ?_, ⟨_, rfl⟩, hW, hsame.mono (by decide) (by decide)⟩
  · skip
    show Steps p.tables e below (s₁.setTop (mkF m 0 #[.val (.ref a1), .val (.long q1), .second, .val (.int (0 : Int32))] [])) _
    refine XS.aloadN X0.here hx rfl (hb hby d1_0) rfl rfl ?_
    show Steps p.tables e below (s₁.setTop (mkF m 1 #[.val (.ref a1), .val (.long q1), .second, .val (.int (0 : Int32))] [(.ref a1)])) _
    refine st1.trans ?_
    show Steps p.tables e below (T1.setTop (mkF m 4 #[.val (.ref a1), .val (.long q1), .second, .val (.int (0 : Int32))] [])) _
    refine XS.aloadN X1.here hx rfl (hb hby d1_4) rfl rfl ?_
    show Steps p.tables e below (T1.setTop (mkF m 5 #[.val (.ref a1), .val (.long q1), .second, .val (.int (0 : Int32))] [(.ref a1)])) _
    refine X1.ldc2Long hx hown (mvT hZ (kw16 hw)) (g := (mkF m 5 #[.val (.ref a1), .val (.long q1), .second, .val (.int (0 : Int32))] [(.ref a1)])) rfl (hb hby d1_5) _ ?_
    show Steps p.tables e below (T1.setTop (mkF m 8 #[.val (.ref a1), .val (.long q1), .second, .val (.int (0 : Int32))] [(.long (-9223372036854775808 : Int64)), (.ref a1)])) _
    refine st2 _ ?_
    show Steps p.tables e below (T2.setTop (mkF m 11 #[.val (.ref a1), .val (.long q1), .second, .val (.int (0 : Int32))] [])) _
    refine XS.aloadN X2.here hx rfl (hb hby d1_11) rfl rfl ?_
    show Steps p.tables e below (T2.setTop (mkF m 12 #[.val (.ref a1), .val (.long q1), .second, .val (.int (0 : Int32))] [(.ref a1)])) _
    refine st3 _ ?_
    show Steps p.tables e below (T3.setTop (mkF m 15 #[.val (.ref a1), .val (.long q1), .second, .val (.int (0 : Int32))] [(.ref w_NO_ENTRIES), (.ref a1)])) _
    refine st7 _ ?_
    show Steps p.tables e below (T7.setTop (mkF m 18 #[.val (.ref a1), .val (.long q1), .second, .val (.int (0 : Int32))] [])) _
    refine XS.aloadN X7.here hx rfl (hb hby d1_18) rfl rfl ?_
    show Steps p.tables e below (T7.setTop (mkF m 19 #[.val (.ref a1), .val (.long q1), .second, .val (.int (0 : Int32))] [(.ref a1)])) _
    refine st8 _ ?_
    show Steps p.tables e below (T8.setTop (mkF m 22 #[.val (.ref a1), .val (.long q1), .second, .val (.int (0 : Int32))] [(.ref w_NO_ENTRIES), (.ref a1)])) _
    refine st12 _ ?_
    show Steps p.tables e below (T12.setTop (mkF m 25 #[.val (.ref a1), .val (.long q1), .second, .val (.int (0 : Int32))] [])) _
    refine XS.aloadN X12.here hx rfl (hb hby d1_25) rfl rfl ?_
    show Steps p.tables e below (T12.setTop (mkF m 26 #[.val (.ref a1), .val (.long q1), .second, .val (.int (0 : Int32))] [(.ref a1)])) _
    refine X12.ldc2Long hx hown (mvT hZ (kw25 hw)) (g := (mkF m 26 #[.val (.ref a1), .val (.long q1), .second, .val (.int (0 : Int32))] [(.ref a1)])) rfl (hb hby d1_26) _ ?_
    show Steps p.tables e below (T12.setTop (mkF m 29 #[.val (.ref a1), .val (.long q1), .second, .val (.int (0 : Int32))] [(.long (9223372036854775807 : Int64)), (.ref a1)])) _
    refine st15 _ ?_
    show Steps p.tables e below (T15.setTop (mkF m 32 #[.val (.ref a1), .val (.long q1), .second, .val (.int (0 : Int32))] [])) _
    refine XS.aloadN X15.here hx rfl (hb hby d1_32) rfl rfl ?_
    show Steps p.tables e below (T15.setTop (mkF m 33 #[.val (.ref a1), .val (.long q1), .second, .val (.int (0 : Int32))] [(.ref a1)])) _
    refine X15.ldc2Long hx hown (mvT hZ (kw16 hw)) (g := (mkF m 33 #[.val (.ref a1), .val (.long q1), .second, .val (.int (0 : Int32))] [(.ref a1)])) rfl (hb hby d1_33) _ ?_
    show Steps p.tables e below (T15.setTop (mkF m 36 #[.val (.ref a1), .val (.long q1), .second, .val (.int (0 : Int32))] [(.long (-9223372036854775808 : Int64)), (.ref a1)])) _
    refine st18 _ ?_
    show Steps p.tables e below (T18.setTop (mkF m 39 #[.val (.ref a1), .val (.long q1), .second, .val (.int (0 : Int32))] [])) _
    refine XS.aloadN X18.here hx rfl (hb hby d1_39) rfl rfl ?_
    show Steps p.tables e below (T18.setTop (mkF m 40 #[.val (.ref a1), .val (.long q1), .second, .val (.int (0 : Int32))] [(.ref a1)])) _
    refine XS.lloadN X18.here hx rfl (hb hby d1_40) rfl ?_
    show Steps p.tables e below (T18.setTop (mkF m 41 #[.val (.ref a1), .val (.long q1), .second, .val (.int (0 : Int32))] [(.long q1), (.ref a1)])) _
    refine st21 _ ?_
    show Steps p.tables e below (T21.setTop (mkF m 44 #[.val (.ref a1), .val (.long q1), .second, .val (.int (0 : Int32))] [])) _
    refine XS.aloadN X21.here hx rfl (hb hby d1_44) rfl rfl ?_
    show Steps p.tables e below (T21.setTop (mkF m 45 #[.val (.ref a1), .val (.long q1), .second, .val (.int (0 : Int32))] [(.ref a1)])) _
    refine XS.aloadN X21.here hx rfl (hb hby d1_45) rfl rfl ?_
    show Steps p.tables e below (T21.setTop (mkF m 46 #[.val (.ref a1), .val (.long q1), .second, .val (.int (0 : Int32))] [(.ref a1), (.ref a1)])) _
    refine st23 _ ?_
    show Steps p.tables e below (T23.setTop (mkF m 49 #[.val (.ref a1), .val (.long q1), .second, .val (.int (0 : Int32))] [(.long (-9223372036854775808 : Int64)), (.ref a1)])) _
    refine XS.lloadN X23.here hx rfl (hb hby d1_49) rfl ?_
    show Steps p.tables e below (T23.setTop (mkF m 50 #[.val (.ref a1), .val (.long q1), .second, .val (.int (0 : Int32))] [(.long q1), (.long (-9223372036854775808 : Int64)), (.ref a1)])) _
    refine st24 _ ?_
    show Steps p.tables e below (T24.setTop (mkF m 53 #[.val (.ref a1), .val (.long q1), .second, .val (.int (0 : Int32))] [(.long (own_fd (-9223372036854775808 : Int64) q1)), (.ref a1)])) _
    refine st27 _ ?_
    show Steps p.tables e below (T27.setTop (mkF m 56 #[.val (.ref a1), .val (.long q1), .second, .val (.int (0 : Int32))] [])) _
    refine XS.aloadN X27.here hx rfl (hb hby d1_56) rfl rfl ?_
    show Steps p.tables e below (T27.setTop (mkF m 57 #[.val (.ref a1), .val (.long q1), .second, .val (.int (0 : Int32))] [(.ref a1)])) _
    refine XS.iloadN X27.here hx rfl (hb hby d1_57) rfl ?_
    show Steps p.tables e below (T27.setTop (mkF m 58 #[.val (.ref a1), .val (.long q1), .second, .val (.int (0 : Int32))] [(.int (0 : Int32)), (.ref a1)])) _
    refine XS.ifNo X27.here hx rfl (hb hby d1_58) rfl ((if0 _ _).trans (teq rfl).2) ?_
    show Steps p.tables e below (T27.setTop (mkF m 61 #[.val (.ref a1), .val (.long q1), .second, .val (.int (0 : Int32))] [(.ref a1)])) _
    refine st28 _ ?_
    show Steps p.tables e below (T28.setTop (mkF m 64 #[.val (.ref a1), .val (.long q1), .second, .val (.int (0 : Int32))] [(.ref w_NO_ENTRIES), (.ref a1)])) _
    refine XS.goto X28.here hx rfl (pc0 := 64) (pc' := 72) rfl (hb hby d1_64) (by decide) (by decide) ?_
    show Steps p.tables e below (T28.setTop (mkF m 72 #[.val (.ref a1), .val (.long q1), .second, .val (.int (0 : Int32))] [(.ref w_NO_ENTRIES), (.ref a1)])) _
    refine st32 _ ?_
    show Steps p.tables e below (T32.setTop (mkF m 75 #[.val (.ref a1), .val (.long q1), .second, .val (.int (0 : Int32))] [])) _
    exact X32.returnOut hx Bd.returns (hb hby d1_75) hr
  · show Q_rm1 Z a1 q1 w_NO_ENTRIES h0 n0 _ T32.heap _
    rw [e32]
    exact ⟨rfl, N32, K32, f33, f34, f35, f36, f37, f38, f39, Fw32, f40, f41, f42, f43⟩
theorem ef_rm11 (m : MethodId) (x0 : Addr) : entryFrame m #[(.ref x0)] 1 = mkF m 0 #[.val (.ref x0)] [] := by first | (simp [entryFrame, mkF, argsToLocals, Value.category]; done) | rfl
def Q_rm11 (Z : State) (a1 : Addr) (v1 : Int64) (h0 : Heap) (n0 : Nat) (v : Option Value) (h : Heap) (L : List Loc) : Prop := v = some (.long v1) ∧ Fr n0 L ∧ h = h0
set_option maxRecDepth 65536 in
set_option maxHeartbeats 40000000 in
theorem rm11 (l : Launch) (Z : State) (a0 : Array Value) (hw : ∀ d ∈ tables_1, d.before a0 Z = true) (ws : List Jvm.Cond) (a1 : Addr) (v1 : Int64) (h0 : Heap) (n0 : Nat) (Z0 : n0 ≤ h0.size) (P0 : Fld Z h0 a1 "com/example/okno/okno/AdmissionLog" "newestSubWindowEnd" "J" (.long v1)) :
    MetFree l (⟨"com/example/okno/okno/AdmissionLog", "newestSubWindowEnd", "()J"⟩ : MethodName) (head1 (Jvm.Cond.code (⟨"com/example/okno/okno/AdmissionLog", "newestSubWindowEnd", "()J"⟩ : MethodName) prog_2_method_5_code 1 (some .long) :: ws) ({ frames := 0, cells := 0, slots := 0, locals := 0 } : Room)) (fun a U => a = #[(.ref a1)] ∧ Z.Warmed39 U.vm ∧ U.heap = h0) (fun _ _ _ _ _ => True) (fun _ U o U' => ∃ v L, o = .returned v ∧ Q_rm11 Z a1 v1 h0 n0 v U'.heap L ∧ FrameEnd U o U' L ({ frames := 0, cells := 0, slots := 0, locals := 0 } : Room).cells ({ frames := 0, cells := 0, slots := 0, locals := 0 } : Room).slots) := by
  refine MetFree.of_bodySF (plainFor_of_name pn_1) hisR ?_
  intro p e s m args below meth c s₁ Bd hml0 hP hK
  obtain ⟨rfl, hZ, hh⟩ := hP
  have hx := Bd.exec
  have hby := Bd.bytes
  have hml : c.maxLocals = 1 := hml0
  have hown : s.vm.findClass "com/example/okno/okno/AdmissionLog" = some m.cls := findClass_of_methodNamed Bd.named
  have hnm := (name_of_methodNamed Bd.named Bd.method).1
  have X0 : Stand p l e ({ frames := 0, cells := 0, slots := 0, locals := 0 } : Room) s m #[(.ref a1)] below meth c s₁ [] 0 0 := Stand.of_body Bd
  have e0 : s₁.heap = h0 := by rw [← hh, Bd.state]; rfl
  have N0 := Fr.nil n0
  have KR : Keep h0 h0 [] := Keep.refl h0 _
  have pre0 : ∀ t, Steps p.tables e below (s₁.setTop (mkF m 0 #[.val (.ref a1)] [])) t → Steps p.tables e below (s₁.setTop (entryFrame m #[(.ref a1)] 1)) t := fun t k => castTop (ef_rm11 m (a1)) k
  obtain ⟨T1, X1, e1, st1⟩ := getF X0 hx hZ hown (host := "") (Or.inl (kw66 hw)) Via.refl e0 P0 (g := (mkF m 1 #[.val (.ref a1)] [(.ref a1)])) rfl rfl (hb hby d11_1)
  obtain ⟨fs, hr, hrun, hended, hW, hsame⟩ := X1.leave (v := some (.long v1)) (fun h => by rw [Bd.returns] at h; cases h)
  refine ⟨_, _, pre0 _ ?_, hrun, hended, _, _, rfl, ?_, ⟨_, rfl⟩, hW, hsame.mono (by decide) (by decide)⟩
  · skip
    show Steps p.tables e below (s₁.setTop (mkF m 0 #[.val (.ref a1)] [])) _
    refine XS.aloadN X0.here hx rfl (hb hby d11_0) rfl rfl ?_
    show Steps p.tables e below (s₁.setTop (mkF m 1 #[.val (.ref a1)] [(.ref a1)])) _
    refine st1 _ ?_
    show Steps p.tables e below (T1.setTop (mkF m 4 #[.val (.ref a1)] [(.long v1)])) _
    jvm_step X1.here [X1.here.top, hx, (hb hby d11_4), X1.method', Bd.returns, narrow]
    first | (intro acts; rw [hr _ acts rfl rfl rfl]) | rw [hr _ _ rfl rfl rfl]
    exact Steps.refl _
  · show Q_rm11 Z a1 v1 h0 n0 _ T1.heap _
    rw [e1]
    exact ⟨rfl, N0, rfl⟩
theorem ef_rm13 (m : MethodId) (x0 : Addr) : entryFrame m #[(.ref x0)] 1 = mkF m 0 #[.val (.ref x0)] [] := by first | (simp [entryFrame, mkF, argsToLocals, Value.category]; done) | rfl
def Q_rm13 (Z : State) (a1 : Addr) (v1 : Int64) (h0 : Heap) (n0 : Nat) (v : Option Value) (h : Heap) (L : List Loc) : Prop := v = some (.long v1) ∧ Fr n0 L ∧ h = h0
set_option maxRecDepth 65536 in
set_option maxHeartbeats 40000000 in
theorem rm13 (l : Launch) (Z : State) (a0 : Array Value) (hw : ∀ d ∈ tables_1, d.before a0 Z = true) (ws : List Jvm.Cond) (a1 : Addr) (v1 : Int64) (h0 : Heap) (n0 : Nat) (Z0 : n0 ≤ h0.size) (P0 : Fld Z h0 a1 "com/example/okno/okno/AdmissionLog" "total" "J" (.long v1)) :
    MetFree l (⟨"com/example/okno/okno/AdmissionLog", "total", "()J"⟩ : MethodName) (head1 (Jvm.Cond.code (⟨"com/example/okno/okno/AdmissionLog", "total", "()J"⟩ : MethodName) prog_2_method_2_code 1 (some .long) :: ws) ({ frames := 0, cells := 0, slots := 0, locals := 0 } : Room)) (fun a U => a = #[(.ref a1)] ∧ Z.Warmed39 U.vm ∧ U.heap = h0) (fun _ _ _ _ _ => True) (fun _ U o U' => ∃ v L, o = .returned v ∧ Q_rm13 Z a1 v1 h0 n0 v U'.heap L ∧ FrameEnd U o U' L ({ frames := 0, cells := 0, slots := 0, locals := 0 } : Room).cells ({ frames := 0, cells := 0, slots := 0, locals := 0 } : Room).slots) := by
  refine MetFree.of_bodySF (plainFor_of_name pn_1) hisR ?_
  intro p e s m args below meth c s₁ Bd hml0 hP hK
  obtain ⟨rfl, hZ, hh⟩ := hP
  have hx := Bd.exec
  have hby := Bd.bytes
  have hml : c.maxLocals = 1 := hml0
  have hown : s.vm.findClass "com/example/okno/okno/AdmissionLog" = some m.cls := findClass_of_methodNamed Bd.named
  have hnm := (name_of_methodNamed Bd.named Bd.method).1
  have X0 : Stand p l e ({ frames := 0, cells := 0, slots := 0, locals := 0 } : Room) s m #[(.ref a1)] below meth c s₁ [] 0 0 := Stand.of_body Bd
  have e0 : s₁.heap = h0 := by rw [← hh, Bd.state]; rfl
  have N0 := Fr.nil n0
  have KR : Keep h0 h0 [] := Keep.refl h0 _
  have pre0 : ∀ t, Steps p.tables e below (s₁.setTop (mkF m 0 #[.val (.ref a1)] [])) t → Steps p.tables e below (s₁.setTop (entryFrame m #[(.ref a1)] 1)) t := fun t k => castTop (ef_rm13 m (a1)) k
  obtain ⟨T1, X1, e1, st1⟩ := getF X0 hx hZ hown (host := "") (Or.inl (kw45 hw)) Via.refl e0 P0 (g := (mkF m 1 #[.val (.ref a1)] [(.ref a1)])) rfl rfl (hb hby d13_1)
  obtain ⟨fs, hr, hrun, hended, hW, hsame⟩ := X1.leave (v := some (.long v1)) (fun h => by rw [Bd.returns] at h; cases h)
  refine ⟨_, _, pre0 _ ?_, hrun, hended, _, _, rfl, ?_, ⟨_, rfl⟩, hW, hsame.mono (by decide) (by decide)⟩
  · skip
    show Steps p.tables e below (s₁.setTop (mkF m 0 #[.val (.ref a1)] [])) _
    refine XS.aloadN X0.here hx rfl (hb hby d13_0) rfl rfl ?_
    show Steps p.tables e below (s₁.setTop (mkF m 1 #[.val (.ref a1)] [(.ref a1)])) _
    refine st1 _ ?_
    show Steps p.tables e below (T1.setTop (mkF m 4 #[.val (.ref a1)] [(.long v1)])) _
    jvm_step X1.here [X1.here.top, hx, (hb hby d13_4), X1.method', Bd.returns, narrow]
    first | (intro acts; rw [hr _ acts rfl rfl rfl]) | rw [hr _ _ rfl rfl rfl]
    exact Steps.refl _
  · show Q_rm13 Z a1 v1 h0 n0 _ T1.heap _
    rw [e1]
    exact ⟨rfl, N0, rfl⟩
theorem ef_rm14 (m : MethodId) (x0 : Addr) : entryFrame m #[(.ref x0)] 1 = mkF m 0 #[.val (.ref x0)] [] := by first | (simp [entryFrame, mkF, argsToLocals, Value.category]; done) | rfl
def Q_rm14 (Z : State) (a1 : Addr) (v1 : Int64) (h0 : Heap) (n0 : Nat) (v : Option Value) (h : Heap) (L : List Loc) : Prop := v = some (.long v1) ∧ Fr n0 L ∧ h = h0
set_option maxRecDepth 65536 in
set_option maxHeartbeats 40000000 in
theorem rm14 (l : Launch) (Z : State) (a0 : Array Value) (hw : ∀ d ∈ tables_1, d.before a0 Z = true) (ws : List Jvm.Cond) (a1 : Addr) (v1 : Int64) (h0 : Heap) (n0 : Nat) (Z0 : n0 ≤ h0.size) (P0 : Fld Z h0 a1 "com/example/okno/okno/AdmissionLog" "newest" "J" (.long v1)) :
    MetFree l (⟨"com/example/okno/okno/AdmissionLog", "newest", "()J"⟩ : MethodName) (head1 (Jvm.Cond.code (⟨"com/example/okno/okno/AdmissionLog", "newest", "()J"⟩ : MethodName) prog_2_method_4_code 1 (some .long) :: ws) ({ frames := 0, cells := 0, slots := 0, locals := 0 } : Room)) (fun a U => a = #[(.ref a1)] ∧ Z.Warmed39 U.vm ∧ U.heap = h0) (fun _ _ _ _ _ => True) (fun _ U o U' => ∃ v L, o = .returned v ∧ Q_rm14 Z a1 v1 h0 n0 v U'.heap L ∧ FrameEnd U o U' L ({ frames := 0, cells := 0, slots := 0, locals := 0 } : Room).cells ({ frames := 0, cells := 0, slots := 0, locals := 0 } : Room).slots) := by
  refine MetFree.of_bodySF (plainFor_of_name pn_1) hisR ?_
  intro p e s m args below meth c s₁ Bd hml0 hP hK
  obtain ⟨rfl, hZ, hh⟩ := hP
  have hx := Bd.exec
  have hby := Bd.bytes
  have hml : c.maxLocals = 1 := hml0
  have hown : s.vm.findClass "com/example/okno/okno/AdmissionLog" = some m.cls := findClass_of_methodNamed Bd.named
  have hnm := (name_of_methodNamed Bd.named Bd.method).1
  have X0 : Stand p l e ({ frames := 0, cells := 0, slots := 0, locals := 0 } : Room) s m #[(.ref a1)] below meth c s₁ [] 0 0 := Stand.of_body Bd
  have e0 : s₁.heap = h0 := by rw [← hh, Bd.state]; rfl
  have N0 := Fr.nil n0
  have KR : Keep h0 h0 [] := Keep.refl h0 _
  have pre0 : ∀ t, Steps p.tables e below (s₁.setTop (mkF m 0 #[.val (.ref a1)] [])) t → Steps p.tables e below (s₁.setTop (entryFrame m #[(.ref a1)] 1)) t := fun t k => castTop (ef_rm14 m (a1)) k
  obtain ⟨T1, X1, e1, st1⟩ := getF X0 hx hZ hown (host := "") (Or.inl (kw17 hw)) Via.refl e0 P0 (g := (mkF m 1 #[.val (.ref a1)] [(.ref a1)])) rfl rfl (hb hby d14_1)
  obtain ⟨fs, hr, hrun, hended, hW, hsame⟩ := X1.leave (v := some (.long v1)) (fun h => by rw [Bd.returns] at h; cases h)
  refine ⟨_, _, pre0 _ ?_, hrun, hended, _, _, rfl, ?_, ⟨_, rfl⟩, hW, hsame.mono (by decide) (by decide)⟩
  · skip
    show Steps p.tables e below (s₁.setTop (mkF m 0 #[.val (.ref a1)] [])) _
    refine XS.aloadN X0.here hx rfl (hb hby d14_0) rfl rfl ?_
    show Steps p.tables e below (s₁.setTop (mkF m 1 #[.val (.ref a1)] [(.ref a1)])) _
    refine st1 _ ?_
    show Steps p.tables e below (T1.setTop (mkF m 4 #[.val (.ref a1)] [(.long v1)])) _
    jvm_step X1.here [X1.here.top, hx, (hb hby d14_4), X1.method', Bd.returns, narrow]
    first | (intro acts; rw [hr _ acts rfl rfl rfl]) | rw [hr _ _ rfl rfl rfl]
    exact Steps.refl _
  · show Q_rm14 Z a1 v1 h0 n0 _ T1.heap _
    rw [e1]
    exact ⟨rfl, N0, rfl⟩
theorem ef_rm6 (m : MethodId) (x0 : Int64) (x1 : Int64) : entryFrame m #[(.long x0), (.long x1)] 6 = mkF m 0 #[.val (.long x0), .second, .val (.long x1), .second, .unset, .unset] [] := by first | (simp [entryFrame, mkF, argsToLocals, Value.category]; done) | rfl
def Q_rm6 (Z : State) (q1 : Int64) (q2 : Int64) (h0 : Heap) (n0 : Nat) (v : Option Value) (h : Heap) (L : List Loc) : Prop := v = some (.long (q1 + q2)) ∧ Fr n0 L ∧ h = h0
set_option maxRecDepth 65536 in
set_option maxHeartbeats 40000000 in
theorem rm6 (l : Launch) (Z : State) (a0 : Array Value) (hw : ∀ d ∈ tables_1, d.before a0 Z = true) (ws : List Jvm.Cond) (q1 : Int64) (q2 : Int64) (h0 : Heap) (n0 : Nat) (Z0 : n0 ≤ h0.size) (hov : ¬ ((q1 ^^^ (q1 + q2)) &&& (q2 ^^^ (q1 + q2))) < (0 : Int64)) :
    MetFree l (⟨"java/lang/Math", "addExact", "(JJ)J"⟩ : MethodName) (head1 (Jvm.Cond.code (⟨"java/lang/Math", "addExact", "(JJ)J"⟩ : MethodName) jdk_29_method_25_code 6 (some .long) :: ws) ({ frames := 0, cells := 0, slots := 0, locals := 0 } : Room)) (fun a U => a = #[(.long q1), (.long q2)] ∧ Z.Warmed39 U.vm ∧ U.heap = h0) (fun _ _ _ _ _ => True) (fun _ U o U' => ∃ v L, o = .returned v ∧ Q_rm6 Z q1 q2 h0 n0 v U'.heap L ∧ FrameEnd U o U' L ({ frames := 0, cells := 0, slots := 0, locals := 0 } : Room).cells ({ frames := 0, cells := 0, slots := 0, locals := 0 } : Room).slots) := by
  refine MetFree.of_bodySF (Jvm.Free.JP.mathPlain rfl (by decide +kernel)) hisR ?_
  intro p e s m args below meth c s₁ Bd hml0 hP hK
  obtain ⟨rfl, hZ, hh⟩ := hP
  have hx := Bd.exec
  have hby := Bd.bytes
  have hml : c.maxLocals = 6 := hml0
  have hown : s.vm.findClass "java/lang/Math" = some m.cls := findClass_of_methodNamed Bd.named
  have hnm := (name_of_methodNamed Bd.named Bd.method).1
  have X0 : Stand p l e ({ frames := 0, cells := 0, slots := 0, locals := 0 } : Room) s m #[(.long q1), (.long q2)] below meth c s₁ [] 0 0 := Stand.of_body Bd
  have e0 : s₁.heap = h0 := by rw [← hh, Bd.state]; rfl
  have N0 := Fr.nil n0
  have KR : Keep h0 h0 [] := Keep.refl h0 _
  have pre0 : ∀ t, Steps p.tables e below (s₁.setTop (mkF m 0 #[.val (.long q1), .second, .val (.long q2), .second, .unset, .unset] [])) t → Steps p.tables e below (s₁.setTop (entryFrame m #[(.long q1), (.long q2)] 6)) t := fun t k => castTop (ef_rm6 m (q1) (q2)) k
  obtain ⟨fs, hr, hrun, hended, hW, hsame⟩ := X0.leave (v := some (.long (q1 + q2))) (fun h => by rw [Bd.returns] at h; cases h)
  refine ⟨_, _, pre0 _ ?_, hrun, hended, _, _, rfl, ?_, ⟨_, rfl⟩, hW, hsame.mono (by decide) (by decide)⟩
  · skip
    show Steps p.tables e below (s₁.setTop (mkF m 0 #[.val (.long q1), .second, .val (.long q2), .second, .unset, .unset] [])) _
    refine XS.lloadN X0.here hx rfl (hb hby d6_0) rfl ?_
    show Steps p.tables e below (s₁.setTop (mkF m 1 #[.val (.long q1), .second, .val (.long q2), .second, .unset, .unset] [(.long q1)])) _
    refine XS.lloadN X0.here hx rfl (hb hby d6_1) rfl ?_
    show Steps p.tables e below (s₁.setTop (mkF m 2 #[.val (.long q1), .second, .val (.long q2), .second, .unset, .unset] [(.long q2), (.long q1)])) _
    refine XS.ladd X0.here hx rfl (hb hby d6_2) rfl ?_
    show Steps p.tables e below (s₁.setTop (mkF m 3 #[.val (.long q1), .second, .val (.long q2), .second, .unset, .unset] [(.long (q1 + q2))])) _
    refine XS.lstore X0.here hx rfl (hb hby d6_3) rfl (l' := #[.val (.long q1), .second, .val (.long q2), .second, .val (.long (q1 + q2)), .second]) rfl ?_
    show Steps p.tables e below (s₁.setTop (mkF m 5 #[.val (.long q1), .second, .val (.long q2), .second, .val (.long (q1 + q2)), .second] [])) _
    refine XS.lloadN X0.here hx rfl (hb hby d6_5) rfl ?_
    show Steps p.tables e below (s₁.setTop (mkF m 6 #[.val (.long q1), .second, .val (.long q2), .second, .val (.long (q1 + q2)), .second] [(.long q1)])) _
    refine XS.lload X0.here hx rfl (hb hby d6_6) rfl ?_
    show Steps p.tables e below (s₁.setTop (mkF m 8 #[.val (.long q1), .second, .val (.long q2), .second, .val (.long (q1 + q2)), .second] [(.long (q1 + q2)), (.long q1)])) _
    refine XS.lxor X0.here hx rfl (hb hby d6_8) rfl ?_
    show Steps p.tables e below (s₁.setTop (mkF m 9 #[.val (.long q1), .second, .val (.long q2), .second, .val (.long (q1 + q2)), .second] [(.long (q1 ^^^ (q1 + q2)))])) _
    refine XS.lloadN X0.here hx rfl (hb hby d6_9) rfl ?_
    show Steps p.tables e below (s₁.setTop (mkF m 10 #[.val (.long q1), .second, .val (.long q2), .second, .val (.long (q1 + q2)), .second] [(.long q2), (.long (q1 ^^^ (q1 + q2)))])) _
    refine XS.lload X0.here hx rfl (hb hby d6_10) rfl ?_
    show Steps p.tables e below (s₁.setTop (mkF m 12 #[.val (.long q1), .second, .val (.long q2), .second, .val (.long (q1 + q2)), .second] [(.long (q1 + q2)), (.long q2), (.long (q1 ^^^ (q1 + q2)))])) _
    refine XS.lxor X0.here hx rfl (hb hby d6_12) rfl ?_
    show Steps p.tables e below (s₁.setTop (mkF m 13 #[.val (.long q1), .second, .val (.long q2), .second, .val (.long (q1 + q2)), .second] [(.long (q2 ^^^ (q1 + q2))), (.long (q1 ^^^ (q1 + q2)))])) _
    refine XS.land X0.here hx rfl (hb hby d6_13) rfl ?_
    show Steps p.tables e below (s₁.setTop (mkF m 14 #[.val (.long q1), .second, .val (.long q2), .second, .val (.long (q1 + q2)), .second] [(.long ((q1 ^^^ (q1 + q2)) &&& (q2 ^^^ (q1 + q2))))])) _
    refine XS.lconst X0.here hx rfl (hb hby d6_14) ?_
    show Steps p.tables e below (s₁.setTop (mkF m 15 #[.val (.long q1), .second, .val (.long q2), .second, .val (.long (q1 + q2)), .second] [(.long (0 : Int64)), (.long ((q1 ^^^ (q1 + q2)) &&& (q2 ^^^ (q1 + q2))))])) _
    refine XS.lcmp X0.here hx rfl (hb hby d6_15) rfl ?_
    show Steps p.tables e below (s₁.setTop (mkF m 16 #[.val (.long q1), .second, .val (.long q2), .second, .val (.long (q1 + q2)), .second] [(.int (lcmpW ((q1 ^^^ (q1 + q2)) &&& (q2 ^^^ (q1 + q2))) (0 : Int64)))])) _
    refine XS.ifYes X0.here hx rfl (pc0 := 16) (pc' := 29) rfl (hb hby d6_16) rfl ((if0 _ _).trans (flt (fun q => hov ((lw_lt _ _).mp q))).2.1) (by decide) (by decide) ?_
    show Steps p.tables e below (s₁.setTop (mkF m 29 #[.val (.long q1), .second, .val (.long q2), .second, .val (.long (q1 + q2)), .second] [])) _
    refine XS.lload X0.here hx rfl (hb hby d6_29) rfl ?_
    show Steps p.tables e below (s₁.setTop (mkF m 31 #[.val (.long q1), .second, .val (.long q2), .second, .val (.long (q1 + q2)), .second] [(.long (q1 + q2))])) _
    jvm_step X0.here [X0.here.top, hx, (hb hby d6_31), X0.method', Bd.returns, narrow]
    first | (intro acts; rw [hr _ acts rfl rfl rfl]) | rw [hr _ _ rfl rfl rfl]
    exact Steps.refl _
  · show Q_rm6 Z q1 q2 h0 n0 _ s₁.heap _
    rw [e0]
    exact ⟨rfl, N0, rfl⟩
theorem ef_rm8 (m : MethodId) (x0 : Addr) : entryFrame m #[(.ref x0)] 1 = mkF m 0 #[.val (.ref x0)] [] := by first | (simp [entryFrame, mkF, argsToLocals, Value.category]; done) | rfl
def Q_rm8 (Z : State) (a1 : Addr) (v1 : Int64) (h0 : Heap) (n0 : Nat) (v : Option Value) (h : Heap) (L : List Loc) : Prop := v = some (.int (own_em v1)) ∧ Fr n0 L ∧ h = h0
set_option maxRecDepth 65536 in
set_option maxHeartbeats 40000000 in
theorem rm8 (l : Launch) (Z : State) (a0 : Array Value) (hw : ∀ d ∈ tables_1, d.before a0 Z = true) (ws : List Jvm.Cond) (a1 : Addr) (v1 : Int64) (h0 : Heap) (n0 : Nat) (Z0 : n0 ≤ h0.size) (P0 : Fld Z h0 a1 "com/example/okno/okno/AdmissionLog" "total" "J" (.long v1)) :
    MetFree l (⟨"com/example/okno/okno/AdmissionLog", "isEmpty", "()Z"⟩ : MethodName) (head1 (Jvm.Cond.code (⟨"com/example/okno/okno/AdmissionLog", "isEmpty", "()Z"⟩ : MethodName) prog_2_method_3_code 1 (some .boolean) :: ws) ({ frames := 0, cells := 0, slots := 0, locals := 0 } : Room)) (fun a U => a = #[(.ref a1)] ∧ Z.Warmed39 U.vm ∧ U.heap = h0) (fun _ _ _ _ _ => True) (fun _ U o U' => ∃ v L, o = .returned v ∧ Q_rm8 Z a1 v1 h0 n0 v U'.heap L ∧ FrameEnd U o U' L ({ frames := 0, cells := 0, slots := 0, locals := 0 } : Room).cells ({ frames := 0, cells := 0, slots := 0, locals := 0 } : Room).slots) := by
  refine MetFree.of_bodySF (plainFor_of_name pn_1) hisR ?_
  intro p e s m args below meth c s₁ Bd hml0 hP hK
  obtain ⟨rfl, hZ, hh⟩ := hP
  have hx := Bd.exec
  have hby := Bd.bytes
  have hml : c.maxLocals = 1 := hml0
  have hown : s.vm.findClass "com/example/okno/okno/AdmissionLog" = some m.cls := findClass_of_methodNamed Bd.named
  have hnm := (name_of_methodNamed Bd.named Bd.method).1
  have X0 : Stand p l e ({ frames := 0, cells := 0, slots := 0, locals := 0 } : Room) s m #[(.ref a1)] below meth c s₁ [] 0 0 := Stand.of_body Bd
  have e0 : s₁.heap = h0 := by rw [← hh, Bd.state]; rfl
  have N0 := Fr.nil n0
  have KR : Keep h0 h0 [] := Keep.refl h0 _
  have pre0 : ∀ t, Steps p.tables e below (s₁.setTop (mkF m 0 #[.val (.ref a1)] [])) t → Steps p.tables e below (s₁.setTop (entryFrame m #[(.ref a1)] 1)) t := fun t k => castTop (ef_rm8 m (a1)) k
  obtain ⟨T1, X1, e1, st1⟩ := getF X0 hx hZ hown (host := "") (Or.inl (kw45 hw)) Via.refl e0 P0 (g := (mkF m 1 #[.val (.ref a1)] [(.ref a1)])) rfl rfl (hb hby d8_1)
  have pre2 : ∀ t, Steps p.tables e below (T1.setTop (mkF m 6 #[.val (.ref a1)] [(.int (lcmpW v1 (0 : Int64)))])) t → Steps p.tables e below (s₁.setTop (entryFrame m #[(.ref a1)] 1)) t := fun t k => pre0 t (by
    show Steps p.tables e below (s₁.setTop (mkF m 0 #[.val (.ref a1)] [])) _
    refine XS.aloadN X0.here hx rfl (hb hby d8_0) rfl rfl ?_
    show Steps p.tables e below (s₁.setTop (mkF m 1 #[.val (.ref a1)] [(.ref a1)])) _
    refine st1 _ ?_
    show Steps p.tables e below (T1.setTop (mkF m 4 #[.val (.ref a1)] [(.long v1)])) _
    refine XS.lconst X1.here hx rfl (hb hby d8_4) ?_
    show Steps p.tables e below (T1.setTop (mkF m 5 #[.val (.ref a1)] [(.long (0 : Int64)), (.long v1)])) _
    refine XS.lcmp X1.here hx rfl (hb hby d8_5) rfl ?_
    show Steps p.tables e below (T1.setTop (mkF m 6 #[.val (.ref a1)] [(.int (lcmpW v1 (0 : Int64)))])) _
    exact k)
  by_cases hc3 : v1 = (0 : Int64)
  · skip
    obtain ⟨fs, hr, hrun, hended, hW, hsame⟩ := X1.leave (v := some (.int (1 : Int32))) (fun h => by rw [Bd.returns] at h; cases h)
    refine ⟨_, _, pre2 _ ?_, hrun, hended, _, _, rfl, ?_, ⟨_, rfl⟩, hW, hsame.mono (by decide) (by decide)⟩
    · skip
      refine XS.ifNo X1.here hx rfl (hb hby d8_6) rfl ((if0 _ _).trans (teq ((lw_eq _ _).mpr hc3)).2) ?_
      show Steps p.tables e below (T1.setTop (mkF m 9 #[.val (.ref a1)] [])) _
      refine XS.iconst X1.here hx rfl (hb hby d8_9) ?_
      show Steps p.tables e below (T1.setTop (mkF m 10 #[.val (.ref a1)] [(.int (1 : Int32))])) _
      refine XS.goto X1.here hx rfl (pc0 := 10) (pc' := 14) rfl (hb hby d8_10) (by decide) (by decide) ?_
      show Steps p.tables e below (T1.setTop (mkF m 14 #[.val (.ref a1)] [(.int (1 : Int32))])) _
      exact retN X1 hx (t := .boolean) Bd.returns (by simp) (hb hby d8_14) hr
    · show Q_rm8 Z a1 v1 h0 n0 _ T1.heap _
      rw [e1]
      exact ⟨(by unfold own_em; rw [if_pos hc3]), N0, rfl⟩
  · skip
    obtain ⟨fs, hr, hrun, hended, hW, hsame⟩ := X1.leave (v := some (.int (0 : Int32))) (fun h => by rw [Bd.returns] at h; cases h)
    refine ⟨_, _, pre2 _ ?_, hrun, hended, _, _, rfl, ?_, ⟨_, rfl⟩, hW, hsame.mono (by decide) (by decide)⟩
    · skip
      refine XS.ifYes X1.here hx rfl (pc0 := 6) (pc' := 13) rfl (hb hby d8_6) rfl ((if0 _ _).trans (feq (fun q => hc3 ((lw_eq _ _).mp q))).2) (by decide) (by decide) ?_
      show Steps p.tables e below (T1.setTop (mkF m 13 #[.val (.ref a1)] [])) _
      refine XS.iconst X1.here hx rfl (hb hby d8_13) ?_
      show Steps p.tables e below (T1.setTop (mkF m 14 #[.val (.ref a1)] [(.int (0 : Int32))])) _
      exact retN X1 hx (t := .boolean) Bd.returns (by simp) (hb hby d8_14) hr
    · show Q_rm8 Z a1 v1 h0 n0 _ T1.heap _
      rw [e1]
      exact ⟨(by unfold own_em; rw [if_neg hc3]), N0, rfl⟩
theorem ef_rm7 (m : MethodId) (x0 : Addr) (x1 : Int64) : entryFrame m #[(.ref x0), (.long x1)] 3 = mkF m 0 #[.val (.ref x0), .val (.long x1), .second] [] := by first | (simp [entryFrame, mkF, argsToLocals, Value.category]; done) | rfl
def Q_rm7 (Z : State) (a1 : Addr) (q1 : Int64) (lt : Int64) (g : Int64) (u_newest : Int64) (u_subWindows : Addr) (u_amounts : Addr) (u_oldestSubWindow : Int64) (u_shorterWindows : Addr) (u_total : Int64) (u_newestSubWindow : Int64) (u_newestSubWindowEnd : Int64) (u_olderTotal : Int64) (h0 : Heap) (n0 : Nat) (v : Option Value) (h : Heap) (L : List Loc) : Prop := v = some (.long (own_fd q1 g)) ∧ Fr n0 L ∧ Keep h0 h [a1] ∧ Fld Z h a1 "com/example/okno/okno/AdmissionLog" "lastTime" "J" (.long q1) ∧ Fld Z h a1 "com/example/okno/okno/AdmissionLog" "lastSubWindow" "J" (.long (own_fd q1 g)) ∧ Fld Z h a1 "com/example/okno/okno/AdmissionLog" "subWindowMillis" "J" (.long g) ∧ Fld Z h a1 "com/example/okno/okno/AdmissionLog" "newest" "J" (.long u_newest) ∧ Fld Z h a1 "com/example/okno/okno/AdmissionLog" "subWindows" "[J" (.ref u_subWindows) ∧ Fld Z h a1 "com/example/okno/okno/AdmissionLog" "amounts" "[J" (.ref u_amounts) ∧ Fld Z h a1 "com/example/okno/okno/AdmissionLog" "oldestSubWindow" "J" (.long u_oldestSubWindow) ∧ Fld Z h a1 "com/example/okno/okno/AdmissionLog" "shorterWindows" "[J" (.ref u_shorterWindows) ∧ Fld Z h a1 "com/example/okno/okno/AdmissionLog" "total" "J" (.long u_total) ∧ Fld Z h a1 "com/example/okno/okno/AdmissionLog" "newestSubWindow" "J" (.long u_newestSubWindow) ∧ Fld Z h a1 "com/example/okno/okno/AdmissionLog" "newestSubWindowEnd" "J" (.long u_newestSubWindowEnd) ∧ Fld Z h a1 "com/example/okno/okno/AdmissionLog" "olderTotal" "J" (.long u_olderTotal)
set_option maxRecDepth 65536 in
set_option maxHeartbeats 40000000 in
theorem rm7 (l : Launch) (Z : State) (a0 : Array Value) (hw : ∀ d ∈ tables_1, d.before a0 Z = true) (ws : List Jvm.Cond) (a1 : Addr) (q1 : Int64) (lt : Int64) (g : Int64) (u_newest : Int64) (u_subWindows : Addr) (u_amounts : Addr) (u_oldestSubWindow : Int64) (u_shorterWindows : Addr) (u_total : Int64) (u_newestSubWindow : Int64) (u_newestSubWindowEnd : Int64) (u_olderTotal : Int64) (h0 : Heap) (n0 : Nat) (Z0 : n0 ≤ h0.size) (P0 : Exa Z h0 a1 "com/example/okno/okno/AdmissionLog") (P1 : n0 ≤ a1) (hg : g ≠ (0 : Int64)) (P3 : Fld Z h0 a1 "com/example/okno/okno/AdmissionLog" "lastTime" "J" (.long lt)) (P4 : Fld Z h0 a1 "com/example/okno/okno/AdmissionLog" "lastSubWindow" "J" (.long (own_fd lt g))) (P5 : Fld Z h0 a1 "com/example/okno/okno/AdmissionLog" "subWindowMillis" "J" (.long g)) (P6 : Fld Z h0 a1 "com/example/okno/okno/AdmissionLog" "newest" "J" (.long u_newest)) (P7 : Fld Z h0 a1 "com/example/okno/okno/AdmissionLog" "subWindows" "[J" (.ref u_subWindows)) (P8 : Fld Z h0 a1 "com/example/okno/okno/AdmissionLog" "amounts" "[J" (.ref u_amounts)) (P9 : Fld Z h0 a1 "com/example/okno/okno/AdmissionLog" "oldestSubWindow" "J" (.long u_oldestSubWindow)) (P10 : Fld Z h0 a1 "com/example/okno/okno/AdmissionLog" "shorterWindows" "[J" (.ref u_shorterWindows)) (P11 : Fld Z h0 a1 "com/example/okno/okno/AdmissionLog" "total" "J" (.long u_total)) (P12 : Fld Z h0 a1 "com/example/okno/okno/AdmissionLog" "newestSubWindow" "J" (.long u_newestSubWindow)) (P13 : Fld Z h0 a1 "com/example/okno/okno/AdmissionLog" "newestSubWindowEnd" "J" (.long u_newestSubWindowEnd)) (P14 : Fld Z h0 a1 "com/example/okno/okno/AdmissionLog" "olderTotal" "J" (.long u_olderTotal)) :
    MetFree l (⟨"com/example/okno/okno/AdmissionLog", "subWindowOf", "(J)J"⟩ : MethodName) (head1 (Jvm.Cond.code (⟨"com/example/okno/okno/AdmissionLog", "subWindowOf", "(J)J"⟩ : MethodName) prog_2_method_11_code 3 (some .long) :: ws) ({ frames := 1, cells := 0, slots := 0, locals := 18 } : Room)) (fun a U => a = #[(.ref a1), (.long q1)] ∧ Z.Warmed39 U.vm ∧ U.heap = h0) (fun _ _ _ _ _ => True) (fun _ U o U' => ∃ v L, o = .returned v ∧ Q_rm7 Z a1 q1 lt g u_newest u_subWindows u_amounts u_oldestSubWindow u_shorterWindows u_total u_newestSubWindow u_newestSubWindowEnd u_olderTotal h0 n0 v U'.heap L ∧ FrameEnd U o U' L ({ frames := 1, cells := 0, slots := 0, locals := 18 } : Room).cells ({ frames := 1, cells := 0, slots := 0, locals := 18 } : Room).slots) := by
  refine MetFree.of_bodySF (plainFor_of_name pn_1) hisR ?_
  intro p e s m args below meth c s₁ Bd hml0 hP hK
  obtain ⟨rfl, hZ, hh⟩ := hP
  have hx := Bd.exec
  have hby := Bd.bytes
  have hml : c.maxLocals = 3 := hml0
  have hown : s.vm.findClass "com/example/okno/okno/AdmissionLog" = some m.cls := findClass_of_methodNamed Bd.named
  have hnm := (name_of_methodNamed Bd.named Bd.method).1
  have X0 : Stand p l e ({ frames := 1, cells := 0, slots := 0, locals := 18 } : Room) s m #[(.ref a1), (.long q1)] below meth c s₁ [] 0 0 := Stand.of_body Bd
  have e0 : s₁.heap = h0 := by rw [← hh, Bd.state]; rfl
  have N0 := Fr.nil n0
  have KR : Keep h0 h0 [a1] := Keep.refl h0 _
  have pre0 : ∀ t, Steps p.tables e below (s₁.setTop (mkF m 0 #[.val (.ref a1), .val (.long q1), .second] [])) t → Steps p.tables e below (s₁.setTop (entryFrame m #[(.ref a1), (.long q1)] 3)) t := fun t k => castTop (ef_rm7 m (a1) (q1)) k
  obtain ⟨T1, X1, e1, st1⟩ := getF X0 hx hZ hown (host := "") (Or.inl (kw28 hw)) Via.refl e0 P3 (g := (mkF m 2 #[.val (.ref a1), .val (.long q1), .second] [(.ref a1), (.long q1)])) rfl rfl (hb hby d7_2)
  have pre2 : ∀ t, Steps p.tables e below (T1.setTop (mkF m 6 #[.val (.ref a1), .val (.long q1), .second] [(.int (lcmpW q1 lt))])) t → Steps p.tables e below (s₁.setTop (entryFrame m #[(.ref a1), (.long q1)] 3)) t := fun t k => pre0 t (by
    show Steps p.tables e below (s₁.setTop (mkF m 0 #[.val (.ref a1), .val (.long q1), .second] [])) _
    refine XS.lloadN X0.here hx rfl (hb hby d7_0) rfl ?_
    show Steps p.tables e below (s₁.setTop (mkF m 1 #[.val (.ref a1), .val (.long q1), .second] [(.long q1)])) _
    refine XS.aloadN X0.here hx rfl (hb hby d7_1) rfl rfl ?_
    show Steps p.tables e below (s₁.setTop (mkF m 2 #[.val (.ref a1), .val (.long q1), .second] [(.ref a1), (.long q1)])) _
    refine st1 _ ?_
    show Steps p.tables e below (T1.setTop (mkF m 5 #[.val (.ref a1), .val (.long q1), .second] [(.long lt), (.long q1)])) _
    refine XS.lcmp X1.here hx rfl (hb hby d7_5) rfl ?_
    show Steps p.tables e below (T1.setTop (mkF m 6 #[.val (.ref a1), .val (.long q1), .second] [(.int (lcmpW q1 lt))])) _
    exact k)
  by_cases hc3 : q1 = lt
  · skip
    obtain ⟨T4, X4, e4, st4⟩ := getF X1 hx hZ hown (host := "") (Or.inl (kw36 hw)) Via.refl e1 P4 (g := (mkF m 27 #[.val (.ref a1), .val (.long q1), .second] [(.ref a1)])) rfl rfl (hb hby d7_27)
    obtain ⟨fs, hr, hrun, hended, hW, hsame⟩ := X4.leave (v := some (.long (own_fd lt g))) (fun h => by rw [Bd.returns] at h; cases h)
    refine ⟨_, _, pre2 _ ?_, hrun, hended, _, _, rfl, ?_, ⟨_, rfl⟩, hW, hsame.mono (by decide) (by decide)⟩
    · skip
      refine XS.ifYes X1.here hx rfl (pc0 := 6) (pc' := 26) rfl (hb hby d7_6) rfl ((if0 _ _).trans (teq ((lw_eq _ _).mpr hc3)).1) (by decide) (by decide) ?_
      show Steps p.tables e below (T1.setTop (mkF m 26 #[.val (.ref a1), .val (.long q1), .second] [])) _
      refine XS.aloadN X1.here hx rfl (hb hby d7_26) rfl rfl ?_
      show Steps p.tables e below (T1.setTop (mkF m 27 #[.val (.ref a1), .val (.long q1), .second] [(.ref a1)])) _
      refine st4 _ ?_
      show Steps p.tables e below (T4.setTop (mkF m 30 #[.val (.ref a1), .val (.long q1), .second] [(.long (own_fd lt g))])) _
      jvm_step X4.here [X4.here.top, hx, (hb hby d7_30), X4.method', Bd.returns, narrow]
      first | (intro acts; rw [hr _ acts rfl rfl rfl]) | rw [hr _ _ rfl rfl rfl]
      exact Steps.refl _
    · show Q_rm7 Z a1 q1 lt g u_newest u_subWindows u_amounts u_oldestSubWindow u_shorterWindows u_total u_newestSubWindow u_newestSubWindowEnd u_olderTotal h0 n0 _ T4.heap _
      rw [e4]
      exact ⟨(by rw [hc3]), N0, KR, (by first | exact P3 | (rw [← hc3]; exact P3) | (rw [hc3]; exact P3)), (by first | exact P4 | (rw [← hc3]; exact P4) | (rw [hc3]; exact P4)), P5, P6, P7, P8, P9, P10, P11, P12, P13, P14⟩
  · skip
    obtain ⟨T6, X6, e6, st6⟩ := getF X1 hx hZ hown (host := "") (Or.inl (kw30 hw)) Via.refl e1 P5 (g := (mkF m 12 #[.val (.ref a1), .val (.long q1), .second] [(.ref a1), (.long q1), (.ref a1)])) rfl rfl (hb hby d7_12)
    obtain ⟨_, _, ⟨T7, L7, k7, n7⟩, -, X7, ⟨Lc7, hQ7, l7, y7, z7⟩, st7⟩ := Jvm.LawKit.callS X6 hx (y := (⟨"java/lang/Math", "floorDiv", "(JJ)J"⟩ : MethodName)) hown (mvT hZ (kw32 hw)) (mvT hZ (kw33 hw)) (mvT hZ (kw34 hw)) (mvT hZ (kw35 hw)) (by decide) (backOf (W := 1) (rm4 l Z a0 hw [] q1 g h0 n0 Z0 hg) hZ (kw35 hw) (kw34 hw) (by decide) (by decide)) (g := (mkF m 15 #[.val (.ref a1), .val (.long q1), .second] [(.long g), (.long q1), (.ref a1)])) rfl (by rw [hml]; rfl) (argsL := [(.long q1), (.long g)]) (rest := [(.ref a1)]) (lenOf pd_1 rfl) rfl (by show 2 * 0 + _ ≤ _; exact Nat.le_of_eq rfl) (hb hby d7_15) (fun _ _ => ⟨rfl, e6, (by decide : 0 + 0 ≤ _), (by decide : 0 + 0 ≤ _)⟩)
    dsimp only [Pt.U, Pt.locs, Pt.cells, Pt.slots] at X7 l7 y7 z7 st7 hQ7
    subst l7 y7 z7
    obtain ⟨rfl, N7q, e7⟩ := hQ7
    have N7 := Fr.app N0 N7q
    obtain ⟨T8, h8, X8, e8, W8, st8⟩ := putF X7 hx hZ hown (host := "") (Or.inl (kw36 hw)) Via.refl e7 P4 P0 (Or.inl (kw37 hw)) (kw3 hw) (ty := .long) (by decide) rfl rfl (g := (mkF m 18 #[.val (.ref a1), .val (.long q1), .second] [(.long (own_fd q1 g)), (.ref a1)])) rfl rfl (hb hby d7_18)
    have Z8 : n0 ≤ h8.size := Nat.le_trans Z0 (Keep.of_wr W8).1
    have K8 : Keep h0 h8 [a1] := KR.wr W8 (Or.inl (List.mem_of_getElem? (i := 0) rfl))
    have N8 := Fr.snoc X8 N7 P1
    have Fw8 : Fld Z h8 a1 "com/example/okno/okno/AdmissionLog" "lastSubWindow" "J" (.long (own_fd q1 g)) := P4.same W8
    have f9 : Exa Z h8 a1 "com/example/okno/okno/AdmissionLog" := (P0.wr W8)
    have f10 : Fld Z h8 a1 "com/example/okno/okno/AdmissionLog" "lastTime" "J" (.long lt) := (P3.other W8 (Or.inr (slot_ne (Or.inl (kw29 hw)) (Or.inl (kw37 hw)) (by decide) (t := .long) (t' := .long) (by decide) (by decide))))
    obtain ⟨T11, h11, X11, e11, W11, st11⟩ := putF X8 hx hZ hown (host := "") (Or.inl (kw28 hw)) Via.refl e8 f10 f9 (Or.inl (kw29 hw)) (kw3 hw) (ty := .long) (by decide) rfl rfl (g := (mkF m 23 #[.val (.ref a1), .val (.long q1), .second] [(.long q1), (.ref a1)])) rfl rfl (hb hby d7_23)
    have Z11 : n0 ≤ h11.size := Nat.le_trans Z8 (Keep.of_wr W11).1
    have K11 : Keep h0 h11 [a1] := K8.wr W11 (Or.inl (List.mem_of_getElem? (i := 0) rfl))
    have N11 := Fr.snoc X11 N8 P1
    have Fw11 : Fld Z h11 a1 "com/example/okno/okno/AdmissionLog" "lastTime" "J" (.long q1) := f10.same W11
    have f12 : Fld Z h11 a1 "com/example/okno/okno/AdmissionLog" "lastSubWindow" "J" (.long (own_fd q1 g)) := (Fw8.other W11 (Or.inr (slot_ne (Or.inl (kw37 hw)) (Or.inl (kw29 hw)) (by decide) (t := .long) (t' := .long) (by decide) (by decide))))
    obtain ⟨T13, X13, e13, st13⟩ := getF X11 hx hZ hown (host := "") (Or.inl (kw36 hw)) Via.refl e11 f12 (g := (mkF m 27 #[.val (.ref a1), .val (.long q1), .second] [(.ref a1)])) rfl rfl (hb hby d7_27)
    have f14 : Fld Z h11 a1 "com/example/okno/okno/AdmissionLog" "subWindowMillis" "J" (.long g) := ((P5.other W8 (Or.inr (slot_ne (Or.inr (kw31 hw)) (Or.inl (kw37 hw)) (by decide) (t := .long) (t' := .long) (by decide) (by decide)))).other W11 (Or.inr (slot_ne (Or.inr (kw31 hw)) (Or.inl (kw29 hw)) (by decide) (t := .long) (t' := .long) (by decide) (by decide))))
    have f15 : Fld Z h11 a1 "com/example/okno/okno/AdmissionLog" "newest" "J" (.long u_newest) := ((P6.other W8 (Or.inr (slot_ne (Or.inl (kw18 hw)) (Or.inl (kw37 hw)) (by decide) (t := .long) (t' := .long) (by decide) (by decide)))).other W11 (Or.inr (slot_ne (Or.inl (kw18 hw)) (Or.inl (kw29 hw)) (by decide) (t := .long) (t' := .long) (by decide) (by decide))))
    have f16 : Fld Z h11 a1 "com/example/okno/okno/AdmissionLog" "subWindows" "[J" (.ref u_subWindows) := ((P7.other W8 (Or.inr (slot_ne (Or.inl (kw22 hw)) (Or.inl (kw37 hw)) (by decide) (t := (.array .long)) (t' := .long) (by decide) (by decide)))).other W11 (Or.inr (slot_ne (Or.inl (kw22 hw)) (Or.inl (kw29 hw)) (by decide) (t := (.array .long)) (t' := .long) (by decide) (by decide))))
    have f17 : Fld Z h11 a1 "com/example/okno/okno/AdmissionLog" "amounts" "[J" (.ref u_amounts) := ((P8.other W8 (Or.inr (slot_ne (Or.inl (kw24 hw)) (Or.inl (kw37 hw)) (by decide) (t := (.array .long)) (t' := .long) (by decide) (by decide)))).other W11 (Or.inr (slot_ne (Or.inl (kw24 hw)) (Or.inl (kw29 hw)) (by decide) (t := (.array .long)) (t' := .long) (by decide) (by decide))))
    have f18 : Fld Z h11 a1 "com/example/okno/okno/AdmissionLog" "oldestSubWindow" "J" (.long u_oldestSubWindow) := ((P9.other W8 (Or.inr (slot_ne (Or.inl (kw27 hw)) (Or.inl (kw37 hw)) (by decide) (t := .long) (t' := .long) (by decide) (by decide)))).other W11 (Or.inr (slot_ne (Or.inl (kw27 hw)) (Or.inl (kw29 hw)) (by decide) (t := .long) (t' := .long) (by decide) (by decide))))
    have f19 : Fld Z h11 a1 "com/example/okno/okno/AdmissionLog" "shorterWindows" "[J" (.ref u_shorterWindows) := ((P10.other W8 (Or.inr (slot_ne (Or.inr (kw39 hw)) (Or.inl (kw37 hw)) (by decide) (t := (.array .long)) (t' := .long) (by decide) (by decide)))).other W11 (Or.inr (slot_ne (Or.inr (kw39 hw)) (Or.inl (kw29 hw)) (by decide) (t := (.array .long)) (t' := .long) (by decide) (by decide))))
    have f20 : Fld Z h11 a1 "com/example/okno/okno/AdmissionLog" "total" "J" (.long u_total) := ((P11.other W8 (Or.inr (slot_ne (Or.inl (kw46 hw)) (Or.inl (kw37 hw)) (by decide) (t := .long) (t' := .long) (by decide) (by decide)))).other W11 (Or.inr (slot_ne (Or.inl (kw46 hw)) (Or.inl (kw29 hw)) (by decide) (t := .long) (t' := .long) (by decide) (by decide))))
    have f21 : Fld Z h11 a1 "com/example/okno/okno/AdmissionLog" "newestSubWindow" "J" (.long u_newestSubWindow) := ((P12.other W8 (Or.inr (slot_ne (Or.inl (kw65 hw)) (Or.inl (kw37 hw)) (by decide) (t := .long) (t' := .long) (by decide) (by decide)))).other W11 (Or.inr (slot_ne (Or.inl (kw65 hw)) (Or.inl (kw29 hw)) (by decide) (t := .long) (t' := .long) (by decide) (by decide))))
    have f22 : Fld Z h11 a1 "com/example/okno/okno/AdmissionLog" "newestSubWindowEnd" "J" (.long u_newestSubWindowEnd) := ((P13.other W8 (Or.inr (slot_ne (Or.inl (kw67 hw)) (Or.inl (kw37 hw)) (by decide) (t := .long) (t' := .long) (by decide) (by decide)))).other W11 (Or.inr (slot_ne (Or.inl (kw67 hw)) (Or.inl (kw29 hw)) (by decide) (t := .long) (t' := .long) (by decide) (by decide))))
    have f23 : Fld Z h11 a1 "com/example/okno/okno/AdmissionLog" "olderTotal" "J" (.long u_olderTotal) := ((P14.other W8 (Or.inr (slot_ne (Or.inl (kw95 hw)) (Or.inl (kw37 hw)) (by decide) (t := .long) (t' := .long) (by decide) (by decide)))).other W11 (Or.inr (slot_ne (Or.inl (kw95 hw)) (Or.inl (kw29 hw)) (by decide) (t := .long) (t' := .long) (by decide) (by decide))))
    obtain ⟨fs, hr, hrun, hended, hW, hsame⟩ := X13.leave (v := some (.long (own_fd q1 g))) (fun h => by rw [Bd.returns] at h; cases h)
    refine ⟨_, _, pre2 _ ?_, hrun, hended, _, _, rfl, ?_, ⟨_, rfl⟩, hW, hsame.mono (by decide) (by decide)⟩
    · skip
      refine XS.ifNo X1.here hx rfl (hb hby d7_6) rfl ((if0 _ _).trans (feq (fun q => hc3 ((lw_eq _ _).mp q))).1) ?_
      show Steps p.tables e below (T1.setTop (mkF m 9 #[.val (.ref a1), .val (.long q1), .second] [])) _
      refine XS.aloadN X1.here hx rfl (hb hby d7_9) rfl rfl ?_
      show Steps p.tables e below (T1.setTop (mkF m 10 #[.val (.ref a1), .val (.long q1), .second] [(.ref a1)])) _
      refine XS.lloadN X1.here hx rfl (hb hby d7_10) rfl ?_
      show Steps p.tables e below (T1.setTop (mkF m 11 #[.val (.ref a1), .val (.long q1), .second] [(.long q1), (.ref a1)])) _
      refine XS.aloadN X1.here hx rfl (hb hby d7_11) rfl rfl ?_
      show Steps p.tables e below (T1.setTop (mkF m 12 #[.val (.ref a1), .val (.long q1), .second] [(.ref a1), (.long q1), (.ref a1)])) _
      refine st6 _ ?_
      show Steps p.tables e below (T6.setTop (mkF m 15 #[.val (.ref a1), .val (.long q1), .second] [(.long g), (.long q1), (.ref a1)])) _
      refine st7 _ ?_
      show Steps p.tables e below (T7.setTop (mkF m 18 #[.val (.ref a1), .val (.long q1), .second] [(.long (own_fd q1 g)), (.ref a1)])) _
      refine st8 _ ?_
      show Steps p.tables e below (T8.setTop (mkF m 21 #[.val (.ref a1), .val (.long q1), .second] [])) _
      refine XS.aloadN X8.here hx rfl (hb hby d7_21) rfl rfl ?_
      show Steps p.tables e below (T8.setTop (mkF m 22 #[.val (.ref a1), .val (.long q1), .second] [(.ref a1)])) _
      refine XS.lloadN X8.here hx rfl (hb hby d7_22) rfl ?_
      show Steps p.tables e below (T8.setTop (mkF m 23 #[.val (.ref a1), .val (.long q1), .second] [(.long q1), (.ref a1)])) _
      refine st11 _ ?_
      show Steps p.tables e below (T11.setTop (mkF m 26 #[.val (.ref a1), .val (.long q1), .second] [])) _
      refine XS.aloadN X11.here hx rfl (hb hby d7_26) rfl rfl ?_
      show Steps p.tables e below (T11.setTop (mkF m 27 #[.val (.ref a1), .val (.long q1), .second] [(.ref a1)])) _
      refine st13 _ ?_
      show Steps p.tables e below (T13.setTop (mkF m 30 #[.val (.ref a1), .val (.long q1), .second] [(.long (own_fd q1 g))])) _
      jvm_step X13.here [X13.here.top, hx, (hb hby d7_30), X13.method', Bd.returns, narrow]
      first | (intro acts; rw [hr _ acts rfl rfl rfl]) | rw [hr _ _ rfl rfl rfl]
      exact Steps.refl _
    · show Q_rm7 Z a1 q1 lt g u_newest u_subWindows u_amounts u_oldestSubWindow u_shorterWindows u_total u_newestSubWindow u_newestSubWindowEnd u_olderTotal h0 n0 _ T13.heap _
      rw [e13]
      exact ⟨rfl, N11, K11, Fw11, f12, f14, f15, f16, f17, f18, f19, f20, f21, f22, f23⟩
theorem ef_rm9 (m : MethodId) (x0 : Addr) (x1 : Int64) (x2 : Int64) : entryFrame m #[(.ref x0), (.long x1), (.long x2)] 7 = mkF m 0 #[.val (.ref x0), .val (.long x1), .second, .val (.long x2), .second, .unset, .unset] [] := by first | (simp [entryFrame, mkF, argsToLocals, Value.category]; done) | rfl
def Q_rm9 (Z : State) (a1 : Addr) (q1 : Int64) (q2 : Int64) (g : Int64) (ns : Int64) (ne : Int64) (u_newest : Int64) (u_subWindows : Addr) (u_amounts : Addr) (u_oldestSubWindow : Int64) (u_lastTime : Int64) (u_lastSubWindow : Int64) (u_shorterWindows : Addr) (u_total : Int64) (u_olderTotal : Int64) (h0 : Heap) (n0 : Nat) (v : Option Value) (h : Heap) (L : List Loc) : Prop := v = none ∧ Fr n0 L ∧ Keep h0 h [a1] ∧ Fld Z h a1 "com/example/okno/okno/AdmissionLog" "subWindowMillis" "J" (.long g) ∧ Fld Z h a1 "com/example/okno/okno/AdmissionLog" "newestSubWindow" "J" (.long q1) ∧ Fld Z h a1 "com/example/okno/okno/AdmissionLog" "newestSubWindowEnd" "J" (.long (own_end q1 q2 g)) ∧ Fld Z h a1 "com/example/okno/okno/AdmissionLog" "newest" "J" (.long u_newest) ∧ Fld Z h a1 "com/example/okno/okno/AdmissionLog" "subWindows" "[J" (.ref u_subWindows) ∧ Fld Z h a1 "com/example/okno/okno/AdmissionLog" "amounts" "[J" (.ref u_amounts) ∧ Fld Z h a1 "com/example/okno/okno/AdmissionLog" "oldestSubWindow" "J" (.long u_oldestSubWindow) ∧ Fld Z h a1 "com/example/okno/okno/AdmissionLog" "lastTime" "J" (.long u_lastTime) ∧ Fld Z h a1 "com/example/okno/okno/AdmissionLog" "lastSubWindow" "J" (.long u_lastSubWindow) ∧ Fld Z h a1 "com/example/okno/okno/AdmissionLog" "shorterWindows" "[J" (.ref u_shorterWindows) ∧ Fld Z h a1 "com/example/okno/okno/AdmissionLog" "total" "J" (.long u_total) ∧ Fld Z h a1 "com/example/okno/okno/AdmissionLog" "olderTotal" "J" (.long u_olderTotal)
set_option maxRecDepth 65536 in
set_option maxHeartbeats 40000000 in
theorem rm9 (l : Launch) (Z : State) (a0 : Array Value) (hw : ∀ d ∈ tables_1, d.before a0 Z = true) (ws : List Jvm.Cond) (a1 : Addr) (q1 : Int64) (q2 : Int64) (g : Int64) (ns : Int64) (ne : Int64) (u_newest : Int64) (u_subWindows : Addr) (u_amounts : Addr) (u_oldestSubWindow : Int64) (u_lastTime : Int64) (u_lastSubWindow : Int64) (u_shorterWindows : Addr) (u_total : Int64) (u_olderTotal : Int64) (h0 : Heap) (n0 : Nat) (Z0 : n0 ≤ h0.size) (P0 : Exa Z h0 a1 "com/example/okno/okno/AdmissionLog") (P1 : n0 ≤ a1) (P2 : Fld Z h0 a1 "com/example/okno/okno/AdmissionLog" "subWindowMillis" "J" (.long g)) (P3 : Fld Z h0 a1 "com/example/okno/okno/AdmissionLog" "newestSubWindow" "J" (.long ns)) (P4 : Fld Z h0 a1 "com/example/okno/okno/AdmissionLog" "newestSubWindowEnd" "J" (.long ne)) (P5 : Fld Z h0 a1 "com/example/okno/okno/AdmissionLog" "newest" "J" (.long u_newest)) (P6 : Fld Z h0 a1 "com/example/okno/okno/AdmissionLog" "subWindows" "[J" (.ref u_subWindows)) (P7 : Fld Z h0 a1 "com/example/okno/okno/AdmissionLog" "amounts" "[J" (.ref u_amounts)) (P8 : Fld Z h0 a1 "com/example/okno/okno/AdmissionLog" "oldestSubWindow" "J" (.long u_oldestSubWindow)) (P9 : Fld Z h0 a1 "com/example/okno/okno/AdmissionLog" "lastTime" "J" (.long u_lastTime)) (P10 : Fld Z h0 a1 "com/example/okno/okno/AdmissionLog" "lastSubWindow" "J" (.long u_lastSubWindow)) (P11 : Fld Z h0 a1 "com/example/okno/okno/AdmissionLog" "shorterWindows" "[J" (.ref u_shorterWindows)) (P12 : Fld Z h0 a1 "com/example/okno/okno/AdmissionLog" "total" "J" (.long u_total)) (P13 : Fld Z h0 a1 "com/example/okno/okno/AdmissionLog" "olderTotal" "J" (.long u_olderTotal)) :
    MetFree l (⟨"com/example/okno/okno/AdmissionLog", "startNewestEntry", "(JJ)V"⟩ : MethodName) (head1 (Jvm.Cond.code (⟨"com/example/okno/okno/AdmissionLog", "startNewestEntry", "(JJ)V"⟩ : MethodName) prog_2_method_23_code 7 none :: ws) ({ frames := 0, cells := 0, slots := 0, locals := 0 } : Room)) (fun a U => a = #[(.ref a1), (.long q1), (.long q2)] ∧ Z.Warmed39 U.vm ∧ U.heap = h0) (fun _ _ _ _ _ => True) (fun _ U o U' => ∃ v L, o = .returned v ∧ Q_rm9 Z a1 q1 q2 g ns ne u_newest u_subWindows u_amounts u_oldestSubWindow u_lastTime u_lastSubWindow u_shorterWindows u_total u_olderTotal h0 n0 v U'.heap L ∧ FrameEnd U o U' L ({ frames := 0, cells := 0, slots := 0, locals := 0 } : Room).cells ({ frames := 0, cells := 0, slots := 0, locals := 0 } : Room).slots) := by
  refine MetFree.of_bodySF (plainFor_of_name pn_1) hisR ?_
  intro p e s m args below meth c s₁ Bd hml0 hP hK
  obtain ⟨rfl, hZ, hh⟩ := hP
  have hx := Bd.exec
  have hby := Bd.bytes
  have hml : c.maxLocals = 7 := hml0
  have hown : s.vm.findClass "com/example/okno/okno/AdmissionLog" = some m.cls := findClass_of_methodNamed Bd.named
  have hnm := (name_of_methodNamed Bd.named Bd.method).1
  have X0 : Stand p l e ({ frames := 0, cells := 0, slots := 0, locals := 0 } : Room) s m #[(.ref a1), (.long q1), (.long q2)] below meth c s₁ [] 0 0 := Stand.of_body Bd
  have e0 : s₁.heap = h0 := by rw [← hh, Bd.state]; rfl
  have N0 := Fr.nil n0
  have KR : Keep h0 h0 [a1] := Keep.refl h0 _
  have pre0 : ∀ t, Steps p.tables e below (s₁.setTop (mkF m 0 #[.val (.ref a1), .val (.long q1), .second, .val (.long q2), .second, .unset, .unset] [])) t → Steps p.tables e below (s₁.setTop (entryFrame m #[(.ref a1), (.long q1), (.long q2)] 7)) t := fun t k => castTop (ef_rm9 m (a1) (q1) (q2)) k
  obtain ⟨T1, X1, e1, st1⟩ := getF X0 hx hZ hown (host := "") (Or.inl (kw30 hw)) Via.refl e0 P2 (g := (mkF m 4 #[.val (.ref a1), .val (.long q1), .second, .val (.long q2), .second, .unset, .unset] [(.ref a1), (.long (q1 + (1 : Int64)))])) rfl rfl (hb hby d9_4)
  obtain ⟨T2, h2, X2, e2, W2, st2⟩ := putF X1 hx hZ hown (host := "") (Or.inl (kw64 hw)) Via.refl e1 P3 P0 (Or.inl (kw65 hw)) (kw3 hw) (ty := .long) (by decide) rfl rfl (g := (mkF m 12 #[.val (.ref a1), .val (.long q1), .second, .val (.long q2), .second, .val (.long ((q1 + (1 : Int64)) * g)), .second] [(.long q1), (.ref a1)])) rfl rfl (hb hby d9_12)
  have Z2 : n0 ≤ h2.size := Nat.le_trans Z0 (Keep.of_wr W2).1
  have K2 : Keep h0 h2 [a1] := KR.wr W2 (Or.inl (List.mem_of_getElem? (i := 0) rfl))
  have N2 := Fr.snoc X2 N0 P1
  have Fw2 : Fld Z h2 a1 "com/example/okno/okno/AdmissionLog" "newestSubWindow" "J" (.long q1) := P3.same W2
  have pre3 : ∀ t, Steps p.tables e below (T2.setTop (mkF m 20 #[.val (.ref a1), .val (.long q1), .second, .val (.long q2), .second, .val (.long ((q1 + (1 : Int64)) * g)), .second] [(.int (lcmpW ((q1 + (1 : Int64)) * g) q2)), (.ref a1)])) t → Steps p.tables e below (s₁.setTop (entryFrame m #[(.ref a1), (.long q1), (.long q2)] 7)) t := fun t k => pre0 t (by
    show Steps p.tables e below (s₁.setTop (mkF m 0 #[.val (.ref a1), .val (.long q1), .second, .val (.long q2), .second, .unset, .unset] [])) _
    refine XS.lloadN X0.here hx rfl (hb hby d9_0) rfl ?_
    show Steps p.tables e below (s₁.setTop (mkF m 1 #[.val (.ref a1), .val (.long q1), .second, .val (.long q2), .second, .unset, .unset] [(.long q1)])) _
    refine XS.lconst X0.here hx rfl (hb hby d9_1) ?_
    show Steps p.tables e below (s₁.setTop (mkF m 2 #[.val (.ref a1), .val (.long q1), .second, .val (.long q2), .second, .unset, .unset] [(.long (1 : Int64)), (.long q1)])) _
    refine XS.ladd X0.here hx rfl (hb hby d9_2) rfl ?_
    show Steps p.tables e below (s₁.setTop (mkF m 3 #[.val (.ref a1), .val (.long q1), .second, .val (.long q2), .second, .unset, .unset] [(.long (q1 + (1 : Int64)))])) _
    refine XS.aloadN X0.here hx rfl (hb hby d9_3) rfl rfl ?_
    show Steps p.tables e below (s₁.setTop (mkF m 4 #[.val (.ref a1), .val (.long q1), .second, .val (.long q2), .second, .unset, .unset] [(.ref a1), (.long (q1 + (1 : Int64)))])) _
    refine st1 _ ?_
    show Steps p.tables e below (T1.setTop (mkF m 7 #[.val (.ref a1), .val (.long q1), .second, .val (.long q2), .second, .unset, .unset] [(.long g), (.long (q1 + (1 : Int64)))])) _
    refine XS.lmul X1.here hx rfl (hb hby d9_7) rfl ?_
    show Steps p.tables e below (T1.setTop (mkF m 8 #[.val (.ref a1), .val (.long q1), .second, .val (.long q2), .second, .unset, .unset] [(.long ((q1 + (1 : Int64)) * g))])) _
    refine XS.lstore X1.here hx rfl (hb hby d9_8) rfl (l' := #[.val (.ref a1), .val (.long q1), .second, .val (.long q2), .second, .val (.long ((q1 + (1 : Int64)) * g)), .second]) rfl ?_
    show Steps p.tables e below (T1.setTop (mkF m 10 #[.val (.ref a1), .val (.long q1), .second, .val (.long q2), .second, .val (.long ((q1 + (1 : Int64)) * g)), .second] [])) _
    refine XS.aloadN X1.here hx rfl (hb hby d9_10) rfl rfl ?_
    show Steps p.tables e below (T1.setTop (mkF m 11 #[.val (.ref a1), .val (.long q1), .second, .val (.long q2), .second, .val (.long ((q1 + (1 : Int64)) * g)), .second] [(.ref a1)])) _
    refine XS.lloadN X1.here hx rfl (hb hby d9_11) rfl ?_
    show Steps p.tables e below (T1.setTop (mkF m 12 #[.val (.ref a1), .val (.long q1), .second, .val (.long q2), .second, .val (.long ((q1 + (1 : Int64)) * g)), .second] [(.long q1), (.ref a1)])) _
    refine st2 _ ?_
    show Steps p.tables e below (T2.setTop (mkF m 15 #[.val (.ref a1), .val (.long q1), .second, .val (.long q2), .second, .val (.long ((q1 + (1 : Int64)) * g)), .second] [])) _
    refine XS.aloadN X2.here hx rfl (hb hby d9_15) rfl rfl ?_
    show Steps p.tables e below (T2.setTop (mkF m 16 #[.val (.ref a1), .val (.long q1), .second, .val (.long q2), .second, .val (.long ((q1 + (1 : Int64)) * g)), .second] [(.ref a1)])) _
    refine XS.lload X2.here hx rfl (hb hby d9_16) rfl ?_
    show Steps p.tables e below (T2.setTop (mkF m 18 #[.val (.ref a1), .val (.long q1), .second, .val (.long q2), .second, .val (.long ((q1 + (1 : Int64)) * g)), .second] [(.long ((q1 + (1 : Int64)) * g)), (.ref a1)])) _
    refine XS.lloadN X2.here hx rfl (hb hby d9_18) rfl ?_
    show Steps p.tables e below (T2.setTop (mkF m 19 #[.val (.ref a1), .val (.long q1), .second, .val (.long q2), .second, .val (.long ((q1 + (1 : Int64)) * g)), .second] [(.long q2), (.long ((q1 + (1 : Int64)) * g)), (.ref a1)])) _
    refine XS.lcmp X2.here hx rfl (hb hby d9_19) rfl ?_
    show Steps p.tables e below (T2.setTop (mkF m 20 #[.val (.ref a1), .val (.long q1), .second, .val (.long q2), .second, .val (.long ((q1 + (1 : Int64)) * g)), .second] [(.int (lcmpW ((q1 + (1 : Int64)) * g) q2)), (.ref a1)])) _
    exact k)
  have pre5 : ∀ t, Steps p.tables e below (T2.setTop (mkF m 31 #[.val (.ref a1), .val (.long q1), .second, .val (.long q2), .second, .val (.long ((q1 + (1 : Int64)) * g)), .second] [(.long (if q2 < ((q1 + (1 : Int64)) * g) then ((q1 + (1 : Int64)) * g) else (9223372036854775807 : Int64))), (.ref a1)])) t → Steps p.tables e below (s₁.setTop (entryFrame m #[(.ref a1), (.long q1), (.long q2)] 7)) t := fun t k => pre3 t (by
    by_cases hc4 : q2 < ((q1 + (1 : Int64)) * g)
    · skip
      refine XS.ifNo X2.here hx rfl (hb hby d9_20) rfl ((if0 _ _).trans (tlt ((lw_gt _ _).mpr hc4)).2.2.2) ?_
      show Steps p.tables e below (T2.setTop (mkF m 23 #[.val (.ref a1), .val (.long q1), .second, .val (.long q2), .second, .val (.long ((q1 + (1 : Int64)) * g)), .second] [(.ref a1)])) _
      refine XS.lload X2.here hx rfl (hb hby d9_23) rfl ?_
      show Steps p.tables e below (T2.setTop (mkF m 25 #[.val (.ref a1), .val (.long q1), .second, .val (.long q2), .second, .val (.long ((q1 + (1 : Int64)) * g)), .second] [(.long ((q1 + (1 : Int64)) * g)), (.ref a1)])) _
      refine XS.goto X2.here hx rfl (pc0 := 25) (pc' := 31) rfl (hb hby d9_25) (by decide) (by decide) ?_
      show Steps p.tables e below (T2.setTop (mkF m 31 #[.val (.ref a1), .val (.long q1), .second, .val (.long q2), .second, .val (.long ((q1 + (1 : Int64)) * g)), .second] [(.long ((q1 + (1 : Int64)) * g)), (.ref a1)])) _
      simp only [if_pos hc4] at k; exact k
    · skip
      refine XS.ifYes X2.here hx rfl (pc0 := 20) (pc' := 28) rfl (hb hby d9_20) rfl ((if0 _ _).trans (flt (fun q => hc4 ((lw_gt _ _).mp q))).2.2.2) (by decide) (by decide) ?_
      show Steps p.tables e below (T2.setTop (mkF m 28 #[.val (.ref a1), .val (.long q1), .second, .val (.long q2), .second, .val (.long ((q1 + (1 : Int64)) * g)), .second] [(.ref a1)])) _
      refine X2.ldc2Long hx hown (mvT hZ (kw25 hw)) (g := (mkF m 28 #[.val (.ref a1), .val (.long q1), .second, .val (.long q2), .second, .val (.long ((q1 + (1 : Int64)) * g)), .second] [(.ref a1)])) rfl (hb hby d9_28) _ ?_
      show Steps p.tables e below (T2.setTop (mkF m 31 #[.val (.ref a1), .val (.long q1), .second, .val (.long q2), .second, .val (.long ((q1 + (1 : Int64)) * g)), .second] [(.long (9223372036854775807 : Int64)), (.ref a1)])) _
      simp only [if_neg hc4] at k; exact k)
  have f6 : Exa Z h2 a1 "com/example/okno/okno/AdmissionLog" := (P0.wr W2)
  have f7 : Fld Z h2 a1 "com/example/okno/okno/AdmissionLog" "newestSubWindowEnd" "J" (.long ne) := (P4.other W2 (Or.inr (slot_ne (Or.inl (kw67 hw)) (Or.inl (kw65 hw)) (by decide) (t := .long) (t' := .long) (by decide) (by decide))))
  obtain ⟨T8, h8, X8, e8, W8, st8⟩ := putF X2 hx hZ hown (host := "") (Or.inl (kw66 hw)) Via.refl e2 f7 f6 (Or.inl (kw67 hw)) (kw3 hw) (ty := .long) (by decide) rfl rfl (g := (mkF m 31 #[.val (.ref a1), .val (.long q1), .second, .val (.long q2), .second, .val (.long ((q1 + (1 : Int64)) * g)), .second] [(.long (if q2 < ((q1 + (1 : Int64)) * g) then ((q1 + (1 : Int64)) * g) else (9223372036854775807 : Int64))), (.ref a1)])) rfl rfl (hb hby d9_31)
  have Z8 : n0 ≤ h8.size := Nat.le_trans Z2 (Keep.of_wr W8).1
  have K8 : Keep h0 h8 [a1] := K2.wr W8 (Or.inl (List.mem_of_getElem? (i := 0) rfl))
  have N8 := Fr.snoc X8 N2 P1
  have Fw8 : Fld Z h8 a1 "com/example/okno/okno/AdmissionLog" "newestSubWindowEnd" "J" (.long (if q2 < ((q1 + (1 : Int64)) * g) then ((q1 + (1 : Int64)) * g) else (9223372036854775807 : Int64))) := f7.same W8
  have f9 : Fld Z h8 a1 "com/example/okno/okno/AdmissionLog" "subWindowMillis" "J" (.long g) := ((P2.other W2 (Or.inr (slot_ne (Or.inr (kw31 hw)) (Or.inl (kw65 hw)) (by decide) (t := .long) (t' := .long) (by decide) (by decide)))).other W8 (Or.inr (slot_ne (Or.inr (kw31 hw)) (Or.inl (kw67 hw)) (by decide) (t := .long) (t' := .long) (by decide) (by decide))))
  have f10 : Fld Z h8 a1 "com/example/okno/okno/AdmissionLog" "newestSubWindow" "J" (.long q1) := (Fw2.other W8 (Or.inr (slot_ne (Or.inl (kw65 hw)) (Or.inl (kw67 hw)) (by decide) (t := .long) (t' := .long) (by decide) (by decide))))
  have f11 : Fld Z h8 a1 "com/example/okno/okno/AdmissionLog" "newest" "J" (.long u_newest) := ((P5.other W2 (Or.inr (slot_ne (Or.inl (kw18 hw)) (Or.inl (kw65 hw)) (by decide) (t := .long) (t' := .long) (by decide) (by decide)))).other W8 (Or.inr (slot_ne (Or.inl (kw18 hw)) (Or.inl (kw67 hw)) (by decide) (t := .long) (t' := .long) (by decide) (by decide))))
  have f12 : Fld Z h8 a1 "com/example/okno/okno/AdmissionLog" "subWindows" "[J" (.ref u_subWindows) := ((P6.other W2 (Or.inr (slot_ne (Or.inl (kw22 hw)) (Or.inl (kw65 hw)) (by decide) (t := (.array .long)) (t' := .long) (by decide) (by decide)))).other W8 (Or.inr (slot_ne (Or.inl (kw22 hw)) (Or.inl (kw67 hw)) (by decide) (t := (.array .long)) (t' := .long) (by decide) (by decide))))
  have f13 : Fld Z h8 a1 "com/example/okno/okno/AdmissionLog" "amounts" "[J" (.ref u_amounts) := ((P7.other W2 (Or.inr (slot_ne (Or.inl (kw24 hw)) (Or.inl (kw65 hw)) (by decide) (t := (.array .long)) (t' := .long) (by decide) (by decide)))).other W8 (Or.inr (slot_ne (Or.inl (kw24 hw)) (Or.inl (kw67 hw)) (by decide) (t := (.array .long)) (t' := .long) (by decide) (by decide))))
  have f14 : Fld Z h8 a1 "com/example/okno/okno/AdmissionLog" "oldestSubWindow" "J" (.long u_oldestSubWindow) := ((P8.other W2 (Or.inr (slot_ne (Or.inl (kw27 hw)) (Or.inl (kw65 hw)) (by decide) (t := .long) (t' := .long) (by decide) (by decide)))).other W8 (Or.inr (slot_ne (Or.inl (kw27 hw)) (Or.inl (kw67 hw)) (by decide) (t := .long) (t' := .long) (by decide) (by decide))))
  have f15 : Fld Z h8 a1 "com/example/okno/okno/AdmissionLog" "lastTime" "J" (.long u_lastTime) := ((P9.other W2 (Or.inr (slot_ne (Or.inl (kw29 hw)) (Or.inl (kw65 hw)) (by decide) (t := .long) (t' := .long) (by decide) (by decide)))).other W8 (Or.inr (slot_ne (Or.inl (kw29 hw)) (Or.inl (kw67 hw)) (by decide) (t := .long) (t' := .long) (by decide) (by decide))))
  have f16 : Fld Z h8 a1 "com/example/okno/okno/AdmissionLog" "lastSubWindow" "J" (.long u_lastSubWindow) := ((P10.other W2 (Or.inr (slot_ne (Or.inl (kw37 hw)) (Or.inl (kw65 hw)) (by decide) (t := .long) (t' := .long) (by decide) (by decide)))).other W8 (Or.inr (slot_ne (Or.inl (kw37 hw)) (Or.inl (kw67 hw)) (by decide) (t := .long) (t' := .long) (by decide) (by decide))))
  have f17 : Fld Z h8 a1 "com/example/okno/okno/AdmissionLog" "shorterWindows" "[J" (.ref u_shorterWindows) := ((P11.other W2 (Or.inr (slot_ne (Or.inr (kw39 hw)) (Or.inl (kw65 hw)) (by decide) (t := (.array .long)) (t' := .long) (by decide) (by decide)))).other W8 (Or.inr (slot_ne (Or.inr (kw39 hw)) (Or.inl (kw67 hw)) (by decide) (t := (.array .long)) (t' := .long) (by decide) (by decide))))
  have f18 : Fld Z h8 a1 "com/example/okno/okno/AdmissionLog" "total" "J" (.long u_total) := ((P12.other W2 (Or.inr (slot_ne (Or.inl (kw46 hw)) (Or.inl (kw65 hw)) (by decide) (t := .long) (t' := .long) (by decide) (by decide)))).other W8 (Or.inr (slot_ne (Or.inl (kw46 hw)) (Or.inl (kw67 hw)) (by decide) (t := .long) (t' := .long) (by decide) (by decide))))
  have f19 : Fld Z h8 a1 "com/example/okno/okno/AdmissionLog" "olderTotal" "J" (.long u_olderTotal) := ((P13.other W2 (Or.inr (slot_ne (Or.inl (kw95 hw)) (Or.inl (kw65 hw)) (by decide) (t := .long) (t' := .long) (by decide) (by decide)))).other W8 (Or.inr (slot_ne (Or.inl (kw95 hw)) (Or.inl (kw67 hw)) (by decide) (t := .long) (t' := .long) (by decide) (by decide))))
  obtain ⟨fs, hr, hrun, hended, hW, hsame⟩ := X8.leave (v := none) (fun _ => rfl)
  refine ⟨_, _, pre5 _ ?_, hrun, hended, _, _, rfl, ?_, ⟨_, rfl⟩, hW, hsame.mono (by decide) (by decide)⟩
  · skip
    show Steps p.tables e below (T2.setTop (mkF m 31 #[.val (.ref a1), .val (.long q1), .second, .val (.long q2), .second, .val (.long ((q1 + (1 : Int64)) * g)), .second] [(.long (if q2 < ((q1 + (1 : Int64)) * g) then ((q1 + (1 : Int64)) * g) else (9223372036854775807 : Int64))), (.ref a1)])) _
    refine st8 _ ?_
    show Steps p.tables e below (T8.setTop (mkF m 34 #[.val (.ref a1), .val (.long q1), .second, .val (.long q2), .second, .val (.long ((q1 + (1 : Int64)) * g)), .second] [])) _
    exact X8.returnOut hx Bd.returns (hb hby d9_34) hr
  · show Q_rm9 Z a1 q1 q2 g ns ne u_newest u_subWindows u_amounts u_oldestSubWindow u_lastTime u_lastSubWindow u_shorterWindows u_total u_olderTotal h0 n0 _ T8.heap _
    rw [e8]
    exact ⟨rfl, N8, K8, f9, f10, Fw8, f11, f12, f13, f14, f15, f16, f17, f18, f19⟩
theorem ef_rm10 (m : MethodId) (x0 : Addr) (x1 : Int64) : entryFrame m #[(.ref x0), (.long x1)] 4 = mkF m 0 #[.val (.ref x0), .val (.long x1), .second, .unset] [] := by first | (simp [entryFrame, mkF, argsToLocals, Value.category]; done) | rfl
def Q_rm10 (Z : State) (a1 : Addr) (q1 : Int64) (w_NO_ENTRIES : Addr) (kk : ClassId) (h0 : Heap) (n0 : Nat) (v : Option Value) (h : Heap) (L : List Loc) : Prop := v = none ∧ Fr n0 L ∧ h = h0
set_option maxRecDepth 65536 in
set_option maxHeartbeats 40000000 in
theorem rm10 (l : Launch) (Z : State) (a0 : Array Value) (hw : ∀ d ∈ tables_1, d.before a0 Z = true) (ws : List Jvm.Cond) (a1 : Addr) (q1 : Int64) (w_NO_ENTRIES : Addr) (kk : ClassId) (h0 : Heap) (n0 : Nat) (Z0 : n0 ≤ h0.size) (P0 : Fld Z h0 a1 "com/example/okno/okno/AdmissionLog" "shorterWindows" "[J" (.ref w_NO_ENTRIES)) (P1 : Arv Z h0 w_NO_ENTRIES kk .long (0 : Int32) [] (.long (0 : Int64))) :
    MetFree l (⟨"com/example/okno/okno/AdmissionLog", "countNewEntryInShorterWindows", "(J)V"⟩ : MethodName) (head1 (Jvm.Cond.code (⟨"com/example/okno/okno/AdmissionLog", "countNewEntryInShorterWindows", "(J)V"⟩ : MethodName) prog_2_method_19_code 4 none :: ws) ({ frames := 0, cells := 0, slots := 0, locals := 0 } : Room)) (fun a U => a = #[(.ref a1), (.long q1)] ∧ Z.Warmed39 U.vm ∧ U.heap = h0) (fun _ _ _ _ _ => True) (fun _ U o U' => ∃ v L, o = .returned v ∧ Q_rm10 Z a1 q1 w_NO_ENTRIES kk h0 n0 v U'.heap L ∧ FrameEnd U o U' L ({ frames := 0, cells := 0, slots := 0, locals := 0 } : Room).cells ({ frames := 0, cells := 0, slots := 0, locals := 0 } : Room).slots) := by
  refine MetFree.of_bodySF (plainFor_of_name pn_1) hisR ?_
  intro p e s m args below meth c s₁ Bd hml0 hP hK
  obtain ⟨rfl, hZ, hh⟩ := hP
  have hx := Bd.exec
  have hby := Bd.bytes
  have hml : c.maxLocals = 4 := hml0
  have hown : s.vm.findClass "com/example/okno/okno/AdmissionLog" = some m.cls := findClass_of_methodNamed Bd.named
  have hnm := (name_of_methodNamed Bd.named Bd.method).1
  have X0 : Stand p l e ({ frames := 0, cells := 0, slots := 0, locals := 0 } : Room) s m #[(.ref a1), (.long q1)] below meth c s₁ [] 0 0 := Stand.of_body Bd
  have e0 : s₁.heap = h0 := by rw [← hh, Bd.state]; rfl
  have N0 := Fr.nil n0
  have KR : Keep h0 h0 [] := Keep.refl h0 _
  have pre0 : ∀ t, Steps p.tables e below (s₁.setTop (mkF m 0 #[.val (.ref a1), .val (.long q1), .second, .unset] [])) t → Steps p.tables e below (s₁.setTop (entryFrame m #[(.ref a1), (.long q1)] 4)) t := fun t k => castTop (ef_rm10 m (a1) (q1)) k
  obtain ⟨T1, X1, e1, st1⟩ := getF X0 hx hZ hown (host := "") (Or.inl (kw38 hw)) Via.refl e0 P0 (g := (mkF m 4 #[.val (.ref a1), .val (.long q1), .second, .val (.int (0 : Int32))] [(.ref a1), (.int (0 : Int32))])) rfl rfl (hb hby d10_4)
  obtain ⟨cl2, Ar2, -, S2, N2', -, -⟩ := id P1
  obtain ⟨fs, hr, hrun, hended, hW, hsame⟩ := X1.leave (v := none) (fun _ => rfl)
  refine ⟨_, _, pre0 _ ?_, hrun, hended, _, _, rfl, ?_, ⟨_, rfl⟩, hW, hsame.mono (by decide) (by decide)⟩
  · skip
    show Steps p.tables e below (s₁.setTop (mkF m 0 #[.val (.ref a1), .val (.long q1), .second, .unset] [])) _
    refine XS.iconst X0.here hx rfl (hb hby d10_0) ?_
    show Steps p.tables e below (s₁.setTop (mkF m 1 #[.val (.ref a1), .val (.long q1), .second, .unset] [(.int (0 : Int32))])) _
    refine XS.istoreN X0.here hx rfl (hb hby d10_1) rfl (l' := #[.val (.ref a1), .val (.long q1), .second, .val (.int (0 : Int32))]) rfl ?_
    show Steps p.tables e below (s₁.setTop (mkF m 2 #[.val (.ref a1), .val (.long q1), .second, .val (.int (0 : Int32))] [])) _
    refine XS.iloadN X0.here hx rfl (hb hby d10_2) rfl ?_
    show Steps p.tables e below (s₁.setTop (mkF m 3 #[.val (.ref a1), .val (.long q1), .second, .val (.int (0 : Int32))] [(.int (0 : Int32))])) _
    refine XS.aloadN X0.here hx rfl (hb hby d10_3) rfl rfl ?_
    show Steps p.tables e below (s₁.setTop (mkF m 4 #[.val (.ref a1), .val (.long q1), .second, .val (.int (0 : Int32))] [(.ref a1), (.int (0 : Int32))])) _
    refine st1 _ ?_
    show Steps p.tables e below (T1.setTop (mkF m 7 #[.val (.ref a1), .val (.long q1), .second, .val (.int (0 : Int32))] [(.ref w_NO_ENTRIES), (.int (0 : Int32))])) _
    refine X1.arraylength hx (by rw [e1]; exact Ar2.1) (State.isArrayOf_alike hZ.alike Ar2.2.1) (g := (mkF m 7 #[.val (.ref a1), .val (.long q1), .second, .val (.int (0 : Int32))] [(.ref w_NO_ENTRIES), (.int (0 : Int32))])) rfl rfl (hb hby d10_7) _ ?_
    rw [len_of S2 N2']
    show Steps p.tables e below (T1.setTop (mkF m 8 #[.val (.ref a1), .val (.long q1), .second, .val (.int (0 : Int32))] [(.int (0 : Int32)), (.int (0 : Int32))])) _
    refine XS.icmpYes X1.here hx rfl (pc0 := 8) (pc' := 52) rfl (hb hby d10_8) rfl (flt (by decide)).2.1 (by decide) (by decide) ?_
    show Steps p.tables e below (T1.setTop (mkF m 52 #[.val (.ref a1), .val (.long q1), .second, .val (.int (0 : Int32))] [])) _
    exact X1.returnOut hx Bd.returns (hb hby d10_52) hr
  · show Q_rm10 Z a1 q1 w_NO_ENTRIES kk h0 n0 _ T1.heap _
    rw [e1]
    exact ⟨rfl, N0, rfl⟩
theorem ef_rm5 (m : MethodId) (x0 : Addr) (x1 : Int64) (x2 : Int64) : entryFrame m #[(.ref x0), (.long x1), (.long x2)] 11 = mkF m 0 #[.val (.ref x0), .val (.long x1), .second, .val (.long x2), .second, .unset, .unset, .unset, .unset, .unset, .unset] [] := by first | (simp [entryFrame, mkF, argsToLocals, Value.category]; done) | rfl
def Q_rm5 (Z : State) (a1 : Addr) (q1 : Int64) (q2 : Int64) (g : Int64) (lt : Int64) (ns : Int64) (ne : Int64) (nw : Int64) (os : Int64) (w_NO_ENTRIES : Addr) (kk : ClassId) (u_subWindows : Addr) (u_amounts : Addr) (u_olderTotal : Int64) (h0 : Heap) (n0 : Nat) (v : Option Value) (h : Heap) (L : List Loc) : Prop := v = none ∧ Fr n0 L ∧ Keep h0 h [a1] ∧ Fld Z h a1 "com/example/okno/okno/AdmissionLog" "total" "J" (.long ((0 : Int64) + q2)) ∧ Fld Z h a1 "com/example/okno/okno/AdmissionLog" "newest" "J" (.long q1) ∧ Fld Z h a1 "com/example/okno/okno/AdmissionLog" "newestSubWindowEnd" "J" (.long (own_end (own_fd q1 g) q1 g)) ∧ Fld Z h a1 "com/example/okno/okno/AdmissionLog" "subWindowMillis" "J" (.long g)
set_option maxRecDepth 65536 in
set_option maxHeartbeats 40000000 in
theorem rm5 (l : Launch) (Z : State) (a0 : Array Value) (hw : ∀ d ∈ tables_1, d.before a0 Z = true) (ws : List Jvm.Cond) (a1 : Addr) (q1 : Int64) (q2 : Int64) (g : Int64) (lt : Int64) (ns : Int64) (ne : Int64) (nw : Int64) (os : Int64) (w_NO_ENTRIES : Addr) (kk : ClassId) (u_subWindows : Addr) (u_amounts : Addr) (u_olderTotal : Int64) (h0 : Heap) (n0 : Nat) (Z0 : n0 ≤ h0.size) (P0 : Exa Z h0 a1 "com/example/okno/okno/AdmissionLog") (P1 : n0 ≤ a1) (P2 : w_NO_ENTRIES ≠ a1) (P3 : Arv Z h0 w_NO_ENTRIES kk .long (0 : Int32) [] (.long (0 : Int64))) (hg : g ≠ (0 : Int64)) (P5 : Fld Z h0 a1 "com/example/okno/okno/AdmissionLog" "lastTime" "J" (.long lt)) (P6 : Fld Z h0 a1 "com/example/okno/okno/AdmissionLog" "lastSubWindow" "J" (.long (own_fd lt g))) (P7 : Fld Z h0 a1 "com/example/okno/okno/AdmissionLog" "subWindowMillis" "J" (.long g)) (P8 : Fld Z h0 a1 "com/example/okno/okno/AdmissionLog" "newestSubWindow" "J" (.long ns)) (P9 : Fld Z h0 a1 "com/example/okno/okno/AdmissionLog" "newestSubWindowEnd" "J" (.long ne)) (P10 : Fld Z h0 a1 "com/example/okno/okno/AdmissionLog" "total" "J" (.long (0 : Int64))) (P11 : Fld Z h0 a1 "com/example/okno/okno/AdmissionLog" "newest" "J" (.long nw)) (P12 : Fld Z h0 a1 "com/example/okno/okno/AdmissionLog" "oldestSubWindow" "J" (.long os)) (P13 : Fld Z h0 a1 "com/example/okno/okno/AdmissionLog" "shorterWindows" "[J" (.ref w_NO_ENTRIES)) (P14 : Fld Z h0 a1 "com/example/okno/okno/AdmissionLog" "subWindows" "[J" (.ref u_subWindows)) (P15 : Fld Z h0 a1 "com/example/okno/okno/AdmissionLog" "amounts" "[J" (.ref u_amounts)) (P16 : Fld Z h0 a1 "com/example/okno/okno/AdmissionLog" "olderTotal" "J" (.long u_olderTotal)) :
    MetFree l (⟨"com/example/okno/okno/AdmissionLog", "append", "(JJ)V"⟩ : MethodName) (head1 (Jvm.Cond.code (⟨"com/example/okno/okno/AdmissionLog", "append", "(JJ)V"⟩ : MethodName) prog_2_method_12_code 11 none :: ws) ({ frames := 2, cells := 0, slots := 0, locals := 32 } : Room)) (fun a U => a = #[(.ref a1), (.long q1), (.long q2)] ∧ Z.Warmed39 U.vm ∧ U.heap = h0) (fun _ _ _ _ _ => True) (fun _ U o U' => ∃ v L, o = .returned v ∧ Q_rm5 Z a1 q1 q2 g lt ns ne nw os w_NO_ENTRIES kk u_subWindows u_amounts u_olderTotal h0 n0 v U'.heap L ∧ FrameEnd U o U' L ({ frames := 2, cells := 0, slots := 0, locals := 32 } : Room).cells ({ frames := 2, cells := 0, slots := 0, locals := 32 } : Room).slots) := by
  refine MetFree.of_bodySF (plainFor_of_name pn_1) hisR ?_
  intro p e s m args below meth c s₁ Bd hml0 hP hK
  obtain ⟨rfl, hZ, hh⟩ := hP
  have hx := Bd.exec
  have hby := Bd.bytes
  have hml : c.maxLocals = 11 := hml0
  have hown : s.vm.findClass "com/example/okno/okno/AdmissionLog" = some m.cls := findClass_of_methodNamed Bd.named
  have hnm := (name_of_methodNamed Bd.named Bd.method).1
  have X0 : Stand p l e ({ frames := 2, cells := 0, slots := 0, locals := 32 } : Room) s m #[(.ref a1), (.long q1), (.long q2)] below meth c s₁ [] 0 0 := Stand.of_body Bd
  have e0 : s₁.heap = h0 := by rw [← hh, Bd.state]; rfl
  have N0 := Fr.nil n0
  have KR : Keep h0 h0 [a1] := Keep.refl h0 _
  have pre0 : ∀ t, Steps p.tables e below (s₁.setTop (mkF m 0 #[.val (.ref a1), .val (.long q1), .second, .val (.long q2), .second, .unset, .unset, .unset, .unset, .unset, .unset] [])) t → Steps p.tables e below (s₁.setTop (entryFrame m #[(.ref a1), (.long q1), (.long q2)] 11)) t := fun t k => castTop (ef_rm5 m (a1) (q1) (q2)) k
  obtain ⟨T1, X1, e1, st1⟩ := getF X0 hx hZ hown (host := "") (Or.inl (kw45 hw)) Via.refl e0 P10 (g := (mkF m 1 #[.val (.ref a1), .val (.long q1), .second, .val (.long q2), .second, .unset, .unset, .unset, .unset, .unset, .unset] [(.ref a1)])) rfl rfl (hb hby d5_1)
  obtain ⟨_, _, ⟨T2, L2, k2, n2⟩, -, X2, ⟨Lc2, hQ2, l2, y2, z2⟩, st2⟩ := Jvm.LawKit.callS X1 hx (y := (⟨"java/lang/Math", "addExact", "(JJ)J"⟩ : MethodName)) hown (mvT hZ (kw47 hw)) (mvT hZ (kw48 hw)) (mvT hZ (kw34 hw)) (mvT hZ (kw49 hw)) (by decide) (backOf (W := 0) (rm6 l Z a0 hw [] (0 : Int64) q2 h0 n0 Z0 (own_nov _)) hZ (kw49 hw) (kw34 hw) (by decide) (by decide)) (g := (mkF m 5 #[.val (.ref a1), .val (.long q1), .second, .val (.long q2), .second, .unset, .unset, .unset, .unset, .unset, .unset] [(.long q2), (.long (0 : Int64))])) rfl (by rw [hml]; rfl) (argsL := [(.long (0 : Int64)), (.long q2)]) (rest := []) (lenOf pd_1 rfl) rfl (by show 2 * 0 + _ ≤ _; exact Nat.le_of_eq rfl) (hb hby d5_5) (fun _ _ => ⟨rfl, e1, (by decide : 0 + 0 ≤ _), (by decide : 0 + 0 ≤ _)⟩)
  dsimp only [Pt.U, Pt.locs, Pt.cells, Pt.slots] at X2 l2 y2 z2 st2 hQ2
  subst l2 y2 z2
  obtain ⟨rfl, N2q, e2⟩ := hQ2
  have N2 := Fr.app N0 N2q
  obtain ⟨cq3, kq3, q3a, q3b, q3c⟩ := isOf hZ e2 P0
  obtain ⟨_, _, ⟨T3, L3, k3, n3⟩, -, X3, ⟨Lc3, hQ3, l3, y3, z3⟩, st3⟩ := X2.virtualBack hx (y := (⟨"com/example/okno/okno/AdmissionLog", "subWindowOf", "(J)J"⟩ : MethodName)) (z := (⟨"com/example/okno/okno/AdmissionLog", "subWindowOf", "(J)J"⟩ : MethodName)) hown (mvT hZ (kw50 hw)) (mvT hZ (kw51 hw)) (notFace_of_selects (args := #[]) (mvT hZ (kw53 hw))) (mvT hZ (kw53 hw)) (mvT hZ (kw52 hw)) (by decide) (backOf (W := 0) (rm7 l Z a0 hw [] a1 q1 lt g nw u_subWindows u_amounts os w_NO_ENTRIES (0 : Int64) ns ne u_olderTotal h0 n0 Z0 P0 P1 hg P5 P6 P7 P11 P14 P15 P12 P13 P10 P8 P9 P16) hZ (kw54 hw) (kw4 hw) (by decide) (by decide)) q3a q3c (g := (mkF m 12 #[.val (.ref a1), .val (.long q1), .second, .val (.long q2), .second, .val (.long ((0 : Int64) + q2)), .second, .unset, .unset, .unset, .unset] [(.long q1), (.ref a1)])) rfl (by rw [hml]; rfl) (Steps.refl _) (argsL := [(.long q1)]) (rest := []) (lenOf pd_2 rfl) rfl (by show 2 * 0 + _ ≤ _; exact Nat.le_of_eq rfl) (hb hby d5_12) (fun _ _ => ⟨rfl, e2, (by decide : 0 + 0 ≤ _), (by decide : 0 + 0 ≤ _)⟩)
  dsimp only [Pt.U, Pt.locs, Pt.cells, Pt.slots] at X3 l3 y3 z3 st3 hQ3
  subst l3 y3 z3
  obtain ⟨rfl, N3q, Kq3, p3_0, p3_1, p3_2, p3_3, p3_4, p3_5, p3_6, p3_7, p3_8, p3_9, p3_10, p3_11⟩ := hQ3
  have N3 := Fr.app N2 N3q
  have Z3 : n0 ≤ T3.heap.size := Nat.le_trans Z0 Kq3.1
  have K3 : Keep h0 T3.heap [a1] := KR.trans Kq3 (allS (Or.inl (List.mem_of_getElem? (i := 0) rfl)) all0)
  have f5 : Exa Z T3.heap a1 "com/example/okno/okno/AdmissionLog" := (P0.keep Kq3)
  obtain ⟨cq4, kq4, q4a, q4b, q4c⟩ := isOf hZ rfl f5
  obtain ⟨_, _, ⟨T4, L4, k4, n4⟩, -, X4, ⟨Lc4, hQ4, l4, y4, z4⟩, st4⟩ := X3.virtualBack hx (y := (⟨"com/example/okno/okno/AdmissionLog", "isEmpty", "()Z"⟩ : MethodName)) (z := (⟨"com/example/okno/okno/AdmissionLog", "isEmpty", "()Z"⟩ : MethodName)) hown (mvT hZ (kw55 hw)) (mvT hZ (kw56 hw)) (notFace_of_selects (args := #[]) (mvT hZ (kw58 hw))) (mvT hZ (kw58 hw)) (mvT hZ (kw57 hw)) (by decide) (backOf (W := 0) (rm8 l Z a0 hw [] a1 (0 : Int64) T3.heap n0 Z3 p3_8) hZ (kw59 hw) (kw4 hw) (by decide) (by decide)) q4a q4c (g := (mkF m 18 #[.val (.ref a1), .val (.long q1), .second, .val (.long q2), .second, .val (.long ((0 : Int64) + q2)), .second, .val (.long (own_fd q1 g)), .second, .unset, .unset] [(.ref a1)])) rfl (by rw [hml]; rfl) (Steps.refl _) (argsL := []) (rest := []) (lenOf pd_3 rfl) rfl (by show 2 * 0 + _ ≤ _; exact Nat.le_of_eq rfl) (hb hby d5_18) (fun _ _ => ⟨rfl, rfl, (by decide : 0 + 0 ≤ _), (by decide : 0 + 0 ≤ _)⟩)
  dsimp only [Pt.U, Pt.locs, Pt.cells, Pt.slots] at X4 l4 y4 z4 st4 hQ4
  subst l4 y4 z4
  obtain ⟨rfl, N4q, e4⟩ := hQ4
  have N4 := Fr.app N3 N4q
  obtain ⟨T6, h6, X6, e6, W6, st6⟩ := putF X4 hx hZ hown (host := "") (Or.inl (kw26 hw)) Via.refl e4 p3_6 f5 (Or.inl (kw27 hw)) (kw3 hw) (ty := .long) (by decide) rfl rfl (g := (mkF m 27 #[.val (.ref a1), .val (.long q1), .second, .val (.long q2), .second, .val (.long ((0 : Int64) + q2)), .second, .val (.long (own_fd q1 g)), .second, .unset, .unset] [(.long (own_fd q1 g)), (.ref a1)])) rfl rfl (hb hby d5_27)
  have Z6 : n0 ≤ h6.size := Nat.le_trans Z3 (Keep.of_wr W6).1
  have K6 : Keep h0 h6 [a1] := K3.wr W6 (Or.inl (List.mem_of_getElem? (i := 0) rfl))
  have N6 := Fr.snoc X6 N4 P1
  have Fw6 : Fld Z h6 a1 "com/example/okno/okno/AdmissionLog" "oldestSubWindow" "J" (.long (own_fd q1 g)) := p3_6.same W6
  have f8 : Exa Z h6 a1 "com/example/okno/okno/AdmissionLog" := (f5.wr W6)
  have f9 : Fld Z h6 a1 "com/example/okno/okno/AdmissionLog" "subWindowMillis" "J" (.long g) := (p3_2.other W6 (Or.inr (slot_ne (Or.inr (kw31 hw)) (Or.inl (kw27 hw)) (by decide) (t := .long) (t' := .long) (by decide) (by decide))))
  have f10 : Fld Z h6 a1 "com/example/okno/okno/AdmissionLog" "newestSubWindow" "J" (.long ns) := (p3_9.other W6 (Or.inr (slot_ne (Or.inl (kw65 hw)) (Or.inl (kw27 hw)) (by decide) (t := .long) (t' := .long) (by decide) (by decide))))
  have f11 : Fld Z h6 a1 "com/example/okno/okno/AdmissionLog" "newestSubWindowEnd" "J" (.long ne) := (p3_10.other W6 (Or.inr (slot_ne (Or.inl (kw67 hw)) (Or.inl (kw27 hw)) (by decide) (t := .long) (t' := .long) (by decide) (by decide))))
  have f12 : Fld Z h6 a1 "com/example/okno/okno/AdmissionLog" "newest" "J" (.long nw) := (p3_3.other W6 (Or.inr (slot_ne (Or.inl (kw18 hw)) (Or.inl (kw27 hw)) (by decide) (t := .long) (t' := .long) (by decide) (by decide))))
  have f13 : Fld Z h6 a1 "com/example/okno/okno/AdmissionLog" "subWindows" "[J" (.ref u_subWindows) := (p3_4.other W6 (Or.inr (slot_ne (Or.inl (kw22 hw)) (Or.inl (kw27 hw)) (by decide) (t := (.array .long)) (t' := .long) (by decide) (by decide))))
  have f14 : Fld Z h6 a1 "com/example/okno/okno/AdmissionLog" "amounts" "[J" (.ref u_amounts) := (p3_5.other W6 (Or.inr (slot_ne (Or.inl (kw24 hw)) (Or.inl (kw27 hw)) (by decide) (t := (.array .long)) (t' := .long) (by decide) (by decide))))
  have f15 : Fld Z h6 a1 "com/example/okno/okno/AdmissionLog" "lastTime" "J" (.long q1) := (p3_0.other W6 (Or.inr (slot_ne (Or.inl (kw29 hw)) (Or.inl (kw27 hw)) (by decide) (t := .long) (t' := .long) (by decide) (by decide))))
  have f16 : Fld Z h6 a1 "com/example/okno/okno/AdmissionLog" "lastSubWindow" "J" (.long (own_fd q1 g)) := (p3_1.other W6 (Or.inr (slot_ne (Or.inl (kw37 hw)) (Or.inl (kw27 hw)) (by decide) (t := .long) (t' := .long) (by decide) (by decide))))
  have f17 : Fld Z h6 a1 "com/example/okno/okno/AdmissionLog" "shorterWindows" "[J" (.ref w_NO_ENTRIES) := (p3_7.other W6 (Or.inr (slot_ne (Or.inr (kw39 hw)) (Or.inl (kw27 hw)) (by decide) (t := (.array .long)) (t' := .long) (by decide) (by decide))))
  have f18 : Fld Z h6 a1 "com/example/okno/okno/AdmissionLog" "total" "J" (.long (0 : Int64)) := (p3_8.other W6 (Or.inr (slot_ne (Or.inl (kw46 hw)) (Or.inl (kw27 hw)) (by decide) (t := .long) (t' := .long) (by decide) (by decide))))
  have f19 : Fld Z h6 a1 "com/example/okno/okno/AdmissionLog" "olderTotal" "J" (.long u_olderTotal) := (p3_11.other W6 (Or.inr (slot_ne (Or.inl (kw95 hw)) (Or.inl (kw27 hw)) (by decide) (t := .long) (t' := .long) (by decide) (by decide))))
  obtain ⟨cq7, q7, q7'⟩ := (f8).cell
  obtain ⟨_, _, ⟨T7, L7, k7, n7⟩, -, X7, ⟨Lc7, hQ7, l7, y7, z7⟩, st7⟩ := X6.privateBack hx (y := (⟨"com/example/okno/okno/AdmissionLog", "startNewestEntry", "(JJ)V"⟩ : MethodName)) hown (mvT hZ (kw60 hw)) (mvT hZ (kw61 hw)) (mvT hZ (own_selP rfl (kw3 hw) (kw61 hw) (kw62 hw) (by decide))) (Cond.privateMethod_at (mvP hZ (kw62 hw) (args := #[]))) (mvT hZ (kw63 hw)) (by decide) (backOf (W := 0) (rm9 l Z a0 hw [] a1 (own_fd q1 g) q1 g ns ne nw u_subWindows u_amounts (own_fd q1 g) q1 (own_fd q1 g) w_NO_ENTRIES (0 : Int64) u_olderTotal h6 n0 Z6 f8 P1 f9 f10 f11 f12 f13 f14 Fw6 f15 f16 f17 f18 f19) hZ (kw63 hw) (kw4 hw) (by decide) (by decide)) (g := (mkF m 34 #[.val (.ref a1), .val (.long q1), .second, .val (.long q2), .second, .val (.long ((0 : Int64) + q2)), .second, .val (.long (own_fd q1 g)), .second, .unset, .unset] [(.long q1), (.long (own_fd q1 g)), (.ref a1)])) rfl (by rw [hml]; rfl) (Steps.refl _) (a := a1) (by rw [e6]; exact q7) q7' (argsL := [(.long (own_fd q1 g)), (.long q1)]) (rest := []) (lenOf pd_4 rfl) rfl (by show 2 * 0 + _ ≤ _; exact Nat.le_of_eq rfl) (hb hby d5_34) (fun _ _ => ⟨rfl, e6, (by decide : 0 + 0 ≤ _), (by decide : 0 + 0 ≤ _)⟩)
  dsimp only [Pt.U, Pt.locs, Pt.cells, Pt.slots] at X7 l7 y7 z7 st7 hQ7
  subst l7 y7 z7
  obtain ⟨rfl, N7q, Kq7, p7_0, p7_1, p7_2, p7_3, p7_4, p7_5, p7_6, p7_7, p7_8, p7_9, p7_10, p7_11⟩ := hQ7
  have N7 := Fr.app N6 N7q
  have Z7 : n0 ≤ T7.heap.size := Nat.le_trans Z6 Kq7.1
  have K7 : Keep h0 T7.heap [a1] := K6.trans Kq7 (allS (Or.inl (List.mem_of_getElem? (i := 0) rfl)) all0)
  have f21 : Arv Z T7.heap w_NO_ENTRIES kk .long (0 : Int32) [] (.long (0 : Int64)) := (((P3.keep Kq3 (ninS P2 nin0)).other W6 P2).keep Kq7 (ninS P2 nin0))
  have f22 : Exa Z T7.heap a1 "com/example/okno/okno/AdmissionLog" := (f8.keep Kq7)
  obtain ⟨cq20, q20, q20'⟩ := (f22).cell
  obtain ⟨_, _, ⟨T20, L20, k20, n20⟩, -, X20, ⟨Lc20, hQ20, l20, y20, z20⟩, st20⟩ := X7.privateBack hx (y := (⟨"com/example/okno/okno/AdmissionLog", "countNewEntryInShorterWindows", "(J)V"⟩ : MethodName)) hown (mvT hZ (kw68 hw)) (mvT hZ (kw69 hw)) (mvT hZ (own_selP rfl (kw3 hw) (kw69 hw) (kw70 hw) (by decide))) (Cond.privateMethod_at (mvP hZ (kw70 hw) (args := #[]))) (mvT hZ (kw71 hw)) (by decide) (backOf (W := 0) (rm10 l Z a0 hw [] a1 (0 : Int64) w_NO_ENTRIES kk T7.heap n0 Z7 p7_9 f21) hZ (kw71 hw) (kw4 hw) (by decide) (by decide)) (g := (mkF m 39 #[.val (.ref a1), .val (.long q1), .second, .val (.long q2), .second, .val (.long ((0 : Int64) + q2)), .second, .val (.long (own_fd q1 g)), .second, .unset, .unset] [(.long (0 : Int64)), (.ref a1)])) rfl (by rw [hml]; rfl) (Steps.refl _) (a := a1) q20 q20' (argsL := [(.long (0 : Int64))]) (rest := []) (lenOf pd_5 rfl) rfl (by show 2 * 0 + _ ≤ _; exact Nat.le_of_eq rfl) (hb hby d5_39) (fun _ _ => ⟨rfl, rfl, (by decide : 0 + 0 ≤ _), (by decide : 0 + 0 ≤ _)⟩)
  dsimp only [Pt.U, Pt.locs, Pt.cells, Pt.slots] at X20 l20 y20 z20 st20 hQ20
  subst l20 y20 z20
  obtain ⟨rfl, N20q, e20⟩ := hQ20
  have N20 := Fr.app N7 N20q
  obtain ⟨T23, h23, X23, e23, W23, st23⟩ := putF X20 hx hZ hown (host := "") (Or.inl (kw45 hw)) Via.refl e20 p7_10 f22 (Or.inl (kw46 hw)) (kw3 hw) (ty := .long) (by decide) rfl rfl (g := (mkF m 92 #[.val (.ref a1), .val (.long q1), .second, .val (.long q2), .second, .val (.long ((0 : Int64) + q2)), .second, .val (.long (own_fd q1 g)), .second, .unset, .unset] [(.long ((0 : Int64) + q2)), (.ref a1)])) rfl rfl (hb hby d5_92)
  have Z23 : n0 ≤ h23.size := Nat.le_trans Z7 (Keep.of_wr W23).1
  have K23 : Keep h0 h23 [a1] := K7.wr W23 (Or.inl (List.mem_of_getElem? (i := 0) rfl))
  have N23 := Fr.snoc X23 N20 P1
  have Fw23 : Fld Z h23 a1 "com/example/okno/okno/AdmissionLog" "total" "J" (.long ((0 : Int64) + q2)) := p7_10.same W23
  have f24 : Exa Z h23 a1 "com/example/okno/okno/AdmissionLog" := (f22.wr W23)
  have f25 : Fld Z h23 a1 "com/example/okno/okno/AdmissionLog" "newest" "J" (.long nw) := (p7_3.other W23 (Or.inr (slot_ne (Or.inl (kw18 hw)) (Or.inl (kw46 hw)) (by decide) (t := .long) (t' := .long) (by decide) (by decide))))
  obtain ⟨T26, h26, X26, e26, W26, st26⟩ := putF X23 hx hZ hown (host := "") (Or.inl (kw17 hw)) Via.refl e23 f25 f24 (Or.inl (kw18 hw)) (kw3 hw) (ty := .long) (by decide) rfl rfl (g := (mkF m 97 #[.val (.ref a1), .val (.long q1), .second, .val (.long q2), .second, .val (.long ((0 : Int64) + q2)), .second, .val (.long (own_fd q1 g)), .second, .unset, .unset] [(.long q1), (.ref a1)])) rfl rfl (hb hby d5_97)
  have Z26 : n0 ≤ h26.size := Nat.le_trans Z23 (Keep.of_wr W26).1
  have K26 : Keep h0 h26 [a1] := K23.wr W26 (Or.inl (List.mem_of_getElem? (i := 0) rfl))
  have N26 := Fr.snoc X26 N23 P1
  have Fw26 : Fld Z h26 a1 "com/example/okno/okno/AdmissionLog" "newest" "J" (.long q1) := f25.same W26
  have f27 : Fld Z h26 a1 "com/example/okno/okno/AdmissionLog" "total" "J" (.long ((0 : Int64) + q2)) := (Fw23.other W26 (Or.inr (slot_ne (Or.inl (kw46 hw)) (Or.inl (kw18 hw)) (by decide) (t := .long) (t' := .long) (by decide) (by decide))))
  have f28 : Fld Z h26 a1 "com/example/okno/okno/AdmissionLog" "newestSubWindowEnd" "J" (.long (own_end (own_fd q1 g) q1 g)) := ((p7_2.other W23 (Or.inr (slot_ne (Or.inl (kw67 hw)) (Or.inl (kw46 hw)) (by decide) (t := .long) (t' := .long) (by decide) (by decide)))).other W26 (Or.inr (slot_ne (Or.inl (kw67 hw)) (Or.inl (kw18 hw)) (by decide) (t := .long) (t' := .long) (by decide) (by decide))))
  have f29 : Fld Z h26 a1 "com/example/okno/okno/AdmissionLog" "subWindowMillis" "J" (.long g) := ((p7_0.other W23 (Or.inr (slot_ne (Or.inr (kw31 hw)) (Or.inl (kw46 hw)) (by decide) (t := .long) (t' := .long) (by decide) (by decide)))).other W26 (Or.inr (slot_ne (Or.inr (kw31 hw)) (Or.inl (kw18 hw)) (by decide) (t := .long) (t' := .long) (by decide) (by decide))))
  obtain ⟨fs, hr, hrun, hended, hW, hsame⟩ := X26.leave (v := none) (fun _ => rfl)
  refine ⟨_, _, pre0 _ ?_, hrun, hended, _, _, rfl, ?_, ⟨_, rfl⟩, hW, hsame.mono (by decide) (by decide)⟩
  · skip
    show Steps p.tables e below (s₁.setTop (mkF m 0 #[.val (.ref a1), .val (.long q1), .second, .val (.long q2), .second, .unset, .unset, .unset, .unset, .unset, .unset] [])) _
    refine XS.aloadN X0.here hx rfl (hb hby d5_0) rfl rfl ?_
    show Steps p.tables e below (s₁.setTop (mkF m 1 #[.val (.ref a1), .val (.long q1), .second, .val (.long q2), .second, .unset, .unset, .unset, .unset, .unset, .unset] [(.ref a1)])) _
    refine st1 _ ?_
    show Steps p.tables e below (T1.setTop (mkF m 4 #[.val (.ref a1), .val (.long q1), .second, .val (.long q2), .second, .unset, .unset, .unset, .unset, .unset, .unset] [(.long (0 : Int64))])) _
    refine XS.lloadN X1.here hx rfl (hb hby d5_4) rfl ?_
    show Steps p.tables e below (T1.setTop (mkF m 5 #[.val (.ref a1), .val (.long q1), .second, .val (.long q2), .second, .unset, .unset, .unset, .unset, .unset, .unset] [(.long q2), (.long (0 : Int64))])) _
    refine st2 _ ?_
    show Steps p.tables e below (T2.setTop (mkF m 8 #[.val (.ref a1), .val (.long q1), .second, .val (.long q2), .second, .unset, .unset, .unset, .unset, .unset, .unset] [(.long ((0 : Int64) + q2))])) _
    refine XS.lstore X2.here hx rfl (hb hby d5_8) rfl (l' := #[.val (.ref a1), .val (.long q1), .second, .val (.long q2), .second, .val (.long ((0 : Int64) + q2)), .second, .unset, .unset, .unset, .unset]) rfl ?_
    show Steps p.tables e below (T2.setTop (mkF m 10 #[.val (.ref a1), .val (.long q1), .second, .val (.long q2), .second, .val (.long ((0 : Int64) + q2)), .second, .unset, .unset, .unset, .unset] [])) _
    refine XS.aloadN X2.here hx rfl (hb hby d5_10) rfl rfl ?_
    show Steps p.tables e below (T2.setTop (mkF m 11 #[.val (.ref a1), .val (.long q1), .second, .val (.long q2), .second, .val (.long ((0 : Int64) + q2)), .second, .unset, .unset, .unset, .unset] [(.ref a1)])) _
    refine XS.lloadN X2.here hx rfl (hb hby d5_11) rfl ?_
    show Steps p.tables e below (T2.setTop (mkF m 12 #[.val (.ref a1), .val (.long q1), .second, .val (.long q2), .second, .val (.long ((0 : Int64) + q2)), .second, .unset, .unset, .unset, .unset] [(.long q1), (.ref a1)])) _
    refine st3.trans ?_
    show Steps p.tables e below (T3.setTop (mkF m 15 #[.val (.ref a1), .val (.long q1), .second, .val (.long q2), .second, .val (.long ((0 : Int64) + q2)), .second, .unset, .unset, .unset, .unset] [(.long (own_fd q1 g))])) _
    refine XS.lstore X3.here hx rfl (hb hby d5_15) rfl (l' := #[.val (.ref a1), .val (.long q1), .second, .val (.long q2), .second, .val (.long ((0 : Int64) + q2)), .second, .val (.long (own_fd q1 g)), .second, .unset, .unset]) rfl ?_
    show Steps p.tables e below (T3.setTop (mkF m 17 #[.val (.ref a1), .val (.long q1), .second, .val (.long q2), .second, .val (.long ((0 : Int64) + q2)), .second, .val (.long (own_fd q1 g)), .second, .unset, .unset] [])) _
    refine XS.aloadN X3.here hx rfl (hb hby d5_17) rfl rfl ?_
    show Steps p.tables e below (T3.setTop (mkF m 18 #[.val (.ref a1), .val (.long q1), .second, .val (.long q2), .second, .val (.long ((0 : Int64) + q2)), .second, .val (.long (own_fd q1 g)), .second, .unset, .unset] [(.ref a1)])) _
    refine st4.trans ?_
    show Steps p.tables e below (T4.setTop (mkF m 21 #[.val (.ref a1), .val (.long q1), .second, .val (.long q2), .second, .val (.long ((0 : Int64) + q2)), .second, .val (.long (own_fd q1 g)), .second, .unset, .unset] [(.int (own_em (0 : Int64)))])) _
    refine XS.ifNo X4.here hx rfl (hb hby d5_21) rfl ((if0 _ _).trans (feq (by decide)).1) ?_
    show Steps p.tables e below (T4.setTop (mkF m 24 #[.val (.ref a1), .val (.long q1), .second, .val (.long q2), .second, .val (.long ((0 : Int64) + q2)), .second, .val (.long (own_fd q1 g)), .second, .unset, .unset] [])) _
    refine XS.aloadN X4.here hx rfl (hb hby d5_24) rfl rfl ?_
    show Steps p.tables e below (T4.setTop (mkF m 25 #[.val (.ref a1), .val (.long q1), .second, .val (.long q2), .second, .val (.long ((0 : Int64) + q2)), .second, .val (.long (own_fd q1 g)), .second, .unset, .unset] [(.ref a1)])) _
    refine XS.lload X4.here hx rfl (hb hby d5_25) rfl ?_
    show Steps p.tables e below (T4.setTop (mkF m 27 #[.val (.ref a1), .val (.long q1), .second, .val (.long q2), .second, .val (.long ((0 : Int64) + q2)), .second, .val (.long (own_fd q1 g)), .second, .unset, .unset] [(.long (own_fd q1 g)), (.ref a1)])) _
    refine st6 _ ?_
    show Steps p.tables e below (T6.setTop (mkF m 30 #[.val (.ref a1), .val (.long q1), .second, .val (.long q2), .second, .val (.long ((0 : Int64) + q2)), .second, .val (.long (own_fd q1 g)), .second, .unset, .unset] [])) _
    refine XS.aloadN X6.here hx rfl (hb hby d5_30) rfl rfl ?_
    show Steps p.tables e below (T6.setTop (mkF m 31 #[.val (.ref a1), .val (.long q1), .second, .val (.long q2), .second, .val (.long ((0 : Int64) + q2)), .second, .val (.long (own_fd q1 g)), .second, .unset, .unset] [(.ref a1)])) _
    refine XS.lload X6.here hx rfl (hb hby d5_31) rfl ?_
    show Steps p.tables e below (T6.setTop (mkF m 33 #[.val (.ref a1), .val (.long q1), .second, .val (.long q2), .second, .val (.long ((0 : Int64) + q2)), .second, .val (.long (own_fd q1 g)), .second, .unset, .unset] [(.long (own_fd q1 g)), (.ref a1)])) _
    refine XS.lloadN X6.here hx rfl (hb hby d5_33) rfl ?_
    show Steps p.tables e below (T6.setTop (mkF m 34 #[.val (.ref a1), .val (.long q1), .second, .val (.long q2), .second, .val (.long ((0 : Int64) + q2)), .second, .val (.long (own_fd q1 g)), .second, .unset, .unset] [(.long q1), (.long (own_fd q1 g)), (.ref a1)])) _
    refine st7.trans ?_
    show Steps p.tables e below (T7.setTop (mkF m 37 #[.val (.ref a1), .val (.long q1), .second, .val (.long q2), .second, .val (.long ((0 : Int64) + q2)), .second, .val (.long (own_fd q1 g)), .second, .unset, .unset] [])) _
    refine XS.aloadN X7.here hx rfl (hb hby d5_37) rfl rfl ?_
    show Steps p.tables e below (T7.setTop (mkF m 38 #[.val (.ref a1), .val (.long q1), .second, .val (.long q2), .second, .val (.long ((0 : Int64) + q2)), .second, .val (.long (own_fd q1 g)), .second, .unset, .unset] [(.ref a1)])) _
    refine XS.lconst X7.here hx rfl (hb hby d5_38) ?_
    show Steps p.tables e below (T7.setTop (mkF m 39 #[.val (.ref a1), .val (.long q1), .second, .val (.long q2), .second, .val (.long ((0 : Int64) + q2)), .second, .val (.long (own_fd q1 g)), .second, .unset, .unset] [(.long (0 : Int64)), (.ref a1)])) _
    refine st20.trans ?_
    show Steps p.tables e below (T20.setTop (mkF m 42 #[.val (.ref a1), .val (.long q1), .second, .val (.long q2), .second, .val (.long ((0 : Int64) + q2)), .second, .val (.long (own_fd q1 g)), .second, .unset, .unset] [])) _
    refine XS.goto X20.here hx rfl (pc0 := 42) (pc' := 89) rfl (hb hby d5_42) (by decide) (by decide) ?_
    show Steps p.tables e below (T20.setTop (mkF m 89 #[.val (.ref a1), .val (.long q1), .second, .val (.long q2), .second, .val (.long ((0 : Int64) + q2)), .second, .val (.long (own_fd q1 g)), .second, .unset, .unset] [])) _
    refine XS.aloadN X20.here hx rfl (hb hby d5_89) rfl rfl ?_
    show Steps p.tables e below (T20.setTop (mkF m 90 #[.val (.ref a1), .val (.long q1), .second, .val (.long q2), .second, .val (.long ((0 : Int64) + q2)), .second, .val (.long (own_fd q1 g)), .second, .unset, .unset] [(.ref a1)])) _
    refine XS.lload X20.here hx rfl (hb hby d5_90) rfl ?_
    show Steps p.tables e below (T20.setTop (mkF m 92 #[.val (.ref a1), .val (.long q1), .second, .val (.long q2), .second, .val (.long ((0 : Int64) + q2)), .second, .val (.long (own_fd q1 g)), .second, .unset, .unset] [(.long ((0 : Int64) + q2)), (.ref a1)])) _
    refine st23 _ ?_
    show Steps p.tables e below (T23.setTop (mkF m 95 #[.val (.ref a1), .val (.long q1), .second, .val (.long q2), .second, .val (.long ((0 : Int64) + q2)), .second, .val (.long (own_fd q1 g)), .second, .unset, .unset] [])) _
    refine XS.aloadN X23.here hx rfl (hb hby d5_95) rfl rfl ?_
    show Steps p.tables e below (T23.setTop (mkF m 96 #[.val (.ref a1), .val (.long q1), .second, .val (.long q2), .second, .val (.long ((0 : Int64) + q2)), .second, .val (.long (own_fd q1 g)), .second, .unset, .unset] [(.ref a1)])) _
    refine XS.lloadN X23.here hx rfl (hb hby d5_96) rfl ?_
    show Steps p.tables e below (T23.setTop (mkF m 97 #[.val (.ref a1), .val (.long q1), .second, .val (.long q2), .second, .val (.long ((0 : Int64) + q2)), .second, .val (.long (own_fd q1 g)), .second, .unset, .unset] [(.long q1), (.ref a1)])) _
    refine st26 _ ?_
    show Steps p.tables e below (T26.setTop (mkF m 100 #[.val (.ref a1), .val (.long q1), .second, .val (.long q2), .second, .val (.long ((0 : Int64) + q2)), .second, .val (.long (own_fd q1 g)), .second, .unset, .unset] [])) _
    exact X26.returnOut hx Bd.returns (hb hby d5_100) hr
  · show Q_rm5 Z a1 q1 q2 g lt ns ne nw os w_NO_ENTRIES kk u_subWindows u_amounts u_olderTotal h0 n0 _ T26.heap _
    rw [e26]
    exact ⟨rfl, N26, K26, f27, Fw26, f28, f29⟩
theorem ef_rm12 (m : MethodId) (x0 : Addr) (x1 : Int64) (x2 : Int64) : entryFrame m #[(.ref x0), (.long x1), (.long x2)] 5 = mkF m 0 #[.val (.ref x0), .val (.long x1), .second, .val (.long x2), .second] [] := by first | (simp [entryFrame, mkF, argsToLocals, Value.category]; done) | rfl
def Q_rm12 (Z : State) (a1 : Addr) (q1 : Int64) (q2 : Int64) (tt : Int64) (nw : Int64) (ne : Int64) (h0 : Heap) (n0 : Nat) (v : Option Value) (h : Heap) (L : List Loc) : Prop := v = none ∧ Fr n0 L ∧ Keep h0 h [a1] ∧ Fld Z h a1 "com/example/okno/okno/AdmissionLog" "total" "J" (.long (tt + q2)) ∧ Fld Z h a1 "com/example/okno/okno/AdmissionLog" "newest" "J" (.long (own_mx nw q1)) ∧ Fld Z h a1 "com/example/okno/okno/AdmissionLog" "newestSubWindowEnd" "J" (.long ne)
set_option maxRecDepth 65536 in
set_option maxHeartbeats 40000000 in
theorem rm12 (l : Launch) (Z : State) (a0 : Array Value) (hw : ∀ d ∈ tables_1, d.before a0 Z = true) (ws : List Jvm.Cond) (a1 : Addr) (q1 : Int64) (q2 : Int64) (tt : Int64) (nw : Int64) (ne : Int64) (h0 : Heap) (n0 : Nat) (Z0 : n0 ≤ h0.size) (P0 : Exa Z h0 a1 "com/example/okno/okno/AdmissionLog") (P1 : n0 ≤ a1) (P2 : Fld Z h0 a1 "com/example/okno/okno/AdmissionLog" "total" "J" (.long tt)) (P3 : Fld Z h0 a1 "com/example/okno/okno/AdmissionLog" "newest" "J" (.long nw)) (P4 : Fld Z h0 a1 "com/example/okno/okno/AdmissionLog" "newestSubWindowEnd" "J" (.long ne)) :
    MetFree l (⟨"com/example/okno/okno/AdmissionLog", "addToNewest", "(JJ)V"⟩ : MethodName) (head1 (Jvm.Cond.code (⟨"com/example/okno/okno/AdmissionLog", "addToNewest", "(JJ)V"⟩ : MethodName) prog_2_method_13_code 5 none :: ws) ({ frames := 0, cells := 0, slots := 0, locals := 0 } : Room)) (fun a U => a = #[(.ref a1), (.long q1), (.long q2)] ∧ Z.Warmed39 U.vm ∧ U.heap = h0) (fun _ _ _ _ _ => True) (fun _ U o U' => ∃ v L, o = .returned v ∧ Q_rm12 Z a1 q1 q2 tt nw ne h0 n0 v U'.heap L ∧ FrameEnd U o U' L ({ frames := 0, cells := 0, slots := 0, locals := 0 } : Room).cells ({ frames := 0, cells := 0, slots := 0, locals := 0 } : Room).slots) := by
  refine MetFree.of_bodySF (plainFor_of_name pn_1) hisR ?_
  intro p e s m args below meth c s₁ Bd hml0 hP hK
  obtain ⟨rfl, hZ, hh⟩ := hP
  have hx := Bd.exec
  have hby := Bd.bytes
  have hml : c.maxLocals = 5 := hml0
  have hown : s.vm.findClass "com/example/okno/okno/AdmissionLog" = some m.cls := findClass_of_methodNamed Bd.named
  have hnm := (name_of_methodNamed Bd.named Bd.method).1
  have X0 : Stand p l e ({ frames := 0, cells := 0, slots := 0, locals := 0 } : Room) s m #[(.ref a1), (.long q1), (.long q2)] below meth c s₁ [] 0 0 := Stand.of_body Bd
  have e0 : s₁.heap = h0 := by rw [← hh, Bd.state]; rfl
  have N0 := Fr.nil n0
  have KR : Keep h0 h0 [a1] := Keep.refl h0 _
  have pre0 : ∀ t, Steps p.tables e below (s₁.setTop (mkF m 0 #[.val (.ref a1), .val (.long q1), .second, .val (.long q2), .second] [])) t → Steps p.tables e below (s₁.setTop (entryFrame m #[(.ref a1), (.long q1), (.long q2)] 5)) t := fun t k => castTop (ef_rm12 m (a1) (q1) (q2)) k
  obtain ⟨T1, X1, e1, st1⟩ := getF X0 hx hZ hown (host := "") (Or.inl (kw45 hw)) Via.refl e0 P2 (g := (mkF m 2 #[.val (.ref a1), .val (.long q1), .second, .val (.long q2), .second] [(.ref a1), (.ref a1)])) rfl rfl (hb hby d12_2)
  obtain ⟨T2, h2, X2, e2, W2, st2⟩ := putF X1 hx hZ hown (host := "") (Or.inl (kw45 hw)) Via.refl e1 P2 P0 (Or.inl (kw46 hw)) (kw3 hw) (ty := .long) (by decide) rfl rfl (g := (mkF m 7 #[.val (.ref a1), .val (.long q1), .second, .val (.long q2), .second] [(.long (tt + q2)), (.ref a1)])) rfl rfl (hb hby d12_7)
  have Z2 : n0 ≤ h2.size := Nat.le_trans Z0 (Keep.of_wr W2).1
  have K2 : Keep h0 h2 [a1] := KR.wr W2 (Or.inl (List.mem_of_getElem? (i := 0) rfl))
  have N2 := Fr.snoc X2 N0 P1
  have Fw2 : Fld Z h2 a1 "com/example/okno/okno/AdmissionLog" "total" "J" (.long (tt + q2)) := P2.same W2
  have f3 : Fld Z h2 a1 "com/example/okno/okno/AdmissionLog" "newest" "J" (.long nw) := (P3.other W2 (Or.inr (slot_ne (Or.inl (kw18 hw)) (Or.inl (kw46 hw)) (by decide) (t := .long) (t' := .long) (by decide) (by decide))))
  obtain ⟨T4, X4, e4, st4⟩ := getF X2 hx hZ hown (host := "") (Or.inl (kw17 hw)) Via.refl e2 f3 (g := (mkF m 12 #[.val (.ref a1), .val (.long q1), .second, .val (.long q2), .second] [(.ref a1), (.long q1)])) rfl rfl (hb hby d12_12)
  have pre5 : ∀ t, Steps p.tables e below (T4.setTop (mkF m 16 #[.val (.ref a1), .val (.long q1), .second, .val (.long q2), .second] [(.int (lcmpW q1 nw))])) t → Steps p.tables e below (s₁.setTop (entryFrame m #[(.ref a1), (.long q1), (.long q2)] 5)) t := fun t k => pre0 t (by
    show Steps p.tables e below (s₁.setTop (mkF m 0 #[.val (.ref a1), .val (.long q1), .second, .val (.long q2), .second] [])) _
    refine XS.aloadN X0.here hx rfl (hb hby d12_0) rfl rfl ?_
    show Steps p.tables e below (s₁.setTop (mkF m 1 #[.val (.ref a1), .val (.long q1), .second, .val (.long q2), .second] [(.ref a1)])) _
    refine XS.dup X0.here hx rfl (hb hby d12_1) rfl rfl ?_
    show Steps p.tables e below (s₁.setTop (mkF m 2 #[.val (.ref a1), .val (.long q1), .second, .val (.long q2), .second] [(.ref a1), (.ref a1)])) _
    refine st1 _ ?_
    show Steps p.tables e below (T1.setTop (mkF m 5 #[.val (.ref a1), .val (.long q1), .second, .val (.long q2), .second] [(.long tt), (.ref a1)])) _
    refine XS.lloadN X1.here hx rfl (hb hby d12_5) rfl ?_
    show Steps p.tables e below (T1.setTop (mkF m 6 #[.val (.ref a1), .val (.long q1), .second, .val (.long q2), .second] [(.long q2), (.long tt), (.ref a1)])) _
    refine XS.ladd X1.here hx rfl (hb hby d12_6) rfl ?_
    show Steps p.tables e below (T1.setTop (mkF m 7 #[.val (.ref a1), .val (.long q1), .second, .val (.long q2), .second] [(.long (tt + q2)), (.ref a1)])) _
    refine st2 _ ?_
    show Steps p.tables e below (T2.setTop (mkF m 10 #[.val (.ref a1), .val (.long q1), .second, .val (.long q2), .second] [])) _
    refine XS.lloadN X2.here hx rfl (hb hby d12_10) rfl ?_
    show Steps p.tables e below (T2.setTop (mkF m 11 #[.val (.ref a1), .val (.long q1), .second, .val (.long q2), .second] [(.long q1)])) _
    refine XS.aloadN X2.here hx rfl (hb hby d12_11) rfl rfl ?_
    show Steps p.tables e below (T2.setTop (mkF m 12 #[.val (.ref a1), .val (.long q1), .second, .val (.long q2), .second] [(.ref a1), (.long q1)])) _
    refine st4 _ ?_
    show Steps p.tables e below (T4.setTop (mkF m 15 #[.val (.ref a1), .val (.long q1), .second, .val (.long q2), .second] [(.long nw), (.long q1)])) _
    refine XS.lcmp X4.here hx rfl (hb hby d12_15) rfl ?_
    show Steps p.tables e below (T4.setTop (mkF m 16 #[.val (.ref a1), .val (.long q1), .second, .val (.long q2), .second] [(.int (lcmpW q1 nw))])) _
    exact k)
  by_cases hc6 : nw < q1
  · skip
    have f7 : Exa Z h2 a1 "com/example/okno/okno/AdmissionLog" := (P0.wr W2)
    obtain ⟨T8, h8, X8, e8, W8, st8⟩ := putF X4 hx hZ hown (host := "") (Or.inl (kw17 hw)) Via.refl e4 f3 f7 (Or.inl (kw18 hw)) (kw3 hw) (ty := .long) (by decide) rfl rfl (g := (mkF m 21 #[.val (.ref a1), .val (.long q1), .second, .val (.long q2), .second] [(.long q1), (.ref a1)])) rfl rfl (hb hby d12_21)
    have Z8 : n0 ≤ h8.size := Nat.le_trans Z2 (Keep.of_wr W8).1
    have K8 : Keep h0 h8 [a1] := K2.wr W8 (Or.inl (List.mem_of_getElem? (i := 0) rfl))
    have N8 := Fr.snoc X8 N2 P1
    have Fw8 : Fld Z h8 a1 "com/example/okno/okno/AdmissionLog" "newest" "J" (.long q1) := f3.same W8
    have f9 : Fld Z h8 a1 "com/example/okno/okno/AdmissionLog" "total" "J" (.long (tt + q2)) := (Fw2.other W8 (Or.inr (slot_ne (Or.inl (kw46 hw)) (Or.inl (kw18 hw)) (by decide) (t := .long) (t' := .long) (by decide) (by decide))))
    have f10 : Fld Z h8 a1 "com/example/okno/okno/AdmissionLog" "newestSubWindowEnd" "J" (.long ne) := ((P4.other W2 (Or.inr (slot_ne (Or.inl (kw67 hw)) (Or.inl (kw46 hw)) (by decide) (t := .long) (t' := .long) (by decide) (by decide)))).other W8 (Or.inr (slot_ne (Or.inl (kw67 hw)) (Or.inl (kw18 hw)) (by decide) (t := .long) (t' := .long) (by decide) (by decide))))
    obtain ⟨fs, hr, hrun, hended, hW, hsame⟩ := X8.leave (v := none) (fun _ => rfl)
    refine ⟨_, _, pre5 _ ?_, hrun, hended, _, _, rfl, ?_, ⟨_, rfl⟩, hW, hsame.mono (by decide) (by decide)⟩
    · skip
      refine XS.ifNo X4.here hx rfl (hb hby d12_16) rfl ((if0 _ _).trans (tlt ((lw_gt _ _).mpr hc6)).2.2.2) ?_
      show Steps p.tables e below (T4.setTop (mkF m 19 #[.val (.ref a1), .val (.long q1), .second, .val (.long q2), .second] [])) _
      refine XS.aloadN X4.here hx rfl (hb hby d12_19) rfl rfl ?_
      show Steps p.tables e below (T4.setTop (mkF m 20 #[.val (.ref a1), .val (.long q1), .second, .val (.long q2), .second] [(.ref a1)])) _
      refine XS.lloadN X4.here hx rfl (hb hby d12_20) rfl ?_
      show Steps p.tables e below (T4.setTop (mkF m 21 #[.val (.ref a1), .val (.long q1), .second, .val (.long q2), .second] [(.long q1), (.ref a1)])) _
      refine st8 _ ?_
      show Steps p.tables e below (T8.setTop (mkF m 24 #[.val (.ref a1), .val (.long q1), .second, .val (.long q2), .second] [])) _
      exact X8.returnOut hx Bd.returns (hb hby d12_24) hr
    · show Q_rm12 Z a1 q1 q2 tt nw ne h0 n0 _ T8.heap _
      rw [e8]
      exact ⟨rfl, N8, K8, f9, (by unfold own_mx; rw [if_pos hc6]; exact Fw8), f10⟩
  · skip
    have f12 : Fld Z h2 a1 "com/example/okno/okno/AdmissionLog" "newestSubWindowEnd" "J" (.long ne) := (P4.other W2 (Or.inr (slot_ne (Or.inl (kw67 hw)) (Or.inl (kw46 hw)) (by decide) (t := .long) (t' := .long) (by decide) (by decide))))
    obtain ⟨fs, hr, hrun, hended, hW, hsame⟩ := X4.leave (v := none) (fun _ => rfl)
    refine ⟨_, _, pre5 _ ?_, hrun, hended, _, _, rfl, ?_, ⟨_, rfl⟩, hW, hsame.mono (by decide) (by decide)⟩
    · skip
      refine XS.ifYes X4.here hx rfl (pc0 := 16) (pc' := 24) rfl (hb hby d12_16) rfl ((if0 _ _).trans (flt (fun q => hc6 ((lw_gt _ _).mp q))).2.2.2) (by decide) (by decide) ?_
      show Steps p.tables e below (T4.setTop (mkF m 24 #[.val (.ref a1), .val (.long q1), .second, .val (.long q2), .second] [])) _
      exact X4.returnOut hx Bd.returns (hb hby d12_24) hr
    · show Q_rm12 Z a1 q1 q2 tt nw ne h0 n0 _ T4.heap _
      rw [e4]
      exact ⟨rfl, N2, K2, Fw2, (by unfold own_mx; rw [if_neg hc6]; exact f3), f12⟩
theorem ef_rm0 (m : MethodId) (x0 : Int64) (x1 : Int64) (x2 : Int64) (x3 : Int64) (x4 : Int64) (x5 : Int32) : entryFrame m #[(.long x0), (.long x1), (.long x2), (.long x3), (.long x4), (.int x5)] maxLocals = mkF m 0 #[.val (.long x0), .second, .val (.long x1), .second, .val (.long x2), .second, .val (.long x3), .second, .val (.long x4), .second, .val (.int x5), .unset, .unset, .unset, .unset, .unset, .unset, .unset, .unset, .unset, .unset, .unset, .unset, .unset, .unset, .unset] [] := by first | (simp [entryFrame, mkF, argsToLocals, Value.category, maxLocals]; done) | rfl
def Q_rm0 (Z : State) (q1 : Int64) (q2 : Int64) (q3 : Int64) (q4 : Int64) (q5 : Int64) (p6 : Int32) (w_NO_ENTRIES : Addr) (kk : ClassId) (h0 : Heap) (n0 : Nat) (v : Option Value) (h : Heap) (L : List Loc) : Prop := v = some (.int (1 : Int32)) ∧ Fr n0 L ∧ Keep h0 h []
set_option maxRecDepth 65536 in
set_option maxHeartbeats 40000000 in
theorem rm0 (l : Launch) (Z : State) (a0 : Array Value) (hw : ∀ d ∈ tables_1, d.before a0 Z = true) (ws : List Jvm.Cond) (q1 : Int64) (q2 : Int64) (q3 : Int64) (q4 : Int64) (q5 : Int64) (p6 : Int32) (w_NO_ENTRIES : Addr) (kk : ClassId) (h0 : Heap) (n0 : Nat) (Z0 : n0 ≤ h0.size) (P0 : Old Z n0 h0) (P1 : Sta Z Z.heap "com/example/okno/okno/AdmissionLog" "NO_ENTRIES" "[J" (.ref w_NO_ENTRIES)) (P2 : Arv Z h0 w_NO_ENTRIES kk .long (0 : Int32) [] (.long (0 : Int64))) :
    MetFree l x (head1 (Jvm.Cond.code x code maxLocals ret :: ws) room_1) (fun a U => a = #[(.long q1), (.long q2), (.long q3), (.long q4), (.long q5), (.int p6)] ∧ Z.Warmed39 U.vm ∧ U.heap = h0) (fun _ _ _ _ _ => True) (fun _ U o U' => ∃ v L, o = .returned v ∧ Q_rm0 Z q1 q2 q3 q4 q5 p6 w_NO_ENTRIES kk h0 n0 v U'.heap L ∧ FrameEnd U o U' L room_1.cells room_1.slots) := by
  refine MetFree.of_bodySF (plainFor_of_name pn_2) hisR ?_
  intro p e s m args below meth c s₁ Bd hml0 hP hK
  obtain ⟨rfl, hZ, hh⟩ := hP
  have hx := Bd.exec
  have hby := Bd.bytes
  have hml : c.maxLocals = 26 := hml0
  have hown : s.vm.findClass "com/example/okno/okno/AdmissionLogAddToNewestPinLaw" = some m.cls := findClass_of_methodNamed Bd.named
  have hnm := (name_of_methodNamed Bd.named Bd.method).1
  have X0 : Stand p l e room_1 s m #[(.long q1), (.long q2), (.long q3), (.long q4), (.long q5), (.int p6)] below meth c s₁ [] 0 0 := Stand.of_body Bd
  have e0 : s₁.heap = h0 := by rw [← hh, Bd.state]; rfl
  have N0 := Fr.nil n0
  have KR : Keep h0 h0 [] := Keep.refl h0 _
  have pre0 : ∀ t, Steps p.tables e below (s₁.setTop (mkF m 0 #[.val (.long q1), .second, .val (.long q2), .second, .val (.long q3), .second, .val (.long q4), .second, .val (.long q5), .second, .val (.int p6), .unset, .unset, .unset, .unset, .unset, .unset, .unset, .unset, .unset, .unset, .unset, .unset, .unset, .unset, .unset] [])) t → Steps p.tables e below (s₁.setTop (entryFrame m #[(.long q1), (.long q2), (.long q3), (.long q4), (.long q5), (.int p6)] maxLocals)) t := fun t k => castTop (ef_rm0 m (q1) (q2) (q3) (q4) (q5) (p6)) k
  have pre1 : ∀ t, Steps p.tables e below (s₁.setTop (mkF m 11 #[.val (.long q1), .second, .val (.long q2), .second, .val (.long q3), .second, .val (.long q4), .second, .val (.long q5), .second, .val (.int p6), .val (.long (q1 &&& (9223372036854775807 : Int64))), .second, .unset, .unset, .unset, .unset, .unset, .unset, .unset, .unset, .unset, .unset, .unset, .unset, .unset] [(.int (lcmpW (q1 &&& (9223372036854775807 : Int64)) (0 : Int64)))])) t → Steps p.tables e below (s₁.setTop (entryFrame m #[(.long q1), (.long q2), (.long q3), (.long q4), (.long q5), (.int p6)] maxLocals)) t := fun t k => pre0 t (by
    show Steps p.tables e below (s₁.setTop (mkF m 0 #[.val (.long q1), .second, .val (.long q2), .second, .val (.long q3), .second, .val (.long q4), .second, .val (.long q5), .second, .val (.int p6), .unset, .unset, .unset, .unset, .unset, .unset, .unset, .unset, .unset, .unset, .unset, .unset, .unset, .unset, .unset] [])) _
    refine XS.lloadN X0.here hx rfl (hb hby at_0) rfl ?_
    show Steps p.tables e below (s₁.setTop (mkF m 1 #[.val (.long q1), .second, .val (.long q2), .second, .val (.long q3), .second, .val (.long q4), .second, .val (.long q5), .second, .val (.int p6), .unset, .unset, .unset, .unset, .unset, .unset, .unset, .unset, .unset, .unset, .unset, .unset, .unset, .unset, .unset] [(.long q1)])) _
    refine X0.ldc2Long hx hown (mvT hZ (kw0 hw)) (g := (mkF m 1 #[.val (.long q1), .second, .val (.long q2), .second, .val (.long q3), .second, .val (.long q4), .second, .val (.long q5), .second, .val (.int p6), .unset, .unset, .unset, .unset, .unset, .unset, .unset, .unset, .unset, .unset, .unset, .unset, .unset, .unset, .unset] [(.long q1)])) rfl (hb hby at_1) _ ?_
    show Steps p.tables e below (s₁.setTop (mkF m 4 #[.val (.long q1), .second, .val (.long q2), .second, .val (.long q3), .second, .val (.long q4), .second, .val (.long q5), .second, .val (.int p6), .unset, .unset, .unset, .unset, .unset, .unset, .unset, .unset, .unset, .unset, .unset, .unset, .unset, .unset, .unset] [(.long (9223372036854775807 : Int64)), (.long q1)])) _
    refine XS.land X0.here hx rfl (hb hby at_4) rfl ?_
    show Steps p.tables e below (s₁.setTop (mkF m 5 #[.val (.long q1), .second, .val (.long q2), .second, .val (.long q3), .second, .val (.long q4), .second, .val (.long q5), .second, .val (.int p6), .unset, .unset, .unset, .unset, .unset, .unset, .unset, .unset, .unset, .unset, .unset, .unset, .unset, .unset, .unset] [(.long (q1 &&& (9223372036854775807 : Int64)))])) _
    refine XS.lstore X0.here hx rfl (hb hby at_5) rfl (l' := #[.val (.long q1), .second, .val (.long q2), .second, .val (.long q3), .second, .val (.long q4), .second, .val (.long q5), .second, .val (.int p6), .val (.long (q1 &&& (9223372036854775807 : Int64))), .second, .unset, .unset, .unset, .unset, .unset, .unset, .unset, .unset, .unset, .unset, .unset, .unset, .unset]) rfl ?_
    show Steps p.tables e below (s₁.setTop (mkF m 7 #[.val (.long q1), .second, .val (.long q2), .second, .val (.long q3), .second, .val (.long q4), .second, .val (.long q5), .second, .val (.int p6), .val (.long (q1 &&& (9223372036854775807 : Int64))), .second, .unset, .unset, .unset, .unset, .unset, .unset, .unset, .unset, .unset, .unset, .unset, .unset, .unset] [])) _
    refine XS.lload X0.here hx rfl (hb hby at_7) rfl ?_
    show Steps p.tables e below (s₁.setTop (mkF m 9 #[.val (.long q1), .second, .val (.long q2), .second, .val (.long q3), .second, .val (.long q4), .second, .val (.long q5), .second, .val (.int p6), .val (.long (q1 &&& (9223372036854775807 : Int64))), .second, .unset, .unset, .unset, .unset, .unset, .unset, .unset, .unset, .unset, .unset, .unset, .unset, .unset] [(.long (q1 &&& (9223372036854775807 : Int64)))])) _
    refine XS.lconst X0.here hx rfl (hb hby at_9) ?_
    show Steps p.tables e below (s₁.setTop (mkF m 10 #[.val (.long q1), .second, .val (.long q2), .second, .val (.long q3), .second, .val (.long q4), .second, .val (.long q5), .second, .val (.int p6), .val (.long (q1 &&& (9223372036854775807 : Int64))), .second, .unset, .unset, .unset, .unset, .unset, .unset, .unset, .unset, .unset, .unset, .unset, .unset, .unset] [(.long (0 : Int64)), (.long (q1 &&& (9223372036854775807 : Int64)))])) _
    refine XS.lcmp X0.here hx rfl (hb hby at_10) rfl ?_
    show Steps p.tables e below (s₁.setTop (mkF m 11 #[.val (.long q1), .second, .val (.long q2), .second, .val (.long q3), .second, .val (.long q4), .second, .val (.long q5), .second, .val (.int p6), .val (.long (q1 &&& (9223372036854775807 : Int64))), .second, .unset, .unset, .unset, .unset, .unset, .unset, .unset, .unset, .unset, .unset, .unset, .unset, .unset] [(.int (lcmpW (q1 &&& (9223372036854775807 : Int64)) (0 : Int64)))])) _
    exact k)
  have pre3 : ∀ t, Steps p.tables e below (s₁.setTop (mkF m 17 #[.val (.long q1), .second, .val (.long q2), .second, .val (.long q3), .second, .val (.long q4), .second, .val (.long q5), .second, .val (.int p6), .val (.long (if (q1 &&& (9223372036854775807 : Int64)) = (0 : Int64) then (1 : Int64) else (q1 &&& (9223372036854775807 : Int64)))), .second, .unset, .unset, .unset, .unset, .unset, .unset, .unset, .unset, .unset, .unset, .unset, .unset, .unset] [])) t → Steps p.tables e below (s₁.setTop (entryFrame m #[(.long q1), (.long q2), (.long q3), (.long q4), (.long q5), (.int p6)] maxLocals)) t := fun t k => pre1 t (by
    by_cases hc2 : (q1 &&& (9223372036854775807 : Int64)) = (0 : Int64)
    · skip
      refine XS.ifNo X0.here hx rfl (hb hby at_11) rfl ((if0 _ _).trans (teq ((lw_eq _ _).mpr hc2)).2) ?_
      show Steps p.tables e below (s₁.setTop (mkF m 14 #[.val (.long q1), .second, .val (.long q2), .second, .val (.long q3), .second, .val (.long q4), .second, .val (.long q5), .second, .val (.int p6), .val (.long (q1 &&& (9223372036854775807 : Int64))), .second, .unset, .unset, .unset, .unset, .unset, .unset, .unset, .unset, .unset, .unset, .unset, .unset, .unset] [])) _
      refine XS.lconst X0.here hx rfl (hb hby at_14) ?_
      show Steps p.tables e below (s₁.setTop (mkF m 15 #[.val (.long q1), .second, .val (.long q2), .second, .val (.long q3), .second, .val (.long q4), .second, .val (.long q5), .second, .val (.int p6), .val (.long (q1 &&& (9223372036854775807 : Int64))), .second, .unset, .unset, .unset, .unset, .unset, .unset, .unset, .unset, .unset, .unset, .unset, .unset, .unset] [(.long (1 : Int64))])) _
      refine XS.lstore X0.here hx rfl (hb hby at_15) rfl (l' := #[.val (.long q1), .second, .val (.long q2), .second, .val (.long q3), .second, .val (.long q4), .second, .val (.long q5), .second, .val (.int p6), .val (.long (1 : Int64)), .second, .unset, .unset, .unset, .unset, .unset, .unset, .unset, .unset, .unset, .unset, .unset, .unset, .unset]) rfl ?_
      show Steps p.tables e below (s₁.setTop (mkF m 17 #[.val (.long q1), .second, .val (.long q2), .second, .val (.long q3), .second, .val (.long q4), .second, .val (.long q5), .second, .val (.int p6), .val (.long (1 : Int64)), .second, .unset, .unset, .unset, .unset, .unset, .unset, .unset, .unset, .unset, .unset, .unset, .unset, .unset] [])) _
      simp only [if_pos hc2] at k; exact k
    · skip
      refine XS.ifYes X0.here hx rfl (pc0 := 11) (pc' := 17) rfl (hb hby at_11) rfl ((if0 _ _).trans (feq (fun q => hc2 ((lw_eq _ _).mp q))).2) (by decide) (by decide) ?_
      show Steps p.tables e below (s₁.setTop (mkF m 17 #[.val (.long q1), .second, .val (.long q2), .second, .val (.long q3), .second, .val (.long q4), .second, .val (.long q5), .second, .val (.int p6), .val (.long (q1 &&& (9223372036854775807 : Int64))), .second, .unset, .unset, .unset, .unset, .unset, .unset, .unset, .unset, .unset, .unset, .unset, .unset, .unset] [])) _
      simp only [if_neg hc2] at k; exact k)
  obtain ⟨g, h_g⟩ : ∃ z : Int64, z = (if (q1 &&& (9223372036854775807 : Int64)) = (0 : Int64) then (1 : Int64) else (q1 &&& (9223372036854775807 : Int64))) := ⟨_, rfl⟩
  rw [← h_g] at pre3
  have hg : g ≠ (0 : Int64) := by rw [h_g]; exact own_gne _
  have pre4 : ∀ t, Steps p.tables e below (s₁.setTop (mkF m 27 #[.val (.long q1), .second, .val (.long q2), .second, .val (.long q3), .second, .val (.long q4), .second, .val (.long q5), .second, .val (.int p6), .val (.long g), .second, .val (.long ((q4 &&& (4611686018427387903 : Int64)) + (1 : Int64))), .second, .unset, .unset, .unset, .unset, .unset, .unset, .unset, .unset, .unset, .unset, .unset] [])) t → Steps p.tables e below (s₁.setTop (entryFrame m #[(.long q1), (.long q2), (.long q3), (.long q4), (.long q5), (.int p6)] maxLocals)) t := fun t k => pre3 t (by
    show Steps p.tables e below (s₁.setTop (mkF m 17 #[.val (.long q1), .second, .val (.long q2), .second, .val (.long q3), .second, .val (.long q4), .second, .val (.long q5), .second, .val (.int p6), .val (.long g), .second, .unset, .unset, .unset, .unset, .unset, .unset, .unset, .unset, .unset, .unset, .unset, .unset, .unset] [])) _
    refine XS.lload X0.here hx rfl (hb hby at_17) rfl ?_
    show Steps p.tables e below (s₁.setTop (mkF m 19 #[.val (.long q1), .second, .val (.long q2), .second, .val (.long q3), .second, .val (.long q4), .second, .val (.long q5), .second, .val (.int p6), .val (.long g), .second, .unset, .unset, .unset, .unset, .unset, .unset, .unset, .unset, .unset, .unset, .unset, .unset, .unset] [(.long q4)])) _
    refine X0.ldc2Long hx hown (mvT hZ (kw1 hw)) (g := (mkF m 19 #[.val (.long q1), .second, .val (.long q2), .second, .val (.long q3), .second, .val (.long q4), .second, .val (.long q5), .second, .val (.int p6), .val (.long g), .second, .unset, .unset, .unset, .unset, .unset, .unset, .unset, .unset, .unset, .unset, .unset, .unset, .unset] [(.long q4)])) rfl (hb hby at_19) _ ?_
    show Steps p.tables e below (s₁.setTop (mkF m 22 #[.val (.long q1), .second, .val (.long q2), .second, .val (.long q3), .second, .val (.long q4), .second, .val (.long q5), .second, .val (.int p6), .val (.long g), .second, .unset, .unset, .unset, .unset, .unset, .unset, .unset, .unset, .unset, .unset, .unset, .unset, .unset] [(.long (4611686018427387903 : Int64)), (.long q4)])) _
    refine XS.land X0.here hx rfl (hb hby at_22) rfl ?_
    show Steps p.tables e below (s₁.setTop (mkF m 23 #[.val (.long q1), .second, .val (.long q2), .second, .val (.long q3), .second, .val (.long q4), .second, .val (.long q5), .second, .val (.int p6), .val (.long g), .second, .unset, .unset, .unset, .unset, .unset, .unset, .unset, .unset, .unset, .unset, .unset, .unset, .unset] [(.long (q4 &&& (4611686018427387903 : Int64)))])) _
    refine XS.lconst X0.here hx rfl (hb hby at_23) ?_
    show Steps p.tables e below (s₁.setTop (mkF m 24 #[.val (.long q1), .second, .val (.long q2), .second, .val (.long q3), .second, .val (.long q4), .second, .val (.long q5), .second, .val (.int p6), .val (.long g), .second, .unset, .unset, .unset, .unset, .unset, .unset, .unset, .unset, .unset, .unset, .unset, .unset, .unset] [(.long (1 : Int64)), (.long (q4 &&& (4611686018427387903 : Int64)))])) _
    refine XS.ladd X0.here hx rfl (hb hby at_24) rfl ?_
    show Steps p.tables e below (s₁.setTop (mkF m 25 #[.val (.long q1), .second, .val (.long q2), .second, .val (.long q3), .second, .val (.long q4), .second, .val (.long q5), .second, .val (.int p6), .val (.long g), .second, .unset, .unset, .unset, .unset, .unset, .unset, .unset, .unset, .unset, .unset, .unset, .unset, .unset] [(.long ((q4 &&& (4611686018427387903 : Int64)) + (1 : Int64)))])) _
    refine XS.lstore X0.here hx rfl (hb hby at_25) rfl (l' := #[.val (.long q1), .second, .val (.long q2), .second, .val (.long q3), .second, .val (.long q4), .second, .val (.long q5), .second, .val (.int p6), .val (.long g), .second, .val (.long ((q4 &&& (4611686018427387903 : Int64)) + (1 : Int64))), .second, .unset, .unset, .unset, .unset, .unset, .unset, .unset, .unset, .unset, .unset, .unset]) rfl ?_
    exact k)
  obtain ⟨az, h_az⟩ : ∃ z : Int64, z = ((q4 &&& (4611686018427387903 : Int64)) + (1 : Int64)) := ⟨_, rfl⟩
  rw [← h_az] at pre4
  have ha0 : 1 ≤ az.toInt ∧ az.toInt ≤ 4611686018427387904 := by rw [h_az]; exact own_a0 _
  have pre5 : ∀ t, Steps p.tables e below (s₁.setTop (mkF m 35 #[.val (.long q1), .second, .val (.long q2), .second, .val (.long q3), .second, .val (.long q4), .second, .val (.long q5), .second, .val (.int p6), .val (.long g), .second, .val (.long az), .second, .val (.long ((9223372036854775807 : Int64) - az)), .second, .unset, .unset, .unset, .unset, .unset, .unset, .unset, .unset, .unset] [])) t → Steps p.tables e below (s₁.setTop (entryFrame m #[(.long q1), (.long q2), (.long q3), (.long q4), (.long q5), (.int p6)] maxLocals)) t := fun t k => pre4 t (by
    show Steps p.tables e below (s₁.setTop (mkF m 27 #[.val (.long q1), .second, .val (.long q2), .second, .val (.long q3), .second, .val (.long q4), .second, .val (.long q5), .second, .val (.int p6), .val (.long g), .second, .val (.long az), .second, .unset, .unset, .unset, .unset, .unset, .unset, .unset, .unset, .unset, .unset, .unset] [])) _
    refine X0.ldc2Long hx hown (mvT hZ (kw0 hw)) (g := (mkF m 27 #[.val (.long q1), .second, .val (.long q2), .second, .val (.long q3), .second, .val (.long q4), .second, .val (.long q5), .second, .val (.int p6), .val (.long g), .second, .val (.long az), .second, .unset, .unset, .unset, .unset, .unset, .unset, .unset, .unset, .unset, .unset, .unset] [])) rfl (hb hby at_27) _ ?_
    show Steps p.tables e below (s₁.setTop (mkF m 30 #[.val (.long q1), .second, .val (.long q2), .second, .val (.long q3), .second, .val (.long q4), .second, .val (.long q5), .second, .val (.int p6), .val (.long g), .second, .val (.long az), .second, .unset, .unset, .unset, .unset, .unset, .unset, .unset, .unset, .unset, .unset, .unset] [(.long (9223372036854775807 : Int64))])) _
    refine XS.lload X0.here hx rfl (hb hby at_30) rfl ?_
    show Steps p.tables e below (s₁.setTop (mkF m 32 #[.val (.long q1), .second, .val (.long q2), .second, .val (.long q3), .second, .val (.long q4), .second, .val (.long q5), .second, .val (.int p6), .val (.long g), .second, .val (.long az), .second, .unset, .unset, .unset, .unset, .unset, .unset, .unset, .unset, .unset, .unset, .unset] [(.long az), (.long (9223372036854775807 : Int64))])) _
    refine XS.lsub X0.here hx rfl (hb hby at_32) rfl ?_
    show Steps p.tables e below (s₁.setTop (mkF m 33 #[.val (.long q1), .second, .val (.long q2), .second, .val (.long q3), .second, .val (.long q4), .second, .val (.long q5), .second, .val (.int p6), .val (.long g), .second, .val (.long az), .second, .unset, .unset, .unset, .unset, .unset, .unset, .unset, .unset, .unset, .unset, .unset] [(.long ((9223372036854775807 : Int64) - az))])) _
    refine XS.lstore X0.here hx rfl (hb hby at_33) rfl (l' := #[.val (.long q1), .second, .val (.long q2), .second, .val (.long q3), .second, .val (.long q4), .second, .val (.long q5), .second, .val (.int p6), .val (.long g), .second, .val (.long az), .second, .val (.long ((9223372036854775807 : Int64) - az)), .second, .unset, .unset, .unset, .unset, .unset, .unset, .unset, .unset, .unset]) rfl ?_
    exact k)
  obtain ⟨rm, h_rm⟩ : ∃ z : Int64, z = ((9223372036854775807 : Int64) - az) := ⟨_, rfl⟩
  rw [← h_rm] at pre5
  have pre6 : ∀ t, Steps p.tables e below (s₁.setTop (mkF m 48 #[.val (.long q1), .second, .val (.long q2), .second, .val (.long q3), .second, .val (.long q4), .second, .val (.long q5), .second, .val (.int p6), .val (.long g), .second, .val (.long az), .second, .val (.long rm), .second, .val (.long (((q5 &&& (9223372036854775807 : Int64)) % rm) + (1 : Int64))), .second, .unset, .unset, .unset, .unset, .unset, .unset, .unset] [])) t → Steps p.tables e below (s₁.setTop (entryFrame m #[(.long q1), (.long q2), (.long q3), (.long q4), (.long q5), (.int p6)] maxLocals)) t := fun t k => pre5 t (by
    show Steps p.tables e below (s₁.setTop (mkF m 35 #[.val (.long q1), .second, .val (.long q2), .second, .val (.long q3), .second, .val (.long q4), .second, .val (.long q5), .second, .val (.int p6), .val (.long g), .second, .val (.long az), .second, .val (.long rm), .second, .unset, .unset, .unset, .unset, .unset, .unset, .unset, .unset, .unset] [])) _
    refine XS.lload X0.here hx rfl (hb hby at_35) rfl ?_
    show Steps p.tables e below (s₁.setTop (mkF m 37 #[.val (.long q1), .second, .val (.long q2), .second, .val (.long q3), .second, .val (.long q4), .second, .val (.long q5), .second, .val (.int p6), .val (.long g), .second, .val (.long az), .second, .val (.long rm), .second, .unset, .unset, .unset, .unset, .unset, .unset, .unset, .unset, .unset] [(.long q5)])) _
    refine X0.ldc2Long hx hown (mvT hZ (kw0 hw)) (g := (mkF m 37 #[.val (.long q1), .second, .val (.long q2), .second, .val (.long q3), .second, .val (.long q4), .second, .val (.long q5), .second, .val (.int p6), .val (.long g), .second, .val (.long az), .second, .val (.long rm), .second, .unset, .unset, .unset, .unset, .unset, .unset, .unset, .unset, .unset] [(.long q5)])) rfl (hb hby at_37) _ ?_
    show Steps p.tables e below (s₁.setTop (mkF m 40 #[.val (.long q1), .second, .val (.long q2), .second, .val (.long q3), .second, .val (.long q4), .second, .val (.long q5), .second, .val (.int p6), .val (.long g), .second, .val (.long az), .second, .val (.long rm), .second, .unset, .unset, .unset, .unset, .unset, .unset, .unset, .unset, .unset] [(.long (9223372036854775807 : Int64)), (.long q5)])) _
    refine XS.land X0.here hx rfl (hb hby at_40) rfl ?_
    show Steps p.tables e below (s₁.setTop (mkF m 41 #[.val (.long q1), .second, .val (.long q2), .second, .val (.long q3), .second, .val (.long q4), .second, .val (.long q5), .second, .val (.int p6), .val (.long g), .second, .val (.long az), .second, .val (.long rm), .second, .unset, .unset, .unset, .unset, .unset, .unset, .unset, .unset, .unset] [(.long (q5 &&& (9223372036854775807 : Int64)))])) _
    refine XS.lload X0.here hx rfl (hb hby at_41) rfl ?_
    show Steps p.tables e below (s₁.setTop (mkF m 43 #[.val (.long q1), .second, .val (.long q2), .second, .val (.long q3), .second, .val (.long q4), .second, .val (.long q5), .second, .val (.int p6), .val (.long g), .second, .val (.long az), .second, .val (.long rm), .second, .unset, .unset, .unset, .unset, .unset, .unset, .unset, .unset, .unset] [(.long rm), (.long (q5 &&& (9223372036854775807 : Int64)))])) _
    refine own_lremM X0 hx rfl (hb hby at_43) rfl (by rw [h_rm]; exact own_roomnz ha0) ?_
    show Steps p.tables e below (s₁.setTop (mkF m 44 #[.val (.long q1), .second, .val (.long q2), .second, .val (.long q3), .second, .val (.long q4), .second, .val (.long q5), .second, .val (.int p6), .val (.long g), .second, .val (.long az), .second, .val (.long rm), .second, .unset, .unset, .unset, .unset, .unset, .unset, .unset, .unset, .unset] [(.long ((q5 &&& (9223372036854775807 : Int64)) % rm))])) _
    refine XS.lconst X0.here hx rfl (hb hby at_44) ?_
    show Steps p.tables e below (s₁.setTop (mkF m 45 #[.val (.long q1), .second, .val (.long q2), .second, .val (.long q3), .second, .val (.long q4), .second, .val (.long q5), .second, .val (.int p6), .val (.long g), .second, .val (.long az), .second, .val (.long rm), .second, .unset, .unset, .unset, .unset, .unset, .unset, .unset, .unset, .unset] [(.long (1 : Int64)), (.long ((q5 &&& (9223372036854775807 : Int64)) % rm))])) _
    refine XS.ladd X0.here hx rfl (hb hby at_45) rfl ?_
    show Steps p.tables e below (s₁.setTop (mkF m 46 #[.val (.long q1), .second, .val (.long q2), .second, .val (.long q3), .second, .val (.long q4), .second, .val (.long q5), .second, .val (.int p6), .val (.long g), .second, .val (.long az), .second, .val (.long rm), .second, .unset, .unset, .unset, .unset, .unset, .unset, .unset, .unset, .unset] [(.long (((q5 &&& (9223372036854775807 : Int64)) % rm) + (1 : Int64)))])) _
    refine XS.lstore X0.here hx rfl (hb hby at_46) rfl (l' := #[.val (.long q1), .second, .val (.long q2), .second, .val (.long q3), .second, .val (.long q4), .second, .val (.long q5), .second, .val (.int p6), .val (.long g), .second, .val (.long az), .second, .val (.long rm), .second, .val (.long (((q5 &&& (9223372036854775807 : Int64)) % rm) + (1 : Int64))), .second, .unset, .unset, .unset, .unset, .unset, .unset, .unset]) rfl ?_
    exact k)
  obtain ⟨am, h_am⟩ : ∃ z : Int64, z = (((q5 &&& (9223372036854775807 : Int64)) % rm) + (1 : Int64)) := ⟨_, rfl⟩
  rw [← h_am] at pre6
  obtain ⟨T7, h7, X7, e7, E7, A7, D7, -, st7⟩ := newO X0 hx hZ hown (kw2 hw) (kw3 hw) (kw4 hw) e0 (g := (mkF m 48 #[.val (.long q1), .second, .val (.long q2), .second, .val (.long q3), .second, .val (.long q4), .second, .val (.long q5), .second, .val (.int p6), .val (.long g), .second, .val (.long az), .second, .val (.long rm), .second, .val (.long am), .second, .unset, .unset, .unset, .unset, .unset, .unset, .unset] [])) rfl (hb hby at_48) (by decide) (by decide)
  obtain ⟨b7, g7⟩ : ∃ z, z = h0.size := ⟨_, rfl⟩
  rw [← g7] at A7 D7 st7
  have ne7_w_NO_ENTRIES : w_NO_ENTRIES ≠ b7 := Nat.ne_of_lt (Nat.lt_of_lt_of_le P2.lt (Nat.le_of_eq g7.symm))
  have g_b7 : n0 ≤ b7 := Nat.le_trans Z0 (Nat.le_of_eq g7.symm)
  have sz_b7 : h0.size ≤ b7 := Nat.le_trans KR.1 (Nat.le_of_eq g7.symm)
  have Z7 : n0 ≤ h7.size := Nat.le_trans Z0 E7.1
  have K7 : Keep h0 h7 [] := KR.ext E7
  have F7_newest : Fld Z h7 b7 "com/example/okno/okno/AdmissionLog" "newest" "J" (.long (0 : Int64)) := D7 (Or.inl (kw18 hw)) (ty := .long) (by decide)
  have F7_subWindows : Fld Z h7 b7 "com/example/okno/okno/AdmissionLog" "subWindows" "[J" .null := D7 (Or.inl (kw22 hw)) (ty := (.array .long)) (by decide)
  have F7_amounts : Fld Z h7 b7 "com/example/okno/okno/AdmissionLog" "amounts" "[J" .null := D7 (Or.inl (kw24 hw)) (ty := (.array .long)) (by decide)
  have F7_oldestSubWindow : Fld Z h7 b7 "com/example/okno/okno/AdmissionLog" "oldestSubWindow" "J" (.long (0 : Int64)) := D7 (Or.inl (kw27 hw)) (ty := .long) (by decide)
  have F7_lastTime : Fld Z h7 b7 "com/example/okno/okno/AdmissionLog" "lastTime" "J" (.long (0 : Int64)) := D7 (Or.inl (kw29 hw)) (ty := .long) (by decide)
  have F7_subWindowMillis : Fld Z h7 b7 "com/example/okno/okno/AdmissionLog" "subWindowMillis" "J" (.long (0 : Int64)) := D7 (Or.inr (kw31 hw)) (ty := .long) (by decide)
  have F7_lastSubWindow : Fld Z h7 b7 "com/example/okno/okno/AdmissionLog" "lastSubWindow" "J" (.long (0 : Int64)) := D7 (Or.inl (kw37 hw)) (ty := .long) (by decide)
  have F7_shorterWindows : Fld Z h7 b7 "com/example/okno/okno/AdmissionLog" "shorterWindows" "[J" .null := D7 (Or.inr (kw39 hw)) (ty := (.array .long)) (by decide)
  have F7_total : Fld Z h7 b7 "com/example/okno/okno/AdmissionLog" "total" "J" (.long (0 : Int64)) := D7 (Or.inl (kw46 hw)) (ty := .long) (by decide)
  have F7_newestSubWindow : Fld Z h7 b7 "com/example/okno/okno/AdmissionLog" "newestSubWindow" "J" (.long (0 : Int64)) := D7 (Or.inl (kw65 hw)) (ty := .long) (by decide)
  have F7_newestSubWindowEnd : Fld Z h7 b7 "com/example/okno/okno/AdmissionLog" "newestSubWindowEnd" "J" (.long (0 : Int64)) := D7 (Or.inl (kw67 hw)) (ty := .long) (by decide)
  have F7_olderTotal : Fld Z h7 b7 "com/example/okno/okno/AdmissionLog" "olderTotal" "J" (.long (0 : Int64)) := D7 (Or.inl (kw95 hw)) (ty := .long) (by decide)
  have f9 : Old Z n0 h7 := (P0.ext E7)
  obtain ⟨_, _, ⟨T8, L8, k8, n8⟩, -, X8, ⟨Lc8, hQ8, l8, y8, z8⟩, st8⟩ := X7.specialBack hx (y := (⟨"com/example/okno/okno/AdmissionLog", "<init>", "(JI)V"⟩ : MethodName)) rfl hown (mvT hZ (kw5 hw)) (mvT hZ (kw6 hw)) (mvT hZ (kw7 hw)) (by decide) (backOf (W := 1) (rm1 l Z a0 hw [] b7 g w_NO_ENTRIES h7 n0 Z7 A7 g_b7 f9 P1 hg F7_newest F7_subWindows F7_amounts F7_oldestSubWindow F7_lastTime F7_subWindowMillis F7_lastSubWindow F7_shorterWindows F7_total F7_newestSubWindow F7_newestSubWindowEnd F7_olderTotal) hZ (kw7 hw) (kw4 hw) (by decide) (by decide)) (g := (mkF m 55 #[.val (.long q1), .second, .val (.long q2), .second, .val (.long q3), .second, .val (.long q4), .second, .val (.long q5), .second, .val (.int p6), .val (.long g), .second, .val (.long az), .second, .val (.long rm), .second, .val (.long am), .second, .unset, .unset, .unset, .unset, .unset, .unset, .unset] [(.int (0 : Int32)), (.long g), (.ref b7), (.ref b7)])) rfl (by rw [hml]; rfl) (Steps.refl _) (a := b7) (argsL := [(.long g), (.int (0 : Int32))]) (rest := [(.ref b7)]) (lenOf pd_6 rfl) rfl (by show 2 * 0 + _ ≤ _; exact Nat.le_of_eq rfl) (hb hby at_55) (fun _ _ => ⟨rfl, e7, (by decide : 1 + 0 ≤ _), (by decide : 18 + 0 ≤ _)⟩)
  dsimp only [Pt.U, Pt.locs, Pt.cells, Pt.slots] at X8 l8 y8 z8 st8 hQ8
  subst l8 y8 z8
  obtain ⟨rfl, N8q, Kq8, p8_0, p8_1, p8_2, p8_3, p8_4, p8_5, p8_6, p8_7, p8_8, p8_9, p8_10, p8_11⟩ := hQ8
  have N8 := Fr.app N0 N8q
  have Z8 : n0 ≤ T8.heap.size := Nat.le_trans Z7 Kq8.1
  have K8 : Keep h0 T8.heap [] := K7.trans Kq8 (allS (Or.inr sz_b7) all0)
  have f11 : Exa Z T8.heap b7 "com/example/okno/okno/AdmissionLog" := (A7.keep Kq8)
  have f12 : Arv Z T8.heap w_NO_ENTRIES kk .long (0 : Int32) [] (.long (0 : Int64)) := ((P2.ext E7).keep Kq8 (ninS ne7_w_NO_ENTRIES nin0))
  obtain ⟨cq10, kq10, q10a, q10b, q10c⟩ := isOf hZ rfl f11
  obtain ⟨_, _, ⟨T10, L10, k10, n10⟩, -, X10, ⟨Lc10, hQ10, l10, y10, z10⟩, st10⟩ := X8.virtualBack hx (y := (⟨"com/example/okno/okno/AdmissionLog", "append", "(JJ)V"⟩ : MethodName)) (z := (⟨"com/example/okno/okno/AdmissionLog", "append", "(JJ)V"⟩ : MethodName)) hown (mvT hZ (kw40 hw)) (mvT hZ (kw41 hw)) (notFace_of_selects (args := #[]) (mvT hZ (kw43 hw))) (mvT hZ (kw43 hw)) (mvT hZ (kw42 hw)) (by decide) (backOf (W := 0) (rm5 l Z a0 hw [] b7 q2 az g (-9223372036854775808 : Int64) (0 : Int64) (0 : Int64) (-9223372036854775808 : Int64) (9223372036854775807 : Int64) w_NO_ENTRIES kk w_NO_ENTRIES w_NO_ENTRIES (0 : Int64) T8.heap n0 Z8 f11 g_b7 ne7_w_NO_ENTRIES f12 hg p8_4 p8_6 p8_5 p8_9 p8_10 p8_8 p8_0 p8_3 p8_7 p8_1 p8_2 p8_11) hZ (kw44 hw) (kw4 hw) (by decide) (by decide)) q10a q10c (g := (mkF m 65 #[.val (.long q1), .second, .val (.long q2), .second, .val (.long q3), .second, .val (.long q4), .second, .val (.long q5), .second, .val (.int p6), .val (.long g), .second, .val (.long az), .second, .val (.long rm), .second, .val (.long am), .second, .val (.ref b7), .unset, .unset, .unset, .unset, .unset, .unset] [(.long az), (.long q2), (.ref b7)])) rfl (by rw [hml]; rfl) (Steps.refl _) (argsL := [(.long q2), (.long az)]) (rest := []) (lenOf pd_4 rfl) rfl (by show 2 * 0 + _ ≤ _; exact Nat.le_of_eq rfl) (hb hby at_65) (fun _ _ => ⟨rfl, rfl, (by decide : 1 + 0 ≤ _), (by decide : 18 + 0 ≤ _)⟩)
  dsimp only [Pt.U, Pt.locs, Pt.cells, Pt.slots] at X10 l10 y10 z10 st10 hQ10
  subst l10 y10 z10
  obtain ⟨rfl, N10q, Kq10, p10_0, p10_1, p10_2, p10_3⟩ := hQ10
  have N10 := Fr.app N8 N10q
  have Z10 : n0 ≤ T10.heap.size := Nat.le_trans Z8 Kq10.1
  have K10 : Keep h0 T10.heap [] := K8.trans Kq10 (allS (Or.inr sz_b7) all0)
  have f14 : Exa Z T10.heap b7 "com/example/okno/okno/AdmissionLog" := (f11.keep Kq10)
  obtain ⟨cq13, kq13, q13a, q13b, q13c⟩ := isOf hZ rfl f14
  obtain ⟨_, _, ⟨T13, L13, k13, n13⟩, -, X13, ⟨Lc13, hQ13, l13, y13, z13⟩, st13⟩ := X10.virtualBack hx (y := (⟨"com/example/okno/okno/AdmissionLog", "newestSubWindowEnd", "()J"⟩ : MethodName)) (z := (⟨"com/example/okno/okno/AdmissionLog", "newestSubWindowEnd", "()J"⟩ : MethodName)) hown (mvT hZ (kw72 hw)) (mvT hZ (kw73 hw)) (notFace_of_selects (args := #[]) (mvT hZ (kw75 hw))) (mvT hZ (kw75 hw)) (mvT hZ (kw74 hw)) (by decide) (backOf (W := 0) (rm11 l Z a0 hw [] b7 (own_end (own_fd q2 g) q2 g) T10.heap n0 Z10 p10_2) hZ (kw76 hw) (kw4 hw) (by decide) (by decide)) q13a q13c (g := (mkF m 70 #[.val (.long q1), .second, .val (.long q2), .second, .val (.long q3), .second, .val (.long q4), .second, .val (.long q5), .second, .val (.int p6), .val (.long g), .second, .val (.long az), .second, .val (.long rm), .second, .val (.long am), .second, .val (.ref b7), .unset, .unset, .unset, .unset, .unset, .unset] [(.ref b7)])) rfl (by rw [hml]; rfl) (Steps.refl _) (argsL := []) (rest := []) (lenOf pd_7 rfl) rfl (by show 2 * 0 + _ ≤ _; exact Nat.le_of_eq rfl) (hb hby at_70) (fun _ _ => ⟨rfl, rfl, (by decide : 1 + 0 ≤ _), (by decide : 18 + 0 ≤ _)⟩)
  dsimp only [Pt.U, Pt.locs, Pt.cells, Pt.slots] at X13 l13 y13 z13 st13 hQ13
  subst l13 y13 z13
  obtain ⟨rfl, N13q, e13⟩ := hQ13
  have N13 := Fr.app N10 N13q
  have pre15 : ∀ t, Steps p.tables e below (T13.setTop (mkF m 83 #[.val (.long q1), .second, .val (.long q2), .second, .val (.long q3), .second, .val (.long q4), .second, .val (.long q5), .second, .val (.int p6), .val (.long g), .second, .val (.long az), .second, .val (.long rm), .second, .val (.long am), .second, .val (.ref b7), .val (.long (own_end (own_fd q2 g) q2 g)), .second, .val (.long q3), .second, .unset, .unset] [(.int (p6 &&& (1 : Int32)))])) t → Steps p.tables e below (s₁.setTop (entryFrame m #[(.long q1), (.long q2), (.long q3), (.long q4), (.long q5), (.int p6)] maxLocals)) t := fun t k => pre6 t (by
    show Steps p.tables e below (s₁.setTop (mkF m 48 #[.val (.long q1), .second, .val (.long q2), .second, .val (.long q3), .second, .val (.long q4), .second, .val (.long q5), .second, .val (.int p6), .val (.long g), .second, .val (.long az), .second, .val (.long rm), .second, .val (.long am), .second, .unset, .unset, .unset, .unset, .unset, .unset, .unset] [])) _
    refine st7 _ ?_
    show Steps p.tables e below (T7.setTop (mkF m 51 #[.val (.long q1), .second, .val (.long q2), .second, .val (.long q3), .second, .val (.long q4), .second, .val (.long q5), .second, .val (.int p6), .val (.long g), .second, .val (.long az), .second, .val (.long rm), .second, .val (.long am), .second, .unset, .unset, .unset, .unset, .unset, .unset, .unset] [(.ref b7)])) _
    refine XS.dup X7.here hx rfl (hb hby at_51) rfl rfl ?_
    show Steps p.tables e below (T7.setTop (mkF m 52 #[.val (.long q1), .second, .val (.long q2), .second, .val (.long q3), .second, .val (.long q4), .second, .val (.long q5), .second, .val (.int p6), .val (.long g), .second, .val (.long az), .second, .val (.long rm), .second, .val (.long am), .second, .unset, .unset, .unset, .unset, .unset, .unset, .unset] [(.ref b7), (.ref b7)])) _
    refine XS.lload X7.here hx rfl (hb hby at_52) rfl ?_
    show Steps p.tables e below (T7.setTop (mkF m 54 #[.val (.long q1), .second, .val (.long q2), .second, .val (.long q3), .second, .val (.long q4), .second, .val (.long q5), .second, .val (.int p6), .val (.long g), .second, .val (.long az), .second, .val (.long rm), .second, .val (.long am), .second, .unset, .unset, .unset, .unset, .unset, .unset, .unset] [(.long g), (.ref b7), (.ref b7)])) _
    refine XS.iconst X7.here hx rfl (hb hby at_54) ?_
    show Steps p.tables e below (T7.setTop (mkF m 55 #[.val (.long q1), .second, .val (.long q2), .second, .val (.long q3), .second, .val (.long q4), .second, .val (.long q5), .second, .val (.int p6), .val (.long g), .second, .val (.long az), .second, .val (.long rm), .second, .val (.long am), .second, .unset, .unset, .unset, .unset, .unset, .unset, .unset] [(.int (0 : Int32)), (.long g), (.ref b7), (.ref b7)])) _
    refine st8.trans ?_
    show Steps p.tables e below (T8.setTop (mkF m 58 #[.val (.long q1), .second, .val (.long q2), .second, .val (.long q3), .second, .val (.long q4), .second, .val (.long q5), .second, .val (.int p6), .val (.long g), .second, .val (.long az), .second, .val (.long rm), .second, .val (.long am), .second, .unset, .unset, .unset, .unset, .unset, .unset, .unset] [(.ref b7)])) _
    refine XS.astore X8.here hx rfl (hb hby at_58) rfl rfl (l' := #[.val (.long q1), .second, .val (.long q2), .second, .val (.long q3), .second, .val (.long q4), .second, .val (.long q5), .second, .val (.int p6), .val (.long g), .second, .val (.long az), .second, .val (.long rm), .second, .val (.long am), .second, .val (.ref b7), .unset, .unset, .unset, .unset, .unset, .unset]) rfl ?_
    show Steps p.tables e below (T8.setTop (mkF m 60 #[.val (.long q1), .second, .val (.long q2), .second, .val (.long q3), .second, .val (.long q4), .second, .val (.long q5), .second, .val (.int p6), .val (.long g), .second, .val (.long az), .second, .val (.long rm), .second, .val (.long am), .second, .val (.ref b7), .unset, .unset, .unset, .unset, .unset, .unset] [])) _
    refine XS.aload X8.here hx rfl (hb hby at_60) rfl rfl ?_
    show Steps p.tables e below (T8.setTop (mkF m 62 #[.val (.long q1), .second, .val (.long q2), .second, .val (.long q3), .second, .val (.long q4), .second, .val (.long q5), .second, .val (.int p6), .val (.long g), .second, .val (.long az), .second, .val (.long rm), .second, .val (.long am), .second, .val (.ref b7), .unset, .unset, .unset, .unset, .unset, .unset] [(.ref b7)])) _
    refine XS.lloadN X8.here hx rfl (hb hby at_62) rfl ?_
    show Steps p.tables e below (T8.setTop (mkF m 63 #[.val (.long q1), .second, .val (.long q2), .second, .val (.long q3), .second, .val (.long q4), .second, .val (.long q5), .second, .val (.int p6), .val (.long g), .second, .val (.long az), .second, .val (.long rm), .second, .val (.long am), .second, .val (.ref b7), .unset, .unset, .unset, .unset, .unset, .unset] [(.long q2), (.ref b7)])) _
    refine XS.lload X8.here hx rfl (hb hby at_63) rfl ?_
    show Steps p.tables e below (T8.setTop (mkF m 65 #[.val (.long q1), .second, .val (.long q2), .second, .val (.long q3), .second, .val (.long q4), .second, .val (.long q5), .second, .val (.int p6), .val (.long g), .second, .val (.long az), .second, .val (.long rm), .second, .val (.long am), .second, .val (.ref b7), .unset, .unset, .unset, .unset, .unset, .unset] [(.long az), (.long q2), (.ref b7)])) _
    refine st10.trans ?_
    show Steps p.tables e below (T10.setTop (mkF m 68 #[.val (.long q1), .second, .val (.long q2), .second, .val (.long q3), .second, .val (.long q4), .second, .val (.long q5), .second, .val (.int p6), .val (.long g), .second, .val (.long az), .second, .val (.long rm), .second, .val (.long am), .second, .val (.ref b7), .unset, .unset, .unset, .unset, .unset, .unset] [])) _
    refine XS.aload X10.here hx rfl (hb hby at_68) rfl rfl ?_
    show Steps p.tables e below (T10.setTop (mkF m 70 #[.val (.long q1), .second, .val (.long q2), .second, .val (.long q3), .second, .val (.long q4), .second, .val (.long q5), .second, .val (.int p6), .val (.long g), .second, .val (.long az), .second, .val (.long rm), .second, .val (.long am), .second, .val (.ref b7), .unset, .unset, .unset, .unset, .unset, .unset] [(.ref b7)])) _
    refine st13.trans ?_
    show Steps p.tables e below (T13.setTop (mkF m 73 #[.val (.long q1), .second, .val (.long q2), .second, .val (.long q3), .second, .val (.long q4), .second, .val (.long q5), .second, .val (.int p6), .val (.long g), .second, .val (.long az), .second, .val (.long rm), .second, .val (.long am), .second, .val (.ref b7), .unset, .unset, .unset, .unset, .unset, .unset] [(.long (own_end (own_fd q2 g) q2 g))])) _
    refine XS.lstore X13.here hx rfl (hb hby at_73) rfl (l' := #[.val (.long q1), .second, .val (.long q2), .second, .val (.long q3), .second, .val (.long q4), .second, .val (.long q5), .second, .val (.int p6), .val (.long g), .second, .val (.long az), .second, .val (.long rm), .second, .val (.long am), .second, .val (.ref b7), .val (.long (own_end (own_fd q2 g) q2 g)), .second, .unset, .unset, .unset, .unset]) rfl ?_
    show Steps p.tables e below (T13.setTop (mkF m 75 #[.val (.long q1), .second, .val (.long q2), .second, .val (.long q3), .second, .val (.long q4), .second, .val (.long q5), .second, .val (.int p6), .val (.long g), .second, .val (.long az), .second, .val (.long rm), .second, .val (.long am), .second, .val (.ref b7), .val (.long (own_end (own_fd q2 g) q2 g)), .second, .unset, .unset, .unset, .unset] [])) _
    refine XS.lload X13.here hx rfl (hb hby at_75) rfl ?_
    show Steps p.tables e below (T13.setTop (mkF m 77 #[.val (.long q1), .second, .val (.long q2), .second, .val (.long q3), .second, .val (.long q4), .second, .val (.long q5), .second, .val (.int p6), .val (.long g), .second, .val (.long az), .second, .val (.long rm), .second, .val (.long am), .second, .val (.ref b7), .val (.long (own_end (own_fd q2 g) q2 g)), .second, .unset, .unset, .unset, .unset] [(.long q3)])) _
    refine XS.lstore X13.here hx rfl (hb hby at_77) rfl (l' := #[.val (.long q1), .second, .val (.long q2), .second, .val (.long q3), .second, .val (.long q4), .second, .val (.long q5), .second, .val (.int p6), .val (.long g), .second, .val (.long az), .second, .val (.long rm), .second, .val (.long am), .second, .val (.ref b7), .val (.long (own_end (own_fd q2 g) q2 g)), .second, .val (.long q3), .second, .unset, .unset]) rfl ?_
    show Steps p.tables e below (T13.setTop (mkF m 79 #[.val (.long q1), .second, .val (.long q2), .second, .val (.long q3), .second, .val (.long q4), .second, .val (.long q5), .second, .val (.int p6), .val (.long g), .second, .val (.long az), .second, .val (.long rm), .second, .val (.long am), .second, .val (.ref b7), .val (.long (own_end (own_fd q2 g) q2 g)), .second, .val (.long q3), .second, .unset, .unset] [])) _
    refine XS.iload X13.here hx rfl (hb hby at_79) rfl ?_
    show Steps p.tables e below (T13.setTop (mkF m 81 #[.val (.long q1), .second, .val (.long q2), .second, .val (.long q3), .second, .val (.long q4), .second, .val (.long q5), .second, .val (.int p6), .val (.long g), .second, .val (.long az), .second, .val (.long rm), .second, .val (.long am), .second, .val (.ref b7), .val (.long (own_end (own_fd q2 g) q2 g)), .second, .val (.long q3), .second, .unset, .unset] [(.int p6)])) _
    refine XS.iconst X13.here hx rfl (hb hby at_81) ?_
    show Steps p.tables e below (T13.setTop (mkF m 82 #[.val (.long q1), .second, .val (.long q2), .second, .val (.long q3), .second, .val (.long q4), .second, .val (.long q5), .second, .val (.int p6), .val (.long g), .second, .val (.long az), .second, .val (.long rm), .second, .val (.long am), .second, .val (.ref b7), .val (.long (own_end (own_fd q2 g) q2 g)), .second, .val (.long q3), .second, .unset, .unset] [(.int (1 : Int32)), (.int p6)])) _
    refine XS.iand X13.here hx rfl (hb hby at_82) rfl ?_
    show Steps p.tables e below (T13.setTop (mkF m 83 #[.val (.long q1), .second, .val (.long q2), .second, .val (.long q3), .second, .val (.long q4), .second, .val (.long q5), .second, .val (.int p6), .val (.long g), .second, .val (.long az), .second, .val (.long rm), .second, .val (.long am), .second, .val (.ref b7), .val (.long (own_end (own_fd q2 g) q2 g)), .second, .val (.long q3), .second, .unset, .unset] [(.int (p6 &&& (1 : Int32)))])) _
    exact k)
  have pre17 : ∀ t, Steps p.tables e below (T13.setTop (mkF m 89 #[.val (.long q1), .second, .val (.long q2), .second, .val (.long q3), .second, .val (.long q4), .second, .val (.long q5), .second, .val (.int p6), .val (.long g), .second, .val (.long az), .second, .val (.long rm), .second, .val (.long am), .second, .val (.ref b7), .val (.long (own_end (own_fd q2 g) q2 g)), .second, .val (.long (if (p6 &&& (1 : Int32)) = (0 : Int32) then q3 else q2)), .second, .unset, .unset] [])) t → Steps p.tables e below (s₁.setTop (entryFrame m #[(.long q1), (.long q2), (.long q3), (.long q4), (.long q5), (.int p6)] maxLocals)) t := fun t k => pre15 t (by
    by_cases hc16 : (p6 &&& (1 : Int32)) = (0 : Int32)
    · skip
      refine XS.ifYes X13.here hx rfl (pc0 := 83) (pc' := 89) rfl (hb hby at_83) rfl ((if0 _ _).trans (teq hc16).1) (by decide) (by decide) ?_
      show Steps p.tables e below (T13.setTop (mkF m 89 #[.val (.long q1), .second, .val (.long q2), .second, .val (.long q3), .second, .val (.long q4), .second, .val (.long q5), .second, .val (.int p6), .val (.long g), .second, .val (.long az), .second, .val (.long rm), .second, .val (.long am), .second, .val (.ref b7), .val (.long (own_end (own_fd q2 g) q2 g)), .second, .val (.long q3), .second, .unset, .unset] [])) _
      simp only [if_pos hc16] at k; exact k
    · skip
      refine XS.ifNo X13.here hx rfl (hb hby at_83) rfl ((if0 _ _).trans (feq hc16).1) ?_
      show Steps p.tables e below (T13.setTop (mkF m 86 #[.val (.long q1), .second, .val (.long q2), .second, .val (.long q3), .second, .val (.long q4), .second, .val (.long q5), .second, .val (.int p6), .val (.long g), .second, .val (.long az), .second, .val (.long rm), .second, .val (.long am), .second, .val (.ref b7), .val (.long (own_end (own_fd q2 g) q2 g)), .second, .val (.long q3), .second, .unset, .unset] [])) _
      refine XS.lloadN X13.here hx rfl (hb hby at_86) rfl ?_
      show Steps p.tables e below (T13.setTop (mkF m 87 #[.val (.long q1), .second, .val (.long q2), .second, .val (.long q3), .second, .val (.long q4), .second, .val (.long q5), .second, .val (.int p6), .val (.long g), .second, .val (.long az), .second, .val (.long rm), .second, .val (.long am), .second, .val (.ref b7), .val (.long (own_end (own_fd q2 g) q2 g)), .second, .val (.long q3), .second, .unset, .unset] [(.long q2)])) _
      refine XS.lstore X13.here hx rfl (hb hby at_87) rfl (l' := #[.val (.long q1), .second, .val (.long q2), .second, .val (.long q3), .second, .val (.long q4), .second, .val (.long q5), .second, .val (.int p6), .val (.long g), .second, .val (.long az), .second, .val (.long rm), .second, .val (.long am), .second, .val (.ref b7), .val (.long (own_end (own_fd q2 g) q2 g)), .second, .val (.long q2), .second, .unset, .unset]) rfl ?_
      show Steps p.tables e below (T13.setTop (mkF m 89 #[.val (.long q1), .second, .val (.long q2), .second, .val (.long q3), .second, .val (.long q4), .second, .val (.long q5), .second, .val (.int p6), .val (.long g), .second, .val (.long az), .second, .val (.long rm), .second, .val (.long am), .second, .val (.ref b7), .val (.long (own_end (own_fd q2 g) q2 g)), .second, .val (.long q2), .second, .unset, .unset] [])) _
      simp only [if_neg hc16] at k; exact k)
  obtain ⟨ta, h_ta⟩ : ∃ z : Int64, z = (if (p6 &&& (1 : Int32)) = (0 : Int32) then q3 else q2) := ⟨_, rfl⟩
  rw [← h_ta] at pre17
  have pre18 : ∀ t, Steps p.tables e below (T13.setTop (mkF m 94 #[.val (.long q1), .second, .val (.long q2), .second, .val (.long q3), .second, .val (.long q4), .second, .val (.long q5), .second, .val (.int p6), .val (.long g), .second, .val (.long az), .second, .val (.long rm), .second, .val (.long am), .second, .val (.ref b7), .val (.long (own_end (own_fd q2 g) q2 g)), .second, .val (.long ta), .second, .unset, .unset] [(.int (lcmpW ta (own_end (own_fd q2 g) q2 g)))])) t → Steps p.tables e below (s₁.setTop (entryFrame m #[(.long q1), (.long q2), (.long q3), (.long q4), (.long q5), (.int p6)] maxLocals)) t := fun t k => pre17 t (by
    show Steps p.tables e below (T13.setTop (mkF m 89 #[.val (.long q1), .second, .val (.long q2), .second, .val (.long q3), .second, .val (.long q4), .second, .val (.long q5), .second, .val (.int p6), .val (.long g), .second, .val (.long az), .second, .val (.long rm), .second, .val (.long am), .second, .val (.ref b7), .val (.long (own_end (own_fd q2 g) q2 g)), .second, .val (.long ta), .second, .unset, .unset] [])) _
    refine XS.lload X13.here hx rfl (hb hby at_89) rfl ?_
    show Steps p.tables e below (T13.setTop (mkF m 91 #[.val (.long q1), .second, .val (.long q2), .second, .val (.long q3), .second, .val (.long q4), .second, .val (.long q5), .second, .val (.int p6), .val (.long g), .second, .val (.long az), .second, .val (.long rm), .second, .val (.long am), .second, .val (.ref b7), .val (.long (own_end (own_fd q2 g) q2 g)), .second, .val (.long ta), .second, .unset, .unset] [(.long ta)])) _
    refine XS.lload X13.here hx rfl (hb hby at_91) rfl ?_
    show Steps p.tables e below (T13.setTop (mkF m 93 #[.val (.long q1), .second, .val (.long q2), .second, .val (.long q3), .second, .val (.long q4), .second, .val (.long q5), .second, .val (.int p6), .val (.long g), .second, .val (.long az), .second, .val (.long rm), .second, .val (.long am), .second, .val (.ref b7), .val (.long (own_end (own_fd q2 g) q2 g)), .second, .val (.long ta), .second, .unset, .unset] [(.long (own_end (own_fd q2 g) q2 g)), (.long ta)])) _
    refine XS.lcmp X13.here hx rfl (hb hby at_93) rfl ?_
    show Steps p.tables e below (T13.setTop (mkF m 94 #[.val (.long q1), .second, .val (.long q2), .second, .val (.long q3), .second, .val (.long q4), .second, .val (.long q5), .second, .val (.int p6), .val (.long g), .second, .val (.long az), .second, .val (.long rm), .second, .val (.long am), .second, .val (.ref b7), .val (.long (own_end (own_fd q2 g) q2 g)), .second, .val (.long ta), .second, .unset, .unset] [(.int (lcmpW ta (own_end (own_fd q2 g) q2 g)))])) _
    exact k)
  have pre20 : ∀ t, Steps p.tables e below (T13.setTop (mkF m 103 #[.val (.long q1), .second, .val (.long q2), .second, .val (.long q3), .second, .val (.long q4), .second, .val (.long q5), .second, .val (.int p6), .val (.long g), .second, .val (.long az), .second, .val (.long rm), .second, .val (.long am), .second, .val (.ref b7), .val (.long (own_end (own_fd q2 g) q2 g)), .second, .val (.long (if ta < (own_end (own_fd q2 g) q2 g) then ta else ((own_end (own_fd q2 g) q2 g) - (1 : Int64)))), .second, .unset, .unset] [])) t → Steps p.tables e below (s₁.setTop (entryFrame m #[(.long q1), (.long q2), (.long q3), (.long q4), (.long q5), (.int p6)] maxLocals)) t := fun t k => pre18 t (by
    by_cases hc19 : ta < (own_end (own_fd q2 g) q2 g)
    · skip
      refine XS.ifYes X13.here hx rfl (pc0 := 94) (pc' := 103) rfl (hb hby at_94) rfl ((if0 _ _).trans (tlt ((lw_lt _ _).mpr hc19)).1) (by decide) (by decide) ?_
      show Steps p.tables e below (T13.setTop (mkF m 103 #[.val (.long q1), .second, .val (.long q2), .second, .val (.long q3), .second, .val (.long q4), .second, .val (.long q5), .second, .val (.int p6), .val (.long g), .second, .val (.long az), .second, .val (.long rm), .second, .val (.long am), .second, .val (.ref b7), .val (.long (own_end (own_fd q2 g) q2 g)), .second, .val (.long ta), .second, .unset, .unset] [])) _
      simp only [if_pos hc19] at k; exact k
    · skip
      refine XS.ifNo X13.here hx rfl (hb hby at_94) rfl ((if0 _ _).trans (flt (fun q => hc19 ((lw_lt _ _).mp q))).1) ?_
      show Steps p.tables e below (T13.setTop (mkF m 97 #[.val (.long q1), .second, .val (.long q2), .second, .val (.long q3), .second, .val (.long q4), .second, .val (.long q5), .second, .val (.int p6), .val (.long g), .second, .val (.long az), .second, .val (.long rm), .second, .val (.long am), .second, .val (.ref b7), .val (.long (own_end (own_fd q2 g) q2 g)), .second, .val (.long ta), .second, .unset, .unset] [])) _
      refine XS.lload X13.here hx rfl (hb hby at_97) rfl ?_
      show Steps p.tables e below (T13.setTop (mkF m 99 #[.val (.long q1), .second, .val (.long q2), .second, .val (.long q3), .second, .val (.long q4), .second, .val (.long q5), .second, .val (.int p6), .val (.long g), .second, .val (.long az), .second, .val (.long rm), .second, .val (.long am), .second, .val (.ref b7), .val (.long (own_end (own_fd q2 g) q2 g)), .second, .val (.long ta), .second, .unset, .unset] [(.long (own_end (own_fd q2 g) q2 g))])) _
      refine XS.lconst X13.here hx rfl (hb hby at_99) ?_
      show Steps p.tables e below (T13.setTop (mkF m 100 #[.val (.long q1), .second, .val (.long q2), .second, .val (.long q3), .second, .val (.long q4), .second, .val (.long q5), .second, .val (.int p6), .val (.long g), .second, .val (.long az), .second, .val (.long rm), .second, .val (.long am), .second, .val (.ref b7), .val (.long (own_end (own_fd q2 g) q2 g)), .second, .val (.long ta), .second, .unset, .unset] [(.long (1 : Int64)), (.long (own_end (own_fd q2 g) q2 g))])) _
      refine XS.lsub X13.here hx rfl (hb hby at_100) rfl ?_
      show Steps p.tables e below (T13.setTop (mkF m 101 #[.val (.long q1), .second, .val (.long q2), .second, .val (.long q3), .second, .val (.long q4), .second, .val (.long q5), .second, .val (.int p6), .val (.long g), .second, .val (.long az), .second, .val (.long rm), .second, .val (.long am), .second, .val (.ref b7), .val (.long (own_end (own_fd q2 g) q2 g)), .second, .val (.long ta), .second, .unset, .unset] [(.long ((own_end (own_fd q2 g) q2 g) - (1 : Int64)))])) _
      refine XS.lstore X13.here hx rfl (hb hby at_101) rfl (l' := #[.val (.long q1), .second, .val (.long q2), .second, .val (.long q3), .second, .val (.long q4), .second, .val (.long q5), .second, .val (.int p6), .val (.long g), .second, .val (.long az), .second, .val (.long rm), .second, .val (.long am), .second, .val (.ref b7), .val (.long (own_end (own_fd q2 g) q2 g)), .second, .val (.long ((own_end (own_fd q2 g) q2 g) - (1 : Int64))), .second, .unset, .unset]) rfl ?_
      show Steps p.tables e below (T13.setTop (mkF m 103 #[.val (.long q1), .second, .val (.long q2), .second, .val (.long q3), .second, .val (.long q4), .second, .val (.long q5), .second, .val (.int p6), .val (.long g), .second, .val (.long az), .second, .val (.long rm), .second, .val (.long am), .second, .val (.ref b7), .val (.long (own_end (own_fd q2 g) q2 g)), .second, .val (.long ((own_end (own_fd q2 g) q2 g) - (1 : Int64))), .second, .unset, .unset] [])) _
      simp only [if_neg hc19] at k; exact k)
  obtain ⟨tb, h_tb⟩ : ∃ z : Int64, z = (if ta < (own_end (own_fd q2 g) q2 g) then ta else ((own_end (own_fd q2 g) q2 g) - (1 : Int64))) := ⟨_, rfl⟩
  rw [← h_tb] at pre20
  obtain ⟨cq21, kq21, q21a, q21b, q21c⟩ := isOf hZ e13 f14
  obtain ⟨_, _, ⟨T21, L21, k21, n21⟩, -, X21, ⟨Lc21, hQ21, l21, y21, z21⟩, st21⟩ := X13.virtualBack hx (y := (⟨"com/example/okno/okno/AdmissionLog", "addToNewest", "(JJ)V"⟩ : MethodName)) (z := (⟨"com/example/okno/okno/AdmissionLog", "addToNewest", "(JJ)V"⟩ : MethodName)) hown (mvT hZ (kw77 hw)) (mvT hZ (kw78 hw)) (notFace_of_selects (args := #[]) (mvT hZ (kw80 hw))) (mvT hZ (kw80 hw)) (mvT hZ (kw79 hw)) (by decide) (backOf (W := 0) (rm12 l Z a0 hw [] b7 tb am ((0 : Int64) + az) q2 (own_end (own_fd q2 g) q2 g) T10.heap n0 Z10 f14 g_b7 p10_0 p10_1 p10_2) hZ (kw81 hw) (kw4 hw) (by decide) (by decide)) q21a q21c (g := (mkF m 109 #[.val (.long q1), .second, .val (.long q2), .second, .val (.long q3), .second, .val (.long q4), .second, .val (.long q5), .second, .val (.int p6), .val (.long g), .second, .val (.long az), .second, .val (.long rm), .second, .val (.long am), .second, .val (.ref b7), .val (.long (own_end (own_fd q2 g) q2 g)), .second, .val (.long tb), .second, .unset, .unset] [(.long am), (.long tb), (.ref b7)])) rfl (by rw [hml]; rfl) (Steps.refl _) (argsL := [(.long tb), (.long am)]) (rest := []) (lenOf pd_4 rfl) rfl (by show 2 * 0 + _ ≤ _; exact Nat.le_of_eq rfl) (hb hby at_109) (fun _ _ => ⟨rfl, e13, (by decide : 1 + 0 ≤ _), (by decide : 18 + 0 ≤ _)⟩)
  dsimp only [Pt.U, Pt.locs, Pt.cells, Pt.slots] at X21 l21 y21 z21 st21 hQ21
  subst l21 y21 z21
  obtain ⟨rfl, N21q, Kq21, p21_0, p21_1, p21_2⟩ := hQ21
  have N21 := Fr.app N13 N21q
  have Z21 : n0 ≤ T21.heap.size := Nat.le_trans Z10 Kq21.1
  have K21 : Keep h0 T21.heap [] := K10.trans Kq21 (allS (Or.inr sz_b7) all0)
  have pre22 : ∀ t, Steps p.tables e below (T21.setTop (mkF m 116 #[.val (.long q1), .second, .val (.long q2), .second, .val (.long q3), .second, .val (.long q4), .second, .val (.long q5), .second, .val (.int p6), .val (.long g), .second, .val (.long az), .second, .val (.long rm), .second, .val (.long am), .second, .val (.ref b7), .val (.long (own_end (own_fd q2 g) q2 g)), .second, .val (.long tb), .second, .unset, .unset] [(.int (lcmpW tb q2))])) t → Steps p.tables e below (s₁.setTop (entryFrame m #[(.long q1), (.long q2), (.long q3), (.long q4), (.long q5), (.int p6)] maxLocals)) t := fun t k => pre20 t (by
    show Steps p.tables e below (T13.setTop (mkF m 103 #[.val (.long q1), .second, .val (.long q2), .second, .val (.long q3), .second, .val (.long q4), .second, .val (.long q5), .second, .val (.int p6), .val (.long g), .second, .val (.long az), .second, .val (.long rm), .second, .val (.long am), .second, .val (.ref b7), .val (.long (own_end (own_fd q2 g) q2 g)), .second, .val (.long tb), .second, .unset, .unset] [])) _
    refine XS.aload X13.here hx rfl (hb hby at_103) rfl rfl ?_
    show Steps p.tables e below (T13.setTop (mkF m 105 #[.val (.long q1), .second, .val (.long q2), .second, .val (.long q3), .second, .val (.long q4), .second, .val (.long q5), .second, .val (.int p6), .val (.long g), .second, .val (.long az), .second, .val (.long rm), .second, .val (.long am), .second, .val (.ref b7), .val (.long (own_end (own_fd q2 g) q2 g)), .second, .val (.long tb), .second, .unset, .unset] [(.ref b7)])) _
    refine XS.lload X13.here hx rfl (hb hby at_105) rfl ?_
    show Steps p.tables e below (T13.setTop (mkF m 107 #[.val (.long q1), .second, .val (.long q2), .second, .val (.long q3), .second, .val (.long q4), .second, .val (.long q5), .second, .val (.int p6), .val (.long g), .second, .val (.long az), .second, .val (.long rm), .second, .val (.long am), .second, .val (.ref b7), .val (.long (own_end (own_fd q2 g) q2 g)), .second, .val (.long tb), .second, .unset, .unset] [(.long tb), (.ref b7)])) _
    refine XS.lload X13.here hx rfl (hb hby at_107) rfl ?_
    show Steps p.tables e below (T13.setTop (mkF m 109 #[.val (.long q1), .second, .val (.long q2), .second, .val (.long q3), .second, .val (.long q4), .second, .val (.long q5), .second, .val (.int p6), .val (.long g), .second, .val (.long az), .second, .val (.long rm), .second, .val (.long am), .second, .val (.ref b7), .val (.long (own_end (own_fd q2 g) q2 g)), .second, .val (.long tb), .second, .unset, .unset] [(.long am), (.long tb), (.ref b7)])) _
    refine st21.trans ?_
    show Steps p.tables e below (T21.setTop (mkF m 112 #[.val (.long q1), .second, .val (.long q2), .second, .val (.long q3), .second, .val (.long q4), .second, .val (.long q5), .second, .val (.int p6), .val (.long g), .second, .val (.long az), .second, .val (.long rm), .second, .val (.long am), .second, .val (.ref b7), .val (.long (own_end (own_fd q2 g) q2 g)), .second, .val (.long tb), .second, .unset, .unset] [])) _
    refine XS.lload X21.here hx rfl (hb hby at_112) rfl ?_
    show Steps p.tables e below (T21.setTop (mkF m 114 #[.val (.long q1), .second, .val (.long q2), .second, .val (.long q3), .second, .val (.long q4), .second, .val (.long q5), .second, .val (.int p6), .val (.long g), .second, .val (.long az), .second, .val (.long rm), .second, .val (.long am), .second, .val (.ref b7), .val (.long (own_end (own_fd q2 g) q2 g)), .second, .val (.long tb), .second, .unset, .unset] [(.long tb)])) _
    refine XS.lloadN X21.here hx rfl (hb hby at_114) rfl ?_
    show Steps p.tables e below (T21.setTop (mkF m 115 #[.val (.long q1), .second, .val (.long q2), .second, .val (.long q3), .second, .val (.long q4), .second, .val (.long q5), .second, .val (.int p6), .val (.long g), .second, .val (.long az), .second, .val (.long rm), .second, .val (.long am), .second, .val (.ref b7), .val (.long (own_end (own_fd q2 g) q2 g)), .second, .val (.long tb), .second, .unset, .unset] [(.long q2), (.long tb)])) _
    refine XS.lcmp X21.here hx rfl (hb hby at_115) rfl ?_
    show Steps p.tables e below (T21.setTop (mkF m 116 #[.val (.long q1), .second, .val (.long q2), .second, .val (.long q3), .second, .val (.long q4), .second, .val (.long q5), .second, .val (.int p6), .val (.long g), .second, .val (.long az), .second, .val (.long rm), .second, .val (.long am), .second, .val (.ref b7), .val (.long (own_end (own_fd q2 g) q2 g)), .second, .val (.long tb), .second, .unset, .unset] [(.int (lcmpW tb q2))])) _
    exact k)
  have pre24 : ∀ t, Steps p.tables e below (T21.setTop (mkF m 125 #[.val (.long q1), .second, .val (.long q2), .second, .val (.long q3), .second, .val (.long q4), .second, .val (.long q5), .second, .val (.int p6), .val (.long g), .second, .val (.long az), .second, .val (.long rm), .second, .val (.long am), .second, .val (.ref b7), .val (.long (own_end (own_fd q2 g) q2 g)), .second, .val (.long tb), .second, .unset, .unset] [(.long (if q2 < tb then tb else q2))])) t → Steps p.tables e below (s₁.setTop (entryFrame m #[(.long q1), (.long q2), (.long q3), (.long q4), (.long q5), (.int p6)] maxLocals)) t := fun t k => pre22 t (by
    by_cases hc23 : q2 < tb
    · skip
      refine XS.ifNo X21.here hx rfl (hb hby at_116) rfl ((if0 _ _).trans (tlt ((lw_gt _ _).mpr hc23)).2.2.2) ?_
      show Steps p.tables e below (T21.setTop (mkF m 119 #[.val (.long q1), .second, .val (.long q2), .second, .val (.long q3), .second, .val (.long q4), .second, .val (.long q5), .second, .val (.int p6), .val (.long g), .second, .val (.long az), .second, .val (.long rm), .second, .val (.long am), .second, .val (.ref b7), .val (.long (own_end (own_fd q2 g) q2 g)), .second, .val (.long tb), .second, .unset, .unset] [])) _
      refine XS.lload X21.here hx rfl (hb hby at_119) rfl ?_
      show Steps p.tables e below (T21.setTop (mkF m 121 #[.val (.long q1), .second, .val (.long q2), .second, .val (.long q3), .second, .val (.long q4), .second, .val (.long q5), .second, .val (.int p6), .val (.long g), .second, .val (.long az), .second, .val (.long rm), .second, .val (.long am), .second, .val (.ref b7), .val (.long (own_end (own_fd q2 g) q2 g)), .second, .val (.long tb), .second, .unset, .unset] [(.long tb)])) _
      refine XS.goto X21.here hx rfl (pc0 := 121) (pc' := 125) rfl (hb hby at_121) (by decide) (by decide) ?_
      show Steps p.tables e below (T21.setTop (mkF m 125 #[.val (.long q1), .second, .val (.long q2), .second, .val (.long q3), .second, .val (.long q4), .second, .val (.long q5), .second, .val (.int p6), .val (.long g), .second, .val (.long az), .second, .val (.long rm), .second, .val (.long am), .second, .val (.ref b7), .val (.long (own_end (own_fd q2 g) q2 g)), .second, .val (.long tb), .second, .unset, .unset] [(.long tb)])) _
      simp only [if_pos hc23] at k; exact k
    · skip
      refine XS.ifYes X21.here hx rfl (pc0 := 116) (pc' := 124) rfl (hb hby at_116) rfl ((if0 _ _).trans (flt (fun q => hc23 ((lw_gt _ _).mp q))).2.2.2) (by decide) (by decide) ?_
      show Steps p.tables e below (T21.setTop (mkF m 124 #[.val (.long q1), .second, .val (.long q2), .second, .val (.long q3), .second, .val (.long q4), .second, .val (.long q5), .second, .val (.int p6), .val (.long g), .second, .val (.long az), .second, .val (.long rm), .second, .val (.long am), .second, .val (.ref b7), .val (.long (own_end (own_fd q2 g) q2 g)), .second, .val (.long tb), .second, .unset, .unset] [])) _
      refine XS.lloadN X21.here hx rfl (hb hby at_124) rfl ?_
      show Steps p.tables e below (T21.setTop (mkF m 125 #[.val (.long q1), .second, .val (.long q2), .second, .val (.long q3), .second, .val (.long q4), .second, .val (.long q5), .second, .val (.int p6), .val (.long g), .second, .val (.long az), .second, .val (.long rm), .second, .val (.long am), .second, .val (.ref b7), .val (.long (own_end (own_fd q2 g) q2 g)), .second, .val (.long tb), .second, .unset, .unset] [(.long q2)])) _
      simp only [if_neg hc23] at k; exact k)
  have f26 : Exa Z T21.heap b7 "com/example/okno/okno/AdmissionLog" := (f14.keep Kq21)
  obtain ⟨cq25, kq25, q25a, q25b, q25c⟩ := isOf hZ rfl f26
  obtain ⟨_, _, ⟨T25, L25, k25, n25⟩, -, X25, ⟨Lc25, hQ25, l25, y25, z25⟩, st25⟩ := X21.virtualBack hx (y := (⟨"com/example/okno/okno/AdmissionLog", "total", "()J"⟩ : MethodName)) (z := (⟨"com/example/okno/okno/AdmissionLog", "total", "()J"⟩ : MethodName)) hown (mvT hZ (kw82 hw)) (mvT hZ (kw83 hw)) (notFace_of_selects (args := #[]) (mvT hZ (kw85 hw))) (mvT hZ (kw85 hw)) (mvT hZ (kw84 hw)) (by decide) (backOf (W := 0) (rm13 l Z a0 hw [] b7 (((0 : Int64) + az) + am) T21.heap n0 Z21 p21_0) hZ (kw86 hw) (kw4 hw) (by decide) (by decide)) q25a q25c (g := (mkF m 129 #[.val (.long q1), .second, .val (.long q2), .second, .val (.long q3), .second, .val (.long q4), .second, .val (.long q5), .second, .val (.int p6), .val (.long g), .second, .val (.long az), .second, .val (.long rm), .second, .val (.long am), .second, .val (.ref b7), .val (.long (own_end (own_fd q2 g) q2 g)), .second, .val (.long tb), .second, .val (.long (if q2 < tb then tb else q2)), .second] [(.ref b7)])) rfl (by rw [hml]; rfl) (Steps.refl _) (argsL := []) (rest := []) (lenOf pd_7 rfl) rfl (by show 2 * 0 + _ ≤ _; exact Nat.le_of_eq rfl) (hb hby at_129) (fun _ _ => ⟨rfl, rfl, (by decide : 1 + 0 ≤ _), (by decide : 18 + 0 ≤ _)⟩)
  dsimp only [Pt.U, Pt.locs, Pt.cells, Pt.slots] at X25 l25 y25 z25 st25 hQ25
  subst l25 y25 z25
  obtain ⟨rfl, N25q, e25⟩ := hQ25
  have N25 := Fr.app N21 N25q
  obtain ⟨cq27, kq27, q27a, q27b, q27c⟩ := isOf hZ e25 f26
  obtain ⟨_, _, ⟨T27, L27, k27, n27⟩, -, X27, ⟨Lc27, hQ27, l27, y27, z27⟩, st27⟩ := X25.virtualBack hx (y := (⟨"com/example/okno/okno/AdmissionLog", "newest", "()J"⟩ : MethodName)) (z := (⟨"com/example/okno/okno/AdmissionLog", "newest", "()J"⟩ : MethodName)) hown (mvT hZ (kw87 hw)) (mvT hZ (kw88 hw)) (notFace_of_selects (args := #[]) (mvT hZ (kw90 hw))) (mvT hZ (kw90 hw)) (mvT hZ (kw89 hw)) (by decide) (backOf (W := 0) (rm14 l Z a0 hw [] b7 (own_mx q2 tb) T21.heap n0 Z21 p21_1) hZ (kw91 hw) (kw4 hw) (by decide) (by decide)) q27a q27c (g := (mkF m 143 #[.val (.long q1), .second, .val (.long q2), .second, .val (.long q3), .second, .val (.long q4), .second, .val (.long q5), .second, .val (.int p6), .val (.long g), .second, .val (.long az), .second, .val (.long rm), .second, .val (.long am), .second, .val (.ref b7), .val (.long (own_end (own_fd q2 g) q2 g)), .second, .val (.long tb), .second, .val (.long (if q2 < tb then tb else q2)), .second] [(.ref b7)])) rfl (by rw [hml]; rfl) (Steps.refl _) (argsL := []) (rest := []) (lenOf pd_7 rfl) rfl (by show 2 * 0 + _ ≤ _; exact Nat.le_of_eq rfl) (hb hby at_143) (fun _ _ => ⟨rfl, e25, (by decide : 1 + 0 ≤ _), (by decide : 18 + 0 ≤ _)⟩)
  dsimp only [Pt.U, Pt.locs, Pt.cells, Pt.slots] at X27 l27 y27 z27 st27 hQ27
  subst l27 y27 z27
  obtain ⟨rfl, N27q, e27⟩ := hQ27
  have N27 := Fr.app N25 N27q
  obtain ⟨cq28, kq28, q28a, q28b, q28c⟩ := isOf hZ e27 f26
  obtain ⟨_, _, ⟨T28, L28, k28, n28⟩, -, X28, ⟨Lc28, hQ28, l28, y28, z28⟩, st28⟩ := X27.virtualBack hx (y := (⟨"com/example/okno/okno/AdmissionLog", "newestSubWindowEnd", "()J"⟩ : MethodName)) (z := (⟨"com/example/okno/okno/AdmissionLog", "newestSubWindowEnd", "()J"⟩ : MethodName)) hown (mvT hZ (kw72 hw)) (mvT hZ (kw73 hw)) (notFace_of_selects (args := #[]) (mvT hZ (kw75 hw))) (mvT hZ (kw75 hw)) (mvT hZ (kw74 hw)) (by decide) (backOf (W := 0) (rm11 l Z a0 hw [] b7 (own_end (own_fd q2 g) q2 g) T21.heap n0 Z21 p21_2) hZ (kw76 hw) (kw4 hw) (by decide) (by decide)) q28a q28c (g := (mkF m 154 #[.val (.long q1), .second, .val (.long q2), .second, .val (.long q3), .second, .val (.long q4), .second, .val (.long q5), .second, .val (.int p6), .val (.long g), .second, .val (.long az), .second, .val (.long rm), .second, .val (.long am), .second, .val (.ref b7), .val (.long (own_end (own_fd q2 g) q2 g)), .second, .val (.long tb), .second, .val (.long (if q2 < tb then tb else q2)), .second] [(.ref b7)])) rfl (by rw [hml]; rfl) (Steps.refl _) (argsL := []) (rest := []) (lenOf pd_7 rfl) rfl (by show 2 * 0 + _ ≤ _; exact Nat.le_of_eq rfl) (hb hby at_154) (fun _ _ => ⟨rfl, e27, (by decide : 1 + 0 ≤ _), (by decide : 18 + 0 ≤ _)⟩)
  dsimp only [Pt.U, Pt.locs, Pt.cells, Pt.slots] at X28 l28 y28 z28 st28 hQ28
  subst l28 y28 z28
  obtain ⟨rfl, N28q, e28⟩ := hQ28
  have N28 := Fr.app N27 N28q
  obtain ⟨cq29, kq29, q29a, q29b, q29c⟩ := isOf hZ e28 f26
  obtain ⟨_, _, ⟨T29, L29, k29, n29⟩, -, X29, ⟨Lc29, hQ29, l29, y29, z29⟩, st29⟩ := X28.virtualBack hx (y := (⟨"com/example/okno/okno/AdmissionLog", "isEmpty", "()Z"⟩ : MethodName)) (z := (⟨"com/example/okno/okno/AdmissionLog", "isEmpty", "()Z"⟩ : MethodName)) hown (mvT hZ (kw92 hw)) (mvT hZ (kw56 hw)) (notFace_of_selects (args := #[]) (mvT hZ (kw58 hw))) (mvT hZ (kw58 hw)) (mvT hZ (kw57 hw)) (by decide) (backOf (W := 0) (rm8 l Z a0 hw [] b7 (((0 : Int64) + az) + am) T21.heap n0 Z21 p21_0) hZ (kw59 hw) (kw4 hw) (by decide) (by decide)) q29a q29c (g := (mkF m 165 #[.val (.long q1), .second, .val (.long q2), .second, .val (.long q3), .second, .val (.long q4), .second, .val (.long q5), .second, .val (.int p6), .val (.long g), .second, .val (.long az), .second, .val (.long rm), .second, .val (.long am), .second, .val (.ref b7), .val (.long (own_end (own_fd q2 g) q2 g)), .second, .val (.long tb), .second, .val (.long (if q2 < tb then tb else q2)), .second] [(.ref b7)])) rfl (by rw [hml]; rfl) (Steps.refl _) (argsL := []) (rest := []) (lenOf pd_3 rfl) rfl (by show 2 * 0 + _ ≤ _; exact Nat.le_of_eq rfl) (hb hby at_165) (fun _ _ => ⟨rfl, e28, (by decide : 1 + 0 ≤ _), (by decide : 18 + 0 ≤ _)⟩)
  dsimp only [Pt.U, Pt.locs, Pt.cells, Pt.slots] at X29 l29 y29 z29 st29 hQ29
  subst l29 y29 z29
  obtain ⟨rfl, N29q, e29⟩ := hQ29
  have N29 := Fr.app N28 N29q
  obtain ⟨fs, hr, hrun, hended, hW, hsame⟩ := X29.leave (v := some (.int (1 : Int32))) (fun h => by rw [Bd.returns] at h; cases h)
  refine ⟨_, _, pre24 _ ?_, hrun, hended, _, _, rfl, ?_, ⟨_, rfl⟩, hW, hsame.mono (by decide) (by decide)⟩
  · skip
    show Steps p.tables e below (T21.setTop (mkF m 125 #[.val (.long q1), .second, .val (.long q2), .second, .val (.long q3), .second, .val (.long q4), .second, .val (.long q5), .second, .val (.int p6), .val (.long g), .second, .val (.long az), .second, .val (.long rm), .second, .val (.long am), .second, .val (.ref b7), .val (.long (own_end (own_fd q2 g) q2 g)), .second, .val (.long tb), .second, .unset, .unset] [(.long (if q2 < tb then tb else q2))])) _
    refine XS.lstore X21.here hx rfl (hb hby at_125) rfl (l' := #[.val (.long q1), .second, .val (.long q2), .second, .val (.long q3), .second, .val (.long q4), .second, .val (.long q5), .second, .val (.int p6), .val (.long g), .second, .val (.long az), .second, .val (.long rm), .second, .val (.long am), .second, .val (.ref b7), .val (.long (own_end (own_fd q2 g) q2 g)), .second, .val (.long tb), .second, .val (.long (if q2 < tb then tb else q2)), .second]) rfl ?_
    show Steps p.tables e below (T21.setTop (mkF m 127 #[.val (.long q1), .second, .val (.long q2), .second, .val (.long q3), .second, .val (.long q4), .second, .val (.long q5), .second, .val (.int p6), .val (.long g), .second, .val (.long az), .second, .val (.long rm), .second, .val (.long am), .second, .val (.ref b7), .val (.long (own_end (own_fd q2 g) q2 g)), .second, .val (.long tb), .second, .val (.long (if q2 < tb then tb else q2)), .second] [])) _
    refine XS.aload X21.here hx rfl (hb hby at_127) rfl rfl ?_
    show Steps p.tables e below (T21.setTop (mkF m 129 #[.val (.long q1), .second, .val (.long q2), .second, .val (.long q3), .second, .val (.long q4), .second, .val (.long q5), .second, .val (.int p6), .val (.long g), .second, .val (.long az), .second, .val (.long rm), .second, .val (.long am), .second, .val (.ref b7), .val (.long (own_end (own_fd q2 g) q2 g)), .second, .val (.long tb), .second, .val (.long (if q2 < tb then tb else q2)), .second] [(.ref b7)])) _
    refine st25.trans ?_
    show Steps p.tables e below (T25.setTop (mkF m 132 #[.val (.long q1), .second, .val (.long q2), .second, .val (.long q3), .second, .val (.long q4), .second, .val (.long q5), .second, .val (.int p6), .val (.long g), .second, .val (.long az), .second, .val (.long rm), .second, .val (.long am), .second, .val (.ref b7), .val (.long (own_end (own_fd q2 g) q2 g)), .second, .val (.long tb), .second, .val (.long (if q2 < tb then tb else q2)), .second] [(.long (((0 : Int64) + az) + am))])) _
    refine XS.lload X25.here hx rfl (hb hby at_132) rfl ?_
    show Steps p.tables e below (T25.setTop (mkF m 134 #[.val (.long q1), .second, .val (.long q2), .second, .val (.long q3), .second, .val (.long q4), .second, .val (.long q5), .second, .val (.int p6), .val (.long g), .second, .val (.long az), .second, .val (.long rm), .second, .val (.long am), .second, .val (.ref b7), .val (.long (own_end (own_fd q2 g) q2 g)), .second, .val (.long tb), .second, .val (.long (if q2 < tb then tb else q2)), .second] [(.long az), (.long (((0 : Int64) + az) + am))])) _
    refine XS.lload X25.here hx rfl (hb hby at_134) rfl ?_
    show Steps p.tables e below (T25.setTop (mkF m 136 #[.val (.long q1), .second, .val (.long q2), .second, .val (.long q3), .second, .val (.long q4), .second, .val (.long q5), .second, .val (.int p6), .val (.long g), .second, .val (.long az), .second, .val (.long rm), .second, .val (.long am), .second, .val (.ref b7), .val (.long (own_end (own_fd q2 g) q2 g)), .second, .val (.long tb), .second, .val (.long (if q2 < tb then tb else q2)), .second] [(.long am), (.long az), (.long (((0 : Int64) + az) + am))])) _
    refine XS.ladd X25.here hx rfl (hb hby at_136) rfl ?_
    show Steps p.tables e below (T25.setTop (mkF m 137 #[.val (.long q1), .second, .val (.long q2), .second, .val (.long q3), .second, .val (.long q4), .second, .val (.long q5), .second, .val (.int p6), .val (.long g), .second, .val (.long az), .second, .val (.long rm), .second, .val (.long am), .second, .val (.ref b7), .val (.long (own_end (own_fd q2 g) q2 g)), .second, .val (.long tb), .second, .val (.long (if q2 < tb then tb else q2)), .second] [(.long (az + am)), (.long (((0 : Int64) + az) + am))])) _
    refine XS.lcmp X25.here hx rfl (hb hby at_137) rfl ?_
    show Steps p.tables e below (T25.setTop (mkF m 138 #[.val (.long q1), .second, .val (.long q2), .second, .val (.long q3), .second, .val (.long q4), .second, .val (.long q5), .second, .val (.int p6), .val (.long g), .second, .val (.long az), .second, .val (.long rm), .second, .val (.long am), .second, .val (.ref b7), .val (.long (own_end (own_fd q2 g) q2 g)), .second, .val (.long tb), .second, .val (.long (if q2 < tb then tb else q2)), .second] [(.int (lcmpW (((0 : Int64) + az) + am) (az + am)))])) _
    refine XS.ifNo X25.here hx rfl (hb hby at_138) rfl ((if0 _ _).trans (teq ((lw_eq _ _).mpr (by rw [Int64.zero_add]))).2) ?_
    show Steps p.tables e below (T25.setTop (mkF m 141 #[.val (.long q1), .second, .val (.long q2), .second, .val (.long q3), .second, .val (.long q4), .second, .val (.long q5), .second, .val (.int p6), .val (.long g), .second, .val (.long az), .second, .val (.long rm), .second, .val (.long am), .second, .val (.ref b7), .val (.long (own_end (own_fd q2 g) q2 g)), .second, .val (.long tb), .second, .val (.long (if q2 < tb then tb else q2)), .second] [])) _
    refine XS.aload X25.here hx rfl (hb hby at_141) rfl rfl ?_
    show Steps p.tables e below (T25.setTop (mkF m 143 #[.val (.long q1), .second, .val (.long q2), .second, .val (.long q3), .second, .val (.long q4), .second, .val (.long q5), .second, .val (.int p6), .val (.long g), .second, .val (.long az), .second, .val (.long rm), .second, .val (.long am), .second, .val (.ref b7), .val (.long (own_end (own_fd q2 g) q2 g)), .second, .val (.long tb), .second, .val (.long (if q2 < tb then tb else q2)), .second] [(.ref b7)])) _
    refine st27.trans ?_
    show Steps p.tables e below (T27.setTop (mkF m 146 #[.val (.long q1), .second, .val (.long q2), .second, .val (.long q3), .second, .val (.long q4), .second, .val (.long q5), .second, .val (.int p6), .val (.long g), .second, .val (.long az), .second, .val (.long rm), .second, .val (.long am), .second, .val (.ref b7), .val (.long (own_end (own_fd q2 g) q2 g)), .second, .val (.long tb), .second, .val (.long (if q2 < tb then tb else q2)), .second] [(.long (own_mx q2 tb))])) _
    refine XS.lload X27.here hx rfl (hb hby at_146) rfl ?_
    show Steps p.tables e below (T27.setTop (mkF m 148 #[.val (.long q1), .second, .val (.long q2), .second, .val (.long q3), .second, .val (.long q4), .second, .val (.long q5), .second, .val (.int p6), .val (.long g), .second, .val (.long az), .second, .val (.long rm), .second, .val (.long am), .second, .val (.ref b7), .val (.long (own_end (own_fd q2 g) q2 g)), .second, .val (.long tb), .second, .val (.long (if q2 < tb then tb else q2)), .second] [(.long (if q2 < tb then tb else q2)), (.long (own_mx q2 tb))])) _
    refine XS.lcmp X27.here hx rfl (hb hby at_148) rfl ?_
    show Steps p.tables e below (T27.setTop (mkF m 149 #[.val (.long q1), .second, .val (.long q2), .second, .val (.long q3), .second, .val (.long q4), .second, .val (.long q5), .second, .val (.int p6), .val (.long g), .second, .val (.long az), .second, .val (.long rm), .second, .val (.long am), .second, .val (.ref b7), .val (.long (own_end (own_fd q2 g) q2 g)), .second, .val (.long tb), .second, .val (.long (if q2 < tb then tb else q2)), .second] [(.int (lcmpW (own_mx q2 tb) (if q2 < tb then tb else q2)))])) _
    refine XS.ifNo X27.here hx rfl (hb hby at_149) rfl ((if0 _ _).trans (teq ((lw_eq _ _).mpr rfl)).2) ?_
    show Steps p.tables e below (T27.setTop (mkF m 152 #[.val (.long q1), .second, .val (.long q2), .second, .val (.long q3), .second, .val (.long q4), .second, .val (.long q5), .second, .val (.int p6), .val (.long g), .second, .val (.long az), .second, .val (.long rm), .second, .val (.long am), .second, .val (.ref b7), .val (.long (own_end (own_fd q2 g) q2 g)), .second, .val (.long tb), .second, .val (.long (if q2 < tb then tb else q2)), .second] [])) _
    refine XS.aload X27.here hx rfl (hb hby at_152) rfl rfl ?_
    show Steps p.tables e below (T27.setTop (mkF m 154 #[.val (.long q1), .second, .val (.long q2), .second, .val (.long q3), .second, .val (.long q4), .second, .val (.long q5), .second, .val (.int p6), .val (.long g), .second, .val (.long az), .second, .val (.long rm), .second, .val (.long am), .second, .val (.ref b7), .val (.long (own_end (own_fd q2 g) q2 g)), .second, .val (.long tb), .second, .val (.long (if q2 < tb then tb else q2)), .second] [(.ref b7)])) _
    refine st28.trans ?_
    show Steps p.tables e below (T28.setTop (mkF m 157 #[.val (.long q1), .second, .val (.long q2), .second, .val (.long q3), .second, .val (.long q4), .second, .val (.long q5), .second, .val (.int p6), .val (.long g), .second, .val (.long az), .second, .val (.long rm), .second, .val (.long am), .second, .val (.ref b7), .val (.long (own_end (own_fd q2 g) q2 g)), .second, .val (.long tb), .second, .val (.long (if q2 < tb then tb else q2)), .second] [(.long (own_end (own_fd q2 g) q2 g))])) _
    refine XS.lload X28.here hx rfl (hb hby at_157) rfl ?_
    show Steps p.tables e below (T28.setTop (mkF m 159 #[.val (.long q1), .second, .val (.long q2), .second, .val (.long q3), .second, .val (.long q4), .second, .val (.long q5), .second, .val (.int p6), .val (.long g), .second, .val (.long az), .second, .val (.long rm), .second, .val (.long am), .second, .val (.ref b7), .val (.long (own_end (own_fd q2 g) q2 g)), .second, .val (.long tb), .second, .val (.long (if q2 < tb then tb else q2)), .second] [(.long (own_end (own_fd q2 g) q2 g)), (.long (own_end (own_fd q2 g) q2 g))])) _
    refine XS.lcmp X28.here hx rfl (hb hby at_159) rfl ?_
    show Steps p.tables e below (T28.setTop (mkF m 160 #[.val (.long q1), .second, .val (.long q2), .second, .val (.long q3), .second, .val (.long q4), .second, .val (.long q5), .second, .val (.int p6), .val (.long g), .second, .val (.long az), .second, .val (.long rm), .second, .val (.long am), .second, .val (.ref b7), .val (.long (own_end (own_fd q2 g) q2 g)), .second, .val (.long tb), .second, .val (.long (if q2 < tb then tb else q2)), .second] [(.int (lcmpW (own_end (own_fd q2 g) q2 g) (own_end (own_fd q2 g) q2 g)))])) _
    refine XS.ifNo X28.here hx rfl (hb hby at_160) rfl ((if0 _ _).trans (teq ((lw_eq _ _).mpr rfl)).2) ?_
    show Steps p.tables e below (T28.setTop (mkF m 163 #[.val (.long q1), .second, .val (.long q2), .second, .val (.long q3), .second, .val (.long q4), .second, .val (.long q5), .second, .val (.int p6), .val (.long g), .second, .val (.long az), .second, .val (.long rm), .second, .val (.long am), .second, .val (.ref b7), .val (.long (own_end (own_fd q2 g) q2 g)), .second, .val (.long tb), .second, .val (.long (if q2 < tb then tb else q2)), .second] [])) _
    refine XS.aload X28.here hx rfl (hb hby at_163) rfl rfl ?_
    show Steps p.tables e below (T28.setTop (mkF m 165 #[.val (.long q1), .second, .val (.long q2), .second, .val (.long q3), .second, .val (.long q4), .second, .val (.long q5), .second, .val (.int p6), .val (.long g), .second, .val (.long az), .second, .val (.long rm), .second, .val (.long am), .second, .val (.ref b7), .val (.long (own_end (own_fd q2 g) q2 g)), .second, .val (.long tb), .second, .val (.long (if q2 < tb then tb else q2)), .second] [(.ref b7)])) _
    refine st29.trans ?_
    show Steps p.tables e below (T29.setTop (mkF m 168 #[.val (.long q1), .second, .val (.long q2), .second, .val (.long q3), .second, .val (.long q4), .second, .val (.long q5), .second, .val (.int p6), .val (.long g), .second, .val (.long az), .second, .val (.long rm), .second, .val (.long am), .second, .val (.ref b7), .val (.long (own_end (own_fd q2 g) q2 g)), .second, .val (.long tb), .second, .val (.long (if q2 < tb then tb else q2)), .second] [(.int (own_em (((0 : Int64) + az) + am)))])) _
    refine XS.ifNo X29.here hx rfl (hb hby at_168) rfl ((if0 _ _).trans (teq (if_neg (by rw [h_am, h_rm]; exact own_nz ha0))).2) ?_
    show Steps p.tables e below (T29.setTop (mkF m 171 #[.val (.long q1), .second, .val (.long q2), .second, .val (.long q3), .second, .val (.long q4), .second, .val (.long q5), .second, .val (.int p6), .val (.long g), .second, .val (.long az), .second, .val (.long rm), .second, .val (.long am), .second, .val (.ref b7), .val (.long (own_end (own_fd q2 g) q2 g)), .second, .val (.long tb), .second, .val (.long (if q2 < tb then tb else q2)), .second] [])) _
    refine XS.iconst X29.here hx rfl (hb hby at_171) ?_
    show Steps p.tables e below (T29.setTop (mkF m 172 #[.val (.long q1), .second, .val (.long q2), .second, .val (.long q3), .second, .val (.long q4), .second, .val (.long q5), .second, .val (.int p6), .val (.long g), .second, .val (.long az), .second, .val (.long rm), .second, .val (.long am), .second, .val (.ref b7), .val (.long (own_end (own_fd q2 g) q2 g)), .second, .val (.long tb), .second, .val (.long (if q2 < tb then tb else q2)), .second] [(.int (1 : Int32))])) _
    refine XS.goto X29.here hx rfl (pc0 := 172) (pc' := 176) rfl (hb hby at_172) (by decide) (by decide) ?_
    show Steps p.tables e below (T29.setTop (mkF m 176 #[.val (.long q1), .second, .val (.long q2), .second, .val (.long q3), .second, .val (.long q4), .second, .val (.long q5), .second, .val (.int p6), .val (.long g), .second, .val (.long az), .second, .val (.long rm), .second, .val (.long am), .second, .val (.ref b7), .val (.long (own_end (own_fd q2 g) q2 g)), .second, .val (.long tb), .second, .val (.long (if q2 < tb then tb else q2)), .second] [(.int (1 : Int32))])) _
    exact retN X29 hx (t := .boolean) Bd.returns (by simp) (hb hby at_176) hr
  · show Q_rm0 Z q1 q2 q3 q4 q5 p6 w_NO_ENTRIES kk h0 n0 _ T29.heap _
    rw [e29]
    exact ⟨rfl, N29, K21⟩
set_option maxRecDepth 65536 in
set_option maxHeartbeats 40000000 in
theorem comes_1 {Post : Tables → Env → Array Value → State → Outcome → State → Prop} (hpost : ∀ tb e args s v u, (limb_1_1.after args s (.returned v) u = true ∧ limb_1_2.after args s (.returned v) u = true ∧ True) → FrameEnd s (.returned v) u (Jvm.fieldLocs frame_1_writes args s ++ Jvm.arrayLocs frame_1_arrays args s ++ Jvm.staticLocs frame_1_statics s) 16 128 → Post tb e args s (.returned v) u) :
    ArmFor flags0 classFile x code maxLocals ret World_1 tables_1 room_1 Calls_1 rest_1 Pre_1 Post := by
  intro l hfl _ _ p e ha hc hk s m args below hf hA hF happ hP
  obtain ⟨hcalls, hrest, hpre⟩ := hP
  obtain ⟨-, -, -, hnamed, -, -, -, hat⟩ := (Spec.applies_iff hf).mp happ
  obtain ⟨hg, hn⟩ := and_e (Cond.before_iff.mp (show (Jvm.Cond.and given_1 narrow_1).before args s = true from hpre))
  obtain ⟨g1, g2⟩ := and_e hg
  obtain ⟨g3, g4⟩ := and_e g2
  obtain ⟨g5, g6⟩ := and_e g4
  obtain ⟨g7, g8⟩ := and_e g6
  obtain ⟨g9, g10⟩ := and_e g8
  obtain ⟨g11, g12⟩ := and_e g10
  obtain ⟨g13, g14⟩ := and_e hn
  obtain ⟨w0, w1, w2, w3, w4, w5, rfl⟩ : ∃ w0 w1 w2 w3 w4 w5 : Value, args = #[w0, w1, w2, w3, w4, w5] := by
    have hs : args.size = 6 := by simpa [Cond.value, given_1] using g1
    obtain ⟨L⟩ := args
    match L, hs with
    | [w0, w1, w2, w3, w4, w5], _ => exact ⟨w0, w1, w2, w3, w4, w5, rfl⟩
  have hw0 := fun d (hd : d ∈ tables_1) => atoms_spec (ws := Jvm.Cond.code x code maxLocals ret :: tables_1) hat d (List.mem_cons_of_mem _ hd)
  have hfit : Fit s := fun {y c} hc i hi => by
    obtain ⟨ha, rfl⟩ := Array.getElem?_eq_some_iff.mp hc
    have q := List.all_eq_true.mp ((Array.all_eq_true_iff_forall_mem.mp hF) _ (Array.getElem_mem ha)) i (List.mem_range.mpr hi)
    simpa [Array.getElem?_eq_getElem hi] using q
  have hw := hw0
  obtain ⟨i0, ei0⟩ := isL_v g3
  obtain rfl : w0 = (.long i0) := Option.some.inj ei0
  obtain ⟨i1, ei1⟩ := isL_v g5
  obtain rfl : w1 = (.long i1) := Option.some.inj ei1
  obtain ⟨i2, ei2⟩ := isL_v g7
  obtain rfl : w2 = (.long i2) := Option.some.inj ei2
  obtain ⟨i3, ei3⟩ := isL_v g9
  obtain rfl : w3 = (.long i3) := Option.some.inj ei3
  obtain ⟨i4, ei4⟩ := isL_v g11
  obtain rfl : w4 = (.long i4) := Option.some.inj ei4
  obtain ⟨i5, ei5⟩ := is_v g12
  obtain rfl : w5 = (.int i5) := Option.some.inj ei5
  obtain ⟨w_NO_ENTRIES, ev_w_NO_ENTRIES⟩ := arr_v g13
  have S_w_NO_ENTRIES := Sta.start ev_w_NO_ENTRIES (Or.inr ⟨(kw4 hw), (kw20 hw)⟩)
  obtain ⟨cl_w_NO_ENTRIES, Ar_w_NO_ENTRIES⟩ := Arr.start ev_w_NO_ENTRIES g13
  have ln_w_NO_ENTRIES := own_len0 hfit ev_w_NO_ENTRIES Ar_w_NO_ENTRIES g14
  obtain ⟨n, o, h1, h2, h3, _, L, rfl, ⟨rfl, N, -⟩, hq⟩ := rm0 l s _ hw tables_1 i0 i1 i2 i3 i4 i5 w_NO_ENTRIES cl_w_NO_ENTRIES.cls s.heap s.heap.size (Nat.le_refl _) (Old.start s) S_w_NO_ENTRIES ln_w_NO_ENTRIES p e ha hc hk s m _ below hf ((Spec.applies_iff_loose hf).mp happ).1 ⟨rfl, State.Warmed39.refl s, rfl⟩ trivial
  refine ⟨n, _, h1, h2, h3, hpost _ _ _ _ _ _ ⟨Cond.after_iff.mpr rfl, Cond.after_iff.mpr (eq_i res_at (Term.int_eval (1)) rfl), trivial⟩ ⟨hq.1, hq.2.1, (hq.2.2.sift fun y hy => Or.inr (N y hy)).mono (by decide) (by decide)⟩⟩
theorem main_1_1 : Claimed_1_1 := comes_1 fun _ _ _ _ _ _ h hF => ⟨h.1, hF⟩
theorem main_1_2 : Claimed_1_2 := comes_1 fun _ _ _ _ _ _ h hF => ⟨h.2.1, hF⟩
end Jvm.Pilot.@@N@@
namespace Jvm.Pilot.@@N@@
open Jvm Jvm.ClassFile Sem Op Lib Jvm.Free Jvm.Stand Jvm.Pilot.@@N@@.Jvm.D
/-! MADE BY PROGRAM (witnessworld.py) out of the Statement's table words and the real class files: 13 classes; the members and pool entries that the words name. The judged class is class 1, her method 1. -/
namespace start1
open Jvm.ClassFile
def u (s : String) : CpInfo := .utf8 (stringToUtf16 s)
/-- a pool by its gaps: so many unusable entries, then the entry; so many at the end -/
def gap : Nat → List CpInfo → List CpInfo
  | 0, r => r
  | n + 1, r => .unusable :: gap n r
def poolList (es : List (Nat × CpInfo)) (last : Nat) : List CpInfo := es.foldr (fun e r => gap e.1 (e.2 :: r)) (gap last [])
def pool (es : List (Nat × CpInfo)) (last : Nat) : Array CpInfo := ⟨poolList es last⟩
def fileOf (pool : Array CpInfo) (this : Nat) (attrs : Array Attribute := #[]) (ms : Array MethodInfo := #[]) (fl : Nat := 33) (sup : Nat := 0) (ifs : Array Nat := #[]) (fds : Array FieldInfo := #[]) : ClassFile where
  minorVersion := 0
  majorVersion := 65
  constantPool := pool
  accessFlags := fl
  thisClass := this
  superClass := sup
  interfaces := ifs
  fields := fds
  methods := ms
  attributes := attrs
def plain (name : String) (sup : Option ClassId) : Class where
  name := name
  kind := .ordinary
  loader := none
  accessFlags := 33
  super := sup
  interfaces := #[]
  cf := none
  fields := #[]
  methods := #[]
  instanceTypes := #[]
  staticTypes := #[]
  resolved := #[]
  callSites := []
  init := .initialized
  statics := none
  mirror := none

def pool0 : Array CpInfo := pool [(5, u "<init>"), (0, u "()V"), (1, .class_ 10), (1, u "java/lang/Object")] 113

def k0c0 : Code := { maxStack := 0, maxLocals := 1, code := object_method_1_code, exceptionTable := #[], attributes := #[] }
def k0m0 : Method := { name := "<init>", desc := "()V", sig := { parameters := [], returnType := none }, accessFlags := 1, code := some k0c0 }
/-- java/lang/Object -/
def k0 : Class := { plain "java/lang/Object" none with
  accessFlags := 33
  interfaces := #[]
  cf := some (fileOf pool0 8 #[] #[{ accessFlags := 1, nameIndex := 5, descriptorIndex := 6, attributes := #[] }] 33 0 #[] #[])
  fields := #[]
  methods := #[k0m0]
  instanceTypes := #[]
  staticTypes := #[]
  resolved := Array.replicate 124 none
  statics := none }

def pool1 : Array CpInfo := pool [(2, .class_ 4), (1, u "java/lang/Object"), (0, u "<init>"), (0, u "()V"), (2, .long 9223372036854775807), (1, .long 4611686018427387903), (1, .class_ 14), (0, u "com/example/okno/okno/AdmissionLog"), (0, .methodref 13 16), (0, .nameAndType 5 17), (0, u "(JI)V"), (0, .methodref 13 19), (0, .nameAndType 20 21), (0, u "append"), (0, u "(JJ)V"), (0, .methodref 13 23), (0, .nameAndType 24 25), (0, u "newestSubWindowEnd"), (0, u "()J"), (0, .methodref 13 27), (0, .nameAndType 28 21), (0, u "addToNewest"), (0, .methodref 13 30), (0, .nameAndType 31 25), (0, u "total"), (0, .methodref 13 33), (0, .nameAndType 34 25), (0, u "newest"), (0, .methodref 13 36), (0, .nameAndType 37 38), (0, u "isEmpty"), (0, u "()Z"), (0, .class_ 40), (0, u "com/example/okno/okno/AdmissionLogAddToNewestPinLaw"), (2, u "law"), (0, u "(JJJJJI)Z")] 3

def k1m0 : Method := { name := "<init>", desc := "()V", sig := { parameters := [], returnType := none }, accessFlags := 1, code := none }
def k1c1 : Code := { maxStack := 6, maxLocals := 26, code := code, exceptionTable := #[], attributes := #[] }
def k1m1 : Method := { name := "law", desc := "(JJJJJI)Z", sig := { parameters := [.long, .long, .long, .long, .long, .int], returnType := some .boolean }, accessFlags := 9, code := some k1c1 }
/-- com/example/okno/okno/AdmissionLogAddToNewestPinLaw -/
def k1 : Class := { plain "com/example/okno/okno/AdmissionLogAddToNewestPinLaw" (some 0) with
  accessFlags := 49
  interfaces := #[]
  cf := some (fileOf pool1 39 #[] #[{ accessFlags := 1, nameIndex := 5, descriptorIndex := 6, attributes := #[] }, { accessFlags := 9, nameIndex := 43, descriptorIndex := 44, attributes := #[] }] 49 2 #[] #[])
  fields := #[]
  methods := #[k1m0, k1m1]
  instanceTypes := #[]
  staticTypes := #[]
  resolved := Array.replicate 48 none
  statics := none }

def pool2 : Array CpInfo := pool [(1, .methodref 2 3), (0, .class_ 4), (0, .nameAndType 5 6), (0, u "java/lang/Object"), (0, u "<init>"), (0, u "()V"), (11, .class_ 20), (1, u "com/example/okno/okno/KeyTurn"), (0, u "STATE"), (0, u "Ljava/lang/invoke/VarHandle;"), (65, u "state"), (19, u "FREE"), (0, u "J"), (3, u "DROPPED"), (0, u "SPIN_NANOS"), (0, u "FIRST_PAUSE_NANOS"), (0, u "LONGEST_PAUSE_NANOS"), (0, u "SLEEP_NANOS")] 15

def k2c0 : Code := { maxStack := 1, maxLocals := 1, code := prog_8_method_1_code, exceptionTable := #[], attributes := #[] }
def k2m0 : Method := { name := "<init>", desc := "()V", sig := { parameters := [], returnType := none }, accessFlags := 0, code := some k2c0 }
/-- com/example/okno/okno/KeyTurn -/
def k2 : Class := { plain "com/example/okno/okno/KeyTurn" (some 0) with
  accessFlags := 1056
  interfaces := #[]
  cf := some (fileOf pool2 18 #[] #[{ accessFlags := 0, nameIndex := 5, descriptorIndex := 6, attributes := #[] }] 1056 2 #[] #[{ accessFlags := 26, nameIndex := 108, descriptorIndex := 109, attributes := #[] }, { accessFlags := 26, nameIndex := 113, descriptorIndex := 109, attributes := #[] }, { accessFlags := 26, nameIndex := 114, descriptorIndex := 109, attributes := #[] }, { accessFlags := 26, nameIndex := 115, descriptorIndex := 109, attributes := #[] }, { accessFlags := 26, nameIndex := 116, descriptorIndex := 109, attributes := #[] }, { accessFlags := 26, nameIndex := 117, descriptorIndex := 109, attributes := #[] }, { accessFlags := 26, nameIndex := 21, descriptorIndex := 22, attributes := #[] }, { accessFlags := 66, nameIndex := 88, descriptorIndex := 109, attributes := #[] }])
  fields := #[{ name := "FREE", type := .long, accessFlags := 26, slot := 0, constantValue := 0 }, { name := "DROPPED", type := .long, accessFlags := 26, slot := 1, constantValue := 0 }, { name := "SPIN_NANOS", type := .long, accessFlags := 26, slot := 2, constantValue := 0 }, { name := "FIRST_PAUSE_NANOS", type := .long, accessFlags := 26, slot := 3, constantValue := 0 }, { name := "LONGEST_PAUSE_NANOS", type := .long, accessFlags := 26, slot := 4, constantValue := 0 }, { name := "SLEEP_NANOS", type := .long, accessFlags := 26, slot := 5, constantValue := 0 }, { name := "STATE", type := (.object "java/lang/invoke/VarHandle"), accessFlags := 26, slot := 6, constantValue := 0 }, { name := "state", type := .long, accessFlags := 66, slot := 0, constantValue := 0 }]
  methods := #[k2m0]
  instanceTypes := #[.long]
  staticTypes := #[.long, .long, .long, .long, .long, .long, (.object "java/lang/invoke/VarHandle")]
  resolved := Array.replicate 133 none
  statics := none }

def pool3 : Array CpInfo := pool [(1, .methodref 2 3), (0, .class_ 4), (0, .nameAndType 5 6), (0, u "com/example/okno/okno/KeyTurn"), (0, u "<init>"), (0, u "()V"), (2, .long 9223372036854775808), (1, .fieldref 12 13), (0, .class_ 14), (0, .nameAndType 15 16), (0, u "com/example/okno/okno/AdmissionLog"), (0, u "newest"), (0, u "J"), (0, .fieldref 12 18), (0, .nameAndType 19 20), (0, u "NO_ENTRIES"), (0, u "[J"), (0, .fieldref 12 22), (0, .nameAndType 23 20), (0, u "subWindows"), (0, .fieldref 12 25), (0, .nameAndType 26 20), (0, u "amounts"), (0, .long 9223372036854775807), (1, .fieldref 12 30), (0, .nameAndType 31 16), (0, u "oldestSubWindow"), (0, .fieldref 12 33), (0, .nameAndType 34 16), (0, u "lastTime"), (0, .fieldref 12 36), (0, .nameAndType 37 16), (0, u "subWindowMillis"), (0, .methodref 39 40), (0, .class_ 41), (0, .nameAndType 42 43), (0, u "java/lang/Math"), (0, u "floorDiv"), (0, u "(JJ)J"), (0, .fieldref 12 45), (0, .nameAndType 46 16), (0, u "lastSubWindow"), (0, .fieldref 12 48), (0, .nameAndType 49 20), (0, u "shorterWindows"), (0, .fieldref 12 51), (0, .nameAndType 52 16), (0, u "total"), (0, .fieldref 12 54), (0, .nameAndType 55 16), (0, u "newestSubWindowEnd"), (2, u "steadyOfNewest"), (2, u "callTime"), (2, u "callSteady"), (0, .methodref 39 66), (0, .nameAndType 67 43), (0, u "addExact"), (0, .methodref 12 69), (0, .nameAndType 70 71), (0, u "subWindowOf"), (0, u "(J)J"), (0, .methodref 12 73), (0, .nameAndType 74 75), (0, u "isEmpty"), (0, u "()Z"), (0, .methodref 12 77), (0, .nameAndType 78 79), (0, u "startNewestEntry"), (0, u "(JJ)V"), (0, .methodref 12 81), (0, .nameAndType 82 83), (0, u "countNewEntryInShorterWindows"), (0, u "(J)V"), (0, .fieldref 12 85), (0, .nameAndType 86 16), (0, u "newestSubWindow"), (0, .fieldref 12 88), (0, .nameAndType 89 16), (0, u "olderTotal"), (5, u "size"), (0, u "I"), (2, u "head"), (22, u "INITIAL_CAPACITY"), (2, u "(JI)V"), (4, u "()J"), (2, u "append"), (0, u "addToNewest")] 10

def k3c0 : Code := { maxStack := 5, maxLocals := 4, code := prog_2_method_1_code, exceptionTable := #[], attributes := #[] }
def k3m0 : Method := { name := "<init>", desc := "(JI)V", sig := { parameters := [.long, .int], returnType := none }, accessFlags := 0, code := some k3c0 }
def k3c1 : Code := { maxStack := 2, maxLocals := 1, code := prog_2_method_2_code, exceptionTable := #[], attributes := #[] }
def k3m1 : Method := { name := "total", desc := "()J", sig := { parameters := [], returnType := some .long }, accessFlags := 0, code := some k3c1 }
def k3c2 : Code := { maxStack := 4, maxLocals := 1, code := prog_2_method_3_code, exceptionTable := #[], attributes := #[] }
def k3m2 : Method := { name := "isEmpty", desc := "()Z", sig := { parameters := [], returnType := some .boolean }, accessFlags := 0, code := some k3c2 }
def k3c3 : Code := { maxStack := 2, maxLocals := 1, code := prog_2_method_4_code, exceptionTable := #[], attributes := #[] }
def k3m3 : Method := { name := "newest", desc := "()J", sig := { parameters := [], returnType := some .long }, accessFlags := 0, code := some k3c3 }
def k3c4 : Code := { maxStack := 2, maxLocals := 1, code := prog_2_method_5_code, exceptionTable := #[], attributes := #[] }
def k3m4 : Method := { name := "newestSubWindowEnd", desc := "()J", sig := { parameters := [], returnType := some .long }, accessFlags := 0, code := some k3c4 }
def k3c5 : Code := { maxStack := 5, maxLocals := 3, code := prog_2_method_11_code, exceptionTable := #[], attributes := #[] }
def k3m5 : Method := { name := "subWindowOf", desc := "(J)J", sig := { parameters := [.long], returnType := some .long }, accessFlags := 0, code := some k3c5 }
def k3c6 : Code := { maxStack := 5, maxLocals := 11, code := prog_2_method_12_code, exceptionTable := #[], attributes := #[] }
def k3m6 : Method := { name := "append", desc := "(JJ)V", sig := { parameters := [.long, .long], returnType := none }, accessFlags := 0, code := some k3c6 }
def k3c7 : Code := { maxStack := 5, maxLocals := 5, code := prog_2_method_13_code, exceptionTable := #[], attributes := #[] }
def k3m7 : Method := { name := "addToNewest", desc := "(JJ)V", sig := { parameters := [.long, .long], returnType := none }, accessFlags := 0, code := some k3c7 }
def k3c8 : Code := { maxStack := 6, maxLocals := 4, code := prog_2_method_19_code, exceptionTable := #[], attributes := #[] }
def k3m8 : Method := { name := "countNewEntryInShorterWindows", desc := "(J)V", sig := { parameters := [.long], returnType := none }, accessFlags := 2, code := some k3c8 }
def k3c9 : Code := { maxStack := 5, maxLocals := 7, code := prog_2_method_23_code, exceptionTable := #[], attributes := #[] }
def k3m9 : Method := { name := "startNewestEntry", desc := "(JJ)V", sig := { parameters := [.long, .long], returnType := none }, accessFlags := 2, code := some k3c9 }
/-- com/example/okno/okno/AdmissionLog -/
def k3 : Class := { plain "com/example/okno/okno/AdmissionLog" (some 2) with
  accessFlags := 32
  interfaces := #[]
  cf := some (fileOf pool3 12 #[] #[{ accessFlags := 0, nameIndex := 5, descriptorIndex := 125, attributes := #[] }, { accessFlags := 0, nameIndex := 52, descriptorIndex := 130, attributes := #[] }, { accessFlags := 0, nameIndex := 74, descriptorIndex := 75, attributes := #[] }, { accessFlags := 0, nameIndex := 15, descriptorIndex := 130, attributes := #[] }, { accessFlags := 0, nameIndex := 55, descriptorIndex := 130, attributes := #[] }, { accessFlags := 0, nameIndex := 70, descriptorIndex := 71, attributes := #[] }, { accessFlags := 0, nameIndex := 133, descriptorIndex := 79, attributes := #[] }, { accessFlags := 0, nameIndex := 134, descriptorIndex := 79, attributes := #[] }, { accessFlags := 2, nameIndex := 82, descriptorIndex := 83, attributes := #[] }, { accessFlags := 2, nameIndex := 78, descriptorIndex := 79, attributes := #[] }] 32 2 #[] #[{ accessFlags := 26, nameIndex := 122, descriptorIndex := 96, attributes := #[] }, { accessFlags := 26, nameIndex := 19, descriptorIndex := 20, attributes := #[] }, { accessFlags := 2, nameIndex := 52, descriptorIndex := 16, attributes := #[] }, { accessFlags := 2, nameIndex := 15, descriptorIndex := 16, attributes := #[] }, { accessFlags := 2, nameIndex := 55, descriptorIndex := 16, attributes := #[] }, { accessFlags := 2, nameIndex := 58, descriptorIndex := 16, attributes := #[] }, { accessFlags := 2, nameIndex := 61, descriptorIndex := 16, attributes := #[] }, { accessFlags := 2, nameIndex := 64, descriptorIndex := 16, attributes := #[] }, { accessFlags := 18, nameIndex := 37, descriptorIndex := 16, attributes := #[] }, { accessFlags := 2, nameIndex := 23, descriptorIndex := 20, attributes := #[] }, { accessFlags := 2, nameIndex := 26, descriptorIndex := 20, attributes := #[] }, { accessFlags := 2, nameIndex := 99, descriptorIndex := 96, attributes := #[] }, { accessFlags := 2, nameIndex := 95, descriptorIndex := 96, attributes := #[] }, { accessFlags := 2, nameIndex := 86, descriptorIndex := 16, attributes := #[] }, { accessFlags := 2, nameIndex := 89, descriptorIndex := 16, attributes := #[] }, { accessFlags := 2, nameIndex := 31, descriptorIndex := 16, attributes := #[] }, { accessFlags := 2, nameIndex := 34, descriptorIndex := 16, attributes := #[] }, { accessFlags := 2, nameIndex := 46, descriptorIndex := 16, attributes := #[] }, { accessFlags := 18, nameIndex := 49, descriptorIndex := 20, attributes := #[] }])
  fields := #[{ name := "INITIAL_CAPACITY", type := .int, accessFlags := 26, slot := 0, constantValue := 0 }, { name := "NO_ENTRIES", type := (.array .long), accessFlags := 26, slot := 1, constantValue := 0 }, { name := "total", type := .long, accessFlags := 2, slot := 1, constantValue := 0 }, { name := "newest", type := .long, accessFlags := 2, slot := 2, constantValue := 0 }, { name := "newestSubWindowEnd", type := .long, accessFlags := 2, slot := 3, constantValue := 0 }, { name := "steadyOfNewest", type := .long, accessFlags := 2, slot := 4, constantValue := 0 }, { name := "callTime", type := .long, accessFlags := 2, slot := 5, constantValue := 0 }, { name := "callSteady", type := .long, accessFlags := 2, slot := 6, constantValue := 0 }, { name := "subWindowMillis", type := .long, accessFlags := 18, slot := 7, constantValue := 0 }, { name := "subWindows", type := (.array .long), accessFlags := 2, slot := 8, constantValue := 0 }, { name := "amounts", type := (.array .long), accessFlags := 2, slot := 9, constantValue := 0 }, { name := "head", type := .int, accessFlags := 2, slot := 10, constantValue := 0 }, { name := "size", type := .int, accessFlags := 2, slot := 11, constantValue := 0 }, { name := "newestSubWindow", type := .long, accessFlags := 2, slot := 12, constantValue := 0 }, { name := "olderTotal", type := .long, accessFlags := 2, slot := 13, constantValue := 0 }, { name := "oldestSubWindow", type := .long, accessFlags := 2, slot := 14, constantValue := 0 }, { name := "lastTime", type := .long, accessFlags := 2, slot := 15, constantValue := 0 }, { name := "lastSubWindow", type := .long, accessFlags := 2, slot := 16, constantValue := 0 }, { name := "shorterWindows", type := (.array .long), accessFlags := 18, slot := 17, constantValue := 0 }]
  methods := #[k3m0, k3m1, k3m2, k3m3, k3m4, k3m5, k3m6, k3m7, k3m8, k3m9]
  instanceTypes := #[.long, .long, .long, .long, .long, .long, .long, .long, (.array .long), (.array .long), .int, .int, .long, .long, .long, .long, .long, (.array .long)]
  staticTypes := #[.int, (.array .long)]
  resolved := Array.replicate 145 none
  statics := some 0 }

def pool4 : Array CpInfo := pool [(1, .class_ 2), (0, u "java/lang/Math"), (1, .class_ 6), (1, u "java/lang/Object"), (0, u "<init>"), (0, u "()V"), (89, .class_ 100), (1, u "java/lang/Math$RandomNumberGeneratorHolder"), (20, u "(JJ)J"), (23, u "floorDiv"), (26, u "negativeZeroFloatBits"), (0, u "J"), (2, u "negativeZeroDoubleBits"), (68, u "$assertionsDisabled"), (0, u "Z"), (91, u "twoToTheDoubleScaleDown"), (0, u "D"), (4, u "twoToTheDoubleScaleUp"), (9, u "E"), (3, u "PI"), (2, u "TAU"), (2, u "DEGREES_TO_RADIANS"), (0, u "RADIANS_TO_DEGREES"), (27, u "addExact")] 66

def k4m0 : Method := { name := "<init>", desc := "()V", sig := { parameters := [], returnType := none }, accessFlags := 2, code := none }
def k4c1 : Code := { maxStack := 6, maxLocals := 6, code := jdk_29_method_25_code, exceptionTable := #[], attributes := #[] }
def k4m1 : Method := { name := "addExact", desc := "(JJ)J", sig := { parameters := [.long, .long], returnType := some .long }, accessFlags := 9, code := some k4c1 }
def k4c2 : Code := { maxStack := 4, maxLocals := 6, code := jdk_29_method_49_code, exceptionTable := #[], attributes := #[] }
def k4m2 : Method := { name := "floorDiv", desc := "(JJ)J", sig := { parameters := [.long, .long], returnType := some .long }, accessFlags := 9, code := some k4c2 }
/-- java/lang/Math -/
def k4 : Class := { plain "java/lang/Math" (some 0) with
  accessFlags := 49
  interfaces := #[]
  cf := some (fileOf pool4 1 #[.nestMembers #[98]] #[{ accessFlags := 2, nameIndex := 7, descriptorIndex := 8, attributes := #[] }, { accessFlags := 9, nameIndex := 393, descriptorIndex := 121, attributes := #[] }, { accessFlags := 9, nameIndex := 145, descriptorIndex := 121, attributes := #[] }] 49 4 #[] #[{ accessFlags := 25, nameIndex := 354, descriptorIndex := 339, attributes := #[] }, { accessFlags := 25, nameIndex := 358, descriptorIndex := 339, attributes := #[] }, { accessFlags := 25, nameIndex := 361, descriptorIndex := 339, attributes := #[] }, { accessFlags := 26, nameIndex := 364, descriptorIndex := 339, attributes := #[] }, { accessFlags := 26, nameIndex := 365, descriptorIndex := 339, attributes := #[] }, { accessFlags := 26, nameIndex := 172, descriptorIndex := 173, attributes := #[] }, { accessFlags := 26, nameIndex := 176, descriptorIndex := 173, attributes := #[] }, { accessFlags := 8, nameIndex := 344, descriptorIndex := 339, attributes := #[] }, { accessFlags := 8, nameIndex := 338, descriptorIndex := 339, attributes := #[] }, { accessFlags := 4120, nameIndex := 245, descriptorIndex := 246, attributes := #[] }])
  fields := #[{ name := "E", type := .double, accessFlags := 25, slot := 0, constantValue := 0 }, { name := "PI", type := .double, accessFlags := 25, slot := 1, constantValue := 0 }, { name := "TAU", type := .double, accessFlags := 25, slot := 2, constantValue := 0 }, { name := "DEGREES_TO_RADIANS", type := .double, accessFlags := 26, slot := 3, constantValue := 0 }, { name := "RADIANS_TO_DEGREES", type := .double, accessFlags := 26, slot := 4, constantValue := 0 }, { name := "negativeZeroFloatBits", type := .long, accessFlags := 26, slot := 5, constantValue := 0 }, { name := "negativeZeroDoubleBits", type := .long, accessFlags := 26, slot := 6, constantValue := 0 }, { name := "twoToTheDoubleScaleUp", type := .double, accessFlags := 8, slot := 7, constantValue := 0 }, { name := "twoToTheDoubleScaleDown", type := .double, accessFlags := 8, slot := 8, constantValue := 0 }, { name := "$assertionsDisabled", type := .boolean, accessFlags := 4120, slot := 9, constantValue := 0 }]
  methods := #[k4m0, k4m1, k4m2]
  instanceTypes := #[]
  staticTypes := #[.double, .double, .double, .double, .double, .long, .long, .double, .double, .boolean]
  resolved := Array.replicate 460 none
  statics := none }

def pool5 : Array CpInfo := pool [(1, u "java/lang/Cloneable"), (0, .class_ 1), (0, u "java/lang/Object"), (0, .class_ 3)] 3

/-- java/lang/Cloneable -/
def k5 : Class := { plain "java/lang/Cloneable" (some 0) with
  accessFlags := 1537
  interfaces := #[]
  cf := some (fileOf pool5 2 #[] #[] 1537 4 #[] #[])
  fields := #[]
  methods := #[]
  instanceTypes := #[]
  staticTypes := #[]
  resolved := Array.replicate 8 none
  statics := none }

def pool6 : Array CpInfo := pool [(1, u "java/io/Serializable"), (0, .class_ 1), (0, u "java/lang/Object"), (0, .class_ 3)] 3

/-- java/io/Serializable -/
def k6 : Class := { plain "java/io/Serializable" (some 0) with
  accessFlags := 1537
  interfaces := #[]
  cf := some (fileOf pool6 2 #[] #[] 1537 4 #[] #[])
  fields := #[]
  methods := #[]
  instanceTypes := #[]
  staticTypes := #[]
  resolved := Array.replicate 8 none
  statics := none }

/-- the primitive byte -/
def k7 : Class := { plain "byte" none with kind := .primitive 'B', accessFlags := 0x411 }
/-- [B -/
def k8 : Class := { plain "[B" (some 0) with kind := .array 7 .byte, interfaces := #[5, 6], accessFlags := 1041 }

/-- the primitive int -/
def k9 : Class := { plain "int" none with kind := .primitive 'I', accessFlags := 0x411 }
/-- [I -/
def k10 : Class := { plain "[I" (some 0) with kind := .array 9 .int, interfaces := #[5, 6], accessFlags := 1041 }

/-- the primitive long -/
def k11 : Class := { plain "long" none with kind := .primitive 'J', accessFlags := 0x411 }
/-- [J -/
def k12 : Class := { plain "[J" (some 0) with kind := .array 11 .long, interfaces := #[5, 6], accessFlags := 1041 }

def heap : Heap := #[{ cls := 3, slots := #[.int 0, .ref 1], vm := .statics 3 },
  { cls := 12, slots := #[], vm := .none }]
def classes : Array Class := #[k0, k1, k2, k3, k4, k5, k6, k7, k8, k9, k10, k11, k12]
def interned : List (Array UInt16 × Addr) := []
def slotsUsed : Nat := 2
def theMethod : MethodId := ⟨1, 1⟩
def args0 : Array Value := #[.long 5, .long 6, .long 7, .long 8, .long 9, .int 1]
def aboutOver (below : List Frame) : State where
  vm := { classes := classes, interned := interned.toArray }
  heap := heap
  slotsUsed := slotsUsed
  threads := #[{ frames := .invoking theMethod args0 :: below }]
def below0 : List Frame := [.native { method := ⟨0, 0⟩, args := #[] }]
def about1 : State := aboutOver below0
def p0 : Program := .bare "" "" ""
def e0 : Env := launch0.env 0 0 0
theorem w_frames : about1.frames = Frame.invoking theMethod args0 :: below0 := rfl
set_option maxRecDepth 65536 in
theorem w_args : argsFit about1.vm theMethod args0 = true := by decide +kernel
set_option maxRecDepth 65536 in
theorem w_heap : heapFits about1 = true := by decide +kernel
set_option maxRecDepth 65536 in
theorem w_runnable : about1.curStatus? = some .runnable := by decide +kernel
set_option maxRecDepth 65536 in
theorem w_alone : about1.alone = true := by decide +kernel
set_option maxRecDepth 65536 in
theorem w_named : about1.methodNamed? x = some theMethod := by decide +kernel
set_option maxRecDepth 65536 in
theorem w_hears : about1.hears theMethod below0 = true := by decide +kernel
set_option maxRecDepth 65536 in
theorem w_ripe : about1.ripe theMethod args0 below0 = true := by decide +kernel
theorem w_running : about1.status = .running := rfl
set_option maxRecDepth 65536 in
theorem w_room : about1.hasRoom e0.platform room_1 = true :=
  launch0.hasRoom_least _ room_1 (by decide +kernel) (by decide +kernel) (by decide +kernel) (by decide +kernel) (by decide +kernel) (by decide +kernel)
theorem allAtoms_all (ts : List Jvm.Cond) (a : Array Jvm.Value) (st : Jvm.State) : (allAtoms ts).before a st = ts.all (fun c => c.before a st) := by
  induction ts with
  | nil => rfl
  | cons c t ih =>
    show (Jvm.Cond.and c (allAtoms t)).before a st = _
    rw [Jvm.Cond.before_and, ih, List.all_cons]
def words1 : List Jvm.Cond := Jvm.Cond.code x code maxLocals ret :: tables_1
/-- a 'code' word, met by the world's own term for the bytes: nothing is compared byte by byte -/
theorem code_word {y : MethodName} {bytes : ByteArray} {mx : Nat} {rt : Option FieldType} {a : Array Value} {s : State} {m : MethodId} {meth : Method} {c : Code} (h1 : s.methodNamed? y = some m) (h2 : s.vm.method? m = some meth) (h3 : meth.code = some c) (h4 : c.code = bytes)
    (h5 : (c.maxLocals == mx && c.exceptionTable.isEmpty && decide (c.maxStack ≤ mostOperands) && decide (meth.sig.returnType = rt) && !meth.locks && decide (parseMethodDescriptor y.desc = some meth.sig)) = true) : (Jvm.Cond.code y bytes mx rt).before a s = true := by
  simp only [Bool.and_eq_true, beq_iff_eq, Bool.not_eq_true', decide_eq_true_eq] at h5
  obtain ⟨⟨⟨⟨⟨g1, g2⟩, g3⟩, g4⟩, g5⟩, g6⟩ := h5
  simp [Cond.before, Cond.holds, Cond.value, h1, h2, h3, h4, g1, g2, g3, g4, g5, g6]
def isCode : Jvm.Cond → Bool
  | .code _ _ _ _ => true
  | _ => false
theorem all_split {L : List Jvm.Cond} {P : Jvm.Cond → Bool} (h1 : L.all (fun c => isCode c || P c) = true) (h2 : ∀ c ∈ L.filter isCode, P c = true) : L.all P = true := by
  refine List.all_eq_true.mpr fun c hc => ?_
  have h := List.all_eq_true.mp h1 c hc
  rcases Bool.eq_false_or_eq_true (isCode c) with hi | hi
  · exact h2 c (List.mem_filter.mpr ⟨hc, hi⟩)
  · simpa [hi] using h
set_option maxRecDepth 65536 in
theorem w_c0 : (Jvm.Cond.code x code maxLocals ret).before args0 about1 = true := code_word (m := ⟨1, 1⟩) (meth := k1m1) (c := k1c1) (by decide +kernel) rfl rfl rfl (by decide +kernel)
set_option maxRecDepth 65536 in
theorem w_c1 : (Jvm.Cond.code ({ cls := "com/example/okno/okno/AdmissionLog", name := "<init>", desc := "(JI)V" } : Jvm.MethodName) prog_2_method_1_code (4 : Nat) (Option.none : Option Jvm.ClassFile.FieldType)).before args0 about1 = true := code_word (m := ⟨3, 0⟩) (meth := k3m0) (c := k3c0) (by decide +kernel) rfl rfl rfl (by decide +kernel)
set_option maxRecDepth 65536 in
theorem w_c2 : (Jvm.Cond.code ({ cls := "com/example/okno/okno/KeyTurn", name := "<init>", desc := "()V" } : Jvm.MethodName) prog_8_method_1_code (1 : Nat) (Option.none : Option Jvm.ClassFile.FieldType)).before args0 about1 = true := code_word (m := ⟨2, 0⟩) (meth := k2m0) (c := k2c0) (by decide +kernel) rfl rfl rfl (by decide +kernel)
set_option maxRecDepth 65536 in
theorem w_c3 : (Jvm.Cond.code ({ cls := "java/lang/Object", name := "<init>", desc := "()V" } : Jvm.MethodName) object_method_1_code (1 : Nat) (Option.none : Option Jvm.ClassFile.FieldType)).before args0 about1 = true := code_word (m := ⟨0, 0⟩) (meth := k0m0) (c := k0c0) (by decide +kernel) rfl rfl rfl (by decide +kernel)
set_option maxRecDepth 65536 in
theorem w_c4 : (Jvm.Cond.code ({ cls := "java/lang/Math", name := "floorDiv", desc := "(JJ)J" } : Jvm.MethodName) jdk_29_method_49_code (6 : Nat) (Option.some Jvm.ClassFile.FieldType.long)).before args0 about1 = true := code_word (m := ⟨4, 2⟩) (meth := k4m2) (c := k4c2) (by decide +kernel) rfl rfl rfl (by decide +kernel)
set_option maxRecDepth 65536 in
theorem w_c5 : (Jvm.Cond.code ({ cls := "com/example/okno/okno/AdmissionLog", name := "append", desc := "(JJ)V" } : Jvm.MethodName) prog_2_method_12_code (11 : Nat) (Option.none : Option Jvm.ClassFile.FieldType)).before args0 about1 = true := code_word (m := ⟨3, 6⟩) (meth := k3m6) (c := k3c6) (by decide +kernel) rfl rfl rfl (by decide +kernel)
set_option maxRecDepth 65536 in
theorem w_c6 : (Jvm.Cond.code ({ cls := "java/lang/Math", name := "addExact", desc := "(JJ)J" } : Jvm.MethodName) jdk_29_method_25_code (6 : Nat) (Option.some Jvm.ClassFile.FieldType.long)).before args0 about1 = true := code_word (m := ⟨4, 1⟩) (meth := k4m1) (c := k4c1) (by decide +kernel) rfl rfl rfl (by decide +kernel)
set_option maxRecDepth 65536 in
theorem w_c7 : (Jvm.Cond.code ({ cls := "com/example/okno/okno/AdmissionLog", name := "subWindowOf", desc := "(J)J" } : Jvm.MethodName) prog_2_method_11_code (3 : Nat) (Option.some Jvm.ClassFile.FieldType.long)).before args0 about1 = true := code_word (m := ⟨3, 5⟩) (meth := k3m5) (c := k3c5) (by decide +kernel) rfl rfl rfl (by decide +kernel)
set_option maxRecDepth 65536 in
theorem w_c8 : (Jvm.Cond.code ({ cls := "com/example/okno/okno/AdmissionLog", name := "isEmpty", desc := "()Z" } : Jvm.MethodName) prog_2_method_3_code (1 : Nat) (Option.some Jvm.ClassFile.FieldType.boolean)).before args0 about1 = true := code_word (m := ⟨3, 2⟩) (meth := k3m2) (c := k3c2) (by decide +kernel) rfl rfl rfl (by decide +kernel)
set_option maxRecDepth 65536 in
theorem w_c9 : (Jvm.Cond.code ({ cls := "com/example/okno/okno/AdmissionLog", name := "startNewestEntry", desc := "(JJ)V" } : Jvm.MethodName) prog_2_method_23_code (7 : Nat) (Option.none : Option Jvm.ClassFile.FieldType)).before args0 about1 = true := code_word (m := ⟨3, 9⟩) (meth := k3m9) (c := k3c9) (by decide +kernel) rfl rfl rfl (by decide +kernel)
set_option maxRecDepth 65536 in
theorem w_c10 : (Jvm.Cond.code ({ cls := "com/example/okno/okno/AdmissionLog", name := "countNewEntryInShorterWindows", desc := "(J)V" } : Jvm.MethodName) prog_2_method_19_code (4 : Nat) (Option.none : Option Jvm.ClassFile.FieldType)).before args0 about1 = true := code_word (m := ⟨3, 8⟩) (meth := k3m8) (c := k3c8) (by decide +kernel) rfl rfl rfl (by decide +kernel)
set_option maxRecDepth 65536 in
theorem w_c11 : (Jvm.Cond.code ({ cls := "com/example/okno/okno/AdmissionLog", name := "newestSubWindowEnd", desc := "()J" } : Jvm.MethodName) prog_2_method_5_code (1 : Nat) (Option.some Jvm.ClassFile.FieldType.long)).before args0 about1 = true := code_word (m := ⟨3, 4⟩) (meth := k3m4) (c := k3c4) (by decide +kernel) rfl rfl rfl (by decide +kernel)
set_option maxRecDepth 65536 in
theorem w_c12 : (Jvm.Cond.code ({ cls := "com/example/okno/okno/AdmissionLog", name := "addToNewest", desc := "(JJ)V" } : Jvm.MethodName) prog_2_method_13_code (5 : Nat) (Option.none : Option Jvm.ClassFile.FieldType)).before args0 about1 = true := code_word (m := ⟨3, 7⟩) (meth := k3m7) (c := k3c7) (by decide +kernel) rfl rfl rfl (by decide +kernel)
set_option maxRecDepth 65536 in
theorem w_c13 : (Jvm.Cond.code ({ cls := "com/example/okno/okno/AdmissionLog", name := "total", desc := "()J" } : Jvm.MethodName) prog_2_method_2_code (1 : Nat) (Option.some Jvm.ClassFile.FieldType.long)).before args0 about1 = true := code_word (m := ⟨3, 1⟩) (meth := k3m1) (c := k3c1) (by decide +kernel) rfl rfl rfl (by decide +kernel)
set_option maxRecDepth 65536 in
theorem w_c14 : (Jvm.Cond.code ({ cls := "com/example/okno/okno/AdmissionLog", name := "newest", desc := "()J" } : Jvm.MethodName) prog_2_method_4_code (1 : Nat) (Option.some Jvm.ClassFile.FieldType.long)).before args0 about1 = true := code_word (m := ⟨3, 3⟩) (meth := k3m3) (c := k3c3) (by decide +kernel) rfl rfl rfl (by decide +kernel)
def codes1 : List Jvm.Cond := [Jvm.Cond.code x code maxLocals ret, Jvm.Cond.code ({ cls := "com/example/okno/okno/AdmissionLog", name := "<init>", desc := "(JI)V" } : Jvm.MethodName) prog_2_method_1_code (4 : Nat) (Option.none : Option Jvm.ClassFile.FieldType), Jvm.Cond.code ({ cls := "com/example/okno/okno/KeyTurn", name := "<init>", desc := "()V" } : Jvm.MethodName) prog_8_method_1_code (1 : Nat) (Option.none : Option Jvm.ClassFile.FieldType), Jvm.Cond.code ({ cls := "java/lang/Object", name := "<init>", desc := "()V" } : Jvm.MethodName) object_method_1_code (1 : Nat) (Option.none : Option Jvm.ClassFile.FieldType), Jvm.Cond.code ({ cls := "java/lang/Math", name := "floorDiv", desc := "(JJ)J" } : Jvm.MethodName) jdk_29_method_49_code (6 : Nat) (Option.some Jvm.ClassFile.FieldType.long), Jvm.Cond.code ({ cls := "com/example/okno/okno/AdmissionLog", name := "append", desc := "(JJ)V" } : Jvm.MethodName) prog_2_method_12_code (11 : Nat) (Option.none : Option Jvm.ClassFile.FieldType), Jvm.Cond.code ({ cls := "java/lang/Math", name := "addExact", desc := "(JJ)J" } : Jvm.MethodName) jdk_29_method_25_code (6 : Nat) (Option.some Jvm.ClassFile.FieldType.long), Jvm.Cond.code ({ cls := "com/example/okno/okno/AdmissionLog", name := "subWindowOf", desc := "(J)J" } : Jvm.MethodName) prog_2_method_11_code (3 : Nat) (Option.some Jvm.ClassFile.FieldType.long), Jvm.Cond.code ({ cls := "com/example/okno/okno/AdmissionLog", name := "isEmpty", desc := "()Z" } : Jvm.MethodName) prog_2_method_3_code (1 : Nat) (Option.some Jvm.ClassFile.FieldType.boolean), Jvm.Cond.code ({ cls := "com/example/okno/okno/AdmissionLog", name := "startNewestEntry", desc := "(JJ)V" } : Jvm.MethodName) prog_2_method_23_code (7 : Nat) (Option.none : Option Jvm.ClassFile.FieldType), Jvm.Cond.code ({ cls := "com/example/okno/okno/AdmissionLog", name := "countNewEntryInShorterWindows", desc := "(J)V" } : Jvm.MethodName) prog_2_method_19_code (4 : Nat) (Option.none : Option Jvm.ClassFile.FieldType), Jvm.Cond.code ({ cls := "com/example/okno/okno/AdmissionLog", name := "newestSubWindowEnd", desc := "()J" } : Jvm.MethodName) prog_2_method_5_code (1 : Nat) (Option.some Jvm.ClassFile.FieldType.long), Jvm.Cond.code ({ cls := "com/example/okno/okno/AdmissionLog", name := "addToNewest", desc := "(JJ)V" } : Jvm.MethodName) prog_2_method_13_code (5 : Nat) (Option.none : Option Jvm.ClassFile.FieldType), Jvm.Cond.code ({ cls := "com/example/okno/okno/AdmissionLog", name := "total", desc := "()J" } : Jvm.MethodName) prog_2_method_2_code (1 : Nat) (Option.some Jvm.ClassFile.FieldType.long), Jvm.Cond.code ({ cls := "com/example/okno/okno/AdmissionLog", name := "newest", desc := "()J" } : Jvm.MethodName) prog_2_method_4_code (1 : Nat) (Option.some Jvm.ClassFile.FieldType.long)]
set_option maxRecDepth 65536 in
theorem codes_eq : words1.filter isCode = codes1 := rfl
theorem w_codes : ∀ c ∈ words1.filter isCode, c.before args0 about1 = true := by
  rw [codes_eq]
  intro c hc
  simp only [codes1, List.mem_cons, List.not_mem_nil, or_false] at hc
  rcases hc with rfl | rfl | rfl | rfl | rfl | rfl | rfl | rfl | rfl | rfl | rfl | rfl | rfl | rfl | rfl
  · exact w_c0
  · exact w_c1
  · exact w_c2
  · exact w_c3
  · exact w_c4
  · exact w_c5
  · exact w_c6
  · exact w_c7
  · exact w_c8
  · exact w_c9
  · exact w_c10
  · exact w_c11
  · exact w_c12
  · exact w_c13
  · exact w_c14
set_option maxRecDepth 65536 in
theorem w_t1 : (words1.take 24).all (fun c => isCode c || c.before args0 about1) = true := by decide +kernel
set_option maxRecDepth 65536 in
theorem w_t2 : ((words1.drop 24).take 24).all (fun c => isCode c || c.before args0 about1) = true := by decide +kernel
set_option maxRecDepth 65536 in
theorem w_t3 : (((words1.drop 24).drop 24).take 24).all (fun c => isCode c || c.before args0 about1) = true := by decide +kernel
set_option maxRecDepth 65536 in
theorem w_t4 : ((((words1.drop 24).drop 24).drop 24).take 24).all (fun c => isCode c || c.before args0 about1) = true := by decide +kernel
set_option maxRecDepth 65536 in
theorem w_t5 : ((((words1.drop 24).drop 24).drop 24).drop 24).all (fun c => isCode c || c.before args0 about1) = true := by decide +kernel
theorem w_tables : (allAtoms (Jvm.Cond.code x code maxLocals ret :: tables_1)).before args0 about1 = true := by
  rw [allAtoms_all]
  show words1.all (fun c => c.before args0 about1) = true
  refine all_split ?_ w_codes
  rw [← List.take_append_drop 24 words1, List.all_append, w_t1, ← List.take_append_drop 24 (words1.drop 24), List.all_append, w_t2, ← List.take_append_drop 24 ((words1.drop 24).drop 24), List.all_append, w_t3, ← List.take_append_drop 24 (((words1.drop 24).drop 24).drop 24), List.all_append, w_t4, w_t5]
  rfl
set_option maxRecDepth 65536 in
theorem w_case : (Jvm.Cond.and given_1 narrow_1).before args0 about1 = true := by decide +kernel
theorem w_applies : (headSpec (Jvm.Cond.code x code maxLocals ret :: tables_1) room_1).applies x e0.platform about1 = true :=
  (Spec.applies_iff w_frames).mpr ⟨w_running, w_runnable, w_alone, w_named, w_hears, w_ripe, w_room, w_tables⟩
theorem atStart : AtStart classFile x code maxLocals ret World_1 tables_1 room_1 Calls_1 rest_1 Pre_1 launch0 p0 e0 about1 theMethod args0 below0 :=
  ⟨lists_1, trivial, launch0.admits_env _ _ _, launch0.least_env, fairChoices_fair.cas, fairChoices_fair.clock, w_frames, w_args, w_heap, w_applies, trivial, trivial, w_case⟩
end start1
theorem witness_1 : WitnessClaimed_1 := ⟨start1.p0, start1.e0, start1.about1, start1.theMethod, start1.args0, start1.below0, start1.atStart⟩
end Jvm.Pilot.@@N@@
