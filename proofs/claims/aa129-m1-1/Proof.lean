import JvmDerived
import JvmDerived.Pilot.@@N@@Statement
import JvmDerived.Pilot.@@N@@Code
set_option linter.unusedVariables false
set_option linter.unusedSimpArgs false
namespace Jvm.RoadKit
open Sem ClassFile Op Lib Jvm.Stand Jvm.Free Jvm.LawKit
section New
variable {p : Program} {l : Launch} {e : Env} {R : Room} {s : State} {m : MethodId} {args : Array Value} {below : List Frame} {meth : Method} {c : Code} {T : State} {locs : List Loc} {cells slots : Nat}
theorem retI (X : Stand p l e R s m args below meth c T locs cells slots) (hx : p.tables.exec = Jvm.exec) {pc : Nat} {Ls : Array Slot} {z : Int32} {rest : List Value} (hret : meth.sig.returnType = some .int) (hd : decode c.code pc = .ok (.ireturn, 1)) {fs : List Frame}
    (hl : ∀ (f : JFrame) (acts : List Action), f.method = m → f.locked = none → f.entered = [] → (doReturn e (T.setTop f) acts (some (.int z))).1 = T.setFrames fs) : Steps p.tables e below (T.setTop (mkF m pc Ls (.int z :: rest))) (T.setFrames fs) := by
  have hm' : T.vm.method? m = some meth := X.method'
  have hn : narrow .int (.int z) = .int z := rfl
  show Steps p.tables e below (T.setTop { method := m, pc := pc, locals := Ls, stack := _ :: rest, locked := none }) _
  jvm_step X.here [X.here.top, hx, hd, hm', hret, hn]
  first | (intro acts; rw [hl _ acts rfl rfl rfl]) | rw [hl _ _ rfl rfl rfl]
  exact Steps.refl _
theorem own_lremM {g : JFrame} {target : State} (X : Stand p l e R s m args below meth c T locs cells slots) (hx : p.tables.exec = Jvm.exec) (hg : g.method = m) {x y : Int64} {rest : List Value} (hd : decode c.code g.pc = .ok (.lrem, 1)) (hs : g.stack = .long y :: .long x :: rest) (hy : y ≠ 0)
    (hr : Steps p.tables e below (T.setTop { g with pc := g.pc + 1, stack := .long (x % y) :: rest }) target) : Steps p.tables e below (T.setTop g) target := by
  have q : x - x / y * y = x % y := lrem_mod x y
  exact XS.lrem X.here hx hg hd hs hy (by rw [q]; exact hr)
theorem own_selP {Z : State} {a0 : Array Value} {C : String} {n : Nat} {y : MethodName} (hC : y.cls = C) (wi : (Cond.instantiable C n).before a0 Z = true) (wm : (Cond.instanceMethod y).before a0 Z = true) (wp : (Cond.privateMethod y).before a0 Z = true) (hy : y.cls ≠ "java/lang/invoke/MethodHandle" ∧ y.cls ≠ "java/lang/invoke/VarHandle") : (Cond.selects y.cls y y).before a0 Z = true := by
  obtain ⟨c, k, h1, h2, h3, h4, -⟩ := Cond.instantiable_spec wi
  simp only [Bool.or_eq_false_iff] at h4
  subst hC
  exact selects_self_of_private h1 h2 h4.1 (Cond.privateMethod_at wp) wm hy
end New
end Jvm.RoadKit
namespace Jvm.Pilot.@@N@@
open Jvm Jvm.ClassFile Sem Op Lib Jvm.Free Jvm.Stand Jvm.LawKit Jvm.RoadKit Bundle Jvm.Pilot.@@N@@.Jvm.D
def own_tab : List Jvm.Cond := tables_1 ++ jdkStatics_1
def own_st (k : Int32) (w_MERGE w_DIFF3 w_ZDIFF3 : Addr) : Addr := if ((k &&& (2147483647 : Int32)) % (3 : Int32)) = (0 : Int32) then w_MERGE else if ((k &&& (2147483647 : Int32)) % (3 : Int32)) = (1 : Int32) then w_DIFF3 else w_ZDIFF3
def own_w (m : Int32) : Int32 := if (0 : Int32) < m then m else (7 : Int32)
theorem own_w1 {m : Int32} (h : ¬ m < (1 : Int32)) : own_w m = m := by
  have k0 : (0 : Int32).toInt = 0 := by decide
  have k1 : (1 : Int32).toInt = 1 := by decide
  have q : (0 : Int32) < m := by rw [Int32.lt_iff_toInt_lt] at h ⊢; omega
  exact if_pos q
theorem own_w2 {m : Int32} (h : m < (1 : Int32)) : own_w m = (7 : Int32) := by
  have k0 : (0 : Int32).toInt = 0 := by decide
  have k1 : (1 : Int32).toInt = 1 := by decide
  have q : ¬ (0 : Int32) < m := by rw [Int32.lt_iff_toInt_lt] at h ⊢; omega
  exact if_neg q
theorem own_w3 (m : Int32) : ¬ own_w m < (1 : Int32) := by
  by_cases h : m < (1 : Int32)
  · rw [own_w2 h]; decide
  · rw [own_w1 h]; exact h
theorem own_ch (x : Int32) : ¬ (255 : Int32) < ((x &&& (255 : Int32)).toUInt32.toUInt16.toUInt32.toInt32) := by
  rw [i2c_mask]
  have h := c_and x 255 (by decide)
  rw [Int32.lt_iff_toInt_lt]; omega
theorem own_nostat {s : State} {args : Array Value} {t : Term} {v : Int32} (ev : t.eval args s none [] s = some (.int v)) (h : (Jvm.Cond.not (Jvm.Cond.eq t (Term.int (0 : Int32)))).value args s none s [] = some true) : v ≠ (0 : Int32) := by
  have q := not_v h
  intro e
  subst e
  simp [Cond.value, ev, Term.eval] at q

theorem kw0 {Z : State} {a0 : Array Value} (hw : ∀ d ∈ own_tab, d.before a0 Z = true) : (Jvm.Cond.methodLink "com/example/mergewright/mergewright/merge/MergeOptionsWrittenMarkerSizePinLaw" (20 : Nat) ({ cls := "com/example/mergewright/mergewright/merge/MergeOptionsWrittenMarkerSizePinLaw", name := "styleOf", desc := "(I)Lcom/example/mergewright/mergewright/merge/MergeOptions$ConflictStyle;" } : Jvm.MethodName)).before a0 Z = true := hw _ (List.mem_of_getElem? (i := 0) rfl)
theorem kw1 {Z : State} {a0 : Array Value} (hw : ∀ d ∈ own_tab, d.before a0 Z = true) : (Jvm.Cond.static ({ cls := "com/example/mergewright/mergewright/merge/MergeOptionsWrittenMarkerSizePinLaw", name := "styleOf", desc := "(I)Lcom/example/mergewright/mergewright/merge/MergeOptions$ConflictStyle;" } : Jvm.MethodName)).before a0 Z = true := hw _ (List.mem_of_getElem? (i := 1) rfl)
theorem kw2 {Z : State} {a0 : Array Value} (hw : ∀ d ∈ own_tab, d.before a0 Z = true) : (Jvm.Cond.initialized "com/example/mergewright/mergewright/merge/MergeOptionsWrittenMarkerSizePinLaw").before a0 Z = true := hw _ (List.mem_of_getElem? (i := 2) rfl)
theorem kw3 {Z : State} {a0 : Array Value} (hw : ∀ d ∈ own_tab, d.before a0 Z = true) : (Jvm.Cond.code ({ cls := "com/example/mergewright/mergewright/merge/MergeOptionsWrittenMarkerSizePinLaw", name := "styleOf", desc := "(I)Lcom/example/mergewright/mergewright/merge/MergeOptions$ConflictStyle;" } : Jvm.MethodName) method_2_code (2 : Nat) (Option.some (Jvm.ClassFile.FieldType.object "com/example/mergewright/mergewright/merge/MergeOptions$ConflictStyle"))).before a0 Z = true := hw _ (List.mem_of_getElem? (i := 3) rfl)
theorem kw4 {Z : State} {a0 : Array Value} (hw : ∀ d ∈ own_tab, d.before a0 Z = true) : (Jvm.Cond.constant "com/example/mergewright/mergewright/merge/MergeOptionsWrittenMarkerSizePinLaw" (7 : Nat) (2147483647 : Int32)).before a0 Z = true := hw _ (List.mem_of_getElem? (i := 4) rfl)
theorem kw5 {Z : State} {a0 : Array Value} (hw : ∀ d ∈ own_tab, d.before a0 Z = true) : (Jvm.Cond.fieldLink "com/example/mergewright/mergewright/merge/MergeOptionsWrittenMarkerSizePinLaw" (17 : Nat) "com/example/mergewright/mergewright/merge/MergeOptions$ConflictStyle" "ZDIFF3" "Lcom/example/mergewright/mergewright/merge/MergeOptions$ConflictStyle;").before a0 Z = true := hw _ (List.mem_of_getElem? (i := 5) rfl)
theorem kw6 {Z : State} {a0 : Array Value} (hw : ∀ d ∈ own_tab, d.before a0 Z = true) : (Jvm.Cond.initialized "com/example/mergewright/mergewright/merge/MergeOptions$ConflictStyle").before a0 Z = true := hw _ (List.mem_of_getElem? (i := 6) rfl)
theorem kw7 {Z : State} {a0 : Array Value} (hw : ∀ d ∈ own_tab, d.before a0 Z = true) : (Jvm.Cond.laysStatic "com/example/mergewright/mergewright/merge/MergeOptions$ConflictStyle" "ZDIFF3" "Lcom/example/mergewright/mergewright/merge/MergeOptions$ConflictStyle;").before a0 Z = true := hw _ (List.mem_of_getElem? (i := 7) rfl)
theorem kw8 {Z : State} {a0 : Array Value} (hw : ∀ d ∈ own_tab, d.before a0 Z = true) : (Jvm.Cond.methodLink "com/example/mergewright/mergewright/merge/MergeOptionsWrittenMarkerSizePinLaw" (26 : Nat) ({ cls := "java/lang/String", name := "valueOf", desc := "(C)Ljava/lang/String;" } : Jvm.MethodName)).before a0 Z = true := hw _ (List.mem_of_getElem? (i := 8) rfl)
theorem kw9 {Z : State} {a0 : Array Value} (hw : ∀ d ∈ own_tab, d.before a0 Z = true) : (Jvm.Cond.static ({ cls := "java/lang/String", name := "valueOf", desc := "(C)Ljava/lang/String;" } : Jvm.MethodName)).before a0 Z = true := hw _ (List.mem_of_getElem? (i := 9) rfl)
theorem kw10 {Z : State} {a0 : Array Value} (hw : ∀ d ∈ own_tab, d.before a0 Z = true) : (Jvm.Cond.initialized "java/lang/String").before a0 Z = true := hw _ (List.mem_of_getElem? (i := 10) rfl)
theorem kw11 {Z : State} {a0 : Array Value} (hw : ∀ d ∈ own_tab, d.before a0 Z = true) : (Jvm.Cond.code ({ cls := "java/lang/String", name := "valueOf", desc := "(C)Ljava/lang/String;" } : Jvm.MethodName) jdk_42_method_139_code (1 : Nat) (Option.some (Jvm.ClassFile.FieldType.object "java/lang/String"))).before a0 Z = true := hw _ (List.mem_of_getElem? (i := 11) rfl)
theorem kw12 {Z : State} {a0 : Array Value} (hw : ∀ d ∈ own_tab, d.before a0 Z = true) : (Jvm.Cond.fieldLink "java/lang/String" (38 : Nat) "java/lang/String" "COMPACT_STRINGS" "Z").before a0 Z = true := hw _ (List.mem_of_getElem? (i := 12) rfl)
theorem kw13 {Z : State} {a0 : Array Value} (hw : ∀ d ∈ own_tab, d.before a0 Z = true) : (Jvm.Cond.methodLink "java/lang/String" (1015 : Nat) ({ cls := "java/lang/StringLatin1", name := "canEncode", desc := "(C)Z" } : Jvm.MethodName)).before a0 Z = true := hw _ (List.mem_of_getElem? (i := 13) rfl)
theorem kw14 {Z : State} {a0 : Array Value} (hw : ∀ d ∈ own_tab, d.before a0 Z = true) : (Jvm.Cond.static ({ cls := "java/lang/StringLatin1", name := "canEncode", desc := "(C)Z" } : Jvm.MethodName)).before a0 Z = true := hw _ (List.mem_of_getElem? (i := 14) rfl)
theorem kw15 {Z : State} {a0 : Array Value} (hw : ∀ d ∈ own_tab, d.before a0 Z = true) : (Jvm.Cond.initialized "java/lang/StringLatin1").before a0 Z = true := hw _ (List.mem_of_getElem? (i := 15) rfl)
theorem kw16 {Z : State} {a0 : Array Value} (hw : ∀ d ∈ own_tab, d.before a0 Z = true) : (Jvm.Cond.code ({ cls := "java/lang/StringLatin1", name := "canEncode", desc := "(C)Z" } : Jvm.MethodName) jdk_43_method_3_code (1 : Nat) (Option.some Jvm.ClassFile.FieldType.boolean)).before a0 Z = true := hw _ (List.mem_of_getElem? (i := 16) rfl)
theorem kw17 {Z : State} {a0 : Array Value} (hw : ∀ d ∈ own_tab, d.before a0 Z = true) : (Jvm.Cond.classLink "java/lang/String" (10 : Nat) "java/lang/String").before a0 Z = true := hw _ (List.mem_of_getElem? (i := 17) rfl)
theorem kw18 {Z : State} {a0 : Array Value} (hw : ∀ d ∈ own_tab, d.before a0 Z = true) : (Jvm.Cond.instantiable "java/lang/String" (4 : Nat)).before a0 Z = true := hw _ (List.mem_of_getElem? (i := 18) rfl)
theorem kw19 {Z : State} {a0 : Array Value} (hw : ∀ d ∈ own_tab, d.before a0 Z = true) : (Jvm.Cond.methodLink "java/lang/String" (1018 : Nat) ({ cls := "java/lang/StringLatin1", name := "toBytes", desc := "(C)[B" } : Jvm.MethodName)).before a0 Z = true := hw _ (List.mem_of_getElem? (i := 19) rfl)
theorem kw20 {Z : State} {a0 : Array Value} (hw : ∀ d ∈ own_tab, d.before a0 Z = true) : (Jvm.Cond.static ({ cls := "java/lang/StringLatin1", name := "toBytes", desc := "(C)[B" } : Jvm.MethodName)).before a0 Z = true := hw _ (List.mem_of_getElem? (i := 20) rfl)
theorem kw21 {Z : State} {a0 : Array Value} (hw : ∀ d ∈ own_tab, d.before a0 Z = true) : (Jvm.Cond.code ({ cls := "java/lang/StringLatin1", name := "toBytes", desc := "(C)[B" } : Jvm.MethodName) jdk_43_method_46_code (1 : Nat) (Option.some (Jvm.ClassFile.FieldType.array Jvm.ClassFile.FieldType.byte))).before a0 Z = true := hw _ (List.mem_of_getElem? (i := 21) rfl)
theorem kw22 {Z : State} {a0 : Array Value} (hw : ∀ d ∈ own_tab, d.before a0 Z = true) : (Jvm.Cond.arrayClass Jvm.ClassFile.FieldType.byte).before a0 Z = true := hw _ (List.mem_of_getElem? (i := 22) rfl)
theorem kw23 {Z : State} {a0 : Array Value} (hw : ∀ d ∈ own_tab, d.before a0 Z = true) : (Jvm.Cond.methodLink "java/lang/String" (209 : Nat) ({ cls := "java/lang/String", name := "<init>", desc := "([BB)V" } : Jvm.MethodName)).before a0 Z = true := hw _ (List.mem_of_getElem? (i := 23) rfl)
theorem kw24 {Z : State} {a0 : Array Value} (hw : ∀ d ∈ own_tab, d.before a0 Z = true) : (Jvm.Cond.instanceMethod ({ cls := "java/lang/String", name := "<init>", desc := "([BB)V" } : Jvm.MethodName)).before a0 Z = true := hw _ (List.mem_of_getElem? (i := 24) rfl)
theorem kw26 {Z : State} {a0 : Array Value} (hw : ∀ d ∈ own_tab, d.before a0 Z = true) : (Jvm.Cond.code ({ cls := "java/lang/String", name := "<init>", desc := "([BB)V" } : Jvm.MethodName) jdk_42_method_151_code (3 : Nat) (Option.none : Option Jvm.ClassFile.FieldType)).before a0 Z = true := hw _ (List.mem_of_getElem? (i := 26) rfl)
theorem kw27 {Z : State} {a0 : Array Value} (hw : ∀ d ∈ own_tab, d.before a0 Z = true) : (Jvm.Cond.methodLink "java/lang/String" (1 : Nat) ({ cls := "java/lang/Object", name := "<init>", desc := "()V" } : Jvm.MethodName)).before a0 Z = true := hw _ (List.mem_of_getElem? (i := 27) rfl)
theorem kw28 {Z : State} {a0 : Array Value} (hw : ∀ d ∈ own_tab, d.before a0 Z = true) : (Jvm.Cond.instanceMethod ({ cls := "java/lang/Object", name := "<init>", desc := "()V" } : Jvm.MethodName)).before a0 Z = true := hw _ (List.mem_of_getElem? (i := 28) rfl)
theorem kw29 {Z : State} {a0 : Array Value} (hw : ∀ d ∈ own_tab, d.before a0 Z = true) : (Jvm.Cond.code ({ cls := "java/lang/Object", name := "<init>", desc := "()V" } : Jvm.MethodName) object_method_1_code (1 : Nat) (Option.none : Option Jvm.ClassFile.FieldType)).before a0 Z = true := hw _ (List.mem_of_getElem? (i := 29) rfl)
theorem kw30 {Z : State} {a0 : Array Value} (hw : ∀ d ∈ own_tab, d.before a0 Z = true) : (Jvm.Cond.fieldLink "java/lang/String" (9 : Nat) "java/lang/String" "value" "[B").before a0 Z = true := hw _ (List.mem_of_getElem? (i := 30) rfl)
theorem kw31 {Z : State} {a0 : Array Value} (hw : ∀ d ∈ own_tab, d.before a0 Z = true) : (Jvm.Cond.laysFinal "java/lang/String" "java/lang/String" "value" "[B").before a0 Z = true := hw _ (List.mem_of_getElem? (i := 31) rfl)
theorem kw32 {Z : State} {a0 : Array Value} (hw : ∀ d ∈ own_tab, d.before a0 Z = true) : (Jvm.Cond.fieldLink "java/lang/String" (15 : Nat) "java/lang/String" "coder" "B").before a0 Z = true := hw _ (List.mem_of_getElem? (i := 32) rfl)
theorem kw33 {Z : State} {a0 : Array Value} (hw : ∀ d ∈ own_tab, d.before a0 Z = true) : (Jvm.Cond.laysFinal "java/lang/String" "java/lang/String" "coder" "B").before a0 Z = true := hw _ (List.mem_of_getElem? (i := 33) rfl)
theorem kw34 {Z : State} {a0 : Array Value} (hw : ∀ d ∈ own_tab, d.before a0 Z = true) : (Jvm.Cond.classLink "com/example/mergewright/mergewright/merge/MergeOptionsWrittenMarkerSizePinLaw" (32 : Nat) "com/example/mergewright/mergewright/merge/MergeOptions").before a0 Z = true := hw _ (List.mem_of_getElem? (i := 34) rfl)
theorem kw35 {Z : State} {a0 : Array Value} (hw : ∀ d ∈ own_tab, d.before a0 Z = true) : (Jvm.Cond.instantiable "com/example/mergewright/mergewright/merge/MergeOptions" (6 : Nat)).before a0 Z = true := hw _ (List.mem_of_getElem? (i := 35) rfl)
theorem kw36 {Z : State} {a0 : Array Value} (hw : ∀ d ∈ own_tab, d.before a0 Z = true) : (Jvm.Cond.initialized "com/example/mergewright/mergewright/merge/MergeOptions").before a0 Z = true := hw _ (List.mem_of_getElem? (i := 36) rfl)
theorem kw37 {Z : State} {a0 : Array Value} (hw : ∀ d ∈ own_tab, d.before a0 Z = true) : (Jvm.Cond.methodLink "com/example/mergewright/mergewright/merge/MergeOptionsWrittenMarkerSizePinLaw" (34 : Nat) ({ cls := "com/example/mergewright/mergewright/merge/MergeOptions", name := "<init>", desc := "(Ljava/lang/String;Ljava/lang/String;Ljava/lang/String;ILcom/example/mergewright/mergewright/merge/MergeOptions$ConflictStyle;)V" } : Jvm.MethodName)).before a0 Z = true := hw _ (List.mem_of_getElem? (i := 37) rfl)
theorem kw38 {Z : State} {a0 : Array Value} (hw : ∀ d ∈ own_tab, d.before a0 Z = true) : (Jvm.Cond.instanceMethod ({ cls := "com/example/mergewright/mergewright/merge/MergeOptions", name := "<init>", desc := "(Ljava/lang/String;Ljava/lang/String;Ljava/lang/String;ILcom/example/mergewright/mergewright/merge/MergeOptions$ConflictStyle;)V" } : Jvm.MethodName)).before a0 Z = true := hw _ (List.mem_of_getElem? (i := 38) rfl)
theorem kw39 {Z : State} {a0 : Array Value} (hw : ∀ d ∈ own_tab, d.before a0 Z = true) : (Jvm.Cond.code ({ cls := "com/example/mergewright/mergewright/merge/MergeOptions", name := "<init>", desc := "(Ljava/lang/String;Ljava/lang/String;Ljava/lang/String;ILcom/example/mergewright/mergewright/merge/MergeOptions$ConflictStyle;)V" } : Jvm.MethodName) prog_32_method_1_code (6 : Nat) (Option.none : Option Jvm.ClassFile.FieldType)).before a0 Z = true := hw _ (List.mem_of_getElem? (i := 39) rfl)
theorem kw40 {Z : State} {a0 : Array Value} (hw : ∀ d ∈ own_tab, d.before a0 Z = true) : (Jvm.Cond.fieldLink "com/example/mergewright/mergewright/merge/MergeOptions" (1 : Nat) "com/example/mergewright/mergewright/merge/MergeOptions$Favor" "NONE" "Lcom/example/mergewright/mergewright/merge/MergeOptions$Favor;").before a0 Z = true := hw _ (List.mem_of_getElem? (i := 40) rfl)
theorem kw41 {Z : State} {a0 : Array Value} (hw : ∀ d ∈ own_tab, d.before a0 Z = true) : (Jvm.Cond.initialized "com/example/mergewright/mergewright/merge/MergeOptions$Favor").before a0 Z = true := hw _ (List.mem_of_getElem? (i := 41) rfl)
theorem kw42 {Z : State} {a0 : Array Value} (hw : ∀ d ∈ own_tab, d.before a0 Z = true) : (Jvm.Cond.laysStatic "com/example/mergewright/mergewright/merge/MergeOptions$Favor" "NONE" "Lcom/example/mergewright/mergewright/merge/MergeOptions$Favor;").before a0 Z = true := hw _ (List.mem_of_getElem? (i := 42) rfl)
theorem kw43 {Z : State} {a0 : Array Value} (hw : ∀ d ∈ own_tab, d.before a0 Z = true) : (Jvm.Cond.methodLink "com/example/mergewright/mergewright/merge/MergeOptions" (7 : Nat) ({ cls := "com/example/mergewright/mergewright/merge/MergeOptions", name := "<init>", desc := "(Ljava/lang/String;Ljava/lang/String;Ljava/lang/String;ILcom/example/mergewright/mergewright/merge/MergeOptions$ConflictStyle;Lcom/example/mergewright/mergewright/merge/MergeOptions$Favor;)V" } : Jvm.MethodName)).before a0 Z = true := hw _ (List.mem_of_getElem? (i := 43) rfl)
theorem kw44 {Z : State} {a0 : Array Value} (hw : ∀ d ∈ own_tab, d.before a0 Z = true) : (Jvm.Cond.instanceMethod ({ cls := "com/example/mergewright/mergewright/merge/MergeOptions", name := "<init>", desc := "(Ljava/lang/String;Ljava/lang/String;Ljava/lang/String;ILcom/example/mergewright/mergewright/merge/MergeOptions$ConflictStyle;Lcom/example/mergewright/mergewright/merge/MergeOptions$Favor;)V" } : Jvm.MethodName)).before a0 Z = true := hw _ (List.mem_of_getElem? (i := 44) rfl)
theorem kw45 {Z : State} {a0 : Array Value} (hw : ∀ d ∈ own_tab, d.before a0 Z = true) : (Jvm.Cond.code ({ cls := "com/example/mergewright/mergewright/merge/MergeOptions", name := "<init>", desc := "(Ljava/lang/String;Ljava/lang/String;Ljava/lang/String;ILcom/example/mergewright/mergewright/merge/MergeOptions$ConflictStyle;Lcom/example/mergewright/mergewright/merge/MergeOptions$Favor;)V" } : Jvm.MethodName) prog_32_method_2_code (7 : Nat) (Option.none : Option Jvm.ClassFile.FieldType)).before a0 Z = true := hw _ (List.mem_of_getElem? (i := 45) rfl)
theorem kw46 {Z : State} {a0 : Array Value} (hw : ∀ d ∈ own_tab, d.before a0 Z = true) : (Jvm.Cond.methodLink "com/example/mergewright/mergewright/merge/MergeOptions" (13 : Nat) ({ cls := "java/lang/Object", name := "<init>", desc := "()V" } : Jvm.MethodName)).before a0 Z = true := hw _ (List.mem_of_getElem? (i := 46) rfl)
theorem kw47 {Z : State} {a0 : Array Value} (hw : ∀ d ∈ own_tab, d.before a0 Z = true) : (Jvm.Cond.fieldLink "com/example/mergewright/mergewright/merge/MergeOptions" (18 : Nat) "com/example/mergewright/mergewright/merge/MergeOptions" "currentLabel" "Ljava/lang/String;").before a0 Z = true := hw _ (List.mem_of_getElem? (i := 47) rfl)
theorem kw48 {Z : State} {a0 : Array Value} (hw : ∀ d ∈ own_tab, d.before a0 Z = true) : (Jvm.Cond.laysFinal "com/example/mergewright/mergewright/merge/MergeOptions" "com/example/mergewright/mergewright/merge/MergeOptions" "currentLabel" "Ljava/lang/String;").before a0 Z = true := hw _ (List.mem_of_getElem? (i := 48) rfl)
theorem kw49 {Z : State} {a0 : Array Value} (hw : ∀ d ∈ own_tab, d.before a0 Z = true) : (Jvm.Cond.fieldLink "com/example/mergewright/mergewright/merge/MergeOptions" (22 : Nat) "com/example/mergewright/mergewright/merge/MergeOptions" "baseLabel" "Ljava/lang/String;").before a0 Z = true := hw _ (List.mem_of_getElem? (i := 49) rfl)
theorem kw50 {Z : State} {a0 : Array Value} (hw : ∀ d ∈ own_tab, d.before a0 Z = true) : (Jvm.Cond.laysFinal "com/example/mergewright/mergewright/merge/MergeOptions" "com/example/mergewright/mergewright/merge/MergeOptions" "baseLabel" "Ljava/lang/String;").before a0 Z = true := hw _ (List.mem_of_getElem? (i := 50) rfl)
theorem kw51 {Z : State} {a0 : Array Value} (hw : ∀ d ∈ own_tab, d.before a0 Z = true) : (Jvm.Cond.fieldLink "com/example/mergewright/mergewright/merge/MergeOptions" (25 : Nat) "com/example/mergewright/mergewright/merge/MergeOptions" "otherLabel" "Ljava/lang/String;").before a0 Z = true := hw _ (List.mem_of_getElem? (i := 51) rfl)
theorem kw52 {Z : State} {a0 : Array Value} (hw : ∀ d ∈ own_tab, d.before a0 Z = true) : (Jvm.Cond.laysFinal "com/example/mergewright/mergewright/merge/MergeOptions" "com/example/mergewright/mergewright/merge/MergeOptions" "otherLabel" "Ljava/lang/String;").before a0 Z = true := hw _ (List.mem_of_getElem? (i := 52) rfl)
theorem kw53 {Z : State} {a0 : Array Value} (hw : ∀ d ∈ own_tab, d.before a0 Z = true) : (Jvm.Cond.fieldLink "com/example/mergewright/mergewright/merge/MergeOptions" (28 : Nat) "com/example/mergewright/mergewright/merge/MergeOptions" "markerSize" "I").before a0 Z = true := hw _ (List.mem_of_getElem? (i := 53) rfl)
theorem kw54 {Z : State} {a0 : Array Value} (hw : ∀ d ∈ own_tab, d.before a0 Z = true) : (Jvm.Cond.laysFinal "com/example/mergewright/mergewright/merge/MergeOptions" "com/example/mergewright/mergewright/merge/MergeOptions" "markerSize" "I").before a0 Z = true := hw _ (List.mem_of_getElem? (i := 54) rfl)
theorem kw55 {Z : State} {a0 : Array Value} (hw : ∀ d ∈ own_tab, d.before a0 Z = true) : (Jvm.Cond.fieldLink "com/example/mergewright/mergewright/merge/MergeOptions" (32 : Nat) "com/example/mergewright/mergewright/merge/MergeOptions" "style" "Lcom/example/mergewright/mergewright/merge/MergeOptions$ConflictStyle;").before a0 Z = true := hw _ (List.mem_of_getElem? (i := 55) rfl)
theorem kw56 {Z : State} {a0 : Array Value} (hw : ∀ d ∈ own_tab, d.before a0 Z = true) : (Jvm.Cond.laysFinal "com/example/mergewright/mergewright/merge/MergeOptions" "com/example/mergewright/mergewright/merge/MergeOptions" "style" "Lcom/example/mergewright/mergewright/merge/MergeOptions$ConflictStyle;").before a0 Z = true := hw _ (List.mem_of_getElem? (i := 56) rfl)
theorem kw57 {Z : State} {a0 : Array Value} (hw : ∀ d ∈ own_tab, d.before a0 Z = true) : (Jvm.Cond.fieldLink "com/example/mergewright/mergewright/merge/MergeOptions" (36 : Nat) "com/example/mergewright/mergewright/merge/MergeOptions" "favor" "Lcom/example/mergewright/mergewright/merge/MergeOptions$Favor;").before a0 Z = true := hw _ (List.mem_of_getElem? (i := 57) rfl)
theorem kw58 {Z : State} {a0 : Array Value} (hw : ∀ d ∈ own_tab, d.before a0 Z = true) : (Jvm.Cond.laysFinal "com/example/mergewright/mergewright/merge/MergeOptions" "com/example/mergewright/mergewright/merge/MergeOptions" "favor" "Lcom/example/mergewright/mergewright/merge/MergeOptions$Favor;").before a0 Z = true := hw _ (List.mem_of_getElem? (i := 58) rfl)
theorem kw59 {Z : State} {a0 : Array Value} (hw : ∀ d ∈ own_tab, d.before a0 Z = true) : (Jvm.Cond.methodLink "com/example/mergewright/mergewright/merge/MergeOptionsWrittenMarkerSizePinLaw" (37 : Nat) ({ cls := "com/example/mergewright/mergewright/merge/MergeOptions", name := "writtenMarkerSize", desc := "()I" } : Jvm.MethodName)).before a0 Z = true := hw _ (List.mem_of_getElem? (i := 59) rfl)
theorem kw60 {Z : State} {a0 : Array Value} (hw : ∀ d ∈ own_tab, d.before a0 Z = true) : (Jvm.Cond.declares ({ cls := "com/example/mergewright/mergewright/merge/MergeOptions", name := "writtenMarkerSize", desc := "()I" } : Jvm.MethodName)).before a0 Z = true := hw _ (List.mem_of_getElem? (i := 60) rfl)
theorem kw61 {Z : State} {a0 : Array Value} (hw : ∀ d ∈ own_tab, d.before a0 Z = true) : (Jvm.Cond.instanceMethod ({ cls := "com/example/mergewright/mergewright/merge/MergeOptions", name := "writtenMarkerSize", desc := "()I" } : Jvm.MethodName)).before a0 Z = true := hw _ (List.mem_of_getElem? (i := 61) rfl)
theorem kw62 {Z : State} {a0 : Array Value} (hw : ∀ d ∈ own_tab, d.before a0 Z = true) : (Jvm.Cond.selects "com/example/mergewright/mergewright/merge/MergeOptions" ({ cls := "com/example/mergewright/mergewright/merge/MergeOptions", name := "writtenMarkerSize", desc := "()I" } : Jvm.MethodName) ({ cls := "com/example/mergewright/mergewright/merge/MergeOptions", name := "writtenMarkerSize", desc := "()I" } : Jvm.MethodName)).before a0 Z = true := hw _ (List.mem_of_getElem? (i := 62) rfl)
theorem kw63 {Z : State} {a0 : Array Value} (hw : ∀ d ∈ own_tab, d.before a0 Z = true) : (Jvm.Cond.code ({ cls := "com/example/mergewright/mergewright/merge/MergeOptions", name := "writtenMarkerSize", desc := "()I" } : Jvm.MethodName) prog_32_method_8_code (1 : Nat) (Option.some Jvm.ClassFile.FieldType.int)).before a0 Z = true := hw _ (List.mem_of_getElem? (i := 63) rfl)
theorem kw64 {Z : State} {a0 : Array Value} (hw : ∀ d ∈ own_tab, d.before a0 Z = true) : (Jvm.Cond.methodLink "com/example/mergewright/mergewright/merge/MergeOptionsWrittenMarkerSizePinLaw" (41 : Nat) ({ cls := "com/example/mergewright/mergewright/merge/MergeOptions", name := "markerSize", desc := "()I" } : Jvm.MethodName)).before a0 Z = true := hw _ (List.mem_of_getElem? (i := 64) rfl)
theorem kw65 {Z : State} {a0 : Array Value} (hw : ∀ d ∈ own_tab, d.before a0 Z = true) : (Jvm.Cond.declares ({ cls := "com/example/mergewright/mergewright/merge/MergeOptions", name := "markerSize", desc := "()I" } : Jvm.MethodName)).before a0 Z = true := hw _ (List.mem_of_getElem? (i := 65) rfl)
theorem kw66 {Z : State} {a0 : Array Value} (hw : ∀ d ∈ own_tab, d.before a0 Z = true) : (Jvm.Cond.instanceMethod ({ cls := "com/example/mergewright/mergewright/merge/MergeOptions", name := "markerSize", desc := "()I" } : Jvm.MethodName)).before a0 Z = true := hw _ (List.mem_of_getElem? (i := 66) rfl)
theorem kw67 {Z : State} {a0 : Array Value} (hw : ∀ d ∈ own_tab, d.before a0 Z = true) : (Jvm.Cond.selects "com/example/mergewright/mergewright/merge/MergeOptions" ({ cls := "com/example/mergewright/mergewright/merge/MergeOptions", name := "markerSize", desc := "()I" } : Jvm.MethodName) ({ cls := "com/example/mergewright/mergewright/merge/MergeOptions", name := "markerSize", desc := "()I" } : Jvm.MethodName)).before a0 Z = true := hw _ (List.mem_of_getElem? (i := 67) rfl)
theorem kw68 {Z : State} {a0 : Array Value} (hw : ∀ d ∈ own_tab, d.before a0 Z = true) : (Jvm.Cond.code ({ cls := "com/example/mergewright/mergewright/merge/MergeOptions", name := "markerSize", desc := "()I" } : Jvm.MethodName) prog_32_method_7_code (1 : Nat) (Option.some Jvm.ClassFile.FieldType.int)).before a0 Z = true := hw _ (List.mem_of_getElem? (i := 68) rfl)
theorem kw69 {Z : State} {a0 : Array Value} (hw : ∀ d ∈ own_tab, d.before a0 Z = true) : (Jvm.Cond.fieldLink "com/example/mergewright/mergewright/merge/MergeOptionsWrittenMarkerSizePinLaw" (8 : Nat) "com/example/mergewright/mergewright/merge/MergeOptions$ConflictStyle" "MERGE" "Lcom/example/mergewright/mergewright/merge/MergeOptions$ConflictStyle;").before a0 Z = true := hw _ (List.mem_of_getElem? (i := 69) rfl)
theorem kw70 {Z : State} {a0 : Array Value} (hw : ∀ d ∈ own_tab, d.before a0 Z = true) : (Jvm.Cond.laysStatic "com/example/mergewright/mergewright/merge/MergeOptions$ConflictStyle" "MERGE" "Lcom/example/mergewright/mergewright/merge/MergeOptions$ConflictStyle;").before a0 Z = true := hw _ (List.mem_of_getElem? (i := 70) rfl)
theorem kw71 {Z : State} {a0 : Array Value} (hw : ∀ d ∈ own_tab, d.before a0 Z = true) : (Jvm.Cond.fieldLink "com/example/mergewright/mergewright/merge/MergeOptionsWrittenMarkerSizePinLaw" (14 : Nat) "com/example/mergewright/mergewright/merge/MergeOptions$ConflictStyle" "DIFF3" "Lcom/example/mergewright/mergewright/merge/MergeOptions$ConflictStyle;").before a0 Z = true := hw _ (List.mem_of_getElem? (i := 71) rfl)
theorem kw72 {Z : State} {a0 : Array Value} (hw : ∀ d ∈ own_tab, d.before a0 Z = true) : (Jvm.Cond.laysStatic "com/example/mergewright/mergewright/merge/MergeOptions$ConflictStyle" "DIFF3" "Lcom/example/mergewright/mergewright/merge/MergeOptions$ConflictStyle;").before a0 Z = true := hw _ (List.mem_of_getElem? (i := 72) rfl)
theorem kw73 {Z : State} {a0 : Array Value} (hw : ∀ d ∈ own_tab, d.before a0 Z = true) : (Jvm.Cond.initializedFor "java/lang/String" "COMPACT_STRINGS" "Z").before a0 Z = true := hw _ (List.mem_of_getElem? (i := 73) rfl)
theorem pn_0 : plainName "com/example/mergewright/mergewright/merge/MergeOptionsWrittenMarkerSizePinLaw" = true := by first | (simp [plainName, overriddenIn]; done) | decide +kernel
theorem pn_1 : plainName "java/lang/StringLatin1" = true := by first | (simp [plainName, overriddenIn]; done) | decide +kernel
theorem pn_2 : plainName "java/lang/String" = true := by first | (simp [plainName, overriddenIn]; done) | decide +kernel
theorem pn_3 : plainName "com/example/mergewright/mergewright/merge/MergeOptions" = true := by first | (simp [plainName, overriddenIn]; done) | decide +kernel
theorem pd_0 : parseMethodDescriptor "(C)Z" = some ⟨[.char], some .boolean⟩ := by decide +kernel
theorem pd_1 : parseMethodDescriptor "(C)[B" = some ⟨[.char], some (.array .byte)⟩ := by decide +kernel
theorem pd_2 : parseMethodDescriptor "([BB)V" = some ⟨[(.array .byte), .byte], none⟩ := by decide +kernel
theorem pd_3 : parseMethodDescriptor "(Ljava/lang/String;Ljava/lang/String;Ljava/lang/String;ILcom/example/mergewright/mergewright/merge/MergeOptions$ConflictStyle;Lcom/example/mergewright/mergewright/merge/MergeOptions$Favor;)V" = some ⟨[(.object "java/lang/String"), (.object "java/lang/String"), (.object "java/lang/String"), .int, (.object "com/example/mergewright/mergewright/merge/MergeOptions$ConflictStyle"), (.object "com/example/mergewright/mergewright/merge/MergeOptions$Favor")], none⟩ := by decide +kernel
theorem pd_4 : parseMethodDescriptor "(I)Lcom/example/mergewright/mergewright/merge/MergeOptions$ConflictStyle;" = some ⟨[.int], some (.object "com/example/mergewright/mergewright/merge/MergeOptions$ConflictStyle")⟩ := by decide +kernel
theorem pd_5 : parseMethodDescriptor "(C)Ljava/lang/String;" = some ⟨[.char], some (.object "java/lang/String")⟩ := by decide +kernel
theorem pd_6 : parseMethodDescriptor "(Ljava/lang/String;Ljava/lang/String;Ljava/lang/String;ILcom/example/mergewright/mergewright/merge/MergeOptions$ConflictStyle;)V" = some ⟨[(.object "java/lang/String"), (.object "java/lang/String"), (.object "java/lang/String"), .int, (.object "com/example/mergewright/mergewright/merge/MergeOptions$ConflictStyle")], none⟩ := by decide +kernel
theorem pd_7 : parseMethodDescriptor "()I" = some ⟨[], some .int⟩ := by decide +kernel
theorem d1_0 : decode method_2_code 0 = .ok (.iload_n 0, 1) := by decide +kernel
theorem d1_1 : decode method_2_code 1 = .ok (.ldc 7, 2) := by decide +kernel
theorem d1_3 : decode method_2_code 3 = .ok (.iand, 1) := by decide +kernel
theorem d1_4 : decode method_2_code 4 = .ok (.iconst 3, 1) := by decide +kernel
theorem d1_5 : decode method_2_code 5 = .ok (.irem, 1) := by decide +kernel
theorem d1_6 : decode method_2_code 6 = .ok (.istore_n 1, 1) := by decide +kernel
theorem d1_7 : decode method_2_code 7 = .ok (.iload_n 1, 1) := by decide +kernel
theorem d1_8 : decode method_2_code 8 = .ok (.ifCond .ne 7, 3) := by decide +kernel
theorem d1_11 : decode method_2_code 11 = .ok (.getstatic 8, 3) := by decide +kernel
theorem d1_14 : decode method_2_code 14 = .ok (.areturn, 1) := by decide +kernel
theorem d1_15 : decode method_2_code 15 = .ok (.iload_n 1, 1) := by decide +kernel
theorem d1_16 : decode method_2_code 16 = .ok (.iconst 1, 1) := by decide +kernel
theorem d1_17 : decode method_2_code 17 = .ok (.if_icmp .ne 7, 3) := by decide +kernel
theorem d1_20 : decode method_2_code 20 = .ok (.getstatic 14, 3) := by decide +kernel
theorem d1_23 : decode method_2_code 23 = .ok (.areturn, 1) := by decide +kernel
theorem d1_24 : decode method_2_code 24 = .ok (.getstatic 17, 3) := by decide +kernel
theorem d1_27 : decode method_2_code 27 = .ok (.areturn, 1) := by decide +kernel
theorem d2_0 : decode jdk_42_method_139_code 0 = .ok (.getstatic 38, 3) := by decide +kernel
theorem d2_3 : decode jdk_42_method_139_code 3 = .ok (.ifCond .eq 23, 3) := by decide +kernel
theorem d2_6 : decode jdk_42_method_139_code 6 = .ok (.iload_n 0, 1) := by decide +kernel
theorem d2_7 : decode jdk_42_method_139_code 7 = .ok (.invokestatic 1015, 3) := by decide +kernel
theorem d2_10 : decode jdk_42_method_139_code 10 = .ok (.ifCond .eq 16, 3) := by decide +kernel
theorem d2_13 : decode jdk_42_method_139_code 13 = .ok (.new 10, 3) := by decide +kernel
theorem d2_16 : decode jdk_42_method_139_code 16 = .ok (.dup, 1) := by decide +kernel
theorem d2_17 : decode jdk_42_method_139_code 17 = .ok (.iload_n 0, 1) := by decide +kernel
theorem d2_18 : decode jdk_42_method_139_code 18 = .ok (.invokestatic 1018, 3) := by decide +kernel
theorem d2_21 : decode jdk_42_method_139_code 21 = .ok (.iconst 0, 1) := by decide +kernel
theorem d2_22 : decode jdk_42_method_139_code 22 = .ok (.invokespecial 209, 3) := by decide +kernel
theorem d2_25 : decode jdk_42_method_139_code 25 = .ok (.areturn, 1) := by decide +kernel
theorem d3_0 : decode jdk_43_method_3_code 0 = .ok (.iload_n 0, 1) := by decide +kernel
theorem d3_1 : decode jdk_43_method_3_code 1 = .ok (.sipush 255, 3) := by decide +kernel
theorem d3_4 : decode jdk_43_method_3_code 4 = .ok (.if_icmp .gt 7, 3) := by decide +kernel
theorem d3_7 : decode jdk_43_method_3_code 7 = .ok (.iconst 1, 1) := by decide +kernel
theorem d3_8 : decode jdk_43_method_3_code 8 = .ok (.goto 4, 3) := by decide +kernel
theorem d3_12 : decode jdk_43_method_3_code 12 = .ok (.ireturn, 1) := by decide +kernel
theorem d4_0 : decode jdk_43_method_46_code 0 = .ok (.iconst 1, 1) := by decide +kernel
theorem d4_1 : decode jdk_43_method_46_code 1 = .ok (.newarray .byte, 2) := by decide +kernel
theorem d4_3 : decode jdk_43_method_46_code 3 = .ok (.dup, 1) := by decide +kernel
theorem d4_4 : decode jdk_43_method_46_code 4 = .ok (.iconst 0, 1) := by decide +kernel
theorem d4_5 : decode jdk_43_method_46_code 5 = .ok (.iload_n 0, 1) := by decide +kernel
theorem d4_6 : decode jdk_43_method_46_code 6 = .ok (.i2b, 1) := by decide +kernel
theorem d4_7 : decode jdk_43_method_46_code 7 = .ok (.bastore, 1) := by decide +kernel
theorem d4_8 : decode jdk_43_method_46_code 8 = .ok (.areturn, 1) := by decide +kernel
theorem d5_0 : decode jdk_42_method_151_code 0 = .ok (.aload_n 0, 1) := by decide +kernel
theorem d5_1 : decode jdk_42_method_151_code 1 = .ok (.invokespecial 1, 3) := by decide +kernel
theorem d5_4 : decode jdk_42_method_151_code 4 = .ok (.aload_n 0, 1) := by decide +kernel
theorem d5_5 : decode jdk_42_method_151_code 5 = .ok (.aload_n 1, 1) := by decide +kernel
theorem d5_6 : decode jdk_42_method_151_code 6 = .ok (.putfield 9, 3) := by decide +kernel
theorem d5_9 : decode jdk_42_method_151_code 9 = .ok (.aload_n 0, 1) := by decide +kernel
theorem d5_10 : decode jdk_42_method_151_code 10 = .ok (.iload_n 2, 1) := by decide +kernel
theorem d5_11 : decode jdk_42_method_151_code 11 = .ok (.putfield 15, 3) := by decide +kernel
theorem d5_14 : decode jdk_42_method_151_code 14 = .ok (.return_, 1) := by decide +kernel
theorem d7_0 : decode prog_32_method_1_code 0 = .ok (.aload_n 0, 1) := by decide +kernel
theorem d7_1 : decode prog_32_method_1_code 1 = .ok (.aload_n 1, 1) := by decide +kernel
theorem d7_2 : decode prog_32_method_1_code 2 = .ok (.aload_n 2, 1) := by decide +kernel
theorem d7_3 : decode prog_32_method_1_code 3 = .ok (.aload_n 3, 1) := by decide +kernel
theorem d7_4 : decode prog_32_method_1_code 4 = .ok (.iload 4, 2) := by decide +kernel
theorem d7_6 : decode prog_32_method_1_code 6 = .ok (.aload 5, 2) := by decide +kernel
theorem d7_8 : decode prog_32_method_1_code 8 = .ok (.getstatic 1, 3) := by decide +kernel
theorem d7_11 : decode prog_32_method_1_code 11 = .ok (.invokespecial 7, 3) := by decide +kernel
theorem d7_14 : decode prog_32_method_1_code 14 = .ok (.return_, 1) := by decide +kernel
theorem d8_0 : decode prog_32_method_2_code 0 = .ok (.aload_n 0, 1) := by decide +kernel
theorem d8_1 : decode prog_32_method_2_code 1 = .ok (.invokespecial 13, 3) := by decide +kernel
theorem d8_4 : decode prog_32_method_2_code 4 = .ok (.aload_n 0, 1) := by decide +kernel
theorem d8_5 : decode prog_32_method_2_code 5 = .ok (.aload_n 1, 1) := by decide +kernel
theorem d8_6 : decode prog_32_method_2_code 6 = .ok (.putfield 18, 3) := by decide +kernel
theorem d8_9 : decode prog_32_method_2_code 9 = .ok (.aload_n 0, 1) := by decide +kernel
theorem d8_10 : decode prog_32_method_2_code 10 = .ok (.aload_n 2, 1) := by decide +kernel
theorem d8_11 : decode prog_32_method_2_code 11 = .ok (.putfield 22, 3) := by decide +kernel
theorem d8_14 : decode prog_32_method_2_code 14 = .ok (.aload_n 0, 1) := by decide +kernel
theorem d8_15 : decode prog_32_method_2_code 15 = .ok (.aload_n 3, 1) := by decide +kernel
theorem d8_16 : decode prog_32_method_2_code 16 = .ok (.putfield 25, 3) := by decide +kernel
theorem d8_19 : decode prog_32_method_2_code 19 = .ok (.aload_n 0, 1) := by decide +kernel
theorem d8_20 : decode prog_32_method_2_code 20 = .ok (.iload 4, 2) := by decide +kernel
theorem d8_22 : decode prog_32_method_2_code 22 = .ok (.putfield 28, 3) := by decide +kernel
theorem d8_25 : decode prog_32_method_2_code 25 = .ok (.aload_n 0, 1) := by decide +kernel
theorem d8_26 : decode prog_32_method_2_code 26 = .ok (.aload 5, 2) := by decide +kernel
theorem d8_28 : decode prog_32_method_2_code 28 = .ok (.putfield 32, 3) := by decide +kernel
theorem d8_31 : decode prog_32_method_2_code 31 = .ok (.aload_n 0, 1) := by decide +kernel
theorem d8_32 : decode prog_32_method_2_code 32 = .ok (.aload 6, 2) := by decide +kernel
theorem d8_34 : decode prog_32_method_2_code 34 = .ok (.putfield 36, 3) := by decide +kernel
theorem d8_37 : decode prog_32_method_2_code 37 = .ok (.return_, 1) := by decide +kernel
theorem d9_0 : decode prog_32_method_8_code 0 = .ok (.aload_n 0, 1) := by decide +kernel
theorem d9_1 : decode prog_32_method_8_code 1 = .ok (.getfield 28, 3) := by decide +kernel
theorem d9_4 : decode prog_32_method_8_code 4 = .ok (.ifCond .le 10, 3) := by decide +kernel
theorem d9_7 : decode prog_32_method_8_code 7 = .ok (.aload_n 0, 1) := by decide +kernel
theorem d9_8 : decode prog_32_method_8_code 8 = .ok (.getfield 28, 3) := by decide +kernel
theorem d9_11 : decode prog_32_method_8_code 11 = .ok (.goto 5, 3) := by decide +kernel
theorem d9_14 : decode prog_32_method_8_code 14 = .ok (.bipush 7, 2) := by decide +kernel
theorem d9_16 : decode prog_32_method_8_code 16 = .ok (.ireturn, 1) := by decide +kernel
theorem d10_0 : decode prog_32_method_7_code 0 = .ok (.aload_n 0, 1) := by decide +kernel
theorem d10_1 : decode prog_32_method_7_code 1 = .ok (.getfield 28, 3) := by decide +kernel
theorem d10_4 : decode prog_32_method_7_code 4 = .ok (.ireturn, 1) := by decide +kernel
theorem ef_rm1 (m : MethodId) (x0 : Int32) : entryFrame m #[(.int x0)] 2 = mkF m 0 #[.val (.int x0), .unset] [] := by first | (simp [entryFrame, mkF, argsToLocals, Value.category]; done) | rfl
def Q_rm1 (Z : State) (p1 : Int32) (w_MERGE : Addr) (w_DIFF3 : Addr) (w_ZDIFF3 : Addr) (h0 : Heap) (n0 : Nat) (v : Option Value) (h : Heap) (L : List Loc) : Prop := v = some (.ref (own_st p1 w_MERGE w_DIFF3 w_ZDIFF3)) ∧ Fr n0 L ∧ h = h0
set_option maxRecDepth 65536 in
set_option maxHeartbeats 40000000 in
theorem rm1 (l : Launch) (Z : State) (a0 : Array Value) (hw : ∀ d ∈ own_tab, d.before a0 Z = true) (ws : List Jvm.Cond) (p1 : Int32) (w_MERGE : Addr) (w_DIFF3 : Addr) (w_ZDIFF3 : Addr) (h0 : Heap) (n0 : Nat) (Z0 : n0 ≤ h0.size) (P0 : Old Z n0 h0) (P1 : Sta Z Z.heap "com/example/mergewright/mergewright/merge/MergeOptions$ConflictStyle" "MERGE" "Lcom/example/mergewright/mergewright/merge/MergeOptions$ConflictStyle;" (.ref w_MERGE)) (P2 : Sta Z Z.heap "com/example/mergewright/mergewright/merge/MergeOptions$ConflictStyle" "DIFF3" "Lcom/example/mergewright/mergewright/merge/MergeOptions$ConflictStyle;" (.ref w_DIFF3)) (P3 : Sta Z Z.heap "com/example/mergewright/mergewright/merge/MergeOptions$ConflictStyle" "ZDIFF3" "Lcom/example/mergewright/mergewright/merge/MergeOptions$ConflictStyle;" (.ref w_ZDIFF3)) :
    MetFree l (⟨"com/example/mergewright/mergewright/merge/MergeOptionsWrittenMarkerSizePinLaw", "styleOf", "(I)Lcom/example/mergewright/mergewright/merge/MergeOptions$ConflictStyle;"⟩ : MethodName) (head1 (Jvm.Cond.code (⟨"com/example/mergewright/mergewright/merge/MergeOptionsWrittenMarkerSizePinLaw", "styleOf", "(I)Lcom/example/mergewright/mergewright/merge/MergeOptions$ConflictStyle;"⟩ : MethodName) method_2_code 2 (some (.object "com/example/mergewright/mergewright/merge/MergeOptions$ConflictStyle")) :: ws) ({ frames := 0, cells := 0, slots := 0, locals := 0 } : Room)) (fun a U => a = #[(.int p1)] ∧ Z.Warmed39 U.vm ∧ U.heap = h0) (fun _ _ _ _ _ => True) (fun _ U o U' => ∃ v L, o = .returned v ∧ Q_rm1 Z p1 w_MERGE w_DIFF3 w_ZDIFF3 h0 n0 v U'.heap L ∧ FrameEnd U o U' L ({ frames := 0, cells := 0, slots := 0, locals := 0 } : Room).cells ({ frames := 0, cells := 0, slots := 0, locals := 0 } : Room).slots) := by
  refine MetFree.of_bodySF (plainFor_of_name pn_0) hisR ?_
  intro p e s m args below meth c s₁ Bd hml0 hP hK
  obtain ⟨rfl, hZ, hh⟩ := hP
  have hx := Bd.exec
  have hby := Bd.bytes
  have hml : c.maxLocals = 2 := hml0
  have hown : s.vm.findClass "com/example/mergewright/mergewright/merge/MergeOptionsWrittenMarkerSizePinLaw" = some m.cls := findClass_of_methodNamed Bd.named
  have hnm := (name_of_methodNamed Bd.named Bd.method).1
  have X0 : Stand p l e ({ frames := 0, cells := 0, slots := 0, locals := 0 } : Room) s m #[(.int p1)] below meth c s₁ [] 0 0 := Stand.of_body Bd
  have e0 : s₁.heap = h0 := by rw [← hh, Bd.state]; rfl
  have N0 := Fr.nil n0
  have KR : Keep h0 h0 [] := Keep.refl h0 _
  have pre0 : ∀ t, Steps p.tables e below (s₁.setTop (mkF m 0 #[.val (.int p1), .unset] [])) t → Steps p.tables e below (s₁.setTop (entryFrame m #[(.int p1)] 2)) t := fun t k => castTop (ef_rm1 m (p1)) k
  have pre1 : ∀ t, Steps p.tables e below (s₁.setTop (mkF m 8 #[.val (.int p1), .val (.int ((p1 &&& (2147483647 : Int32)) % (3 : Int32)))] [(.int ((p1 &&& (2147483647 : Int32)) % (3 : Int32)))])) t → Steps p.tables e below (s₁.setTop (entryFrame m #[(.int p1)] 2)) t := fun t k => pre0 t (by
    show Steps p.tables e below (s₁.setTop (mkF m 0 #[.val (.int p1), .unset] [])) _
    refine XS.iloadN X0.here hx rfl (hb hby d1_0) rfl ?_
    show Steps p.tables e below (s₁.setTop (mkF m 1 #[.val (.int p1), .unset] [(.int p1)])) _
    refine X0.ldcInt hx hown (mvT hZ (kw4 hw)) (g := (mkF m 1 #[.val (.int p1), .unset] [(.int p1)])) rfl (hb hby d1_1) _ ?_
    show Steps p.tables e below (s₁.setTop (mkF m 3 #[.val (.int p1), .unset] [(.int (2147483647 : Int32)), (.int p1)])) _
    refine XS.iand X0.here hx rfl (hb hby d1_3) rfl ?_
    show Steps p.tables e below (s₁.setTop (mkF m 4 #[.val (.int p1), .unset] [(.int (p1 &&& (2147483647 : Int32)))])) _
    refine XS.iconst X0.here hx rfl (hb hby d1_4) ?_
    show Steps p.tables e below (s₁.setTop (mkF m 5 #[.val (.int p1), .unset] [(.int (3 : Int32)), (.int (p1 &&& (2147483647 : Int32)))])) _
    refine iremM X0 hx rfl (hb hby d1_5) rfl (by decide) ?_
    show Steps p.tables e below (s₁.setTop (mkF m 6 #[.val (.int p1), .unset] [(.int ((p1 &&& (2147483647 : Int32)) % (3 : Int32)))])) _
    refine XS.istoreN X0.here hx rfl (hb hby d1_6) rfl (l' := #[.val (.int p1), .val (.int ((p1 &&& (2147483647 : Int32)) % (3 : Int32)))]) rfl ?_
    show Steps p.tables e below (s₁.setTop (mkF m 7 #[.val (.int p1), .val (.int ((p1 &&& (2147483647 : Int32)) % (3 : Int32)))] [])) _
    refine XS.iloadN X0.here hx rfl (hb hby d1_7) rfl ?_
    show Steps p.tables e below (s₁.setTop (mkF m 8 #[.val (.int p1), .val (.int ((p1 &&& (2147483647 : Int32)) % (3 : Int32)))] [(.int ((p1 &&& (2147483647 : Int32)) % (3 : Int32)))])) _
    exact k)
  by_cases hc2 : ((p1 &&& (2147483647 : Int32)) % (3 : Int32)) = (0 : Int32)
  · skip
    obtain ⟨T3, X3, e3, st3⟩ := getS2 X0 hx hZ hown (host := "") (Or.inl (kw69 hw)) Via.refl e0 (Sta.ext P0.2 P1) (g := (mkF m 11 #[.val (.int p1), .val (.int ((p1 &&& (2147483647 : Int32)) % (3 : Int32)))] [])) rfl (hb hby d1_11)
    obtain ⟨fs, hr, hrun, hended, hW, hsame⟩ := X3.leave (v := some (.ref w_MERGE)) (fun h => by rw [Bd.returns] at h; cases h)
    refine ⟨_, _, pre1 _ ?_, hrun, hended, _, _, rfl, ?_, ⟨_, rfl⟩, hW, hsame.mono (by decide) (by decide)⟩
    · skip
      refine XS.ifNo X0.here hx rfl (hb hby d1_8) rfl ((if0 _ _).trans (teq hc2).2) ?_
      show Steps p.tables e below (s₁.setTop (mkF m 11 #[.val (.int p1), .val (.int ((p1 &&& (2147483647 : Int32)) % (3 : Int32)))] [])) _
      refine st3 _ ?_
      show Steps p.tables e below (T3.setTop (mkF m 14 #[.val (.int p1), .val (.int ((p1 &&& (2147483647 : Int32)) % (3 : Int32)))] [(.ref w_MERGE)])) _
      jvm_step X3.here [X3.here.top, hx, (hb hby d1_14), X3.method', Bd.returns, Value.isRef, FieldType.isReference]
      first | (intro acts; rw [hr _ acts rfl rfl rfl]) | rw [hr _ _ rfl rfl rfl]
      exact Steps.refl _
    · show Q_rm1 Z p1 w_MERGE w_DIFF3 w_ZDIFF3 h0 n0 _ T3.heap _
      rw [e3]
      exact ⟨(by unfold own_st; rw [if_pos hc2]), N0, rfl⟩
  · skip
    have pre5 : ∀ t, Steps p.tables e below (s₁.setTop (mkF m 17 #[.val (.int p1), .val (.int ((p1 &&& (2147483647 : Int32)) % (3 : Int32)))] [(.int (1 : Int32)), (.int ((p1 &&& (2147483647 : Int32)) % (3 : Int32)))])) t → Steps p.tables e below (s₁.setTop (entryFrame m #[(.int p1)] 2)) t := fun t k => pre1 t (by
      refine XS.ifYes X0.here hx rfl (pc0 := 8) (pc' := 15) rfl (hb hby d1_8) rfl ((if0 _ _).trans (feq hc2).2) (by decide) (by decide) ?_
      show Steps p.tables e below (s₁.setTop (mkF m 15 #[.val (.int p1), .val (.int ((p1 &&& (2147483647 : Int32)) % (3 : Int32)))] [])) _
      refine XS.iloadN X0.here hx rfl (hb hby d1_15) rfl ?_
      show Steps p.tables e below (s₁.setTop (mkF m 16 #[.val (.int p1), .val (.int ((p1 &&& (2147483647 : Int32)) % (3 : Int32)))] [(.int ((p1 &&& (2147483647 : Int32)) % (3 : Int32)))])) _
      refine XS.iconst X0.here hx rfl (hb hby d1_16) ?_
      show Steps p.tables e below (s₁.setTop (mkF m 17 #[.val (.int p1), .val (.int ((p1 &&& (2147483647 : Int32)) % (3 : Int32)))] [(.int (1 : Int32)), (.int ((p1 &&& (2147483647 : Int32)) % (3 : Int32)))])) _
      exact k)
    by_cases hc6 : ((p1 &&& (2147483647 : Int32)) % (3 : Int32)) = (1 : Int32)
    · skip
      obtain ⟨T7, X7, e7, st7⟩ := getS2 X0 hx hZ hown (host := "") (Or.inl (kw71 hw)) Via.refl e0 (Sta.ext P0.2 P2) (g := (mkF m 20 #[.val (.int p1), .val (.int ((p1 &&& (2147483647 : Int32)) % (3 : Int32)))] [])) rfl (hb hby d1_20)
      obtain ⟨fs, hr, hrun, hended, hW, hsame⟩ := X7.leave (v := some (.ref w_DIFF3)) (fun h => by rw [Bd.returns] at h; cases h)
      refine ⟨_, _, pre5 _ ?_, hrun, hended, _, _, rfl, ?_, ⟨_, rfl⟩, hW, hsame.mono (by decide) (by decide)⟩
      · skip
        refine XS.icmpNo X0.here hx rfl (hb hby d1_17) rfl (teq hc6).2 ?_
        show Steps p.tables e below (s₁.setTop (mkF m 20 #[.val (.int p1), .val (.int ((p1 &&& (2147483647 : Int32)) % (3 : Int32)))] [])) _
        refine st7 _ ?_
        show Steps p.tables e below (T7.setTop (mkF m 23 #[.val (.int p1), .val (.int ((p1 &&& (2147483647 : Int32)) % (3 : Int32)))] [(.ref w_DIFF3)])) _
        jvm_step X7.here [X7.here.top, hx, (hb hby d1_23), X7.method', Bd.returns, Value.isRef, FieldType.isReference]
        first | (intro acts; rw [hr _ acts rfl rfl rfl]) | rw [hr _ _ rfl rfl rfl]
        exact Steps.refl _
      · show Q_rm1 Z p1 w_MERGE w_DIFF3 w_ZDIFF3 h0 n0 _ T7.heap _
        rw [e7]
        exact ⟨(by unfold own_st; rw [if_neg hc2, if_pos hc6]), N0, rfl⟩
    · skip
      obtain ⟨T9, X9, e9, st9⟩ := getS2 X0 hx hZ hown (host := "") (Or.inl (kw5 hw)) Via.refl e0 (Sta.ext P0.2 P3) (g := (mkF m 24 #[.val (.int p1), .val (.int ((p1 &&& (2147483647 : Int32)) % (3 : Int32)))] [])) rfl (hb hby d1_24)
      obtain ⟨fs, hr, hrun, hended, hW, hsame⟩ := X9.leave (v := some (.ref w_ZDIFF3)) (fun h => by rw [Bd.returns] at h; cases h)
      refine ⟨_, _, pre5 _ ?_, hrun, hended, _, _, rfl, ?_, ⟨_, rfl⟩, hW, hsame.mono (by decide) (by decide)⟩
      · skip
        refine XS.icmpYes X0.here hx rfl (pc0 := 17) (pc' := 24) rfl (hb hby d1_17) rfl (feq hc6).2 (by decide) (by decide) ?_
        show Steps p.tables e below (s₁.setTop (mkF m 24 #[.val (.int p1), .val (.int ((p1 &&& (2147483647 : Int32)) % (3 : Int32)))] [])) _
        refine st9 _ ?_
        show Steps p.tables e below (T9.setTop (mkF m 27 #[.val (.int p1), .val (.int ((p1 &&& (2147483647 : Int32)) % (3 : Int32)))] [(.ref w_ZDIFF3)])) _
        jvm_step X9.here [X9.here.top, hx, (hb hby d1_27), X9.method', Bd.returns, Value.isRef, FieldType.isReference]
        first | (intro acts; rw [hr _ acts rfl rfl rfl]) | rw [hr _ _ rfl rfl rfl]
        exact Steps.refl _
      · show Q_rm1 Z p1 w_MERGE w_DIFF3 w_ZDIFF3 h0 n0 _ T9.heap _
        rw [e9]
        exact ⟨(by unfold own_st; rw [if_neg hc2, if_neg hc6]), N0, rfl⟩
theorem ef_rm3 (m : MethodId) (x0 : Int32) : entryFrame m #[(.int x0)] 1 = mkF m 0 #[.val (.int x0)] [] := by first | (simp [entryFrame, mkF, argsToLocals, Value.category]; done) | rfl
def Q_rm3 (Z : State) (p1 : Int32) (h0 : Heap) (n0 : Nat) (v : Option Value) (h : Heap) (L : List Loc) : Prop := v = some (.int (1 : Int32)) ∧ Fr n0 L ∧ h = h0
set_option maxRecDepth 65536 in
set_option maxHeartbeats 40000000 in
theorem rm3 (l : Launch) (Z : State) (a0 : Array Value) (hw : ∀ d ∈ own_tab, d.before a0 Z = true) (ws : List Jvm.Cond) (p1 : Int32) (h0 : Heap) (n0 : Nat) (Z0 : n0 ≤ h0.size) (hch : ¬ (255 : Int32) < p1) :
    MetFree l (⟨"java/lang/StringLatin1", "canEncode", "(C)Z"⟩ : MethodName) (head1 (Jvm.Cond.code (⟨"java/lang/StringLatin1", "canEncode", "(C)Z"⟩ : MethodName) jdk_43_method_3_code 1 (some .boolean) :: ws) ({ frames := 0, cells := 0, slots := 0, locals := 0 } : Room)) (fun a U => a = #[(.int p1)] ∧ Z.Warmed39 U.vm ∧ U.heap = h0) (fun _ _ _ _ _ => True) (fun _ U o U' => ∃ v L, o = .returned v ∧ Q_rm3 Z p1 h0 n0 v U'.heap L ∧ FrameEnd U o U' L ({ frames := 0, cells := 0, slots := 0, locals := 0 } : Room).cells ({ frames := 0, cells := 0, slots := 0, locals := 0 } : Room).slots) := by
  refine MetFree.of_bodySF (plainFor_of_name pn_1) hisR ?_
  intro p e s m args below meth c s₁ Bd hml0 hP hK
  obtain ⟨rfl, hZ, hh⟩ := hP
  have hx := Bd.exec
  have hby := Bd.bytes
  have hml : c.maxLocals = 1 := hml0
  have hown : s.vm.findClass "java/lang/StringLatin1" = some m.cls := findClass_of_methodNamed Bd.named
  have hnm := (name_of_methodNamed Bd.named Bd.method).1
  have X0 : Stand p l e ({ frames := 0, cells := 0, slots := 0, locals := 0 } : Room) s m #[(.int p1)] below meth c s₁ [] 0 0 := Stand.of_body Bd
  have e0 : s₁.heap = h0 := by rw [← hh, Bd.state]; rfl
  have N0 := Fr.nil n0
  have KR : Keep h0 h0 [] := Keep.refl h0 _
  have pre0 : ∀ t, Steps p.tables e below (s₁.setTop (mkF m 0 #[.val (.int p1)] [])) t → Steps p.tables e below (s₁.setTop (entryFrame m #[(.int p1)] 1)) t := fun t k => castTop (ef_rm3 m (p1)) k
  obtain ⟨fs, hr, hrun, hended, hW, hsame⟩ := X0.leave (v := some (.int (1 : Int32))) (fun h => by rw [Bd.returns] at h; cases h)
  refine ⟨_, _, pre0 _ ?_, hrun, hended, _, _, rfl, ?_, ⟨_, rfl⟩, hW, hsame.mono (by decide) (by decide)⟩
  · skip
    show Steps p.tables e below (s₁.setTop (mkF m 0 #[.val (.int p1)] [])) _
    refine XS.iloadN X0.here hx rfl (hb hby d3_0) rfl ?_
    show Steps p.tables e below (s₁.setTop (mkF m 1 #[.val (.int p1)] [(.int p1)])) _
    refine XS.sipush X0.here hx rfl (hb hby d3_1) ?_
    show Steps p.tables e below (s₁.setTop (mkF m 4 #[.val (.int p1)] [(.int (255 : Int32)), (.int p1)])) _
    refine XS.icmpNo X0.here hx rfl (hb hby d3_4) rfl (flt hch).2.2.1 ?_
    show Steps p.tables e below (s₁.setTop (mkF m 7 #[.val (.int p1)] [])) _
    refine XS.iconst X0.here hx rfl (hb hby d3_7) ?_
    show Steps p.tables e below (s₁.setTop (mkF m 8 #[.val (.int p1)] [(.int (1 : Int32))])) _
    refine XS.goto X0.here hx rfl (pc0 := 8) (pc' := 12) rfl (hb hby d3_8) (by decide) (by decide) ?_
    show Steps p.tables e below (s₁.setTop (mkF m 12 #[.val (.int p1)] [(.int (1 : Int32))])) _
    exact retN X0 hx (t := .boolean) Bd.returns (by simp) (hb hby d3_12) hr
  · show Q_rm3 Z p1 h0 n0 _ s₁.heap _
    rw [e0]
    exact ⟨rfl, N0, rfl⟩
theorem ef_rm4 (m : MethodId) (x0 : Int32) : entryFrame m #[(.int x0)] 1 = mkF m 0 #[.val (.int x0)] [] := by first | (simp [entryFrame, mkF, argsToLocals, Value.category]; done) | rfl
def Q_rm4 (Z : State) (p1 : Int32) (h0 : Heap) (n0 : Nat) (v : Option Value) (h : Heap) (L : List Loc) : Prop := ∃ bb : Addr, v = some (.ref bb) ∧ Fr n0 L ∧ Keep h0 h []
set_option maxRecDepth 65536 in
set_option maxHeartbeats 40000000 in
theorem rm4 (l : Launch) (Z : State) (a0 : Array Value) (hw : ∀ d ∈ own_tab, d.before a0 Z = true) (ws : List Jvm.Cond) (p1 : Int32) (h0 : Heap) (n0 : Nat) (Z0 : n0 ≤ h0.size)  :
    MetFree l (⟨"java/lang/StringLatin1", "toBytes", "(C)[B"⟩ : MethodName) (head1 (Jvm.Cond.code (⟨"java/lang/StringLatin1", "toBytes", "(C)[B"⟩ : MethodName) jdk_43_method_46_code 1 (some (.array .byte)) :: ws) ({ frames := 0, cells := 1, slots := 1, locals := 0 } : Room)) (fun a U => a = #[(.int p1)] ∧ Z.Warmed39 U.vm ∧ U.heap = h0) (fun _ _ _ _ _ => True) (fun _ U o U' => ∃ v L, o = .returned v ∧ Q_rm4 Z p1 h0 n0 v U'.heap L ∧ FrameEnd U o U' L ({ frames := 0, cells := 1, slots := 1, locals := 0 } : Room).cells ({ frames := 0, cells := 1, slots := 1, locals := 0 } : Room).slots) := by
  refine MetFree.of_bodySF (plainFor_of_name pn_1) hisR ?_
  intro p e s m args below meth c s₁ Bd hml0 hP hK
  obtain ⟨rfl, hZ, hh⟩ := hP
  have hx := Bd.exec
  have hby := Bd.bytes
  have hml : c.maxLocals = 1 := hml0
  have hown : s.vm.findClass "java/lang/StringLatin1" = some m.cls := findClass_of_methodNamed Bd.named
  have hnm := (name_of_methodNamed Bd.named Bd.method).1
  have X0 : Stand p l e ({ frames := 0, cells := 1, slots := 1, locals := 0 } : Room) s m #[(.int p1)] below meth c s₁ [] 0 0 := Stand.of_body Bd
  have e0 : s₁.heap = h0 := by rw [← hh, Bd.state]; rfl
  have N0 := Fr.nil n0
  have KR : Keep h0 h0 [] := Keep.refl h0 _
  have pre0 : ∀ t, Steps p.tables e below (s₁.setTop (mkF m 0 #[.val (.int p1)] [])) t → Steps p.tables e below (s₁.setTop (entryFrame m #[(.int p1)] 1)) t := fun t k => castTop (ef_rm4 m (p1)) k
  obtain ⟨T1, h1, k1, X1, e1, E1, A1, st1⟩ := newP X0 hx hZ (aty := .byte) (kw22 hw) e0 (g := (mkF m 1 #[.val (.int p1)] [(.int (1 : Int32))])) rfl (hb hby d4_1) rfl (by decide) (cap := 1) (by decide) (by decide) (by decide) (by decide)
  obtain ⟨b1, g1⟩ : ∃ z, z = h0.size := ⟨_, rfl⟩
  rw [← g1] at A1 st1
  have g_b1 : n0 ≤ b1 := Nat.le_trans Z0 (Nat.le_of_eq g1.symm)
  have sz_b1 : h0.size ≤ b1 := Nat.le_trans KR.1 (Nat.le_of_eq g1.symm)
  have Z1 : n0 ≤ h1.size := Nat.le_trans Z0 E1.1
  have K1 : Keep h0 h1 [] := KR.ext E1
  have V1 : Arv Z h1 b1 k1 .byte (1 : Int32) (List.replicate 1 (.int (0 : Int32))) (.int (0 : Int32)) := (Arv.new A1 (by decide)).pad (pad_rep [] (.int (0 : Int32)) 1)
  obtain ⟨cl2, Ar2, q2, S2, N2', H2, G2⟩ := id V1
  have hin2 : ¬ ((0 : Int32) < 0 ∨ cl2.slots.size ≤ ((0 : Int32)).toNatClampNeg) := inb_of S2 ⟨by decide, by decide⟩
  obtain ⟨T2, h2, X2, e2, W2, st2⟩ := stB X1 hx hZ e1 Ar2 (j := (0 : Int32)) hin2 (g := (mkF m 7 #[.val (.int p1)] [(.int (p1.toInt8.toInt32)), (.int (0 : Int32)), (.ref b1), (.ref b1)])) rfl rfl (hb hby d4_7)
  have Z2 : n0 ≤ h2.size := Nat.le_trans Z1 (Keep.of_wr W2).1
  have K2 : Keep h0 h2 [] := K1.wr W2 (Or.inr sz_b1)
  have N2 := Fr.snoc X2 N0 g_b1
  have V2 : Arv Z h2 b1 k1 .byte (1 : Int32) ((List.replicate 1 (.int (0 : Int32))).set 0 (.int (nar .byte (p1.toInt8.toInt32)))) (.int (0 : Int32)) := Arv.set Ar2 q2 S2 N2' H2 G2 (fits_nar_byte _) W2 0 rfl (Nat.le_of_ble_eq_true rfl)
  obtain ⟨fs, hr, hrun, hended, hW, hsame⟩ := X2.leave (v := some (.ref b1)) (fun h => by rw [Bd.returns] at h; cases h)
  refine ⟨_, _, pre0 _ ?_, hrun, hended, _, _, rfl, ?_, ⟨_, rfl⟩, hW, hsame.mono (by decide) (by decide)⟩
  · skip
    show Steps p.tables e below (s₁.setTop (mkF m 0 #[.val (.int p1)] [])) _
    refine XS.iconst X0.here hx rfl (hb hby d4_0) ?_
    show Steps p.tables e below (s₁.setTop (mkF m 1 #[.val (.int p1)] [(.int (1 : Int32))])) _
    refine st1 _ ?_
    show Steps p.tables e below (T1.setTop (mkF m 3 #[.val (.int p1)] [(.ref b1)])) _
    refine XS.dup X1.here hx rfl (hb hby d4_3) rfl rfl ?_
    show Steps p.tables e below (T1.setTop (mkF m 4 #[.val (.int p1)] [(.ref b1), (.ref b1)])) _
    refine XS.iconst X1.here hx rfl (hb hby d4_4) ?_
    show Steps p.tables e below (T1.setTop (mkF m 5 #[.val (.int p1)] [(.int (0 : Int32)), (.ref b1), (.ref b1)])) _
    refine XS.iloadN X1.here hx rfl (hb hby d4_5) rfl ?_
    show Steps p.tables e below (T1.setTop (mkF m 6 #[.val (.int p1)] [(.int p1), (.int (0 : Int32)), (.ref b1), (.ref b1)])) _
    refine XS.i2b X1.here hx rfl (hb hby d4_6) rfl ?_
    show Steps p.tables e below (T1.setTop (mkF m 7 #[.val (.int p1)] [(.int (p1.toInt8.toInt32)), (.int (0 : Int32)), (.ref b1), (.ref b1)])) _
    refine st2 _ ?_
    show Steps p.tables e below (T2.setTop (mkF m 8 #[.val (.int p1)] [(.ref b1)])) _
    jvm_step X2.here [X2.here.top, hx, (hb hby d4_8), X2.method', Bd.returns, Value.isRef, FieldType.isReference]
    first | (intro acts; rw [hr _ acts rfl rfl rfl]) | rw [hr _ _ rfl rfl rfl]
    exact Steps.refl _
  · show Q_rm4 Z p1 h0 n0 _ T2.heap _
    rw [e2]
    exact ⟨b1, rfl, N2, K2⟩
theorem ef_rm5 (m : MethodId) (x0 : Addr) (x1 : Addr) (x2 : Int32) : entryFrame m #[(.ref x0), (.ref x1), (.int x2)] 3 = mkF m 0 #[.val (.ref x0), .val (.ref x1), .val (.int x2)] [] := by first | (simp [entryFrame, mkF, argsToLocals, Value.category]; done) | rfl
def Q_rm5 (Z : State) (a1 : Addr) (x1 : Addr) (h0 : Heap) (n0 : Nat) (v : Option Value) (h : Heap) (L : List Loc) : Prop := v = none ∧ Fr n0 L ∧ Keep h0 h [a1]
set_option maxRecDepth 65536 in
set_option maxHeartbeats 40000000 in
theorem rm5 (l : Launch) (Z : State) (a0 : Array Value) (hw : ∀ d ∈ own_tab, d.before a0 Z = true) (ws : List Jvm.Cond) (a1 : Addr) (x1 : Addr) (h0 : Heap) (n0 : Nat) (Z0 : n0 ≤ h0.size) (P0 : Exa Z h0 a1 "java/lang/String") (P1 : n0 ≤ a1) (P2 : Fld Z h0 a1 "java/lang/String" "value" "[B" .null) (P3 : Fld Z h0 a1 "java/lang/String" "coder" "B" (.int (0 : Int32))) :
    MetFree l (⟨"java/lang/String", "<init>", "([BB)V"⟩ : MethodName) (head1 (Jvm.Cond.code (⟨"java/lang/String", "<init>", "([BB)V"⟩ : MethodName) jdk_42_method_151_code 3 none :: ws) ({ frames := 1, cells := 0, slots := 0, locals := 12 } : Room)) (fun a U => a = #[(.ref a1), (.ref x1), (.int (0 : Int32))] ∧ Z.Warmed39 U.vm ∧ U.heap = h0) (fun _ _ _ _ _ => True) (fun _ U o U' => ∃ v L, o = .returned v ∧ Q_rm5 Z a1 x1 h0 n0 v U'.heap L ∧ FrameEnd U o U' L ({ frames := 1, cells := 0, slots := 0, locals := 12 } : Room).cells ({ frames := 1, cells := 0, slots := 0, locals := 12 } : Room).slots) := by
  refine MetFree.of_bodySF (plainFor_of_name pn_2) hisR ?_
  intro p e s m args below meth c s₁ Bd hml0 hP hK
  obtain ⟨rfl, hZ, hh⟩ := hP
  have hx := Bd.exec
  have hby := Bd.bytes
  have hml : c.maxLocals = 3 := hml0
  have hown : s.vm.findClass "java/lang/String" = some m.cls := findClass_of_methodNamed Bd.named
  have hnm := (name_of_methodNamed Bd.named Bd.method).1
  have X0 : Stand p l e ({ frames := 1, cells := 0, slots := 0, locals := 12 } : Room) s m #[(.ref a1), (.ref x1), (.int (0 : Int32))] below meth c s₁ [] 0 0 := Stand.of_body Bd
  have e0 : s₁.heap = h0 := by rw [← hh, Bd.state]; rfl
  have N0 := Fr.nil n0
  have KR : Keep h0 h0 [a1] := Keep.refl h0 _
  have pre0 : ∀ t, Steps p.tables e below (s₁.setTop (mkF m 0 #[.val (.ref a1), .val (.ref x1), .val (.int (0 : Int32))] [])) t → Steps p.tables e below (s₁.setTop (entryFrame m #[(.ref a1), (.ref x1), (.int (0 : Int32))] 3)) t := fun t k => castTop (ef_rm5 m (a1) (x1) ((0 : Int32))) k
  obtain ⟨T1, X1, e1, st1⟩ := initO X0 hx hZ hown (kw27 hw) (kw28 hw) (kw29 hw) e0 (g := (mkF m 1 #[.val (.ref a1), .val (.ref x1), .val (.int (0 : Int32))] [(.ref a1)])) rfl (by rw [hml]; rfl) rfl (hb hby d5_1) (by decide) (W := 0) (by show 2 * 0 + _ ≤ _; exact Nat.le_of_eq rfl) (by decide)
  obtain ⟨T2, h2, X2, e2, W2, st2⟩ := putF X1 hx hZ hown (host := "") (Or.inl (kw30 hw)) Via.refl e1 P2 P0 (Or.inr ⟨(kw31 hw), rfl, hnm⟩) (kw18 hw) (ty := (.array .byte)) (by decide) rfl rfl (g := (mkF m 6 #[.val (.ref a1), .val (.ref x1), .val (.int (0 : Int32))] [(.ref x1), (.ref a1)])) rfl rfl (hb hby d5_6)
  have Z2 : n0 ≤ h2.size := Nat.le_trans Z0 (Keep.of_wr W2).1
  have K2 : Keep h0 h2 [a1] := KR.wr W2 (Or.inl (List.mem_of_getElem? (i := 0) rfl))
  have N2 := Fr.snoc X2 N0 P1
  have Fw2 : Fld Z h2 a1 "java/lang/String" "value" "[B" (.ref x1) := P2.same W2
  have f3 : Exa Z h2 a1 "java/lang/String" := (P0.wr W2)
  have f4 : Fld Z h2 a1 "java/lang/String" "coder" "B" (.int (0 : Int32)) := (P3.other W2 (Or.inr (slot_ne (Or.inr (kw33 hw)) (Or.inr (kw31 hw)) (by decide) (t := .byte) (t' := (.array .byte)) (by decide) (by decide))))
  obtain ⟨T5, h5, X5, e5, W5, st5⟩ := putFN X2 hx hZ hown (kw32 hw) Via.refl e2 f4 f3 (Or.inr ⟨(kw33 hw), rfl, hnm⟩) (kw18 hw) (ty := .byte) (v' := (.int (0 : Int32))) (by decide) rfl (by decide) (g := (mkF m 11 #[.val (.ref a1), .val (.ref x1), .val (.int (0 : Int32))] [(.int (0 : Int32)), (.ref a1)])) rfl rfl (hb hby d5_11)
  have Z5 : n0 ≤ h5.size := Nat.le_trans Z2 (Keep.of_wr W5).1
  have K5 : Keep h0 h5 [a1] := K2.wr W5 (Or.inl (List.mem_of_getElem? (i := 0) rfl))
  have N5 := Fr.snoc X5 N2 P1
  have Fw5 : Fld Z h5 a1 "java/lang/String" "coder" "B" (.int (0 : Int32)) := f4.same W5
  obtain ⟨fs, hr, hrun, hended, hW, hsame⟩ := X5.leave (v := none) (fun _ => rfl)
  refine ⟨_, _, pre0 _ ?_, hrun, hended, _, _, rfl, ?_, ⟨_, rfl⟩, hW, hsame.mono (by decide) (by decide)⟩
  · skip
    show Steps p.tables e below (s₁.setTop (mkF m 0 #[.val (.ref a1), .val (.ref x1), .val (.int (0 : Int32))] [])) _
    refine XS.aloadN X0.here hx rfl (hb hby d5_0) rfl rfl ?_
    show Steps p.tables e below (s₁.setTop (mkF m 1 #[.val (.ref a1), .val (.ref x1), .val (.int (0 : Int32))] [(.ref a1)])) _
    refine st1 _ ?_
    show Steps p.tables e below (T1.setTop (mkF m 4 #[.val (.ref a1), .val (.ref x1), .val (.int (0 : Int32))] [])) _
    refine XS.aloadN X1.here hx rfl (hb hby d5_4) rfl rfl ?_
    show Steps p.tables e below (T1.setTop (mkF m 5 #[.val (.ref a1), .val (.ref x1), .val (.int (0 : Int32))] [(.ref a1)])) _
    refine XS.aloadN X1.here hx rfl (hb hby d5_5) rfl rfl ?_
    show Steps p.tables e below (T1.setTop (mkF m 6 #[.val (.ref a1), .val (.ref x1), .val (.int (0 : Int32))] [(.ref x1), (.ref a1)])) _
    refine st2 _ ?_
    show Steps p.tables e below (T2.setTop (mkF m 9 #[.val (.ref a1), .val (.ref x1), .val (.int (0 : Int32))] [])) _
    refine XS.aloadN X2.here hx rfl (hb hby d5_9) rfl rfl ?_
    show Steps p.tables e below (T2.setTop (mkF m 10 #[.val (.ref a1), .val (.ref x1), .val (.int (0 : Int32))] [(.ref a1)])) _
    refine XS.iloadN X2.here hx rfl (hb hby d5_10) rfl ?_
    show Steps p.tables e below (T2.setTop (mkF m 11 #[.val (.ref a1), .val (.ref x1), .val (.int (0 : Int32))] [(.int (0 : Int32)), (.ref a1)])) _
    refine st5 _ ?_
    show Steps p.tables e below (T5.setTop (mkF m 14 #[.val (.ref a1), .val (.ref x1), .val (.int (0 : Int32))] [])) _
    exact X5.returnOut hx Bd.returns (hb hby d5_14) hr
  · show Q_rm5 Z a1 x1 h0 n0 _ T5.heap _
    rw [e5]
    exact ⟨rfl, N5, K5⟩
theorem ef_rm2 (m : MethodId) (x0 : Int32) : entryFrame m #[(.int x0)] 1 = mkF m 0 #[.val (.int x0)] [] := by first | (simp [entryFrame, mkF, argsToLocals, Value.category]; done) | rfl
def Q_rm2 (Z : State) (p1 : Int32) (vcs : Int32) (h0 : Heap) (n0 : Nat) (v : Option Value) (h : Heap) (L : List Loc) : Prop := ∃ bb : Addr, v = some (.ref bb) ∧ Fr n0 L ∧ Keep h0 h []
set_option maxRecDepth 65536 in
set_option maxHeartbeats 40000000 in
theorem rm2 (l : Launch) (Z : State) (a0 : Array Value) (hw : ∀ d ∈ own_tab, d.before a0 Z = true) (ws : List Jvm.Cond) (p1 : Int32) (vcs : Int32) (h0 : Heap) (n0 : Nat) (Z0 : n0 ≤ h0.size) (P0 : Old Z n0 h0) (P1 : Sta Z Z.heap "java/lang/String" "COMPACT_STRINGS" "Z" (.int vcs)) (hvcs : vcs ≠ (0 : Int32)) (hch : ¬ (255 : Int32) < p1) :
    MetFree l (⟨"java/lang/String", "valueOf", "(C)Ljava/lang/String;"⟩ : MethodName) (head1 (Jvm.Cond.code (⟨"java/lang/String", "valueOf", "(C)Ljava/lang/String;"⟩ : MethodName) jdk_42_method_139_code 1 (some (.object "java/lang/String")) :: ws) ({ frames := 2, cells := 2, slots := 5, locals := 27 } : Room)) (fun a U => a = #[(.int p1)] ∧ Z.Warmed39 U.vm ∧ U.heap = h0) (fun _ _ _ _ _ => True) (fun _ U o U' => ∃ v L, o = .returned v ∧ Q_rm2 Z p1 vcs h0 n0 v U'.heap L ∧ FrameEnd U o U' L ({ frames := 2, cells := 2, slots := 5, locals := 27 } : Room).cells ({ frames := 2, cells := 2, slots := 5, locals := 27 } : Room).slots) := by
  refine MetFree.of_bodySF (plainFor_of_name pn_2) hisR ?_
  intro p e s m args below meth c s₁ Bd hml0 hP hK
  obtain ⟨rfl, hZ, hh⟩ := hP
  have hx := Bd.exec
  have hby := Bd.bytes
  have hml : c.maxLocals = 1 := hml0
  have hown : s.vm.findClass "java/lang/String" = some m.cls := findClass_of_methodNamed Bd.named
  have hnm := (name_of_methodNamed Bd.named Bd.method).1
  have X0 : Stand p l e ({ frames := 2, cells := 2, slots := 5, locals := 27 } : Room) s m #[(.int p1)] below meth c s₁ [] 0 0 := Stand.of_body Bd
  have e0 : s₁.heap = h0 := by rw [← hh, Bd.state]; rfl
  have N0 := Fr.nil n0
  have KR : Keep h0 h0 [] := Keep.refl h0 _
  have pre0 : ∀ t, Steps p.tables e below (s₁.setTop (mkF m 0 #[.val (.int p1)] [])) t → Steps p.tables e below (s₁.setTop (entryFrame m #[(.int p1)] 1)) t := fun t k => castTop (ef_rm2 m (p1)) k
  obtain ⟨T1, X1, e1, st1⟩ := getS2 X0 hx hZ hown (host := "") (Or.inl (kw12 hw)) Via.refl e0 (Sta.ext P0.2 P1) (g := (mkF m 0 #[.val (.int p1)] [])) rfl (hb hby d2_0)
  obtain ⟨_, _, ⟨T2, L2, k2, n2⟩, -, X2, ⟨Lc2, hQ2, l2, y2, z2⟩, st2⟩ := Jvm.LawKit.callS X1 hx (y := (⟨"java/lang/StringLatin1", "canEncode", "(C)Z"⟩ : MethodName)) hown (mvT hZ (kw13 hw)) (mvT hZ (kw14 hw)) (mvT hZ (kw15 hw)) (mvT hZ (kw16 hw)) (by decide) (backOf (W := 0) (rm3 l Z a0 hw [] p1 h0 n0 Z0 hch) hZ (kw16 hw) (kw15 hw) (by decide) (by decide)) (g := (mkF m 7 #[.val (.int p1)] [(.int p1)])) rfl (by rw [hml]; rfl) (argsL := [(.int p1)]) (rest := []) (lenOf pd_0 rfl) rfl (by show 2 * 0 + _ ≤ _; exact Nat.le_of_eq rfl) (hb hby d2_7) (fun _ _ => ⟨rfl, e1, (by decide : 0 + 0 ≤ _), (by decide : 0 + 0 ≤ _)⟩)
  dsimp only [Pt.U, Pt.locs, Pt.cells, Pt.slots] at X2 l2 y2 z2 st2 hQ2
  subst l2 y2 z2
  obtain ⟨rfl, N2q, e2⟩ := hQ2
  have N2 := Fr.app N0 N2q
  obtain ⟨T3, h3, X3, e3, E3, A3, D3, -, st3⟩ := newO X2 hx hZ hown (kw17 hw) (kw18 hw) (kw10 hw) e2 (g := (mkF m 13 #[.val (.int p1)] [])) rfl (hb hby d2_13) (by decide) (by decide)
  obtain ⟨b3, g3⟩ : ∃ z, z = h0.size := ⟨_, rfl⟩
  rw [← g3] at A3 D3 st3
  have g_b3 : n0 ≤ b3 := Nat.le_trans Z0 (Nat.le_of_eq g3.symm)
  have sz_b3 : h0.size ≤ b3 := Nat.le_trans KR.1 (Nat.le_of_eq g3.symm)
  have Z3 : n0 ≤ h3.size := Nat.le_trans Z0 E3.1
  have K3 : Keep h0 h3 [] := KR.ext E3
  have F3_value : Fld Z h3 b3 "java/lang/String" "value" "[B" .null := D3 (Or.inr (kw31 hw)) (ty := (.array .byte)) (by decide)
  have F3_coder : Fld Z h3 b3 "java/lang/String" "coder" "B" (.int (0 : Int32)) := D3 (Or.inr (kw33 hw)) (ty := .byte) (by decide)
  obtain ⟨_, _, ⟨T4, L4, k4, n4⟩, -, X4, ⟨Lc4, hQ4, l4, y4, z4⟩, st4⟩ := Jvm.LawKit.callS X3 hx (y := (⟨"java/lang/StringLatin1", "toBytes", "(C)[B"⟩ : MethodName)) hown (mvT hZ (kw19 hw)) (mvT hZ (kw20 hw)) (mvT hZ (kw15 hw)) (mvT hZ (kw21 hw)) (by decide) (backOf (W := 2) (rm4 l Z a0 hw [] p1 h3 n0 Z3 ) hZ (kw21 hw) (kw15 hw) (by decide) (by decide)) (g := (mkF m 18 #[.val (.int p1)] [(.int p1), (.ref b3), (.ref b3)])) rfl (by rw [hml]; rfl) (argsL := [(.int p1)]) (rest := [(.ref b3), (.ref b3)]) (lenOf pd_1 rfl) rfl (by show 2 * 0 + _ ≤ _; exact Nat.le_of_eq rfl) (hb hby d2_18) (fun _ _ => ⟨rfl, e3, (by decide : 1 + 1 ≤ _), (by decide : 4 + 1 ≤ _)⟩)
  dsimp only [Pt.U, Pt.locs, Pt.cells, Pt.slots] at X4 l4 y4 z4 st4 hQ4
  subst l4 y4 z4
  obtain ⟨bb_4, rfl, N4q, Kq4⟩ := hQ4
  have N4 := Fr.app N2 N4q
  have Z4 : n0 ≤ T4.heap.size := Nat.le_trans Z3 Kq4.1
  have K4 : Keep h0 T4.heap [] := K3.trans Kq4 all0
  have f6 : Exa Z T4.heap b3 "java/lang/String" := (A3.keep Kq4)
  have f7 : Fld Z T4.heap b3 "java/lang/String" "value" "[B" .null := (F3_value.keep Kq4 nin0)
  have f8 : Fld Z T4.heap b3 "java/lang/String" "coder" "B" (.int (0 : Int32)) := (F3_coder.keep Kq4 nin0)
  obtain ⟨_, _, ⟨T5, L5, k5, n5⟩, -, X5, ⟨Lc5, hQ5, l5, y5, z5⟩, st5⟩ := X4.specialBack hx (y := (⟨"java/lang/String", "<init>", "([BB)V"⟩ : MethodName)) rfl hown (mvT hZ (kw23 hw)) (mvT hZ (kw24 hw)) (mvT hZ (kw26 hw)) (by decide) (backOf (W := 1) (rm5 l Z a0 hw [] b3 bb_4 T4.heap n0 Z4 f6 g_b3 f7 f8) hZ (kw26 hw) (kw10 hw) (by decide) (by decide)) (g := (mkF m 22 #[.val (.int p1)] [(.int (0 : Int32)), (.ref bb_4), (.ref b3), (.ref b3)])) rfl (by rw [hml]; rfl) (Steps.refl _) (a := b3) (argsL := [(.ref bb_4), (.int (0 : Int32))]) (rest := [(.ref b3)]) (lenOf pd_2 rfl) rfl (by show 2 * 0 + _ ≤ _; exact Nat.le_of_eq rfl) (hb hby d2_22) (fun _ _ => ⟨rfl, rfl, (by decide : 2 + 0 ≤ _), (by decide : 5 + 0 ≤ _)⟩)
  dsimp only [Pt.U, Pt.locs, Pt.cells, Pt.slots] at X5 l5 y5 z5 st5 hQ5
  subst l5 y5 z5
  obtain ⟨rfl, N5q, Kq5⟩ := hQ5
  have N5 := Fr.app N4 N5q
  have Z5 : n0 ≤ T5.heap.size := Nat.le_trans Z4 Kq5.1
  have K5 : Keep h0 T5.heap [] := K4.trans Kq5 (allS (Or.inr sz_b3) all0)
  obtain ⟨fs, hr, hrun, hended, hW, hsame⟩ := X5.leave (v := some (.ref b3)) (fun h => by rw [Bd.returns] at h; cases h)
  refine ⟨_, _, pre0 _ ?_, hrun, hended, _, _, rfl, ?_, ⟨_, rfl⟩, hW, hsame.mono (by decide) (by decide)⟩
  · skip
    show Steps p.tables e below (s₁.setTop (mkF m 0 #[.val (.int p1)] [])) _
    refine st1 _ ?_
    show Steps p.tables e below (T1.setTop (mkF m 3 #[.val (.int p1)] [(.int vcs)])) _
    refine XS.ifNo X1.here hx rfl (hb hby d2_3) rfl ((if0 _ _).trans (feq hvcs).1) ?_
    show Steps p.tables e below (T1.setTop (mkF m 6 #[.val (.int p1)] [])) _
    refine XS.iloadN X1.here hx rfl (hb hby d2_6) rfl ?_
    show Steps p.tables e below (T1.setTop (mkF m 7 #[.val (.int p1)] [(.int p1)])) _
    refine st2 _ ?_
    show Steps p.tables e below (T2.setTop (mkF m 10 #[.val (.int p1)] [(.int (1 : Int32))])) _
    refine XS.ifNo X2.here hx rfl (hb hby d2_10) rfl ((if0 _ _).trans (feq (by decide)).1) ?_
    show Steps p.tables e below (T2.setTop (mkF m 13 #[.val (.int p1)] [])) _
    refine st3 _ ?_
    show Steps p.tables e below (T3.setTop (mkF m 16 #[.val (.int p1)] [(.ref b3)])) _
    refine XS.dup X3.here hx rfl (hb hby d2_16) rfl rfl ?_
    show Steps p.tables e below (T3.setTop (mkF m 17 #[.val (.int p1)] [(.ref b3), (.ref b3)])) _
    refine XS.iloadN X3.here hx rfl (hb hby d2_17) rfl ?_
    show Steps p.tables e below (T3.setTop (mkF m 18 #[.val (.int p1)] [(.int p1), (.ref b3), (.ref b3)])) _
    refine st4 _ ?_
    show Steps p.tables e below (T4.setTop (mkF m 21 #[.val (.int p1)] [(.ref bb_4), (.ref b3), (.ref b3)])) _
    refine XS.iconst X4.here hx rfl (hb hby d2_21) ?_
    show Steps p.tables e below (T4.setTop (mkF m 22 #[.val (.int p1)] [(.int (0 : Int32)), (.ref bb_4), (.ref b3), (.ref b3)])) _
    refine st5.trans ?_
    show Steps p.tables e below (T5.setTop (mkF m 25 #[.val (.int p1)] [(.ref b3)])) _
    jvm_step X5.here [X5.here.top, hx, (hb hby d2_25), X5.method', Bd.returns, Value.isRef, FieldType.isReference]
    first | (intro acts; rw [hr _ acts rfl rfl rfl]) | rw [hr _ _ rfl rfl rfl]
    exact Steps.refl _
  · show Q_rm2 Z p1 vcs h0 n0 _ T5.heap _
    exact ⟨b3, rfl, N5, K5⟩
theorem ef_rm8 (m : MethodId) (x0 : Addr) (x1 : Addr) (x2 : Addr) (x3 : Addr) (x4 : Int32) (x5 : Addr) (x6 : Addr) : entryFrame m #[(.ref x0), (.ref x1), (.ref x2), (.ref x3), (.int x4), (.ref x5), (.ref x6)] 7 = mkF m 0 #[.val (.ref x0), .val (.ref x1), .val (.ref x2), .val (.ref x3), .val (.int x4), .val (.ref x5), .val (.ref x6)] [] := by first | (simp [entryFrame, mkF, argsToLocals, Value.category]; done) | rfl
def Q_rm8 (Z : State) (a1 : Addr) (x1 : Addr) (x2 : Addr) (x3 : Addr) (p4 : Int32) (x5 : Addr) (x6 : Addr) (h0 : Heap) (n0 : Nat) (v : Option Value) (h : Heap) (L : List Loc) : Prop := v = none ∧ Fr n0 L ∧ Keep h0 h [a1] ∧ Fld Z h a1 "com/example/mergewright/mergewright/merge/MergeOptions" "markerSize" "I" (.int p4)
set_option maxRecDepth 65536 in
set_option maxHeartbeats 40000000 in
theorem rm8 (l : Launch) (Z : State) (a0 : Array Value) (hw : ∀ d ∈ own_tab, d.before a0 Z = true) (ws : List Jvm.Cond) (a1 : Addr) (x1 : Addr) (x2 : Addr) (x3 : Addr) (p4 : Int32) (x5 : Addr) (x6 : Addr) (h0 : Heap) (n0 : Nat) (Z0 : n0 ≤ h0.size) (P0 : Exa Z h0 a1 "com/example/mergewright/mergewright/merge/MergeOptions") (P1 : n0 ≤ a1) (P2 : Fld Z h0 a1 "com/example/mergewright/mergewright/merge/MergeOptions" "currentLabel" "Ljava/lang/String;" .null) (P3 : Fld Z h0 a1 "com/example/mergewright/mergewright/merge/MergeOptions" "baseLabel" "Ljava/lang/String;" .null) (P4 : Fld Z h0 a1 "com/example/mergewright/mergewright/merge/MergeOptions" "otherLabel" "Ljava/lang/String;" .null) (P5 : Fld Z h0 a1 "com/example/mergewright/mergewright/merge/MergeOptions" "markerSize" "I" (.int (0 : Int32))) (P6 : Fld Z h0 a1 "com/example/mergewright/mergewright/merge/MergeOptions" "style" "Lcom/example/mergewright/mergewright/merge/MergeOptions$ConflictStyle;" .null) (P7 : Fld Z h0 a1 "com/example/mergewright/mergewright/merge/MergeOptions" "favor" "Lcom/example/mergewright/mergewright/merge/MergeOptions$Favor;" .null) :
    MetFree l (⟨"com/example/mergewright/mergewright/merge/MergeOptions", "<init>", "(Ljava/lang/String;Ljava/lang/String;Ljava/lang/String;ILcom/example/mergewright/mergewright/merge/MergeOptions$ConflictStyle;Lcom/example/mergewright/mergewright/merge/MergeOptions$Favor;)V"⟩ : MethodName) (head1 (Jvm.Cond.code (⟨"com/example/mergewright/mergewright/merge/MergeOptions", "<init>", "(Ljava/lang/String;Ljava/lang/String;Ljava/lang/String;ILcom/example/mergewright/mergewright/merge/MergeOptions$ConflictStyle;Lcom/example/mergewright/mergewright/merge/MergeOptions$Favor;)V"⟩ : MethodName) prog_32_method_2_code 7 none :: ws) ({ frames := 1, cells := 0, slots := 0, locals := 12 } : Room)) (fun a U => a = #[(.ref a1), (.ref x1), (.ref x2), (.ref x3), (.int p4), (.ref x5), (.ref x6)] ∧ Z.Warmed39 U.vm ∧ U.heap = h0) (fun _ _ _ _ _ => True) (fun _ U o U' => ∃ v L, o = .returned v ∧ Q_rm8 Z a1 x1 x2 x3 p4 x5 x6 h0 n0 v U'.heap L ∧ FrameEnd U o U' L ({ frames := 1, cells := 0, slots := 0, locals := 12 } : Room).cells ({ frames := 1, cells := 0, slots := 0, locals := 12 } : Room).slots) := by
  refine MetFree.of_bodySF (plainFor_of_name pn_3) hisR ?_
  intro p e s m args below meth c s₁ Bd hml0 hP hK
  obtain ⟨rfl, hZ, hh⟩ := hP
  have hx := Bd.exec
  have hby := Bd.bytes
  have hml : c.maxLocals = 7 := hml0
  have hown : s.vm.findClass "com/example/mergewright/mergewright/merge/MergeOptions" = some m.cls := findClass_of_methodNamed Bd.named
  have hnm := (name_of_methodNamed Bd.named Bd.method).1
  have X0 : Stand p l e ({ frames := 1, cells := 0, slots := 0, locals := 12 } : Room) s m #[(.ref a1), (.ref x1), (.ref x2), (.ref x3), (.int p4), (.ref x5), (.ref x6)] below meth c s₁ [] 0 0 := Stand.of_body Bd
  have e0 : s₁.heap = h0 := by rw [← hh, Bd.state]; rfl
  have N0 := Fr.nil n0
  have KR : Keep h0 h0 [a1] := Keep.refl h0 _
  have pre0 : ∀ t, Steps p.tables e below (s₁.setTop (mkF m 0 #[.val (.ref a1), .val (.ref x1), .val (.ref x2), .val (.ref x3), .val (.int p4), .val (.ref x5), .val (.ref x6)] [])) t → Steps p.tables e below (s₁.setTop (entryFrame m #[(.ref a1), (.ref x1), (.ref x2), (.ref x3), (.int p4), (.ref x5), (.ref x6)] 7)) t := fun t k => castTop (ef_rm8 m (a1) (x1) (x2) (x3) (p4) (x5) (x6)) k
  obtain ⟨T1, X1, e1, st1⟩ := initO X0 hx hZ hown (kw46 hw) (kw28 hw) (kw29 hw) e0 (g := (mkF m 1 #[.val (.ref a1), .val (.ref x1), .val (.ref x2), .val (.ref x3), .val (.int p4), .val (.ref x5), .val (.ref x6)] [(.ref a1)])) rfl (by rw [hml]; rfl) rfl (hb hby d8_1) (by decide) (W := 0) (by show 2 * 0 + _ ≤ _; exact Nat.le_of_eq rfl) (by decide)
  obtain ⟨T2, h2, X2, e2, W2, st2⟩ := putF X1 hx hZ hown (host := "") (Or.inl (kw47 hw)) Via.refl e1 P2 P0 (Or.inr ⟨(kw48 hw), rfl, hnm⟩) (kw35 hw) (ty := (.object "java/lang/String")) (by decide) rfl rfl (g := (mkF m 6 #[.val (.ref a1), .val (.ref x1), .val (.ref x2), .val (.ref x3), .val (.int p4), .val (.ref x5), .val (.ref x6)] [(.ref x1), (.ref a1)])) rfl rfl (hb hby d8_6)
  have Z2 : n0 ≤ h2.size := Nat.le_trans Z0 (Keep.of_wr W2).1
  have K2 : Keep h0 h2 [a1] := KR.wr W2 (Or.inl (List.mem_of_getElem? (i := 0) rfl))
  have N2 := Fr.snoc X2 N0 P1
  have Fw2 : Fld Z h2 a1 "com/example/mergewright/mergewright/merge/MergeOptions" "currentLabel" "Ljava/lang/String;" (.ref x1) := P2.same W2
  have f3 : Exa Z h2 a1 "com/example/mergewright/mergewright/merge/MergeOptions" := (P0.wr W2)
  have f4 : Fld Z h2 a1 "com/example/mergewright/mergewright/merge/MergeOptions" "baseLabel" "Ljava/lang/String;" .null := (P3.other W2 (Or.inr (slot_ne (Or.inr (kw50 hw)) (Or.inr (kw48 hw)) (by decide) (t := (.object "java/lang/String")) (t' := (.object "java/lang/String")) (by decide) (by decide))))
  obtain ⟨T5, h5, X5, e5, W5, st5⟩ := putF X2 hx hZ hown (host := "") (Or.inl (kw49 hw)) Via.refl e2 f4 f3 (Or.inr ⟨(kw50 hw), rfl, hnm⟩) (kw35 hw) (ty := (.object "java/lang/String")) (by decide) rfl rfl (g := (mkF m 11 #[.val (.ref a1), .val (.ref x1), .val (.ref x2), .val (.ref x3), .val (.int p4), .val (.ref x5), .val (.ref x6)] [(.ref x2), (.ref a1)])) rfl rfl (hb hby d8_11)
  have Z5 : n0 ≤ h5.size := Nat.le_trans Z2 (Keep.of_wr W5).1
  have K5 : Keep h0 h5 [a1] := K2.wr W5 (Or.inl (List.mem_of_getElem? (i := 0) rfl))
  have N5 := Fr.snoc X5 N2 P1
  have Fw5 : Fld Z h5 a1 "com/example/mergewright/mergewright/merge/MergeOptions" "baseLabel" "Ljava/lang/String;" (.ref x2) := f4.same W5
  have f6 : Exa Z h5 a1 "com/example/mergewright/mergewright/merge/MergeOptions" := (f3.wr W5)
  have f7 : Fld Z h5 a1 "com/example/mergewright/mergewright/merge/MergeOptions" "otherLabel" "Ljava/lang/String;" .null := ((P4.other W2 (Or.inr (slot_ne (Or.inr (kw52 hw)) (Or.inr (kw48 hw)) (by decide) (t := (.object "java/lang/String")) (t' := (.object "java/lang/String")) (by decide) (by decide)))).other W5 (Or.inr (slot_ne (Or.inr (kw52 hw)) (Or.inr (kw50 hw)) (by decide) (t := (.object "java/lang/String")) (t' := (.object "java/lang/String")) (by decide) (by decide))))
  obtain ⟨T8, h8, X8, e8, W8, st8⟩ := putF X5 hx hZ hown (host := "") (Or.inl (kw51 hw)) Via.refl e5 f7 f6 (Or.inr ⟨(kw52 hw), rfl, hnm⟩) (kw35 hw) (ty := (.object "java/lang/String")) (by decide) rfl rfl (g := (mkF m 16 #[.val (.ref a1), .val (.ref x1), .val (.ref x2), .val (.ref x3), .val (.int p4), .val (.ref x5), .val (.ref x6)] [(.ref x3), (.ref a1)])) rfl rfl (hb hby d8_16)
  have Z8 : n0 ≤ h8.size := Nat.le_trans Z5 (Keep.of_wr W8).1
  have K8 : Keep h0 h8 [a1] := K5.wr W8 (Or.inl (List.mem_of_getElem? (i := 0) rfl))
  have N8 := Fr.snoc X8 N5 P1
  have Fw8 : Fld Z h8 a1 "com/example/mergewright/mergewright/merge/MergeOptions" "otherLabel" "Ljava/lang/String;" (.ref x3) := f7.same W8
  have f9 : Exa Z h8 a1 "com/example/mergewright/mergewright/merge/MergeOptions" := (f6.wr W8)
  have f10 : Fld Z h8 a1 "com/example/mergewright/mergewright/merge/MergeOptions" "markerSize" "I" (.int (0 : Int32)) := (((P5.other W2 (Or.inr (slot_ne (Or.inr (kw54 hw)) (Or.inr (kw48 hw)) (by decide) (t := .int) (t' := (.object "java/lang/String")) (by decide) (by decide)))).other W5 (Or.inr (slot_ne (Or.inr (kw54 hw)) (Or.inr (kw50 hw)) (by decide) (t := .int) (t' := (.object "java/lang/String")) (by decide) (by decide)))).other W8 (Or.inr (slot_ne (Or.inr (kw54 hw)) (Or.inr (kw52 hw)) (by decide) (t := .int) (t' := (.object "java/lang/String")) (by decide) (by decide))))
  obtain ⟨T11, h11, X11, e11, W11, st11⟩ := putF X8 hx hZ hown (host := "") (Or.inl (kw53 hw)) Via.refl e8 f10 f9 (Or.inr ⟨(kw54 hw), rfl, hnm⟩) (kw35 hw) (ty := .int) (by decide) rfl rfl (g := (mkF m 22 #[.val (.ref a1), .val (.ref x1), .val (.ref x2), .val (.ref x3), .val (.int p4), .val (.ref x5), .val (.ref x6)] [(.int p4), (.ref a1)])) rfl rfl (hb hby d8_22)
  have Z11 : n0 ≤ h11.size := Nat.le_trans Z8 (Keep.of_wr W11).1
  have K11 : Keep h0 h11 [a1] := K8.wr W11 (Or.inl (List.mem_of_getElem? (i := 0) rfl))
  have N11 := Fr.snoc X11 N8 P1
  have Fw11 : Fld Z h11 a1 "com/example/mergewright/mergewright/merge/MergeOptions" "markerSize" "I" (.int p4) := f10.same W11
  have f12 : Exa Z h11 a1 "com/example/mergewright/mergewright/merge/MergeOptions" := (f9.wr W11)
  have f13 : Fld Z h11 a1 "com/example/mergewright/mergewright/merge/MergeOptions" "style" "Lcom/example/mergewright/mergewright/merge/MergeOptions$ConflictStyle;" .null := ((((P6.other W2 (Or.inr (slot_ne (Or.inr (kw56 hw)) (Or.inr (kw48 hw)) (by decide) (t := (.object "com/example/mergewright/mergewright/merge/MergeOptions$ConflictStyle")) (t' := (.object "java/lang/String")) (by decide) (by decide)))).other W5 (Or.inr (slot_ne (Or.inr (kw56 hw)) (Or.inr (kw50 hw)) (by decide) (t := (.object "com/example/mergewright/mergewright/merge/MergeOptions$ConflictStyle")) (t' := (.object "java/lang/String")) (by decide) (by decide)))).other W8 (Or.inr (slot_ne (Or.inr (kw56 hw)) (Or.inr (kw52 hw)) (by decide) (t := (.object "com/example/mergewright/mergewright/merge/MergeOptions$ConflictStyle")) (t' := (.object "java/lang/String")) (by decide) (by decide)))).other W11 (Or.inr (slot_ne (Or.inr (kw56 hw)) (Or.inr (kw54 hw)) (by decide) (t := (.object "com/example/mergewright/mergewright/merge/MergeOptions$ConflictStyle")) (t' := .int) (by decide) (by decide))))
  obtain ⟨T14, h14, X14, e14, W14, st14⟩ := putF X11 hx hZ hown (host := "") (Or.inl (kw55 hw)) Via.refl e11 f13 f12 (Or.inr ⟨(kw56 hw), rfl, hnm⟩) (kw35 hw) (ty := (.object "com/example/mergewright/mergewright/merge/MergeOptions$ConflictStyle")) (by decide) rfl rfl (g := (mkF m 28 #[.val (.ref a1), .val (.ref x1), .val (.ref x2), .val (.ref x3), .val (.int p4), .val (.ref x5), .val (.ref x6)] [(.ref x5), (.ref a1)])) rfl rfl (hb hby d8_28)
  have Z14 : n0 ≤ h14.size := Nat.le_trans Z11 (Keep.of_wr W14).1
  have K14 : Keep h0 h14 [a1] := K11.wr W14 (Or.inl (List.mem_of_getElem? (i := 0) rfl))
  have N14 := Fr.snoc X14 N11 P1
  have Fw14 : Fld Z h14 a1 "com/example/mergewright/mergewright/merge/MergeOptions" "style" "Lcom/example/mergewright/mergewright/merge/MergeOptions$ConflictStyle;" (.ref x5) := f13.same W14
  have f15 : Exa Z h14 a1 "com/example/mergewright/mergewright/merge/MergeOptions" := (f12.wr W14)
  have f16 : Fld Z h14 a1 "com/example/mergewright/mergewright/merge/MergeOptions" "favor" "Lcom/example/mergewright/mergewright/merge/MergeOptions$Favor;" .null := (((((P7.other W2 (Or.inr (slot_ne (Or.inr (kw58 hw)) (Or.inr (kw48 hw)) (by decide) (t := (.object "com/example/mergewright/mergewright/merge/MergeOptions$Favor")) (t' := (.object "java/lang/String")) (by decide) (by decide)))).other W5 (Or.inr (slot_ne (Or.inr (kw58 hw)) (Or.inr (kw50 hw)) (by decide) (t := (.object "com/example/mergewright/mergewright/merge/MergeOptions$Favor")) (t' := (.object "java/lang/String")) (by decide) (by decide)))).other W8 (Or.inr (slot_ne (Or.inr (kw58 hw)) (Or.inr (kw52 hw)) (by decide) (t := (.object "com/example/mergewright/mergewright/merge/MergeOptions$Favor")) (t' := (.object "java/lang/String")) (by decide) (by decide)))).other W11 (Or.inr (slot_ne (Or.inr (kw58 hw)) (Or.inr (kw54 hw)) (by decide) (t := (.object "com/example/mergewright/mergewright/merge/MergeOptions$Favor")) (t' := .int) (by decide) (by decide)))).other W14 (Or.inr (slot_ne (Or.inr (kw58 hw)) (Or.inr (kw56 hw)) (by decide) (t := (.object "com/example/mergewright/mergewright/merge/MergeOptions$Favor")) (t' := (.object "com/example/mergewright/mergewright/merge/MergeOptions$ConflictStyle")) (by decide) (by decide))))
  obtain ⟨T17, h17, X17, e17, W17, st17⟩ := putF X14 hx hZ hown (host := "") (Or.inl (kw57 hw)) Via.refl e14 f16 f15 (Or.inr ⟨(kw58 hw), rfl, hnm⟩) (kw35 hw) (ty := (.object "com/example/mergewright/mergewright/merge/MergeOptions$Favor")) (by decide) rfl rfl (g := (mkF m 34 #[.val (.ref a1), .val (.ref x1), .val (.ref x2), .val (.ref x3), .val (.int p4), .val (.ref x5), .val (.ref x6)] [(.ref x6), (.ref a1)])) rfl rfl (hb hby d8_34)
  have Z17 : n0 ≤ h17.size := Nat.le_trans Z14 (Keep.of_wr W17).1
  have K17 : Keep h0 h17 [a1] := K14.wr W17 (Or.inl (List.mem_of_getElem? (i := 0) rfl))
  have N17 := Fr.snoc X17 N14 P1
  have Fw17 : Fld Z h17 a1 "com/example/mergewright/mergewright/merge/MergeOptions" "favor" "Lcom/example/mergewright/mergewright/merge/MergeOptions$Favor;" (.ref x6) := f16.same W17
  have f18 : Fld Z h17 a1 "com/example/mergewright/mergewright/merge/MergeOptions" "markerSize" "I" (.int p4) := ((Fw11.other W14 (Or.inr (slot_ne (Or.inr (kw54 hw)) (Or.inr (kw56 hw)) (by decide) (t := .int) (t' := (.object "com/example/mergewright/mergewright/merge/MergeOptions$ConflictStyle")) (by decide) (by decide)))).other W17 (Or.inr (slot_ne (Or.inr (kw54 hw)) (Or.inr (kw58 hw)) (by decide) (t := .int) (t' := (.object "com/example/mergewright/mergewright/merge/MergeOptions$Favor")) (by decide) (by decide))))
  obtain ⟨fs, hr, hrun, hended, hW, hsame⟩ := X17.leave (v := none) (fun _ => rfl)
  refine ⟨_, _, pre0 _ ?_, hrun, hended, _, _, rfl, ?_, ⟨_, rfl⟩, hW, hsame.mono (by decide) (by decide)⟩
  · skip
    show Steps p.tables e below (s₁.setTop (mkF m 0 #[.val (.ref a1), .val (.ref x1), .val (.ref x2), .val (.ref x3), .val (.int p4), .val (.ref x5), .val (.ref x6)] [])) _
    refine XS.aloadN X0.here hx rfl (hb hby d8_0) rfl rfl ?_
    show Steps p.tables e below (s₁.setTop (mkF m 1 #[.val (.ref a1), .val (.ref x1), .val (.ref x2), .val (.ref x3), .val (.int p4), .val (.ref x5), .val (.ref x6)] [(.ref a1)])) _
    refine st1 _ ?_
    show Steps p.tables e below (T1.setTop (mkF m 4 #[.val (.ref a1), .val (.ref x1), .val (.ref x2), .val (.ref x3), .val (.int p4), .val (.ref x5), .val (.ref x6)] [])) _
    refine XS.aloadN X1.here hx rfl (hb hby d8_4) rfl rfl ?_
    show Steps p.tables e below (T1.setTop (mkF m 5 #[.val (.ref a1), .val (.ref x1), .val (.ref x2), .val (.ref x3), .val (.int p4), .val (.ref x5), .val (.ref x6)] [(.ref a1)])) _
    refine XS.aloadN X1.here hx rfl (hb hby d8_5) rfl rfl ?_
    show Steps p.tables e below (T1.setTop (mkF m 6 #[.val (.ref a1), .val (.ref x1), .val (.ref x2), .val (.ref x3), .val (.int p4), .val (.ref x5), .val (.ref x6)] [(.ref x1), (.ref a1)])) _
    refine st2 _ ?_
    show Steps p.tables e below (T2.setTop (mkF m 9 #[.val (.ref a1), .val (.ref x1), .val (.ref x2), .val (.ref x3), .val (.int p4), .val (.ref x5), .val (.ref x6)] [])) _
    refine XS.aloadN X2.here hx rfl (hb hby d8_9) rfl rfl ?_
    show Steps p.tables e below (T2.setTop (mkF m 10 #[.val (.ref a1), .val (.ref x1), .val (.ref x2), .val (.ref x3), .val (.int p4), .val (.ref x5), .val (.ref x6)] [(.ref a1)])) _
    refine XS.aloadN X2.here hx rfl (hb hby d8_10) rfl rfl ?_
    show Steps p.tables e below (T2.setTop (mkF m 11 #[.val (.ref a1), .val (.ref x1), .val (.ref x2), .val (.ref x3), .val (.int p4), .val (.ref x5), .val (.ref x6)] [(.ref x2), (.ref a1)])) _
    refine st5 _ ?_
    show Steps p.tables e below (T5.setTop (mkF m 14 #[.val (.ref a1), .val (.ref x1), .val (.ref x2), .val (.ref x3), .val (.int p4), .val (.ref x5), .val (.ref x6)] [])) _
    refine XS.aloadN X5.here hx rfl (hb hby d8_14) rfl rfl ?_
    show Steps p.tables e below (T5.setTop (mkF m 15 #[.val (.ref a1), .val (.ref x1), .val (.ref x2), .val (.ref x3), .val (.int p4), .val (.ref x5), .val (.ref x6)] [(.ref a1)])) _
    refine XS.aloadN X5.here hx rfl (hb hby d8_15) rfl rfl ?_
    show Steps p.tables e below (T5.setTop (mkF m 16 #[.val (.ref a1), .val (.ref x1), .val (.ref x2), .val (.ref x3), .val (.int p4), .val (.ref x5), .val (.ref x6)] [(.ref x3), (.ref a1)])) _
    refine st8 _ ?_
    show Steps p.tables e below (T8.setTop (mkF m 19 #[.val (.ref a1), .val (.ref x1), .val (.ref x2), .val (.ref x3), .val (.int p4), .val (.ref x5), .val (.ref x6)] [])) _
    refine XS.aloadN X8.here hx rfl (hb hby d8_19) rfl rfl ?_
    show Steps p.tables e below (T8.setTop (mkF m 20 #[.val (.ref a1), .val (.ref x1), .val (.ref x2), .val (.ref x3), .val (.int p4), .val (.ref x5), .val (.ref x6)] [(.ref a1)])) _
    refine XS.iload X8.here hx rfl (hb hby d8_20) rfl ?_
    show Steps p.tables e below (T8.setTop (mkF m 22 #[.val (.ref a1), .val (.ref x1), .val (.ref x2), .val (.ref x3), .val (.int p4), .val (.ref x5), .val (.ref x6)] [(.int p4), (.ref a1)])) _
    refine st11 _ ?_
    show Steps p.tables e below (T11.setTop (mkF m 25 #[.val (.ref a1), .val (.ref x1), .val (.ref x2), .val (.ref x3), .val (.int p4), .val (.ref x5), .val (.ref x6)] [])) _
    refine XS.aloadN X11.here hx rfl (hb hby d8_25) rfl rfl ?_
    show Steps p.tables e below (T11.setTop (mkF m 26 #[.val (.ref a1), .val (.ref x1), .val (.ref x2), .val (.ref x3), .val (.int p4), .val (.ref x5), .val (.ref x6)] [(.ref a1)])) _
    refine XS.aload X11.here hx rfl (hb hby d8_26) rfl rfl ?_
    show Steps p.tables e below (T11.setTop (mkF m 28 #[.val (.ref a1), .val (.ref x1), .val (.ref x2), .val (.ref x3), .val (.int p4), .val (.ref x5), .val (.ref x6)] [(.ref x5), (.ref a1)])) _
    refine st14 _ ?_
    show Steps p.tables e below (T14.setTop (mkF m 31 #[.val (.ref a1), .val (.ref x1), .val (.ref x2), .val (.ref x3), .val (.int p4), .val (.ref x5), .val (.ref x6)] [])) _
    refine XS.aloadN X14.here hx rfl (hb hby d8_31) rfl rfl ?_
    show Steps p.tables e below (T14.setTop (mkF m 32 #[.val (.ref a1), .val (.ref x1), .val (.ref x2), .val (.ref x3), .val (.int p4), .val (.ref x5), .val (.ref x6)] [(.ref a1)])) _
    refine XS.aload X14.here hx rfl (hb hby d8_32) rfl rfl ?_
    show Steps p.tables e below (T14.setTop (mkF m 34 #[.val (.ref a1), .val (.ref x1), .val (.ref x2), .val (.ref x3), .val (.int p4), .val (.ref x5), .val (.ref x6)] [(.ref x6), (.ref a1)])) _
    refine st17 _ ?_
    show Steps p.tables e below (T17.setTop (mkF m 37 #[.val (.ref a1), .val (.ref x1), .val (.ref x2), .val (.ref x3), .val (.int p4), .val (.ref x5), .val (.ref x6)] [])) _
    exact X17.returnOut hx Bd.returns (hb hby d8_37) hr
  · show Q_rm8 Z a1 x1 x2 x3 p4 x5 x6 h0 n0 _ T17.heap _
    rw [e17]
    exact ⟨rfl, N17, K17, f18⟩
theorem ef_rm7 (m : MethodId) (x0 : Addr) (x1 : Addr) (x2 : Addr) (x3 : Addr) (x4 : Int32) (x5 : Addr) : entryFrame m #[(.ref x0), (.ref x1), (.ref x2), (.ref x3), (.int x4), (.ref x5)] 6 = mkF m 0 #[.val (.ref x0), .val (.ref x1), .val (.ref x2), .val (.ref x3), .val (.int x4), .val (.ref x5)] [] := by first | (simp [entryFrame, mkF, argsToLocals, Value.category]; done) | rfl
def Q_rm7 (Z : State) (a1 : Addr) (x1 : Addr) (x2 : Addr) (x3 : Addr) (p4 : Int32) (x5 : Addr) (w_NONE : Addr) (h0 : Heap) (n0 : Nat) (v : Option Value) (h : Heap) (L : List Loc) : Prop := v = none ∧ Fr n0 L ∧ Keep h0 h [a1] ∧ Fld Z h a1 "com/example/mergewright/mergewright/merge/MergeOptions" "markerSize" "I" (.int p4)
set_option maxRecDepth 65536 in
set_option maxHeartbeats 40000000 in
theorem rm7 (l : Launch) (Z : State) (a0 : Array Value) (hw : ∀ d ∈ own_tab, d.before a0 Z = true) (ws : List Jvm.Cond) (a1 : Addr) (x1 : Addr) (x2 : Addr) (x3 : Addr) (p4 : Int32) (x5 : Addr) (w_NONE : Addr) (h0 : Heap) (n0 : Nat) (Z0 : n0 ≤ h0.size) (P0 : Old Z n0 h0) (P1 : Sta Z Z.heap "com/example/mergewright/mergewright/merge/MergeOptions$Favor" "NONE" "Lcom/example/mergewright/mergewright/merge/MergeOptions$Favor;" (.ref w_NONE)) (P2 : Exa Z h0 a1 "com/example/mergewright/mergewright/merge/MergeOptions") (P3 : n0 ≤ a1) (P4 : Fld Z h0 a1 "com/example/mergewright/mergewright/merge/MergeOptions" "currentLabel" "Ljava/lang/String;" .null) (P5 : Fld Z h0 a1 "com/example/mergewright/mergewright/merge/MergeOptions" "baseLabel" "Ljava/lang/String;" .null) (P6 : Fld Z h0 a1 "com/example/mergewright/mergewright/merge/MergeOptions" "otherLabel" "Ljava/lang/String;" .null) (P7 : Fld Z h0 a1 "com/example/mergewright/mergewright/merge/MergeOptions" "markerSize" "I" (.int (0 : Int32))) (P8 : Fld Z h0 a1 "com/example/mergewright/mergewright/merge/MergeOptions" "style" "Lcom/example/mergewright/mergewright/merge/MergeOptions$ConflictStyle;" .null) (P9 : Fld Z h0 a1 "com/example/mergewright/mergewright/merge/MergeOptions" "favor" "Lcom/example/mergewright/mergewright/merge/MergeOptions$Favor;" .null) :
    MetFree l (⟨"com/example/mergewright/mergewright/merge/MergeOptions", "<init>", "(Ljava/lang/String;Ljava/lang/String;Ljava/lang/String;ILcom/example/mergewright/mergewright/merge/MergeOptions$ConflictStyle;)V"⟩ : MethodName) (head1 (Jvm.Cond.code (⟨"com/example/mergewright/mergewright/merge/MergeOptions", "<init>", "(Ljava/lang/String;Ljava/lang/String;Ljava/lang/String;ILcom/example/mergewright/mergewright/merge/MergeOptions$ConflictStyle;)V"⟩ : MethodName) prog_32_method_1_code 6 none :: ws) ({ frames := 2, cells := 0, slots := 0, locals := 30 } : Room)) (fun a U => a = #[(.ref a1), (.ref x1), (.ref x2), (.ref x3), (.int p4), (.ref x5)] ∧ Z.Warmed39 U.vm ∧ U.heap = h0) (fun _ _ _ _ _ => True) (fun _ U o U' => ∃ v L, o = .returned v ∧ Q_rm7 Z a1 x1 x2 x3 p4 x5 w_NONE h0 n0 v U'.heap L ∧ FrameEnd U o U' L ({ frames := 2, cells := 0, slots := 0, locals := 30 } : Room).cells ({ frames := 2, cells := 0, slots := 0, locals := 30 } : Room).slots) := by
  refine MetFree.of_bodySF (plainFor_of_name pn_3) hisR ?_
  intro p e s m args below meth c s₁ Bd hml0 hP hK
  obtain ⟨rfl, hZ, hh⟩ := hP
  have hx := Bd.exec
  have hby := Bd.bytes
  have hml : c.maxLocals = 6 := hml0
  have hown : s.vm.findClass "com/example/mergewright/mergewright/merge/MergeOptions" = some m.cls := findClass_of_methodNamed Bd.named
  have hnm := (name_of_methodNamed Bd.named Bd.method).1
  have X0 : Stand p l e ({ frames := 2, cells := 0, slots := 0, locals := 30 } : Room) s m #[(.ref a1), (.ref x1), (.ref x2), (.ref x3), (.int p4), (.ref x5)] below meth c s₁ [] 0 0 := Stand.of_body Bd
  have e0 : s₁.heap = h0 := by rw [← hh, Bd.state]; rfl
  have N0 := Fr.nil n0
  have KR : Keep h0 h0 [a1] := Keep.refl h0 _
  have pre0 : ∀ t, Steps p.tables e below (s₁.setTop (mkF m 0 #[.val (.ref a1), .val (.ref x1), .val (.ref x2), .val (.ref x3), .val (.int p4), .val (.ref x5)] [])) t → Steps p.tables e below (s₁.setTop (entryFrame m #[(.ref a1), (.ref x1), (.ref x2), (.ref x3), (.int p4), (.ref x5)] 6)) t := fun t k => castTop (ef_rm7 m (a1) (x1) (x2) (x3) (p4) (x5)) k
  obtain ⟨T1, X1, e1, st1⟩ := getS2 X0 hx hZ hown (host := "") (Or.inl (kw40 hw)) Via.refl e0 (Sta.ext P0.2 P1) (g := (mkF m 8 #[.val (.ref a1), .val (.ref x1), .val (.ref x2), .val (.ref x3), .val (.int p4), .val (.ref x5)] [(.ref x5), (.int p4), (.ref x3), (.ref x2), (.ref x1), (.ref a1)])) rfl (hb hby d7_8)
  obtain ⟨_, _, ⟨T2, L2, k2, n2⟩, -, X2, ⟨Lc2, hQ2, l2, y2, z2⟩, st2⟩ := X1.specialBack hx (y := (⟨"com/example/mergewright/mergewright/merge/MergeOptions", "<init>", "(Ljava/lang/String;Ljava/lang/String;Ljava/lang/String;ILcom/example/mergewright/mergewright/merge/MergeOptions$ConflictStyle;Lcom/example/mergewright/mergewright/merge/MergeOptions$Favor;)V"⟩ : MethodName)) rfl hown (mvT hZ (kw43 hw)) (mvT hZ (kw44 hw)) (mvT hZ (kw45 hw)) (by decide) (backOf (W := 0) (rm8 l Z a0 hw [] a1 x1 x2 x3 p4 x5 w_NONE h0 n0 Z0 P2 P3 P4 P5 P6 P7 P8 P9) hZ (kw45 hw) (kw36 hw) (by decide) (by decide)) (g := (mkF m 11 #[.val (.ref a1), .val (.ref x1), .val (.ref x2), .val (.ref x3), .val (.int p4), .val (.ref x5)] [(.ref w_NONE), (.ref x5), (.int p4), (.ref x3), (.ref x2), (.ref x1), (.ref a1)])) rfl (by rw [hml]; rfl) (Steps.refl _) (a := a1) (argsL := [(.ref x1), (.ref x2), (.ref x3), (.int p4), (.ref x5), (.ref w_NONE)]) (rest := []) (lenOf pd_3 rfl) rfl (by show 2 * 0 + _ ≤ _; exact Nat.le_of_eq rfl) (hb hby d7_11) (fun _ _ => ⟨rfl, e1, (by decide : 0 + 0 ≤ _), (by decide : 0 + 0 ≤ _)⟩)
  dsimp only [Pt.U, Pt.locs, Pt.cells, Pt.slots] at X2 l2 y2 z2 st2 hQ2
  subst l2 y2 z2
  obtain ⟨rfl, N2q, Kq2, p2_0⟩ := hQ2
  have N2 := Fr.app N0 N2q
  have Z2 : n0 ≤ T2.heap.size := Nat.le_trans Z0 Kq2.1
  have K2 : Keep h0 T2.heap [a1] := KR.trans Kq2 (allS (Or.inl (List.mem_of_getElem? (i := 0) rfl)) all0)
  obtain ⟨fs, hr, hrun, hended, hW, hsame⟩ := X2.leave (v := none) (fun _ => rfl)
  refine ⟨_, _, pre0 _ ?_, hrun, hended, _, _, rfl, ?_, ⟨_, rfl⟩, hW, hsame.mono (by decide) (by decide)⟩
  · skip
    show Steps p.tables e below (s₁.setTop (mkF m 0 #[.val (.ref a1), .val (.ref x1), .val (.ref x2), .val (.ref x3), .val (.int p4), .val (.ref x5)] [])) _
    refine XS.aloadN X0.here hx rfl (hb hby d7_0) rfl rfl ?_
    show Steps p.tables e below (s₁.setTop (mkF m 1 #[.val (.ref a1), .val (.ref x1), .val (.ref x2), .val (.ref x3), .val (.int p4), .val (.ref x5)] [(.ref a1)])) _
    refine XS.aloadN X0.here hx rfl (hb hby d7_1) rfl rfl ?_
    show Steps p.tables e below (s₁.setTop (mkF m 2 #[.val (.ref a1), .val (.ref x1), .val (.ref x2), .val (.ref x3), .val (.int p4), .val (.ref x5)] [(.ref x1), (.ref a1)])) _
    refine XS.aloadN X0.here hx rfl (hb hby d7_2) rfl rfl ?_
    show Steps p.tables e below (s₁.setTop (mkF m 3 #[.val (.ref a1), .val (.ref x1), .val (.ref x2), .val (.ref x3), .val (.int p4), .val (.ref x5)] [(.ref x2), (.ref x1), (.ref a1)])) _
    refine XS.aloadN X0.here hx rfl (hb hby d7_3) rfl rfl ?_
    show Steps p.tables e below (s₁.setTop (mkF m 4 #[.val (.ref a1), .val (.ref x1), .val (.ref x2), .val (.ref x3), .val (.int p4), .val (.ref x5)] [(.ref x3), (.ref x2), (.ref x1), (.ref a1)])) _
    refine XS.iload X0.here hx rfl (hb hby d7_4) rfl ?_
    show Steps p.tables e below (s₁.setTop (mkF m 6 #[.val (.ref a1), .val (.ref x1), .val (.ref x2), .val (.ref x3), .val (.int p4), .val (.ref x5)] [(.int p4), (.ref x3), (.ref x2), (.ref x1), (.ref a1)])) _
    refine XS.aload X0.here hx rfl (hb hby d7_6) rfl rfl ?_
    show Steps p.tables e below (s₁.setTop (mkF m 8 #[.val (.ref a1), .val (.ref x1), .val (.ref x2), .val (.ref x3), .val (.int p4), .val (.ref x5)] [(.ref x5), (.int p4), (.ref x3), (.ref x2), (.ref x1), (.ref a1)])) _
    refine st1 _ ?_
    show Steps p.tables e below (T1.setTop (mkF m 11 #[.val (.ref a1), .val (.ref x1), .val (.ref x2), .val (.ref x3), .val (.int p4), .val (.ref x5)] [(.ref w_NONE), (.ref x5), (.int p4), (.ref x3), (.ref x2), (.ref x1), (.ref a1)])) _
    refine st2.trans ?_
    show Steps p.tables e below (T2.setTop (mkF m 14 #[.val (.ref a1), .val (.ref x1), .val (.ref x2), .val (.ref x3), .val (.int p4), .val (.ref x5)] [])) _
    exact X2.returnOut hx Bd.returns (hb hby d7_14) hr
  · show Q_rm7 Z a1 x1 x2 x3 p4 x5 w_NONE h0 n0 _ T2.heap _
    exact ⟨rfl, N2, K2, p2_0⟩
theorem ef_rm9 (m : MethodId) (x0 : Addr) : entryFrame m #[(.ref x0)] 1 = mkF m 0 #[.val (.ref x0)] [] := by first | (simp [entryFrame, mkF, argsToLocals, Value.category]; done) | rfl
def Q_rm9 (Z : State) (a1 : Addr) (m1 : Int32) (h0 : Heap) (n0 : Nat) (v : Option Value) (h : Heap) (L : List Loc) : Prop := v = some (.int (own_w m1)) ∧ Fr n0 L ∧ h = h0
set_option maxRecDepth 65536 in
set_option maxHeartbeats 40000000 in
theorem rm9 (l : Launch) (Z : State) (a0 : Array Value) (hw : ∀ d ∈ own_tab, d.before a0 Z = true) (ws : List Jvm.Cond) (a1 : Addr) (m1 : Int32) (h0 : Heap) (n0 : Nat) (Z0 : n0 ≤ h0.size) (P0 : Fld Z h0 a1 "com/example/mergewright/mergewright/merge/MergeOptions" "markerSize" "I" (.int m1)) :
    MetFree l (⟨"com/example/mergewright/mergewright/merge/MergeOptions", "writtenMarkerSize", "()I"⟩ : MethodName) (head1 (Jvm.Cond.code (⟨"com/example/mergewright/mergewright/merge/MergeOptions", "writtenMarkerSize", "()I"⟩ : MethodName) prog_32_method_8_code 1 (some .int) :: ws) ({ frames := 0, cells := 0, slots := 0, locals := 0 } : Room)) (fun a U => a = #[(.ref a1)] ∧ Z.Warmed39 U.vm ∧ U.heap = h0) (fun _ _ _ _ _ => True) (fun _ U o U' => ∃ v L, o = .returned v ∧ Q_rm9 Z a1 m1 h0 n0 v U'.heap L ∧ FrameEnd U o U' L ({ frames := 0, cells := 0, slots := 0, locals := 0 } : Room).cells ({ frames := 0, cells := 0, slots := 0, locals := 0 } : Room).slots) := by
  refine MetFree.of_bodySF (plainFor_of_name pn_3) hisR ?_
  intro p e s m args below meth c s₁ Bd hml0 hP hK
  obtain ⟨rfl, hZ, hh⟩ := hP
  have hx := Bd.exec
  have hby := Bd.bytes
  have hml : c.maxLocals = 1 := hml0
  have hown : s.vm.findClass "com/example/mergewright/mergewright/merge/MergeOptions" = some m.cls := findClass_of_methodNamed Bd.named
  have hnm := (name_of_methodNamed Bd.named Bd.method).1
  have X0 : Stand p l e ({ frames := 0, cells := 0, slots := 0, locals := 0 } : Room) s m #[(.ref a1)] below meth c s₁ [] 0 0 := Stand.of_body Bd
  have e0 : s₁.heap = h0 := by rw [← hh, Bd.state]; rfl
  have N0 := Fr.nil n0
  have KR : Keep h0 h0 [] := Keep.refl h0 _
  have pre0 : ∀ t, Steps p.tables e below (s₁.setTop (mkF m 0 #[.val (.ref a1)] [])) t → Steps p.tables e below (s₁.setTop (entryFrame m #[(.ref a1)] 1)) t := fun t k => castTop (ef_rm9 m (a1)) k
  obtain ⟨T1, X1, e1, st1⟩ := getF X0 hx hZ hown (host := "") (Or.inl (kw53 hw)) Via.refl e0 P0 (g := (mkF m 1 #[.val (.ref a1)] [(.ref a1)])) rfl rfl (hb hby d9_1)
  have pre2 : ∀ t, Steps p.tables e below (T1.setTop (mkF m 4 #[.val (.ref a1)] [(.int m1)])) t → Steps p.tables e below (s₁.setTop (entryFrame m #[(.ref a1)] 1)) t := fun t k => pre0 t (by
    show Steps p.tables e below (s₁.setTop (mkF m 0 #[.val (.ref a1)] [])) _
    refine XS.aloadN X0.here hx rfl (hb hby d9_0) rfl rfl ?_
    show Steps p.tables e below (s₁.setTop (mkF m 1 #[.val (.ref a1)] [(.ref a1)])) _
    refine st1 _ ?_
    show Steps p.tables e below (T1.setTop (mkF m 4 #[.val (.ref a1)] [(.int m1)])) _
    exact k)
  by_cases hc3 : (0 : Int32) < m1
  · skip
    obtain ⟨T4, X4, e4, st4⟩ := getF X1 hx hZ hown (host := "") (Or.inl (kw53 hw)) Via.refl e1 P0 (g := (mkF m 8 #[.val (.ref a1)] [(.ref a1)])) rfl rfl (hb hby d9_8)
    obtain ⟨fs, hr, hrun, hended, hW, hsame⟩ := X4.leave (v := some (.int m1)) (fun h => by rw [Bd.returns] at h; cases h)
    refine ⟨_, _, pre2 _ ?_, hrun, hended, _, _, rfl, ?_, ⟨_, rfl⟩, hW, hsame.mono (by decide) (by decide)⟩
    · skip
      refine XS.ifNo X1.here hx rfl (hb hby d9_4) rfl ((if0 _ _).trans (tlt hc3).2.2.2) ?_
      show Steps p.tables e below (T1.setTop (mkF m 7 #[.val (.ref a1)] [])) _
      refine XS.aloadN X1.here hx rfl (hb hby d9_7) rfl rfl ?_
      show Steps p.tables e below (T1.setTop (mkF m 8 #[.val (.ref a1)] [(.ref a1)])) _
      refine st4 _ ?_
      show Steps p.tables e below (T4.setTop (mkF m 11 #[.val (.ref a1)] [(.int m1)])) _
      refine XS.goto X4.here hx rfl (pc0 := 11) (pc' := 16) rfl (hb hby d9_11) (by decide) (by decide) ?_
      show Steps p.tables e below (T4.setTop (mkF m 16 #[.val (.ref a1)] [(.int m1)])) _
      exact retI X4 hx Bd.returns (hb hby d9_16) hr
    · show Q_rm9 Z a1 m1 h0 n0 _ T4.heap _
      rw [e4]
      exact ⟨(by unfold own_w; rw [if_pos hc3]), N0, rfl⟩
  · skip
    obtain ⟨fs, hr, hrun, hended, hW, hsame⟩ := X1.leave (v := some (.int (7 : Int32))) (fun h => by rw [Bd.returns] at h; cases h)
    refine ⟨_, _, pre2 _ ?_, hrun, hended, _, _, rfl, ?_, ⟨_, rfl⟩, hW, hsame.mono (by decide) (by decide)⟩
    · skip
      refine XS.ifYes X1.here hx rfl (pc0 := 4) (pc' := 14) rfl (hb hby d9_4) rfl ((if0 _ _).trans (flt hc3).2.2.2) (by decide) (by decide) ?_
      show Steps p.tables e below (T1.setTop (mkF m 14 #[.val (.ref a1)] [])) _
      refine XS.bipush X1.here hx rfl (hb hby d9_14) ?_
      show Steps p.tables e below (T1.setTop (mkF m 16 #[.val (.ref a1)] [(.int (7 : Int32))])) _
      exact retI X1 hx Bd.returns (hb hby d9_16) hr
    · show Q_rm9 Z a1 m1 h0 n0 _ T1.heap _
      rw [e1]
      exact ⟨(by unfold own_w; rw [if_neg hc3]), N0, rfl⟩
theorem ef_rm10 (m : MethodId) (x0 : Addr) : entryFrame m #[(.ref x0)] 1 = mkF m 0 #[.val (.ref x0)] [] := by first | (simp [entryFrame, mkF, argsToLocals, Value.category]; done) | rfl
def Q_rm10 (Z : State) (a1 : Addr) (m1 : Int32) (h0 : Heap) (n0 : Nat) (v : Option Value) (h : Heap) (L : List Loc) : Prop := v = some (.int m1) ∧ Fr n0 L ∧ h = h0
set_option maxRecDepth 65536 in
set_option maxHeartbeats 40000000 in
theorem rm10 (l : Launch) (Z : State) (a0 : Array Value) (hw : ∀ d ∈ own_tab, d.before a0 Z = true) (ws : List Jvm.Cond) (a1 : Addr) (m1 : Int32) (h0 : Heap) (n0 : Nat) (Z0 : n0 ≤ h0.size) (P0 : Fld Z h0 a1 "com/example/mergewright/mergewright/merge/MergeOptions" "markerSize" "I" (.int m1)) :
    MetFree l (⟨"com/example/mergewright/mergewright/merge/MergeOptions", "markerSize", "()I"⟩ : MethodName) (head1 (Jvm.Cond.code (⟨"com/example/mergewright/mergewright/merge/MergeOptions", "markerSize", "()I"⟩ : MethodName) prog_32_method_7_code 1 (some .int) :: ws) ({ frames := 0, cells := 0, slots := 0, locals := 0 } : Room)) (fun a U => a = #[(.ref a1)] ∧ Z.Warmed39 U.vm ∧ U.heap = h0) (fun _ _ _ _ _ => True) (fun _ U o U' => ∃ v L, o = .returned v ∧ Q_rm10 Z a1 m1 h0 n0 v U'.heap L ∧ FrameEnd U o U' L ({ frames := 0, cells := 0, slots := 0, locals := 0 } : Room).cells ({ frames := 0, cells := 0, slots := 0, locals := 0 } : Room).slots) := by
  refine MetFree.of_bodySF (plainFor_of_name pn_3) hisR ?_
  intro p e s m args below meth c s₁ Bd hml0 hP hK
  obtain ⟨rfl, hZ, hh⟩ := hP
  have hx := Bd.exec
  have hby := Bd.bytes
  have hml : c.maxLocals = 1 := hml0
  have hown : s.vm.findClass "com/example/mergewright/mergewright/merge/MergeOptions" = some m.cls := findClass_of_methodNamed Bd.named
  have hnm := (name_of_methodNamed Bd.named Bd.method).1
  have X0 : Stand p l e ({ frames := 0, cells := 0, slots := 0, locals := 0 } : Room) s m #[(.ref a1)] below meth c s₁ [] 0 0 := Stand.of_body Bd
  have e0 : s₁.heap = h0 := by rw [← hh, Bd.state]; rfl
  have N0 := Fr.nil n0
  have KR : Keep h0 h0 [] := Keep.refl h0 _
  have pre0 : ∀ t, Steps p.tables e below (s₁.setTop (mkF m 0 #[.val (.ref a1)] [])) t → Steps p.tables e below (s₁.setTop (entryFrame m #[(.ref a1)] 1)) t := fun t k => castTop (ef_rm10 m (a1)) k
  obtain ⟨T1, X1, e1, st1⟩ := getF X0 hx hZ hown (host := "") (Or.inl (kw53 hw)) Via.refl e0 P0 (g := (mkF m 1 #[.val (.ref a1)] [(.ref a1)])) rfl rfl (hb hby d10_1)
  obtain ⟨fs, hr, hrun, hended, hW, hsame⟩ := X1.leave (v := some (.int m1)) (fun h => by rw [Bd.returns] at h; cases h)
  refine ⟨_, _, pre0 _ ?_, hrun, hended, _, _, rfl, ?_, ⟨_, rfl⟩, hW, hsame.mono (by decide) (by decide)⟩
  · skip
    show Steps p.tables e below (s₁.setTop (mkF m 0 #[.val (.ref a1)] [])) _
    refine XS.aloadN X0.here hx rfl (hb hby d10_0) rfl rfl ?_
    show Steps p.tables e below (s₁.setTop (mkF m 1 #[.val (.ref a1)] [(.ref a1)])) _
    refine st1 _ ?_
    show Steps p.tables e below (T1.setTop (mkF m 4 #[.val (.ref a1)] [(.int m1)])) _
    exact retI X1 hx Bd.returns (hb hby d10_4) hr
  · show Q_rm10 Z a1 m1 h0 n0 _ T1.heap _
    rw [e1]
    exact ⟨rfl, N0, rfl⟩
theorem ef_rm0 (m : MethodId) (x0 : Int32) (x1 : Int32) (x2 : Int32) : entryFrame m #[(.int x0), (.int x1), (.int x2)] maxLocals = mkF m 0 #[.val (.int x0), .val (.int x1), .val (.int x2), .unset, .unset, .unset, .unset, .unset, .unset, .unset] [] := by first | (simp [entryFrame, mkF, argsToLocals, Value.category, maxLocals]; done) | rfl
def Q_rm0 (Z : State) (p1 : Int32) (p2 : Int32) (p3 : Int32) (w_MERGE : Addr) (w_DIFF3 : Addr) (w_ZDIFF3 : Addr) (w_NONE : Addr) (vcs : Int32) (h0 : Heap) (n0 : Nat) (v : Option Value) (h : Heap) (L : List Loc) : Prop := v = some (.int (1 : Int32)) ∧ Fr n0 L ∧ Keep h0 h []
set_option maxRecDepth 65536 in
set_option maxHeartbeats 40000000 in
theorem rm0 (l : Launch) (Z : State) (a0 : Array Value) (hw : ∀ d ∈ own_tab, d.before a0 Z = true) (ws : List Jvm.Cond) (p1 : Int32) (p2 : Int32) (p3 : Int32) (w_MERGE : Addr) (w_DIFF3 : Addr) (w_ZDIFF3 : Addr) (w_NONE : Addr) (vcs : Int32) (h0 : Heap) (n0 : Nat) (Z0 : n0 ≤ h0.size) (P0 : Old Z n0 h0) (P1 : Sta Z Z.heap "java/lang/String" "COMPACT_STRINGS" "Z" (.int vcs)) (hvcs : vcs ≠ (0 : Int32)) (P3 : Sta Z Z.heap "com/example/mergewright/mergewright/merge/MergeOptions$Favor" "NONE" "Lcom/example/mergewright/mergewright/merge/MergeOptions$Favor;" (.ref w_NONE)) (P4 : Sta Z Z.heap "com/example/mergewright/mergewright/merge/MergeOptions$ConflictStyle" "MERGE" "Lcom/example/mergewright/mergewright/merge/MergeOptions$ConflictStyle;" (.ref w_MERGE)) (P5 : Sta Z Z.heap "com/example/mergewright/mergewright/merge/MergeOptions$ConflictStyle" "DIFF3" "Lcom/example/mergewright/mergewright/merge/MergeOptions$ConflictStyle;" (.ref w_DIFF3)) (P6 : Sta Z Z.heap "com/example/mergewright/mergewright/merge/MergeOptions$ConflictStyle" "ZDIFF3" "Lcom/example/mergewright/mergewright/merge/MergeOptions$ConflictStyle;" (.ref w_ZDIFF3)) :
    MetFree l x (head1 (Jvm.Cond.code x code maxLocals ret :: ws) room_1) (fun a U => a = #[(.int p1), (.int p2), (.int p3)] ∧ Z.Warmed39 U.vm ∧ U.heap = h0) (fun _ _ _ _ _ => True) (fun _ U o U' => ∃ v L, o = .returned v ∧ Q_rm0 Z p1 p2 p3 w_MERGE w_DIFF3 w_ZDIFF3 w_NONE vcs h0 n0 v U'.heap L ∧ FrameEnd U o U' L room_1.cells room_1.slots) := by
  refine MetFree.of_bodySF (plainFor_of_name pn_0) hisR ?_
  intro p e s m args below meth c s₁ Bd hml0 hP hK
  obtain ⟨rfl, hZ, hh⟩ := hP
  have hx := Bd.exec
  have hby := Bd.bytes
  have hml : c.maxLocals = 10 := hml0
  have hown : s.vm.findClass "com/example/mergewright/mergewright/merge/MergeOptionsWrittenMarkerSizePinLaw" = some m.cls := findClass_of_methodNamed Bd.named
  have hnm := (name_of_methodNamed Bd.named Bd.method).1
  have X0 : Stand p l e room_1 s m #[(.int p1), (.int p2), (.int p3)] below meth c s₁ [] 0 0 := Stand.of_body Bd
  have e0 : s₁.heap = h0 := by rw [← hh, Bd.state]; rfl
  have N0 := Fr.nil n0
  have KR : Keep h0 h0 [] := Keep.refl h0 _
  have pre0 : ∀ t, Steps p.tables e below (s₁.setTop (mkF m 0 #[.val (.int p1), .val (.int p2), .val (.int p3), .unset, .unset, .unset, .unset, .unset, .unset, .unset] [])) t → Steps p.tables e below (s₁.setTop (entryFrame m #[(.int p1), (.int p2), (.int p3)] maxLocals)) t := fun t k => castTop (ef_rm0 m (p1) (p2) (p3)) k
  obtain ⟨_, _, ⟨T1, L1, k1, n1⟩, -, X1, ⟨Lc1, hQ1, l1, y1, z1⟩, st1⟩ := Jvm.LawKit.callS X0 hx (y := (⟨"com/example/mergewright/mergewright/merge/MergeOptionsWrittenMarkerSizePinLaw", "styleOf", "(I)Lcom/example/mergewright/mergewright/merge/MergeOptions$ConflictStyle;"⟩ : MethodName)) hown (mvT hZ (kw0 hw)) (mvT hZ (kw1 hw)) (mvT hZ (kw2 hw)) (mvT hZ (kw3 hw)) (by decide) (backOf (W := 0) (rm1 l Z a0 hw [] p3 w_MERGE w_DIFF3 w_ZDIFF3 h0 n0 Z0 P0 P4 P5 P6) hZ (kw3 hw) (kw2 hw) (by decide) (by decide)) (g := (mkF m 1 #[.val (.int p1), .val (.int p2), .val (.int p3), .unset, .unset, .unset, .unset, .unset, .unset, .unset] [(.int p3)])) rfl (by rw [hml]; rfl) (argsL := [(.int p3)]) (rest := []) (lenOf pd_4 rfl) rfl (by show 2 * 0 + _ ≤ _; exact Nat.le_of_eq rfl) (hb hby at_1) (fun _ _ => ⟨rfl, e0, (by decide : 0 + 0 ≤ _), (by decide : 0 + 0 ≤ _)⟩)
  dsimp only [Pt.U, Pt.locs, Pt.cells, Pt.slots] at X1 l1 y1 z1 st1 hQ1
  subst l1 y1 z1
  obtain ⟨rfl, N1q, e1⟩ := hQ1
  have N1 := Fr.app N0 N1q
  obtain ⟨_, _, ⟨T2, L2, k2, n2⟩, -, X2, ⟨Lc2, hQ2, l2, y2, z2⟩, st2⟩ := Jvm.LawKit.callS X1 hx (y := (⟨"java/lang/String", "valueOf", "(C)Ljava/lang/String;"⟩ : MethodName)) hown (mvT hZ (kw8 hw)) (mvT hZ (kw9 hw)) (mvT hZ (kw10 hw)) (mvT hZ (kw11 hw)) (by decide) (backOf (W := 0) (rm2 l Z a0 hw [] ((p2 &&& (255 : Int32)).toUInt32.toUInt16.toUInt32.toInt32) vcs h0 n0 Z0 P0 P1 hvcs (own_ch _)) hZ (kw11 hw) (kw10 hw) (by decide) (by decide)) (g := (mkF m 11 #[.val (.int p1), .val (.int p2), .val (.int p3), .val (.ref (own_st p3 w_MERGE w_DIFF3 w_ZDIFF3)), .unset, .unset, .unset, .unset, .unset, .unset] [(.int ((p2 &&& (255 : Int32)).toUInt32.toUInt16.toUInt32.toInt32))])) rfl (by rw [hml]; rfl) (argsL := [(.int ((p2 &&& (255 : Int32)).toUInt32.toUInt16.toUInt32.toInt32))]) (rest := []) (lenOf pd_5 rfl) rfl (by show 2 * 0 + _ ≤ _; exact Nat.le_of_eq rfl) (hb hby at_11) (fun _ _ => ⟨rfl, e1, (by decide : 0 + 2 ≤ _), (by decide : 0 + 5 ≤ _)⟩)
  dsimp only [Pt.U, Pt.locs, Pt.cells, Pt.slots] at X2 l2 y2 z2 st2 hQ2
  subst l2 y2 z2
  obtain ⟨bb_2, rfl, N2q, Kq2⟩ := hQ2
  have N2 := Fr.app N1 N2q
  have Z2 : n0 ≤ T2.heap.size := Nat.le_trans Z0 Kq2.1
  have K2 : Keep h0 T2.heap [] := KR.trans Kq2 all0
  have f4 : Old Z n0 T2.heap := (P0.keep Kq2 all0)
  obtain ⟨_, _, ⟨T3, L3, k3, n3⟩, -, X3, ⟨Lc3, hQ3, l3, y3, z3⟩, st3⟩ := Jvm.LawKit.callS X2 hx (y := (⟨"java/lang/String", "valueOf", "(C)Ljava/lang/String;"⟩ : MethodName)) hown (mvT hZ (kw8 hw)) (mvT hZ (kw9 hw)) (mvT hZ (kw10 hw)) (mvT hZ (kw11 hw)) (by decide) (backOf (W := 0) (rm2 l Z a0 hw [] ((((p2.toUInt32 >>> ((8 : Int32) &&& 31).toUInt32).toInt32) &&& (255 : Int32)).toUInt32.toUInt16.toUInt32.toInt32) vcs T2.heap n0 Z2 f4 P1 hvcs (own_ch _)) hZ (kw11 hw) (kw10 hw) (by decide) (by decide)) (g := (mkF m 25 #[.val (.int p1), .val (.int p2), .val (.int p3), .val (.ref (own_st p3 w_MERGE w_DIFF3 w_ZDIFF3)), .val (.ref bb_2), .unset, .unset, .unset, .unset, .unset] [(.int ((((p2.toUInt32 >>> ((8 : Int32) &&& 31).toUInt32).toInt32) &&& (255 : Int32)).toUInt32.toUInt16.toUInt32.toInt32))])) rfl (by rw [hml]; rfl) (argsL := [(.int ((((p2.toUInt32 >>> ((8 : Int32) &&& 31).toUInt32).toInt32) &&& (255 : Int32)).toUInt32.toUInt16.toUInt32.toInt32))]) (rest := []) (lenOf pd_5 rfl) rfl (by show 2 * 0 + _ ≤ _; exact Nat.le_of_eq rfl) (hb hby at_25) (fun _ _ => ⟨rfl, rfl, (by decide : 2 + 2 ≤ _), (by decide : 5 + 5 ≤ _)⟩)
  dsimp only [Pt.U, Pt.locs, Pt.cells, Pt.slots] at X3 l3 y3 z3 st3 hQ3
  subst l3 y3 z3
  obtain ⟨bb_3, rfl, N3q, Kq3⟩ := hQ3
  have N3 := Fr.app N2 N3q
  have Z3 : n0 ≤ T3.heap.size := Nat.le_trans Z2 Kq3.1
  have K3 : Keep h0 T3.heap [] := K2.trans Kq3 all0
  have f6 : Old Z n0 T3.heap := (f4.keep Kq3 all0)
  obtain ⟨_, _, ⟨T5, L5, k5, n5⟩, -, X5, ⟨Lc5, hQ5, l5, y5, z5⟩, st5⟩ := Jvm.LawKit.callS X3 hx (y := (⟨"java/lang/String", "valueOf", "(C)Ljava/lang/String;"⟩ : MethodName)) hown (mvT hZ (kw8 hw)) (mvT hZ (kw9 hw)) (mvT hZ (kw10 hw)) (mvT hZ (kw11 hw)) (by decide) (backOf (W := 0) (rm2 l Z a0 hw [] ((((p2.toUInt32 >>> ((16 : Int32) &&& 31).toUInt32).toInt32) &&& (255 : Int32)).toUInt32.toUInt16.toUInt32.toInt32) vcs T3.heap n0 Z3 f6 P1 hvcs (own_ch _)) hZ (kw11 hw) (kw10 hw) (by decide) (by decide)) (g := (mkF m 39 #[.val (.int p1), .val (.int p2), .val (.int p3), .val (.ref (own_st p3 w_MERGE w_DIFF3 w_ZDIFF3)), .val (.ref bb_2), .val (.ref bb_3), .unset, .unset, .unset, .unset] [(.int ((((p2.toUInt32 >>> ((16 : Int32) &&& 31).toUInt32).toInt32) &&& (255 : Int32)).toUInt32.toUInt16.toUInt32.toInt32))])) rfl (by rw [hml]; rfl) (argsL := [(.int ((((p2.toUInt32 >>> ((16 : Int32) &&& 31).toUInt32).toInt32) &&& (255 : Int32)).toUInt32.toUInt16.toUInt32.toInt32))]) (rest := []) (lenOf pd_5 rfl) rfl (by show 2 * 0 + _ ≤ _; exact Nat.le_of_eq rfl) (hb hby at_39) (fun _ _ => ⟨rfl, rfl, (by decide : 4 + 2 ≤ _), (by decide : 10 + 5 ≤ _)⟩)
  dsimp only [Pt.U, Pt.locs, Pt.cells, Pt.slots] at X5 l5 y5 z5 st5 hQ5
  subst l5 y5 z5
  obtain ⟨bb_5, rfl, N5q, Kq5⟩ := hQ5
  have N5 := Fr.app N3 N5q
  have Z5 : n0 ≤ T5.heap.size := Nat.le_trans Z3 Kq5.1
  have K5 : Keep h0 T5.heap [] := K3.trans Kq5 all0
  obtain ⟨T7, h7, X7, e7, E7, A7, D7, -, st7⟩ := newO X5 hx hZ hown (kw34 hw) (kw35 hw) (kw36 hw) rfl (g := (mkF m 44 #[.val (.int p1), .val (.int p2), .val (.int p3), .val (.ref (own_st p3 w_MERGE w_DIFF3 w_ZDIFF3)), .val (.ref bb_2), .val (.ref bb_3), .val (.ref bb_5), .unset, .unset, .unset] [])) rfl (hb hby at_44) (by decide) (by decide)
  obtain ⟨b7, g7⟩ : ∃ z, z = T5.heap.size := ⟨_, rfl⟩
  rw [← g7] at A7 D7 st7
  have g_b7 : n0 ≤ b7 := Nat.le_trans Z5 (Nat.le_of_eq g7.symm)
  have sz_b7 : h0.size ≤ b7 := Nat.le_trans K5.1 (Nat.le_of_eq g7.symm)
  have Z7 : n0 ≤ h7.size := Nat.le_trans Z5 E7.1
  have K7 : Keep h0 h7 [] := K5.ext E7
  have F7_currentLabel : Fld Z h7 b7 "com/example/mergewright/mergewright/merge/MergeOptions" "currentLabel" "Ljava/lang/String;" .null := D7 (Or.inr (kw48 hw)) (ty := (.object "java/lang/String")) (by decide)
  have F7_baseLabel : Fld Z h7 b7 "com/example/mergewright/mergewright/merge/MergeOptions" "baseLabel" "Ljava/lang/String;" .null := D7 (Or.inr (kw50 hw)) (ty := (.object "java/lang/String")) (by decide)
  have F7_otherLabel : Fld Z h7 b7 "com/example/mergewright/mergewright/merge/MergeOptions" "otherLabel" "Ljava/lang/String;" .null := D7 (Or.inr (kw52 hw)) (ty := (.object "java/lang/String")) (by decide)
  have F7_markerSize : Fld Z h7 b7 "com/example/mergewright/mergewright/merge/MergeOptions" "markerSize" "I" (.int (0 : Int32)) := D7 (Or.inr (kw54 hw)) (ty := .int) (by decide)
  have F7_style : Fld Z h7 b7 "com/example/mergewright/mergewright/merge/MergeOptions" "style" "Lcom/example/mergewright/mergewright/merge/MergeOptions$ConflictStyle;" .null := D7 (Or.inr (kw56 hw)) (ty := (.object "com/example/mergewright/mergewright/merge/MergeOptions$ConflictStyle")) (by decide)
  have F7_favor : Fld Z h7 b7 "com/example/mergewright/mergewright/merge/MergeOptions" "favor" "Lcom/example/mergewright/mergewright/merge/MergeOptions$Favor;" .null := D7 (Or.inr (kw58 hw)) (ty := (.object "com/example/mergewright/mergewright/merge/MergeOptions$Favor")) (by decide)
  have f9 : Old Z n0 h7 := ((f6.keep Kq5 all0).ext E7)
  obtain ⟨_, _, ⟨T8, L8, k8, n8⟩, -, X8, ⟨Lc8, hQ8, l8, y8, z8⟩, st8⟩ := X7.specialBack hx (y := (⟨"com/example/mergewright/mergewright/merge/MergeOptions", "<init>", "(Ljava/lang/String;Ljava/lang/String;Ljava/lang/String;ILcom/example/mergewright/mergewright/merge/MergeOptions$ConflictStyle;)V"⟩ : MethodName)) rfl hown (mvT hZ (kw37 hw)) (mvT hZ (kw38 hw)) (mvT hZ (kw39 hw)) (by decide) (backOf (W := 1) (rm7 l Z a0 hw [] b7 bb_2 bb_3 bb_5 p1 (own_st p3 w_MERGE w_DIFF3 w_ZDIFF3) w_NONE h7 n0 Z7 f9 P3 A7 g_b7 F7_currentLabel F7_baseLabel F7_otherLabel F7_markerSize F7_style F7_favor) hZ (kw39 hw) (kw36 hw) (by decide) (by decide)) (g := (mkF m 56 #[.val (.int p1), .val (.int p2), .val (.int p3), .val (.ref (own_st p3 w_MERGE w_DIFF3 w_ZDIFF3)), .val (.ref bb_2), .val (.ref bb_3), .val (.ref bb_5), .unset, .unset, .unset] [(.ref (own_st p3 w_MERGE w_DIFF3 w_ZDIFF3)), (.int p1), (.ref bb_5), (.ref bb_3), (.ref bb_2), (.ref b7), (.ref b7)])) rfl (by rw [hml]; rfl) (Steps.refl _) (a := b7) (argsL := [(.ref bb_2), (.ref bb_3), (.ref bb_5), (.int p1), (.ref (own_st p3 w_MERGE w_DIFF3 w_ZDIFF3))]) (rest := [(.ref b7)]) (lenOf pd_6 rfl) rfl (by show 2 * 0 + _ ≤ _; exact Nat.le_of_eq rfl) (hb hby at_56) (fun _ _ => ⟨rfl, e7, (by decide : 7 + 0 ≤ _), (by decide : 21 + 0 ≤ _)⟩)
  dsimp only [Pt.U, Pt.locs, Pt.cells, Pt.slots] at X8 l8 y8 z8 st8 hQ8
  subst l8 y8 z8
  obtain ⟨rfl, N8q, Kq8, p8_0⟩ := hQ8
  have N8 := Fr.app N5 N8q
  have Z8 : n0 ≤ T8.heap.size := Nat.le_trans Z7 Kq8.1
  have K8 : Keep h0 T8.heap [] := K7.trans Kq8 (allS (Or.inr sz_b7) all0)
  have f11 : Exa Z T8.heap b7 "com/example/mergewright/mergewright/merge/MergeOptions" := (A7.keep Kq8)
  obtain ⟨cq10, kq10, q10a, q10b, q10c⟩ := isOf hZ rfl f11
  obtain ⟨_, _, ⟨T10, L10, k10, n10⟩, -, X10, ⟨Lc10, hQ10, l10, y10, z10⟩, st10⟩ := X8.virtualBack hx (y := (⟨"com/example/mergewright/mergewright/merge/MergeOptions", "writtenMarkerSize", "()I"⟩ : MethodName)) (z := (⟨"com/example/mergewright/mergewright/merge/MergeOptions", "writtenMarkerSize", "()I"⟩ : MethodName)) hown (mvT hZ (kw59 hw)) (mvT hZ (kw60 hw)) (notFace_of_selects (args := #[]) (mvT hZ (kw62 hw))) (mvT hZ (kw62 hw)) (mvT hZ (kw61 hw)) (by decide) (backOf (W := 0) (rm9 l Z a0 hw [] b7 p1 T8.heap n0 Z8 p8_0) hZ (kw63 hw) (kw36 hw) (by decide) (by decide)) q10a q10c (g := (mkF m 63 #[.val (.int p1), .val (.int p2), .val (.int p3), .val (.ref (own_st p3 w_MERGE w_DIFF3 w_ZDIFF3)), .val (.ref bb_2), .val (.ref bb_3), .val (.ref bb_5), .val (.ref b7), .unset, .unset] [(.ref b7)])) rfl (by rw [hml]; rfl) (Steps.refl _) (argsL := []) (rest := []) (lenOf pd_7 rfl) rfl (by show 2 * 0 + _ ≤ _; exact Nat.le_of_eq rfl) (hb hby at_63) (fun _ _ => ⟨rfl, rfl, (by decide : 7 + 0 ≤ _), (by decide : 21 + 0 ≤ _)⟩)
  dsimp only [Pt.U, Pt.locs, Pt.cells, Pt.slots] at X10 l10 y10 z10 st10 hQ10
  subst l10 y10 z10
  obtain ⟨rfl, N10q, e10⟩ := hQ10
  have N10 := Fr.app N8 N10q
  have pre12 : ∀ t, Steps p.tables e below (T10.setTop (mkF m 70 #[.val (.int p1), .val (.int p2), .val (.int p3), .val (.ref (own_st p3 w_MERGE w_DIFF3 w_ZDIFF3)), .val (.ref bb_2), .val (.ref bb_3), .val (.ref bb_5), .val (.ref b7), .val (.int (own_w p1)), .unset] [(.int (1 : Int32)), (.int p1)])) t → Steps p.tables e below (s₁.setTop (entryFrame m #[(.int p1), (.int p2), (.int p3)] maxLocals)) t := fun t k => pre0 t (by
    show Steps p.tables e below (s₁.setTop (mkF m 0 #[.val (.int p1), .val (.int p2), .val (.int p3), .unset, .unset, .unset, .unset, .unset, .unset, .unset] [])) _
    refine XS.iloadN X0.here hx rfl (hb hby at_0) rfl ?_
    show Steps p.tables e below (s₁.setTop (mkF m 1 #[.val (.int p1), .val (.int p2), .val (.int p3), .unset, .unset, .unset, .unset, .unset, .unset, .unset] [(.int p3)])) _
    refine st1 _ ?_
    show Steps p.tables e below (T1.setTop (mkF m 4 #[.val (.int p1), .val (.int p2), .val (.int p3), .unset, .unset, .unset, .unset, .unset, .unset, .unset] [(.ref (own_st p3 w_MERGE w_DIFF3 w_ZDIFF3))])) _
    refine XS.astoreN X1.here hx rfl (hb hby at_4) rfl rfl (l' := #[.val (.int p1), .val (.int p2), .val (.int p3), .val (.ref (own_st p3 w_MERGE w_DIFF3 w_ZDIFF3)), .unset, .unset, .unset, .unset, .unset, .unset]) rfl ?_
    show Steps p.tables e below (T1.setTop (mkF m 5 #[.val (.int p1), .val (.int p2), .val (.int p3), .val (.ref (own_st p3 w_MERGE w_DIFF3 w_ZDIFF3)), .unset, .unset, .unset, .unset, .unset, .unset] [])) _
    refine XS.iloadN X1.here hx rfl (hb hby at_5) rfl ?_
    show Steps p.tables e below (T1.setTop (mkF m 6 #[.val (.int p1), .val (.int p2), .val (.int p3), .val (.ref (own_st p3 w_MERGE w_DIFF3 w_ZDIFF3)), .unset, .unset, .unset, .unset, .unset, .unset] [(.int p2)])) _
    refine XS.sipush X1.here hx rfl (hb hby at_6) ?_
    show Steps p.tables e below (T1.setTop (mkF m 9 #[.val (.int p1), .val (.int p2), .val (.int p3), .val (.ref (own_st p3 w_MERGE w_DIFF3 w_ZDIFF3)), .unset, .unset, .unset, .unset, .unset, .unset] [(.int (255 : Int32)), (.int p2)])) _
    refine XS.iand X1.here hx rfl (hb hby at_9) rfl ?_
    show Steps p.tables e below (T1.setTop (mkF m 10 #[.val (.int p1), .val (.int p2), .val (.int p3), .val (.ref (own_st p3 w_MERGE w_DIFF3 w_ZDIFF3)), .unset, .unset, .unset, .unset, .unset, .unset] [(.int (p2 &&& (255 : Int32)))])) _
    refine XS.i2c X1.here hx rfl (hb hby at_10) rfl ?_
    show Steps p.tables e below (T1.setTop (mkF m 11 #[.val (.int p1), .val (.int p2), .val (.int p3), .val (.ref (own_st p3 w_MERGE w_DIFF3 w_ZDIFF3)), .unset, .unset, .unset, .unset, .unset, .unset] [(.int ((p2 &&& (255 : Int32)).toUInt32.toUInt16.toUInt32.toInt32))])) _
    refine st2 _ ?_
    show Steps p.tables e below (T2.setTop (mkF m 14 #[.val (.int p1), .val (.int p2), .val (.int p3), .val (.ref (own_st p3 w_MERGE w_DIFF3 w_ZDIFF3)), .unset, .unset, .unset, .unset, .unset, .unset] [(.ref bb_2)])) _
    refine XS.astore X2.here hx rfl (hb hby at_14) rfl rfl (l' := #[.val (.int p1), .val (.int p2), .val (.int p3), .val (.ref (own_st p3 w_MERGE w_DIFF3 w_ZDIFF3)), .val (.ref bb_2), .unset, .unset, .unset, .unset, .unset]) rfl ?_
    show Steps p.tables e below (T2.setTop (mkF m 16 #[.val (.int p1), .val (.int p2), .val (.int p3), .val (.ref (own_st p3 w_MERGE w_DIFF3 w_ZDIFF3)), .val (.ref bb_2), .unset, .unset, .unset, .unset, .unset] [])) _
    refine XS.iloadN X2.here hx rfl (hb hby at_16) rfl ?_
    show Steps p.tables e below (T2.setTop (mkF m 17 #[.val (.int p1), .val (.int p2), .val (.int p3), .val (.ref (own_st p3 w_MERGE w_DIFF3 w_ZDIFF3)), .val (.ref bb_2), .unset, .unset, .unset, .unset, .unset] [(.int p2)])) _
    refine XS.bipush X2.here hx rfl (hb hby at_17) ?_
    show Steps p.tables e below (T2.setTop (mkF m 19 #[.val (.int p1), .val (.int p2), .val (.int p3), .val (.ref (own_st p3 w_MERGE w_DIFF3 w_ZDIFF3)), .val (.ref bb_2), .unset, .unset, .unset, .unset, .unset] [(.int (8 : Int32)), (.int p2)])) _
    refine XS.iushr X2.here hx rfl (hb hby at_19) rfl ?_
    show Steps p.tables e below (T2.setTop (mkF m 20 #[.val (.int p1), .val (.int p2), .val (.int p3), .val (.ref (own_st p3 w_MERGE w_DIFF3 w_ZDIFF3)), .val (.ref bb_2), .unset, .unset, .unset, .unset, .unset] [(.int ((p2.toUInt32 >>> ((8 : Int32) &&& 31).toUInt32).toInt32))])) _
    refine XS.sipush X2.here hx rfl (hb hby at_20) ?_
    show Steps p.tables e below (T2.setTop (mkF m 23 #[.val (.int p1), .val (.int p2), .val (.int p3), .val (.ref (own_st p3 w_MERGE w_DIFF3 w_ZDIFF3)), .val (.ref bb_2), .unset, .unset, .unset, .unset, .unset] [(.int (255 : Int32)), (.int ((p2.toUInt32 >>> ((8 : Int32) &&& 31).toUInt32).toInt32))])) _
    refine XS.iand X2.here hx rfl (hb hby at_23) rfl ?_
    show Steps p.tables e below (T2.setTop (mkF m 24 #[.val (.int p1), .val (.int p2), .val (.int p3), .val (.ref (own_st p3 w_MERGE w_DIFF3 w_ZDIFF3)), .val (.ref bb_2), .unset, .unset, .unset, .unset, .unset] [(.int (((p2.toUInt32 >>> ((8 : Int32) &&& 31).toUInt32).toInt32) &&& (255 : Int32)))])) _
    refine XS.i2c X2.here hx rfl (hb hby at_24) rfl ?_
    show Steps p.tables e below (T2.setTop (mkF m 25 #[.val (.int p1), .val (.int p2), .val (.int p3), .val (.ref (own_st p3 w_MERGE w_DIFF3 w_ZDIFF3)), .val (.ref bb_2), .unset, .unset, .unset, .unset, .unset] [(.int ((((p2.toUInt32 >>> ((8 : Int32) &&& 31).toUInt32).toInt32) &&& (255 : Int32)).toUInt32.toUInt16.toUInt32.toInt32))])) _
    refine st3 _ ?_
    show Steps p.tables e below (T3.setTop (mkF m 28 #[.val (.int p1), .val (.int p2), .val (.int p3), .val (.ref (own_st p3 w_MERGE w_DIFF3 w_ZDIFF3)), .val (.ref bb_2), .unset, .unset, .unset, .unset, .unset] [(.ref bb_3)])) _
    refine XS.astore X3.here hx rfl (hb hby at_28) rfl rfl (l' := #[.val (.int p1), .val (.int p2), .val (.int p3), .val (.ref (own_st p3 w_MERGE w_DIFF3 w_ZDIFF3)), .val (.ref bb_2), .val (.ref bb_3), .unset, .unset, .unset, .unset]) rfl ?_
    show Steps p.tables e below (T3.setTop (mkF m 30 #[.val (.int p1), .val (.int p2), .val (.int p3), .val (.ref (own_st p3 w_MERGE w_DIFF3 w_ZDIFF3)), .val (.ref bb_2), .val (.ref bb_3), .unset, .unset, .unset, .unset] [])) _
    refine XS.iloadN X3.here hx rfl (hb hby at_30) rfl ?_
    show Steps p.tables e below (T3.setTop (mkF m 31 #[.val (.int p1), .val (.int p2), .val (.int p3), .val (.ref (own_st p3 w_MERGE w_DIFF3 w_ZDIFF3)), .val (.ref bb_2), .val (.ref bb_3), .unset, .unset, .unset, .unset] [(.int p2)])) _
    refine XS.bipush X3.here hx rfl (hb hby at_31) ?_
    show Steps p.tables e below (T3.setTop (mkF m 33 #[.val (.int p1), .val (.int p2), .val (.int p3), .val (.ref (own_st p3 w_MERGE w_DIFF3 w_ZDIFF3)), .val (.ref bb_2), .val (.ref bb_3), .unset, .unset, .unset, .unset] [(.int (16 : Int32)), (.int p2)])) _
    refine XS.iushr X3.here hx rfl (hb hby at_33) rfl ?_
    show Steps p.tables e below (T3.setTop (mkF m 34 #[.val (.int p1), .val (.int p2), .val (.int p3), .val (.ref (own_st p3 w_MERGE w_DIFF3 w_ZDIFF3)), .val (.ref bb_2), .val (.ref bb_3), .unset, .unset, .unset, .unset] [(.int ((p2.toUInt32 >>> ((16 : Int32) &&& 31).toUInt32).toInt32))])) _
    refine XS.sipush X3.here hx rfl (hb hby at_34) ?_
    show Steps p.tables e below (T3.setTop (mkF m 37 #[.val (.int p1), .val (.int p2), .val (.int p3), .val (.ref (own_st p3 w_MERGE w_DIFF3 w_ZDIFF3)), .val (.ref bb_2), .val (.ref bb_3), .unset, .unset, .unset, .unset] [(.int (255 : Int32)), (.int ((p2.toUInt32 >>> ((16 : Int32) &&& 31).toUInt32).toInt32))])) _
    refine XS.iand X3.here hx rfl (hb hby at_37) rfl ?_
    show Steps p.tables e below (T3.setTop (mkF m 38 #[.val (.int p1), .val (.int p2), .val (.int p3), .val (.ref (own_st p3 w_MERGE w_DIFF3 w_ZDIFF3)), .val (.ref bb_2), .val (.ref bb_3), .unset, .unset, .unset, .unset] [(.int (((p2.toUInt32 >>> ((16 : Int32) &&& 31).toUInt32).toInt32) &&& (255 : Int32)))])) _
    refine XS.i2c X3.here hx rfl (hb hby at_38) rfl ?_
    show Steps p.tables e below (T3.setTop (mkF m 39 #[.val (.int p1), .val (.int p2), .val (.int p3), .val (.ref (own_st p3 w_MERGE w_DIFF3 w_ZDIFF3)), .val (.ref bb_2), .val (.ref bb_3), .unset, .unset, .unset, .unset] [(.int ((((p2.toUInt32 >>> ((16 : Int32) &&& 31).toUInt32).toInt32) &&& (255 : Int32)).toUInt32.toUInt16.toUInt32.toInt32))])) _
    refine st5 _ ?_
    show Steps p.tables e below (T5.setTop (mkF m 42 #[.val (.int p1), .val (.int p2), .val (.int p3), .val (.ref (own_st p3 w_MERGE w_DIFF3 w_ZDIFF3)), .val (.ref bb_2), .val (.ref bb_3), .unset, .unset, .unset, .unset] [(.ref bb_5)])) _
    refine XS.astore X5.here hx rfl (hb hby at_42) rfl rfl (l' := #[.val (.int p1), .val (.int p2), .val (.int p3), .val (.ref (own_st p3 w_MERGE w_DIFF3 w_ZDIFF3)), .val (.ref bb_2), .val (.ref bb_3), .val (.ref bb_5), .unset, .unset, .unset]) rfl ?_
    show Steps p.tables e below (T5.setTop (mkF m 44 #[.val (.int p1), .val (.int p2), .val (.int p3), .val (.ref (own_st p3 w_MERGE w_DIFF3 w_ZDIFF3)), .val (.ref bb_2), .val (.ref bb_3), .val (.ref bb_5), .unset, .unset, .unset] [])) _
    refine st7 _ ?_
    show Steps p.tables e below (T7.setTop (mkF m 47 #[.val (.int p1), .val (.int p2), .val (.int p3), .val (.ref (own_st p3 w_MERGE w_DIFF3 w_ZDIFF3)), .val (.ref bb_2), .val (.ref bb_3), .val (.ref bb_5), .unset, .unset, .unset] [(.ref b7)])) _
    refine XS.dup X7.here hx rfl (hb hby at_47) rfl rfl ?_
    show Steps p.tables e below (T7.setTop (mkF m 48 #[.val (.int p1), .val (.int p2), .val (.int p3), .val (.ref (own_st p3 w_MERGE w_DIFF3 w_ZDIFF3)), .val (.ref bb_2), .val (.ref bb_3), .val (.ref bb_5), .unset, .unset, .unset] [(.ref b7), (.ref b7)])) _
    refine XS.aload X7.here hx rfl (hb hby at_48) rfl rfl ?_
    show Steps p.tables e below (T7.setTop (mkF m 50 #[.val (.int p1), .val (.int p2), .val (.int p3), .val (.ref (own_st p3 w_MERGE w_DIFF3 w_ZDIFF3)), .val (.ref bb_2), .val (.ref bb_3), .val (.ref bb_5), .unset, .unset, .unset] [(.ref bb_2), (.ref b7), (.ref b7)])) _
    refine XS.aload X7.here hx rfl (hb hby at_50) rfl rfl ?_
    show Steps p.tables e below (T7.setTop (mkF m 52 #[.val (.int p1), .val (.int p2), .val (.int p3), .val (.ref (own_st p3 w_MERGE w_DIFF3 w_ZDIFF3)), .val (.ref bb_2), .val (.ref bb_3), .val (.ref bb_5), .unset, .unset, .unset] [(.ref bb_3), (.ref bb_2), (.ref b7), (.ref b7)])) _
    refine XS.aload X7.here hx rfl (hb hby at_52) rfl rfl ?_
    show Steps p.tables e below (T7.setTop (mkF m 54 #[.val (.int p1), .val (.int p2), .val (.int p3), .val (.ref (own_st p3 w_MERGE w_DIFF3 w_ZDIFF3)), .val (.ref bb_2), .val (.ref bb_3), .val (.ref bb_5), .unset, .unset, .unset] [(.ref bb_5), (.ref bb_3), (.ref bb_2), (.ref b7), (.ref b7)])) _
    refine XS.iloadN X7.here hx rfl (hb hby at_54) rfl ?_
    show Steps p.tables e below (T7.setTop (mkF m 55 #[.val (.int p1), .val (.int p2), .val (.int p3), .val (.ref (own_st p3 w_MERGE w_DIFF3 w_ZDIFF3)), .val (.ref bb_2), .val (.ref bb_3), .val (.ref bb_5), .unset, .unset, .unset] [(.int p1), (.ref bb_5), (.ref bb_3), (.ref bb_2), (.ref b7), (.ref b7)])) _
    refine XS.aloadN X7.here hx rfl (hb hby at_55) rfl rfl ?_
    show Steps p.tables e below (T7.setTop (mkF m 56 #[.val (.int p1), .val (.int p2), .val (.int p3), .val (.ref (own_st p3 w_MERGE w_DIFF3 w_ZDIFF3)), .val (.ref bb_2), .val (.ref bb_3), .val (.ref bb_5), .unset, .unset, .unset] [(.ref (own_st p3 w_MERGE w_DIFF3 w_ZDIFF3)), (.int p1), (.ref bb_5), (.ref bb_3), (.ref bb_2), (.ref b7), (.ref b7)])) _
    refine st8.trans ?_
    show Steps p.tables e below (T8.setTop (mkF m 59 #[.val (.int p1), .val (.int p2), .val (.int p3), .val (.ref (own_st p3 w_MERGE w_DIFF3 w_ZDIFF3)), .val (.ref bb_2), .val (.ref bb_3), .val (.ref bb_5), .unset, .unset, .unset] [(.ref b7)])) _
    refine XS.astore X8.here hx rfl (hb hby at_59) rfl rfl (l' := #[.val (.int p1), .val (.int p2), .val (.int p3), .val (.ref (own_st p3 w_MERGE w_DIFF3 w_ZDIFF3)), .val (.ref bb_2), .val (.ref bb_3), .val (.ref bb_5), .val (.ref b7), .unset, .unset]) rfl ?_
    show Steps p.tables e below (T8.setTop (mkF m 61 #[.val (.int p1), .val (.int p2), .val (.int p3), .val (.ref (own_st p3 w_MERGE w_DIFF3 w_ZDIFF3)), .val (.ref bb_2), .val (.ref bb_3), .val (.ref bb_5), .val (.ref b7), .unset, .unset] [])) _
    refine XS.aload X8.here hx rfl (hb hby at_61) rfl rfl ?_
    show Steps p.tables e below (T8.setTop (mkF m 63 #[.val (.int p1), .val (.int p2), .val (.int p3), .val (.ref (own_st p3 w_MERGE w_DIFF3 w_ZDIFF3)), .val (.ref bb_2), .val (.ref bb_3), .val (.ref bb_5), .val (.ref b7), .unset, .unset] [(.ref b7)])) _
    refine st10.trans ?_
    show Steps p.tables e below (T10.setTop (mkF m 66 #[.val (.int p1), .val (.int p2), .val (.int p3), .val (.ref (own_st p3 w_MERGE w_DIFF3 w_ZDIFF3)), .val (.ref bb_2), .val (.ref bb_3), .val (.ref bb_5), .val (.ref b7), .unset, .unset] [(.int (own_w p1))])) _
    refine XS.istore X10.here hx rfl (hb hby at_66) rfl (l' := #[.val (.int p1), .val (.int p2), .val (.int p3), .val (.ref (own_st p3 w_MERGE w_DIFF3 w_ZDIFF3)), .val (.ref bb_2), .val (.ref bb_3), .val (.ref bb_5), .val (.ref b7), .val (.int (own_w p1)), .unset]) rfl ?_
    show Steps p.tables e below (T10.setTop (mkF m 68 #[.val (.int p1), .val (.int p2), .val (.int p3), .val (.ref (own_st p3 w_MERGE w_DIFF3 w_ZDIFF3)), .val (.ref bb_2), .val (.ref bb_3), .val (.ref bb_5), .val (.ref b7), .val (.int (own_w p1)), .unset] [])) _
    refine XS.iloadN X10.here hx rfl (hb hby at_68) rfl ?_
    show Steps p.tables e below (T10.setTop (mkF m 69 #[.val (.int p1), .val (.int p2), .val (.int p3), .val (.ref (own_st p3 w_MERGE w_DIFF3 w_ZDIFF3)), .val (.ref bb_2), .val (.ref bb_3), .val (.ref bb_5), .val (.ref b7), .val (.int (own_w p1)), .unset] [(.int p1)])) _
    refine XS.iconst X10.here hx rfl (hb hby at_69) ?_
    show Steps p.tables e below (T10.setTop (mkF m 70 #[.val (.int p1), .val (.int p2), .val (.int p3), .val (.ref (own_st p3 w_MERGE w_DIFF3 w_ZDIFF3)), .val (.ref bb_2), .val (.ref bb_3), .val (.ref bb_5), .val (.ref b7), .val (.int (own_w p1)), .unset] [(.int (1 : Int32)), (.int p1)])) _
    exact k)
  by_cases hc13 : p1 < (1 : Int32)
  · skip
    obtain ⟨cq14, kq14, q14a, q14b, q14c⟩ := isOf hZ e10 f11
    obtain ⟨_, _, ⟨T14, L14, k14, n14⟩, -, X14, ⟨Lc14, hQ14, l14, y14, z14⟩, st14⟩ := X10.virtualBack hx (y := (⟨"com/example/mergewright/mergewright/merge/MergeOptions", "markerSize", "()I"⟩ : MethodName)) (z := (⟨"com/example/mergewright/mergewright/merge/MergeOptions", "markerSize", "()I"⟩ : MethodName)) hown (mvT hZ (kw64 hw)) (mvT hZ (kw65 hw)) (notFace_of_selects (args := #[]) (mvT hZ (kw67 hw))) (mvT hZ (kw67 hw)) (mvT hZ (kw66 hw)) (by decide) (backOf (W := 0) (rm10 l Z a0 hw [] b7 p1 T8.heap n0 Z8 p8_0) hZ (kw68 hw) (kw36 hw) (by decide) (by decide)) q14a q14c (g := (mkF m 116 #[.val (.int p1), .val (.int p2), .val (.int p3), .val (.ref (own_st p3 w_MERGE w_DIFF3 w_ZDIFF3)), .val (.ref bb_2), .val (.ref bb_3), .val (.ref bb_5), .val (.ref b7), .val (.int (own_w p1)), .val (.int (1 : Int32))] [(.ref b7)])) rfl (by rw [hml]; rfl) (Steps.refl _) (argsL := []) (rest := []) (lenOf pd_7 rfl) rfl (by show 2 * 0 + _ ≤ _; exact Nat.le_of_eq rfl) (hb hby at_116) (fun _ _ => ⟨rfl, e10, (by decide : 7 + 0 ≤ _), (by decide : 21 + 0 ≤ _)⟩)
    dsimp only [Pt.U, Pt.locs, Pt.cells, Pt.slots] at X14 l14 y14 z14 st14 hQ14
    subst l14 y14 z14
    obtain ⟨rfl, N14q, e14⟩ := hQ14
    have N14 := Fr.app N10 N14q
    obtain ⟨fs, hr, hrun, hended, hW, hsame⟩ := X14.leave (v := some (.int (1 : Int32))) (fun h => by rw [Bd.returns] at h; cases h)
    refine ⟨_, _, pre12 _ ?_, hrun, hended, _, _, rfl, ?_, ⟨_, rfl⟩, hW, hsame.mono (by decide) (by decide)⟩
    · skip
      refine XS.icmpYes X10.here hx rfl (pc0 := 70) (pc' := 89) rfl (hb hby at_70) rfl (tlt hc13).1 (by decide) (by decide) ?_
      show Steps p.tables e below (T10.setTop (mkF m 89 #[.val (.int p1), .val (.int p2), .val (.int p3), .val (.ref (own_st p3 w_MERGE w_DIFF3 w_ZDIFF3)), .val (.ref bb_2), .val (.ref bb_3), .val (.ref bb_5), .val (.ref b7), .val (.int (own_w p1)), .unset] [])) _
      refine XS.iload X10.here hx rfl (hb hby at_89) rfl ?_
      show Steps p.tables e below (T10.setTop (mkF m 91 #[.val (.int p1), .val (.int p2), .val (.int p3), .val (.ref (own_st p3 w_MERGE w_DIFF3 w_ZDIFF3)), .val (.ref bb_2), .val (.ref bb_3), .val (.ref bb_5), .val (.ref b7), .val (.int (own_w p1)), .unset] [(.int (own_w p1))])) _
      refine XS.bipush X10.here hx rfl (hb hby at_91) ?_
      show Steps p.tables e below (T10.setTop (mkF m 93 #[.val (.int p1), .val (.int p2), .val (.int p3), .val (.ref (own_st p3 w_MERGE w_DIFF3 w_ZDIFF3)), .val (.ref bb_2), .val (.ref bb_3), .val (.ref bb_5), .val (.ref b7), .val (.int (own_w p1)), .unset] [(.int (7 : Int32)), (.int (own_w p1))])) _
      refine XS.icmpNo X10.here hx rfl (hb hby at_93) rfl (teq (own_w2 hc13)).2 ?_
      show Steps p.tables e below (T10.setTop (mkF m 96 #[.val (.int p1), .val (.int p2), .val (.int p3), .val (.ref (own_st p3 w_MERGE w_DIFF3 w_ZDIFF3)), .val (.ref bb_2), .val (.ref bb_3), .val (.ref bb_5), .val (.ref b7), .val (.int (own_w p1)), .unset] [])) _
      refine XS.iconst X10.here hx rfl (hb hby at_96) ?_
      show Steps p.tables e below (T10.setTop (mkF m 97 #[.val (.int p1), .val (.int p2), .val (.int p3), .val (.ref (own_st p3 w_MERGE w_DIFF3 w_ZDIFF3)), .val (.ref bb_2), .val (.ref bb_3), .val (.ref bb_5), .val (.ref b7), .val (.int (own_w p1)), .unset] [(.int (1 : Int32))])) _
      refine XS.goto X10.here hx rfl (pc0 := 97) (pc' := 101) rfl (hb hby at_97) (by decide) (by decide) ?_
      show Steps p.tables e below (T10.setTop (mkF m 101 #[.val (.int p1), .val (.int p2), .val (.int p3), .val (.ref (own_st p3 w_MERGE w_DIFF3 w_ZDIFF3)), .val (.ref bb_2), .val (.ref bb_3), .val (.ref bb_5), .val (.ref b7), .val (.int (own_w p1)), .unset] [(.int (1 : Int32))])) _
      refine XS.istore X10.here hx rfl (hb hby at_101) rfl (l' := #[.val (.int p1), .val (.int p2), .val (.int p3), .val (.ref (own_st p3 w_MERGE w_DIFF3 w_ZDIFF3)), .val (.ref bb_2), .val (.ref bb_3), .val (.ref bb_5), .val (.ref b7), .val (.int (own_w p1)), .val (.int (1 : Int32))]) rfl ?_
      show Steps p.tables e below (T10.setTop (mkF m 103 #[.val (.int p1), .val (.int p2), .val (.int p3), .val (.ref (own_st p3 w_MERGE w_DIFF3 w_ZDIFF3)), .val (.ref bb_2), .val (.ref bb_3), .val (.ref bb_5), .val (.ref b7), .val (.int (own_w p1)), .val (.int (1 : Int32))] [])) _
      refine XS.iload X10.here hx rfl (hb hby at_103) rfl ?_
      show Steps p.tables e below (T10.setTop (mkF m 105 #[.val (.int p1), .val (.int p2), .val (.int p3), .val (.ref (own_st p3 w_MERGE w_DIFF3 w_ZDIFF3)), .val (.ref bb_2), .val (.ref bb_3), .val (.ref bb_5), .val (.ref b7), .val (.int (own_w p1)), .val (.int (1 : Int32))] [(.int (1 : Int32))])) _
      refine XS.ifNo X10.here hx rfl (hb hby at_105) rfl ((if0 _ _).trans (feq (by decide)).1) ?_
      show Steps p.tables e below (T10.setTop (mkF m 108 #[.val (.int p1), .val (.int p2), .val (.int p3), .val (.ref (own_st p3 w_MERGE w_DIFF3 w_ZDIFF3)), .val (.ref bb_2), .val (.ref bb_3), .val (.ref bb_5), .val (.ref b7), .val (.int (own_w p1)), .val (.int (1 : Int32))] [])) _
      refine XS.iload X10.here hx rfl (hb hby at_108) rfl ?_
      show Steps p.tables e below (T10.setTop (mkF m 110 #[.val (.int p1), .val (.int p2), .val (.int p3), .val (.ref (own_st p3 w_MERGE w_DIFF3 w_ZDIFF3)), .val (.ref bb_2), .val (.ref bb_3), .val (.ref bb_5), .val (.ref b7), .val (.int (own_w p1)), .val (.int (1 : Int32))] [(.int (own_w p1))])) _
      refine XS.iconst X10.here hx rfl (hb hby at_110) ?_
      show Steps p.tables e below (T10.setTop (mkF m 111 #[.val (.int p1), .val (.int p2), .val (.int p3), .val (.ref (own_st p3 w_MERGE w_DIFF3 w_ZDIFF3)), .val (.ref bb_2), .val (.ref bb_3), .val (.ref bb_5), .val (.ref b7), .val (.int (own_w p1)), .val (.int (1 : Int32))] [(.int (1 : Int32)), (.int (own_w p1))])) _
      refine XS.icmpNo X10.here hx rfl (hb hby at_111) rfl (flt (own_w3 p1)).1 ?_
      show Steps p.tables e below (T10.setTop (mkF m 114 #[.val (.int p1), .val (.int p2), .val (.int p3), .val (.ref (own_st p3 w_MERGE w_DIFF3 w_ZDIFF3)), .val (.ref bb_2), .val (.ref bb_3), .val (.ref bb_5), .val (.ref b7), .val (.int (own_w p1)), .val (.int (1 : Int32))] [])) _
      refine XS.aload X10.here hx rfl (hb hby at_114) rfl rfl ?_
      show Steps p.tables e below (T10.setTop (mkF m 116 #[.val (.int p1), .val (.int p2), .val (.int p3), .val (.ref (own_st p3 w_MERGE w_DIFF3 w_ZDIFF3)), .val (.ref bb_2), .val (.ref bb_3), .val (.ref bb_5), .val (.ref b7), .val (.int (own_w p1)), .val (.int (1 : Int32))] [(.ref b7)])) _
      refine st14.trans ?_
      show Steps p.tables e below (T14.setTop (mkF m 119 #[.val (.int p1), .val (.int p2), .val (.int p3), .val (.ref (own_st p3 w_MERGE w_DIFF3 w_ZDIFF3)), .val (.ref bb_2), .val (.ref bb_3), .val (.ref bb_5), .val (.ref b7), .val (.int (own_w p1)), .val (.int (1 : Int32))] [(.int p1)])) _
      refine XS.iloadN X14.here hx rfl (hb hby at_119) rfl ?_
      show Steps p.tables e below (T14.setTop (mkF m 120 #[.val (.int p1), .val (.int p2), .val (.int p3), .val (.ref (own_st p3 w_MERGE w_DIFF3 w_ZDIFF3)), .val (.ref bb_2), .val (.ref bb_3), .val (.ref bb_5), .val (.ref b7), .val (.int (own_w p1)), .val (.int (1 : Int32))] [(.int p1), (.int p1)])) _
      refine XS.icmpNo X14.here hx rfl (hb hby at_120) rfl (teq rfl).2 ?_
      show Steps p.tables e below (T14.setTop (mkF m 123 #[.val (.int p1), .val (.int p2), .val (.int p3), .val (.ref (own_st p3 w_MERGE w_DIFF3 w_ZDIFF3)), .val (.ref bb_2), .val (.ref bb_3), .val (.ref bb_5), .val (.ref b7), .val (.int (own_w p1)), .val (.int (1 : Int32))] [])) _
      refine XS.iconst X14.here hx rfl (hb hby at_123) ?_
      show Steps p.tables e below (T14.setTop (mkF m 124 #[.val (.int p1), .val (.int p2), .val (.int p3), .val (.ref (own_st p3 w_MERGE w_DIFF3 w_ZDIFF3)), .val (.ref bb_2), .val (.ref bb_3), .val (.ref bb_5), .val (.ref b7), .val (.int (own_w p1)), .val (.int (1 : Int32))] [(.int (1 : Int32))])) _
      refine XS.goto X14.here hx rfl (pc0 := 124) (pc' := 128) rfl (hb hby at_124) (by decide) (by decide) ?_
      show Steps p.tables e below (T14.setTop (mkF m 128 #[.val (.int p1), .val (.int p2), .val (.int p3), .val (.ref (own_st p3 w_MERGE w_DIFF3 w_ZDIFF3)), .val (.ref bb_2), .val (.ref bb_3), .val (.ref bb_5), .val (.ref b7), .val (.int (own_w p1)), .val (.int (1 : Int32))] [(.int (1 : Int32))])) _
      exact retN X14 hx (t := .boolean) Bd.returns (by simp) (hb hby at_128) hr
    · show Q_rm0 Z p1 p2 p3 w_MERGE w_DIFF3 w_ZDIFF3 w_NONE vcs h0 n0 _ T14.heap _
      rw [e14]
      exact ⟨rfl, N14, K8⟩
  · skip
    obtain ⟨cq16, kq16, q16a, q16b, q16c⟩ := isOf hZ e10 f11
    obtain ⟨_, _, ⟨T16, L16, k16, n16⟩, -, X16, ⟨Lc16, hQ16, l16, y16, z16⟩, st16⟩ := X10.virtualBack hx (y := (⟨"com/example/mergewright/mergewright/merge/MergeOptions", "markerSize", "()I"⟩ : MethodName)) (z := (⟨"com/example/mergewright/mergewright/merge/MergeOptions", "markerSize", "()I"⟩ : MethodName)) hown (mvT hZ (kw64 hw)) (mvT hZ (kw65 hw)) (notFace_of_selects (args := #[]) (mvT hZ (kw67 hw))) (mvT hZ (kw67 hw)) (mvT hZ (kw66 hw)) (by decide) (backOf (W := 0) (rm10 l Z a0 hw [] b7 p1 T8.heap n0 Z8 p8_0) hZ (kw68 hw) (kw36 hw) (by decide) (by decide)) q16a q16c (g := (mkF m 116 #[.val (.int p1), .val (.int p2), .val (.int p3), .val (.ref (own_st p3 w_MERGE w_DIFF3 w_ZDIFF3)), .val (.ref bb_2), .val (.ref bb_3), .val (.ref bb_5), .val (.ref b7), .val (.int (own_w p1)), .val (.int (1 : Int32))] [(.ref b7)])) rfl (by rw [hml]; rfl) (Steps.refl _) (argsL := []) (rest := []) (lenOf pd_7 rfl) rfl (by show 2 * 0 + _ ≤ _; exact Nat.le_of_eq rfl) (hb hby at_116) (fun _ _ => ⟨rfl, e10, (by decide : 7 + 0 ≤ _), (by decide : 21 + 0 ≤ _)⟩)
    dsimp only [Pt.U, Pt.locs, Pt.cells, Pt.slots] at X16 l16 y16 z16 st16 hQ16
    subst l16 y16 z16
    obtain ⟨rfl, N16q, e16⟩ := hQ16
    have N16 := Fr.app N10 N16q
    obtain ⟨fs, hr, hrun, hended, hW, hsame⟩ := X16.leave (v := some (.int (1 : Int32))) (fun h => by rw [Bd.returns] at h; cases h)
    refine ⟨_, _, pre12 _ ?_, hrun, hended, _, _, rfl, ?_, ⟨_, rfl⟩, hW, hsame.mono (by decide) (by decide)⟩
    · skip
      refine XS.icmpNo X10.here hx rfl (hb hby at_70) rfl (flt hc13).1 ?_
      show Steps p.tables e below (T10.setTop (mkF m 73 #[.val (.int p1), .val (.int p2), .val (.int p3), .val (.ref (own_st p3 w_MERGE w_DIFF3 w_ZDIFF3)), .val (.ref bb_2), .val (.ref bb_3), .val (.ref bb_5), .val (.ref b7), .val (.int (own_w p1)), .unset] [])) _
      refine XS.iload X10.here hx rfl (hb hby at_73) rfl ?_
      show Steps p.tables e below (T10.setTop (mkF m 75 #[.val (.int p1), .val (.int p2), .val (.int p3), .val (.ref (own_st p3 w_MERGE w_DIFF3 w_ZDIFF3)), .val (.ref bb_2), .val (.ref bb_3), .val (.ref bb_5), .val (.ref b7), .val (.int (own_w p1)), .unset] [(.int (own_w p1))])) _
      refine XS.iloadN X10.here hx rfl (hb hby at_75) rfl ?_
      show Steps p.tables e below (T10.setTop (mkF m 76 #[.val (.int p1), .val (.int p2), .val (.int p3), .val (.ref (own_st p3 w_MERGE w_DIFF3 w_ZDIFF3)), .val (.ref bb_2), .val (.ref bb_3), .val (.ref bb_5), .val (.ref b7), .val (.int (own_w p1)), .unset] [(.int p1), (.int (own_w p1))])) _
      refine XS.icmpNo X10.here hx rfl (hb hby at_76) rfl (teq (own_w1 hc13)).2 ?_
      show Steps p.tables e below (T10.setTop (mkF m 79 #[.val (.int p1), .val (.int p2), .val (.int p3), .val (.ref (own_st p3 w_MERGE w_DIFF3 w_ZDIFF3)), .val (.ref bb_2), .val (.ref bb_3), .val (.ref bb_5), .val (.ref b7), .val (.int (own_w p1)), .unset] [])) _
      refine XS.iconst X10.here hx rfl (hb hby at_79) ?_
      show Steps p.tables e below (T10.setTop (mkF m 80 #[.val (.int p1), .val (.int p2), .val (.int p3), .val (.ref (own_st p3 w_MERGE w_DIFF3 w_ZDIFF3)), .val (.ref bb_2), .val (.ref bb_3), .val (.ref bb_5), .val (.ref b7), .val (.int (own_w p1)), .unset] [(.int (1 : Int32))])) _
      refine XS.goto X10.here hx rfl (pc0 := 80) (pc' := 84) rfl (hb hby at_80) (by decide) (by decide) ?_
      show Steps p.tables e below (T10.setTop (mkF m 84 #[.val (.int p1), .val (.int p2), .val (.int p3), .val (.ref (own_st p3 w_MERGE w_DIFF3 w_ZDIFF3)), .val (.ref bb_2), .val (.ref bb_3), .val (.ref bb_5), .val (.ref b7), .val (.int (own_w p1)), .unset] [(.int (1 : Int32))])) _
      refine XS.istore X10.here hx rfl (hb hby at_84) rfl (l' := #[.val (.int p1), .val (.int p2), .val (.int p3), .val (.ref (own_st p3 w_MERGE w_DIFF3 w_ZDIFF3)), .val (.ref bb_2), .val (.ref bb_3), .val (.ref bb_5), .val (.ref b7), .val (.int (own_w p1)), .val (.int (1 : Int32))]) rfl ?_
      show Steps p.tables e below (T10.setTop (mkF m 86 #[.val (.int p1), .val (.int p2), .val (.int p3), .val (.ref (own_st p3 w_MERGE w_DIFF3 w_ZDIFF3)), .val (.ref bb_2), .val (.ref bb_3), .val (.ref bb_5), .val (.ref b7), .val (.int (own_w p1)), .val (.int (1 : Int32))] [])) _
      refine XS.goto X10.here hx rfl (pc0 := 86) (pc' := 103) rfl (hb hby at_86) (by decide) (by decide) ?_
      show Steps p.tables e below (T10.setTop (mkF m 103 #[.val (.int p1), .val (.int p2), .val (.int p3), .val (.ref (own_st p3 w_MERGE w_DIFF3 w_ZDIFF3)), .val (.ref bb_2), .val (.ref bb_3), .val (.ref bb_5), .val (.ref b7), .val (.int (own_w p1)), .val (.int (1 : Int32))] [])) _
      refine XS.iload X10.here hx rfl (hb hby at_103) rfl ?_
      show Steps p.tables e below (T10.setTop (mkF m 105 #[.val (.int p1), .val (.int p2), .val (.int p3), .val (.ref (own_st p3 w_MERGE w_DIFF3 w_ZDIFF3)), .val (.ref bb_2), .val (.ref bb_3), .val (.ref bb_5), .val (.ref b7), .val (.int (own_w p1)), .val (.int (1 : Int32))] [(.int (1 : Int32))])) _
      refine XS.ifNo X10.here hx rfl (hb hby at_105) rfl ((if0 _ _).trans (feq (by decide)).1) ?_
      show Steps p.tables e below (T10.setTop (mkF m 108 #[.val (.int p1), .val (.int p2), .val (.int p3), .val (.ref (own_st p3 w_MERGE w_DIFF3 w_ZDIFF3)), .val (.ref bb_2), .val (.ref bb_3), .val (.ref bb_5), .val (.ref b7), .val (.int (own_w p1)), .val (.int (1 : Int32))] [])) _
      refine XS.iload X10.here hx rfl (hb hby at_108) rfl ?_
      show Steps p.tables e below (T10.setTop (mkF m 110 #[.val (.int p1), .val (.int p2), .val (.int p3), .val (.ref (own_st p3 w_MERGE w_DIFF3 w_ZDIFF3)), .val (.ref bb_2), .val (.ref bb_3), .val (.ref bb_5), .val (.ref b7), .val (.int (own_w p1)), .val (.int (1 : Int32))] [(.int (own_w p1))])) _
      refine XS.iconst X10.here hx rfl (hb hby at_110) ?_
      show Steps p.tables e below (T10.setTop (mkF m 111 #[.val (.int p1), .val (.int p2), .val (.int p3), .val (.ref (own_st p3 w_MERGE w_DIFF3 w_ZDIFF3)), .val (.ref bb_2), .val (.ref bb_3), .val (.ref bb_5), .val (.ref b7), .val (.int (own_w p1)), .val (.int (1 : Int32))] [(.int (1 : Int32)), (.int (own_w p1))])) _
      refine XS.icmpNo X10.here hx rfl (hb hby at_111) rfl (flt (own_w3 p1)).1 ?_
      show Steps p.tables e below (T10.setTop (mkF m 114 #[.val (.int p1), .val (.int p2), .val (.int p3), .val (.ref (own_st p3 w_MERGE w_DIFF3 w_ZDIFF3)), .val (.ref bb_2), .val (.ref bb_3), .val (.ref bb_5), .val (.ref b7), .val (.int (own_w p1)), .val (.int (1 : Int32))] [])) _
      refine XS.aload X10.here hx rfl (hb hby at_114) rfl rfl ?_
      show Steps p.tables e below (T10.setTop (mkF m 116 #[.val (.int p1), .val (.int p2), .val (.int p3), .val (.ref (own_st p3 w_MERGE w_DIFF3 w_ZDIFF3)), .val (.ref bb_2), .val (.ref bb_3), .val (.ref bb_5), .val (.ref b7), .val (.int (own_w p1)), .val (.int (1 : Int32))] [(.ref b7)])) _
      refine st16.trans ?_
      show Steps p.tables e below (T16.setTop (mkF m 119 #[.val (.int p1), .val (.int p2), .val (.int p3), .val (.ref (own_st p3 w_MERGE w_DIFF3 w_ZDIFF3)), .val (.ref bb_2), .val (.ref bb_3), .val (.ref bb_5), .val (.ref b7), .val (.int (own_w p1)), .val (.int (1 : Int32))] [(.int p1)])) _
      refine XS.iloadN X16.here hx rfl (hb hby at_119) rfl ?_
      show Steps p.tables e below (T16.setTop (mkF m 120 #[.val (.int p1), .val (.int p2), .val (.int p3), .val (.ref (own_st p3 w_MERGE w_DIFF3 w_ZDIFF3)), .val (.ref bb_2), .val (.ref bb_3), .val (.ref bb_5), .val (.ref b7), .val (.int (own_w p1)), .val (.int (1 : Int32))] [(.int p1), (.int p1)])) _
      refine XS.icmpNo X16.here hx rfl (hb hby at_120) rfl (teq rfl).2 ?_
      show Steps p.tables e below (T16.setTop (mkF m 123 #[.val (.int p1), .val (.int p2), .val (.int p3), .val (.ref (own_st p3 w_MERGE w_DIFF3 w_ZDIFF3)), .val (.ref bb_2), .val (.ref bb_3), .val (.ref bb_5), .val (.ref b7), .val (.int (own_w p1)), .val (.int (1 : Int32))] [])) _
      refine XS.iconst X16.here hx rfl (hb hby at_123) ?_
      show Steps p.tables e below (T16.setTop (mkF m 124 #[.val (.int p1), .val (.int p2), .val (.int p3), .val (.ref (own_st p3 w_MERGE w_DIFF3 w_ZDIFF3)), .val (.ref bb_2), .val (.ref bb_3), .val (.ref bb_5), .val (.ref b7), .val (.int (own_w p1)), .val (.int (1 : Int32))] [(.int (1 : Int32))])) _
      refine XS.goto X16.here hx rfl (pc0 := 124) (pc' := 128) rfl (hb hby at_124) (by decide) (by decide) ?_
      show Steps p.tables e below (T16.setTop (mkF m 128 #[.val (.int p1), .val (.int p2), .val (.int p3), .val (.ref (own_st p3 w_MERGE w_DIFF3 w_ZDIFF3)), .val (.ref bb_2), .val (.ref bb_3), .val (.ref bb_5), .val (.ref b7), .val (.int (own_w p1)), .val (.int (1 : Int32))] [(.int (1 : Int32))])) _
      exact retN X16 hx (t := .boolean) Bd.returns (by simp) (hb hby at_128) hr
    · show Q_rm0 Z p1 p2 p3 w_MERGE w_DIFF3 w_ZDIFF3 w_NONE vcs h0 n0 _ T16.heap _
      rw [e16]
      exact ⟨rfl, N16, K8⟩
set_option maxRecDepth 65536 in
set_option maxHeartbeats 40000000 in
theorem comes_1 {Post : Tables → Env → Array Value → State → Outcome → State → Prop} (hpost : ∀ tb e args s v u, (limb_1_1.after args s (.returned v) u = true ∧ limb_1_2.after args s (.returned v) u = true ∧ True) → FrameEnd s (.returned v) u (Jvm.fieldLocs frame_1_writes args s ++ Jvm.arrayLocs frame_1_arrays args s ++ Jvm.staticLocs frame_1_statics s) 24 128 → Post tb e args s (.returned v) u) :
    ArmFor flags0 classFile x code maxLocals ret World_1 tables_1 room_1 Calls_1 rest_1 Pre_1 Post := by
  intro l hfl _ _ p e ha hc hk s m args below hf hA hF happ hP
  obtain ⟨hcalls, hrest, hpre⟩ := hP
  obtain ⟨-, -, -, hnamed, -, -, -, hat⟩ := (Spec.applies_iff hf).mp happ
  obtain ⟨hg, hn⟩ := and_e (Cond.before_iff.mp (show (Jvm.Cond.and given_1 narrow_1).before args s = true from hpre))
  obtain ⟨g1, g2⟩ := and_e hg
  obtain ⟨g3, g4⟩ := and_e g2
  obtain ⟨g5, g6⟩ := and_e g4
  obtain ⟨g7, g8⟩ := and_e hn
  obtain ⟨g9, g10⟩ := and_e g8
  obtain ⟨g11, g12⟩ := and_e g10
  obtain ⟨w0, w1, w2, rfl⟩ : ∃ w0 w1 w2 : Value, args = #[w0, w1, w2] := by
    have hs : args.size = 3 := by simpa [Cond.value, given_1] using g1
    obtain ⟨L⟩ := args
    match L, hs with
    | [w0, w1, w2], _ => exact ⟨w0, w1, w2, rfl⟩
  have hw0 := fun d (hd : d ∈ tables_1) => atoms_spec (ws := Jvm.Cond.code x code maxLocals ret :: tables_1) hat d (List.mem_cons_of_mem _ hd)
  have hfit : Fit s := fun {y c} hc i hi => by
    obtain ⟨ha, rfl⟩ := Array.getElem?_eq_some_iff.mp hc
    have q := List.all_eq_true.mp ((Array.all_eq_true_iff_forall_mem.mp hF) _ (Array.getElem_mem ha)) i (List.mem_range.mpr hi)
    simpa [Array.getElem?_eq_getElem hi] using q
  obtain ⟨hsets, hown0⟩ := atoms_of _ (rest_1_c_eq ▸ (show rest_1_c.before _ s = true from hrest))
  have hw : ∀ d ∈ own_tab, d.before _ s = true := fun d hd => (List.mem_append.mp hd).elim (hw0 d) (hsets d)
  obtain ⟨i0, ei0⟩ := is_v g3
  obtain rfl : w0 = (.int i0) := Option.some.inj ei0
  obtain ⟨i1, ei1⟩ := is_v g5
  obtain rfl : w1 = (.int i1) := Option.some.inj ei1
  obtain ⟨i2, ei2⟩ := is_v g6
  obtain rfl : w2 = (.int i2) := Option.some.inj ei2
  have j13 := Cond.before_iff.mp (hsets _ (List.mem_of_getElem? (i := 1) rfl))
  have j14 := Cond.before_iff.mp (hsets _ (List.mem_of_getElem? (i := 2) rfl))
  have j15 := Cond.before_iff.mp (hsets _ (List.mem_of_getElem? (i := 8) rfl))
  obtain ⟨w_ZDIFF3, ev_w_ZDIFF3⟩ := exa_v g7
  have S_w_ZDIFF3 := Sta.start ev_w_ZDIFF3 (Or.inr ⟨(kw6 hw), (kw7 hw)⟩)
  have Ex_w_ZDIFF3 : Exa s s.heap w_ZDIFF3 "com/example/mergewright/mergewright/merge/MergeOptions$ConflictStyle" := Exa.start ev_w_ZDIFF3 g7
  obtain ⟨w_NONE, ev_w_NONE⟩ := exa_v g9
  have S_w_NONE := Sta.start ev_w_NONE (Or.inr ⟨(kw41 hw), (kw42 hw)⟩)
  have Ex_w_NONE : Exa s s.heap w_NONE "com/example/mergewright/mergewright/merge/MergeOptions$Favor" := Exa.start ev_w_NONE g9
  obtain ⟨w_MERGE, ev_w_MERGE⟩ := exa_v g11
  have S_w_MERGE := Sta.start ev_w_MERGE (Or.inr ⟨(kw6 hw), (kw70 hw)⟩)
  have Ex_w_MERGE : Exa s s.heap w_MERGE "com/example/mergewright/mergewright/merge/MergeOptions$ConflictStyle" := Exa.start ev_w_MERGE g11
  obtain ⟨w_DIFF3, ev_w_DIFF3⟩ := exa_v g12
  have S_w_DIFF3 := Sta.start ev_w_DIFF3 (Or.inr ⟨(kw6 hw), (kw72 hw)⟩)
  have Ex_w_DIFF3 : Exa s s.heap w_DIFF3 "com/example/mergewright/mergewright/merge/MergeOptions$ConflictStyle" := Exa.start ev_w_DIFF3 g12
  obtain ⟨vcs, ev_cs⟩ := is_v (Cond.before_iff.mp (hsets _ (List.mem_of_getElem? (i := 1) rfl)))
  have S_cs := Sta.start ev_cs (Or.inl (kw73 hw))
  have hvcs := own_nostat ev_cs (Cond.before_iff.mp (hsets _ (List.mem_of_getElem? (i := 2) rfl)))
  obtain ⟨n, o, h1, h2, h3, _, L, rfl, ⟨rfl, N, -⟩, hq⟩ := rm0 l s _ hw tables_1 i0 i1 i2 w_MERGE w_DIFF3 w_ZDIFF3 w_NONE vcs s.heap s.heap.size (Nat.le_refl _) (Old.start s) S_cs hvcs S_w_NONE S_w_MERGE S_w_DIFF3 S_w_ZDIFF3 p e ha hc hk s m _ below hf ((Spec.applies_iff_loose hf).mp happ).1 ⟨rfl, State.Warmed39.refl s, rfl⟩ trivial
  refine ⟨n, _, h1, h2, h3, hpost _ _ _ _ _ _ ⟨Cond.after_iff.mpr rfl, Cond.after_iff.mpr (eq_i res_at (Term.int_eval (1)) rfl), trivial⟩ ⟨hq.1, hq.2.1, (hq.2.2.sift fun y hy => Or.inr (N y hy)).mono (by decide) (by decide)⟩⟩
theorem main_1_1 : Claimed_1_1 := comes_1 fun _ _ _ _ _ _ h hF => ⟨h.1, hF⟩
theorem main_1_2 : Claimed_1_2 := comes_1 fun _ _ _ _ _ _ h hF => ⟨h.2.1, hF⟩
end Jvm.Pilot.@@N@@
namespace Jvm.Pilot.@@N@@
open Jvm Jvm.ClassFile Sem Op Lib Jvm.Free Jvm.Stand Jvm.Pilot.@@N@@.Jvm.D
/-! MADE BY PROGRAM (witnessworld.py) out of the Statement's table words and the real class files: 20 classes; the members and pool entries that the words name. The judged class is class 1, her method 2. -/
namespace start1
open Jvm.ClassFile
def u (s : String) : CpInfo := .utf8 (stringToUtf16 s)
/-- a pool by its gaps: so many unusable entries, then the entry; so many at the end -/
def gap : Nat → List CpInfo → List CpInfo
  | 0, r => r
  | n + 1, r => .unusable :: gap n r
def poolList (es : List (Nat × CpInfo)) (last : Nat) : List CpInfo := es.foldr (fun e r => gap e.1 (e.2 :: r)) (gap last [])
def pool (es : List (Nat × CpInfo)) (last : Nat) : Array CpInfo := ⟨poolList es last⟩
def fileOf (pool : Array CpInfo) (this : Nat) (attrs : Array Attribute := #[]) (ms : Array MethodInfo := #[]) (fl : Nat := 33) (sup : Nat := 0) (ifs : Array Nat := #[]) (fds : Array FieldInfo := #[]) : ClassFile where
  minorVersion := 0
  majorVersion := 65
  constantPool := pool
  accessFlags := fl
  thisClass := this
  superClass := sup
  interfaces := ifs
  fields := fds
  methods := ms
  attributes := attrs
def plain (name : String) (sup : Option ClassId) : Class where
  name := name
  kind := .ordinary
  loader := none
  accessFlags := 33
  super := sup
  interfaces := #[]
  cf := none
  fields := #[]
  methods := #[]
  instanceTypes := #[]
  staticTypes := #[]
  resolved := #[]
  callSites := []
  init := .initialized
  statics := none
  mirror := none

def pool0 : Array CpInfo := pool [(5, u "<init>"), (0, u "()V"), (1, .class_ 10), (1, u "java/lang/Object")] 113

def k0c0 : Code := { maxStack := 0, maxLocals := 1, code := object_method_1_code, exceptionTable := #[], attributes := #[] }
def k0m0 : Method := { name := "<init>", desc := "()V", sig := { parameters := [], returnType := none }, accessFlags := 1, code := some k0c0 }
/-- java/lang/Object -/
def k0 : Class := { plain "java/lang/Object" none with
  accessFlags := 33
  interfaces := #[]
  cf := some (fileOf pool0 8 #[] #[{ accessFlags := 1, nameIndex := 5, descriptorIndex := 6, attributes := #[] }] 33 0 #[] #[])
  fields := #[]
  methods := #[k0m0]
  instanceTypes := #[]
  staticTypes := #[]
  resolved := Array.replicate 124 none
  statics := none }

def pool1 : Array CpInfo := pool [(2, .class_ 4), (1, u "java/lang/Object"), (0, u "<init>"), (0, u "()V"), (0, .integer 2147483647), (0, .fieldref 9 10), (0, .class_ 11), (0, .nameAndType 12 13), (0, u "com/example/mergewright/mergewright/merge/MergeOptions$ConflictStyle"), (0, u "MERGE"), (0, u "Lcom/example/mergewright/mergewright/merge/MergeOptions$ConflictStyle;"), (0, .fieldref 9 15), (0, .nameAndType 16 13), (0, u "DIFF3"), (0, .fieldref 9 18), (0, .nameAndType 19 13), (0, u "ZDIFF3"), (0, .methodref 21 22), (0, .class_ 23), (0, .nameAndType 24 25), (0, u "com/example/mergewright/mergewright/merge/MergeOptionsWrittenMarkerSizePinLaw"), (0, u "styleOf"), (0, u "(I)Lcom/example/mergewright/mergewright/merge/MergeOptions$ConflictStyle;"), (0, .methodref 27 28), (0, .class_ 29), (0, .nameAndType 30 31), (0, u "java/lang/String"), (0, u "valueOf"), (0, u "(C)Ljava/lang/String;"), (0, .class_ 33), (0, u "com/example/mergewright/mergewright/merge/MergeOptions"), (0, .methodref 32 35), (0, .nameAndType 5 36), (0, u "(Ljava/lang/String;Ljava/lang/String;Ljava/lang/String;ILcom/example/mergewright/mergewright/merge/MergeOptions$ConflictStyle;)V"), (0, .methodref 32 38), (0, .nameAndType 39 40), (0, u "writtenMarkerSize"), (0, u "()I"), (0, .methodref 32 42), (0, .nameAndType 43 40), (0, u "markerSize"), (3, u "law"), (0, u "(III)Z")] 4

def k1m0 : Method := { name := "<init>", desc := "()V", sig := { parameters := [], returnType := none }, accessFlags := 1, code := none }
def k1c1 : Code := { maxStack := 2, maxLocals := 2, code := method_2_code, exceptionTable := #[], attributes := #[] }
def k1m1 : Method := { name := "styleOf", desc := "(I)Lcom/example/mergewright/mergewright/merge/MergeOptions$ConflictStyle;", sig := { parameters := [.int], returnType := some (.object "com/example/mergewright/mergewright/merge/MergeOptions$ConflictStyle") }, accessFlags := 10, code := some k1c1 }
def k1c2 : Code := { maxStack := 7, maxLocals := 10, code := code, exceptionTable := #[], attributes := #[] }
def k1m2 : Method := { name := "law", desc := "(III)Z", sig := { parameters := [.int, .int, .int], returnType := some .boolean }, accessFlags := 9, code := some k1c2 }
/-- com/example/mergewright/mergewright/merge/MergeOptionsWrittenMarkerSizePinLaw -/
def k1 : Class := { plain "com/example/mergewright/mergewright/merge/MergeOptionsWrittenMarkerSizePinLaw" (some 0) with
  accessFlags := 49
  interfaces := #[]
  cf := some (fileOf pool1 21 #[] #[{ accessFlags := 1, nameIndex := 5, descriptorIndex := 6, attributes := #[] }, { accessFlags := 10, nameIndex := 24, descriptorIndex := 25, attributes := #[] }, { accessFlags := 9, nameIndex := 47, descriptorIndex := 48, attributes := #[] }] 49 2 #[] #[])
  fields := #[]
  methods := #[k1m0, k1m1, k1m2]
  instanceTypes := #[]
  staticTypes := #[]
  resolved := Array.replicate 53 none
  statics := none }

def pool2 : Array CpInfo := pool [(1, .class_ 2), (0, u "java/lang/constant/Constable"), (0, .class_ 4), (0, u "java/lang/Object")] 6

/-- java/lang/constant/Constable -/
def k2 : Class := { plain "java/lang/constant/Constable" (some 0) with
  accessFlags := 1537
  interfaces := #[]
  cf := some (fileOf pool2 1 #[] #[] 1537 3 #[] #[])
  fields := #[]
  methods := #[]
  instanceTypes := #[]
  staticTypes := #[]
  resolved := Array.replicate 11 none
  statics := none }

def pool3 : Array CpInfo := pool [(1, .class_ 2), (0, u "java/lang/Comparable"), (0, .class_ 4), (0, u "java/lang/Object")] 7

/-- java/lang/Comparable -/
def k3 : Class := { plain "java/lang/Comparable" (some 0) with
  accessFlags := 1537
  interfaces := #[]
  cf := some (fileOf pool3 1 #[] #[] 1537 3 #[] #[])
  fields := #[]
  methods := #[]
  instanceTypes := #[]
  staticTypes := #[]
  resolved := Array.replicate 12 none
  statics := none }

def pool4 : Array CpInfo := pool [(1, .class_ 2), (0, u "java/io/Serializable"), (0, .class_ 4), (0, u "java/lang/Object")] 2

/-- java/io/Serializable -/
def k4 : Class := { plain "java/io/Serializable" (some 0) with
  accessFlags := 1537
  interfaces := #[]
  cf := some (fileOf pool4 1 #[] #[] 1537 3 #[] #[])
  fields := #[]
  methods := #[]
  instanceTypes := #[]
  staticTypes := #[]
  resolved := Array.replicate 7 none
  statics := none }

def pool5 : Array CpInfo := pool [(2, .class_ 4), (1, u "java/lang/Enum"), (0, u "name"), (0, u "Ljava/lang/String;"), (2, u "ordinal"), (0, u "I"), (1, .class_ 14), (1, u "java/lang/Object"), (4, u "hash"), (86, .class_ 108), (1, u "java/lang/Enum$EnumDesc"), (2, .class_ 112), (0, u "java/lang/constant/Constable"), (0, .class_ 114), (0, u "java/lang/Comparable"), (0, .class_ 116), (0, u "java/io/Serializable")] 87

/-- java/lang/Enum -/
def k5 : Class := { plain "java/lang/Enum" (some 0) with
  accessFlags := 1057
  interfaces := #[2, 3, 4]
  cf := some (fileOf pool5 2 #[.nestMembers #[106]] #[] 1057 12 #[111, 113, 115] #[{ accessFlags := 18, nameIndex := 5, descriptorIndex := 6, attributes := #[] }, { accessFlags := 18, nameIndex := 9, descriptorIndex := 10, attributes := #[] }, { accessFlags := 2, nameIndex := 19, descriptorIndex := 10, attributes := #[] }])
  fields := #[{ name := "name", type := (.object "java/lang/String"), accessFlags := 18, slot := 0, constantValue := 0 }, { name := "ordinal", type := .int, accessFlags := 18, slot := 1, constantValue := 0 }, { name := "hash", type := .int, accessFlags := 2, slot := 2, constantValue := 0 }]
  methods := #[]
  instanceTypes := #[(.object "java/lang/String"), .int, .int]
  staticTypes := #[]
  resolved := Array.replicate 204 none
  statics := none }

def pool6 : Array CpInfo := pool [(1, .class_ 2), (0, u "com/example/mergewright/mergewright/merge/MergeOptions$ConflictStyle"), (2, u "MERGE"), (0, u "Lcom/example/mergewright/mergewright/merge/MergeOptions$ConflictStyle;"), (2, u "DIFF3"), (2, u "ZDIFF3"), (2, u "$VALUES"), (0, u "[Lcom/example/mergewright/mergewright/merge/MergeOptions$ConflictStyle;"), (6, .class_ 25), (1, u "java/lang/Enum"), (8, u "gitOption"), (0, u "Ljava/util/Optional;"), (42, .class_ 79), (0, u "com/example/mergewright/mergewright/merge/MergeOptions")] 2

/-- com/example/mergewright/mergewright/merge/MergeOptions$ConflictStyle -/
def k6 : Class := { plain "com/example/mergewright/mergewright/merge/MergeOptions$ConflictStyle" (some 5) with
  accessFlags := 16433
  interfaces := #[]
  cf := some (fileOf pool6 1 #[.nestHost 78] #[] 16433 23 #[] #[{ accessFlags := 16409, nameIndex := 5, descriptorIndex := 6, attributes := #[] }, { accessFlags := 16409, nameIndex := 9, descriptorIndex := 6, attributes := #[] }, { accessFlags := 16409, nameIndex := 12, descriptorIndex := 6, attributes := #[] }, { accessFlags := 18, nameIndex := 34, descriptorIndex := 35, attributes := #[] }, { accessFlags := 4122, nameIndex := 15, descriptorIndex := 16, attributes := #[] }])
  fields := #[{ name := "MERGE", type := (.object "com/example/mergewright/mergewright/merge/MergeOptions$ConflictStyle"), accessFlags := 16409, slot := 0, constantValue := 0 }, { name := "DIFF3", type := (.object "com/example/mergewright/mergewright/merge/MergeOptions$ConflictStyle"), accessFlags := 16409, slot := 1, constantValue := 0 }, { name := "ZDIFF3", type := (.object "com/example/mergewright/mergewright/merge/MergeOptions$ConflictStyle"), accessFlags := 16409, slot := 2, constantValue := 0 }, { name := "gitOption", type := (.object "java/util/Optional"), accessFlags := 18, slot := 3, constantValue := 0 }, { name := "$VALUES", type := (.array (.object "com/example/mergewright/mergewright/merge/MergeOptions$ConflictStyle")), accessFlags := 4122, slot := 3, constantValue := 0 }]
  methods := #[]
  instanceTypes := #[(.object "java/lang/String"), .int, .int, (.object "java/util/Optional")]
  staticTypes := #[(.object "com/example/mergewright/mergewright/merge/MergeOptions$ConflictStyle"), (.object "com/example/mergewright/mergewright/merge/MergeOptions$ConflictStyle"), (.object "com/example/mergewright/mergewright/merge/MergeOptions$ConflictStyle"), (.array (.object "com/example/mergewright/mergewright/merge/MergeOptions$ConflictStyle"))]
  resolved := Array.replicate 82 none
  statics := some 0 }

def pool7 : Array CpInfo := pool [(2, .class_ 4), (1, u "java/lang/CharSequence"), (42, .class_ 48), (0, u "java/lang/CharSequence$1CodePointIterator"), (10, .class_ 60), (0, u "java/lang/CharSequence$1CharIterator"), (5, .class_ 67), (0, u "java/lang/Object")] 63

/-- java/lang/CharSequence -/
def k7 : Class := { plain "java/lang/CharSequence" (some 0) with
  accessFlags := 1537
  interfaces := #[]
  cf := some (fileOf pool7 2 #[.nestMembers #[47, 59]] #[] 1537 66 #[] #[])
  fields := #[]
  methods := #[]
  instanceTypes := #[]
  staticTypes := #[]
  resolved := Array.replicate 131 none
  statics := none }

def pool8 : Array CpInfo := pool [(1, .class_ 2), (0, u "java/lang/constant/ConstantDesc"), (0, .class_ 4), (0, u "java/lang/Object")] 32

/-- java/lang/constant/ConstantDesc -/
def k8 : Class := { plain "java/lang/constant/ConstantDesc" (some 0) with
  accessFlags := 1537
  interfaces := #[]
  cf := some (fileOf pool8 1 #[] #[] 1537 3 #[] #[])
  fields := #[]
  methods := #[]
  instanceTypes := #[]
  staticTypes := #[]
  resolved := Array.replicate 37 none
  statics := none }

def pool9 : Array CpInfo := pool [(1, .methodref 2 3), (0, .class_ 4), (0, .nameAndType 5 6), (0, u "java/lang/Object"), (0, u "<init>"), (0, u "()V"), (2, .fieldref 10 11), (0, .class_ 12), (0, .nameAndType 13 14), (0, u "java/lang/String"), (0, u "value"), (0, u "[B"), (0, .fieldref 10 16), (0, .nameAndType 17 18), (0, u "coder"), (0, u "B"), (2, u "hash"), (0, u "I"), (2, u "hashIsZero"), (0, u "Z"), (11, .fieldref 10 39), (0, .nameAndType 40 26), (0, u "COMPACT_STRINGS"), (12, u "toBytes"), (53, .class_ 109), (1, u "java/lang/StringLatin1"), (99, .methodref 10 210), (0, .nameAndType 5 211), (0, u "([BB)V"), (157, u "(C)Z"), (205, .class_ 576), (0, u "java/lang/CharSequence"), (22, u "CASE_INSENSITIVE_ORDER"), (0, u "Ljava/util/Comparator;"), (181, u "valueOf"), (0, u "(C)Ljava/lang/String;"), (231, .methodref 107 1016), (0, .nameAndType 1017 369), (0, u "canEncode"), (0, .methodref 107 1019), (0, .nameAndType 53 1020), (0, u "(C)[B"), (80, u "serialPersistentFields"), (0, u "[Ljava/io/ObjectStreamField;"), (0, .class_ 1104), (0, u "java/lang/String$CaseInsensitiveComparator"), (1, .class_ 1107), (0, u "java/io/Serializable"), (0, .class_ 1109), (0, u "java/lang/Comparable"), (0, .class_ 1111), (0, u "java/lang/constant/Constable"), (0, .class_ 1113), (0, u "java/lang/constant/ConstantDesc"), (2, u "serialVersionUID"), (0, u "J"), (3, u "REPL"), (0, u "C"), (2, u "LATIN1"), (1, u "UTF16")] 323

def k9m0 : Method := { name := "<init>", desc := "()V", sig := { parameters := [], returnType := none }, accessFlags := 1, code := none }
def k9c1 : Code := { maxStack := 4, maxLocals := 1, code := jdk_42_method_139_code, exceptionTable := #[], attributes := #[] }
def k9m1 : Method := { name := "valueOf", desc := "(C)Ljava/lang/String;", sig := { parameters := [.char], returnType := some (.object "java/lang/String") }, accessFlags := 9, code := some k9c1 }
def k9c2 : Code := { maxStack := 2, maxLocals := 3, code := jdk_42_method_151_code, exceptionTable := #[], attributes := #[] }
def k9m2 : Method := { name := "<init>", desc := "([BB)V", sig := { parameters := [(.array .byte), .byte], returnType := none }, accessFlags := 0, code := some k9c2 }
/-- java/lang/String -/
def k9 : Class := { plain "java/lang/String" (some 0) with
  accessFlags := 49
  interfaces := #[4, 3, 7, 2, 8]
  cf := some (fileOf pool9 10 #[.nestMembers #[1103]] #[{ accessFlags := 1, nameIndex := 5, descriptorIndex := 6, attributes := #[] }, { accessFlags := 9, nameIndex := 782, descriptorIndex := 783, attributes := #[] }, { accessFlags := 0, nameIndex := 5, descriptorIndex := 211, attributes := #[] }] 49 2 #[1106, 1108, 575, 1110, 1112] #[{ accessFlags := 18, nameIndex := 13, descriptorIndex := 14, attributes := #[] }, { accessFlags := 18, nameIndex := 17, descriptorIndex := 18, attributes := #[] }, { accessFlags := 2, nameIndex := 21, descriptorIndex := 22, attributes := #[] }, { accessFlags := 2, nameIndex := 25, descriptorIndex := 26, attributes := #[] }, { accessFlags := 26, nameIndex := 1116, descriptorIndex := 1117, attributes := #[] }, { accessFlags := 24, nameIndex := 40, descriptorIndex := 26, attributes := #[] }, { accessFlags := 26, nameIndex := 1101, descriptorIndex := 1102, attributes := #[] }, { accessFlags := 26, nameIndex := 1121, descriptorIndex := 1122, attributes := #[] }, { accessFlags := 25, nameIndex := 599, descriptorIndex := 600, attributes := #[] }, { accessFlags := 24, nameIndex := 1125, descriptorIndex := 18, attributes := #[] }, { accessFlags := 24, nameIndex := 1127, descriptorIndex := 18, attributes := #[] }])
  fields := #[{ name := "value", type := (.array .byte), accessFlags := 18, slot := 0, constantValue := 0 }, { name := "coder", type := .byte, accessFlags := 18, slot := 1, constantValue := 0 }, { name := "hash", type := .int, accessFlags := 2, slot := 2, constantValue := 0 }, { name := "hashIsZero", type := .boolean, accessFlags := 2, slot := 3, constantValue := 0 }, { name := "serialVersionUID", type := .long, accessFlags := 26, slot := 0, constantValue := 0 }, { name := "COMPACT_STRINGS", type := .boolean, accessFlags := 24, slot := 1, constantValue := 0 }, { name := "serialPersistentFields", type := (.array (.object "java/io/ObjectStreamField")), accessFlags := 26, slot := 2, constantValue := 0 }, { name := "REPL", type := .char, accessFlags := 26, slot := 3, constantValue := 0 }, { name := "CASE_INSENSITIVE_ORDER", type := (.object "java/util/Comparator"), accessFlags := 25, slot := 4, constantValue := 0 }, { name := "LATIN1", type := .byte, accessFlags := 24, slot := 5, constantValue := 0 }, { name := "UTF16", type := .byte, accessFlags := 24, slot := 6, constantValue := 0 }]
  methods := #[k9m0, k9m1, k9m2]
  instanceTypes := #[(.array .byte), .byte, .int, .boolean]
  staticTypes := #[.long, .boolean, (.array (.object "java/io/ObjectStreamField")), .char, (.object "java/util/Comparator"), .byte, .byte]
  resolved := Array.replicate 1451 none
  statics := some 1 }

def pool10 : Array CpInfo := pool [(4, .class_ 6), (1, u "java/lang/Object"), (0, u "<init>"), (0, u "()V"), (5, .class_ 16), (1, u "java/lang/StringLatin1"), (73, u "canEncode"), (14, u "(C)Z"), (15, u "$assertionsDisabled"), (0, u "Z"), (98, .class_ 223), (1, u "java/lang/StringLatin1$LinesSpliterator"), (156, u "toBytes"), (1, u "(C)[B"), (7, .class_ 391), (0, u "java/lang/StringLatin1$CharsSpliterator")] 3

def k10m0 : Method := { name := "<init>", desc := "()V", sig := { parameters := [], returnType := none }, accessFlags := 0, code := none }
def k10c1 : Code := { maxStack := 2, maxLocals := 1, code := jdk_43_method_3_code, exceptionTable := #[], attributes := #[] }
def k10m1 : Method := { name := "canEncode", desc := "(C)Z", sig := { parameters := [.char], returnType := some .boolean }, accessFlags := 9, code := some k10c1 }
def k10c2 : Code := { maxStack := 4, maxLocals := 1, code := jdk_43_method_46_code, exceptionTable := #[], attributes := #[] }
def k10m2 : Method := { name := "toBytes", desc := "(C)[B", sig := { parameters := [.char], returnType := some (.array .byte) }, accessFlags := 9, code := some k10c2 }
/-- java/lang/StringLatin1 -/
def k10 : Class := { plain "java/lang/StringLatin1" (some 0) with
  accessFlags := 48
  interfaces := #[]
  cf := some (fileOf pool10 14 #[.nestMembers #[390, 221]] #[{ accessFlags := 0, nameIndex := 7, descriptorIndex := 8, attributes := #[] }, { accessFlags := 9, nameIndex := 90, descriptorIndex := 105, attributes := #[] }, { accessFlags := 9, nameIndex := 380, descriptorIndex := 382, attributes := #[] }] 48 4 #[] #[{ accessFlags := 4120, nameIndex := 121, descriptorIndex := 122, attributes := #[] }])
  fields := #[{ name := "$assertionsDisabled", type := .boolean, accessFlags := 4120, slot := 0, constantValue := 0 }]
  methods := #[k10m0, k10m1, k10m2]
  instanceTypes := #[]
  staticTypes := #[.boolean]
  resolved := Array.replicate 395 none
  statics := none }

def pool11 : Array CpInfo := pool [(1, .fieldref 2 3), (0, .class_ 4), (0, .nameAndType 5 6), (0, u "com/example/mergewright/mergewright/merge/MergeOptions$Favor"), (0, u "NONE"), (0, u "Lcom/example/mergewright/mergewright/merge/MergeOptions$Favor;"), (0, .methodref 8 9), (0, .class_ 10), (0, .nameAndType 11 12), (0, u "com/example/mergewright/mergewright/merge/MergeOptions"), (0, u "<init>"), (0, u "(Ljava/lang/String;Ljava/lang/String;Ljava/lang/String;ILcom/example/mergewright/mergewright/merge/MergeOptions$ConflictStyle;Lcom/example/mergewright/mergewright/merge/MergeOptions$Favor;)V"), (0, .methodref 14 15), (0, .class_ 16), (0, .nameAndType 11 17), (0, u "java/lang/Object"), (0, u "()V"), (0, .fieldref 8 19), (0, .nameAndType 20 21), (0, u "currentLabel"), (0, u "Ljava/lang/String;"), (0, .fieldref 8 23), (0, .nameAndType 24 21), (0, u "baseLabel"), (0, .fieldref 8 26), (0, .nameAndType 27 21), (0, u "otherLabel"), (0, .fieldref 8 29), (0, .nameAndType 30 31), (0, u "markerSize"), (0, u "I"), (0, .fieldref 8 33), (0, .nameAndType 34 35), (0, u "style"), (0, u "Lcom/example/mergewright/mergewright/merge/MergeOptions$ConflictStyle;"), (0, .fieldref 8 37), (0, .nameAndType 38 6), (0, u "favor"), (0, u "DEFAULT_MARKER_SIZE"), (2, u "(Ljava/lang/String;Ljava/lang/String;Ljava/lang/String;ILcom/example/mergewright/mergewright/merge/MergeOptions$ConflictStyle;)V"), (5, u "()I"), (0, u "writtenMarkerSize"), (6, .class_ 57), (0, u "com/example/mergewright/mergewright/merge/MergeOptions$ConflictStyle")] 3

def k11c0 : Code := { maxStack := 7, maxLocals := 6, code := prog_32_method_1_code, exceptionTable := #[], attributes := #[] }
def k11m0 : Method := { name := "<init>", desc := "(Ljava/lang/String;Ljava/lang/String;Ljava/lang/String;ILcom/example/mergewright/mergewright/merge/MergeOptions$ConflictStyle;)V", sig := { parameters := [(.object "java/lang/String"), (.object "java/lang/String"), (.object "java/lang/String"), .int, (.object "com/example/mergewright/mergewright/merge/MergeOptions$ConflictStyle")], returnType := none }, accessFlags := 1, code := some k11c0 }
def k11c1 : Code := { maxStack := 2, maxLocals := 7, code := prog_32_method_2_code, exceptionTable := #[], attributes := #[] }
def k11m1 : Method := { name := "<init>", desc := "(Ljava/lang/String;Ljava/lang/String;Ljava/lang/String;ILcom/example/mergewright/mergewright/merge/MergeOptions$ConflictStyle;Lcom/example/mergewright/mergewright/merge/MergeOptions$Favor;)V", sig := { parameters := [(.object "java/lang/String"), (.object "java/lang/String"), (.object "java/lang/String"), .int, (.object "com/example/mergewright/mergewright/merge/MergeOptions$ConflictStyle"), (.object "com/example/mergewright/mergewright/merge/MergeOptions$Favor")], returnType := none }, accessFlags := 2, code := some k11c1 }
def k11c2 : Code := { maxStack := 1, maxLocals := 1, code := prog_32_method_7_code, exceptionTable := #[], attributes := #[] }
def k11m2 : Method := { name := "markerSize", desc := "()I", sig := { parameters := [], returnType := some .int }, accessFlags := 1, code := some k11c2 }
def k11c3 : Code := { maxStack := 1, maxLocals := 1, code := prog_32_method_8_code, exceptionTable := #[], attributes := #[] }
def k11m3 : Method := { name := "writtenMarkerSize", desc := "()I", sig := { parameters := [], returnType := some .int }, accessFlags := 0, code := some k11c3 }
/-- com/example/mergewright/mergewright/merge/MergeOptions -/
def k11 : Class := { plain "com/example/mergewright/mergewright/merge/MergeOptions" (some 0) with
  accessFlags := 33
  interfaces := #[]
  cf := some (fileOf pool11 8 #[.nestMembers #[2, 56]] #[{ accessFlags := 1, nameIndex := 11, descriptorIndex := 42, attributes := #[] }, { accessFlags := 2, nameIndex := 11, descriptorIndex := 12, attributes := #[] }, { accessFlags := 1, nameIndex := 30, descriptorIndex := 48, attributes := #[] }, { accessFlags := 0, nameIndex := 49, descriptorIndex := 48, attributes := #[] }] 33 14 #[] #[{ accessFlags := 25, nameIndex := 39, descriptorIndex := 31, attributes := #[] }, { accessFlags := 18, nameIndex := 20, descriptorIndex := 21, attributes := #[] }, { accessFlags := 18, nameIndex := 24, descriptorIndex := 21, attributes := #[] }, { accessFlags := 18, nameIndex := 27, descriptorIndex := 21, attributes := #[] }, { accessFlags := 18, nameIndex := 30, descriptorIndex := 31, attributes := #[] }, { accessFlags := 18, nameIndex := 34, descriptorIndex := 35, attributes := #[] }, { accessFlags := 18, nameIndex := 38, descriptorIndex := 6, attributes := #[] }])
  fields := #[{ name := "DEFAULT_MARKER_SIZE", type := .int, accessFlags := 25, slot := 0, constantValue := 0 }, { name := "currentLabel", type := (.object "java/lang/String"), accessFlags := 18, slot := 0, constantValue := 0 }, { name := "baseLabel", type := (.object "java/lang/String"), accessFlags := 18, slot := 1, constantValue := 0 }, { name := "otherLabel", type := (.object "java/lang/String"), accessFlags := 18, slot := 2, constantValue := 0 }, { name := "markerSize", type := .int, accessFlags := 18, slot := 3, constantValue := 0 }, { name := "style", type := (.object "com/example/mergewright/mergewright/merge/MergeOptions$ConflictStyle"), accessFlags := 18, slot := 4, constantValue := 0 }, { name := "favor", type := (.object "com/example/mergewright/mergewright/merge/MergeOptions$Favor"), accessFlags := 18, slot := 5, constantValue := 0 }]
  methods := #[k11m0, k11m1, k11m2, k11m3]
  instanceTypes := #[(.object "java/lang/String"), (.object "java/lang/String"), (.object "java/lang/String"), .int, (.object "com/example/mergewright/mergewright/merge/MergeOptions$ConflictStyle"), (.object "com/example/mergewright/mergewright/merge/MergeOptions$Favor")]
  staticTypes := #[.int]
  resolved := Array.replicate 61 none
  statics := none }

def pool12 : Array CpInfo := pool [(1, .class_ 2), (0, u "com/example/mergewright/mergewright/merge/MergeOptions$Favor"), (2, u "NONE"), (0, u "Lcom/example/mergewright/mergewright/merge/MergeOptions$Favor;"), (2, u "CURRENT"), (2, u "OTHER"), (2, u "UNION"), (2, u "$VALUES"), (0, u "[Lcom/example/mergewright/mergewright/merge/MergeOptions$Favor;"), (6, .class_ 28), (1, u "java/lang/Enum"), (27, .class_ 57), (0, u "com/example/mergewright/mergewright/merge/MergeOptions")] 2

/-- com/example/mergewright/mergewright/merge/MergeOptions$Favor -/
def k12 : Class := { plain "com/example/mergewright/mergewright/merge/MergeOptions$Favor" (some 5) with
  accessFlags := 16433
  interfaces := #[]
  cf := some (fileOf pool12 1 #[.nestHost 56] #[] 16433 26 #[] #[{ accessFlags := 16409, nameIndex := 5, descriptorIndex := 6, attributes := #[] }, { accessFlags := 16409, nameIndex := 9, descriptorIndex := 6, attributes := #[] }, { accessFlags := 16409, nameIndex := 12, descriptorIndex := 6, attributes := #[] }, { accessFlags := 16409, nameIndex := 15, descriptorIndex := 6, attributes := #[] }, { accessFlags := 4122, nameIndex := 18, descriptorIndex := 19, attributes := #[] }])
  fields := #[{ name := "NONE", type := (.object "com/example/mergewright/mergewright/merge/MergeOptions$Favor"), accessFlags := 16409, slot := 0, constantValue := 0 }, { name := "CURRENT", type := (.object "com/example/mergewright/mergewright/merge/MergeOptions$Favor"), accessFlags := 16409, slot := 1, constantValue := 0 }, { name := "OTHER", type := (.object "com/example/mergewright/mergewright/merge/MergeOptions$Favor"), accessFlags := 16409, slot := 2, constantValue := 0 }, { name := "UNION", type := (.object "com/example/mergewright/mergewright/merge/MergeOptions$Favor"), accessFlags := 16409, slot := 3, constantValue := 0 }, { name := "$VALUES", type := (.array (.object "com/example/mergewright/mergewright/merge/MergeOptions$Favor")), accessFlags := 4122, slot := 4, constantValue := 0 }]
  methods := #[]
  instanceTypes := #[(.object "java/lang/String"), .int, .int]
  staticTypes := #[(.object "com/example/mergewright/mergewright/merge/MergeOptions$Favor"), (.object "com/example/mergewright/mergewright/merge/MergeOptions$Favor"), (.object "com/example/mergewright/mergewright/merge/MergeOptions$Favor"), (.object "com/example/mergewright/mergewright/merge/MergeOptions$Favor"), (.array (.object "com/example/mergewright/mergewright/merge/MergeOptions$Favor"))]
  resolved := Array.replicate 60 none
  statics := some 2 }

def pool13 : Array CpInfo := pool [(2, .class_ 4), (1, u "java/lang/Object"), (0, u "<init>"), (0, u "()V"), (17, .class_ 26), (1, u "jdk/internal/util/Preconditions"), (28, .class_ 56), (0, u "jdk/internal/util/Preconditions$4"), (57, .class_ 115), (0, u "jdk/internal/util/Preconditions$1"), (7, u "SIOOBE_FORMATTER"), (0, u "Ljava/util/function/BiFunction;"), (0, .class_ 126), (0, u "jdk/internal/util/Preconditions$2"), (3, u "AIOOBE_FORMATTER"), (0, .class_ 132), (0, u "jdk/internal/util/Preconditions$3"), (3, u "IOOBE_FORMATTER")] 57

def k13m0 : Method := { name := "<init>", desc := "()V", sig := { parameters := [], returnType := none }, accessFlags := 1, code := none }
/-- jdk/internal/util/Preconditions -/
def k13 : Class := { plain "jdk/internal/util/Preconditions" (some 0) with
  accessFlags := 33
  interfaces := #[]
  cf := some (fileOf pool13 24 #[.nestMembers #[55, 131, 125, 114]] #[{ accessFlags := 1, nameIndex := 5, descriptorIndex := 6, attributes := #[] }] 33 2 #[] #[{ accessFlags := 25, nameIndex := 123, descriptorIndex := 124, attributes := #[] }, { accessFlags := 25, nameIndex := 130, descriptorIndex := 124, attributes := #[] }, { accessFlags := 25, nameIndex := 136, descriptorIndex := 124, attributes := #[] }])
  fields := #[{ name := "SIOOBE_FORMATTER", type := (.object "java/util/function/BiFunction"), accessFlags := 25, slot := 0, constantValue := 0 }, { name := "AIOOBE_FORMATTER", type := (.object "java/util/function/BiFunction"), accessFlags := 25, slot := 1, constantValue := 0 }, { name := "IOOBE_FORMATTER", type := (.object "java/util/function/BiFunction"), accessFlags := 25, slot := 2, constantValue := 0 }]
  methods := #[k13m0]
  instanceTypes := #[]
  staticTypes := #[(.object "java/util/function/BiFunction"), (.object "java/util/function/BiFunction"), (.object "java/util/function/BiFunction")]
  resolved := Array.replicate 194 none
  statics := some 3 }

def pool14 : Array CpInfo := pool [(9, u "<init>"), (6, .class_ 18), (1, u "java/lang/Object"), (0, u "()V"), (1, .class_ 23), (1, u "jdk/internal/util/ArraysSupport"), (0, u "LOG2_ARRAY_LONG_INDEX_SCALE"), (0, u "I"), (2, u "U"), (0, u "Ljdk/internal/misc/Unsafe;"), (8, u "BIG_ENDIAN"), (0, u "Z"), (8, u "LOG2_BYTE_BIT_SIZE"), (4, u "LOG2_ARRAY_INT_INDEX_SCALE"), (54, u "JLA"), (0, u "Ljdk/internal/access/JavaLangAccess;"), (11, u "LOG2_ARRAY_BOOLEAN_INDEX_SCALE"), (9, u "LOG2_ARRAY_BYTE_INDEX_SCALE"), (5, u "LOG2_ARRAY_CHAR_INDEX_SCALE"), (5, u "LOG2_ARRAY_SHORT_INDEX_SCALE"), (18, u "LOG2_ARRAY_FLOAT_INDEX_SCALE"), (24, u "LOG2_ARRAY_DOUBLE_INDEX_SCALE"), (89, u "T_BOOLEAN"), (2, u "T_CHAR"), (1, u "T_FLOAT"), (1, u "T_DOUBLE"), (1, u "T_BYTE"), (1, u "T_SHORT"), (1, u "T_INT"), (1, u "T_LONG"), (1, u "SOFT_MAX_ARRAY_LENGTH")] 83

def k14m0 : Method := { name := "<init>", desc := "()V", sig := { parameters := [], returnType := none }, accessFlags := 2, code := none }
/-- jdk/internal/util/ArraysSupport -/
def k14 : Class := { plain "jdk/internal/util/ArraysSupport" (some 0) with
  accessFlags := 33
  interfaces := #[]
  cf := some (fileOf pool14 21 #[] #[{ accessFlags := 2, nameIndex := 9, descriptorIndex := 19, attributes := #[] }] 33 16 #[] #[{ accessFlags := 24, nameIndex := 28, descriptorIndex := 29, attributes := #[] }, { accessFlags := 26, nameIndex := 38, descriptorIndex := 39, attributes := #[] }, { accessFlags := 25, nameIndex := 121, descriptorIndex := 25, attributes := #[] }, { accessFlags := 25, nameIndex := 131, descriptorIndex := 25, attributes := #[] }, { accessFlags := 25, nameIndex := 137, descriptorIndex := 25, attributes := #[] }, { accessFlags := 25, nameIndex := 143, descriptorIndex := 25, attributes := #[] }, { accessFlags := 25, nameIndex := 53, descriptorIndex := 25, attributes := #[] }, { accessFlags := 25, nameIndex := 24, descriptorIndex := 25, attributes := #[] }, { accessFlags := 25, nameIndex := 162, descriptorIndex := 25, attributes := #[] }, { accessFlags := 25, nameIndex := 187, descriptorIndex := 25, attributes := #[] }, { accessFlags := 26, nameIndex := 48, descriptorIndex := 25, attributes := #[] }, { accessFlags := 25, nameIndex := 277, descriptorIndex := 25, attributes := #[] }, { accessFlags := 25, nameIndex := 280, descriptorIndex := 25, attributes := #[] }, { accessFlags := 25, nameIndex := 282, descriptorIndex := 25, attributes := #[] }, { accessFlags := 25, nameIndex := 284, descriptorIndex := 25, attributes := #[] }, { accessFlags := 25, nameIndex := 286, descriptorIndex := 25, attributes := #[] }, { accessFlags := 25, nameIndex := 288, descriptorIndex := 25, attributes := #[] }, { accessFlags := 25, nameIndex := 290, descriptorIndex := 25, attributes := #[] }, { accessFlags := 25, nameIndex := 292, descriptorIndex := 25, attributes := #[] }, { accessFlags := 26, nameIndex := 108, descriptorIndex := 109, attributes := #[] }, { accessFlags := 25, nameIndex := 294, descriptorIndex := 25, attributes := #[] }])
  fields := #[{ name := "U", type := (.object "jdk/internal/misc/Unsafe"), accessFlags := 24, slot := 0, constantValue := 0 }, { name := "BIG_ENDIAN", type := .boolean, accessFlags := 26, slot := 1, constantValue := 0 }, { name := "LOG2_ARRAY_BOOLEAN_INDEX_SCALE", type := .int, accessFlags := 25, slot := 2, constantValue := 0 }, { name := "LOG2_ARRAY_BYTE_INDEX_SCALE", type := .int, accessFlags := 25, slot := 3, constantValue := 0 }, { name := "LOG2_ARRAY_CHAR_INDEX_SCALE", type := .int, accessFlags := 25, slot := 4, constantValue := 0 }, { name := "LOG2_ARRAY_SHORT_INDEX_SCALE", type := .int, accessFlags := 25, slot := 5, constantValue := 0 }, { name := "LOG2_ARRAY_INT_INDEX_SCALE", type := .int, accessFlags := 25, slot := 6, constantValue := 0 }, { name := "LOG2_ARRAY_LONG_INDEX_SCALE", type := .int, accessFlags := 25, slot := 7, constantValue := 0 }, { name := "LOG2_ARRAY_FLOAT_INDEX_SCALE", type := .int, accessFlags := 25, slot := 8, constantValue := 0 }, { name := "LOG2_ARRAY_DOUBLE_INDEX_SCALE", type := .int, accessFlags := 25, slot := 9, constantValue := 0 }, { name := "LOG2_BYTE_BIT_SIZE", type := .int, accessFlags := 26, slot := 10, constantValue := 0 }, { name := "T_BOOLEAN", type := .int, accessFlags := 25, slot := 11, constantValue := 0 }, { name := "T_CHAR", type := .int, accessFlags := 25, slot := 12, constantValue := 0 }, { name := "T_FLOAT", type := .int, accessFlags := 25, slot := 13, constantValue := 0 }, { name := "T_DOUBLE", type := .int, accessFlags := 25, slot := 14, constantValue := 0 }, { name := "T_BYTE", type := .int, accessFlags := 25, slot := 15, constantValue := 0 }, { name := "T_SHORT", type := .int, accessFlags := 25, slot := 16, constantValue := 0 }, { name := "T_INT", type := .int, accessFlags := 25, slot := 17, constantValue := 0 }, { name := "T_LONG", type := .int, accessFlags := 25, slot := 18, constantValue := 0 }, { name := "JLA", type := (.object "jdk/internal/access/JavaLangAccess"), accessFlags := 26, slot := 19, constantValue := 0 }, { name := "SOFT_MAX_ARRAY_LENGTH", type := .int, accessFlags := 25, slot := 20, constantValue := 0 }]
  methods := #[k14m0]
  instanceTypes := #[]
  staticTypes := #[(.object "jdk/internal/misc/Unsafe"), .boolean, .int, .int, .int, .int, .int, .int, .int, .int, .int, .int, .int, .int, .int, .int, .int, .int, .int, (.object "jdk/internal/access/JavaLangAccess"), .int]
  resolved := Array.replicate 378 none
  statics := none }

def pool15 : Array CpInfo := pool [(1, u "java/lang/Cloneable"), (0, .class_ 1), (0, u "java/lang/Object"), (0, .class_ 3)] 3

/-- java/lang/Cloneable -/
def k15 : Class := { plain "java/lang/Cloneable" (some 0) with
  accessFlags := 1537
  interfaces := #[]
  cf := some (fileOf pool15 2 #[] #[] 1537 4 #[] #[])
  fields := #[]
  methods := #[]
  instanceTypes := #[]
  staticTypes := #[]
  resolved := Array.replicate 8 none
  statics := none }

/-- the primitive byte -/
def k16 : Class := { plain "byte" none with kind := .primitive 'B', accessFlags := 0x411 }
/-- [B -/
def k17 : Class := { plain "[B" (some 0) with kind := .array 16 .byte, interfaces := #[15, 4], accessFlags := 1041 }

/-- the primitive int -/
def k18 : Class := { plain "int" none with kind := .primitive 'I', accessFlags := 0x411 }
/-- [I -/
def k19 : Class := { plain "[I" (some 0) with kind := .array 18 .int, interfaces := #[15, 4], accessFlags := 1041 }

def heap : Heap := #[{ cls := 6, slots := #[.ref 4, .ref 5, .ref 6, .null], vm := .statics 6 },
  { cls := 9, slots := #[.long 0, .int 1, .null, .int 0, .null, .int 0, .int 0], vm := .statics 9 },
  { cls := 12, slots := #[.ref 7, .null, .null, .null, .null], vm := .statics 12 },
  { cls := 13, slots := #[.null, .null, .null], vm := .statics 13 },
  { cls := 6, slots := #[.null, .int 0, .int 0, .null], vm := .none },
  { cls := 6, slots := #[.null, .int 1, .int 0, .null], vm := .none },
  { cls := 6, slots := #[.null, .int 2, .int 0, .null], vm := .none },
  { cls := 12, slots := #[.null, .int 0, .int 0], vm := .none }]
def classes : Array Class := #[k0, k1, k2, k3, k4, k5, k6, k7, k8, k9, k10, k11, k12, k13, k14, k15, k16, k17, k18, k19]
def interned : List (Array UInt16 × Addr) := []
def slotsUsed : Nat := 34
def theMethod : MethodId := ⟨1, 2⟩
def args0 : Array Value := #[.int 5, .int 66, .int 7]
def aboutOver (below : List Frame) : State where
  vm := { classes := classes, interned := interned.toArray }
  heap := heap
  slotsUsed := slotsUsed
  threads := #[{ frames := .invoking theMethod args0 :: below }]
def below0 : List Frame := [.native { method := ⟨0, 0⟩, args := #[] }]
def about1 : State := aboutOver below0
def p0 : Program := .bare "" "" ""
def e0 : Env := launch0.env 0 0 0
theorem w_frames : about1.frames = Frame.invoking theMethod args0 :: below0 := rfl
set_option maxRecDepth 65536 in
theorem w_args : argsFit about1.vm theMethod args0 = true := by decide +kernel
set_option maxRecDepth 65536 in
theorem w_heap : heapFits about1 = true := by decide +kernel
set_option maxRecDepth 65536 in
theorem w_runnable : about1.curStatus? = some .runnable := by decide +kernel
set_option maxRecDepth 65536 in
theorem w_alone : about1.alone = true := by decide +kernel
set_option maxRecDepth 65536 in
theorem w_named : about1.methodNamed? x = some theMethod := by decide +kernel
set_option maxRecDepth 65536 in
theorem w_hears : about1.hears theMethod below0 = true := by decide +kernel
set_option maxRecDepth 65536 in
theorem w_ripe : about1.ripe theMethod args0 below0 = true := by decide +kernel
theorem w_running : about1.status = .running := rfl
set_option maxRecDepth 65536 in
theorem w_room : about1.hasRoom e0.platform room_1 = true :=
  launch0.hasRoom_least _ room_1 (by decide +kernel) (by decide +kernel) (by decide +kernel) (by decide +kernel) (by decide +kernel) (by decide +kernel)
theorem allAtoms_all (ts : List Jvm.Cond) (a : Array Jvm.Value) (st : Jvm.State) : (allAtoms ts).before a st = ts.all (fun c => c.before a st) := by
  induction ts with
  | nil => rfl
  | cons c t ih =>
    show (Jvm.Cond.and c (allAtoms t)).before a st = _
    rw [Jvm.Cond.before_and, ih, List.all_cons]
def words1 : List Jvm.Cond := Jvm.Cond.code x code maxLocals ret :: tables_1
/-- a 'code' word, met by the world's own term for the bytes: nothing is compared byte by byte -/
theorem code_word {y : MethodName} {bytes : ByteArray} {mx : Nat} {rt : Option FieldType} {a : Array Value} {s : State} {m : MethodId} {meth : Method} {c : Code} (h1 : s.methodNamed? y = some m) (h2 : s.vm.method? m = some meth) (h3 : meth.code = some c) (h4 : c.code = bytes)
    (h5 : (c.maxLocals == mx && c.exceptionTable.isEmpty && decide (c.maxStack ≤ mostOperands) && decide (meth.sig.returnType = rt) && !meth.locks && decide (parseMethodDescriptor y.desc = some meth.sig)) = true) : (Jvm.Cond.code y bytes mx rt).before a s = true := by
  simp only [Bool.and_eq_true, beq_iff_eq, Bool.not_eq_true', decide_eq_true_eq] at h5
  obtain ⟨⟨⟨⟨⟨g1, g2⟩, g3⟩, g4⟩, g5⟩, g6⟩ := h5
  simp [Cond.before, Cond.holds, Cond.value, h1, h2, h3, h4, g1, g2, g3, g4, g5, g6]
def isCode : Jvm.Cond → Bool
  | .code _ _ _ _ => true
  | _ => false
theorem all_split {L : List Jvm.Cond} {P : Jvm.Cond → Bool} (h1 : L.all (fun c => isCode c || P c) = true) (h2 : ∀ c ∈ L.filter isCode, P c = true) : L.all P = true := by
  refine List.all_eq_true.mpr fun c hc => ?_
  have h := List.all_eq_true.mp h1 c hc
  rcases Bool.eq_false_or_eq_true (isCode c) with hi | hi
  · exact h2 c (List.mem_filter.mpr ⟨hc, hi⟩)
  · simpa [hi] using h
set_option maxRecDepth 65536 in
theorem w_c0 : (Jvm.Cond.code x code maxLocals ret).before args0 about1 = true := code_word (m := ⟨1, 2⟩) (meth := k1m2) (c := k1c2) (by decide +kernel) rfl rfl rfl (by decide +kernel)
set_option maxRecDepth 65536 in
theorem w_c1 : (Jvm.Cond.code ({ cls := "com/example/mergewright/mergewright/merge/MergeOptionsWrittenMarkerSizePinLaw", name := "styleOf", desc := "(I)Lcom/example/mergewright/mergewright/merge/MergeOptions$ConflictStyle;" } : Jvm.MethodName) method_2_code (2 : Nat) (Option.some (Jvm.ClassFile.FieldType.object "com/example/mergewright/mergewright/merge/MergeOptions$ConflictStyle"))).before args0 about1 = true := code_word (m := ⟨1, 1⟩) (meth := k1m1) (c := k1c1) (by decide +kernel) rfl rfl rfl (by decide +kernel)
set_option maxRecDepth 65536 in
theorem w_c2 : (Jvm.Cond.code ({ cls := "java/lang/String", name := "valueOf", desc := "(C)Ljava/lang/String;" } : Jvm.MethodName) jdk_42_method_139_code (1 : Nat) (Option.some (Jvm.ClassFile.FieldType.object "java/lang/String"))).before args0 about1 = true := code_word (m := ⟨9, 1⟩) (meth := k9m1) (c := k9c1) (by decide +kernel) rfl rfl rfl (by decide +kernel)
set_option maxRecDepth 65536 in
theorem w_c3 : (Jvm.Cond.code ({ cls := "java/lang/StringLatin1", name := "canEncode", desc := "(C)Z" } : Jvm.MethodName) jdk_43_method_3_code (1 : Nat) (Option.some Jvm.ClassFile.FieldType.boolean)).before args0 about1 = true := code_word (m := ⟨10, 1⟩) (meth := k10m1) (c := k10c1) (by decide +kernel) rfl rfl rfl (by decide +kernel)
set_option maxRecDepth 65536 in
theorem w_c4 : (Jvm.Cond.code ({ cls := "java/lang/StringLatin1", name := "toBytes", desc := "(C)[B" } : Jvm.MethodName) jdk_43_method_46_code (1 : Nat) (Option.some (Jvm.ClassFile.FieldType.array Jvm.ClassFile.FieldType.byte))).before args0 about1 = true := code_word (m := ⟨10, 2⟩) (meth := k10m2) (c := k10c2) (by decide +kernel) rfl rfl rfl (by decide +kernel)
set_option maxRecDepth 65536 in
theorem w_c5 : (Jvm.Cond.code ({ cls := "java/lang/String", name := "<init>", desc := "([BB)V" } : Jvm.MethodName) jdk_42_method_151_code (3 : Nat) (Option.none : Option Jvm.ClassFile.FieldType)).before args0 about1 = true := code_word (m := ⟨9, 2⟩) (meth := k9m2) (c := k9c2) (by decide +kernel) rfl rfl rfl (by decide +kernel)
set_option maxRecDepth 65536 in
theorem w_c6 : (Jvm.Cond.code ({ cls := "java/lang/Object", name := "<init>", desc := "()V" } : Jvm.MethodName) object_method_1_code (1 : Nat) (Option.none : Option Jvm.ClassFile.FieldType)).before args0 about1 = true := code_word (m := ⟨0, 0⟩) (meth := k0m0) (c := k0c0) (by decide +kernel) rfl rfl rfl (by decide +kernel)
set_option maxRecDepth 65536 in
theorem w_c7 : (Jvm.Cond.code ({ cls := "com/example/mergewright/mergewright/merge/MergeOptions", name := "<init>", desc := "(Ljava/lang/String;Ljava/lang/String;Ljava/lang/String;ILcom/example/mergewright/mergewright/merge/MergeOptions$ConflictStyle;)V" } : Jvm.MethodName) prog_32_method_1_code (6 : Nat) (Option.none : Option Jvm.ClassFile.FieldType)).before args0 about1 = true := code_word (m := ⟨11, 0⟩) (meth := k11m0) (c := k11c0) (by decide +kernel) rfl rfl rfl (by decide +kernel)
set_option maxRecDepth 65536 in
theorem w_c8 : (Jvm.Cond.code ({ cls := "com/example/mergewright/mergewright/merge/MergeOptions", name := "<init>", desc := "(Ljava/lang/String;Ljava/lang/String;Ljava/lang/String;ILcom/example/mergewright/mergewright/merge/MergeOptions$ConflictStyle;Lcom/example/mergewright/mergewright/merge/MergeOptions$Favor;)V" } : Jvm.MethodName) prog_32_method_2_code (7 : Nat) (Option.none : Option Jvm.ClassFile.FieldType)).before args0 about1 = true := code_word (m := ⟨11, 1⟩) (meth := k11m1) (c := k11c1) (by decide +kernel) rfl rfl rfl (by decide +kernel)
set_option maxRecDepth 65536 in
theorem w_c9 : (Jvm.Cond.code ({ cls := "com/example/mergewright/mergewright/merge/MergeOptions", name := "writtenMarkerSize", desc := "()I" } : Jvm.MethodName) prog_32_method_8_code (1 : Nat) (Option.some Jvm.ClassFile.FieldType.int)).before args0 about1 = true := code_word (m := ⟨11, 3⟩) (meth := k11m3) (c := k11c3) (by decide +kernel) rfl rfl rfl (by decide +kernel)
set_option maxRecDepth 65536 in
theorem w_c10 : (Jvm.Cond.code ({ cls := "com/example/mergewright/mergewright/merge/MergeOptions", name := "markerSize", desc := "()I" } : Jvm.MethodName) prog_32_method_7_code (1 : Nat) (Option.some Jvm.ClassFile.FieldType.int)).before args0 about1 = true := code_word (m := ⟨11, 2⟩) (meth := k11m2) (c := k11c2) (by decide +kernel) rfl rfl rfl (by decide +kernel)
def codes1 : List Jvm.Cond := [Jvm.Cond.code x code maxLocals ret, Jvm.Cond.code ({ cls := "com/example/mergewright/mergewright/merge/MergeOptionsWrittenMarkerSizePinLaw", name := "styleOf", desc := "(I)Lcom/example/mergewright/mergewright/merge/MergeOptions$ConflictStyle;" } : Jvm.MethodName) method_2_code (2 : Nat) (Option.some (Jvm.ClassFile.FieldType.object "com/example/mergewright/mergewright/merge/MergeOptions$ConflictStyle")), Jvm.Cond.code ({ cls := "java/lang/String", name := "valueOf", desc := "(C)Ljava/lang/String;" } : Jvm.MethodName) jdk_42_method_139_code (1 : Nat) (Option.some (Jvm.ClassFile.FieldType.object "java/lang/String")), Jvm.Cond.code ({ cls := "java/lang/StringLatin1", name := "canEncode", desc := "(C)Z" } : Jvm.MethodName) jdk_43_method_3_code (1 : Nat) (Option.some Jvm.ClassFile.FieldType.boolean), Jvm.Cond.code ({ cls := "java/lang/StringLatin1", name := "toBytes", desc := "(C)[B" } : Jvm.MethodName) jdk_43_method_46_code (1 : Nat) (Option.some (Jvm.ClassFile.FieldType.array Jvm.ClassFile.FieldType.byte)), Jvm.Cond.code ({ cls := "java/lang/String", name := "<init>", desc := "([BB)V" } : Jvm.MethodName) jdk_42_method_151_code (3 : Nat) (Option.none : Option Jvm.ClassFile.FieldType), Jvm.Cond.code ({ cls := "java/lang/Object", name := "<init>", desc := "()V" } : Jvm.MethodName) object_method_1_code (1 : Nat) (Option.none : Option Jvm.ClassFile.FieldType), Jvm.Cond.code ({ cls := "com/example/mergewright/mergewright/merge/MergeOptions", name := "<init>", desc := "(Ljava/lang/String;Ljava/lang/String;Ljava/lang/String;ILcom/example/mergewright/mergewright/merge/MergeOptions$ConflictStyle;)V" } : Jvm.MethodName) prog_32_method_1_code (6 : Nat) (Option.none : Option Jvm.ClassFile.FieldType), Jvm.Cond.code ({ cls := "com/example/mergewright/mergewright/merge/MergeOptions", name := "<init>", desc := "(Ljava/lang/String;Ljava/lang/String;Ljava/lang/String;ILcom/example/mergewright/mergewright/merge/MergeOptions$ConflictStyle;Lcom/example/mergewright/mergewright/merge/MergeOptions$Favor;)V" } : Jvm.MethodName) prog_32_method_2_code (7 : Nat) (Option.none : Option Jvm.ClassFile.FieldType), Jvm.Cond.code ({ cls := "com/example/mergewright/mergewright/merge/MergeOptions", name := "writtenMarkerSize", desc := "()I" } : Jvm.MethodName) prog_32_method_8_code (1 : Nat) (Option.some Jvm.ClassFile.FieldType.int), Jvm.Cond.code ({ cls := "com/example/mergewright/mergewright/merge/MergeOptions", name := "markerSize", desc := "()I" } : Jvm.MethodName) prog_32_method_7_code (1 : Nat) (Option.some Jvm.ClassFile.FieldType.int)]
set_option maxRecDepth 65536 in
theorem codes_eq : words1.filter isCode = codes1 := rfl
theorem w_codes : ∀ c ∈ words1.filter isCode, c.before args0 about1 = true := by
  rw [codes_eq]
  intro c hc
  simp only [codes1, List.mem_cons, List.not_mem_nil, or_false] at hc
  rcases hc with rfl | rfl | rfl | rfl | rfl | rfl | rfl | rfl | rfl | rfl | rfl
  · exact w_c0
  · exact w_c1
  · exact w_c2
  · exact w_c3
  · exact w_c4
  · exact w_c5
  · exact w_c6
  · exact w_c7
  · exact w_c8
  · exact w_c9
  · exact w_c10
set_option maxRecDepth 65536 in
theorem w_t1 : (words1.take 24).all (fun c => isCode c || c.before args0 about1) = true := by decide +kernel
set_option maxRecDepth 65536 in
theorem w_t2 : ((words1.drop 24).take 24).all (fun c => isCode c || c.before args0 about1) = true := by decide +kernel
set_option maxRecDepth 65536 in
theorem w_t3 : (((words1.drop 24).drop 24).take 24).all (fun c => isCode c || c.before args0 about1) = true := by decide +kernel
set_option maxRecDepth 65536 in
theorem w_t4 : (((words1.drop 24).drop 24).drop 24).all (fun c => isCode c || c.before args0 about1) = true := by decide +kernel
theorem w_tables : (allAtoms (Jvm.Cond.code x code maxLocals ret :: tables_1)).before args0 about1 = true := by
  rw [allAtoms_all]
  show words1.all (fun c => c.before args0 about1) = true
  refine all_split ?_ w_codes
  rw [← List.take_append_drop 24 words1, List.all_append, w_t1, ← List.take_append_drop 24 (words1.drop 24), List.all_append, w_t2, ← List.take_append_drop 24 ((words1.drop 24).drop 24), List.all_append, w_t3, w_t4]
  rfl
set_option maxRecDepth 65536 in
theorem w_rest : rest_1_c.before args0 about1 = true := by decide +kernel
set_option maxRecDepth 65536 in
theorem w_case : (Jvm.Cond.and given_1 narrow_1).before args0 about1 = true := by decide +kernel
theorem w_applies : (headSpec (Jvm.Cond.code x code maxLocals ret :: tables_1) room_1).applies x e0.platform about1 = true :=
  (Spec.applies_iff w_frames).mpr ⟨w_running, w_runnable, w_alone, w_named, w_hears, w_ripe, w_room, w_tables⟩
theorem atStart : AtStart classFile x code maxLocals ret World_1 tables_1 room_1 Calls_1 rest_1 Pre_1 launch0 p0 e0 about1 theMethod args0 below0 :=
  ⟨lists_1, trivial, launch0.admits_env _ _ _, launch0.least_env, fairChoices_fair.cas, fairChoices_fair.clock, w_frames, w_args, w_heap, w_applies, trivial, w_rest, w_case⟩
end start1
theorem witness_1 : WitnessClaimed_1 := ⟨start1.p0, start1.e0, start1.about1, start1.theMethod, start1.args0, start1.below0, start1.atStart⟩
end Jvm.Pilot.@@N@@
