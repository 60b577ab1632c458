import JvmDerived
import JvmDerived.Pilot.@@N@@Statement
import JvmDerived.Pilot.@@N@@Code
set_option linter.unusedVariables false
set_option linter.unusedSimpArgs false
namespace Jvm.RoadKit
open Sem ClassFile Op Lib Jvm.Stand Jvm.Free Jvm.LawKit
section New
variable {p : Program} {l : Launch} {e : Env} {R : Room} {s : State} {m : MethodId} {args : Array Value} {below : List Frame} {meth : Method} {c : Code} {T : State} {locs : List Loc} {cells slots : Nat}
theorem retI (X : Stand p l e R s m args below meth c T locs cells slots) (hx : p.tables.exec = Jvm.exec) {pc : Nat} {Ls : Array Slot} {z : Int32} {rest : List Value} (hret : meth.sig.returnType = some .int) (hd : decode c.code pc = .ok (.ireturn, 1)) {fs : List Frame}
    (hl : ∀ (f : JFrame) (acts : List Action), f.method = m → f.locked = none → f.entered = [] → (doReturn e (T.setTop f) acts (some (.int z))).1 = T.setFrames fs) : Steps p.tables e below (T.setTop (mkF m pc Ls (.int z :: rest))) (T.setFrames fs) := by
  have hm' : T.vm.method? m = some meth := X.method'
  have hn : narrow .int (.int z) = .int z := rfl
  show Steps p.tables e below (T.setTop { method := m, pc := pc, locals := Ls, stack := _ :: rest, locked := none }) _
  jvm_step X.here [X.here.top, hx, hd, hm', hret, hn]
  first | (intro acts; rw [hl _ acts rfl rfl rfl]) | rw [hl _ _ rfl rfl rfl]
  exact Steps.refl _
theorem own_lremM {g : JFrame} {target : State} (X : Stand p l e R s m args below meth c T locs cells slots) (hx : p.tables.exec = Jvm.exec) (hg : g.method = m) {x y : Int64} {rest : List Value} (hd : decode c.code g.pc = .ok (.lrem, 1)) (hs : g.stack = .long y :: .long x :: rest) (hy : y ≠ 0)
    (hr : Steps p.tables e below (T.setTop { g with pc := g.pc + 1, stack := .long (x % y) :: rest }) target) : Steps p.tables e below (T.setTop g) target := by
  have q : x - x / y * y = x % y := lrem_mod x y
  exact XS.lrem X.here hx hg hd hs hy (by rw [q]; exact hr)
theorem own_selP {Z : State} {a0 : Array Value} {C : String} {n : Nat} {y : MethodName} (hC : y.cls = C) (wi : (Cond.instantiable C n).before a0 Z = true) (wm : (Cond.instanceMethod y).before a0 Z = true) (wp : (Cond.privateMethod y).before a0 Z = true) (hy : y.cls ≠ "java/lang/invoke/MethodHandle" ∧ y.cls ≠ "java/lang/invoke/VarHandle") : (Cond.selects y.cls y y).before a0 Z = true := by
  obtain ⟨c, k, h1, h2, h3, h4, -⟩ := Cond.instantiable_spec wi
  simp only [Bool.or_eq_false_iff] at h4
  subst hC
  exact selects_self_of_private h1 h2 h4.1 (Cond.privateMethod_at wp) wm hy
end New
end Jvm.RoadKit
namespace Jvm.Pilot.@@N@@
open Jvm Jvm.ClassFile Sem Op Lib Jvm.Free Jvm.Stand Jvm.LawKit Jvm.RoadKit Bundle Jvm.Pilot.@@N@@.Jvm.D
def own_tab : List Jvm.Cond := tables_1 ++ jdkStatics_1
theorem own_staInt {s : State} {args : Array Value} {t : Term} {k : Int32} (h : (Jvm.Cond.eq t (Term.int k)).value args s none s [] = some true) : t.eval args s none [] s = some (.int k) := by
  obtain ⟨x, y, h1, h2, h3, h4⟩ := cmp_v (Or.inl h)
  have e2 : y = .int k := (Option.some.inj h2).symm
  subst e2
  obtain ⟨z, rfl⟩ := h4
  have q : z = k := by
    simp only [Cond.value, h1, h2] at h; simpa using h
  subst q
  exact h1
theorem own_len {s : State} {args : Array Value} {t : Term} {a : Addr} {c : Cell} {ty : FieldType} {n : Int32} (ev : t.eval args s none [] s = some (.ref a)) (A : Arr s s.heap a c ty) (h : (Jvm.Cond.eq (Term.length t) (Term.int n)).value args s none s [] = some true) : c.slots.size < 2 ^ 31 ∧ c.slots.size.toInt32 = n := by
  obtain ⟨x, y, h1, h2, h3, h4⟩ := cmp_v (Or.inl h)
  have e2 : y = .int n := (Option.some.inj h2).symm
  subst e2
  obtain ⟨z, rfl⟩ := h4
  have q : z = n := by
    simp only [Cond.value, h1, h2] at h; simpa using h
  subst q
  have hat : s.arrayAt? a = some c := A.fin (Vm.Alike.refl _)
  simp only [Term.eval, ev, hat, Option.bind_eq_bind, Option.bind_some] at h1
  split at h1
  · rename_i g3
    exact ⟨g3, Value.int.inj (Option.some.inj h1)⟩
  · cases h1
theorem own_size {c : Cell} {n : Int32} (h : c.slots.size < 2 ^ 31 ∧ c.slots.size.toInt32 = n) : (c.slots.size : Int) = n.toInt := by
  rw [← h.2]; exact (Int32.toInt_ofNat_of_lt h.1).symm
def own_cacheP (Z : State) (a : Addr) : Prop := ∃ c : Cell, Arr Z Z.heap a c (.object "java/lang/Integer") ∧ c.slots.size = 256 ∧ ∀ i, i < 256 → ∃ b : Addr, c.slots[i]? = some (.ref b)
theorem own_elem {s : State} {args : Array Value} {t : Term} {a b : Addr} {c : Cell} {i : Nat} (ev : t.eval args s none [i] s = some (.ref a)) (hat : s.arrayAt? a = some c) (p1 : ¬ (i.toInt32 < 0)) (p2 : (i.toInt32).toNatClampNeg = i) (hb : (Term.elem t (Term.index 0)).eval args s none [i] s = some (.ref b)) : c.slots[i]? = some (.ref b) := by
  simpa [Term.eval, ev, hat, p1, p2] using hb
theorem own_cache {s : State} {args : Array Value} {a : Addr} {c : Cell} {r : Jvm.Cond} (ev : (Term.static "java/lang/Integer$IntegerCache" "cache" "[Ljava/lang/Integer;").eval args s none [] s = some (.ref a)) (A : Arr s s.heap a c (.object "java/lang/Integer"))
    (hl : (Jvm.Cond.eq (Term.length (Term.static "java/lang/Integer$IntegerCache" "cache" "[Ljava/lang/Integer;")) (Term.int (256 : Int32))).value args s none s [] = some true)
    (ha : (Jvm.Cond.all (Term.static "java/lang/Integer$IntegerCache" "cache" "[Ljava/lang/Integer;") (Jvm.Cond.and (Jvm.Cond.exactly (Term.elem (Term.static "java/lang/Integer$IntegerCache" "cache" "[Ljava/lang/Integer;") (Term.index 0)) "java/lang/Integer") r)).value args s none s [] = some true) : own_cacheP s a := by
  have hz : c.slots.size = 256 := by
    have e := own_size (own_len ev A hl)
    have k0 : (256 : Int32).toInt = 256 := by decide
    omega
  have hat : s.arrayAt? a = some c := A.fin (Vm.Alike.refl _)
  refine ⟨c, A, hz, fun i hi => ?_⟩
  have h1 := (and_e (Cond.all_elim ev hat ha i (by omega))).1
  obtain ⟨b, hb⟩ := exa_v h1
  have ev' : (Term.static "java/lang/Integer$IntegerCache" "cache" "[Ljava/lang/Integer;").eval args s none [i] s = some (.ref a) := ev
  obtain ⟨p1, p2⟩ := IntBox.place_nonneg i hi
  exact ⟨b, own_elem ev' hat p1 p2 hb⟩

theorem kw0 {Z : State} {a0 : Array Value} (hw : ∀ d ∈ own_tab, d.before a0 Z = true) : (Jvm.Cond.methodLink "com/example/mergewright/mergewright/merge/MatchIsInsertedByBothPinLaw" (7 : Nat) ({ cls := "java/lang/Integer", name := "valueOf", desc := "(I)Ljava/lang/Integer;" } : Jvm.MethodName)).before a0 Z = true := hw _ (List.mem_of_getElem? (i := 0) rfl)
theorem kw1 {Z : State} {a0 : Array Value} (hw : ∀ d ∈ own_tab, d.before a0 Z = true) : (Jvm.Cond.static ({ cls := "java/lang/Integer", name := "valueOf", desc := "(I)Ljava/lang/Integer;" } : Jvm.MethodName)).before a0 Z = true := hw _ (List.mem_of_getElem? (i := 1) rfl)
theorem kw2 {Z : State} {a0 : Array Value} (hw : ∀ d ∈ own_tab, d.before a0 Z = true) : (Jvm.Cond.initialized "java/lang/Integer").before a0 Z = true := hw _ (List.mem_of_getElem? (i := 2) rfl)
theorem kw3 {Z : State} {a0 : Array Value} (hw : ∀ d ∈ own_tab, d.before a0 Z = true) : (Jvm.Cond.code ({ cls := "java/lang/Integer", name := "valueOf", desc := "(I)Ljava/lang/Integer;" } : Jvm.MethodName) jdk_33_method_22_code (1 : Nat) (Option.some (Jvm.ClassFile.FieldType.object "java/lang/Integer"))).before a0 Z = true := hw _ (List.mem_of_getElem? (i := 3) rfl)
theorem kw4 {Z : State} {a0 : Array Value} (hw : ∀ d ∈ own_tab, d.before a0 Z = true) : (Jvm.Cond.fieldLink "java/lang/Integer" (191 : Nat) "java/lang/Integer$IntegerCache" "high" "I").before a0 Z = true := hw _ (List.mem_of_getElem? (i := 4) rfl)
theorem kw5 {Z : State} {a0 : Array Value} (hw : ∀ d ∈ own_tab, d.before a0 Z = true) : (Jvm.Cond.initialized "java/lang/Integer$IntegerCache").before a0 Z = true := hw _ (List.mem_of_getElem? (i := 5) rfl)
theorem kw6 {Z : State} {a0 : Array Value} (hw : ∀ d ∈ own_tab, d.before a0 Z = true) : (Jvm.Cond.fieldLink "java/lang/Integer" (195 : Nat) "java/lang/Integer$IntegerCache" "cache" "[Ljava/lang/Integer;").before a0 Z = true := hw _ (List.mem_of_getElem? (i := 6) rfl)
theorem kw7 {Z : State} {a0 : Array Value} (hw : ∀ d ∈ own_tab, d.before a0 Z = true) : (Jvm.Cond.classLink "com/example/mergewright/mergewright/merge/MatchIsInsertedByBothPinLaw" (13 : Nat) "com/example/mergewright/mergewright/merge/Match").before a0 Z = true := hw _ (List.mem_of_getElem? (i := 7) rfl)
theorem kw8 {Z : State} {a0 : Array Value} (hw : ∀ d ∈ own_tab, d.before a0 Z = true) : (Jvm.Cond.instantiable "com/example/mergewright/mergewright/merge/Match" (3 : Nat)).before a0 Z = true := hw _ (List.mem_of_getElem? (i := 8) rfl)
theorem kw9 {Z : State} {a0 : Array Value} (hw : ∀ d ∈ own_tab, d.before a0 Z = true) : (Jvm.Cond.initialized "com/example/mergewright/mergewright/merge/Match").before a0 Z = true := hw _ (List.mem_of_getElem? (i := 9) rfl)
theorem kw10 {Z : State} {a0 : Array Value} (hw : ∀ d ∈ own_tab, d.before a0 Z = true) : (Jvm.Cond.methodLink "com/example/mergewright/mergewright/merge/MatchIsInsertedByBothPinLaw" (15 : Nat) ({ cls := "com/example/mergewright/mergewright/merge/Match", name := "<init>", desc := "(Ljava/lang/Object;Ljava/lang/Object;Ljava/lang/Object;)V" } : Jvm.MethodName)).before a0 Z = true := hw _ (List.mem_of_getElem? (i := 10) rfl)
theorem kw11 {Z : State} {a0 : Array Value} (hw : ∀ d ∈ own_tab, d.before a0 Z = true) : (Jvm.Cond.instanceMethod ({ cls := "com/example/mergewright/mergewright/merge/Match", name := "<init>", desc := "(Ljava/lang/Object;Ljava/lang/Object;Ljava/lang/Object;)V" } : Jvm.MethodName)).before a0 Z = true := hw _ (List.mem_of_getElem? (i := 11) rfl)
theorem kw12 {Z : State} {a0 : Array Value} (hw : ∀ d ∈ own_tab, d.before a0 Z = true) : (Jvm.Cond.code ({ cls := "com/example/mergewright/mergewright/merge/Match", name := "<init>", desc := "(Ljava/lang/Object;Ljava/lang/Object;Ljava/lang/Object;)V" } : Jvm.MethodName) prog_31_method_1_code (4 : Nat) (Option.none : Option Jvm.ClassFile.FieldType)).before a0 Z = true := hw _ (List.mem_of_getElem? (i := 12) rfl)
theorem kw13 {Z : State} {a0 : Array Value} (hw : ∀ d ∈ own_tab, d.before a0 Z = true) : (Jvm.Cond.methodLink "com/example/mergewright/mergewright/merge/Match" (1 : Nat) ({ cls := "java/lang/Object", name := "<init>", desc := "()V" } : Jvm.MethodName)).before a0 Z = true := hw _ (List.mem_of_getElem? (i := 13) rfl)
theorem kw14 {Z : State} {a0 : Array Value} (hw : ∀ d ∈ own_tab, d.before a0 Z = true) : (Jvm.Cond.instanceMethod ({ cls := "java/lang/Object", name := "<init>", desc := "()V" } : Jvm.MethodName)).before a0 Z = true := hw _ (List.mem_of_getElem? (i := 14) rfl)
theorem kw15 {Z : State} {a0 : Array Value} (hw : ∀ d ∈ own_tab, d.before a0 Z = true) : (Jvm.Cond.code ({ cls := "java/lang/Object", name := "<init>", desc := "()V" } : Jvm.MethodName) object_method_1_code (1 : Nat) (Option.none : Option Jvm.ClassFile.FieldType)).before a0 Z = true := hw _ (List.mem_of_getElem? (i := 15) rfl)
theorem kw16 {Z : State} {a0 : Array Value} (hw : ∀ d ∈ own_tab, d.before a0 Z = true) : (Jvm.Cond.fieldLink "com/example/mergewright/mergewright/merge/Match" (7 : Nat) "com/example/mergewright/mergewright/merge/Match" "current" "Ljava/lang/Object;").before a0 Z = true := hw _ (List.mem_of_getElem? (i := 16) rfl)
theorem kw17 {Z : State} {a0 : Array Value} (hw : ∀ d ∈ own_tab, d.before a0 Z = true) : (Jvm.Cond.laysFinal "com/example/mergewright/mergewright/merge/Match" "com/example/mergewright/mergewright/merge/Match" "current" "Ljava/lang/Object;").before a0 Z = true := hw _ (List.mem_of_getElem? (i := 17) rfl)
theorem kw18 {Z : State} {a0 : Array Value} (hw : ∀ d ∈ own_tab, d.before a0 Z = true) : (Jvm.Cond.fieldLink "com/example/mergewright/mergewright/merge/Match" (13 : Nat) "com/example/mergewright/mergewright/merge/Match" "base" "Ljava/lang/Object;").before a0 Z = true := hw _ (List.mem_of_getElem? (i := 18) rfl)
theorem kw19 {Z : State} {a0 : Array Value} (hw : ∀ d ∈ own_tab, d.before a0 Z = true) : (Jvm.Cond.laysFinal "com/example/mergewright/mergewright/merge/Match" "com/example/mergewright/mergewright/merge/Match" "base" "Ljava/lang/Object;").before a0 Z = true := hw _ (List.mem_of_getElem? (i := 19) rfl)
theorem kw20 {Z : State} {a0 : Array Value} (hw : ∀ d ∈ own_tab, d.before a0 Z = true) : (Jvm.Cond.fieldLink "com/example/mergewright/mergewright/merge/Match" (16 : Nat) "com/example/mergewright/mergewright/merge/Match" "other" "Ljava/lang/Object;").before a0 Z = true := hw _ (List.mem_of_getElem? (i := 20) rfl)
theorem kw21 {Z : State} {a0 : Array Value} (hw : ∀ d ∈ own_tab, d.before a0 Z = true) : (Jvm.Cond.laysFinal "com/example/mergewright/mergewright/merge/Match" "com/example/mergewright/mergewright/merge/Match" "other" "Ljava/lang/Object;").before a0 Z = true := hw _ (List.mem_of_getElem? (i := 21) rfl)
theorem kw22 {Z : State} {a0 : Array Value} (hw : ∀ d ∈ own_tab, d.before a0 Z = true) : (Jvm.Cond.methodLink "com/example/mergewright/mergewright/merge/MatchIsInsertedByBothPinLaw" (18 : Nat) ({ cls := "com/example/mergewright/mergewright/merge/Match", name := "isInsertedByBoth", desc := "()Z" } : Jvm.MethodName)).before a0 Z = true := hw _ (List.mem_of_getElem? (i := 22) rfl)
theorem kw23 {Z : State} {a0 : Array Value} (hw : ∀ d ∈ own_tab, d.before a0 Z = true) : (Jvm.Cond.declares ({ cls := "com/example/mergewright/mergewright/merge/Match", name := "isInsertedByBoth", desc := "()Z" } : Jvm.MethodName)).before a0 Z = true := hw _ (List.mem_of_getElem? (i := 23) rfl)
theorem kw24 {Z : State} {a0 : Array Value} (hw : ∀ d ∈ own_tab, d.before a0 Z = true) : (Jvm.Cond.instanceMethod ({ cls := "com/example/mergewright/mergewright/merge/Match", name := "isInsertedByBoth", desc := "()Z" } : Jvm.MethodName)).before a0 Z = true := hw _ (List.mem_of_getElem? (i := 24) rfl)
theorem kw25 {Z : State} {a0 : Array Value} (hw : ∀ d ∈ own_tab, d.before a0 Z = true) : (Jvm.Cond.selects "com/example/mergewright/mergewright/merge/Match" ({ cls := "com/example/mergewright/mergewright/merge/Match", name := "isInsertedByBoth", desc := "()Z" } : Jvm.MethodName) ({ cls := "com/example/mergewright/mergewright/merge/Match", name := "isInsertedByBoth", desc := "()Z" } : Jvm.MethodName)).before a0 Z = true := hw _ (List.mem_of_getElem? (i := 25) rfl)
theorem kw26 {Z : State} {a0 : Array Value} (hw : ∀ d ∈ own_tab, d.before a0 Z = true) : (Jvm.Cond.code ({ cls := "com/example/mergewright/mergewright/merge/Match", name := "isInsertedByBoth", desc := "()Z" } : Jvm.MethodName) prog_31_method_4_code (1 : Nat) (Option.some Jvm.ClassFile.FieldType.boolean)).before a0 Z = true := hw _ (List.mem_of_getElem? (i := 26) rfl)
theorem kw27 {Z : State} {a0 : Array Value} (hw : ∀ d ∈ own_tab, d.before a0 Z = true) : (Jvm.Cond.methodLink "com/example/mergewright/mergewright/merge/MatchIsInsertedByBothPinLaw" (22 : Nat) ({ cls := "com/example/mergewright/mergewright/merge/Match", name := "inserted", desc := "(Ljava/lang/Object;)Lcom/example/mergewright/mergewright/merge/Match;" } : Jvm.MethodName)).before a0 Z = true := hw _ (List.mem_of_getElem? (i := 27) rfl)
theorem kw28 {Z : State} {a0 : Array Value} (hw : ∀ d ∈ own_tab, d.before a0 Z = true) : (Jvm.Cond.static ({ cls := "com/example/mergewright/mergewright/merge/Match", name := "inserted", desc := "(Ljava/lang/Object;)Lcom/example/mergewright/mergewright/merge/Match;" } : Jvm.MethodName)).before a0 Z = true := hw _ (List.mem_of_getElem? (i := 28) rfl)
theorem kw29 {Z : State} {a0 : Array Value} (hw : ∀ d ∈ own_tab, d.before a0 Z = true) : (Jvm.Cond.code ({ cls := "com/example/mergewright/mergewright/merge/Match", name := "inserted", desc := "(Ljava/lang/Object;)Lcom/example/mergewright/mergewright/merge/Match;" } : Jvm.MethodName) prog_31_method_2_code (1 : Nat) (Option.some (Jvm.ClassFile.FieldType.object "com/example/mergewright/mergewright/merge/Match"))).before a0 Z = true := hw _ (List.mem_of_getElem? (i := 29) rfl)
theorem kw30 {Z : State} {a0 : Array Value} (hw : ∀ d ∈ own_tab, d.before a0 Z = true) : (Jvm.Cond.classLink "com/example/mergewright/mergewright/merge/Match" (8 : Nat) "com/example/mergewright/mergewright/merge/Match").before a0 Z = true := hw _ (List.mem_of_getElem? (i := 30) rfl)
theorem kw31 {Z : State} {a0 : Array Value} (hw : ∀ d ∈ own_tab, d.before a0 Z = true) : (Jvm.Cond.methodLink "com/example/mergewright/mergewright/merge/Match" (19 : Nat) ({ cls := "com/example/mergewright/mergewright/merge/Match", name := "<init>", desc := "(Ljava/lang/Object;Ljava/lang/Object;Ljava/lang/Object;)V" } : Jvm.MethodName)).before a0 Z = true := hw _ (List.mem_of_getElem? (i := 31) rfl)
theorem kw32 {Z : State} {a0 : Array Value} (hw : ∀ d ∈ own_tab, d.before a0 Z = true) : (Jvm.Cond.methodLink "com/example/mergewright/mergewright/merge/MatchIsInsertedByBothPinLaw" (26 : Nat) ({ cls := "com/example/mergewright/mergewright/merge/Match", name := "insertedByBoth", desc := "(Ljava/lang/Object;Ljava/lang/Object;)Lcom/example/mergewright/mergewright/merge/Match;" } : Jvm.MethodName)).before a0 Z = true := hw _ (List.mem_of_getElem? (i := 32) rfl)
theorem kw33 {Z : State} {a0 : Array Value} (hw : ∀ d ∈ own_tab, d.before a0 Z = true) : (Jvm.Cond.static ({ cls := "com/example/mergewright/mergewright/merge/Match", name := "insertedByBoth", desc := "(Ljava/lang/Object;Ljava/lang/Object;)Lcom/example/mergewright/mergewright/merge/Match;" } : Jvm.MethodName)).before a0 Z = true := hw _ (List.mem_of_getElem? (i := 33) rfl)
theorem kw34 {Z : State} {a0 : Array Value} (hw : ∀ d ∈ own_tab, d.before a0 Z = true) : (Jvm.Cond.code ({ cls := "com/example/mergewright/mergewright/merge/Match", name := "insertedByBoth", desc := "(Ljava/lang/Object;Ljava/lang/Object;)Lcom/example/mergewright/mergewright/merge/Match;" } : Jvm.MethodName) prog_31_method_3_code (2 : Nat) (Option.some (Jvm.ClassFile.FieldType.object "com/example/mergewright/mergewright/merge/Match"))).before a0 Z = true := hw _ (List.mem_of_getElem? (i := 34) rfl)
theorem kw35 {Z : State} {a0 : Array Value} (hw : ∀ d ∈ own_tab, d.before a0 Z = true) : (Jvm.Cond.classLink "java/lang/Integer" (1 : Nat) "java/lang/Integer").before a0 Z = true := hw _ (List.mem_of_getElem? (i := 35) rfl)
theorem kw36 {Z : State} {a0 : Array Value} (hw : ∀ d ∈ own_tab, d.before a0 Z = true) : (Jvm.Cond.instantiable "java/lang/Integer" (1 : Nat)).before a0 Z = true := hw _ (List.mem_of_getElem? (i := 36) rfl)
theorem kw37 {Z : State} {a0 : Array Value} (hw : ∀ d ∈ own_tab, d.before a0 Z = true) : (Jvm.Cond.methodLink "java/lang/Integer" (199 : Nat) ({ cls := "java/lang/Integer", name := "<init>", desc := "(I)V" } : Jvm.MethodName)).before a0 Z = true := hw _ (List.mem_of_getElem? (i := 37) rfl)
theorem kw38 {Z : State} {a0 : Array Value} (hw : ∀ d ∈ own_tab, d.before a0 Z = true) : (Jvm.Cond.instanceMethod ({ cls := "java/lang/Integer", name := "<init>", desc := "(I)V" } : Jvm.MethodName)).before a0 Z = true := hw _ (List.mem_of_getElem? (i := 38) rfl)
theorem kw40 {Z : State} {a0 : Array Value} (hw : ∀ d ∈ own_tab, d.before a0 Z = true) : (Jvm.Cond.code ({ cls := "java/lang/Integer", name := "<init>", desc := "(I)V" } : Jvm.MethodName) jdk_33_method_23_code (2 : Nat) (Option.none : Option Jvm.ClassFile.FieldType)).before a0 Z = true := hw _ (List.mem_of_getElem? (i := 40) rfl)
theorem kw41 {Z : State} {a0 : Array Value} (hw : ∀ d ∈ own_tab, d.before a0 Z = true) : (Jvm.Cond.methodLink "java/lang/Integer" (202 : Nat) ({ cls := "java/lang/Number", name := "<init>", desc := "()V" } : Jvm.MethodName)).before a0 Z = true := hw _ (List.mem_of_getElem? (i := 41) rfl)
theorem kw42 {Z : State} {a0 : Array Value} (hw : ∀ d ∈ own_tab, d.before a0 Z = true) : (Jvm.Cond.instanceMethod ({ cls := "java/lang/Number", name := "<init>", desc := "()V" } : Jvm.MethodName)).before a0 Z = true := hw _ (List.mem_of_getElem? (i := 42) rfl)
theorem kw45 {Z : State} {a0 : Array Value} (hw : ∀ d ∈ own_tab, d.before a0 Z = true) : (Jvm.Cond.initialized "java/lang/Number").before a0 Z = true := hw _ (List.mem_of_getElem? (i := 45) rfl)
theorem kw46 {Z : State} {a0 : Array Value} (hw : ∀ d ∈ own_tab, d.before a0 Z = true) : (Jvm.Cond.code ({ cls := "java/lang/Number", name := "<init>", desc := "()V" } : Jvm.MethodName) jdk_18_method_1_code (1 : Nat) (Option.none : Option Jvm.ClassFile.FieldType)).before a0 Z = true := hw _ (List.mem_of_getElem? (i := 46) rfl)
theorem kw47 {Z : State} {a0 : Array Value} (hw : ∀ d ∈ own_tab, d.before a0 Z = true) : (Jvm.Cond.methodLink "java/lang/Number" (1 : Nat) ({ cls := "java/lang/Object", name := "<init>", desc := "()V" } : Jvm.MethodName)).before a0 Z = true := hw _ (List.mem_of_getElem? (i := 47) rfl)
theorem kw48 {Z : State} {a0 : Array Value} (hw : ∀ d ∈ own_tab, d.before a0 Z = true) : (Jvm.Cond.fieldLink "java/lang/Integer" (205 : Nat) "java/lang/Integer" "value" "I").before a0 Z = true := hw _ (List.mem_of_getElem? (i := 48) rfl)
theorem kw49 {Z : State} {a0 : Array Value} (hw : ∀ d ∈ own_tab, d.before a0 Z = true) : (Jvm.Cond.laysFinal "java/lang/Integer" "java/lang/Integer" "value" "I").before a0 Z = true := hw _ (List.mem_of_getElem? (i := 49) rfl)
theorem kw51 {Z : State} {a0 : Array Value} (hw : ∀ d ∈ own_tab, d.before a0 Z = true) : (Jvm.Cond.initializedFor "java/lang/Integer$IntegerCache" "high" "I").before a0 Z = true := hw _ (List.mem_of_getElem? (i := 51) rfl)
theorem kw52 {Z : State} {a0 : Array Value} (hw : ∀ d ∈ own_tab, d.before a0 Z = true) : (Jvm.Cond.laysStatic "java/lang/Integer$IntegerCache" "cache" "[Ljava/lang/Integer;").before a0 Z = true := hw _ (List.mem_of_getElem? (i := 52) rfl)
theorem pn_0 : plainName "java/lang/Number" = true := by first | (simp [plainName, overriddenIn]; done) | decide +kernel
theorem pn_1 : plainName "java/lang/Integer" = true := by first | (simp [plainName, overriddenIn]; done) | decide +kernel
theorem pn_2 : plainName "com/example/mergewright/mergewright/merge/Match" = true := by first | (simp [plainName, overriddenIn]; done) | decide +kernel
theorem pn_3 : plainName "com/example/mergewright/mergewright/merge/MatchIsInsertedByBothPinLaw" = true := by first | (simp [plainName, overriddenIn]; done) | decide +kernel
theorem pd_0 : parseMethodDescriptor "()V" = some ⟨[], none⟩ := by decide +kernel
theorem pd_1 : parseMethodDescriptor "(I)V" = some ⟨[.int], none⟩ := by decide +kernel
theorem pd_2 : parseMethodDescriptor "(Ljava/lang/Object;Ljava/lang/Object;Ljava/lang/Object;)V" = some ⟨[(.object "java/lang/Object"), (.object "java/lang/Object"), (.object "java/lang/Object")], none⟩ := by decide +kernel
theorem pd_3 : parseMethodDescriptor "()Z" = some ⟨[], some .boolean⟩ := by decide +kernel
theorem pd_4 : parseMethodDescriptor "(I)Ljava/lang/Integer;" = some ⟨[.int], some (.object "java/lang/Integer")⟩ := by decide +kernel
theorem pd_5 : parseMethodDescriptor "(Ljava/lang/Object;)Lcom/example/mergewright/mergewright/merge/Match;" = some ⟨[(.object "java/lang/Object")], some (.object "com/example/mergewright/mergewright/merge/Match")⟩ := by decide +kernel
theorem pd_6 : parseMethodDescriptor "(Ljava/lang/Object;Ljava/lang/Object;)Lcom/example/mergewright/mergewright/merge/Match;" = some ⟨[(.object "java/lang/Object"), (.object "java/lang/Object")], some (.object "com/example/mergewright/mergewright/merge/Match")⟩ := by decide +kernel
theorem d1_0 : decode jdk_33_method_22_code 0 = .ok (.iload_n 0, 1) := by decide +kernel
theorem d1_1 : decode jdk_33_method_22_code 1 = .ok (.bipush (-128), 2) := by decide +kernel
theorem d1_3 : decode jdk_33_method_22_code 3 = .ok (.if_icmp .lt 20, 3) := by decide +kernel
theorem d1_6 : decode jdk_33_method_22_code 6 = .ok (.iload_n 0, 1) := by decide +kernel
theorem d1_7 : decode jdk_33_method_22_code 7 = .ok (.getstatic 191, 3) := by decide +kernel
theorem d1_10 : decode jdk_33_method_22_code 10 = .ok (.if_icmp .gt 13, 3) := by decide +kernel
theorem d1_13 : decode jdk_33_method_22_code 13 = .ok (.getstatic 195, 3) := by decide +kernel
theorem d1_16 : decode jdk_33_method_22_code 16 = .ok (.iload_n 0, 1) := by decide +kernel
theorem d1_17 : decode jdk_33_method_22_code 17 = .ok (.sipush 128, 3) := by decide +kernel
theorem d1_20 : decode jdk_33_method_22_code 20 = .ok (.iadd, 1) := by decide +kernel
theorem d1_21 : decode jdk_33_method_22_code 21 = .ok (.aaload, 1) := by decide +kernel
theorem d1_22 : decode jdk_33_method_22_code 22 = .ok (.areturn, 1) := by decide +kernel
theorem d1_23 : decode jdk_33_method_22_code 23 = .ok (.new 1, 3) := by decide +kernel
theorem d1_26 : decode jdk_33_method_22_code 26 = .ok (.dup, 1) := by decide +kernel
theorem d1_27 : decode jdk_33_method_22_code 27 = .ok (.iload_n 0, 1) := by decide +kernel
theorem d1_28 : decode jdk_33_method_22_code 28 = .ok (.invokespecial 199, 3) := by decide +kernel
theorem d1_31 : decode jdk_33_method_22_code 31 = .ok (.areturn, 1) := by decide +kernel
theorem d2_0 : decode prog_31_method_1_code 0 = .ok (.aload_n 0, 1) := by decide +kernel
theorem d2_1 : decode prog_31_method_1_code 1 = .ok (.invokespecial 1, 3) := by decide +kernel
theorem d2_4 : decode prog_31_method_1_code 4 = .ok (.aload_n 0, 1) := by decide +kernel
theorem d2_5 : decode prog_31_method_1_code 5 = .ok (.aload_n 1, 1) := by decide +kernel
theorem d2_6 : decode prog_31_method_1_code 6 = .ok (.putfield 7, 3) := by decide +kernel
theorem d2_9 : decode prog_31_method_1_code 9 = .ok (.aload_n 0, 1) := by decide +kernel
theorem d2_10 : decode prog_31_method_1_code 10 = .ok (.aload_n 2, 1) := by decide +kernel
theorem d2_11 : decode prog_31_method_1_code 11 = .ok (.putfield 13, 3) := by decide +kernel
theorem d2_14 : decode prog_31_method_1_code 14 = .ok (.aload_n 0, 1) := by decide +kernel
theorem d2_15 : decode prog_31_method_1_code 15 = .ok (.aload_n 3, 1) := by decide +kernel
theorem d2_16 : decode prog_31_method_1_code 16 = .ok (.putfield 16, 3) := by decide +kernel
theorem d2_19 : decode prog_31_method_1_code 19 = .ok (.return_, 1) := by decide +kernel
theorem d4_0 : decode prog_31_method_4_code 0 = .ok (.aload_n 0, 1) := by decide +kernel
theorem d4_1 : decode prog_31_method_4_code 1 = .ok (.getfield 13, 3) := by decide +kernel
theorem d4_4 : decode prog_31_method_4_code 4 = .ok (.ifnonnull 7, 3) := by decide +kernel
theorem d4_7 : decode prog_31_method_4_code 7 = .ok (.iconst 1, 1) := by decide +kernel
theorem d4_8 : decode prog_31_method_4_code 8 = .ok (.goto 4, 3) := by decide +kernel
theorem d4_11 : decode prog_31_method_4_code 11 = .ok (.iconst 0, 1) := by decide +kernel
theorem d4_12 : decode prog_31_method_4_code 12 = .ok (.ireturn, 1) := by decide +kernel
theorem d5_0 : decode prog_31_method_2_code 0 = .ok (.new 8, 3) := by decide +kernel
theorem d5_3 : decode prog_31_method_2_code 3 = .ok (.dup, 1) := by decide +kernel
theorem d5_4 : decode prog_31_method_2_code 4 = .ok (.aload_n 0, 1) := by decide +kernel
theorem d5_5 : decode prog_31_method_2_code 5 = .ok (.aload_n 0, 1) := by decide +kernel
theorem d5_6 : decode prog_31_method_2_code 6 = .ok (.aload_n 0, 1) := by decide +kernel
theorem d5_7 : decode prog_31_method_2_code 7 = .ok (.invokespecial 19, 3) := by decide +kernel
theorem d5_10 : decode prog_31_method_2_code 10 = .ok (.areturn, 1) := by decide +kernel
theorem d6_0 : decode prog_31_method_3_code 0 = .ok (.new 8, 3) := by decide +kernel
theorem d6_3 : decode prog_31_method_3_code 3 = .ok (.dup, 1) := by decide +kernel
theorem d6_4 : decode prog_31_method_3_code 4 = .ok (.aload_n 0, 1) := by decide +kernel
theorem d6_5 : decode prog_31_method_3_code 5 = .ok (.aconst_null, 1) := by decide +kernel
theorem d6_6 : decode prog_31_method_3_code 6 = .ok (.aload_n 1, 1) := by decide +kernel
theorem d6_7 : decode prog_31_method_3_code 7 = .ok (.invokespecial 19, 3) := by decide +kernel
theorem d6_10 : decode prog_31_method_3_code 10 = .ok (.areturn, 1) := by decide +kernel
theorem d7_0 : decode jdk_33_method_23_code 0 = .ok (.aload_n 0, 1) := by decide +kernel
theorem d7_1 : decode jdk_33_method_23_code 1 = .ok (.invokespecial 202, 3) := by decide +kernel
theorem d7_4 : decode jdk_33_method_23_code 4 = .ok (.aload_n 0, 1) := by decide +kernel
theorem d7_5 : decode jdk_33_method_23_code 5 = .ok (.iload_n 1, 1) := by decide +kernel
theorem d7_6 : decode jdk_33_method_23_code 6 = .ok (.putfield 205, 3) := by decide +kernel
theorem d7_9 : decode jdk_33_method_23_code 9 = .ok (.return_, 1) := by decide +kernel
theorem d8_0 : decode jdk_18_method_1_code 0 = .ok (.aload_n 0, 1) := by decide +kernel
theorem d8_1 : decode jdk_18_method_1_code 1 = .ok (.invokespecial 1, 3) := by decide +kernel
theorem d8_4 : decode jdk_18_method_1_code 4 = .ok (.return_, 1) := by decide +kernel
theorem ef_rm8 (m : MethodId) (x0 : Addr) : entryFrame m #[(.ref x0)] 1 = mkF m 0 #[.val (.ref x0)] [] := by first | (simp [entryFrame, mkF, argsToLocals, Value.category]; done) | rfl
def Q_rm8 (Z : State) (a1 : Addr) (h0 : Heap) (n0 : Nat) (v : Option Value) (h : Heap) (L : List Loc) : Prop := v = none ∧ Fr n0 L ∧ h = h0
set_option maxRecDepth 65536 in
set_option maxHeartbeats 40000000 in
theorem rm8 (l : Launch) (Z : State) (a0 : Array Value) (hw : ∀ d ∈ own_tab, d.before a0 Z = true) (ws : List Jvm.Cond) (a1 : Addr) (h0 : Heap) (n0 : Nat) (Z0 : n0 ≤ h0.size)  :
    MetFree l (⟨"java/lang/Number", "<init>", "()V"⟩ : MethodName) (head1 (Jvm.Cond.code (⟨"java/lang/Number", "<init>", "()V"⟩ : MethodName) jdk_18_method_1_code 1 none :: ws) ({ frames := 1, cells := 0, slots := 0, locals := 12 } : Room)) (fun a U => a = #[(.ref a1)] ∧ Z.Warmed39 U.vm ∧ U.heap = h0) (fun _ _ _ _ _ => True) (fun _ U o U' => ∃ v L, o = .returned v ∧ Q_rm8 Z a1 h0 n0 v U'.heap L ∧ FrameEnd U o U' L ({ frames := 1, cells := 0, slots := 0, locals := 12 } : Room).cells ({ frames := 1, cells := 0, slots := 0, locals := 12 } : Room).slots) := by
  refine MetFree.of_bodySF (plainFor_of_name pn_0) hisR ?_
  intro p e s m args below meth c s₁ Bd hml0 hP hK
  obtain ⟨rfl, hZ, hh⟩ := hP
  have hx := Bd.exec
  have hby := Bd.bytes
  have hml : c.maxLocals = 1 := hml0
  have hown : s.vm.findClass "java/lang/Number" = some m.cls := findClass_of_methodNamed Bd.named
  have hnm := (name_of_methodNamed Bd.named Bd.method).1
  have X0 : Stand p l e ({ frames := 1, cells := 0, slots := 0, locals := 12 } : Room) s m #[(.ref a1)] below meth c s₁ [] 0 0 := Stand.of_body Bd
  have e0 : s₁.heap = h0 := by rw [← hh, Bd.state]; rfl
  have N0 := Fr.nil n0
  have KR : Keep h0 h0 [] := Keep.refl h0 _
  have pre0 : ∀ t, Steps p.tables e below (s₁.setTop (mkF m 0 #[.val (.ref a1)] [])) t → Steps p.tables e below (s₁.setTop (entryFrame m #[(.ref a1)] 1)) t := fun t k => castTop (ef_rm8 m (a1)) k
  obtain ⟨T1, X1, e1, st1⟩ := initO X0 hx hZ hown (kw47 hw) (kw14 hw) (kw15 hw) e0 (g := (mkF m 1 #[.val (.ref a1)] [(.ref a1)])) rfl (by rw [hml]; rfl) rfl (hb hby d8_1) (by decide) (W := 0) (by show 2 * 0 + _ ≤ _; exact Nat.le_of_eq rfl) (by decide)
  obtain ⟨fs, hr, hrun, hended, hW, hsame⟩ := X1.leave (v := none) (fun _ => rfl)
  refine ⟨_, _, pre0 _ ?_, hrun, hended, _, _, rfl, ?_, ⟨_, rfl⟩, hW, hsame.mono (by decide) (by decide)⟩
  · skip
    show Steps p.tables e below (s₁.setTop (mkF m 0 #[.val (.ref a1)] [])) _
    refine XS.aloadN X0.here hx rfl (hb hby d8_0) rfl rfl ?_
    show Steps p.tables e below (s₁.setTop (mkF m 1 #[.val (.ref a1)] [(.ref a1)])) _
    refine st1 _ ?_
    show Steps p.tables e below (T1.setTop (mkF m 4 #[.val (.ref a1)] [])) _
    exact X1.returnOut hx Bd.returns (hb hby d8_4) hr
  · show Q_rm8 Z a1 h0 n0 _ T1.heap _
    rw [e1]
    exact ⟨rfl, N0, rfl⟩
theorem ef_rm7 (m : MethodId) (x0 : Addr) (x1 : Int32) : entryFrame m #[(.ref x0), (.int x1)] 2 = mkF m 0 #[.val (.ref x0), .val (.int x1)] [] := by first | (simp [entryFrame, mkF, argsToLocals, Value.category]; done) | rfl
def Q_rm7 (Z : State) (a1 : Addr) (p2 : Int32) (h0 : Heap) (n0 : Nat) (v : Option Value) (h : Heap) (L : List Loc) : Prop := v = none ∧ Fr n0 L ∧ Keep h0 h [a1]
set_option maxRecDepth 65536 in
set_option maxHeartbeats 40000000 in
theorem rm7 (l : Launch) (Z : State) (a0 : Array Value) (hw : ∀ d ∈ own_tab, d.before a0 Z = true) (ws : List Jvm.Cond) (a1 : Addr) (p2 : Int32) (h0 : Heap) (n0 : Nat) (Z0 : n0 ≤ h0.size) (P0 : Exa Z h0 a1 "java/lang/Integer") (P1 : n0 ≤ a1) (P2 : Fld Z h0 a1 "java/lang/Integer" "value" "I" (.int (0 : Int32))) :
    MetFree l (⟨"java/lang/Integer", "<init>", "(I)V"⟩ : MethodName) (head1 (Jvm.Cond.code (⟨"java/lang/Integer", "<init>", "(I)V"⟩ : MethodName) jdk_33_method_23_code 2 none :: ws) ({ frames := 2, cells := 0, slots := 0, locals := 24 } : Room)) (fun a U => a = #[(.ref a1), (.int p2)] ∧ Z.Warmed39 U.vm ∧ U.heap = h0) (fun _ _ _ _ _ => True) (fun _ U o U' => ∃ v L, o = .returned v ∧ Q_rm7 Z a1 p2 h0 n0 v U'.heap L ∧ FrameEnd U o U' L ({ frames := 2, cells := 0, slots := 0, locals := 24 } : Room).cells ({ frames := 2, cells := 0, slots := 0, locals := 24 } : Room).slots) := by
  refine MetFree.of_bodySF (plainFor_of_name pn_1) hisR ?_
  intro p e s m args below meth c s₁ Bd hml0 hP hK
  obtain ⟨rfl, hZ, hh⟩ := hP
  have hx := Bd.exec
  have hby := Bd.bytes
  have hml : c.maxLocals = 2 := hml0
  have hown : s.vm.findClass "java/lang/Integer" = some m.cls := findClass_of_methodNamed Bd.named
  have hnm := (name_of_methodNamed Bd.named Bd.method).1
  have X0 : Stand p l e ({ frames := 2, cells := 0, slots := 0, locals := 24 } : Room) s m #[(.ref a1), (.int p2)] below meth c s₁ [] 0 0 := Stand.of_body Bd
  have e0 : s₁.heap = h0 := by rw [← hh, Bd.state]; rfl
  have N0 := Fr.nil n0
  have KR : Keep h0 h0 [a1] := Keep.refl h0 _
  have pre0 : ∀ t, Steps p.tables e below (s₁.setTop (mkF m 0 #[.val (.ref a1), .val (.int p2)] [])) t → Steps p.tables e below (s₁.setTop (entryFrame m #[(.ref a1), (.int p2)] 2)) t := fun t k => castTop (ef_rm7 m (a1) (p2)) k
  obtain ⟨_, _, ⟨T1, L1, k1, n1⟩, -, X1, ⟨Lc1, hQ1, l1, y1, z1⟩, st1⟩ := X0.specialBack hx (y := (⟨"java/lang/Number", "<init>", "()V"⟩ : MethodName)) rfl hown (mvT hZ (kw41 hw)) (mvT hZ (kw42 hw)) (mvT hZ (kw46 hw)) (by decide) (backOf (W := 0) (rm8 l Z a0 hw [] a1 h0 n0 Z0 ) hZ (kw46 hw) (kw45 hw) (by decide) (by decide)) (g := (mkF m 1 #[.val (.ref a1), .val (.int p2)] [(.ref a1)])) rfl (by rw [hml]; rfl) (Steps.refl _) (a := a1) (argsL := []) (rest := []) (lenOf pd_0 rfl) rfl (by show 2 * 0 + _ ≤ _; exact Nat.le_of_eq rfl) (hb hby d7_1) (fun _ _ => ⟨rfl, e0, (by decide : 0 + 0 ≤ _), (by decide : 0 + 0 ≤ _)⟩)
  dsimp only [Pt.U, Pt.locs, Pt.cells, Pt.slots] at X1 l1 y1 z1 st1 hQ1
  subst l1 y1 z1
  obtain ⟨rfl, N1q, e1⟩ := hQ1
  have N1 := Fr.app N0 N1q
  obtain ⟨T2, h2, X2, e2, W2, st2⟩ := putF X1 hx hZ hown (host := "") (Or.inl (kw48 hw)) Via.refl e1 P2 P0 (Or.inr ⟨(kw49 hw), rfl, hnm⟩) (kw36 hw) (ty := .int) (by decide) rfl rfl (g := (mkF m 6 #[.val (.ref a1), .val (.int p2)] [(.int p2), (.ref a1)])) rfl rfl (hb hby d7_6)
  have Z2 : n0 ≤ h2.size := Nat.le_trans Z0 (Keep.of_wr W2).1
  have K2 : Keep h0 h2 [a1] := KR.wr W2 (Or.inl (List.mem_of_getElem? (i := 0) rfl))
  have N2 := Fr.snoc X2 N1 P1
  have Fw2 : Fld Z h2 a1 "java/lang/Integer" "value" "I" (.int p2) := P2.same W2
  obtain ⟨fs, hr, hrun, hended, hW, hsame⟩ := X2.leave (v := none) (fun _ => rfl)
  refine ⟨_, _, pre0 _ ?_, hrun, hended, _, _, rfl, ?_, ⟨_, rfl⟩, hW, hsame.mono (by decide) (by decide)⟩
  · skip
    show Steps p.tables e below (s₁.setTop (mkF m 0 #[.val (.ref a1), .val (.int p2)] [])) _
    refine XS.aloadN X0.here hx rfl (hb hby d7_0) rfl rfl ?_
    show Steps p.tables e below (s₁.setTop (mkF m 1 #[.val (.ref a1), .val (.int p2)] [(.ref a1)])) _
    refine st1.trans ?_
    show Steps p.tables e below (T1.setTop (mkF m 4 #[.val (.ref a1), .val (.int p2)] [])) _
    refine XS.aloadN X1.here hx rfl (hb hby d7_4) rfl rfl ?_
    show Steps p.tables e below (T1.setTop (mkF m 5 #[.val (.ref a1), .val (.int p2)] [(.ref a1)])) _
    refine XS.iloadN X1.here hx rfl (hb hby d7_5) rfl ?_
    show Steps p.tables e below (T1.setTop (mkF m 6 #[.val (.ref a1), .val (.int p2)] [(.int p2), (.ref a1)])) _
    refine st2 _ ?_
    show Steps p.tables e below (T2.setTop (mkF m 9 #[.val (.ref a1), .val (.int p2)] [])) _
    exact X2.returnOut hx Bd.returns (hb hby d7_9) hr
  · show Q_rm7 Z a1 p2 h0 n0 _ T2.heap _
    rw [e2]
    exact ⟨rfl, N2, K2⟩
theorem ef_rm1 (m : MethodId) (x0 : Int32) : entryFrame m #[(.int x0)] 1 = mkF m 0 #[.val (.int x0)] [] := by first | (simp [entryFrame, mkF, argsToLocals, Value.category]; done) | rfl
def Q_rm1 (Z : State) (p1 : Int32) (w_cache : Addr) (h0 : Heap) (n0 : Nat) (v : Option Value) (h : Heap) (L : List Loc) : Prop := ∃ bb : Addr, v = some (.ref bb) ∧ Fr n0 L ∧ Keep h0 h []
set_option maxRecDepth 65536 in
set_option maxHeartbeats 40000000 in
theorem rm1 (l : Launch) (Z : State) (a0 : Array Value) (hw : ∀ d ∈ own_tab, d.before a0 Z = true) (ws : List Jvm.Cond) (p1 : Int32) (w_cache : Addr) (h0 : Heap) (n0 : Nat) (Z0 : n0 ≤ h0.size) (P0 : Old Z n0 h0) (P1 : Sta Z Z.heap "java/lang/Integer$IntegerCache" "high" "I" (.int (127 : Int32))) (P2 : Sta Z Z.heap "java/lang/Integer$IntegerCache" "cache" "[Ljava/lang/Integer;" (.ref w_cache)) (HC : own_cacheP Z w_cache) :
    MetFree l (⟨"java/lang/Integer", "valueOf", "(I)Ljava/lang/Integer;"⟩ : MethodName) (head1 (Jvm.Cond.code (⟨"java/lang/Integer", "valueOf", "(I)Ljava/lang/Integer;"⟩ : MethodName) jdk_33_method_22_code 1 (some (.object "java/lang/Integer")) :: ws) ({ frames := 3, cells := 1, slots := 1, locals := 38 } : Room)) (fun a U => a = #[(.int p1)] ∧ Z.Warmed39 U.vm ∧ U.heap = h0) (fun _ _ _ _ _ => True) (fun _ U o U' => ∃ v L, o = .returned v ∧ Q_rm1 Z p1 w_cache h0 n0 v U'.heap L ∧ FrameEnd U o U' L ({ frames := 3, cells := 1, slots := 1, locals := 38 } : Room).cells ({ frames := 3, cells := 1, slots := 1, locals := 38 } : Room).slots) := by
  refine MetFree.of_bodySF (plainFor_of_name pn_1) hisR ?_
  intro p e s m args below meth c s₁ Bd hml0 hP hK
  obtain ⟨rfl, hZ, hh⟩ := hP
  have hx := Bd.exec
  have hby := Bd.bytes
  have hml : c.maxLocals = 1 := hml0
  have hown : s.vm.findClass "java/lang/Integer" = some m.cls := findClass_of_methodNamed Bd.named
  have hnm := (name_of_methodNamed Bd.named Bd.method).1
  have X0 : Stand p l e ({ frames := 3, cells := 1, slots := 1, locals := 38 } : Room) s m #[(.int p1)] below meth c s₁ [] 0 0 := Stand.of_body Bd
  have e0 : s₁.heap = h0 := by rw [← hh, Bd.state]; rfl
  have N0 := Fr.nil n0
  have KR : Keep h0 h0 [] := Keep.refl h0 _
  have pre0 : ∀ t, Steps p.tables e below (s₁.setTop (mkF m 0 #[.val (.int p1)] [])) t → Steps p.tables e below (s₁.setTop (entryFrame m #[(.int p1)] 1)) t := fun t k => castTop (ef_rm1 m (p1)) k
  have pre1 : ∀ t, Steps p.tables e below (s₁.setTop (mkF m 3 #[.val (.int p1)] [(.int (-128 : Int32)), (.int p1)])) t → Steps p.tables e below (s₁.setTop (entryFrame m #[(.int p1)] 1)) t := fun t k => pre0 t (by
    show Steps p.tables e below (s₁.setTop (mkF m 0 #[.val (.int p1)] [])) _
    refine XS.iloadN X0.here hx rfl (hb hby d1_0) rfl ?_
    show Steps p.tables e below (s₁.setTop (mkF m 1 #[.val (.int p1)] [(.int p1)])) _
    refine XS.bipush X0.here hx rfl (hb hby d1_1) ?_
    show Steps p.tables e below (s₁.setTop (mkF m 3 #[.val (.int p1)] [(.int (-128 : Int32)), (.int p1)])) _
    exact k)
  by_cases hc2 : p1 < (-128 : Int32)
  · skip
    obtain ⟨T3, h3, X3, e3, E3, A3, D3, -, st3⟩ := newO X0 hx hZ hown (kw35 hw) (kw36 hw) (kw2 hw) e0 (g := (mkF m 23 #[.val (.int p1)] [])) rfl (hb hby d1_23) (by decide) (by decide)
    obtain ⟨b3, g3⟩ : ∃ z, z = h0.size := ⟨_, rfl⟩
    rw [← g3] at A3 D3 st3
    have g_b3 : n0 ≤ b3 := Nat.le_trans Z0 (Nat.le_of_eq g3.symm)
    have sz_b3 : h0.size ≤ b3 := Nat.le_trans KR.1 (Nat.le_of_eq g3.symm)
    have Z3 : n0 ≤ h3.size := Nat.le_trans Z0 E3.1
    have K3 : Keep h0 h3 [] := KR.ext E3
    have F3_value : Fld Z h3 b3 "java/lang/Integer" "value" "I" (.int (0 : Int32)) := D3 (Or.inr (kw49 hw)) (ty := .int) (by decide)
    obtain ⟨_, _, ⟨T4, L4, k4, n4⟩, -, X4, ⟨Lc4, hQ4, l4, y4, z4⟩, st4⟩ := X3.specialBack hx (y := (⟨"java/lang/Integer", "<init>", "(I)V"⟩ : MethodName)) rfl hown (mvT hZ (kw37 hw)) (mvT hZ (kw38 hw)) (mvT hZ (kw40 hw)) (by decide) (backOf (W := 1) (rm7 l Z a0 hw [] b3 p1 h3 n0 Z3 A3 g_b3 F3_value) hZ (kw40 hw) (kw2 hw) (by decide) (by decide)) (g := (mkF m 28 #[.val (.int p1)] [(.int p1), (.ref b3), (.ref b3)])) rfl (by rw [hml]; rfl) (Steps.refl _) (a := b3) (argsL := [(.int p1)]) (rest := [(.ref b3)]) (lenOf pd_1 rfl) rfl (by show 2 * 0 + _ ≤ _; exact Nat.le_of_eq rfl) (hb hby d1_28) (fun _ _ => ⟨rfl, e3, (by decide : 1 + 0 ≤ _), (by decide : 1 + 0 ≤ _)⟩)
    dsimp only [Pt.U, Pt.locs, Pt.cells, Pt.slots] at X4 l4 y4 z4 st4 hQ4
    subst l4 y4 z4
    obtain ⟨rfl, N4q, Kq4⟩ := hQ4
    have N4 := Fr.app N0 N4q
    have Z4 : n0 ≤ T4.heap.size := Nat.le_trans Z3 Kq4.1
    have K4 : Keep h0 T4.heap [] := K3.trans Kq4 (allS (Or.inr sz_b3) all0)
    obtain ⟨fs, hr, hrun, hended, hW, hsame⟩ := X4.leave (v := some (.ref b3)) (fun h => by rw [Bd.returns] at h; cases h)
    refine ⟨_, _, pre1 _ ?_, hrun, hended, _, _, rfl, ?_, ⟨_, rfl⟩, hW, hsame.mono (by decide) (by decide)⟩
    · skip
      refine XS.icmpYes X0.here hx rfl (pc0 := 3) (pc' := 23) rfl (hb hby d1_3) rfl (tlt hc2).1 (by decide) (by decide) ?_
      show Steps p.tables e below (s₁.setTop (mkF m 23 #[.val (.int p1)] [])) _
      refine st3 _ ?_
      show Steps p.tables e below (T3.setTop (mkF m 26 #[.val (.int p1)] [(.ref b3)])) _
      refine XS.dup X3.here hx rfl (hb hby d1_26) rfl rfl ?_
      show Steps p.tables e below (T3.setTop (mkF m 27 #[.val (.int p1)] [(.ref b3), (.ref b3)])) _
      refine XS.iloadN X3.here hx rfl (hb hby d1_27) rfl ?_
      show Steps p.tables e below (T3.setTop (mkF m 28 #[.val (.int p1)] [(.int p1), (.ref b3), (.ref b3)])) _
      refine st4.trans ?_
      show Steps p.tables e below (T4.setTop (mkF m 31 #[.val (.int p1)] [(.ref b3)])) _
      jvm_step X4.here [X4.here.top, hx, (hb hby d1_31), X4.method', Bd.returns, Value.isRef, FieldType.isReference]
      first | (intro acts; rw [hr _ acts rfl rfl rfl]) | rw [hr _ _ rfl rfl rfl]
      exact Steps.refl _
    · show Q_rm1 Z p1 w_cache h0 n0 _ T4.heap _
      exact ⟨b3, rfl, N4, K4⟩
  · skip
    obtain ⟨T6, X6, e6, st6⟩ := getS2 X0 hx hZ hown (host := "") (Or.inl (kw4 hw)) Via.refl e0 (Sta.ext P0.2 P1) (g := (mkF m 7 #[.val (.int p1)] [(.int p1)])) rfl (hb hby d1_7)
    have pre7 : ∀ t, Steps p.tables e below (T6.setTop (mkF m 10 #[.val (.int p1)] [(.int (127 : Int32)), (.int p1)])) t → Steps p.tables e below (s₁.setTop (entryFrame m #[(.int p1)] 1)) t := fun t k => pre1 t (by
      refine XS.icmpNo X0.here hx rfl (hb hby d1_3) rfl (flt hc2).1 ?_
      show Steps p.tables e below (s₁.setTop (mkF m 6 #[.val (.int p1)] [])) _
      refine XS.iloadN X0.here hx rfl (hb hby d1_6) rfl ?_
      show Steps p.tables e below (s₁.setTop (mkF m 7 #[.val (.int p1)] [(.int p1)])) _
      refine st6 _ ?_
      show Steps p.tables e below (T6.setTop (mkF m 10 #[.val (.int p1)] [(.int (127 : Int32)), (.int p1)])) _
      exact k)
    by_cases hc8 : (127 : Int32) < p1
    · skip
      obtain ⟨T9, h9, X9, e9, E9, A9, D9, -, st9⟩ := newO X6 hx hZ hown (kw35 hw) (kw36 hw) (kw2 hw) e6 (g := (mkF m 23 #[.val (.int p1)] [])) rfl (hb hby d1_23) (by decide) (by decide)
      obtain ⟨b9, g9⟩ : ∃ z, z = h0.size := ⟨_, rfl⟩
      rw [← g9] at A9 D9 st9
      have g_b9 : n0 ≤ b9 := Nat.le_trans Z0 (Nat.le_of_eq g9.symm)
      have sz_b9 : h0.size ≤ b9 := Nat.le_trans KR.1 (Nat.le_of_eq g9.symm)
      have Z9 : n0 ≤ h9.size := Nat.le_trans Z0 E9.1
      have K9 : Keep h0 h9 [] := KR.ext E9
      have F9_value : Fld Z h9 b9 "java/lang/Integer" "value" "I" (.int (0 : Int32)) := D9 (Or.inr (kw49 hw)) (ty := .int) (by decide)
      obtain ⟨_, _, ⟨T10, L10, k10, n10⟩, -, X10, ⟨Lc10, hQ10, l10, y10, z10⟩, st10⟩ := X9.specialBack hx (y := (⟨"java/lang/Integer", "<init>", "(I)V"⟩ : MethodName)) rfl hown (mvT hZ (kw37 hw)) (mvT hZ (kw38 hw)) (mvT hZ (kw40 hw)) (by decide) (backOf (W := 1) (rm7 l Z a0 hw [] b9 p1 h9 n0 Z9 A9 g_b9 F9_value) hZ (kw40 hw) (kw2 hw) (by decide) (by decide)) (g := (mkF m 28 #[.val (.int p1)] [(.int p1), (.ref b9), (.ref b9)])) rfl (by rw [hml]; rfl) (Steps.refl _) (a := b9) (argsL := [(.int p1)]) (rest := [(.ref b9)]) (lenOf pd_1 rfl) rfl (by show 2 * 0 + _ ≤ _; exact Nat.le_of_eq rfl) (hb hby d1_28) (fun _ _ => ⟨rfl, e9, (by decide : 1 + 0 ≤ _), (by decide : 1 + 0 ≤ _)⟩)
      dsimp only [Pt.U, Pt.locs, Pt.cells, Pt.slots] at X10 l10 y10 z10 st10 hQ10
      subst l10 y10 z10
      obtain ⟨rfl, N10q, Kq10⟩ := hQ10
      have N10 := Fr.app N0 N10q
      have Z10 : n0 ≤ T10.heap.size := Nat.le_trans Z9 Kq10.1
      have K10 : Keep h0 T10.heap [] := K9.trans Kq10 (allS (Or.inr sz_b9) all0)
      obtain ⟨fs, hr, hrun, hended, hW, hsame⟩ := X10.leave (v := some (.ref b9)) (fun h => by rw [Bd.returns] at h; cases h)
      refine ⟨_, _, pre7 _ ?_, hrun, hended, _, _, rfl, ?_, ⟨_, rfl⟩, hW, hsame.mono (by decide) (by decide)⟩
      · skip
        refine XS.icmpYes X6.here hx rfl (pc0 := 10) (pc' := 23) rfl (hb hby d1_10) rfl (tlt hc8).2.2.1 (by decide) (by decide) ?_
        show Steps p.tables e below (T6.setTop (mkF m 23 #[.val (.int p1)] [])) _
        refine st9 _ ?_
        show Steps p.tables e below (T9.setTop (mkF m 26 #[.val (.int p1)] [(.ref b9)])) _
        refine XS.dup X9.here hx rfl (hb hby d1_26) rfl rfl ?_
        show Steps p.tables e below (T9.setTop (mkF m 27 #[.val (.int p1)] [(.ref b9), (.ref b9)])) _
        refine XS.iloadN X9.here hx rfl (hb hby d1_27) rfl ?_
        show Steps p.tables e below (T9.setTop (mkF m 28 #[.val (.int p1)] [(.int p1), (.ref b9), (.ref b9)])) _
        refine st10.trans ?_
        show Steps p.tables e below (T10.setTop (mkF m 31 #[.val (.int p1)] [(.ref b9)])) _
        jvm_step X10.here [X10.here.top, hx, (hb hby d1_31), X10.method', Bd.returns, Value.isRef, FieldType.isReference]
        first | (intro acts; rw [hr _ acts rfl rfl rfl]) | rw [hr _ _ rfl rfl rfl]
        exact Steps.refl _
      · show Q_rm1 Z p1 w_cache h0 n0 _ T10.heap _
        exact ⟨b9, rfl, N10, K10⟩
    · skip
      obtain ⟨T12, X12, e12, st12⟩ := getS2 X6 hx hZ hown (host := "") (Or.inl (kw6 hw)) Via.refl e6 (Sta.ext P0.2 P2) (g := (mkF m 13 #[.val (.int p1)] [])) rfl (hb hby d1_13)
      obtain ⟨clc, Arc, Sc, Hc⟩ := HC
      have Arn : Arr Z h0 w_cache clc (.object "java/lang/Integer") := Arc.ext P0.2
      have pk := IntBox.place_ok p1 hc2 hc8
      obtain ⟨bb, hbb⟩ := Hc _ pk.2
      have hin : ¬ ((p1 + (128 : Int32)) < 0 ∨ clc.slots.size ≤ ((p1 + (128 : Int32))).toNatClampNeg) := by rw [Sc]; exact pk.1
      obtain ⟨fs, hr, hrun, hended, hW, hsame⟩ := X12.leave (v := some (.ref bb)) (fun h => by rw [Bd.returns] at h; cases h)
      refine ⟨_, _, pre7 _ ?_, hrun, hended, _, _, rfl, ?_, ⟨_, rfl⟩, hW, hsame.mono (by decide) (by decide)⟩
      · skip
        refine XS.icmpNo X6.here hx rfl (hb hby d1_10) rfl (flt hc8).2.2.1 ?_
        show Steps p.tables e below (T6.setTop (mkF m 13 #[.val (.int p1)] [])) _
        refine st12 _ ?_
        show Steps p.tables e below (T12.setTop (mkF m 16 #[.val (.int p1)] [(.ref w_cache)])) _
        refine XS.iloadN X12.here hx rfl (hb hby d1_16) rfl ?_
        show Steps p.tables e below (T12.setTop (mkF m 17 #[.val (.int p1)] [(.int p1), (.ref w_cache)])) _
        refine XS.sipush X12.here hx rfl (hb hby d1_17) ?_
        show Steps p.tables e below (T12.setTop (mkF m 20 #[.val (.int p1)] [(.int (128 : Int32)), (.int p1), (.ref w_cache)])) _
        refine XS.iadd X12.here hx rfl (hb hby d1_20) rfl ?_
        show Steps p.tables e below (T12.setTop (mkF m 21 #[.val (.int p1)] [(.int (p1 + (128 : Int32))), (.ref w_cache)])) _
        refine X12.aaload hx (j := (p1 + (128 : Int32))) (v := (.ref bb)) (by rw [e12]; exact Arn.1) (State.isArrayOf_alike hZ.alike Arn.2.1) rfl Arn.2.2 hin hbb (g := (mkF m 21 #[.val (.int p1)] [(.int (p1 + (128 : Int32))), (.ref w_cache)])) rfl rfl (hb hby d1_21) _ ?_
        show Steps p.tables e below (T12.setTop (mkF m 22 #[.val (.int p1)] [(.ref bb)])) _
        jvm_step X12.here [X12.here.top, hx, (hb hby d1_22), X12.method', Bd.returns, Value.isRef, FieldType.isReference]
        first | (intro acts; rw [hr _ acts rfl rfl rfl]) | rw [hr _ _ rfl rfl rfl]
        exact Steps.refl _
      · show Q_rm1 Z p1 w_cache h0 n0 _ T12.heap _
        rw [e12]
        exact ⟨bb, rfl, N0, KR⟩
theorem ef_rm2_nnn (m : MethodId) (x0 : Addr) : entryFrame m #[(.ref x0), .null, .null, .null] 4 = mkF m 0 #[.val (.ref x0), .val .null, .val .null, .val .null] [] := by first | (simp [entryFrame, mkF, argsToLocals, Value.category]; done) | rfl
def Q_rm2_nnn (Z : State) (a1 : Addr) (h0 : Heap) (n0 : Nat) (v : Option Value) (h : Heap) (L : List Loc) : Prop := v = none ∧ Fr n0 L ∧ Keep h0 h [a1] ∧ Fld Z h a1 "com/example/mergewright/mergewright/merge/Match" "base" "Ljava/lang/Object;" .null
set_option maxRecDepth 65536 in
set_option maxHeartbeats 40000000 in
theorem rm2_nnn (l : Launch) (Z : State) (a0 : Array Value) (hw : ∀ d ∈ own_tab, d.before a0 Z = true) (ws : List Jvm.Cond) (a1 : Addr) (h0 : Heap) (n0 : Nat) (Z0 : n0 ≤ h0.size) (P0 : Exa Z h0 a1 "com/example/mergewright/mergewright/merge/Match") (P1 : n0 ≤ a1) (P2 : Fld Z h0 a1 "com/example/mergewright/mergewright/merge/Match" "current" "Ljava/lang/Object;" .null) (P3 : Fld Z h0 a1 "com/example/mergewright/mergewright/merge/Match" "base" "Ljava/lang/Object;" .null) (P4 : Fld Z h0 a1 "com/example/mergewright/mergewright/merge/Match" "other" "Ljava/lang/Object;" .null) :
    MetFree l (⟨"com/example/mergewright/mergewright/merge/Match", "<init>", "(Ljava/lang/Object;Ljava/lang/Object;Ljava/lang/Object;)V"⟩ : MethodName) (head1 (Jvm.Cond.code (⟨"com/example/mergewright/mergewright/merge/Match", "<init>", "(Ljava/lang/Object;Ljava/lang/Object;Ljava/lang/Object;)V"⟩ : MethodName) prog_31_method_1_code 4 none :: ws) ({ frames := 1, cells := 0, slots := 0, locals := 12 } : Room)) (fun a U => a = #[(.ref a1), .null, .null, .null] ∧ Z.Warmed39 U.vm ∧ U.heap = h0) (fun _ _ _ _ _ => True) (fun _ U o U' => ∃ v L, o = .returned v ∧ Q_rm2_nnn Z a1 h0 n0 v U'.heap L ∧ FrameEnd U o U' L ({ frames := 1, cells := 0, slots := 0, locals := 12 } : Room).cells ({ frames := 1, cells := 0, slots := 0, locals := 12 } : Room).slots) := by
  refine MetFree.of_bodySF (plainFor_of_name pn_2) hisR ?_
  intro p e s m args below meth c s₁ Bd hml0 hP hK
  obtain ⟨rfl, hZ, hh⟩ := hP
  have hx := Bd.exec
  have hby := Bd.bytes
  have hml : c.maxLocals = 4 := hml0
  have hown : s.vm.findClass "com/example/mergewright/mergewright/merge/Match" = some m.cls := findClass_of_methodNamed Bd.named
  have hnm := (name_of_methodNamed Bd.named Bd.method).1
  have X0 : Stand p l e ({ frames := 1, cells := 0, slots := 0, locals := 12 } : Room) s m #[(.ref a1), .null, .null, .null] below meth c s₁ [] 0 0 := Stand.of_body Bd
  have e0 : s₁.heap = h0 := by rw [← hh, Bd.state]; rfl
  have N0 := Fr.nil n0
  have KR : Keep h0 h0 [a1] := Keep.refl h0 _
  have pre0 : ∀ t, Steps p.tables e below (s₁.setTop (mkF m 0 #[.val (.ref a1), .val .null, .val .null, .val .null] [])) t → Steps p.tables e below (s₁.setTop (entryFrame m #[(.ref a1), .null, .null, .null] 4)) t := fun t k => castTop (ef_rm2_nnn m (a1)) k
  obtain ⟨T1, X1, e1, st1⟩ := initO X0 hx hZ hown (kw13 hw) (kw14 hw) (kw15 hw) e0 (g := (mkF m 1 #[.val (.ref a1), .val .null, .val .null, .val .null] [(.ref a1)])) rfl (by rw [hml]; rfl) rfl (hb hby d2_1) (by decide) (W := 0) (by show 2 * 0 + _ ≤ _; exact Nat.le_of_eq rfl) (by decide)
  obtain ⟨T2, h2, X2, e2, W2, st2⟩ := putF X1 hx hZ hown (host := "") (Or.inl (kw16 hw)) Via.refl e1 P2 P0 (Or.inr ⟨(kw17 hw), rfl, hnm⟩) (kw8 hw) (ty := (.object "java/lang/Object")) (by decide) rfl rfl (g := (mkF m 6 #[.val (.ref a1), .val .null, .val .null, .val .null] [.null, (.ref a1)])) rfl rfl (hb hby d2_6)
  have Z2 : n0 ≤ h2.size := Nat.le_trans Z0 (Keep.of_wr W2).1
  have K2 : Keep h0 h2 [a1] := KR.wr W2 (Or.inl (List.mem_of_getElem? (i := 0) rfl))
  have N2 := Fr.snoc X2 N0 P1
  have Fw2 : Fld Z h2 a1 "com/example/mergewright/mergewright/merge/Match" "current" "Ljava/lang/Object;" .null := P2.same W2
  have f3 : Exa Z h2 a1 "com/example/mergewright/mergewright/merge/Match" := (P0.wr W2)
  have f4 : Fld Z h2 a1 "com/example/mergewright/mergewright/merge/Match" "base" "Ljava/lang/Object;" .null := (P3.other W2 (Or.inr (slot_ne (Or.inr (kw19 hw)) (Or.inr (kw17 hw)) (by decide) (t := (.object "java/lang/Object")) (t' := (.object "java/lang/Object")) (by decide) (by decide))))
  obtain ⟨T5, h5, X5, e5, W5, st5⟩ := putF X2 hx hZ hown (host := "") (Or.inl (kw18 hw)) Via.refl e2 f4 f3 (Or.inr ⟨(kw19 hw), rfl, hnm⟩) (kw8 hw) (ty := (.object "java/lang/Object")) (by decide) rfl rfl (g := (mkF m 11 #[.val (.ref a1), .val .null, .val .null, .val .null] [.null, (.ref a1)])) rfl rfl (hb hby d2_11)
  have Z5 : n0 ≤ h5.size := Nat.le_trans Z2 (Keep.of_wr W5).1
  have K5 : Keep h0 h5 [a1] := K2.wr W5 (Or.inl (List.mem_of_getElem? (i := 0) rfl))
  have N5 := Fr.snoc X5 N2 P1
  have Fw5 : Fld Z h5 a1 "com/example/mergewright/mergewright/merge/Match" "base" "Ljava/lang/Object;" .null := f4.same W5
  have f6 : Exa Z h5 a1 "com/example/mergewright/mergewright/merge/Match" := (f3.wr W5)
  have f7 : Fld Z h5 a1 "com/example/mergewright/mergewright/merge/Match" "other" "Ljava/lang/Object;" .null := ((P4.other W2 (Or.inr (slot_ne (Or.inr (kw21 hw)) (Or.inr (kw17 hw)) (by decide) (t := (.object "java/lang/Object")) (t' := (.object "java/lang/Object")) (by decide) (by decide)))).other W5 (Or.inr (slot_ne (Or.inr (kw21 hw)) (Or.inr (kw19 hw)) (by decide) (t := (.object "java/lang/Object")) (t' := (.object "java/lang/Object")) (by decide) (by decide))))
  obtain ⟨T8, h8, X8, e8, W8, st8⟩ := putF X5 hx hZ hown (host := "") (Or.inl (kw20 hw)) Via.refl e5 f7 f6 (Or.inr ⟨(kw21 hw), rfl, hnm⟩) (kw8 hw) (ty := (.object "java/lang/Object")) (by decide) rfl rfl (g := (mkF m 16 #[.val (.ref a1), .val .null, .val .null, .val .null] [.null, (.ref a1)])) rfl rfl (hb hby d2_16)
  have Z8 : n0 ≤ h8.size := Nat.le_trans Z5 (Keep.of_wr W8).1
  have K8 : Keep h0 h8 [a1] := K5.wr W8 (Or.inl (List.mem_of_getElem? (i := 0) rfl))
  have N8 := Fr.snoc X8 N5 P1
  have Fw8 : Fld Z h8 a1 "com/example/mergewright/mergewright/merge/Match" "other" "Ljava/lang/Object;" .null := f7.same W8
  have f9 : Fld Z h8 a1 "com/example/mergewright/mergewright/merge/Match" "base" "Ljava/lang/Object;" .null := (Fw5.other W8 (Or.inr (slot_ne (Or.inr (kw19 hw)) (Or.inr (kw21 hw)) (by decide) (t := (.object "java/lang/Object")) (t' := (.object "java/lang/Object")) (by decide) (by decide))))
  obtain ⟨fs, hr, hrun, hended, hW, hsame⟩ := X8.leave (v := none) (fun _ => rfl)
  refine ⟨_, _, pre0 _ ?_, hrun, hended, _, _, rfl, ?_, ⟨_, rfl⟩, hW, hsame.mono (by decide) (by decide)⟩
  · skip
    show Steps p.tables e below (s₁.setTop (mkF m 0 #[.val (.ref a1), .val .null, .val .null, .val .null] [])) _
    refine XS.aloadN X0.here hx rfl (hb hby d2_0) rfl rfl ?_
    show Steps p.tables e below (s₁.setTop (mkF m 1 #[.val (.ref a1), .val .null, .val .null, .val .null] [(.ref a1)])) _
    refine st1 _ ?_
    show Steps p.tables e below (T1.setTop (mkF m 4 #[.val (.ref a1), .val .null, .val .null, .val .null] [])) _
    refine XS.aloadN X1.here hx rfl (hb hby d2_4) rfl rfl ?_
    show Steps p.tables e below (T1.setTop (mkF m 5 #[.val (.ref a1), .val .null, .val .null, .val .null] [(.ref a1)])) _
    refine XS.aloadN X1.here hx rfl (hb hby d2_5) rfl rfl ?_
    show Steps p.tables e below (T1.setTop (mkF m 6 #[.val (.ref a1), .val .null, .val .null, .val .null] [.null, (.ref a1)])) _
    refine st2 _ ?_
    show Steps p.tables e below (T2.setTop (mkF m 9 #[.val (.ref a1), .val .null, .val .null, .val .null] [])) _
    refine XS.aloadN X2.here hx rfl (hb hby d2_9) rfl rfl ?_
    show Steps p.tables e below (T2.setTop (mkF m 10 #[.val (.ref a1), .val .null, .val .null, .val .null] [(.ref a1)])) _
    refine XS.aloadN X2.here hx rfl (hb hby d2_10) rfl rfl ?_
    show Steps p.tables e below (T2.setTop (mkF m 11 #[.val (.ref a1), .val .null, .val .null, .val .null] [.null, (.ref a1)])) _
    refine st5 _ ?_
    show Steps p.tables e below (T5.setTop (mkF m 14 #[.val (.ref a1), .val .null, .val .null, .val .null] [])) _
    refine XS.aloadN X5.here hx rfl (hb hby d2_14) rfl rfl ?_
    show Steps p.tables e below (T5.setTop (mkF m 15 #[.val (.ref a1), .val .null, .val .null, .val .null] [(.ref a1)])) _
    refine XS.aloadN X5.here hx rfl (hb hby d2_15) rfl rfl ?_
    show Steps p.tables e below (T5.setTop (mkF m 16 #[.val (.ref a1), .val .null, .val .null, .val .null] [.null, (.ref a1)])) _
    refine st8 _ ?_
    show Steps p.tables e below (T8.setTop (mkF m 19 #[.val (.ref a1), .val .null, .val .null, .val .null] [])) _
    exact X8.returnOut hx Bd.returns (hb hby d2_19) hr
  · show Q_rm2_nnn Z a1 h0 n0 _ T8.heap _
    rw [e8]
    exact ⟨rfl, N8, K8, f9⟩
theorem ef_rm2_nnr (m : MethodId) (x0 : Addr) (x3 : Addr) : entryFrame m #[(.ref x0), .null, .null, (.ref x3)] 4 = mkF m 0 #[.val (.ref x0), .val .null, .val .null, .val (.ref x3)] [] := by first | (simp [entryFrame, mkF, argsToLocals, Value.category]; done) | rfl
def Q_rm2_nnr (Z : State) (a1 : Addr) (x2 : Addr) (h0 : Heap) (n0 : Nat) (v : Option Value) (h : Heap) (L : List Loc) : Prop := v = none ∧ Fr n0 L ∧ Keep h0 h [a1] ∧ Fld Z h a1 "com/example/mergewright/mergewright/merge/Match" "base" "Ljava/lang/Object;" .null
set_option maxRecDepth 65536 in
set_option maxHeartbeats 40000000 in
theorem rm2_nnr (l : Launch) (Z : State) (a0 : Array Value) (hw : ∀ d ∈ own_tab, d.before a0 Z = true) (ws : List Jvm.Cond) (a1 : Addr) (x2 : Addr) (h0 : Heap) (n0 : Nat) (Z0 : n0 ≤ h0.size) (P0 : Exa Z h0 a1 "com/example/mergewright/mergewright/merge/Match") (P1 : n0 ≤ a1) (P2 : Fld Z h0 a1 "com/example/mergewright/mergewright/merge/Match" "current" "Ljava/lang/Object;" .null) (P3 : Fld Z h0 a1 "com/example/mergewright/mergewright/merge/Match" "base" "Ljava/lang/Object;" .null) (P4 : Fld Z h0 a1 "com/example/mergewright/mergewright/merge/Match" "other" "Ljava/lang/Object;" .null) :
    MetFree l (⟨"com/example/mergewright/mergewright/merge/Match", "<init>", "(Ljava/lang/Object;Ljava/lang/Object;Ljava/lang/Object;)V"⟩ : MethodName) (head1 (Jvm.Cond.code (⟨"com/example/mergewright/mergewright/merge/Match", "<init>", "(Ljava/lang/Object;Ljava/lang/Object;Ljava/lang/Object;)V"⟩ : MethodName) prog_31_method_1_code 4 none :: ws) ({ frames := 1, cells := 0, slots := 0, locals := 12 } : Room)) (fun a U => a = #[(.ref a1), .null, .null, (.ref x2)] ∧ Z.Warmed39 U.vm ∧ U.heap = h0) (fun _ _ _ _ _ => True) (fun _ U o U' => ∃ v L, o = .returned v ∧ Q_rm2_nnr Z a1 x2 h0 n0 v U'.heap L ∧ FrameEnd U o U' L ({ frames := 1, cells := 0, slots := 0, locals := 12 } : Room).cells ({ frames := 1, cells := 0, slots := 0, locals := 12 } : Room).slots) := by
  refine MetFree.of_bodySF (plainFor_of_name pn_2) hisR ?_
  intro p e s m args below meth c s₁ Bd hml0 hP hK
  obtain ⟨rfl, hZ, hh⟩ := hP
  have hx := Bd.exec
  have hby := Bd.bytes
  have hml : c.maxLocals = 4 := hml0
  have hown : s.vm.findClass "com/example/mergewright/mergewright/merge/Match" = some m.cls := findClass_of_methodNamed Bd.named
  have hnm := (name_of_methodNamed Bd.named Bd.method).1
  have X0 : Stand p l e ({ frames := 1, cells := 0, slots := 0, locals := 12 } : Room) s m #[(.ref a1), .null, .null, (.ref x2)] below meth c s₁ [] 0 0 := Stand.of_body Bd
  have e0 : s₁.heap = h0 := by rw [← hh, Bd.state]; rfl
  have N0 := Fr.nil n0
  have KR : Keep h0 h0 [a1] := Keep.refl h0 _
  have pre0 : ∀ t, Steps p.tables e below (s₁.setTop (mkF m 0 #[.val (.ref a1), .val .null, .val .null, .val (.ref x2)] [])) t → Steps p.tables e below (s₁.setTop (entryFrame m #[(.ref a1), .null, .null, (.ref x2)] 4)) t := fun t k => castTop (ef_rm2_nnr m (a1) (x2)) k
  obtain ⟨T1, X1, e1, st1⟩ := initO X0 hx hZ hown (kw13 hw) (kw14 hw) (kw15 hw) e0 (g := (mkF m 1 #[.val (.ref a1), .val .null, .val .null, .val (.ref x2)] [(.ref a1)])) rfl (by rw [hml]; rfl) rfl (hb hby d2_1) (by decide) (W := 0) (by show 2 * 0 + _ ≤ _; exact Nat.le_of_eq rfl) (by decide)
  obtain ⟨T2, h2, X2, e2, W2, st2⟩ := putF X1 hx hZ hown (host := "") (Or.inl (kw16 hw)) Via.refl e1 P2 P0 (Or.inr ⟨(kw17 hw), rfl, hnm⟩) (kw8 hw) (ty := (.object "java/lang/Object")) (by decide) rfl rfl (g := (mkF m 6 #[.val (.ref a1), .val .null, .val .null, .val (.ref x2)] [.null, (.ref a1)])) rfl rfl (hb hby d2_6)
  have Z2 : n0 ≤ h2.size := Nat.le_trans Z0 (Keep.of_wr W2).1
  have K2 : Keep h0 h2 [a1] := KR.wr W2 (Or.inl (List.mem_of_getElem? (i := 0) rfl))
  have N2 := Fr.snoc X2 N0 P1
  have Fw2 : Fld Z h2 a1 "com/example/mergewright/mergewright/merge/Match" "current" "Ljava/lang/Object;" .null := P2.same W2
  have f3 : Exa Z h2 a1 "com/example/mergewright/mergewright/merge/Match" := (P0.wr W2)
  have f4 : Fld Z h2 a1 "com/example/mergewright/mergewright/merge/Match" "base" "Ljava/lang/Object;" .null := (P3.other W2 (Or.inr (slot_ne (Or.inr (kw19 hw)) (Or.inr (kw17 hw)) (by decide) (t := (.object "java/lang/Object")) (t' := (.object "java/lang/Object")) (by decide) (by decide))))
  obtain ⟨T5, h5, X5, e5, W5, st5⟩ := putF X2 hx hZ hown (host := "") (Or.inl (kw18 hw)) Via.refl e2 f4 f3 (Or.inr ⟨(kw19 hw), rfl, hnm⟩) (kw8 hw) (ty := (.object "java/lang/Object")) (by decide) rfl rfl (g := (mkF m 11 #[.val (.ref a1), .val .null, .val .null, .val (.ref x2)] [.null, (.ref a1)])) rfl rfl (hb hby d2_11)
  have Z5 : n0 ≤ h5.size := Nat.le_trans Z2 (Keep.of_wr W5).1
  have K5 : Keep h0 h5 [a1] := K2.wr W5 (Or.inl (List.mem_of_getElem? (i := 0) rfl))
  have N5 := Fr.snoc X5 N2 P1
  have Fw5 : Fld Z h5 a1 "com/example/mergewright/mergewright/merge/Match" "base" "Ljava/lang/Object;" .null := f4.same W5
  have f6 : Exa Z h5 a1 "com/example/mergewright/mergewright/merge/Match" := (f3.wr W5)
  have f7 : Fld Z h5 a1 "com/example/mergewright/mergewright/merge/Match" "other" "Ljava/lang/Object;" .null := ((P4.other W2 (Or.inr (slot_ne (Or.inr (kw21 hw)) (Or.inr (kw17 hw)) (by decide) (t := (.object "java/lang/Object")) (t' := (.object "java/lang/Object")) (by decide) (by decide)))).other W5 (Or.inr (slot_ne (Or.inr (kw21 hw)) (Or.inr (kw19 hw)) (by decide) (t := (.object "java/lang/Object")) (t' := (.object "java/lang/Object")) (by decide) (by decide))))
  obtain ⟨T8, h8, X8, e8, W8, st8⟩ := putF X5 hx hZ hown (host := "") (Or.inl (kw20 hw)) Via.refl e5 f7 f6 (Or.inr ⟨(kw21 hw), rfl, hnm⟩) (kw8 hw) (ty := (.object "java/lang/Object")) (by decide) rfl rfl (g := (mkF m 16 #[.val (.ref a1), .val .null, .val .null, .val (.ref x2)] [(.ref x2), (.ref a1)])) rfl rfl (hb hby d2_16)
  have Z8 : n0 ≤ h8.size := Nat.le_trans Z5 (Keep.of_wr W8).1
  have K8 : Keep h0 h8 [a1] := K5.wr W8 (Or.inl (List.mem_of_getElem? (i := 0) rfl))
  have N8 := Fr.snoc X8 N5 P1
  have Fw8 : Fld Z h8 a1 "com/example/mergewright/mergewright/merge/Match" "other" "Ljava/lang/Object;" (.ref x2) := f7.same W8
  have f9 : Fld Z h8 a1 "com/example/mergewright/mergewright/merge/Match" "base" "Ljava/lang/Object;" .null := (Fw5.other W8 (Or.inr (slot_ne (Or.inr (kw19 hw)) (Or.inr (kw21 hw)) (by decide) (t := (.object "java/lang/Object")) (t' := (.object "java/lang/Object")) (by decide) (by decide))))
  obtain ⟨fs, hr, hrun, hended, hW, hsame⟩ := X8.leave (v := none) (fun _ => rfl)
  refine ⟨_, _, pre0 _ ?_, hrun, hended, _, _, rfl, ?_, ⟨_, rfl⟩, hW, hsame.mono (by decide) (by decide)⟩
  · skip
    show Steps p.tables e below (s₁.setTop (mkF m 0 #[.val (.ref a1), .val .null, .val .null, .val (.ref x2)] [])) _
    refine XS.aloadN X0.here hx rfl (hb hby d2_0) rfl rfl ?_
    show Steps p.tables e below (s₁.setTop (mkF m 1 #[.val (.ref a1), .val .null, .val .null, .val (.ref x2)] [(.ref a1)])) _
    refine st1 _ ?_
    show Steps p.tables e below (T1.setTop (mkF m 4 #[.val (.ref a1), .val .null, .val .null, .val (.ref x2)] [])) _
    refine XS.aloadN X1.here hx rfl (hb hby d2_4) rfl rfl ?_
    show Steps p.tables e below (T1.setTop (mkF m 5 #[.val (.ref a1), .val .null, .val .null, .val (.ref x2)] [(.ref a1)])) _
    refine XS.aloadN X1.here hx rfl (hb hby d2_5) rfl rfl ?_
    show Steps p.tables e below (T1.setTop (mkF m 6 #[.val (.ref a1), .val .null, .val .null, .val (.ref x2)] [.null, (.ref a1)])) _
    refine st2 _ ?_
    show Steps p.tables e below (T2.setTop (mkF m 9 #[.val (.ref a1), .val .null, .val .null, .val (.ref x2)] [])) _
    refine XS.aloadN X2.here hx rfl (hb hby d2_9) rfl rfl ?_
    show Steps p.tables e below (T2.setTop (mkF m 10 #[.val (.ref a1), .val .null, .val .null, .val (.ref x2)] [(.ref a1)])) _
    refine XS.aloadN X2.here hx rfl (hb hby d2_10) rfl rfl ?_
    show Steps p.tables e below (T2.setTop (mkF m 11 #[.val (.ref a1), .val .null, .val .null, .val (.ref x2)] [.null, (.ref a1)])) _
    refine st5 _ ?_
    show Steps p.tables e below (T5.setTop (mkF m 14 #[.val (.ref a1), .val .null, .val .null, .val (.ref x2)] [])) _
    refine XS.aloadN X5.here hx rfl (hb hby d2_14) rfl rfl ?_
    show Steps p.tables e below (T5.setTop (mkF m 15 #[.val (.ref a1), .val .null, .val .null, .val (.ref x2)] [(.ref a1)])) _
    refine XS.aloadN X5.here hx rfl (hb hby d2_15) rfl rfl ?_
    show Steps p.tables e below (T5.setTop (mkF m 16 #[.val (.ref a1), .val .null, .val .null, .val (.ref x2)] [(.ref x2), (.ref a1)])) _
    refine st8 _ ?_
    show Steps p.tables e below (T8.setTop (mkF m 19 #[.val (.ref a1), .val .null, .val .null, .val (.ref x2)] [])) _
    exact X8.returnOut hx Bd.returns (hb hby d2_19) hr
  · show Q_rm2_nnr Z a1 x2 h0 n0 _ T8.heap _
    rw [e8]
    exact ⟨rfl, N8, K8, f9⟩
theorem ef_rm2_nrn (m : MethodId) (x0 : Addr) (x2 : Addr) : entryFrame m #[(.ref x0), .null, (.ref x2), .null] 4 = mkF m 0 #[.val (.ref x0), .val .null, .val (.ref x2), .val .null] [] := by first | (simp [entryFrame, mkF, argsToLocals, Value.category]; done) | rfl
def Q_rm2_nrn (Z : State) (a1 : Addr) (x1 : Addr) (h0 : Heap) (n0 : Nat) (v : Option Value) (h : Heap) (L : List Loc) : Prop := v = none ∧ Fr n0 L ∧ Keep h0 h [a1] ∧ Fld Z h a1 "com/example/mergewright/mergewright/merge/Match" "base" "Ljava/lang/Object;" (.ref x1)
set_option maxRecDepth 65536 in
set_option maxHeartbeats 40000000 in
theorem rm2_nrn (l : Launch) (Z : State) (a0 : Array Value) (hw : ∀ d ∈ own_tab, d.before a0 Z = true) (ws : List Jvm.Cond) (a1 : Addr) (x1 : Addr) (h0 : Heap) (n0 : Nat) (Z0 : n0 ≤ h0.size) (P0 : Exa Z h0 a1 "com/example/mergewright/mergewright/merge/Match") (P1 : n0 ≤ a1) (P2 : Fld Z h0 a1 "com/example/mergewright/mergewright/merge/Match" "current" "Ljava/lang/Object;" .null) (P3 : Fld Z h0 a1 "com/example/mergewright/mergewright/merge/Match" "base" "Ljava/lang/Object;" .null) (P4 : Fld Z h0 a1 "com/example/mergewright/mergewright/merge/Match" "other" "Ljava/lang/Object;" .null) :
    MetFree l (⟨"com/example/mergewright/mergewright/merge/Match", "<init>", "(Ljava/lang/Object;Ljava/lang/Object;Ljava/lang/Object;)V"⟩ : MethodName) (head1 (Jvm.Cond.code (⟨"com/example/mergewright/mergewright/merge/Match", "<init>", "(Ljava/lang/Object;Ljava/lang/Object;Ljava/lang/Object;)V"⟩ : MethodName) prog_31_method_1_code 4 none :: ws) ({ frames := 1, cells := 0, slots := 0, locals := 12 } : Room)) (fun a U => a = #[(.ref a1), .null, (.ref x1), .null] ∧ Z.Warmed39 U.vm ∧ U.heap = h0) (fun _ _ _ _ _ => True) (fun _ U o U' => ∃ v L, o = .returned v ∧ Q_rm2_nrn Z a1 x1 h0 n0 v U'.heap L ∧ FrameEnd U o U' L ({ frames := 1, cells := 0, slots := 0, locals := 12 } : Room).cells ({ frames := 1, cells := 0, slots := 0, locals := 12 } : Room).slots) := by
  refine MetFree.of_bodySF (plainFor_of_name pn_2) hisR ?_
  intro p e s m args below meth c s₁ Bd hml0 hP hK
  obtain ⟨rfl, hZ, hh⟩ := hP
  have hx := Bd.exec
  have hby := Bd.bytes
  have hml : c.maxLocals = 4 := hml0
  have hown : s.vm.findClass "com/example/mergewright/mergewright/merge/Match" = some m.cls := findClass_of_methodNamed Bd.named
  have hnm := (name_of_methodNamed Bd.named Bd.method).1
  have X0 : Stand p l e ({ frames := 1, cells := 0, slots := 0, locals := 12 } : Room) s m #[(.ref a1), .null, (.ref x1), .null] below meth c s₁ [] 0 0 := Stand.of_body Bd
  have e0 : s₁.heap = h0 := by rw [← hh, Bd.state]; rfl
  have N0 := Fr.nil n0
  have KR : Keep h0 h0 [a1] := Keep.refl h0 _
  have pre0 : ∀ t, Steps p.tables e below (s₁.setTop (mkF m 0 #[.val (.ref a1), .val .null, .val (.ref x1), .val .null] [])) t → Steps p.tables e below (s₁.setTop (entryFrame m #[(.ref a1), .null, (.ref x1), .null] 4)) t := fun t k => castTop (ef_rm2_nrn m (a1) (x1)) k
  obtain ⟨T1, X1, e1, st1⟩ := initO X0 hx hZ hown (kw13 hw) (kw14 hw) (kw15 hw) e0 (g := (mkF m 1 #[.val (.ref a1), .val .null, .val (.ref x1), .val .null] [(.ref a1)])) rfl (by rw [hml]; rfl) rfl (hb hby d2_1) (by decide) (W := 0) (by show 2 * 0 + _ ≤ _; exact Nat.le_of_eq rfl) (by decide)
  obtain ⟨T2, h2, X2, e2, W2, st2⟩ := putF X1 hx hZ hown (host := "") (Or.inl (kw16 hw)) Via.refl e1 P2 P0 (Or.inr ⟨(kw17 hw), rfl, hnm⟩) (kw8 hw) (ty := (.object "java/lang/Object")) (by decide) rfl rfl (g := (mkF m 6 #[.val (.ref a1), .val .null, .val (.ref x1), .val .null] [.null, (.ref a1)])) rfl rfl (hb hby d2_6)
  have Z2 : n0 ≤ h2.size := Nat.le_trans Z0 (Keep.of_wr W2).1
  have K2 : Keep h0 h2 [a1] := KR.wr W2 (Or.inl (List.mem_of_getElem? (i := 0) rfl))
  have N2 := Fr.snoc X2 N0 P1
  have Fw2 : Fld Z h2 a1 "com/example/mergewright/mergewright/merge/Match" "current" "Ljava/lang/Object;" .null := P2.same W2
  have f3 : Exa Z h2 a1 "com/example/mergewright/mergewright/merge/Match" := (P0.wr W2)
  have f4 : Fld Z h2 a1 "com/example/mergewright/mergewright/merge/Match" "base" "Ljava/lang/Object;" .null := (P3.other W2 (Or.inr (slot_ne (Or.inr (kw19 hw)) (Or.inr (kw17 hw)) (by decide) (t := (.object "java/lang/Object")) (t' := (.object "java/lang/Object")) (by decide) (by decide))))
  obtain ⟨T5, h5, X5, e5, W5, st5⟩ := putF X2 hx hZ hown (host := "") (Or.inl (kw18 hw)) Via.refl e2 f4 f3 (Or.inr ⟨(kw19 hw), rfl, hnm⟩) (kw8 hw) (ty := (.object "java/lang/Object")) (by decide) rfl rfl (g := (mkF m 11 #[.val (.ref a1), .val .null, .val (.ref x1), .val .null] [(.ref x1), (.ref a1)])) rfl rfl (hb hby d2_11)
  have Z5 : n0 ≤ h5.size := Nat.le_trans Z2 (Keep.of_wr W5).1
  have K5 : Keep h0 h5 [a1] := K2.wr W5 (Or.inl (List.mem_of_getElem? (i := 0) rfl))
  have N5 := Fr.snoc X5 N2 P1
  have Fw5 : Fld Z h5 a1 "com/example/mergewright/mergewright/merge/Match" "base" "Ljava/lang/Object;" (.ref x1) := f4.same W5
  have f6 : Exa Z h5 a1 "com/example/mergewright/mergewright/merge/Match" := (f3.wr W5)
  have f7 : Fld Z h5 a1 "com/example/mergewright/mergewright/merge/Match" "other" "Ljava/lang/Object;" .null := ((P4.other W2 (Or.inr (slot_ne (Or.inr (kw21 hw)) (Or.inr (kw17 hw)) (by decide) (t := (.object "java/lang/Object")) (t' := (.object "java/lang/Object")) (by decide) (by decide)))).other W5 (Or.inr (slot_ne (Or.inr (kw21 hw)) (Or.inr (kw19 hw)) (by decide) (t := (.object "java/lang/Object")) (t' := (.object "java/lang/Object")) (by decide) (by decide))))
  obtain ⟨T8, h8, X8, e8, W8, st8⟩ := putF X5 hx hZ hown (host := "") (Or.inl (kw20 hw)) Via.refl e5 f7 f6 (Or.inr ⟨(kw21 hw), rfl, hnm⟩) (kw8 hw) (ty := (.object "java/lang/Object")) (by decide) rfl rfl (g := (mkF m 16 #[.val (.ref a1), .val .null, .val (.ref x1), .val .null] [.null, (.ref a1)])) rfl rfl (hb hby d2_16)
  have Z8 : n0 ≤ h8.size := Nat.le_trans Z5 (Keep.of_wr W8).1
  have K8 : Keep h0 h8 [a1] := K5.wr W8 (Or.inl (List.mem_of_getElem? (i := 0) rfl))
  have N8 := Fr.snoc X8 N5 P1
  have Fw8 : Fld Z h8 a1 "com/example/mergewright/mergewright/merge/Match" "other" "Ljava/lang/Object;" .null := f7.same W8
  have f9 : Fld Z h8 a1 "com/example/mergewright/mergewright/merge/Match" "base" "Ljava/lang/Object;" (.ref x1) := (Fw5.other W8 (Or.inr (slot_ne (Or.inr (kw19 hw)) (Or.inr (kw21 hw)) (by decide) (t := (.object "java/lang/Object")) (t' := (.object "java/lang/Object")) (by decide) (by decide))))
  obtain ⟨fs, hr, hrun, hended, hW, hsame⟩ := X8.leave (v := none) (fun _ => rfl)
  refine ⟨_, _, pre0 _ ?_, hrun, hended, _, _, rfl, ?_, ⟨_, rfl⟩, hW, hsame.mono (by decide) (by decide)⟩
  · skip
    show Steps p.tables e below (s₁.setTop (mkF m 0 #[.val (.ref a1), .val .null, .val (.ref x1), .val .null] [])) _
    refine XS.aloadN X0.here hx rfl (hb hby d2_0) rfl rfl ?_
    show Steps p.tables e below (s₁.setTop (mkF m 1 #[.val (.ref a1), .val .null, .val (.ref x1), .val .null] [(.ref a1)])) _
    refine st1 _ ?_
    show Steps p.tables e below (T1.setTop (mkF m 4 #[.val (.ref a1), .val .null, .val (.ref x1), .val .null] [])) _
    refine XS.aloadN X1.here hx rfl (hb hby d2_4) rfl rfl ?_
    show Steps p.tables e below (T1.setTop (mkF m 5 #[.val (.ref a1), .val .null, .val (.ref x1), .val .null] [(.ref a1)])) _
    refine XS.aloadN X1.here hx rfl (hb hby d2_5) rfl rfl ?_
    show Steps p.tables e below (T1.setTop (mkF m 6 #[.val (.ref a1), .val .null, .val (.ref x1), .val .null] [.null, (.ref a1)])) _
    refine st2 _ ?_
    show Steps p.tables e below (T2.setTop (mkF m 9 #[.val (.ref a1), .val .null, .val (.ref x1), .val .null] [])) _
    refine XS.aloadN X2.here hx rfl (hb hby d2_9) rfl rfl ?_
    show Steps p.tables e below (T2.setTop (mkF m 10 #[.val (.ref a1), .val .null, .val (.ref x1), .val .null] [(.ref a1)])) _
    refine XS.aloadN X2.here hx rfl (hb hby d2_10) rfl rfl ?_
    show Steps p.tables e below (T2.setTop (mkF m 11 #[.val (.ref a1), .val .null, .val (.ref x1), .val .null] [(.ref x1), (.ref a1)])) _
    refine st5 _ ?_
    show Steps p.tables e below (T5.setTop (mkF m 14 #[.val (.ref a1), .val .null, .val (.ref x1), .val .null] [])) _
    refine XS.aloadN X5.here hx rfl (hb hby d2_14) rfl rfl ?_
    show Steps p.tables e below (T5.setTop (mkF m 15 #[.val (.ref a1), .val .null, .val (.ref x1), .val .null] [(.ref a1)])) _
    refine XS.aloadN X5.here hx rfl (hb hby d2_15) rfl rfl ?_
    show Steps p.tables e below (T5.setTop (mkF m 16 #[.val (.ref a1), .val .null, .val (.ref x1), .val .null] [.null, (.ref a1)])) _
    refine st8 _ ?_
    show Steps p.tables e below (T8.setTop (mkF m 19 #[.val (.ref a1), .val .null, .val (.ref x1), .val .null] [])) _
    exact X8.returnOut hx Bd.returns (hb hby d2_19) hr
  · show Q_rm2_nrn Z a1 x1 h0 n0 _ T8.heap _
    rw [e8]
    exact ⟨rfl, N8, K8, f9⟩
theorem ef_rm2_nrr (m : MethodId) (x0 : Addr) (x2 : Addr) (x3 : Addr) : entryFrame m #[(.ref x0), .null, (.ref x2), (.ref x3)] 4 = mkF m 0 #[.val (.ref x0), .val .null, .val (.ref x2), .val (.ref x3)] [] := by first | (simp [entryFrame, mkF, argsToLocals, Value.category]; done) | rfl
def Q_rm2_nrr (Z : State) (a1 : Addr) (x1 : Addr) (x2 : Addr) (h0 : Heap) (n0 : Nat) (v : Option Value) (h : Heap) (L : List Loc) : Prop := v = none ∧ Fr n0 L ∧ Keep h0 h [a1] ∧ Fld Z h a1 "com/example/mergewright/mergewright/merge/Match" "base" "Ljava/lang/Object;" (.ref x1)
set_option maxRecDepth 65536 in
set_option maxHeartbeats 40000000 in
theorem rm2_nrr (l : Launch) (Z : State) (a0 : Array Value) (hw : ∀ d ∈ own_tab, d.before a0 Z = true) (ws : List Jvm.Cond) (a1 : Addr) (x1 : Addr) (x2 : Addr) (h0 : Heap) (n0 : Nat) (Z0 : n0 ≤ h0.size) (P0 : Exa Z h0 a1 "com/example/mergewright/mergewright/merge/Match") (P1 : n0 ≤ a1) (P2 : Fld Z h0 a1 "com/example/mergewright/mergewright/merge/Match" "current" "Ljava/lang/Object;" .null) (P3 : Fld Z h0 a1 "com/example/mergewright/mergewright/merge/Match" "base" "Ljava/lang/Object;" .null) (P4 : Fld Z h0 a1 "com/example/mergewright/mergewright/merge/Match" "other" "Ljava/lang/Object;" .null) :
    MetFree l (⟨"com/example/mergewright/mergewright/merge/Match", "<init>", "(Ljava/lang/Object;Ljava/lang/Object;Ljava/lang/Object;)V"⟩ : MethodName) (head1 (Jvm.Cond.code (⟨"com/example/mergewright/mergewright/merge/Match", "<init>", "(Ljava/lang/Object;Ljava/lang/Object;Ljava/lang/Object;)V"⟩ : MethodName) prog_31_method_1_code 4 none :: ws) ({ frames := 1, cells := 0, slots := 0, locals := 12 } : Room)) (fun a U => a = #[(.ref a1), .null, (.ref x1), (.ref x2)] ∧ Z.Warmed39 U.vm ∧ U.heap = h0) (fun _ _ _ _ _ => True) (fun _ U o U' => ∃ v L, o = .returned v ∧ Q_rm2_nrr Z a1 x1 x2 h0 n0 v U'.heap L ∧ FrameEnd U o U' L ({ frames := 1, cells := 0, slots := 0, locals := 12 } : Room).cells ({ frames := 1, cells := 0, slots := 0, locals := 12 } : Room).slots) := by
  refine MetFree.of_bodySF (plainFor_of_name pn_2) hisR ?_
  intro p e s m args below meth c s₁ Bd hml0 hP hK
  obtain ⟨rfl, hZ, hh⟩ := hP
  have hx := Bd.exec
  have hby := Bd.bytes
  have hml : c.maxLocals = 4 := hml0
  have hown : s.vm.findClass "com/example/mergewright/mergewright/merge/Match" = some m.cls := findClass_of_methodNamed Bd.named
  have hnm := (name_of_methodNamed Bd.named Bd.method).1
  have X0 : Stand p l e ({ frames := 1, cells := 0, slots := 0, locals := 12 } : Room) s m #[(.ref a1), .null, (.ref x1), (.ref x2)] below meth c s₁ [] 0 0 := Stand.of_body Bd
  have e0 : s₁.heap = h0 := by rw [← hh, Bd.state]; rfl
  have N0 := Fr.nil n0
  have KR : Keep h0 h0 [a1] := Keep.refl h0 _
  have pre0 : ∀ t, Steps p.tables e below (s₁.setTop (mkF m 0 #[.val (.ref a1), .val .null, .val (.ref x1), .val (.ref x2)] [])) t → Steps p.tables e below (s₁.setTop (entryFrame m #[(.ref a1), .null, (.ref x1), (.ref x2)] 4)) t := fun t k => castTop (ef_rm2_nrr m (a1) (x1) (x2)) k
  obtain ⟨T1, X1, e1, st1⟩ := initO X0 hx hZ hown (kw13 hw) (kw14 hw) (kw15 hw) e0 (g := (mkF m 1 #[.val (.ref a1), .val .null, .val (.ref x1), .val (.ref x2)] [(.ref a1)])) rfl (by rw [hml]; rfl) rfl (hb hby d2_1) (by decide) (W := 0) (by show 2 * 0 + _ ≤ _; exact Nat.le_of_eq rfl) (by decide)
  obtain ⟨T2, h2, X2, e2, W2, st2⟩ := putF X1 hx hZ hown (host := "") (Or.inl (kw16 hw)) Via.refl e1 P2 P0 (Or.inr ⟨(kw17 hw), rfl, hnm⟩) (kw8 hw) (ty := (.object "java/lang/Object")) (by decide) rfl rfl (g := (mkF m 6 #[.val (.ref a1), .val .null, .val (.ref x1), .val (.ref x2)] [.null, (.ref a1)])) rfl rfl (hb hby d2_6)
  have Z2 : n0 ≤ h2.size := Nat.le_trans Z0 (Keep.of_wr W2).1
  have K2 : Keep h0 h2 [a1] := KR.wr W2 (Or.inl (List.mem_of_getElem? (i := 0) rfl))
  have N2 := Fr.snoc X2 N0 P1
  have Fw2 : Fld Z h2 a1 "com/example/mergewright/mergewright/merge/Match" "current" "Ljava/lang/Object;" .null := P2.same W2
  have f3 : Exa Z h2 a1 "com/example/mergewright/mergewright/merge/Match" := (P0.wr W2)
  have f4 : Fld Z h2 a1 "com/example/mergewright/mergewright/merge/Match" "base" "Ljava/lang/Object;" .null := (P3.other W2 (Or.inr (slot_ne (Or.inr (kw19 hw)) (Or.inr (kw17 hw)) (by decide) (t := (.object "java/lang/Object")) (t' := (.object "java/lang/Object")) (by decide) (by decide))))
  obtain ⟨T5, h5, X5, e5, W5, st5⟩ := putF X2 hx hZ hown (host := "") (Or.inl (kw18 hw)) Via.refl e2 f4 f3 (Or.inr ⟨(kw19 hw), rfl, hnm⟩) (kw8 hw) (ty := (.object "java/lang/Object")) (by decide) rfl rfl (g := (mkF m 11 #[.val (.ref a1), .val .null, .val (.ref x1), .val (.ref x2)] [(.ref x1), (.ref a1)])) rfl rfl (hb hby d2_11)
  have Z5 : n0 ≤ h5.size := Nat.le_trans Z2 (Keep.of_wr W5).1
  have K5 : Keep h0 h5 [a1] := K2.wr W5 (Or.inl (List.mem_of_getElem? (i := 0) rfl))
  have N5 := Fr.snoc X5 N2 P1
  have Fw5 : Fld Z h5 a1 "com/example/mergewright/mergewright/merge/Match" "base" "Ljava/lang/Object;" (.ref x1) := f4.same W5
  have f6 : Exa Z h5 a1 "com/example/mergewright/mergewright/merge/Match" := (f3.wr W5)
  have f7 : Fld Z h5 a1 "com/example/mergewright/mergewright/merge/Match" "other" "Ljava/lang/Object;" .null := ((P4.other W2 (Or.inr (slot_ne (Or.inr (kw21 hw)) (Or.inr (kw17 hw)) (by decide) (t := (.object "java/lang/Object")) (t' := (.object "java/lang/Object")) (by decide) (by decide)))).other W5 (Or.inr (slot_ne (Or.inr (kw21 hw)) (Or.inr (kw19 hw)) (by decide) (t := (.object "java/lang/Object")) (t' := (.object "java/lang/Object")) (by decide) (by decide))))
  obtain ⟨T8, h8, X8, e8, W8, st8⟩ := putF X5 hx hZ hown (host := "") (Or.inl (kw20 hw)) Via.refl e5 f7 f6 (Or.inr ⟨(kw21 hw), rfl, hnm⟩) (kw8 hw) (ty := (.object "java/lang/Object")) (by decide) rfl rfl (g := (mkF m 16 #[.val (.ref a1), .val .null, .val (.ref x1), .val (.ref x2)] [(.ref x2), (.ref a1)])) rfl rfl (hb hby d2_16)
  have Z8 : n0 ≤ h8.size := Nat.le_trans Z5 (Keep.of_wr W8).1
  have K8 : Keep h0 h8 [a1] := K5.wr W8 (Or.inl (List.mem_of_getElem? (i := 0) rfl))
  have N8 := Fr.snoc X8 N5 P1
  have Fw8 : Fld Z h8 a1 "com/example/mergewright/mergewright/merge/Match" "other" "Ljava/lang/Object;" (.ref x2) := f7.same W8
  have f9 : Fld Z h8 a1 "com/example/mergewright/mergewright/merge/Match" "base" "Ljava/lang/Object;" (.ref x1) := (Fw5.other W8 (Or.inr (slot_ne (Or.inr (kw19 hw)) (Or.inr (kw21 hw)) (by decide) (t := (.object "java/lang/Object")) (t' := (.object "java/lang/Object")) (by decide) (by decide))))
  obtain ⟨fs, hr, hrun, hended, hW, hsame⟩ := X8.leave (v := none) (fun _ => rfl)
  refine ⟨_, _, pre0 _ ?_, hrun, hended, _, _, rfl, ?_, ⟨_, rfl⟩, hW, hsame.mono (by decide) (by decide)⟩
  · skip
    show Steps p.tables e below (s₁.setTop (mkF m 0 #[.val (.ref a1), .val .null, .val (.ref x1), .val (.ref x2)] [])) _
    refine XS.aloadN X0.here hx rfl (hb hby d2_0) rfl rfl ?_
    show Steps p.tables e below (s₁.setTop (mkF m 1 #[.val (.ref a1), .val .null, .val (.ref x1), .val (.ref x2)] [(.ref a1)])) _
    refine st1 _ ?_
    show Steps p.tables e below (T1.setTop (mkF m 4 #[.val (.ref a1), .val .null, .val (.ref x1), .val (.ref x2)] [])) _
    refine XS.aloadN X1.here hx rfl (hb hby d2_4) rfl rfl ?_
    show Steps p.tables e below (T1.setTop (mkF m 5 #[.val (.ref a1), .val .null, .val (.ref x1), .val (.ref x2)] [(.ref a1)])) _
    refine XS.aloadN X1.here hx rfl (hb hby d2_5) rfl rfl ?_
    show Steps p.tables e below (T1.setTop (mkF m 6 #[.val (.ref a1), .val .null, .val (.ref x1), .val (.ref x2)] [.null, (.ref a1)])) _
    refine st2 _ ?_
    show Steps p.tables e below (T2.setTop (mkF m 9 #[.val (.ref a1), .val .null, .val (.ref x1), .val (.ref x2)] [])) _
    refine XS.aloadN X2.here hx rfl (hb hby d2_9) rfl rfl ?_
    show Steps p.tables e below (T2.setTop (mkF m 10 #[.val (.ref a1), .val .null, .val (.ref x1), .val (.ref x2)] [(.ref a1)])) _
    refine XS.aloadN X2.here hx rfl (hb hby d2_10) rfl rfl ?_
    show Steps p.tables e below (T2.setTop (mkF m 11 #[.val (.ref a1), .val .null, .val (.ref x1), .val (.ref x2)] [(.ref x1), (.ref a1)])) _
    refine st5 _ ?_
    show Steps p.tables e below (T5.setTop (mkF m 14 #[.val (.ref a1), .val .null, .val (.ref x1), .val (.ref x2)] [])) _
    refine XS.aloadN X5.here hx rfl (hb hby d2_14) rfl rfl ?_
    show Steps p.tables e below (T5.setTop (mkF m 15 #[.val (.ref a1), .val .null, .val (.ref x1), .val (.ref x2)] [(.ref a1)])) _
    refine XS.aloadN X5.here hx rfl (hb hby d2_15) rfl rfl ?_
    show Steps p.tables e below (T5.setTop (mkF m 16 #[.val (.ref a1), .val .null, .val (.ref x1), .val (.ref x2)] [(.ref x2), (.ref a1)])) _
    refine st8 _ ?_
    show Steps p.tables e below (T8.setTop (mkF m 19 #[.val (.ref a1), .val .null, .val (.ref x1), .val (.ref x2)] [])) _
    exact X8.returnOut hx Bd.returns (hb hby d2_19) hr
  · show Q_rm2_nrr Z a1 x1 x2 h0 n0 _ T8.heap _
    rw [e8]
    exact ⟨rfl, N8, K8, f9⟩
theorem ef_rm2_rnn (m : MethodId) (x0 : Addr) (x1 : Addr) : entryFrame m #[(.ref x0), (.ref x1), .null, .null] 4 = mkF m 0 #[.val (.ref x0), .val (.ref x1), .val .null, .val .null] [] := by first | (simp [entryFrame, mkF, argsToLocals, Value.category]; done) | rfl
def Q_rm2_rnn (Z : State) (a1 : Addr) (x0 : Addr) (h0 : Heap) (n0 : Nat) (v : Option Value) (h : Heap) (L : List Loc) : Prop := v = none ∧ Fr n0 L ∧ Keep h0 h [a1] ∧ Fld Z h a1 "com/example/mergewright/mergewright/merge/Match" "base" "Ljava/lang/Object;" .null
set_option maxRecDepth 65536 in
set_option maxHeartbeats 40000000 in
theorem rm2_rnn (l : Launch) (Z : State) (a0 : Array Value) (hw : ∀ d ∈ own_tab, d.before a0 Z = true) (ws : List Jvm.Cond) (a1 : Addr) (x0 : Addr) (h0 : Heap) (n0 : Nat) (Z0 : n0 ≤ h0.size) (P0 : Exa Z h0 a1 "com/example/mergewright/mergewright/merge/Match") (P1 : n0 ≤ a1) (P2 : Fld Z h0 a1 "com/example/mergewright/mergewright/merge/Match" "current" "Ljava/lang/Object;" .null) (P3 : Fld Z h0 a1 "com/example/mergewright/mergewright/merge/Match" "base" "Ljava/lang/Object;" .null) (P4 : Fld Z h0 a1 "com/example/mergewright/mergewright/merge/Match" "other" "Ljava/lang/Object;" .null) :
    MetFree l (⟨"com/example/mergewright/mergewright/merge/Match", "<init>", "(Ljava/lang/Object;Ljava/lang/Object;Ljava/lang/Object;)V"⟩ : MethodName) (head1 (Jvm.Cond.code (⟨"com/example/mergewright/mergewright/merge/Match", "<init>", "(Ljava/lang/Object;Ljava/lang/Object;Ljava/lang/Object;)V"⟩ : MethodName) prog_31_method_1_code 4 none :: ws) ({ frames := 1, cells := 0, slots := 0, locals := 12 } : Room)) (fun a U => a = #[(.ref a1), (.ref x0), .null, .null] ∧ Z.Warmed39 U.vm ∧ U.heap = h0) (fun _ _ _ _ _ => True) (fun _ U o U' => ∃ v L, o = .returned v ∧ Q_rm2_rnn Z a1 x0 h0 n0 v U'.heap L ∧ FrameEnd U o U' L ({ frames := 1, cells := 0, slots := 0, locals := 12 } : Room).cells ({ frames := 1, cells := 0, slots := 0, locals := 12 } : Room).slots) := by
  refine MetFree.of_bodySF (plainFor_of_name pn_2) hisR ?_
  intro p e s m args below meth c s₁ Bd hml0 hP hK
  obtain ⟨rfl, hZ, hh⟩ := hP
  have hx := Bd.exec
  have hby := Bd.bytes
  have hml : c.maxLocals = 4 := hml0
  have hown : s.vm.findClass "com/example/mergewright/mergewright/merge/Match" = some m.cls := findClass_of_methodNamed Bd.named
  have hnm := (name_of_methodNamed Bd.named Bd.method).1
  have X0 : Stand p l e ({ frames := 1, cells := 0, slots := 0, locals := 12 } : Room) s m #[(.ref a1), (.ref x0), .null, .null] below meth c s₁ [] 0 0 := Stand.of_body Bd
  have e0 : s₁.heap = h0 := by rw [← hh, Bd.state]; rfl
  have N0 := Fr.nil n0
  have KR : Keep h0 h0 [a1] := Keep.refl h0 _
  have pre0 : ∀ t, Steps p.tables e below (s₁.setTop (mkF m 0 #[.val (.ref a1), .val (.ref x0), .val .null, .val .null] [])) t → Steps p.tables e below (s₁.setTop (entryFrame m #[(.ref a1), (.ref x0), .null, .null] 4)) t := fun t k => castTop (ef_rm2_rnn m (a1) (x0)) k
  obtain ⟨T1, X1, e1, st1⟩ := initO X0 hx hZ hown (kw13 hw) (kw14 hw) (kw15 hw) e0 (g := (mkF m 1 #[.val (.ref a1), .val (.ref x0), .val .null, .val .null] [(.ref a1)])) rfl (by rw [hml]; rfl) rfl (hb hby d2_1) (by decide) (W := 0) (by show 2 * 0 + _ ≤ _; exact Nat.le_of_eq rfl) (by decide)
  obtain ⟨T2, h2, X2, e2, W2, st2⟩ := putF X1 hx hZ hown (host := "") (Or.inl (kw16 hw)) Via.refl e1 P2 P0 (Or.inr ⟨(kw17 hw), rfl, hnm⟩) (kw8 hw) (ty := (.object "java/lang/Object")) (by decide) rfl rfl (g := (mkF m 6 #[.val (.ref a1), .val (.ref x0), .val .null, .val .null] [(.ref x0), (.ref a1)])) rfl rfl (hb hby d2_6)
  have Z2 : n0 ≤ h2.size := Nat.le_trans Z0 (Keep.of_wr W2).1
  have K2 : Keep h0 h2 [a1] := KR.wr W2 (Or.inl (List.mem_of_getElem? (i := 0) rfl))
  have N2 := Fr.snoc X2 N0 P1
  have Fw2 : Fld Z h2 a1 "com/example/mergewright/mergewright/merge/Match" "current" "Ljava/lang/Object;" (.ref x0) := P2.same W2
  have f3 : Exa Z h2 a1 "com/example/mergewright/mergewright/merge/Match" := (P0.wr W2)
  have f4 : Fld Z h2 a1 "com/example/mergewright/mergewright/merge/Match" "base" "Ljava/lang/Object;" .null := (P3.other W2 (Or.inr (slot_ne (Or.inr (kw19 hw)) (Or.inr (kw17 hw)) (by decide) (t := (.object "java/lang/Object")) (t' := (.object "java/lang/Object")) (by decide) (by decide))))
  obtain ⟨T5, h5, X5, e5, W5, st5⟩ := putF X2 hx hZ hown (host := "") (Or.inl (kw18 hw)) Via.refl e2 f4 f3 (Or.inr ⟨(kw19 hw), rfl, hnm⟩) (kw8 hw) (ty := (.object "java/lang/Object")) (by decide) rfl rfl (g := (mkF m 11 #[.val (.ref a1), .val (.ref x0), .val .null, .val .null] [.null, (.ref a1)])) rfl rfl (hb hby d2_11)
  have Z5 : n0 ≤ h5.size := Nat.le_trans Z2 (Keep.of_wr W5).1
  have K5 : Keep h0 h5 [a1] := K2.wr W5 (Or.inl (List.mem_of_getElem? (i := 0) rfl))
  have N5 := Fr.snoc X5 N2 P1
  have Fw5 : Fld Z h5 a1 "com/example/mergewright/mergewright/merge/Match" "base" "Ljava/lang/Object;" .null := f4.same W5
  have f6 : Exa Z h5 a1 "com/example/mergewright/mergewright/merge/Match" := (f3.wr W5)
  have f7 : Fld Z h5 a1 "com/example/mergewright/mergewright/merge/Match" "other" "Ljava/lang/Object;" .null := ((P4.other W2 (Or.inr (slot_ne (Or.inr (kw21 hw)) (Or.inr (kw17 hw)) (by decide) (t := (.object "java/lang/Object")) (t' := (.object "java/lang/Object")) (by decide) (by decide)))).other W5 (Or.inr (slot_ne (Or.inr (kw21 hw)) (Or.inr (kw19 hw)) (by decide) (t := (.object "java/lang/Object")) (t' := (.object "java/lang/Object")) (by decide) (by decide))))
  obtain ⟨T8, h8, X8, e8, W8, st8⟩ := putF X5 hx hZ hown (host := "") (Or.inl (kw20 hw)) Via.refl e5 f7 f6 (Or.inr ⟨(kw21 hw), rfl, hnm⟩) (kw8 hw) (ty := (.object "java/lang/Object")) (by decide) rfl rfl (g := (mkF m 16 #[.val (.ref a1), .val (.ref x0), .val .null, .val .null] [.null, (.ref a1)])) rfl rfl (hb hby d2_16)
  have Z8 : n0 ≤ h8.size := Nat.le_trans Z5 (Keep.of_wr W8).1
  have K8 : Keep h0 h8 [a1] := K5.wr W8 (Or.inl (List.mem_of_getElem? (i := 0) rfl))
  have N8 := Fr.snoc X8 N5 P1
  have Fw8 : Fld Z h8 a1 "com/example/mergewright/mergewright/merge/Match" "other" "Ljava/lang/Object;" .null := f7.same W8
  have f9 : Fld Z h8 a1 "com/example/mergewright/mergewright/merge/Match" "base" "Ljava/lang/Object;" .null := (Fw5.other W8 (Or.inr (slot_ne (Or.inr (kw19 hw)) (Or.inr (kw21 hw)) (by decide) (t := (.object "java/lang/Object")) (t' := (.object "java/lang/Object")) (by decide) (by decide))))
  obtain ⟨fs, hr, hrun, hended, hW, hsame⟩ := X8.leave (v := none) (fun _ => rfl)
  refine ⟨_, _, pre0 _ ?_, hrun, hended, _, _, rfl, ?_, ⟨_, rfl⟩, hW, hsame.mono (by decide) (by decide)⟩
  · skip
    show Steps p.tables e below (s₁.setTop (mkF m 0 #[.val (.ref a1), .val (.ref x0), .val .null, .val .null] [])) _
    refine XS.aloadN X0.here hx rfl (hb hby d2_0) rfl rfl ?_
    show Steps p.tables e below (s₁.setTop (mkF m 1 #[.val (.ref a1), .val (.ref x0), .val .null, .val .null] [(.ref a1)])) _
    refine st1 _ ?_
    show Steps p.tables e below (T1.setTop (mkF m 4 #[.val (.ref a1), .val (.ref x0), .val .null, .val .null] [])) _
    refine XS.aloadN X1.here hx rfl (hb hby d2_4) rfl rfl ?_
    show Steps p.tables e below (T1.setTop (mkF m 5 #[.val (.ref a1), .val (.ref x0), .val .null, .val .null] [(.ref a1)])) _
    refine XS.aloadN X1.here hx rfl (hb hby d2_5) rfl rfl ?_
    show Steps p.tables e below (T1.setTop (mkF m 6 #[.val (.ref a1), .val (.ref x0), .val .null, .val .null] [(.ref x0), (.ref a1)])) _
    refine st2 _ ?_
    show Steps p.tables e below (T2.setTop (mkF m 9 #[.val (.ref a1), .val (.ref x0), .val .null, .val .null] [])) _
    refine XS.aloadN X2.here hx rfl (hb hby d2_9) rfl rfl ?_
    show Steps p.tables e below (T2.setTop (mkF m 10 #[.val (.ref a1), .val (.ref x0), .val .null, .val .null] [(.ref a1)])) _
    refine XS.aloadN X2.here hx rfl (hb hby d2_10) rfl rfl ?_
    show Steps p.tables e below (T2.setTop (mkF m 11 #[.val (.ref a1), .val (.ref x0), .val .null, .val .null] [.null, (.ref a1)])) _
    refine st5 _ ?_
    show Steps p.tables e below (T5.setTop (mkF m 14 #[.val (.ref a1), .val (.ref x0), .val .null, .val .null] [])) _
    refine XS.aloadN X5.here hx rfl (hb hby d2_14) rfl rfl ?_
    show Steps p.tables e below (T5.setTop (mkF m 15 #[.val (.ref a1), .val (.ref x0), .val .null, .val .null] [(.ref a1)])) _
    refine XS.aloadN X5.here hx rfl (hb hby d2_15) rfl rfl ?_
    show Steps p.tables e below (T5.setTop (mkF m 16 #[.val (.ref a1), .val (.ref x0), .val .null, .val .null] [.null, (.ref a1)])) _
    refine st8 _ ?_
    show Steps p.tables e below (T8.setTop (mkF m 19 #[.val (.ref a1), .val (.ref x0), .val .null, .val .null] [])) _
    exact X8.returnOut hx Bd.returns (hb hby d2_19) hr
  · show Q_rm2_rnn Z a1 x0 h0 n0 _ T8.heap _
    rw [e8]
    exact ⟨rfl, N8, K8, f9⟩
theorem ef_rm2_rnr (m : MethodId) (x0 : Addr) (x1 : Addr) (x3 : Addr) : entryFrame m #[(.ref x0), (.ref x1), .null, (.ref x3)] 4 = mkF m 0 #[.val (.ref x0), .val (.ref x1), .val .null, .val (.ref x3)] [] := by first | (simp [entryFrame, mkF, argsToLocals, Value.category]; done) | rfl
def Q_rm2_rnr (Z : State) (a1 : Addr) (x0 : Addr) (x2 : Addr) (h0 : Heap) (n0 : Nat) (v : Option Value) (h : Heap) (L : List Loc) : Prop := v = none ∧ Fr n0 L ∧ Keep h0 h [a1] ∧ Fld Z h a1 "com/example/mergewright/mergewright/merge/Match" "base" "Ljava/lang/Object;" .null
set_option maxRecDepth 65536 in
set_option maxHeartbeats 40000000 in
theorem rm2_rnr (l : Launch) (Z : State) (a0 : Array Value) (hw : ∀ d ∈ own_tab, d.before a0 Z = true) (ws : List Jvm.Cond) (a1 : Addr) (x0 : Addr) (x2 : Addr) (h0 : Heap) (n0 : Nat) (Z0 : n0 ≤ h0.size) (P0 : Exa Z h0 a1 "com/example/mergewright/mergewright/merge/Match") (P1 : n0 ≤ a1) (P2 : Fld Z h0 a1 "com/example/mergewright/mergewright/merge/Match" "current" "Ljava/lang/Object;" .null) (P3 : Fld Z h0 a1 "com/example/mergewright/mergewright/merge/Match" "base" "Ljava/lang/Object;" .null) (P4 : Fld Z h0 a1 "com/example/mergewright/mergewright/merge/Match" "other" "Ljava/lang/Object;" .null) :
    MetFree l (⟨"com/example/mergewright/mergewright/merge/Match", "<init>", "(Ljava/lang/Object;Ljava/lang/Object;Ljava/lang/Object;)V"⟩ : MethodName) (head1 (Jvm.Cond.code (⟨"com/example/mergewright/mergewright/merge/Match", "<init>", "(Ljava/lang/Object;Ljava/lang/Object;Ljava/lang/Object;)V"⟩ : MethodName) prog_31_method_1_code 4 none :: ws) ({ frames := 1, cells := 0, slots := 0, locals := 12 } : Room)) (fun a U => a = #[(.ref a1), (.ref x0), .null, (.ref x2)] ∧ Z.Warmed39 U.vm ∧ U.heap = h0) (fun _ _ _ _ _ => True) (fun _ U o U' => ∃ v L, o = .returned v ∧ Q_rm2_rnr Z a1 x0 x2 h0 n0 v U'.heap L ∧ FrameEnd U o U' L ({ frames := 1, cells := 0, slots := 0, locals := 12 } : Room).cells ({ frames := 1, cells := 0, slots := 0, locals := 12 } : Room).slots) := by
  refine MetFree.of_bodySF (plainFor_of_name pn_2) hisR ?_
  intro p e s m args below meth c s₁ Bd hml0 hP hK
  obtain ⟨rfl, hZ, hh⟩ := hP
  have hx := Bd.exec
  have hby := Bd.bytes
  have hml : c.maxLocals = 4 := hml0
  have hown : s.vm.findClass "com/example/mergewright/mergewright/merge/Match" = some m.cls := findClass_of_methodNamed Bd.named
  have hnm := (name_of_methodNamed Bd.named Bd.method).1
  have X0 : Stand p l e ({ frames := 1, cells := 0, slots := 0, locals := 12 } : Room) s m #[(.ref a1), (.ref x0), .null, (.ref x2)] below meth c s₁ [] 0 0 := Stand.of_body Bd
  have e0 : s₁.heap = h0 := by rw [← hh, Bd.state]; rfl
  have N0 := Fr.nil n0
  have KR : Keep h0 h0 [a1] := Keep.refl h0 _
  have pre0 : ∀ t, Steps p.tables e below (s₁.setTop (mkF m 0 #[.val (.ref a1), .val (.ref x0), .val .null, .val (.ref x2)] [])) t → Steps p.tables e below (s₁.setTop (entryFrame m #[(.ref a1), (.ref x0), .null, (.ref x2)] 4)) t := fun t k => castTop (ef_rm2_rnr m (a1) (x0) (x2)) k
  obtain ⟨T1, X1, e1, st1⟩ := initO X0 hx hZ hown (kw13 hw) (kw14 hw) (kw15 hw) e0 (g := (mkF m 1 #[.val (.ref a1), .val (.ref x0), .val .null, .val (.ref x2)] [(.ref a1)])) rfl (by rw [hml]; rfl) rfl (hb hby d2_1) (by decide) (W := 0) (by show 2 * 0 + _ ≤ _; exact Nat.le_of_eq rfl) (by decide)
  obtain ⟨T2, h2, X2, e2, W2, st2⟩ := putF X1 hx hZ hown (host := "") (Or.inl (kw16 hw)) Via.refl e1 P2 P0 (Or.inr ⟨(kw17 hw), rfl, hnm⟩) (kw8 hw) (ty := (.object "java/lang/Object")) (by decide) rfl rfl (g := (mkF m 6 #[.val (.ref a1), .val (.ref x0), .val .null, .val (.ref x2)] [(.ref x0), (.ref a1)])) rfl rfl (hb hby d2_6)
  have Z2 : n0 ≤ h2.size := Nat.le_trans Z0 (Keep.of_wr W2).1
  have K2 : Keep h0 h2 [a1] := KR.wr W2 (Or.inl (List.mem_of_getElem? (i := 0) rfl))
  have N2 := Fr.snoc X2 N0 P1
  have Fw2 : Fld Z h2 a1 "com/example/mergewright/mergewright/merge/Match" "current" "Ljava/lang/Object;" (.ref x0) := P2.same W2
  have f3 : Exa Z h2 a1 "com/example/mergewright/mergewright/merge/Match" := (P0.wr W2)
  have f4 : Fld Z h2 a1 "com/example/mergewright/mergewright/merge/Match" "base" "Ljava/lang/Object;" .null := (P3.other W2 (Or.inr (slot_ne (Or.inr (kw19 hw)) (Or.inr (kw17 hw)) (by decide) (t := (.object "java/lang/Object")) (t' := (.object "java/lang/Object")) (by decide) (by decide))))
  obtain ⟨T5, h5, X5, e5, W5, st5⟩ := putF X2 hx hZ hown (host := "") (Or.inl (kw18 hw)) Via.refl e2 f4 f3 (Or.inr ⟨(kw19 hw), rfl, hnm⟩) (kw8 hw) (ty := (.object "java/lang/Object")) (by decide) rfl rfl (g := (mkF m 11 #[.val (.ref a1), .val (.ref x0), .val .null, .val (.ref x2)] [.null, (.ref a1)])) rfl rfl (hb hby d2_11)
  have Z5 : n0 ≤ h5.size := Nat.le_trans Z2 (Keep.of_wr W5).1
  have K5 : Keep h0 h5 [a1] := K2.wr W5 (Or.inl (List.mem_of_getElem? (i := 0) rfl))
  have N5 := Fr.snoc X5 N2 P1
  have Fw5 : Fld Z h5 a1 "com/example/mergewright/mergewright/merge/Match" "base" "Ljava/lang/Object;" .null := f4.same W5
  have f6 : Exa Z h5 a1 "com/example/mergewright/mergewright/merge/Match" := (f3.wr W5)
  have f7 : Fld Z h5 a1 "com/example/mergewright/mergewright/merge/Match" "other" "Ljava/lang/Object;" .null := ((P4.other W2 (Or.inr (slot_ne (Or.inr (kw21 hw)) (Or.inr (kw17 hw)) (by decide) (t := (.object "java/lang/Object")) (t' := (.object "java/lang/Object")) (by decide) (by decide)))).other W5 (Or.inr (slot_ne (Or.inr (kw21 hw)) (Or.inr (kw19 hw)) (by decide) (t := (.object "java/lang/Object")) (t' := (.object "java/lang/Object")) (by decide) (by decide))))
  obtain ⟨T8, h8, X8, e8, W8, st8⟩ := putF X5 hx hZ hown (host := "") (Or.inl (kw20 hw)) Via.refl e5 f7 f6 (Or.inr ⟨(kw21 hw), rfl, hnm⟩) (kw8 hw) (ty := (.object "java/lang/Object")) (by decide) rfl rfl (g := (mkF m 16 #[.val (.ref a1), .val (.ref x0), .val .null, .val (.ref x2)] [(.ref x2), (.ref a1)])) rfl rfl (hb hby d2_16)
  have Z8 : n0 ≤ h8.size := Nat.le_trans Z5 (Keep.of_wr W8).1
  have K8 : Keep h0 h8 [a1] := K5.wr W8 (Or.inl (List.mem_of_getElem? (i := 0) rfl))
  have N8 := Fr.snoc X8 N5 P1
  have Fw8 : Fld Z h8 a1 "com/example/mergewright/mergewright/merge/Match" "other" "Ljava/lang/Object;" (.ref x2) := f7.same W8
  have f9 : Fld Z h8 a1 "com/example/mergewright/mergewright/merge/Match" "base" "Ljava/lang/Object;" .null := (Fw5.other W8 (Or.inr (slot_ne (Or.inr (kw19 hw)) (Or.inr (kw21 hw)) (by decide) (t := (.object "java/lang/Object")) (t' := (.object "java/lang/Object")) (by decide) (by decide))))
  obtain ⟨fs, hr, hrun, hended, hW, hsame⟩ := X8.leave (v := none) (fun _ => rfl)
  refine ⟨_, _, pre0 _ ?_, hrun, hended, _, _, rfl, ?_, ⟨_, rfl⟩, hW, hsame.mono (by decide) (by decide)⟩
  · skip
    show Steps p.tables e below (s₁.setTop (mkF m 0 #[.val (.ref a1), .val (.ref x0), .val .null, .val (.ref x2)] [])) _
    refine XS.aloadN X0.here hx rfl (hb hby d2_0) rfl rfl ?_
    show Steps p.tables e below (s₁.setTop (mkF m 1 #[.val (.ref a1), .val (.ref x0), .val .null, .val (.ref x2)] [(.ref a1)])) _
    refine st1 _ ?_
    show Steps p.tables e below (T1.setTop (mkF m 4 #[.val (.ref a1), .val (.ref x0), .val .null, .val (.ref x2)] [])) _
    refine XS.aloadN X1.here hx rfl (hb hby d2_4) rfl rfl ?_
    show Steps p.tables e below (T1.setTop (mkF m 5 #[.val (.ref a1), .val (.ref x0), .val .null, .val (.ref x2)] [(.ref a1)])) _
    refine XS.aloadN X1.here hx rfl (hb hby d2_5) rfl rfl ?_
    show Steps p.tables e below (T1.setTop (mkF m 6 #[.val (.ref a1), .val (.ref x0), .val .null, .val (.ref x2)] [(.ref x0), (.ref a1)])) _
    refine st2 _ ?_
    show Steps p.tables e below (T2.setTop (mkF m 9 #[.val (.ref a1), .val (.ref x0), .val .null, .val (.ref x2)] [])) _
    refine XS.aloadN X2.here hx rfl (hb hby d2_9) rfl rfl ?_
    show Steps p.tables e below (T2.setTop (mkF m 10 #[.val (.ref a1), .val (.ref x0), .val .null, .val (.ref x2)] [(.ref a1)])) _
    refine XS.aloadN X2.here hx rfl (hb hby d2_10) rfl rfl ?_
    show Steps p.tables e below (T2.setTop (mkF m 11 #[.val (.ref a1), .val (.ref x0), .val .null, .val (.ref x2)] [.null, (.ref a1)])) _
    refine st5 _ ?_
    show Steps p.tables e below (T5.setTop (mkF m 14 #[.val (.ref a1), .val (.ref x0), .val .null, .val (.ref x2)] [])) _
    refine XS.aloadN X5.here hx rfl (hb hby d2_14) rfl rfl ?_
    show Steps p.tables e below (T5.setTop (mkF m 15 #[.val (.ref a1), .val (.ref x0), .val .null, .val (.ref x2)] [(.ref a1)])) _
    refine XS.aloadN X5.here hx rfl (hb hby d2_15) rfl rfl ?_
    show Steps p.tables e below (T5.setTop (mkF m 16 #[.val (.ref a1), .val (.ref x0), .val .null, .val (.ref x2)] [(.ref x2), (.ref a1)])) _
    refine st8 _ ?_
    show Steps p.tables e below (T8.setTop (mkF m 19 #[.val (.ref a1), .val (.ref x0), .val .null, .val (.ref x2)] [])) _
    exact X8.returnOut hx Bd.returns (hb hby d2_19) hr
  · show Q_rm2_rnr Z a1 x0 x2 h0 n0 _ T8.heap _
    rw [e8]
    exact ⟨rfl, N8, K8, f9⟩
theorem ef_rm2_rrn (m : MethodId) (x0 : Addr) (x1 : Addr) (x2 : Addr) : entryFrame m #[(.ref x0), (.ref x1), (.ref x2), .null] 4 = mkF m 0 #[.val (.ref x0), .val (.ref x1), .val (.ref x2), .val .null] [] := by first | (simp [entryFrame, mkF, argsToLocals, Value.category]; done) | rfl
def Q_rm2_rrn (Z : State) (a1 : Addr) (x0 : Addr) (x1 : Addr) (h0 : Heap) (n0 : Nat) (v : Option Value) (h : Heap) (L : List Loc) : Prop := v = none ∧ Fr n0 L ∧ Keep h0 h [a1] ∧ Fld Z h a1 "com/example/mergewright/mergewright/merge/Match" "base" "Ljava/lang/Object;" (.ref x1)
set_option maxRecDepth 65536 in
set_option maxHeartbeats 40000000 in
theorem rm2_rrn (l : Launch) (Z : State) (a0 : Array Value) (hw : ∀ d ∈ own_tab, d.before a0 Z = true) (ws : List Jvm.Cond) (a1 : Addr) (x0 : Addr) (x1 : Addr) (h0 : Heap) (n0 : Nat) (Z0 : n0 ≤ h0.size) (P0 : Exa Z h0 a1 "com/example/mergewright/mergewright/merge/Match") (P1 : n0 ≤ a1) (P2 : Fld Z h0 a1 "com/example/mergewright/mergewright/merge/Match" "current" "Ljava/lang/Object;" .null) (P3 : Fld Z h0 a1 "com/example/mergewright/mergewright/merge/Match" "base" "Ljava/lang/Object;" .null) (P4 : Fld Z h0 a1 "com/example/mergewright/mergewright/merge/Match" "other" "Ljava/lang/Object;" .null) :
    MetFree l (⟨"com/example/mergewright/mergewright/merge/Match", "<init>", "(Ljava/lang/Object;Ljava/lang/Object;Ljava/lang/Object;)V"⟩ : MethodName) (head1 (Jvm.Cond.code (⟨"com/example/mergewright/mergewright/merge/Match", "<init>", "(Ljava/lang/Object;Ljava/lang/Object;Ljava/lang/Object;)V"⟩ : MethodName) prog_31_method_1_code 4 none :: ws) ({ frames := 1, cells := 0, slots := 0, locals := 12 } : Room)) (fun a U => a = #[(.ref a1), (.ref x0), (.ref x1), .null] ∧ Z.Warmed39 U.vm ∧ U.heap = h0) (fun _ _ _ _ _ => True) (fun _ U o U' => ∃ v L, o = .returned v ∧ Q_rm2_rrn Z a1 x0 x1 h0 n0 v U'.heap L ∧ FrameEnd U o U' L ({ frames := 1, cells := 0, slots := 0, locals := 12 } : Room).cells ({ frames := 1, cells := 0, slots := 0, locals := 12 } : Room).slots) := by
  refine MetFree.of_bodySF (plainFor_of_name pn_2) hisR ?_
  intro p e s m args below meth c s₁ Bd hml0 hP hK
  obtain ⟨rfl, hZ, hh⟩ := hP
  have hx := Bd.exec
  have hby := Bd.bytes
  have hml : c.maxLocals = 4 := hml0
  have hown : s.vm.findClass "com/example/mergewright/mergewright/merge/Match" = some m.cls := findClass_of_methodNamed Bd.named
  have hnm := (name_of_methodNamed Bd.named Bd.method).1
  have X0 : Stand p l e ({ frames := 1, cells := 0, slots := 0, locals := 12 } : Room) s m #[(.ref a1), (.ref x0), (.ref x1), .null] below meth c s₁ [] 0 0 := Stand.of_body Bd
  have e0 : s₁.heap = h0 := by rw [← hh, Bd.state]; rfl
  have N0 := Fr.nil n0
  have KR : Keep h0 h0 [a1] := Keep.refl h0 _
  have pre0 : ∀ t, Steps p.tables e below (s₁.setTop (mkF m 0 #[.val (.ref a1), .val (.ref x0), .val (.ref x1), .val .null] [])) t → Steps p.tables e below (s₁.setTop (entryFrame m #[(.ref a1), (.ref x0), (.ref x1), .null] 4)) t := fun t k => castTop (ef_rm2_rrn m (a1) (x0) (x1)) k
  obtain ⟨T1, X1, e1, st1⟩ := initO X0 hx hZ hown (kw13 hw) (kw14 hw) (kw15 hw) e0 (g := (mkF m 1 #[.val (.ref a1), .val (.ref x0), .val (.ref x1), .val .null] [(.ref a1)])) rfl (by rw [hml]; rfl) rfl (hb hby d2_1) (by decide) (W := 0) (by show 2 * 0 + _ ≤ _; exact Nat.le_of_eq rfl) (by decide)
  obtain ⟨T2, h2, X2, e2, W2, st2⟩ := putF X1 hx hZ hown (host := "") (Or.inl (kw16 hw)) Via.refl e1 P2 P0 (Or.inr ⟨(kw17 hw), rfl, hnm⟩) (kw8 hw) (ty := (.object "java/lang/Object")) (by decide) rfl rfl (g := (mkF m 6 #[.val (.ref a1), .val (.ref x0), .val (.ref x1), .val .null] [(.ref x0), (.ref a1)])) rfl rfl (hb hby d2_6)
  have Z2 : n0 ≤ h2.size := Nat.le_trans Z0 (Keep.of_wr W2).1
  have K2 : Keep h0 h2 [a1] := KR.wr W2 (Or.inl (List.mem_of_getElem? (i := 0) rfl))
  have N2 := Fr.snoc X2 N0 P1
  have Fw2 : Fld Z h2 a1 "com/example/mergewright/mergewright/merge/Match" "current" "Ljava/lang/Object;" (.ref x0) := P2.same W2
  have f3 : Exa Z h2 a1 "com/example/mergewright/mergewright/merge/Match" := (P0.wr W2)
  have f4 : Fld Z h2 a1 "com/example/mergewright/mergewright/merge/Match" "base" "Ljava/lang/Object;" .null := (P3.other W2 (Or.inr (slot_ne (Or.inr (kw19 hw)) (Or.inr (kw17 hw)) (by decide) (t := (.object "java/lang/Object")) (t' := (.object "java/lang/Object")) (by decide) (by decide))))
  obtain ⟨T5, h5, X5, e5, W5, st5⟩ := putF X2 hx hZ hown (host := "") (Or.inl (kw18 hw)) Via.refl e2 f4 f3 (Or.inr ⟨(kw19 hw), rfl, hnm⟩) (kw8 hw) (ty := (.object "java/lang/Object")) (by decide) rfl rfl (g := (mkF m 11 #[.val (.ref a1), .val (.ref x0), .val (.ref x1), .val .null] [(.ref x1), (.ref a1)])) rfl rfl (hb hby d2_11)
  have Z5 : n0 ≤ h5.size := Nat.le_trans Z2 (Keep.of_wr W5).1
  have K5 : Keep h0 h5 [a1] := K2.wr W5 (Or.inl (List.mem_of_getElem? (i := 0) rfl))
  have N5 := Fr.snoc X5 N2 P1
  have Fw5 : Fld Z h5 a1 "com/example/mergewright/mergewright/merge/Match" "base" "Ljava/lang/Object;" (.ref x1) := f4.same W5
  have f6 : Exa Z h5 a1 "com/example/mergewright/mergewright/merge/Match" := (f3.wr W5)
  have f7 : Fld Z h5 a1 "com/example/mergewright/mergewright/merge/Match" "other" "Ljava/lang/Object;" .null := ((P4.other W2 (Or.inr (slot_ne (Or.inr (kw21 hw)) (Or.inr (kw17 hw)) (by decide) (t := (.object "java/lang/Object")) (t' := (.object "java/lang/Object")) (by decide) (by decide)))).other W5 (Or.inr (slot_ne (Or.inr (kw21 hw)) (Or.inr (kw19 hw)) (by decide) (t := (.object "java/lang/Object")) (t' := (.object "java/lang/Object")) (by decide) (by decide))))
  obtain ⟨T8, h8, X8, e8, W8, st8⟩ := putF X5 hx hZ hown (host := "") (Or.inl (kw20 hw)) Via.refl e5 f7 f6 (Or.inr ⟨(kw21 hw), rfl, hnm⟩) (kw8 hw) (ty := (.object "java/lang/Object")) (by decide) rfl rfl (g := (mkF m 16 #[.val (.ref a1), .val (.ref x0), .val (.ref x1), .val .null] [.null, (.ref a1)])) rfl rfl (hb hby d2_16)
  have Z8 : n0 ≤ h8.size := Nat.le_trans Z5 (Keep.of_wr W8).1
  have K8 : Keep h0 h8 [a1] := K5.wr W8 (Or.inl (List.mem_of_getElem? (i := 0) rfl))
  have N8 := Fr.snoc X8 N5 P1
  have Fw8 : Fld Z h8 a1 "com/example/mergewright/mergewright/merge/Match" "other" "Ljava/lang/Object;" .null := f7.same W8
  have f9 : Fld Z h8 a1 "com/example/mergewright/mergewright/merge/Match" "base" "Ljava/lang/Object;" (.ref x1) := (Fw5.other W8 (Or.inr (slot_ne (Or.inr (kw19 hw)) (Or.inr (kw21 hw)) (by decide) (t := (.object "java/lang/Object")) (t' := (.object "java/lang/Object")) (by decide) (by decide))))
  obtain ⟨fs, hr, hrun, hended, hW, hsame⟩ := X8.leave (v := none) (fun _ => rfl)
  refine ⟨_, _, pre0 _ ?_, hrun, hended, _, _, rfl, ?_, ⟨_, rfl⟩, hW, hsame.mono (by decide) (by decide)⟩
  · skip
    show Steps p.tables e below (s₁.setTop (mkF m 0 #[.val (.ref a1), .val (.ref x0), .val (.ref x1), .val .null] [])) _
    refine XS.aloadN X0.here hx rfl (hb hby d2_0) rfl rfl ?_
    show Steps p.tables e below (s₁.setTop (mkF m 1 #[.val (.ref a1), .val (.ref x0), .val (.ref x1), .val .null] [(.ref a1)])) _
    refine st1 _ ?_
    show Steps p.tables e below (T1.setTop (mkF m 4 #[.val (.ref a1), .val (.ref x0), .val (.ref x1), .val .null] [])) _
    refine XS.aloadN X1.here hx rfl (hb hby d2_4) rfl rfl ?_
    show Steps p.tables e below (T1.setTop (mkF m 5 #[.val (.ref a1), .val (.ref x0), .val (.ref x1), .val .null] [(.ref a1)])) _
    refine XS.aloadN X1.here hx rfl (hb hby d2_5) rfl rfl ?_
    show Steps p.tables e below (T1.setTop (mkF m 6 #[.val (.ref a1), .val (.ref x0), .val (.ref x1), .val .null] [(.ref x0), (.ref a1)])) _
    refine st2 _ ?_
    show Steps p.tables e below (T2.setTop (mkF m 9 #[.val (.ref a1), .val (.ref x0), .val (.ref x1), .val .null] [])) _
    refine XS.aloadN X2.here hx rfl (hb hby d2_9) rfl rfl ?_
    show Steps p.tables e below (T2.setTop (mkF m 10 #[.val (.ref a1), .val (.ref x0), .val (.ref x1), .val .null] [(.ref a1)])) _
    refine XS.aloadN X2.here hx rfl (hb hby d2_10) rfl rfl ?_
    show Steps p.tables e below (T2.setTop (mkF m 11 #[.val (.ref a1), .val (.ref x0), .val (.ref x1), .val .null] [(.ref x1), (.ref a1)])) _
    refine st5 _ ?_
    show Steps p.tables e below (T5.setTop (mkF m 14 #[.val (.ref a1), .val (.ref x0), .val (.ref x1), .val .null] [])) _
    refine XS.aloadN X5.here hx rfl (hb hby d2_14) rfl rfl ?_
    show Steps p.tables e below (T5.setTop (mkF m 15 #[.val (.ref a1), .val (.ref x0), .val (.ref x1), .val .null] [(.ref a1)])) _
    refine XS.aloadN X5.here hx rfl (hb hby d2_15) rfl rfl ?_
    show Steps p.tables e below (T5.setTop (mkF m 16 #[.val (.ref a1), .val (.ref x0), .val (.ref x1), .val .null] [.null, (.ref a1)])) _
    refine st8 _ ?_
    show Steps p.tables e below (T8.setTop (mkF m 19 #[.val (.ref a1), .val (.ref x0), .val (.ref x1), .val .null] [])) _
    exact X8.returnOut hx Bd.returns (hb hby d2_19) hr
  · show Q_rm2_rrn Z a1 x0 x1 h0 n0 _ T8.heap _
    rw [e8]
    exact ⟨rfl, N8, K8, f9⟩
theorem ef_rm2_rrr (m : MethodId) (x0 : Addr) (x1 : Addr) (x2 : Addr) (x3 : Addr) : entryFrame m #[(.ref x0), (.ref x1), (.ref x2), (.ref x3)] 4 = mkF m 0 #[.val (.ref x0), .val (.ref x1), .val (.ref x2), .val (.ref x3)] [] := by first | (simp [entryFrame, mkF, argsToLocals, Value.category]; done) | rfl
def Q_rm2_rrr (Z : State) (a1 : Addr) (x0 : Addr) (x1 : Addr) (x2 : Addr) (h0 : Heap) (n0 : Nat) (v : Option Value) (h : Heap) (L : List Loc) : Prop := v = none ∧ Fr n0 L ∧ Keep h0 h [a1] ∧ Fld Z h a1 "com/example/mergewright/mergewright/merge/Match" "base" "Ljava/lang/Object;" (.ref x1)
set_option maxRecDepth 65536 in
set_option maxHeartbeats 40000000 in
theorem rm2_rrr (l : Launch) (Z : State) (a0 : Array Value) (hw : ∀ d ∈ own_tab, d.before a0 Z = true) (ws : List Jvm.Cond) (a1 : Addr) (x0 : Addr) (x1 : Addr) (x2 : Addr) (h0 : Heap) (n0 : Nat) (Z0 : n0 ≤ h0.size) (P0 : Exa Z h0 a1 "com/example/mergewright/mergewright/merge/Match") (P1 : n0 ≤ a1) (P2 : Fld Z h0 a1 "com/example/mergewright/mergewright/merge/Match" "current" "Ljava/lang/Object;" .null) (P3 : Fld Z h0 a1 "com/example/mergewright/mergewright/merge/Match" "base" "Ljava/lang/Object;" .null) (P4 : Fld Z h0 a1 "com/example/mergewright/mergewright/merge/Match" "other" "Ljava/lang/Object;" .null) :
    MetFree l (⟨"com/example/mergewright/mergewright/merge/Match", "<init>", "(Ljava/lang/Object;Ljava/lang/Object;Ljava/lang/Object;)V"⟩ : MethodName) (head1 (Jvm.Cond.code (⟨"com/example/mergewright/mergewright/merge/Match", "<init>", "(Ljava/lang/Object;Ljava/lang/Object;Ljava/lang/Object;)V"⟩ : MethodName) prog_31_method_1_code 4 none :: ws) ({ frames := 1, cells := 0, slots := 0, locals := 12 } : Room)) (fun a U => a = #[(.ref a1), (.ref x0), (.ref x1), (.ref x2)] ∧ Z.Warmed39 U.vm ∧ U.heap = h0) (fun _ _ _ _ _ => True) (fun _ U o U' => ∃ v L, o = .returned v ∧ Q_rm2_rrr Z a1 x0 x1 x2 h0 n0 v U'.heap L ∧ FrameEnd U o U' L ({ frames := 1, cells := 0, slots := 0, locals := 12 } : Room).cells ({ frames := 1, cells := 0, slots := 0, locals := 12 } : Room).slots) := by
  refine MetFree.of_bodySF (plainFor_of_name pn_2) hisR ?_
  intro p e s m args below meth c s₁ Bd hml0 hP hK
  obtain ⟨rfl, hZ, hh⟩ := hP
  have hx := Bd.exec
  have hby := Bd.bytes
  have hml : c.maxLocals = 4 := hml0
  have hown : s.vm.findClass "com/example/mergewright/mergewright/merge/Match" = some m.cls := findClass_of_methodNamed Bd.named
  have hnm := (name_of_methodNamed Bd.named Bd.method).1
  have X0 : Stand p l e ({ frames := 1, cells := 0, slots := 0, locals := 12 } : Room) s m #[(.ref a1), (.ref x0), (.ref x1), (.ref x2)] below meth c s₁ [] 0 0 := Stand.of_body Bd
  have e0 : s₁.heap = h0 := by rw [← hh, Bd.state]; rfl
  have N0 := Fr.nil n0
  have KR : Keep h0 h0 [a1] := Keep.refl h0 _
  have pre0 : ∀ t, Steps p.tables e below (s₁.setTop (mkF m 0 #[.val (.ref a1), .val (.ref x0), .val (.ref x1), .val (.ref x2)] [])) t → Steps p.tables e below (s₁.setTop (entryFrame m #[(.ref a1), (.ref x0), (.ref x1), (.ref x2)] 4)) t := fun t k => castTop (ef_rm2_rrr m (a1) (x0) (x1) (x2)) k
  obtain ⟨T1, X1, e1, st1⟩ := initO X0 hx hZ hown (kw13 hw) (kw14 hw) (kw15 hw) e0 (g := (mkF m 1 #[.val (.ref a1), .val (.ref x0), .val (.ref x1), .val (.ref x2)] [(.ref a1)])) rfl (by rw [hml]; rfl) rfl (hb hby d2_1) (by decide) (W := 0) (by show 2 * 0 + _ ≤ _; exact Nat.le_of_eq rfl) (by decide)
  obtain ⟨T2, h2, X2, e2, W2, st2⟩ := putF X1 hx hZ hown (host := "") (Or.inl (kw16 hw)) Via.refl e1 P2 P0 (Or.inr ⟨(kw17 hw), rfl, hnm⟩) (kw8 hw) (ty := (.object "java/lang/Object")) (by decide) rfl rfl (g := (mkF m 6 #[.val (.ref a1), .val (.ref x0), .val (.ref x1), .val (.ref x2)] [(.ref x0), (.ref a1)])) rfl rfl (hb hby d2_6)
  have Z2 : n0 ≤ h2.size := Nat.le_trans Z0 (Keep.of_wr W2).1
  have K2 : Keep h0 h2 [a1] := KR.wr W2 (Or.inl (List.mem_of_getElem? (i := 0) rfl))
  have N2 := Fr.snoc X2 N0 P1
  have Fw2 : Fld Z h2 a1 "com/example/mergewright/mergewright/merge/Match" "current" "Ljava/lang/Object;" (.ref x0) := P2.same W2
  have f3 : Exa Z h2 a1 "com/example/mergewright/mergewright/merge/Match" := (P0.wr W2)
  have f4 : Fld Z h2 a1 "com/example/mergewright/mergewright/merge/Match" "base" "Ljava/lang/Object;" .null := (P3.other W2 (Or.inr (slot_ne (Or.inr (kw19 hw)) (Or.inr (kw17 hw)) (by decide) (t := (.object "java/lang/Object")) (t' := (.object "java/lang/Object")) (by decide) (by decide))))
  obtain ⟨T5, h5, X5, e5, W5, st5⟩ := putF X2 hx hZ hown (host := "") (Or.inl (kw18 hw)) Via.refl e2 f4 f3 (Or.inr ⟨(kw19 hw), rfl, hnm⟩) (kw8 hw) (ty := (.object "java/lang/Object")) (by decide) rfl rfl (g := (mkF m 11 #[.val (.ref a1), .val (.ref x0), .val (.ref x1), .val (.ref x2)] [(.ref x1), (.ref a1)])) rfl rfl (hb hby d2_11)
  have Z5 : n0 ≤ h5.size := Nat.le_trans Z2 (Keep.of_wr W5).1
  have K5 : Keep h0 h5 [a1] := K2.wr W5 (Or.inl (List.mem_of_getElem? (i := 0) rfl))
  have N5 := Fr.snoc X5 N2 P1
  have Fw5 : Fld Z h5 a1 "com/example/mergewright/mergewright/merge/Match" "base" "Ljava/lang/Object;" (.ref x1) := f4.same W5
  have f6 : Exa Z h5 a1 "com/example/mergewright/mergewright/merge/Match" := (f3.wr W5)
  have f7 : Fld Z h5 a1 "com/example/mergewright/mergewright/merge/Match" "other" "Ljava/lang/Object;" .null := ((P4.other W2 (Or.inr (slot_ne (Or.inr (kw21 hw)) (Or.inr (kw17 hw)) (by decide) (t := (.object "java/lang/Object")) (t' := (.object "java/lang/Object")) (by decide) (by decide)))).other W5 (Or.inr (slot_ne (Or.inr (kw21 hw)) (Or.inr (kw19 hw)) (by decide) (t := (.object "java/lang/Object")) (t' := (.object "java/lang/Object")) (by decide) (by decide))))
  obtain ⟨T8, h8, X8, e8, W8, st8⟩ := putF X5 hx hZ hown (host := "") (Or.inl (kw20 hw)) Via.refl e5 f7 f6 (Or.inr ⟨(kw21 hw), rfl, hnm⟩) (kw8 hw) (ty := (.object "java/lang/Object")) (by decide) rfl rfl (g := (mkF m 16 #[.val (.ref a1), .val (.ref x0), .val (.ref x1), .val (.ref x2)] [(.ref x2), (.ref a1)])) rfl rfl (hb hby d2_16)
  have Z8 : n0 ≤ h8.size := Nat.le_trans Z5 (Keep.of_wr W8).1
  have K8 : Keep h0 h8 [a1] := K5.wr W8 (Or.inl (List.mem_of_getElem? (i := 0) rfl))
  have N8 := Fr.snoc X8 N5 P1
  have Fw8 : Fld Z h8 a1 "com/example/mergewright/mergewright/merge/Match" "other" "Ljava/lang/Object;" (.ref x2) := f7.same W8
  have f9 : Fld Z h8 a1 "com/example/mergewright/mergewright/merge/Match" "base" "Ljava/lang/Object;" (.ref x1) := (Fw5.other W8 (Or.inr (slot_ne (Or.inr (kw19 hw)) (Or.inr (kw21 hw)) (by decide) (t := (.object "java/lang/Object")) (t' := (.object "java/lang/Object")) (by decide) (by decide))))
  obtain ⟨fs, hr, hrun, hended, hW, hsame⟩ := X8.leave (v := none) (fun _ => rfl)
  refine ⟨_, _, pre0 _ ?_, hrun, hended, _, _, rfl, ?_, ⟨_, rfl⟩, hW, hsame.mono (by decide) (by decide)⟩
  · skip
    show Steps p.tables e below (s₁.setTop (mkF m 0 #[.val (.ref a1), .val (.ref x0), .val (.ref x1), .val (.ref x2)] [])) _
    refine XS.aloadN X0.here hx rfl (hb hby d2_0) rfl rfl ?_
    show Steps p.tables e below (s₁.setTop (mkF m 1 #[.val (.ref a1), .val (.ref x0), .val (.ref x1), .val (.ref x2)] [(.ref a1)])) _
    refine st1 _ ?_
    show Steps p.tables e below (T1.setTop (mkF m 4 #[.val (.ref a1), .val (.ref x0), .val (.ref x1), .val (.ref x2)] [])) _
    refine XS.aloadN X1.here hx rfl (hb hby d2_4) rfl rfl ?_
    show Steps p.tables e below (T1.setTop (mkF m 5 #[.val (.ref a1), .val (.ref x0), .val (.ref x1), .val (.ref x2)] [(.ref a1)])) _
    refine XS.aloadN X1.here hx rfl (hb hby d2_5) rfl rfl ?_
    show Steps p.tables e below (T1.setTop (mkF m 6 #[.val (.ref a1), .val (.ref x0), .val (.ref x1), .val (.ref x2)] [(.ref x0), (.ref a1)])) _
    refine st2 _ ?_
    show Steps p.tables e below (T2.setTop (mkF m 9 #[.val (.ref a1), .val (.ref x0), .val (.ref x1), .val (.ref x2)] [])) _
    refine XS.aloadN X2.here hx rfl (hb hby d2_9) rfl rfl ?_
    show Steps p.tables e below (T2.setTop (mkF m 10 #[.val (.ref a1), .val (.ref x0), .val (.ref x1), .val (.ref x2)] [(.ref a1)])) _
    refine XS.aloadN X2.here hx rfl (hb hby d2_10) rfl rfl ?_
    show Steps p.tables e below (T2.setTop (mkF m 11 #[.val (.ref a1), .val (.ref x0), .val (.ref x1), .val (.ref x2)] [(.ref x1), (.ref a1)])) _
    refine st5 _ ?_
    show Steps p.tables e below (T5.setTop (mkF m 14 #[.val (.ref a1), .val (.ref x0), .val (.ref x1), .val (.ref x2)] [])) _
    refine XS.aloadN X5.here hx rfl (hb hby d2_14) rfl rfl ?_
    show Steps p.tables e below (T5.setTop (mkF m 15 #[.val (.ref a1), .val (.ref x0), .val (.ref x1), .val (.ref x2)] [(.ref a1)])) _
    refine XS.aloadN X5.here hx rfl (hb hby d2_15) rfl rfl ?_
    show Steps p.tables e below (T5.setTop (mkF m 16 #[.val (.ref a1), .val (.ref x0), .val (.ref x1), .val (.ref x2)] [(.ref x2), (.ref a1)])) _
    refine st8 _ ?_
    show Steps p.tables e below (T8.setTop (mkF m 19 #[.val (.ref a1), .val (.ref x0), .val (.ref x1), .val (.ref x2)] [])) _
    exact X8.returnOut hx Bd.returns (hb hby d2_19) hr
  · show Q_rm2_rrr Z a1 x0 x1 x2 h0 n0 _ T8.heap _
    rw [e8]
    exact ⟨rfl, N8, K8, f9⟩
theorem ef_rm4_n (m : MethodId) (x0 : Addr) : entryFrame m #[(.ref x0)] 1 = mkF m 0 #[.val (.ref x0)] [] := by first | (simp [entryFrame, mkF, argsToLocals, Value.category]; done) | rfl
def Q_rm4_n (Z : State) (a1 : Addr) (h0 : Heap) (n0 : Nat) (v : Option Value) (h : Heap) (L : List Loc) : Prop := v = some (.int (1 : Int32)) ∧ Fr n0 L ∧ h = h0
set_option maxRecDepth 65536 in
set_option maxHeartbeats 40000000 in
theorem rm4_n (l : Launch) (Z : State) (a0 : Array Value) (hw : ∀ d ∈ own_tab, d.before a0 Z = true) (ws : List Jvm.Cond) (a1 : Addr) (h0 : Heap) (n0 : Nat) (Z0 : n0 ≤ h0.size) (P0 : Fld Z h0 a1 "com/example/mergewright/mergewright/merge/Match" "base" "Ljava/lang/Object;" .null) :
    MetFree l (⟨"com/example/mergewright/mergewright/merge/Match", "isInsertedByBoth", "()Z"⟩ : MethodName) (head1 (Jvm.Cond.code (⟨"com/example/mergewright/mergewright/merge/Match", "isInsertedByBoth", "()Z"⟩ : MethodName) prog_31_method_4_code 1 (some .boolean) :: ws) ({ frames := 0, cells := 0, slots := 0, locals := 0 } : Room)) (fun a U => a = #[(.ref a1)] ∧ Z.Warmed39 U.vm ∧ U.heap = h0) (fun _ _ _ _ _ => True) (fun _ U o U' => ∃ v L, o = .returned v ∧ Q_rm4_n Z a1 h0 n0 v U'.heap L ∧ FrameEnd U o U' L ({ frames := 0, cells := 0, slots := 0, locals := 0 } : Room).cells ({ frames := 0, cells := 0, slots := 0, locals := 0 } : Room).slots) := by
  refine MetFree.of_bodySF (plainFor_of_name pn_2) hisR ?_
  intro p e s m args below meth c s₁ Bd hml0 hP hK
  obtain ⟨rfl, hZ, hh⟩ := hP
  have hx := Bd.exec
  have hby := Bd.bytes
  have hml : c.maxLocals = 1 := hml0
  have hown : s.vm.findClass "com/example/mergewright/mergewright/merge/Match" = some m.cls := findClass_of_methodNamed Bd.named
  have hnm := (name_of_methodNamed Bd.named Bd.method).1
  have X0 : Stand p l e ({ frames := 0, cells := 0, slots := 0, locals := 0 } : Room) s m #[(.ref a1)] below meth c s₁ [] 0 0 := Stand.of_body Bd
  have e0 : s₁.heap = h0 := by rw [← hh, Bd.state]; rfl
  have N0 := Fr.nil n0
  have KR : Keep h0 h0 [] := Keep.refl h0 _
  have pre0 : ∀ t, Steps p.tables e below (s₁.setTop (mkF m 0 #[.val (.ref a1)] [])) t → Steps p.tables e below (s₁.setTop (entryFrame m #[(.ref a1)] 1)) t := fun t k => castTop (ef_rm4_n m (a1)) k
  obtain ⟨T1, X1, e1, st1⟩ := getF X0 hx hZ hown (host := "") (Or.inl (kw18 hw)) Via.refl e0 P0 (g := (mkF m 1 #[.val (.ref a1)] [(.ref a1)])) rfl rfl (hb hby d4_1)
  obtain ⟨fs, hr, hrun, hended, hW, hsame⟩ := X1.leave (v := some (.int (1 : Int32))) (fun h => by rw [Bd.returns] at h; cases h)
  refine ⟨_, _, pre0 _ ?_, hrun, hended, _, _, rfl, ?_, ⟨_, rfl⟩, hW, hsame.mono (by decide) (by decide)⟩
  · skip
    show Steps p.tables e below (s₁.setTop (mkF m 0 #[.val (.ref a1)] [])) _
    refine XS.aloadN X0.here hx rfl (hb hby d4_0) rfl rfl ?_
    show Steps p.tables e below (s₁.setTop (mkF m 1 #[.val (.ref a1)] [(.ref a1)])) _
    refine st1 _ ?_
    show Steps p.tables e below (T1.setTop (mkF m 4 #[.val (.ref a1)] [.null])) _
    refine XS.ifnonnullNo X1.here hx rfl (hb hby d4_4) rfl ?_
    show Steps p.tables e below (T1.setTop (mkF m 7 #[.val (.ref a1)] [])) _
    refine XS.iconst X1.here hx rfl (hb hby d4_7) ?_
    show Steps p.tables e below (T1.setTop (mkF m 8 #[.val (.ref a1)] [(.int (1 : Int32))])) _
    refine XS.goto X1.here hx rfl (pc0 := 8) (pc' := 12) rfl (hb hby d4_8) (by decide) (by decide) ?_
    show Steps p.tables e below (T1.setTop (mkF m 12 #[.val (.ref a1)] [(.int (1 : Int32))])) _
    exact retN X1 hx (t := .boolean) Bd.returns (by simp) (hb hby d4_12) hr
  · show Q_rm4_n Z a1 h0 n0 _ T1.heap _
    rw [e1]
    exact ⟨rfl, N0, rfl⟩
theorem ef_rm4_r (m : MethodId) (x0 : Addr) : entryFrame m #[(.ref x0)] 1 = mkF m 0 #[.val (.ref x0)] [] := by first | (simp [entryFrame, mkF, argsToLocals, Value.category]; done) | rfl
def Q_rm4_r (Z : State) (a1 : Addr) (x1 : Addr) (h0 : Heap) (n0 : Nat) (v : Option Value) (h : Heap) (L : List Loc) : Prop := v = some (.int (0 : Int32)) ∧ Fr n0 L ∧ h = h0
set_option maxRecDepth 65536 in
set_option maxHeartbeats 40000000 in
theorem rm4_r (l : Launch) (Z : State) (a0 : Array Value) (hw : ∀ d ∈ own_tab, d.before a0 Z = true) (ws : List Jvm.Cond) (a1 : Addr) (x1 : Addr) (h0 : Heap) (n0 : Nat) (Z0 : n0 ≤ h0.size) (P0 : Fld Z h0 a1 "com/example/mergewright/mergewright/merge/Match" "base" "Ljava/lang/Object;" (.ref x1)) :
    MetFree l (⟨"com/example/mergewright/mergewright/merge/Match", "isInsertedByBoth", "()Z"⟩ : MethodName) (head1 (Jvm.Cond.code (⟨"com/example/mergewright/mergewright/merge/Match", "isInsertedByBoth", "()Z"⟩ : MethodName) prog_31_method_4_code 1 (some .boolean) :: ws) ({ frames := 0, cells := 0, slots := 0, locals := 0 } : Room)) (fun a U => a = #[(.ref a1)] ∧ Z.Warmed39 U.vm ∧ U.heap = h0) (fun _ _ _ _ _ => True) (fun _ U o U' => ∃ v L, o = .returned v ∧ Q_rm4_r Z a1 x1 h0 n0 v U'.heap L ∧ FrameEnd U o U' L ({ frames := 0, cells := 0, slots := 0, locals := 0 } : Room).cells ({ frames := 0, cells := 0, slots := 0, locals := 0 } : Room).slots) := by
  refine MetFree.of_bodySF (plainFor_of_name pn_2) hisR ?_
  intro p e s m args below meth c s₁ Bd hml0 hP hK
  obtain ⟨rfl, hZ, hh⟩ := hP
  have hx := Bd.exec
  have hby := Bd.bytes
  have hml : c.maxLocals = 1 := hml0
  have hown : s.vm.findClass "com/example/mergewright/mergewright/merge/Match" = some m.cls := findClass_of_methodNamed Bd.named
  have hnm := (name_of_methodNamed Bd.named Bd.method).1
  have X0 : Stand p l e ({ frames := 0, cells := 0, slots := 0, locals := 0 } : Room) s m #[(.ref a1)] below meth c s₁ [] 0 0 := Stand.of_body Bd
  have e0 : s₁.heap = h0 := by rw [← hh, Bd.state]; rfl
  have N0 := Fr.nil n0
  have KR : Keep h0 h0 [] := Keep.refl h0 _
  have pre0 : ∀ t, Steps p.tables e below (s₁.setTop (mkF m 0 #[.val (.ref a1)] [])) t → Steps p.tables e below (s₁.setTop (entryFrame m #[(.ref a1)] 1)) t := fun t k => castTop (ef_rm4_r m (a1)) k
  obtain ⟨T1, X1, e1, st1⟩ := getF X0 hx hZ hown (host := "") (Or.inl (kw18 hw)) Via.refl e0 P0 (g := (mkF m 1 #[.val (.ref a1)] [(.ref a1)])) rfl rfl (hb hby d4_1)
  obtain ⟨fs, hr, hrun, hended, hW, hsame⟩ := X1.leave (v := some (.int (0 : Int32))) (fun h => by rw [Bd.returns] at h; cases h)
  refine ⟨_, _, pre0 _ ?_, hrun, hended, _, _, rfl, ?_, ⟨_, rfl⟩, hW, hsame.mono (by decide) (by decide)⟩
  · skip
    show Steps p.tables e below (s₁.setTop (mkF m 0 #[.val (.ref a1)] [])) _
    refine XS.aloadN X0.here hx rfl (hb hby d4_0) rfl rfl ?_
    show Steps p.tables e below (s₁.setTop (mkF m 1 #[.val (.ref a1)] [(.ref a1)])) _
    refine st1 _ ?_
    show Steps p.tables e below (T1.setTop (mkF m 4 #[.val (.ref a1)] [(.ref x1)])) _
    refine XS.ifnonnullYes X1.here hx rfl (pc0 := 4) (pc' := 11) rfl (hb hby d4_4) rfl (by decide) (by decide) ?_
    show Steps p.tables e below (T1.setTop (mkF m 11 #[.val (.ref a1)] [])) _
    refine XS.iconst X1.here hx rfl (hb hby d4_11) ?_
    show Steps p.tables e below (T1.setTop (mkF m 12 #[.val (.ref a1)] [(.int (0 : Int32))])) _
    exact retN X1 hx (t := .boolean) Bd.returns (by simp) (hb hby d4_12) hr
  · show Q_rm4_r Z a1 x1 h0 n0 _ T1.heap _
    rw [e1]
    exact ⟨rfl, N0, rfl⟩
theorem ef_rm5 (m : MethodId) (x0 : Addr) : entryFrame m #[(.ref x0)] 1 = mkF m 0 #[.val (.ref x0)] [] := by first | (simp [entryFrame, mkF, argsToLocals, Value.category]; done) | rfl
def Q_rm5 (Z : State) (x1 : Addr) (h0 : Heap) (n0 : Nat) (v : Option Value) (h : Heap) (L : List Loc) : Prop := ∃ bb : Addr, v = some (.ref bb) ∧ Fr n0 L ∧ Keep h0 h [] ∧ n0 ≤ bb ∧ h0.size ≤ bb ∧ Exa Z h bb "com/example/mergewright/mergewright/merge/Match" ∧ Fld Z h bb "com/example/mergewright/mergewright/merge/Match" "base" "Ljava/lang/Object;" (.ref x1)
set_option maxRecDepth 65536 in
set_option maxHeartbeats 40000000 in
theorem rm5 (l : Launch) (Z : State) (a0 : Array Value) (hw : ∀ d ∈ own_tab, d.before a0 Z = true) (ws : List Jvm.Cond) (x1 : Addr) (h0 : Heap) (n0 : Nat) (Z0 : n0 ≤ h0.size)  :
    MetFree l (⟨"com/example/mergewright/mergewright/merge/Match", "inserted", "(Ljava/lang/Object;)Lcom/example/mergewright/mergewright/merge/Match;"⟩ : MethodName) (head1 (Jvm.Cond.code (⟨"com/example/mergewright/mergewright/merge/Match", "inserted", "(Ljava/lang/Object;)Lcom/example/mergewright/mergewright/merge/Match;"⟩ : MethodName) prog_31_method_2_code 1 (some (.object "com/example/mergewright/mergewright/merge/Match")) :: ws) ({ frames := 2, cells := 1, slots := 3, locals := 28 } : Room)) (fun a U => a = #[(.ref x1)] ∧ Z.Warmed39 U.vm ∧ U.heap = h0) (fun _ _ _ _ _ => True) (fun _ U o U' => ∃ v L, o = .returned v ∧ Q_rm5 Z x1 h0 n0 v U'.heap L ∧ FrameEnd U o U' L ({ frames := 2, cells := 1, slots := 3, locals := 28 } : Room).cells ({ frames := 2, cells := 1, slots := 3, locals := 28 } : Room).slots) := by
  refine MetFree.of_bodySF (plainFor_of_name pn_2) hisR ?_
  intro p e s m args below meth c s₁ Bd hml0 hP hK
  obtain ⟨rfl, hZ, hh⟩ := hP
  have hx := Bd.exec
  have hby := Bd.bytes
  have hml : c.maxLocals = 1 := hml0
  have hown : s.vm.findClass "com/example/mergewright/mergewright/merge/Match" = some m.cls := findClass_of_methodNamed Bd.named
  have hnm := (name_of_methodNamed Bd.named Bd.method).1
  have X0 : Stand p l e ({ frames := 2, cells := 1, slots := 3, locals := 28 } : Room) s m #[(.ref x1)] below meth c s₁ [] 0 0 := Stand.of_body Bd
  have e0 : s₁.heap = h0 := by rw [← hh, Bd.state]; rfl
  have N0 := Fr.nil n0
  have KR : Keep h0 h0 [] := Keep.refl h0 _
  have pre0 : ∀ t, Steps p.tables e below (s₁.setTop (mkF m 0 #[.val (.ref x1)] [])) t → Steps p.tables e below (s₁.setTop (entryFrame m #[(.ref x1)] 1)) t := fun t k => castTop (ef_rm5 m (x1)) k
  obtain ⟨T1, h1, X1, e1, E1, A1, D1, -, st1⟩ := newO X0 hx hZ hown (kw30 hw) (kw8 hw) (kw9 hw) e0 (g := (mkF m 0 #[.val (.ref x1)] [])) rfl (hb hby d5_0) (by decide) (by decide)
  obtain ⟨b1, g1⟩ : ∃ z, z = h0.size := ⟨_, rfl⟩
  rw [← g1] at A1 D1 st1
  have g_b1 : n0 ≤ b1 := Nat.le_trans Z0 (Nat.le_of_eq g1.symm)
  have sz_b1 : h0.size ≤ b1 := Nat.le_trans KR.1 (Nat.le_of_eq g1.symm)
  have Z1 : n0 ≤ h1.size := Nat.le_trans Z0 E1.1
  have K1 : Keep h0 h1 [] := KR.ext E1
  have F1_current : Fld Z h1 b1 "com/example/mergewright/mergewright/merge/Match" "current" "Ljava/lang/Object;" .null := D1 (Or.inr (kw17 hw)) (ty := (.object "java/lang/Object")) (by decide)
  have F1_base : Fld Z h1 b1 "com/example/mergewright/mergewright/merge/Match" "base" "Ljava/lang/Object;" .null := D1 (Or.inr (kw19 hw)) (ty := (.object "java/lang/Object")) (by decide)
  have F1_other : Fld Z h1 b1 "com/example/mergewright/mergewright/merge/Match" "other" "Ljava/lang/Object;" .null := D1 (Or.inr (kw21 hw)) (ty := (.object "java/lang/Object")) (by decide)
  obtain ⟨_, _, ⟨T2, L2, k2, n2⟩, -, X2, ⟨Lc2, hQ2, l2, y2, z2⟩, st2⟩ := X1.specialBack hx (y := (⟨"com/example/mergewright/mergewright/merge/Match", "<init>", "(Ljava/lang/Object;Ljava/lang/Object;Ljava/lang/Object;)V"⟩ : MethodName)) rfl hown (mvT hZ (kw31 hw)) (mvT hZ (kw11 hw)) (mvT hZ (kw12 hw)) (by decide) (backOf (W := 1) (rm2_rrr l Z a0 hw [] b1 x1 x1 x1 h1 n0 Z1 A1 g_b1 F1_current F1_base F1_other) hZ (kw12 hw) (kw9 hw) (by decide) (by decide)) (g := (mkF m 7 #[.val (.ref x1)] [(.ref x1), (.ref x1), (.ref x1), (.ref b1), (.ref b1)])) rfl (by rw [hml]; rfl) (Steps.refl _) (a := b1) (argsL := [(.ref x1), (.ref x1), (.ref x1)]) (rest := [(.ref b1)]) (lenOf pd_2 rfl) rfl (by show 2 * 0 + _ ≤ _; exact Nat.le_of_eq rfl) (hb hby d5_7) (fun _ _ => ⟨rfl, e1, (by decide : 1 + 0 ≤ _), (by decide : 3 + 0 ≤ _)⟩)
  dsimp only [Pt.U, Pt.locs, Pt.cells, Pt.slots] at X2 l2 y2 z2 st2 hQ2
  subst l2 y2 z2
  obtain ⟨rfl, N2q, Kq2, p2_0⟩ := hQ2
  have N2 := Fr.app N0 N2q
  have Z2 : n0 ≤ T2.heap.size := Nat.le_trans Z1 Kq2.1
  have K2 : Keep h0 T2.heap [] := K1.trans Kq2 (allS (Or.inr sz_b1) all0)
  have f3 : Exa Z T2.heap b1 "com/example/mergewright/mergewright/merge/Match" := (A1.keep Kq2)
  obtain ⟨fs, hr, hrun, hended, hW, hsame⟩ := X2.leave (v := some (.ref b1)) (fun h => by rw [Bd.returns] at h; cases h)
  refine ⟨_, _, pre0 _ ?_, hrun, hended, _, _, rfl, ?_, ⟨_, rfl⟩, hW, hsame.mono (by decide) (by decide)⟩
  · skip
    show Steps p.tables e below (s₁.setTop (mkF m 0 #[.val (.ref x1)] [])) _
    refine st1 _ ?_
    show Steps p.tables e below (T1.setTop (mkF m 3 #[.val (.ref x1)] [(.ref b1)])) _
    refine XS.dup X1.here hx rfl (hb hby d5_3) rfl rfl ?_
    show Steps p.tables e below (T1.setTop (mkF m 4 #[.val (.ref x1)] [(.ref b1), (.ref b1)])) _
    refine XS.aloadN X1.here hx rfl (hb hby d5_4) rfl rfl ?_
    show Steps p.tables e below (T1.setTop (mkF m 5 #[.val (.ref x1)] [(.ref x1), (.ref b1), (.ref b1)])) _
    refine XS.aloadN X1.here hx rfl (hb hby d5_5) rfl rfl ?_
    show Steps p.tables e below (T1.setTop (mkF m 6 #[.val (.ref x1)] [(.ref x1), (.ref x1), (.ref b1), (.ref b1)])) _
    refine XS.aloadN X1.here hx rfl (hb hby d5_6) rfl rfl ?_
    show Steps p.tables e below (T1.setTop (mkF m 7 #[.val (.ref x1)] [(.ref x1), (.ref x1), (.ref x1), (.ref b1), (.ref b1)])) _
    refine st2.trans ?_
    show Steps p.tables e below (T2.setTop (mkF m 10 #[.val (.ref x1)] [(.ref b1)])) _
    jvm_step X2.here [X2.here.top, hx, (hb hby d5_10), X2.method', Bd.returns, Value.isRef, FieldType.isReference]
    first | (intro acts; rw [hr _ acts rfl rfl rfl]) | rw [hr _ _ rfl rfl rfl]
    exact Steps.refl _
  · show Q_rm5 Z x1 h0 n0 _ T2.heap _
    exact ⟨b1, rfl, N2, K2, g_b1, sz_b1, f3, p2_0⟩
theorem ef_rm6_nn (m : MethodId)  : entryFrame m #[.null, .null] 2 = mkF m 0 #[.val .null, .val .null] [] := by first | (simp [entryFrame, mkF, argsToLocals, Value.category]; done) | rfl
def Q_rm6_nn (Z : State)  (h0 : Heap) (n0 : Nat) (v : Option Value) (h : Heap) (L : List Loc) : Prop := ∃ bb : Addr, v = some (.ref bb) ∧ Fr n0 L ∧ Keep h0 h [] ∧ n0 ≤ bb ∧ h0.size ≤ bb ∧ Exa Z h bb "com/example/mergewright/mergewright/merge/Match" ∧ Fld Z h bb "com/example/mergewright/mergewright/merge/Match" "base" "Ljava/lang/Object;" .null
set_option maxRecDepth 65536 in
set_option maxHeartbeats 40000000 in
theorem rm6_nn (l : Launch) (Z : State) (a0 : Array Value) (hw : ∀ d ∈ own_tab, d.before a0 Z = true) (ws : List Jvm.Cond)  (h0 : Heap) (n0 : Nat) (Z0 : n0 ≤ h0.size)  :
    MetFree l (⟨"com/example/mergewright/mergewright/merge/Match", "insertedByBoth", "(Ljava/lang/Object;Ljava/lang/Object;)Lcom/example/mergewright/mergewright/merge/Match;"⟩ : MethodName) (head1 (Jvm.Cond.code (⟨"com/example/mergewright/mergewright/merge/Match", "insertedByBoth", "(Ljava/lang/Object;Ljava/lang/Object;)Lcom/example/mergewright/mergewright/merge/Match;"⟩ : MethodName) prog_31_method_3_code 2 (some (.object "com/example/mergewright/mergewright/merge/Match")) :: ws) ({ frames := 2, cells := 1, slots := 3, locals := 28 } : Room)) (fun a U => a = #[.null, .null] ∧ Z.Warmed39 U.vm ∧ U.heap = h0) (fun _ _ _ _ _ => True) (fun _ U o U' => ∃ v L, o = .returned v ∧ Q_rm6_nn Z  h0 n0 v U'.heap L ∧ FrameEnd U o U' L ({ frames := 2, cells := 1, slots := 3, locals := 28 } : Room).cells ({ frames := 2, cells := 1, slots := 3, locals := 28 } : Room).slots) := by
  refine MetFree.of_bodySF (plainFor_of_name pn_2) hisR ?_
  intro p e s m args below meth c s₁ Bd hml0 hP hK
  obtain ⟨rfl, hZ, hh⟩ := hP
  have hx := Bd.exec
  have hby := Bd.bytes
  have hml : c.maxLocals = 2 := hml0
  have hown : s.vm.findClass "com/example/mergewright/mergewright/merge/Match" = some m.cls := findClass_of_methodNamed Bd.named
  have hnm := (name_of_methodNamed Bd.named Bd.method).1
  have X0 : Stand p l e ({ frames := 2, cells := 1, slots := 3, locals := 28 } : Room) s m #[.null, .null] below meth c s₁ [] 0 0 := Stand.of_body Bd
  have e0 : s₁.heap = h0 := by rw [← hh, Bd.state]; rfl
  have N0 := Fr.nil n0
  have KR : Keep h0 h0 [] := Keep.refl h0 _
  have pre0 : ∀ t, Steps p.tables e below (s₁.setTop (mkF m 0 #[.val .null, .val .null] [])) t → Steps p.tables e below (s₁.setTop (entryFrame m #[.null, .null] 2)) t := fun t k => castTop (ef_rm6_nn m ) k
  obtain ⟨T1, h1, X1, e1, E1, A1, D1, -, st1⟩ := newO X0 hx hZ hown (kw30 hw) (kw8 hw) (kw9 hw) e0 (g := (mkF m 0 #[.val .null, .val .null] [])) rfl (hb hby d6_0) (by decide) (by decide)
  obtain ⟨b1, g1⟩ : ∃ z, z = h0.size := ⟨_, rfl⟩
  rw [← g1] at A1 D1 st1
  have g_b1 : n0 ≤ b1 := Nat.le_trans Z0 (Nat.le_of_eq g1.symm)
  have sz_b1 : h0.size ≤ b1 := Nat.le_trans KR.1 (Nat.le_of_eq g1.symm)
  have Z1 : n0 ≤ h1.size := Nat.le_trans Z0 E1.1
  have K1 : Keep h0 h1 [] := KR.ext E1
  have F1_current : Fld Z h1 b1 "com/example/mergewright/mergewright/merge/Match" "current" "Ljava/lang/Object;" .null := D1 (Or.inr (kw17 hw)) (ty := (.object "java/lang/Object")) (by decide)
  have F1_base : Fld Z h1 b1 "com/example/mergewright/mergewright/merge/Match" "base" "Ljava/lang/Object;" .null := D1 (Or.inr (kw19 hw)) (ty := (.object "java/lang/Object")) (by decide)
  have F1_other : Fld Z h1 b1 "com/example/mergewright/mergewright/merge/Match" "other" "Ljava/lang/Object;" .null := D1 (Or.inr (kw21 hw)) (ty := (.object "java/lang/Object")) (by decide)
  obtain ⟨_, _, ⟨T2, L2, k2, n2⟩, -, X2, ⟨Lc2, hQ2, l2, y2, z2⟩, st2⟩ := X1.specialBack hx (y := (⟨"com/example/mergewright/mergewright/merge/Match", "<init>", "(Ljava/lang/Object;Ljava/lang/Object;Ljava/lang/Object;)V"⟩ : MethodName)) rfl hown (mvT hZ (kw31 hw)) (mvT hZ (kw11 hw)) (mvT hZ (kw12 hw)) (by decide) (backOf (W := 1) (rm2_nnn l Z a0 hw [] b1 h1 n0 Z1 A1 g_b1 F1_current F1_base F1_other) hZ (kw12 hw) (kw9 hw) (by decide) (by decide)) (g := (mkF m 7 #[.val .null, .val .null] [.null, .null, .null, (.ref b1), (.ref b1)])) rfl (by rw [hml]; rfl) (Steps.refl _) (a := b1) (argsL := [.null, .null, .null]) (rest := [(.ref b1)]) (lenOf pd_2 rfl) rfl (by show 2 * 0 + _ ≤ _; exact Nat.le_of_eq rfl) (hb hby d6_7) (fun _ _ => ⟨rfl, e1, (by decide : 1 + 0 ≤ _), (by decide : 3 + 0 ≤ _)⟩)
  dsimp only [Pt.U, Pt.locs, Pt.cells, Pt.slots] at X2 l2 y2 z2 st2 hQ2
  subst l2 y2 z2
  obtain ⟨rfl, N2q, Kq2, p2_0⟩ := hQ2
  have N2 := Fr.app N0 N2q
  have Z2 : n0 ≤ T2.heap.size := Nat.le_trans Z1 Kq2.1
  have K2 : Keep h0 T2.heap [] := K1.trans Kq2 (allS (Or.inr sz_b1) all0)
  have f3 : Exa Z T2.heap b1 "com/example/mergewright/mergewright/merge/Match" := (A1.keep Kq2)
  obtain ⟨fs, hr, hrun, hended, hW, hsame⟩ := X2.leave (v := some (.ref b1)) (fun h => by rw [Bd.returns] at h; cases h)
  refine ⟨_, _, pre0 _ ?_, hrun, hended, _, _, rfl, ?_, ⟨_, rfl⟩, hW, hsame.mono (by decide) (by decide)⟩
  · skip
    show Steps p.tables e below (s₁.setTop (mkF m 0 #[.val .null, .val .null] [])) _
    refine st1 _ ?_
    show Steps p.tables e below (T1.setTop (mkF m 3 #[.val .null, .val .null] [(.ref b1)])) _
    refine XS.dup X1.here hx rfl (hb hby d6_3) rfl rfl ?_
    show Steps p.tables e below (T1.setTop (mkF m 4 #[.val .null, .val .null] [(.ref b1), (.ref b1)])) _
    refine XS.aloadN X1.here hx rfl (hb hby d6_4) rfl rfl ?_
    show Steps p.tables e below (T1.setTop (mkF m 5 #[.val .null, .val .null] [.null, (.ref b1), (.ref b1)])) _
    refine XS.aconstNull X1.here hx rfl (hb hby d6_5) ?_
    show Steps p.tables e below (T1.setTop (mkF m 6 #[.val .null, .val .null] [.null, .null, (.ref b1), (.ref b1)])) _
    refine XS.aloadN X1.here hx rfl (hb hby d6_6) rfl rfl ?_
    show Steps p.tables e below (T1.setTop (mkF m 7 #[.val .null, .val .null] [.null, .null, .null, (.ref b1), (.ref b1)])) _
    refine st2.trans ?_
    show Steps p.tables e below (T2.setTop (mkF m 10 #[.val .null, .val .null] [(.ref b1)])) _
    jvm_step X2.here [X2.here.top, hx, (hb hby d6_10), X2.method', Bd.returns, Value.isRef, FieldType.isReference]
    first | (intro acts; rw [hr _ acts rfl rfl rfl]) | rw [hr _ _ rfl rfl rfl]
    exact Steps.refl _
  · show Q_rm6_nn Z  h0 n0 _ T2.heap _
    exact ⟨b1, rfl, N2, K2, g_b1, sz_b1, f3, p2_0⟩
theorem ef_rm6_nr (m : MethodId) (x1 : Addr) : entryFrame m #[.null, (.ref x1)] 2 = mkF m 0 #[.val .null, .val (.ref x1)] [] := by first | (simp [entryFrame, mkF, argsToLocals, Value.category]; done) | rfl
def Q_rm6_nr (Z : State) (x1 : Addr) (h0 : Heap) (n0 : Nat) (v : Option Value) (h : Heap) (L : List Loc) : Prop := ∃ bb : Addr, v = some (.ref bb) ∧ Fr n0 L ∧ Keep h0 h [] ∧ n0 ≤ bb ∧ h0.size ≤ bb ∧ Exa Z h bb "com/example/mergewright/mergewright/merge/Match" ∧ Fld Z h bb "com/example/mergewright/mergewright/merge/Match" "base" "Ljava/lang/Object;" .null
set_option maxRecDepth 65536 in
set_option maxHeartbeats 40000000 in
theorem rm6_nr (l : Launch) (Z : State) (a0 : Array Value) (hw : ∀ d ∈ own_tab, d.before a0 Z = true) (ws : List Jvm.Cond) (x1 : Addr) (h0 : Heap) (n0 : Nat) (Z0 : n0 ≤ h0.size)  :
    MetFree l (⟨"com/example/mergewright/mergewright/merge/Match", "insertedByBoth", "(Ljava/lang/Object;Ljava/lang/Object;)Lcom/example/mergewright/mergewright/merge/Match;"⟩ : MethodName) (head1 (Jvm.Cond.code (⟨"com/example/mergewright/mergewright/merge/Match", "insertedByBoth", "(Ljava/lang/Object;Ljava/lang/Object;)Lcom/example/mergewright/mergewright/merge/Match;"⟩ : MethodName) prog_31_method_3_code 2 (some (.object "com/example/mergewright/mergewright/merge/Match")) :: ws) ({ frames := 2, cells := 1, slots := 3, locals := 28 } : Room)) (fun a U => a = #[.null, (.ref x1)] ∧ Z.Warmed39 U.vm ∧ U.heap = h0) (fun _ _ _ _ _ => True) (fun _ U o U' => ∃ v L, o = .returned v ∧ Q_rm6_nr Z x1 h0 n0 v U'.heap L ∧ FrameEnd U o U' L ({ frames := 2, cells := 1, slots := 3, locals := 28 } : Room).cells ({ frames := 2, cells := 1, slots := 3, locals := 28 } : Room).slots) := by
  refine MetFree.of_bodySF (plainFor_of_name pn_2) hisR ?_
  intro p e s m args below meth c s₁ Bd hml0 hP hK
  obtain ⟨rfl, hZ, hh⟩ := hP
  have hx := Bd.exec
  have hby := Bd.bytes
  have hml : c.maxLocals = 2 := hml0
  have hown : s.vm.findClass "com/example/mergewright/mergewright/merge/Match" = some m.cls := findClass_of_methodNamed Bd.named
  have hnm := (name_of_methodNamed Bd.named Bd.method).1
  have X0 : Stand p l e ({ frames := 2, cells := 1, slots := 3, locals := 28 } : Room) s m #[.null, (.ref x1)] below meth c s₁ [] 0 0 := Stand.of_body Bd
  have e0 : s₁.heap = h0 := by rw [← hh, Bd.state]; rfl
  have N0 := Fr.nil n0
  have KR : Keep h0 h0 [] := Keep.refl h0 _
  have pre0 : ∀ t, Steps p.tables e below (s₁.setTop (mkF m 0 #[.val .null, .val (.ref x1)] [])) t → Steps p.tables e below (s₁.setTop (entryFrame m #[.null, (.ref x1)] 2)) t := fun t k => castTop (ef_rm6_nr m (x1)) k
  obtain ⟨T1, h1, X1, e1, E1, A1, D1, -, st1⟩ := newO X0 hx hZ hown (kw30 hw) (kw8 hw) (kw9 hw) e0 (g := (mkF m 0 #[.val .null, .val (.ref x1)] [])) rfl (hb hby d6_0) (by decide) (by decide)
  obtain ⟨b1, g1⟩ : ∃ z, z = h0.size := ⟨_, rfl⟩
  rw [← g1] at A1 D1 st1
  have g_b1 : n0 ≤ b1 := Nat.le_trans Z0 (Nat.le_of_eq g1.symm)
  have sz_b1 : h0.size ≤ b1 := Nat.le_trans KR.1 (Nat.le_of_eq g1.symm)
  have Z1 : n0 ≤ h1.size := Nat.le_trans Z0 E1.1
  have K1 : Keep h0 h1 [] := KR.ext E1
  have F1_current : Fld Z h1 b1 "com/example/mergewright/mergewright/merge/Match" "current" "Ljava/lang/Object;" .null := D1 (Or.inr (kw17 hw)) (ty := (.object "java/lang/Object")) (by decide)
  have F1_base : Fld Z h1 b1 "com/example/mergewright/mergewright/merge/Match" "base" "Ljava/lang/Object;" .null := D1 (Or.inr (kw19 hw)) (ty := (.object "java/lang/Object")) (by decide)
  have F1_other : Fld Z h1 b1 "com/example/mergewright/mergewright/merge/Match" "other" "Ljava/lang/Object;" .null := D1 (Or.inr (kw21 hw)) (ty := (.object "java/lang/Object")) (by decide)
  obtain ⟨_, _, ⟨T2, L2, k2, n2⟩, -, X2, ⟨Lc2, hQ2, l2, y2, z2⟩, st2⟩ := X1.specialBack hx (y := (⟨"com/example/mergewright/mergewright/merge/Match", "<init>", "(Ljava/lang/Object;Ljava/lang/Object;Ljava/lang/Object;)V"⟩ : MethodName)) rfl hown (mvT hZ (kw31 hw)) (mvT hZ (kw11 hw)) (mvT hZ (kw12 hw)) (by decide) (backOf (W := 1) (rm2_nnr l Z a0 hw [] b1 x1 h1 n0 Z1 A1 g_b1 F1_current F1_base F1_other) hZ (kw12 hw) (kw9 hw) (by decide) (by decide)) (g := (mkF m 7 #[.val .null, .val (.ref x1)] [(.ref x1), .null, .null, (.ref b1), (.ref b1)])) rfl (by rw [hml]; rfl) (Steps.refl _) (a := b1) (argsL := [.null, .null, (.ref x1)]) (rest := [(.ref b1)]) (lenOf pd_2 rfl) rfl (by show 2 * 0 + _ ≤ _; exact Nat.le_of_eq rfl) (hb hby d6_7) (fun _ _ => ⟨rfl, e1, (by decide : 1 + 0 ≤ _), (by decide : 3 + 0 ≤ _)⟩)
  dsimp only [Pt.U, Pt.locs, Pt.cells, Pt.slots] at X2 l2 y2 z2 st2 hQ2
  subst l2 y2 z2
  obtain ⟨rfl, N2q, Kq2, p2_0⟩ := hQ2
  have N2 := Fr.app N0 N2q
  have Z2 : n0 ≤ T2.heap.size := Nat.le_trans Z1 Kq2.1
  have K2 : Keep h0 T2.heap [] := K1.trans Kq2 (allS (Or.inr sz_b1) all0)
  have f3 : Exa Z T2.heap b1 "com/example/mergewright/mergewright/merge/Match" := (A1.keep Kq2)
  obtain ⟨fs, hr, hrun, hended, hW, hsame⟩ := X2.leave (v := some (.ref b1)) (fun h => by rw [Bd.returns] at h; cases h)
  refine ⟨_, _, pre0 _ ?_, hrun, hended, _, _, rfl, ?_, ⟨_, rfl⟩, hW, hsame.mono (by decide) (by decide)⟩
  · skip
    show Steps p.tables e below (s₁.setTop (mkF m 0 #[.val .null, .val (.ref x1)] [])) _
    refine st1 _ ?_
    show Steps p.tables e below (T1.setTop (mkF m 3 #[.val .null, .val (.ref x1)] [(.ref b1)])) _
    refine XS.dup X1.here hx rfl (hb hby d6_3) rfl rfl ?_
    show Steps p.tables e below (T1.setTop (mkF m 4 #[.val .null, .val (.ref x1)] [(.ref b1), (.ref b1)])) _
    refine XS.aloadN X1.here hx rfl (hb hby d6_4) rfl rfl ?_
    show Steps p.tables e below (T1.setTop (mkF m 5 #[.val .null, .val (.ref x1)] [.null, (.ref b1), (.ref b1)])) _
    refine XS.aconstNull X1.here hx rfl (hb hby d6_5) ?_
    show Steps p.tables e below (T1.setTop (mkF m 6 #[.val .null, .val (.ref x1)] [.null, .null, (.ref b1), (.ref b1)])) _
    refine XS.aloadN X1.here hx rfl (hb hby d6_6) rfl rfl ?_
    show Steps p.tables e below (T1.setTop (mkF m 7 #[.val .null, .val (.ref x1)] [(.ref x1), .null, .null, (.ref b1), (.ref b1)])) _
    refine st2.trans ?_
    show Steps p.tables e below (T2.setTop (mkF m 10 #[.val .null, .val (.ref x1)] [(.ref b1)])) _
    jvm_step X2.here [X2.here.top, hx, (hb hby d6_10), X2.method', Bd.returns, Value.isRef, FieldType.isReference]
    first | (intro acts; rw [hr _ acts rfl rfl rfl]) | rw [hr _ _ rfl rfl rfl]
    exact Steps.refl _
  · show Q_rm6_nr Z x1 h0 n0 _ T2.heap _
    exact ⟨b1, rfl, N2, K2, g_b1, sz_b1, f3, p2_0⟩
theorem ef_rm6_rn (m : MethodId) (x0 : Addr) : entryFrame m #[(.ref x0), .null] 2 = mkF m 0 #[.val (.ref x0), .val .null] [] := by first | (simp [entryFrame, mkF, argsToLocals, Value.category]; done) | rfl
def Q_rm6_rn (Z : State) (x0 : Addr) (h0 : Heap) (n0 : Nat) (v : Option Value) (h : Heap) (L : List Loc) : Prop := ∃ bb : Addr, v = some (.ref bb) ∧ Fr n0 L ∧ Keep h0 h [] ∧ n0 ≤ bb ∧ h0.size ≤ bb ∧ Exa Z h bb "com/example/mergewright/mergewright/merge/Match" ∧ Fld Z h bb "com/example/mergewright/mergewright/merge/Match" "base" "Ljava/lang/Object;" .null
set_option maxRecDepth 65536 in
set_option maxHeartbeats 40000000 in
theorem rm6_rn (l : Launch) (Z : State) (a0 : Array Value) (hw : ∀ d ∈ own_tab, d.before a0 Z = true) (ws : List Jvm.Cond) (x0 : Addr) (h0 : Heap) (n0 : Nat) (Z0 : n0 ≤ h0.size)  :
    MetFree l (⟨"com/example/mergewright/mergewright/merge/Match", "insertedByBoth", "(Ljava/lang/Object;Ljava/lang/Object;)Lcom/example/mergewright/mergewright/merge/Match;"⟩ : MethodName) (head1 (Jvm.Cond.code (⟨"com/example/mergewright/mergewright/merge/Match", "insertedByBoth", "(Ljava/lang/Object;Ljava/lang/Object;)Lcom/example/mergewright/mergewright/merge/Match;"⟩ : MethodName) prog_31_method_3_code 2 (some (.object "com/example/mergewright/mergewright/merge/Match")) :: ws) ({ frames := 2, cells := 1, slots := 3, locals := 28 } : Room)) (fun a U => a = #[(.ref x0), .null] ∧ Z.Warmed39 U.vm ∧ U.heap = h0) (fun _ _ _ _ _ => True) (fun _ U o U' => ∃ v L, o = .returned v ∧ Q_rm6_rn Z x0 h0 n0 v U'.heap L ∧ FrameEnd U o U' L ({ frames := 2, cells := 1, slots := 3, locals := 28 } : Room).cells ({ frames := 2, cells := 1, slots := 3, locals := 28 } : Room).slots) := by
  refine MetFree.of_bodySF (plainFor_of_name pn_2) hisR ?_
  intro p e s m args below meth c s₁ Bd hml0 hP hK
  obtain ⟨rfl, hZ, hh⟩ := hP
  have hx := Bd.exec
  have hby := Bd.bytes
  have hml : c.maxLocals = 2 := hml0
  have hown : s.vm.findClass "com/example/mergewright/mergewright/merge/Match" = some m.cls := findClass_of_methodNamed Bd.named
  have hnm := (name_of_methodNamed Bd.named Bd.method).1
  have X0 : Stand p l e ({ frames := 2, cells := 1, slots := 3, locals := 28 } : Room) s m #[(.ref x0), .null] below meth c s₁ [] 0 0 := Stand.of_body Bd
  have e0 : s₁.heap = h0 := by rw [← hh, Bd.state]; rfl
  have N0 := Fr.nil n0
  have KR : Keep h0 h0 [] := Keep.refl h0 _
  have pre0 : ∀ t, Steps p.tables e below (s₁.setTop (mkF m 0 #[.val (.ref x0), .val .null] [])) t → Steps p.tables e below (s₁.setTop (entryFrame m #[(.ref x0), .null] 2)) t := fun t k => castTop (ef_rm6_rn m (x0)) k
  obtain ⟨T1, h1, X1, e1, E1, A1, D1, -, st1⟩ := newO X0 hx hZ hown (kw30 hw) (kw8 hw) (kw9 hw) e0 (g := (mkF m 0 #[.val (.ref x0), .val .null] [])) rfl (hb hby d6_0) (by decide) (by decide)
  obtain ⟨b1, g1⟩ : ∃ z, z = h0.size := ⟨_, rfl⟩
  rw [← g1] at A1 D1 st1
  have g_b1 : n0 ≤ b1 := Nat.le_trans Z0 (Nat.le_of_eq g1.symm)
  have sz_b1 : h0.size ≤ b1 := Nat.le_trans KR.1 (Nat.le_of_eq g1.symm)
  have Z1 : n0 ≤ h1.size := Nat.le_trans Z0 E1.1
  have K1 : Keep h0 h1 [] := KR.ext E1
  have F1_current : Fld Z h1 b1 "com/example/mergewright/mergewright/merge/Match" "current" "Ljava/lang/Object;" .null := D1 (Or.inr (kw17 hw)) (ty := (.object "java/lang/Object")) (by decide)
  have F1_base : Fld Z h1 b1 "com/example/mergewright/mergewright/merge/Match" "base" "Ljava/lang/Object;" .null := D1 (Or.inr (kw19 hw)) (ty := (.object "java/lang/Object")) (by decide)
  have F1_other : Fld Z h1 b1 "com/example/mergewright/mergewright/merge/Match" "other" "Ljava/lang/Object;" .null := D1 (Or.inr (kw21 hw)) (ty := (.object "java/lang/Object")) (by decide)
  obtain ⟨_, _, ⟨T2, L2, k2, n2⟩, -, X2, ⟨Lc2, hQ2, l2, y2, z2⟩, st2⟩ := X1.specialBack hx (y := (⟨"com/example/mergewright/mergewright/merge/Match", "<init>", "(Ljava/lang/Object;Ljava/lang/Object;Ljava/lang/Object;)V"⟩ : MethodName)) rfl hown (mvT hZ (kw31 hw)) (mvT hZ (kw11 hw)) (mvT hZ (kw12 hw)) (by decide) (backOf (W := 1) (rm2_rnn l Z a0 hw [] b1 x0 h1 n0 Z1 A1 g_b1 F1_current F1_base F1_other) hZ (kw12 hw) (kw9 hw) (by decide) (by decide)) (g := (mkF m 7 #[.val (.ref x0), .val .null] [.null, .null, (.ref x0), (.ref b1), (.ref b1)])) rfl (by rw [hml]; rfl) (Steps.refl _) (a := b1) (argsL := [(.ref x0), .null, .null]) (rest := [(.ref b1)]) (lenOf pd_2 rfl) rfl (by show 2 * 0 + _ ≤ _; exact Nat.le_of_eq rfl) (hb hby d6_7) (fun _ _ => ⟨rfl, e1, (by decide : 1 + 0 ≤ _), (by decide : 3 + 0 ≤ _)⟩)
  dsimp only [Pt.U, Pt.locs, Pt.cells, Pt.slots] at X2 l2 y2 z2 st2 hQ2
  subst l2 y2 z2
  obtain ⟨rfl, N2q, Kq2, p2_0⟩ := hQ2
  have N2 := Fr.app N0 N2q
  have Z2 : n0 ≤ T2.heap.size := Nat.le_trans Z1 Kq2.1
  have K2 : Keep h0 T2.heap [] := K1.trans Kq2 (allS (Or.inr sz_b1) all0)
  have f3 : Exa Z T2.heap b1 "com/example/mergewright/mergewright/merge/Match" := (A1.keep Kq2)
  obtain ⟨fs, hr, hrun, hended, hW, hsame⟩ := X2.leave (v := some (.ref b1)) (fun h => by rw [Bd.returns] at h; cases h)
  refine ⟨_, _, pre0 _ ?_, hrun, hended, _, _, rfl, ?_, ⟨_, rfl⟩, hW, hsame.mono (by decide) (by decide)⟩
  · skip
    show Steps p.tables e below (s₁.setTop (mkF m 0 #[.val (.ref x0), .val .null] [])) _
    refine st1 _ ?_
    show Steps p.tables e below (T1.setTop (mkF m 3 #[.val (.ref x0), .val .null] [(.ref b1)])) _
    refine XS.dup X1.here hx rfl (hb hby d6_3) rfl rfl ?_
    show Steps p.tables e below (T1.setTop (mkF m 4 #[.val (.ref x0), .val .null] [(.ref b1), (.ref b1)])) _
    refine XS.aloadN X1.here hx rfl (hb hby d6_4) rfl rfl ?_
    show Steps p.tables e below (T1.setTop (mkF m 5 #[.val (.ref x0), .val .null] [(.ref x0), (.ref b1), (.ref b1)])) _
    refine XS.aconstNull X1.here hx rfl (hb hby d6_5) ?_
    show Steps p.tables e below (T1.setTop (mkF m 6 #[.val (.ref x0), .val .null] [.null, (.ref x0), (.ref b1), (.ref b1)])) _
    refine XS.aloadN X1.here hx rfl (hb hby d6_6) rfl rfl ?_
    show Steps p.tables e below (T1.setTop (mkF m 7 #[.val (.ref x0), .val .null] [.null, .null, (.ref x0), (.ref b1), (.ref b1)])) _
    refine st2.trans ?_
    show Steps p.tables e below (T2.setTop (mkF m 10 #[.val (.ref x0), .val .null] [(.ref b1)])) _
    jvm_step X2.here [X2.here.top, hx, (hb hby d6_10), X2.method', Bd.returns, Value.isRef, FieldType.isReference]
    first | (intro acts; rw [hr _ acts rfl rfl rfl]) | rw [hr _ _ rfl rfl rfl]
    exact Steps.refl _
  · show Q_rm6_rn Z x0 h0 n0 _ T2.heap _
    exact ⟨b1, rfl, N2, K2, g_b1, sz_b1, f3, p2_0⟩
theorem ef_rm6_rr (m : MethodId) (x0 : Addr) (x1 : Addr) : entryFrame m #[(.ref x0), (.ref x1)] 2 = mkF m 0 #[.val (.ref x0), .val (.ref x1)] [] := by first | (simp [entryFrame, mkF, argsToLocals, Value.category]; done) | rfl
def Q_rm6_rr (Z : State) (x0 : Addr) (x1 : Addr) (h0 : Heap) (n0 : Nat) (v : Option Value) (h : Heap) (L : List Loc) : Prop := ∃ bb : Addr, v = some (.ref bb) ∧ Fr n0 L ∧ Keep h0 h [] ∧ n0 ≤ bb ∧ h0.size ≤ bb ∧ Exa Z h bb "com/example/mergewright/mergewright/merge/Match" ∧ Fld Z h bb "com/example/mergewright/mergewright/merge/Match" "base" "Ljava/lang/Object;" .null
set_option maxRecDepth 65536 in
set_option maxHeartbeats 40000000 in
theorem rm6_rr (l : Launch) (Z : State) (a0 : Array Value) (hw : ∀ d ∈ own_tab, d.before a0 Z = true) (ws : List Jvm.Cond) (x0 : Addr) (x1 : Addr) (h0 : Heap) (n0 : Nat) (Z0 : n0 ≤ h0.size)  :
    MetFree l (⟨"com/example/mergewright/mergewright/merge/Match", "insertedByBoth", "(Ljava/lang/Object;Ljava/lang/Object;)Lcom/example/mergewright/mergewright/merge/Match;"⟩ : MethodName) (head1 (Jvm.Cond.code (⟨"com/example/mergewright/mergewright/merge/Match", "insertedByBoth", "(Ljava/lang/Object;Ljava/lang/Object;)Lcom/example/mergewright/mergewright/merge/Match;"⟩ : MethodName) prog_31_method_3_code 2 (some (.object "com/example/mergewright/mergewright/merge/Match")) :: ws) ({ frames := 2, cells := 1, slots := 3, locals := 28 } : Room)) (fun a U => a = #[(.ref x0), (.ref x1)] ∧ Z.Warmed39 U.vm ∧ U.heap = h0) (fun _ _ _ _ _ => True) (fun _ U o U' => ∃ v L, o = .returned v ∧ Q_rm6_rr Z x0 x1 h0 n0 v U'.heap L ∧ FrameEnd U o U' L ({ frames := 2, cells := 1, slots := 3, locals := 28 } : Room).cells ({ frames := 2, cells := 1, slots := 3, locals := 28 } : Room).slots) := by
  refine MetFree.of_bodySF (plainFor_of_name pn_2) hisR ?_
  intro p e s m args below meth c s₁ Bd hml0 hP hK
  obtain ⟨rfl, hZ, hh⟩ := hP
  have hx := Bd.exec
  have hby := Bd.bytes
  have hml : c.maxLocals = 2 := hml0
  have hown : s.vm.findClass "com/example/mergewright/mergewright/merge/Match" = some m.cls := findClass_of_methodNamed Bd.named
  have hnm := (name_of_methodNamed Bd.named Bd.method).1
  have X0 : Stand p l e ({ frames := 2, cells := 1, slots := 3, locals := 28 } : Room) s m #[(.ref x0), (.ref x1)] below meth c s₁ [] 0 0 := Stand.of_body Bd
  have e0 : s₁.heap = h0 := by rw [← hh, Bd.state]; rfl
  have N0 := Fr.nil n0
  have KR : Keep h0 h0 [] := Keep.refl h0 _
  have pre0 : ∀ t, Steps p.tables e below (s₁.setTop (mkF m 0 #[.val (.ref x0), .val (.ref x1)] [])) t → Steps p.tables e below (s₁.setTop (entryFrame m #[(.ref x0), (.ref x1)] 2)) t := fun t k => castTop (ef_rm6_rr m (x0) (x1)) k
  obtain ⟨T1, h1, X1, e1, E1, A1, D1, -, st1⟩ := newO X0 hx hZ hown (kw30 hw) (kw8 hw) (kw9 hw) e0 (g := (mkF m 0 #[.val (.ref x0), .val (.ref x1)] [])) rfl (hb hby d6_0) (by decide) (by decide)
  obtain ⟨b1, g1⟩ : ∃ z, z = h0.size := ⟨_, rfl⟩
  rw [← g1] at A1 D1 st1
  have g_b1 : n0 ≤ b1 := Nat.le_trans Z0 (Nat.le_of_eq g1.symm)
  have sz_b1 : h0.size ≤ b1 := Nat.le_trans KR.1 (Nat.le_of_eq g1.symm)
  have Z1 : n0 ≤ h1.size := Nat.le_trans Z0 E1.1
  have K1 : Keep h0 h1 [] := KR.ext E1
  have F1_current : Fld Z h1 b1 "com/example/mergewright/mergewright/merge/Match" "current" "Ljava/lang/Object;" .null := D1 (Or.inr (kw17 hw)) (ty := (.object "java/lang/Object")) (by decide)
  have F1_base : Fld Z h1 b1 "com/example/mergewright/mergewright/merge/Match" "base" "Ljava/lang/Object;" .null := D1 (Or.inr (kw19 hw)) (ty := (.object "java/lang/Object")) (by decide)
  have F1_other : Fld Z h1 b1 "com/example/mergewright/mergewright/merge/Match" "other" "Ljava/lang/Object;" .null := D1 (Or.inr (kw21 hw)) (ty := (.object "java/lang/Object")) (by decide)
  obtain ⟨_, _, ⟨T2, L2, k2, n2⟩, -, X2, ⟨Lc2, hQ2, l2, y2, z2⟩, st2⟩ := X1.specialBack hx (y := (⟨"com/example/mergewright/mergewright/merge/Match", "<init>", "(Ljava/lang/Object;Ljava/lang/Object;Ljava/lang/Object;)V"⟩ : MethodName)) rfl hown (mvT hZ (kw31 hw)) (mvT hZ (kw11 hw)) (mvT hZ (kw12 hw)) (by decide) (backOf (W := 1) (rm2_rnr l Z a0 hw [] b1 x0 x1 h1 n0 Z1 A1 g_b1 F1_current F1_base F1_other) hZ (kw12 hw) (kw9 hw) (by decide) (by decide)) (g := (mkF m 7 #[.val (.ref x0), .val (.ref x1)] [(.ref x1), .null, (.ref x0), (.ref b1), (.ref b1)])) rfl (by rw [hml]; rfl) (Steps.refl _) (a := b1) (argsL := [(.ref x0), .null, (.ref x1)]) (rest := [(.ref b1)]) (lenOf pd_2 rfl) rfl (by show 2 * 0 + _ ≤ _; exact Nat.le_of_eq rfl) (hb hby d6_7) (fun _ _ => ⟨rfl, e1, (by decide : 1 + 0 ≤ _), (by decide : 3 + 0 ≤ _)⟩)
  dsimp only [Pt.U, Pt.locs, Pt.cells, Pt.slots] at X2 l2 y2 z2 st2 hQ2
  subst l2 y2 z2
  obtain ⟨rfl, N2q, Kq2, p2_0⟩ := hQ2
  have N2 := Fr.app N0 N2q
  have Z2 : n0 ≤ T2.heap.size := Nat.le_trans Z1 Kq2.1
  have K2 : Keep h0 T2.heap [] := K1.trans Kq2 (allS (Or.inr sz_b1) all0)
  have f3 : Exa Z T2.heap b1 "com/example/mergewright/mergewright/merge/Match" := (A1.keep Kq2)
  obtain ⟨fs, hr, hrun, hended, hW, hsame⟩ := X2.leave (v := some (.ref b1)) (fun h => by rw [Bd.returns] at h; cases h)
  refine ⟨_, _, pre0 _ ?_, hrun, hended, _, _, rfl, ?_, ⟨_, rfl⟩, hW, hsame.mono (by decide) (by decide)⟩
  · skip
    show Steps p.tables e below (s₁.setTop (mkF m 0 #[.val (.ref x0), .val (.ref x1)] [])) _
    refine st1 _ ?_
    show Steps p.tables e below (T1.setTop (mkF m 3 #[.val (.ref x0), .val (.ref x1)] [(.ref b1)])) _
    refine XS.dup X1.here hx rfl (hb hby d6_3) rfl rfl ?_
    show Steps p.tables e below (T1.setTop (mkF m 4 #[.val (.ref x0), .val (.ref x1)] [(.ref b1), (.ref b1)])) _
    refine XS.aloadN X1.here hx rfl (hb hby d6_4) rfl rfl ?_
    show Steps p.tables e below (T1.setTop (mkF m 5 #[.val (.ref x0), .val (.ref x1)] [(.ref x0), (.ref b1), (.ref b1)])) _
    refine XS.aconstNull X1.here hx rfl (hb hby d6_5) ?_
    show Steps p.tables e below (T1.setTop (mkF m 6 #[.val (.ref x0), .val (.ref x1)] [.null, (.ref x0), (.ref b1), (.ref b1)])) _
    refine XS.aloadN X1.here hx rfl (hb hby d6_6) rfl rfl ?_
    show Steps p.tables e below (T1.setTop (mkF m 7 #[.val (.ref x0), .val (.ref x1)] [(.ref x1), .null, (.ref x0), (.ref b1), (.ref b1)])) _
    refine st2.trans ?_
    show Steps p.tables e below (T2.setTop (mkF m 10 #[.val (.ref x0), .val (.ref x1)] [(.ref b1)])) _
    jvm_step X2.here [X2.here.top, hx, (hb hby d6_10), X2.method', Bd.returns, Value.isRef, FieldType.isReference]
    first | (intro acts; rw [hr _ acts rfl rfl rfl]) | rw [hr _ _ rfl rfl rfl]
    exact Steps.refl _
  · show Q_rm6_rr Z x0 x1 h0 n0 _ T2.heap _
    exact ⟨b1, rfl, N2, K2, g_b1, sz_b1, f3, p2_0⟩
theorem ef_rm0 (m : MethodId) (x0 : Int32) (x1 : Int32) (x2 : Int32) (x3 : Int32) : entryFrame m #[(.int x0), (.int x1), (.int x2), (.int x3)] maxLocals = mkF m 0 #[.val (.int x0), .val (.int x1), .val (.int x2), .val (.int x3), .unset, .unset, .unset, .unset, .unset, .unset, .unset, .unset, .unset, .unset, .unset, .unset] [] := by first | (simp [entryFrame, mkF, argsToLocals, Value.category, maxLocals]; done) | rfl
def Q_rm0 (Z : State) (p1 : Int32) (p2 : Int32) (p3 : Int32) (p4 : Int32) (w_cache : Addr) (h0 : Heap) (n0 : Nat) (v : Option Value) (h : Heap) (L : List Loc) : Prop := v = some (.int (1 : Int32)) ∧ Fr n0 L ∧ Keep h0 h []
set_option maxRecDepth 65536 in
set_option maxHeartbeats 40000000 in
theorem rm0 (l : Launch) (Z : State) (a0 : Array Value) (hw : ∀ d ∈ own_tab, d.before a0 Z = true) (ws : List Jvm.Cond) (p1 : Int32) (p2 : Int32) (p3 : Int32) (p4 : Int32) (w_cache : Addr) (h0 : Heap) (n0 : Nat) (Z0 : n0 ≤ h0.size) (P0 : Old Z n0 h0) (P1 : Sta Z Z.heap "java/lang/Integer$IntegerCache" "high" "I" (.int (127 : Int32))) (P2 : Sta Z Z.heap "java/lang/Integer$IntegerCache" "cache" "[Ljava/lang/Integer;" (.ref w_cache)) (HC : own_cacheP Z w_cache) :
    MetFree l x (head1 (Jvm.Cond.code x code maxLocals ret :: ws) room_1) (fun a U => a = #[(.int p1), (.int p2), (.int p3), (.int p4)] ∧ Z.Warmed39 U.vm ∧ U.heap = h0) (fun _ _ _ _ _ => True) (fun _ U o U' => ∃ v L, o = .returned v ∧ Q_rm0 Z p1 p2 p3 p4 w_cache h0 n0 v U'.heap L ∧ FrameEnd U o U' L room_1.cells room_1.slots) := by
  refine MetFree.of_bodySF (plainFor_of_name pn_3) hisR ?_
  intro p e s m args below meth c s₁ Bd hml0 hP hK
  obtain ⟨rfl, hZ, hh⟩ := hP
  have hx := Bd.exec
  have hby := Bd.bytes
  have hml : c.maxLocals = 16 := hml0
  have hown : s.vm.findClass "com/example/mergewright/mergewright/merge/MatchIsInsertedByBothPinLaw" = some m.cls := findClass_of_methodNamed Bd.named
  have hnm := (name_of_methodNamed Bd.named Bd.method).1
  have X0 : Stand p l e room_1 s m #[(.int p1), (.int p2), (.int p3), (.int p4)] below meth c s₁ [] 0 0 := Stand.of_body Bd
  have e0 : s₁.heap = h0 := by rw [← hh, Bd.state]; rfl
  have N0 := Fr.nil n0
  have KR : Keep h0 h0 [] := Keep.refl h0 _
  have pre0 : ∀ t, Steps p.tables e below (s₁.setTop (mkF m 0 #[.val (.int p1), .val (.int p2), .val (.int p3), .val (.int p4), .unset, .unset, .unset, .unset, .unset, .unset, .unset, .unset, .unset, .unset, .unset, .unset] [])) t → Steps p.tables e below (s₁.setTop (entryFrame m #[(.int p1), (.int p2), (.int p3), (.int p4)] maxLocals)) t := fun t k => castTop (ef_rm0 m (p1) (p2) (p3) (p4)) k
  have pre1 : ∀ t, Steps p.tables e below (s₁.setTop (mkF m 3 #[.val (.int p1), .val (.int p2), .val (.int p3), .val (.int p4), .unset, .unset, .unset, .unset, .unset, .unset, .unset, .unset, .unset, .unset, .unset, .unset] [(.int (p4 &&& (1 : Int32)))])) t → Steps p.tables e below (s₁.setTop (entryFrame m #[(.int p1), (.int p2), (.int p3), (.int p4)] maxLocals)) t := fun t k => pre0 t (by
    show Steps p.tables e below (s₁.setTop (mkF m 0 #[.val (.int p1), .val (.int p2), .val (.int p3), .val (.int p4), .unset, .unset, .unset, .unset, .unset, .unset, .unset, .unset, .unset, .unset, .unset, .unset] [])) _
    refine XS.iloadN X0.here hx rfl (hb hby at_0) rfl ?_
    show Steps p.tables e below (s₁.setTop (mkF m 1 #[.val (.int p1), .val (.int p2), .val (.int p3), .val (.int p4), .unset, .unset, .unset, .unset, .unset, .unset, .unset, .unset, .unset, .unset, .unset, .unset] [(.int p4)])) _
    refine XS.iconst X0.here hx rfl (hb hby at_1) ?_
    show Steps p.tables e below (s₁.setTop (mkF m 2 #[.val (.int p1), .val (.int p2), .val (.int p3), .val (.int p4), .unset, .unset, .unset, .unset, .unset, .unset, .unset, .unset, .unset, .unset, .unset, .unset] [(.int (1 : Int32)), (.int p4)])) _
    refine XS.iand X0.here hx rfl (hb hby at_2) rfl ?_
    show Steps p.tables e below (s₁.setTop (mkF m 3 #[.val (.int p1), .val (.int p2), .val (.int p3), .val (.int p4), .unset, .unset, .unset, .unset, .unset, .unset, .unset, .unset, .unset, .unset, .unset, .unset] [(.int (p4 &&& (1 : Int32)))])) _
    exact k)
  by_cases hc2 : (p4 &&& (1 : Int32)) = (0 : Int32)
  · skip
    have pre3 : ∀ t, Steps p.tables e below (s₁.setTop (mkF m 16 #[.val (.int p1), .val (.int p2), .val (.int p3), .val (.int p4), .val (.int (0 : Int32)), .unset, .unset, .unset, .unset, .unset, .unset, .unset, .unset, .unset, .unset, .unset] [(.int (p4 &&& (2 : Int32)))])) t → Steps p.tables e below (s₁.setTop (entryFrame m #[(.int p1), (.int p2), (.int p3), (.int p4)] maxLocals)) t := fun t k => pre1 t (by
      refine XS.ifYes X0.here hx rfl (pc0 := 3) (pc' := 10) rfl (hb hby at_3) rfl ((if0 _ _).trans (teq hc2).1) (by decide) (by decide) ?_
      show Steps p.tables e below (s₁.setTop (mkF m 10 #[.val (.int p1), .val (.int p2), .val (.int p3), .val (.int p4), .unset, .unset, .unset, .unset, .unset, .unset, .unset, .unset, .unset, .unset, .unset, .unset] [])) _
      refine XS.iconst X0.here hx rfl (hb hby at_10) ?_
      show Steps p.tables e below (s₁.setTop (mkF m 11 #[.val (.int p1), .val (.int p2), .val (.int p3), .val (.int p4), .unset, .unset, .unset, .unset, .unset, .unset, .unset, .unset, .unset, .unset, .unset, .unset] [(.int (0 : Int32))])) _
      refine XS.istore X0.here hx rfl (hb hby at_11) rfl (l' := #[.val (.int p1), .val (.int p2), .val (.int p3), .val (.int p4), .val (.int (0 : Int32)), .unset, .unset, .unset, .unset, .unset, .unset, .unset, .unset, .unset, .unset, .unset]) rfl ?_
      show Steps p.tables e below (s₁.setTop (mkF m 13 #[.val (.int p1), .val (.int p2), .val (.int p3), .val (.int p4), .val (.int (0 : Int32)), .unset, .unset, .unset, .unset, .unset, .unset, .unset, .unset, .unset, .unset, .unset] [])) _
      refine XS.iloadN X0.here hx rfl (hb hby at_13) rfl ?_
      show Steps p.tables e below (s₁.setTop (mkF m 14 #[.val (.int p1), .val (.int p2), .val (.int p3), .val (.int p4), .val (.int (0 : Int32)), .unset, .unset, .unset, .unset, .unset, .unset, .unset, .unset, .unset, .unset, .unset] [(.int p4)])) _
      refine XS.iconst X0.here hx rfl (hb hby at_14) ?_
      show Steps p.tables e below (s₁.setTop (mkF m 15 #[.val (.int p1), .val (.int p2), .val (.int p3), .val (.int p4), .val (.int (0 : Int32)), .unset, .unset, .unset, .unset, .unset, .unset, .unset, .unset, .unset, .unset, .unset] [(.int (2 : Int32)), (.int p4)])) _
      refine XS.iand X0.here hx rfl (hb hby at_15) rfl ?_
      show Steps p.tables e below (s₁.setTop (mkF m 16 #[.val (.int p1), .val (.int p2), .val (.int p3), .val (.int p4), .val (.int (0 : Int32)), .unset, .unset, .unset, .unset, .unset, .unset, .unset, .unset, .unset, .unset, .unset] [(.int (p4 &&& (2 : Int32)))])) _
      exact k)
    by_cases hc4 : (p4 &&& (2 : Int32)) = (0 : Int32)
    · skip
      have pre5 : ∀ t, Steps p.tables e below (s₁.setTop (mkF m 29 #[.val (.int p1), .val (.int p2), .val (.int p3), .val (.int p4), .val (.int (0 : Int32)), .val (.int (0 : Int32)), .unset, .unset, .unset, .unset, .unset, .unset, .unset, .unset, .unset, .unset] [(.int (p4 &&& (4 : Int32)))])) t → Steps p.tables e below (s₁.setTop (entryFrame m #[(.int p1), (.int p2), (.int p3), (.int p4)] maxLocals)) t := fun t k => pre3 t (by
        refine XS.ifYes X0.here hx rfl (pc0 := 16) (pc' := 23) rfl (hb hby at_16) rfl ((if0 _ _).trans (teq hc4).1) (by decide) (by decide) ?_
        show Steps p.tables e below (s₁.setTop (mkF m 23 #[.val (.int p1), .val (.int p2), .val (.int p3), .val (.int p4), .val (.int (0 : Int32)), .unset, .unset, .unset, .unset, .unset, .unset, .unset, .unset, .unset, .unset, .unset] [])) _
        refine XS.iconst X0.here hx rfl (hb hby at_23) ?_
        show Steps p.tables e below (s₁.setTop (mkF m 24 #[.val (.int p1), .val (.int p2), .val (.int p3), .val (.int p4), .val (.int (0 : Int32)), .unset, .unset, .unset, .unset, .unset, .unset, .unset, .unset, .unset, .unset, .unset] [(.int (0 : Int32))])) _
        refine XS.istore X0.here hx rfl (hb hby at_24) rfl (l' := #[.val (.int p1), .val (.int p2), .val (.int p3), .val (.int p4), .val (.int (0 : Int32)), .val (.int (0 : Int32)), .unset, .unset, .unset, .unset, .unset, .unset, .unset, .unset, .unset, .unset]) rfl ?_
        show Steps p.tables e below (s₁.setTop (mkF m 26 #[.val (.int p1), .val (.int p2), .val (.int p3), .val (.int p4), .val (.int (0 : Int32)), .val (.int (0 : Int32)), .unset, .unset, .unset, .unset, .unset, .unset, .unset, .unset, .unset, .unset] [])) _
        refine XS.iloadN X0.here hx rfl (hb hby at_26) rfl ?_
        show Steps p.tables e below (s₁.setTop (mkF m 27 #[.val (.int p1), .val (.int p2), .val (.int p3), .val (.int p4), .val (.int (0 : Int32)), .val (.int (0 : Int32)), .unset, .unset, .unset, .unset, .unset, .unset, .unset, .unset, .unset, .unset] [(.int p4)])) _
        refine XS.iconst X0.here hx rfl (hb hby at_27) ?_
        show Steps p.tables e below (s₁.setTop (mkF m 28 #[.val (.int p1), .val (.int p2), .val (.int p3), .val (.int p4), .val (.int (0 : Int32)), .val (.int (0 : Int32)), .unset, .unset, .unset, .unset, .unset, .unset, .unset, .unset, .unset, .unset] [(.int (4 : Int32)), (.int p4)])) _
        refine XS.iand X0.here hx rfl (hb hby at_28) rfl ?_
        show Steps p.tables e below (s₁.setTop (mkF m 29 #[.val (.int p1), .val (.int p2), .val (.int p3), .val (.int p4), .val (.int (0 : Int32)), .val (.int (0 : Int32)), .unset, .unset, .unset, .unset, .unset, .unset, .unset, .unset, .unset, .unset] [(.int (p4 &&& (4 : Int32)))])) _
        exact k)
      by_cases hc6 : (p4 &&& (4 : Int32)) = (0 : Int32)
      · skip
        obtain ⟨T7, h7, X7, e7, E7, A7, D7, -, st7⟩ := newO X0 hx hZ hown (kw7 hw) (kw8 hw) (kw9 hw) e0 (g := (mkF m 84 #[.val (.int p1), .val (.int p2), .val (.int p3), .val (.int p4), .val (.int (0 : Int32)), .val (.int (0 : Int32)), .val (.int (0 : Int32)), .val .null, .val .null, .val .null, .unset, .unset, .unset, .unset, .unset, .unset] [])) rfl (hb hby at_84) (by decide) (by decide)
        obtain ⟨b7, g7⟩ : ∃ z, z = h0.size := ⟨_, rfl⟩
        rw [← g7] at A7 D7 st7
        have g_b7 : n0 ≤ b7 := Nat.le_trans Z0 (Nat.le_of_eq g7.symm)
        have sz_b7 : h0.size ≤ b7 := Nat.le_trans KR.1 (Nat.le_of_eq g7.symm)
        have Z7 : n0 ≤ h7.size := Nat.le_trans Z0 E7.1
        have K7 : Keep h0 h7 [] := KR.ext E7
        have F7_current : Fld Z h7 b7 "com/example/mergewright/mergewright/merge/Match" "current" "Ljava/lang/Object;" .null := D7 (Or.inr (kw17 hw)) (ty := (.object "java/lang/Object")) (by decide)
        have F7_base : Fld Z h7 b7 "com/example/mergewright/mergewright/merge/Match" "base" "Ljava/lang/Object;" .null := D7 (Or.inr (kw19 hw)) (ty := (.object "java/lang/Object")) (by decide)
        have F7_other : Fld Z h7 b7 "com/example/mergewright/mergewright/merge/Match" "other" "Ljava/lang/Object;" .null := D7 (Or.inr (kw21 hw)) (ty := (.object "java/lang/Object")) (by decide)
        obtain ⟨_, _, ⟨T8, L8, k8, n8⟩, -, X8, ⟨Lc8, hQ8, l8, y8, z8⟩, st8⟩ := X7.specialBack hx (y := (⟨"com/example/mergewright/mergewright/merge/Match", "<init>", "(Ljava/lang/Object;Ljava/lang/Object;Ljava/lang/Object;)V"⟩ : MethodName)) rfl hown (mvT hZ (kw10 hw)) (mvT hZ (kw11 hw)) (mvT hZ (kw12 hw)) (by decide) (backOf (W := 1) (rm2_nnn l Z a0 hw [] b7 h7 n0 Z7 A7 g_b7 F7_current F7_base F7_other) hZ (kw12 hw) (kw9 hw) (by decide) (by decide)) (g := (mkF m 94 #[.val (.int p1), .val (.int p2), .val (.int p3), .val (.int p4), .val (.int (0 : Int32)), .val (.int (0 : Int32)), .val (.int (0 : Int32)), .val .null, .val .null, .val .null, .unset, .unset, .unset, .unset, .unset, .unset] [.null, .null, .null, (.ref b7), (.ref b7)])) rfl (by rw [hml]; rfl) (Steps.refl _) (a := b7) (argsL := [.null, .null, .null]) (rest := [(.ref b7)]) (lenOf pd_2 rfl) rfl (by show 2 * 0 + _ ≤ _; exact Nat.le_of_eq rfl) (hb hby at_94) (fun _ _ => ⟨rfl, e7, (by decide : 1 + 0 ≤ _), (by decide : 3 + 0 ≤ _)⟩)
        dsimp only [Pt.U, Pt.locs, Pt.cells, Pt.slots] at X8 l8 y8 z8 st8 hQ8
        subst l8 y8 z8
        obtain ⟨rfl, N8q, Kq8, p8_0⟩ := hQ8
        have N8 := Fr.app N0 N8q
        have Z8 : n0 ≤ T8.heap.size := Nat.le_trans Z7 Kq8.1
        have K8 : Keep h0 T8.heap [] := K7.trans Kq8 (allS (Or.inr sz_b7) all0)
        have f10 : Exa Z T8.heap b7 "com/example/mergewright/mergewright/merge/Match" := (A7.keep Kq8)
        obtain ⟨cq9, kq9, q9a, q9b, q9c⟩ := isOf hZ rfl f10
        obtain ⟨_, _, ⟨T9, L9, k9, n9⟩, -, X9, ⟨Lc9, hQ9, l9, y9, z9⟩, st9⟩ := X8.virtualBack hx (y := (⟨"com/example/mergewright/mergewright/merge/Match", "isInsertedByBoth", "()Z"⟩ : MethodName)) (z := (⟨"com/example/mergewright/mergewright/merge/Match", "isInsertedByBoth", "()Z"⟩ : MethodName)) hown (mvT hZ (kw22 hw)) (mvT hZ (kw23 hw)) (notFace_of_selects (args := #[]) (mvT hZ (kw25 hw))) (mvT hZ (kw25 hw)) (mvT hZ (kw24 hw)) (by decide) (backOf (W := 0) (rm4_n l Z a0 hw [] b7 T8.heap n0 Z8 p8_0) hZ (kw26 hw) (kw9 hw) (by decide) (by decide)) q9a q9c (g := (mkF m 101 #[.val (.int p1), .val (.int p2), .val (.int p3), .val (.int p4), .val (.int (0 : Int32)), .val (.int (0 : Int32)), .val (.int (0 : Int32)), .val .null, .val .null, .val .null, .val (.ref b7), .unset, .unset, .unset, .unset, .unset] [(.ref b7)])) rfl (by rw [hml]; rfl) (Steps.refl _) (argsL := []) (rest := []) (lenOf pd_3 rfl) rfl (by show 2 * 0 + _ ≤ _; exact Nat.le_of_eq rfl) (hb hby at_101) (fun _ _ => ⟨rfl, rfl, (by decide : 1 + 0 ≤ _), (by decide : 3 + 0 ≤ _)⟩)
        dsimp only [Pt.U, Pt.locs, Pt.cells, Pt.slots] at X9 l9 y9 z9 st9 hQ9
        subst l9 y9 z9
        obtain ⟨rfl, N9q, e9⟩ := hQ9
        have N9 := Fr.app N8 N9q
        have f12 : Old Z n0 T8.heap := ((P0.ext E7).keep Kq8 (allS g_b7 all0))
        obtain ⟨_, _, ⟨T11, L11, k11, n11⟩, -, X11, ⟨Lc11, hQ11, l11, y11, z11⟩, st11⟩ := Jvm.LawKit.callS X9 hx (y := (⟨"java/lang/Integer", "valueOf", "(I)Ljava/lang/Integer;"⟩ : MethodName)) hown (mvT hZ (kw0 hw)) (mvT hZ (kw1 hw)) (mvT hZ (kw2 hw)) (mvT hZ (kw3 hw)) (by decide) (backOf (W := 0) (rm1 l Z a0 hw [] p1 w_cache T8.heap n0 Z8 f12 P1 P2 HC) hZ (kw3 hw) (kw2 hw) (by decide) (by decide)) (g := (mkF m 125 #[.val (.int p1), .val (.int p2), .val (.int p3), .val (.int p4), .val (.int (0 : Int32)), .val (.int (0 : Int32)), .val (.int (0 : Int32)), .val .null, .val .null, .val .null, .val (.ref b7), .val (.int (1 : Int32)), .unset, .unset, .unset, .unset] [(.int p1)])) rfl (by rw [hml]; rfl) (argsL := [(.int p1)]) (rest := []) (lenOf pd_4 rfl) rfl (by show 2 * 0 + _ ≤ _; exact Nat.le_of_eq rfl) (hb hby at_125) (fun _ _ => ⟨rfl, e9, (by decide : 1 + 1 ≤ _), (by decide : 3 + 1 ≤ _)⟩)
        dsimp only [Pt.U, Pt.locs, Pt.cells, Pt.slots] at X11 l11 y11 z11 st11 hQ11
        subst l11 y11 z11
        obtain ⟨bb_11, rfl, N11q, Kq11⟩ := hQ11
        have N11 := Fr.app N9 N11q
        have Z11 : n0 ≤ T11.heap.size := Nat.le_trans Z8 Kq11.1
        have K11 : Keep h0 T11.heap [] := K8.trans Kq11 all0
        have f14 : Exa Z T11.heap b7 "com/example/mergewright/mergewright/merge/Match" := (f10.keep Kq11)
        obtain ⟨_, _, ⟨T13, L13, k13, n13⟩, -, X13, ⟨Lc13, hQ13, l13, y13, z13⟩, st13⟩ := Jvm.LawKit.callS X11 hx (y := (⟨"com/example/mergewright/mergewright/merge/Match", "inserted", "(Ljava/lang/Object;)Lcom/example/mergewright/mergewright/merge/Match;"⟩ : MethodName)) hown (mvT hZ (kw27 hw)) (mvT hZ (kw28 hw)) (mvT hZ (kw9 hw)) (mvT hZ (kw29 hw)) (by decide) (backOf (W := 0) (rm5 l Z a0 hw [] bb_11 T11.heap n0 Z11 ) hZ (kw29 hw) (kw9 hw) (by decide) (by decide)) (g := (mkF m 128 #[.val (.int p1), .val (.int p2), .val (.int p3), .val (.int p4), .val (.int (0 : Int32)), .val (.int (0 : Int32)), .val (.int (0 : Int32)), .val .null, .val .null, .val .null, .val (.ref b7), .val (.int (1 : Int32)), .unset, .unset, .unset, .unset] [(.ref bb_11)])) rfl (by rw [hml]; rfl) (argsL := [(.ref bb_11)]) (rest := []) (lenOf pd_5 rfl) rfl (by show 2 * 0 + _ ≤ _; exact Nat.le_of_eq rfl) (hb hby at_128) (fun _ _ => ⟨rfl, rfl, (by decide : 2 + 1 ≤ _), (by decide : 4 + 3 ≤ _)⟩)
        dsimp only [Pt.U, Pt.locs, Pt.cells, Pt.slots] at X13 l13 y13 z13 st13 hQ13
        subst l13 y13 z13
        obtain ⟨bb_13, rfl, N13q, Kq13, p13_0, p13_1, p13_2, p13_3⟩ := hQ13
        have N13 := Fr.app N11 N13q
        have Z13 : n0 ≤ T13.heap.size := Nat.le_trans Z11 Kq13.1
        have K13 : Keep h0 T13.heap [] := K11.trans Kq13 all0
        have sz_bb_13 : h0.size ≤ bb_13 := Nat.le_trans K11.1 p13_1
        have ne13_b7_bb_13 : b7 ≠ bb_13 := Nat.ne_of_lt (Nat.lt_of_lt_of_le f14.lt p13_1)
        obtain ⟨cq15, kq15, q15a, q15b, q15c⟩ := isOf hZ rfl p13_2
        obtain ⟨_, _, ⟨T15, L15, k15, n15⟩, -, X15, ⟨Lc15, hQ15, l15, y15, z15⟩, st15⟩ := X13.virtualBack hx (y := (⟨"com/example/mergewright/mergewright/merge/Match", "isInsertedByBoth", "()Z"⟩ : MethodName)) (z := (⟨"com/example/mergewright/mergewright/merge/Match", "isInsertedByBoth", "()Z"⟩ : MethodName)) hown (mvT hZ (kw22 hw)) (mvT hZ (kw23 hw)) (notFace_of_selects (args := #[]) (mvT hZ (kw25 hw))) (mvT hZ (kw25 hw)) (mvT hZ (kw24 hw)) (by decide) (backOf (W := 0) (rm4_r l Z a0 hw [] bb_13 bb_11 T13.heap n0 Z13 p13_3) hZ (kw26 hw) (kw9 hw) (by decide) (by decide)) q15a q15c (g := (mkF m 135 #[.val (.int p1), .val (.int p2), .val (.int p3), .val (.int p4), .val (.int (0 : Int32)), .val (.int (0 : Int32)), .val (.int (0 : Int32)), .val .null, .val .null, .val .null, .val (.ref b7), .val (.int (1 : Int32)), .val (.ref bb_13), .unset, .unset, .unset] [(.ref bb_13)])) rfl (by rw [hml]; rfl) (Steps.refl _) (argsL := []) (rest := []) (lenOf pd_3 rfl) rfl (by show 2 * 0 + _ ≤ _; exact Nat.le_of_eq rfl) (hb hby at_135) (fun _ _ => ⟨rfl, rfl, (by decide : 3 + 0 ≤ _), (by decide : 7 + 0 ≤ _)⟩)
        dsimp only [Pt.U, Pt.locs, Pt.cells, Pt.slots] at X15 l15 y15 z15 st15 hQ15
        subst l15 y15 z15
        obtain ⟨rfl, N15q, e15⟩ := hQ15
        have N15 := Fr.app N13 N15q
        have f17 : Exa Z T13.heap b7 "com/example/mergewright/mergewright/merge/Match" := (f14.keep Kq13)
        obtain ⟨_, _, ⟨T16, L16, k16, n16⟩, -, X16, ⟨Lc16, hQ16, l16, y16, z16⟩, st16⟩ := Jvm.LawKit.callS X15 hx (y := (⟨"com/example/mergewright/mergewright/merge/Match", "insertedByBoth", "(Ljava/lang/Object;Ljava/lang/Object;)Lcom/example/mergewright/mergewright/merge/Match;"⟩ : MethodName)) hown (mvT hZ (kw32 hw)) (mvT hZ (kw33 hw)) (mvT hZ (kw9 hw)) (mvT hZ (kw34 hw)) (by decide) (backOf (W := 0) (rm6_nn l Z a0 hw []  T13.heap n0 Z13 ) hZ (kw34 hw) (kw9 hw) (by decide) (by decide)) (g := (mkF m 152 #[.val (.int p1), .val (.int p2), .val (.int p3), .val (.int p4), .val (.int (0 : Int32)), .val (.int (0 : Int32)), .val (.int (0 : Int32)), .val .null, .val .null, .val .null, .val (.ref b7), .val (.int (1 : Int32)), .val (.ref bb_13), .val (.int (1 : Int32)), .unset, .unset] [.null, .null])) rfl (by rw [hml]; rfl) (argsL := [.null, .null]) (rest := []) (lenOf pd_6 rfl) rfl (by show 2 * 0 + _ ≤ _; exact Nat.le_of_eq rfl) (hb hby at_152) (fun _ _ => ⟨rfl, e15, (by decide : 3 + 1 ≤ _), (by decide : 7 + 3 ≤ _)⟩)
        dsimp only [Pt.U, Pt.locs, Pt.cells, Pt.slots] at X16 l16 y16 z16 st16 hQ16
        subst l16 y16 z16
        obtain ⟨bb_16, rfl, N16q, Kq16, p16_0, p16_1, p16_2, p16_3⟩ := hQ16
        have N16 := Fr.app N15 N16q
        have Z16 : n0 ≤ T16.heap.size := Nat.le_trans Z13 Kq16.1
        have K16 : Keep h0 T16.heap [] := K13.trans Kq16 all0
        have sz_bb_16 : h0.size ≤ bb_16 := Nat.le_trans K13.1 p16_1
        have ne16_b7_bb_16 : b7 ≠ bb_16 := Nat.ne_of_lt (Nat.lt_of_lt_of_le f17.lt p16_1)
        have ne16_bb_13_bb_16 : bb_13 ≠ bb_16 := Nat.ne_of_lt (Nat.lt_of_lt_of_le p13_2.lt p16_1)
        obtain ⟨cq18, kq18, q18a, q18b, q18c⟩ := isOf hZ rfl p16_2
        obtain ⟨_, _, ⟨T18, L18, k18, n18⟩, -, X18, ⟨Lc18, hQ18, l18, y18, z18⟩, st18⟩ := X16.virtualBack hx (y := (⟨"com/example/mergewright/mergewright/merge/Match", "isInsertedByBoth", "()Z"⟩ : MethodName)) (z := (⟨"com/example/mergewright/mergewright/merge/Match", "isInsertedByBoth", "()Z"⟩ : MethodName)) hown (mvT hZ (kw22 hw)) (mvT hZ (kw23 hw)) (notFace_of_selects (args := #[]) (mvT hZ (kw25 hw))) (mvT hZ (kw25 hw)) (mvT hZ (kw24 hw)) (by decide) (backOf (W := 0) (rm4_n l Z a0 hw [] bb_16 T16.heap n0 Z16 p16_3) hZ (kw26 hw) (kw9 hw) (by decide) (by decide)) q18a q18c (g := (mkF m 159 #[.val (.int p1), .val (.int p2), .val (.int p3), .val (.int p4), .val (.int (0 : Int32)), .val (.int (0 : Int32)), .val (.int (0 : Int32)), .val .null, .val .null, .val .null, .val (.ref b7), .val (.int (1 : Int32)), .val (.ref bb_13), .val (.int (1 : Int32)), .val (.ref bb_16), .unset] [(.ref bb_16)])) rfl (by rw [hml]; rfl) (Steps.refl _) (argsL := []) (rest := []) (lenOf pd_3 rfl) rfl (by show 2 * 0 + _ ≤ _; exact Nat.le_of_eq rfl) (hb hby at_159) (fun _ _ => ⟨rfl, rfl, (by decide : 4 + 0 ≤ _), (by decide : 10 + 0 ≤ _)⟩)
        dsimp only [Pt.U, Pt.locs, Pt.cells, Pt.slots] at X18 l18 y18 z18 st18 hQ18
        subst l18 y18 z18
        obtain ⟨rfl, N18q, e18⟩ := hQ18
        have N18 := Fr.app N16 N18q
        obtain ⟨fs, hr, hrun, hended, hW, hsame⟩ := X18.leave (v := some (.int (1 : Int32))) (fun h => by rw [Bd.returns] at h; cases h)
        refine ⟨_, _, pre5 _ ?_, hrun, hended, _, _, rfl, ?_, ⟨_, rfl⟩, hW, hsame.mono (by decide) (by decide)⟩
        · skip
          refine XS.ifYes X0.here hx rfl (pc0 := 29) (pc' := 36) rfl (hb hby at_29) rfl ((if0 _ _).trans (teq hc6).1) (by decide) (by decide) ?_
          show Steps p.tables e below (s₁.setTop (mkF m 36 #[.val (.int p1), .val (.int p2), .val (.int p3), .val (.int p4), .val (.int (0 : Int32)), .val (.int (0 : Int32)), .unset, .unset, .unset, .unset, .unset, .unset, .unset, .unset, .unset, .unset] [])) _
          refine XS.iconst X0.here hx rfl (hb hby at_36) ?_
          show Steps p.tables e below (s₁.setTop (mkF m 37 #[.val (.int p1), .val (.int p2), .val (.int p3), .val (.int p4), .val (.int (0 : Int32)), .val (.int (0 : Int32)), .unset, .unset, .unset, .unset, .unset, .unset, .unset, .unset, .unset, .unset] [(.int (0 : Int32))])) _
          refine XS.istore X0.here hx rfl (hb hby at_37) rfl (l' := #[.val (.int p1), .val (.int p2), .val (.int p3), .val (.int p4), .val (.int (0 : Int32)), .val (.int (0 : Int32)), .val (.int (0 : Int32)), .unset, .unset, .unset, .unset, .unset, .unset, .unset, .unset, .unset]) rfl ?_
          show Steps p.tables e below (s₁.setTop (mkF m 39 #[.val (.int p1), .val (.int p2), .val (.int p3), .val (.int p4), .val (.int (0 : Int32)), .val (.int (0 : Int32)), .val (.int (0 : Int32)), .unset, .unset, .unset, .unset, .unset, .unset, .unset, .unset, .unset] [])) _
          refine XS.iload X0.here hx rfl (hb hby at_39) rfl ?_
          show Steps p.tables e below (s₁.setTop (mkF m 41 #[.val (.int p1), .val (.int p2), .val (.int p3), .val (.int p4), .val (.int (0 : Int32)), .val (.int (0 : Int32)), .val (.int (0 : Int32)), .unset, .unset, .unset, .unset, .unset, .unset, .unset, .unset, .unset] [(.int (0 : Int32))])) _
          refine XS.ifYes X0.here hx rfl (pc0 := 41) (pc' := 51) rfl (hb hby at_41) rfl ((if0 _ _).trans (teq rfl).1) (by decide) (by decide) ?_
          show Steps p.tables e below (s₁.setTop (mkF m 51 #[.val (.int p1), .val (.int p2), .val (.int p3), .val (.int p4), .val (.int (0 : Int32)), .val (.int (0 : Int32)), .val (.int (0 : Int32)), .unset, .unset, .unset, .unset, .unset, .unset, .unset, .unset, .unset] [])) _
          refine XS.aconstNull X0.here hx rfl (hb hby at_51) ?_
          show Steps p.tables e below (s₁.setTop (mkF m 52 #[.val (.int p1), .val (.int p2), .val (.int p3), .val (.int p4), .val (.int (0 : Int32)), .val (.int (0 : Int32)), .val (.int (0 : Int32)), .unset, .unset, .unset, .unset, .unset, .unset, .unset, .unset, .unset] [.null])) _
          refine XS.astore X0.here hx rfl (hb hby at_52) rfl rfl (l' := #[.val (.int p1), .val (.int p2), .val (.int p3), .val (.int p4), .val (.int (0 : Int32)), .val (.int (0 : Int32)), .val (.int (0 : Int32)), .val .null, .unset, .unset, .unset, .unset, .unset, .unset, .unset, .unset]) rfl ?_
          show Steps p.tables e below (s₁.setTop (mkF m 54 #[.val (.int p1), .val (.int p2), .val (.int p3), .val (.int p4), .val (.int (0 : Int32)), .val (.int (0 : Int32)), .val (.int (0 : Int32)), .val .null, .unset, .unset, .unset, .unset, .unset, .unset, .unset, .unset] [])) _
          refine XS.iload X0.here hx rfl (hb hby at_54) rfl ?_
          show Steps p.tables e below (s₁.setTop (mkF m 56 #[.val (.int p1), .val (.int p2), .val (.int p3), .val (.int p4), .val (.int (0 : Int32)), .val (.int (0 : Int32)), .val (.int (0 : Int32)), .val .null, .unset, .unset, .unset, .unset, .unset, .unset, .unset, .unset] [(.int (0 : Int32))])) _
          refine XS.ifYes X0.here hx rfl (pc0 := 56) (pc' := 66) rfl (hb hby at_56) rfl ((if0 _ _).trans (teq rfl).1) (by decide) (by decide) ?_
          show Steps p.tables e below (s₁.setTop (mkF m 66 #[.val (.int p1), .val (.int p2), .val (.int p3), .val (.int p4), .val (.int (0 : Int32)), .val (.int (0 : Int32)), .val (.int (0 : Int32)), .val .null, .unset, .unset, .unset, .unset, .unset, .unset, .unset, .unset] [])) _
          refine XS.aconstNull X0.here hx rfl (hb hby at_66) ?_
          show Steps p.tables e below (s₁.setTop (mkF m 67 #[.val (.int p1), .val (.int p2), .val (.int p3), .val (.int p4), .val (.int (0 : Int32)), .val (.int (0 : Int32)), .val (.int (0 : Int32)), .val .null, .unset, .unset, .unset, .unset, .unset, .unset, .unset, .unset] [.null])) _
          refine XS.astore X0.here hx rfl (hb hby at_67) rfl rfl (l' := #[.val (.int p1), .val (.int p2), .val (.int p3), .val (.int p4), .val (.int (0 : Int32)), .val (.int (0 : Int32)), .val (.int (0 : Int32)), .val .null, .val .null, .unset, .unset, .unset, .unset, .unset, .unset, .unset]) rfl ?_
          show Steps p.tables e below (s₁.setTop (mkF m 69 #[.val (.int p1), .val (.int p2), .val (.int p3), .val (.int p4), .val (.int (0 : Int32)), .val (.int (0 : Int32)), .val (.int (0 : Int32)), .val .null, .val .null, .unset, .unset, .unset, .unset, .unset, .unset, .unset] [])) _
          refine XS.iload X0.here hx rfl (hb hby at_69) rfl ?_
          show Steps p.tables e below (s₁.setTop (mkF m 71 #[.val (.int p1), .val (.int p2), .val (.int p3), .val (.int p4), .val (.int (0 : Int32)), .val (.int (0 : Int32)), .val (.int (0 : Int32)), .val .null, .val .null, .unset, .unset, .unset, .unset, .unset, .unset, .unset] [(.int (0 : Int32))])) _
          refine XS.ifYes X0.here hx rfl (pc0 := 71) (pc' := 81) rfl (hb hby at_71) rfl ((if0 _ _).trans (teq rfl).1) (by decide) (by decide) ?_
          show Steps p.tables e below (s₁.setTop (mkF m 81 #[.val (.int p1), .val (.int p2), .val (.int p3), .val (.int p4), .val (.int (0 : Int32)), .val (.int (0 : Int32)), .val (.int (0 : Int32)), .val .null, .val .null, .unset, .unset, .unset, .unset, .unset, .unset, .unset] [])) _
          refine XS.aconstNull X0.here hx rfl (hb hby at_81) ?_
          show Steps p.tables e below (s₁.setTop (mkF m 82 #[.val (.int p1), .val (.int p2), .val (.int p3), .val (.int p4), .val (.int (0 : Int32)), .val (.int (0 : Int32)), .val (.int (0 : Int32)), .val .null, .val .null, .unset, .unset, .unset, .unset, .unset, .unset, .unset] [.null])) _
          refine XS.astore X0.here hx rfl (hb hby at_82) rfl rfl (l' := #[.val (.int p1), .val (.int p2), .val (.int p3), .val (.int p4), .val (.int (0 : Int32)), .val (.int (0 : Int32)), .val (.int (0 : Int32)), .val .null, .val .null, .val .null, .unset, .unset, .unset, .unset, .unset, .unset]) rfl ?_
          show Steps p.tables e below (s₁.setTop (mkF m 84 #[.val (.int p1), .val (.int p2), .val (.int p3), .val (.int p4), .val (.int (0 : Int32)), .val (.int (0 : Int32)), .val (.int (0 : Int32)), .val .null, .val .null, .val .null, .unset, .unset, .unset, .unset, .unset, .unset] [])) _
          refine st7 _ ?_
          show Steps p.tables e below (T7.setTop (mkF m 87 #[.val (.int p1), .val (.int p2), .val (.int p3), .val (.int p4), .val (.int (0 : Int32)), .val (.int (0 : Int32)), .val (.int (0 : Int32)), .val .null, .val .null, .val .null, .unset, .unset, .unset, .unset, .unset, .unset] [(.ref b7)])) _
          refine XS.dup X7.here hx rfl (hb hby at_87) rfl rfl ?_
          show Steps p.tables e below (T7.setTop (mkF m 88 #[.val (.int p1), .val (.int p2), .val (.int p3), .val (.int p4), .val (.int (0 : Int32)), .val (.int (0 : Int32)), .val (.int (0 : Int32)), .val .null, .val .null, .val .null, .unset, .unset, .unset, .unset, .unset, .unset] [(.ref b7), (.ref b7)])) _
          refine XS.aload X7.here hx rfl (hb hby at_88) rfl rfl ?_
          show Steps p.tables e below (T7.setTop (mkF m 90 #[.val (.int p1), .val (.int p2), .val (.int p3), .val (.int p4), .val (.int (0 : Int32)), .val (.int (0 : Int32)), .val (.int (0 : Int32)), .val .null, .val .null, .val .null, .unset, .unset, .unset, .unset, .unset, .unset] [.null, (.ref b7), (.ref b7)])) _
          refine XS.aload X7.here hx rfl (hb hby at_90) rfl rfl ?_
          show Steps p.tables e below (T7.setTop (mkF m 92 #[.val (.int p1), .val (.int p2), .val (.int p3), .val (.int p4), .val (.int (0 : Int32)), .val (.int (0 : Int32)), .val (.int (0 : Int32)), .val .null, .val .null, .val .null, .unset, .unset, .unset, .unset, .unset, .unset] [.null, .null, (.ref b7), (.ref b7)])) _
          refine XS.aload X7.here hx rfl (hb hby at_92) rfl rfl ?_
          show Steps p.tables e below (T7.setTop (mkF m 94 #[.val (.int p1), .val (.int p2), .val (.int p3), .val (.int p4), .val (.int (0 : Int32)), .val (.int (0 : Int32)), .val (.int (0 : Int32)), .val .null, .val .null, .val .null, .unset, .unset, .unset, .unset, .unset, .unset] [.null, .null, .null, (.ref b7), (.ref b7)])) _
          refine st8.trans ?_
          show Steps p.tables e below (T8.setTop (mkF m 97 #[.val (.int p1), .val (.int p2), .val (.int p3), .val (.int p4), .val (.int (0 : Int32)), .val (.int (0 : Int32)), .val (.int (0 : Int32)), .val .null, .val .null, .val .null, .unset, .unset, .unset, .unset, .unset, .unset] [(.ref b7)])) _
          refine XS.astore X8.here hx rfl (hb hby at_97) rfl rfl (l' := #[.val (.int p1), .val (.int p2), .val (.int p3), .val (.int p4), .val (.int (0 : Int32)), .val (.int (0 : Int32)), .val (.int (0 : Int32)), .val .null, .val .null, .val .null, .val (.ref b7), .unset, .unset, .unset, .unset, .unset]) rfl ?_
          show Steps p.tables e below (T8.setTop (mkF m 99 #[.val (.int p1), .val (.int p2), .val (.int p3), .val (.int p4), .val (.int (0 : Int32)), .val (.int (0 : Int32)), .val (.int (0 : Int32)), .val .null, .val .null, .val .null, .val (.ref b7), .unset, .unset, .unset, .unset, .unset] [])) _
          refine XS.aload X8.here hx rfl (hb hby at_99) rfl rfl ?_
          show Steps p.tables e below (T8.setTop (mkF m 101 #[.val (.int p1), .val (.int p2), .val (.int p3), .val (.int p4), .val (.int (0 : Int32)), .val (.int (0 : Int32)), .val (.int (0 : Int32)), .val .null, .val .null, .val .null, .val (.ref b7), .unset, .unset, .unset, .unset, .unset] [(.ref b7)])) _
          refine st9.trans ?_
          show Steps p.tables e below (T9.setTop (mkF m 104 #[.val (.int p1), .val (.int p2), .val (.int p3), .val (.int p4), .val (.int (0 : Int32)), .val (.int (0 : Int32)), .val (.int (0 : Int32)), .val .null, .val .null, .val .null, .val (.ref b7), .unset, .unset, .unset, .unset, .unset] [(.int (1 : Int32))])) _
          refine XS.iload X9.here hx rfl (hb hby at_104) rfl ?_
          show Steps p.tables e below (T9.setTop (mkF m 106 #[.val (.int p1), .val (.int p2), .val (.int p3), .val (.int p4), .val (.int (0 : Int32)), .val (.int (0 : Int32)), .val (.int (0 : Int32)), .val .null, .val .null, .val .null, .val (.ref b7), .unset, .unset, .unset, .unset, .unset] [(.int (0 : Int32)), (.int (1 : Int32))])) _
          refine XS.ifNo X9.here hx rfl (hb hby at_106) rfl ((if0 _ _).trans (teq rfl).2) ?_
          show Steps p.tables e below (T9.setTop (mkF m 109 #[.val (.int p1), .val (.int p2), .val (.int p3), .val (.int p4), .val (.int (0 : Int32)), .val (.int (0 : Int32)), .val (.int (0 : Int32)), .val .null, .val .null, .val .null, .val (.ref b7), .unset, .unset, .unset, .unset, .unset] [(.int (1 : Int32))])) _
          refine XS.iconst X9.here hx rfl (hb hby at_109) ?_
          show Steps p.tables e below (T9.setTop (mkF m 110 #[.val (.int p1), .val (.int p2), .val (.int p3), .val (.int p4), .val (.int (0 : Int32)), .val (.int (0 : Int32)), .val (.int (0 : Int32)), .val .null, .val .null, .val .null, .val (.ref b7), .unset, .unset, .unset, .unset, .unset] [(.int (1 : Int32)), (.int (1 : Int32))])) _
          refine XS.goto X9.here hx rfl (pc0 := 110) (pc' := 114) rfl (hb hby at_110) (by decide) (by decide) ?_
          show Steps p.tables e below (T9.setTop (mkF m 114 #[.val (.int p1), .val (.int p2), .val (.int p3), .val (.int p4), .val (.int (0 : Int32)), .val (.int (0 : Int32)), .val (.int (0 : Int32)), .val .null, .val .null, .val .null, .val (.ref b7), .unset, .unset, .unset, .unset, .unset] [(.int (1 : Int32)), (.int (1 : Int32))])) _
          refine XS.icmpNo X9.here hx rfl (hb hby at_114) rfl (teq rfl).2 ?_
          show Steps p.tables e below (T9.setTop (mkF m 117 #[.val (.int p1), .val (.int p2), .val (.int p3), .val (.int p4), .val (.int (0 : Int32)), .val (.int (0 : Int32)), .val (.int (0 : Int32)), .val .null, .val .null, .val .null, .val (.ref b7), .unset, .unset, .unset, .unset, .unset] [])) _
          refine XS.iconst X9.here hx rfl (hb hby at_117) ?_
          show Steps p.tables e below (T9.setTop (mkF m 118 #[.val (.int p1), .val (.int p2), .val (.int p3), .val (.int p4), .val (.int (0 : Int32)), .val (.int (0 : Int32)), .val (.int (0 : Int32)), .val .null, .val .null, .val .null, .val (.ref b7), .unset, .unset, .unset, .unset, .unset] [(.int (1 : Int32))])) _
          refine XS.goto X9.here hx rfl (pc0 := 118) (pc' := 122) rfl (hb hby at_118) (by decide) (by decide) ?_
          show Steps p.tables e below (T9.setTop (mkF m 122 #[.val (.int p1), .val (.int p2), .val (.int p3), .val (.int p4), .val (.int (0 : Int32)), .val (.int (0 : Int32)), .val (.int (0 : Int32)), .val .null, .val .null, .val .null, .val (.ref b7), .unset, .unset, .unset, .unset, .unset] [(.int (1 : Int32))])) _
          refine XS.istore X9.here hx rfl (hb hby at_122) rfl (l' := #[.val (.int p1), .val (.int p2), .val (.int p3), .val (.int p4), .val (.int (0 : Int32)), .val (.int (0 : Int32)), .val (.int (0 : Int32)), .val .null, .val .null, .val .null, .val (.ref b7), .val (.int (1 : Int32)), .unset, .unset, .unset, .unset]) rfl ?_
          show Steps p.tables e below (T9.setTop (mkF m 124 #[.val (.int p1), .val (.int p2), .val (.int p3), .val (.int p4), .val (.int (0 : Int32)), .val (.int (0 : Int32)), .val (.int (0 : Int32)), .val .null, .val .null, .val .null, .val (.ref b7), .val (.int (1 : Int32)), .unset, .unset, .unset, .unset] [])) _
          refine XS.iloadN X9.here hx rfl (hb hby at_124) rfl ?_
          show Steps p.tables e below (T9.setTop (mkF m 125 #[.val (.int p1), .val (.int p2), .val (.int p3), .val (.int p4), .val (.int (0 : Int32)), .val (.int (0 : Int32)), .val (.int (0 : Int32)), .val .null, .val .null, .val .null, .val (.ref b7), .val (.int (1 : Int32)), .unset, .unset, .unset, .unset] [(.int p1)])) _
          refine st11 _ ?_
          show Steps p.tables e below (T11.setTop (mkF m 128 #[.val (.int p1), .val (.int p2), .val (.int p3), .val (.int p4), .val (.int (0 : Int32)), .val (.int (0 : Int32)), .val (.int (0 : Int32)), .val .null, .val .null, .val .null, .val (.ref b7), .val (.int (1 : Int32)), .unset, .unset, .unset, .unset] [(.ref bb_11)])) _
          refine st13 _ ?_
          show Steps p.tables e below (T13.setTop (mkF m 131 #[.val (.int p1), .val (.int p2), .val (.int p3), .val (.int p4), .val (.int (0 : Int32)), .val (.int (0 : Int32)), .val (.int (0 : Int32)), .val .null, .val .null, .val .null, .val (.ref b7), .val (.int (1 : Int32)), .unset, .unset, .unset, .unset] [(.ref bb_13)])) _
          refine XS.astore X13.here hx rfl (hb hby at_131) rfl rfl (l' := #[.val (.int p1), .val (.int p2), .val (.int p3), .val (.int p4), .val (.int (0 : Int32)), .val (.int (0 : Int32)), .val (.int (0 : Int32)), .val .null, .val .null, .val .null, .val (.ref b7), .val (.int (1 : Int32)), .val (.ref bb_13), .unset, .unset, .unset]) rfl ?_
          show Steps p.tables e below (T13.setTop (mkF m 133 #[.val (.int p1), .val (.int p2), .val (.int p3), .val (.int p4), .val (.int (0 : Int32)), .val (.int (0 : Int32)), .val (.int (0 : Int32)), .val .null, .val .null, .val .null, .val (.ref b7), .val (.int (1 : Int32)), .val (.ref bb_13), .unset, .unset, .unset] [])) _
          refine XS.aload X13.here hx rfl (hb hby at_133) rfl rfl ?_
          show Steps p.tables e below (T13.setTop (mkF m 135 #[.val (.int p1), .val (.int p2), .val (.int p3), .val (.int p4), .val (.int (0 : Int32)), .val (.int (0 : Int32)), .val (.int (0 : Int32)), .val .null, .val .null, .val .null, .val (.ref b7), .val (.int (1 : Int32)), .val (.ref bb_13), .unset, .unset, .unset] [(.ref bb_13)])) _
          refine st15.trans ?_
          show Steps p.tables e below (T15.setTop (mkF m 138 #[.val (.int p1), .val (.int p2), .val (.int p3), .val (.int p4), .val (.int (0 : Int32)), .val (.int (0 : Int32)), .val (.int (0 : Int32)), .val .null, .val .null, .val .null, .val (.ref b7), .val (.int (1 : Int32)), .val (.ref bb_13), .unset, .unset, .unset] [(.int (0 : Int32))])) _
          refine XS.ifNo X15.here hx rfl (hb hby at_138) rfl ((if0 _ _).trans (teq rfl).2) ?_
          show Steps p.tables e below (T15.setTop (mkF m 141 #[.val (.int p1), .val (.int p2), .val (.int p3), .val (.int p4), .val (.int (0 : Int32)), .val (.int (0 : Int32)), .val (.int (0 : Int32)), .val .null, .val .null, .val .null, .val (.ref b7), .val (.int (1 : Int32)), .val (.ref bb_13), .unset, .unset, .unset] [])) _
          refine XS.iconst X15.here hx rfl (hb hby at_141) ?_
          show Steps p.tables e below (T15.setTop (mkF m 142 #[.val (.int p1), .val (.int p2), .val (.int p3), .val (.int p4), .val (.int (0 : Int32)), .val (.int (0 : Int32)), .val (.int (0 : Int32)), .val .null, .val .null, .val .null, .val (.ref b7), .val (.int (1 : Int32)), .val (.ref bb_13), .unset, .unset, .unset] [(.int (1 : Int32))])) _
          refine XS.goto X15.here hx rfl (pc0 := 142) (pc' := 146) rfl (hb hby at_142) (by decide) (by decide) ?_
          show Steps p.tables e below (T15.setTop (mkF m 146 #[.val (.int p1), .val (.int p2), .val (.int p3), .val (.int p4), .val (.int (0 : Int32)), .val (.int (0 : Int32)), .val (.int (0 : Int32)), .val .null, .val .null, .val .null, .val (.ref b7), .val (.int (1 : Int32)), .val (.ref bb_13), .unset, .unset, .unset] [(.int (1 : Int32))])) _
          refine XS.istore X15.here hx rfl (hb hby at_146) rfl (l' := #[.val (.int p1), .val (.int p2), .val (.int p3), .val (.int p4), .val (.int (0 : Int32)), .val (.int (0 : Int32)), .val (.int (0 : Int32)), .val .null, .val .null, .val .null, .val (.ref b7), .val (.int (1 : Int32)), .val (.ref bb_13), .val (.int (1 : Int32)), .unset, .unset]) rfl ?_
          show Steps p.tables e below (T15.setTop (mkF m 148 #[.val (.int p1), .val (.int p2), .val (.int p3), .val (.int p4), .val (.int (0 : Int32)), .val (.int (0 : Int32)), .val (.int (0 : Int32)), .val .null, .val .null, .val .null, .val (.ref b7), .val (.int (1 : Int32)), .val (.ref bb_13), .val (.int (1 : Int32)), .unset, .unset] [])) _
          refine XS.aload X15.here hx rfl (hb hby at_148) rfl rfl ?_
          show Steps p.tables e below (T15.setTop (mkF m 150 #[.val (.int p1), .val (.int p2), .val (.int p3), .val (.int p4), .val (.int (0 : Int32)), .val (.int (0 : Int32)), .val (.int (0 : Int32)), .val .null, .val .null, .val .null, .val (.ref b7), .val (.int (1 : Int32)), .val (.ref bb_13), .val (.int (1 : Int32)), .unset, .unset] [.null])) _
          refine XS.aload X15.here hx rfl (hb hby at_150) rfl rfl ?_
          show Steps p.tables e below (T15.setTop (mkF m 152 #[.val (.int p1), .val (.int p2), .val (.int p3), .val (.int p4), .val (.int (0 : Int32)), .val (.int (0 : Int32)), .val (.int (0 : Int32)), .val .null, .val .null, .val .null, .val (.ref b7), .val (.int (1 : Int32)), .val (.ref bb_13), .val (.int (1 : Int32)), .unset, .unset] [.null, .null])) _
          refine st16 _ ?_
          show Steps p.tables e below (T16.setTop (mkF m 155 #[.val (.int p1), .val (.int p2), .val (.int p3), .val (.int p4), .val (.int (0 : Int32)), .val (.int (0 : Int32)), .val (.int (0 : Int32)), .val .null, .val .null, .val .null, .val (.ref b7), .val (.int (1 : Int32)), .val (.ref bb_13), .val (.int (1 : Int32)), .unset, .unset] [(.ref bb_16)])) _
          refine XS.astore X16.here hx rfl (hb hby at_155) rfl rfl (l' := #[.val (.int p1), .val (.int p2), .val (.int p3), .val (.int p4), .val (.int (0 : Int32)), .val (.int (0 : Int32)), .val (.int (0 : Int32)), .val .null, .val .null, .val .null, .val (.ref b7), .val (.int (1 : Int32)), .val (.ref bb_13), .val (.int (1 : Int32)), .val (.ref bb_16), .unset]) rfl ?_
          show Steps p.tables e below (T16.setTop (mkF m 157 #[.val (.int p1), .val (.int p2), .val (.int p3), .val (.int p4), .val (.int (0 : Int32)), .val (.int (0 : Int32)), .val (.int (0 : Int32)), .val .null, .val .null, .val .null, .val (.ref b7), .val (.int (1 : Int32)), .val (.ref bb_13), .val (.int (1 : Int32)), .val (.ref bb_16), .unset] [])) _
          refine XS.aload X16.here hx rfl (hb hby at_157) rfl rfl ?_
          show Steps p.tables e below (T16.setTop (mkF m 159 #[.val (.int p1), .val (.int p2), .val (.int p3), .val (.int p4), .val (.int (0 : Int32)), .val (.int (0 : Int32)), .val (.int (0 : Int32)), .val .null, .val .null, .val .null, .val (.ref b7), .val (.int (1 : Int32)), .val (.ref bb_13), .val (.int (1 : Int32)), .val (.ref bb_16), .unset] [(.ref bb_16)])) _
          refine st18.trans ?_
          show Steps p.tables e below (T18.setTop (mkF m 162 #[.val (.int p1), .val (.int p2), .val (.int p3), .val (.int p4), .val (.int (0 : Int32)), .val (.int (0 : Int32)), .val (.int (0 : Int32)), .val .null, .val .null, .val .null, .val (.ref b7), .val (.int (1 : Int32)), .val (.ref bb_13), .val (.int (1 : Int32)), .val (.ref bb_16), .unset] [(.int (1 : Int32))])) _
          refine XS.istore X18.here hx rfl (hb hby at_162) rfl (l' := #[.val (.int p1), .val (.int p2), .val (.int p3), .val (.int p4), .val (.int (0 : Int32)), .val (.int (0 : Int32)), .val (.int (0 : Int32)), .val .null, .val .null, .val .null, .val (.ref b7), .val (.int (1 : Int32)), .val (.ref bb_13), .val (.int (1 : Int32)), .val (.ref bb_16), .val (.int (1 : Int32))]) rfl ?_
          show Steps p.tables e below (T18.setTop (mkF m 164 #[.val (.int p1), .val (.int p2), .val (.int p3), .val (.int p4), .val (.int (0 : Int32)), .val (.int (0 : Int32)), .val (.int (0 : Int32)), .val .null, .val .null, .val .null, .val (.ref b7), .val (.int (1 : Int32)), .val (.ref bb_13), .val (.int (1 : Int32)), .val (.ref bb_16), .val (.int (1 : Int32))] [])) _
          refine XS.iload X18.here hx rfl (hb hby at_164) rfl ?_
          show Steps p.tables e below (T18.setTop (mkF m 166 #[.val (.int p1), .val (.int p2), .val (.int p3), .val (.int p4), .val (.int (0 : Int32)), .val (.int (0 : Int32)), .val (.int (0 : Int32)), .val .null, .val .null, .val .null, .val (.ref b7), .val (.int (1 : Int32)), .val (.ref bb_13), .val (.int (1 : Int32)), .val (.ref bb_16), .val (.int (1 : Int32))] [(.int (1 : Int32))])) _
          refine XS.ifNo X18.here hx rfl (hb hby at_166) rfl ((if0 _ _).trans (feq (by decide)).1) ?_
          show Steps p.tables e below (T18.setTop (mkF m 169 #[.val (.int p1), .val (.int p2), .val (.int p3), .val (.int p4), .val (.int (0 : Int32)), .val (.int (0 : Int32)), .val (.int (0 : Int32)), .val .null, .val .null, .val .null, .val (.ref b7), .val (.int (1 : Int32)), .val (.ref bb_13), .val (.int (1 : Int32)), .val (.ref bb_16), .val (.int (1 : Int32))] [])) _
          refine XS.iload X18.here hx rfl (hb hby at_169) rfl ?_
          show Steps p.tables e below (T18.setTop (mkF m 171 #[.val (.int p1), .val (.int p2), .val (.int p3), .val (.int p4), .val (.int (0 : Int32)), .val (.int (0 : Int32)), .val (.int (0 : Int32)), .val .null, .val .null, .val .null, .val (.ref b7), .val (.int (1 : Int32)), .val (.ref bb_13), .val (.int (1 : Int32)), .val (.ref bb_16), .val (.int (1 : Int32))] [(.int (1 : Int32))])) _
          refine XS.ifNo X18.here hx rfl (hb hby at_171) rfl ((if0 _ _).trans (feq (by decide)).1) ?_
          show Steps p.tables e below (T18.setTop (mkF m 174 #[.val (.int p1), .val (.int p2), .val (.int p3), .val (.int p4), .val (.int (0 : Int32)), .val (.int (0 : Int32)), .val (.int (0 : Int32)), .val .null, .val .null, .val .null, .val (.ref b7), .val (.int (1 : Int32)), .val (.ref bb_13), .val (.int (1 : Int32)), .val (.ref bb_16), .val (.int (1 : Int32))] [])) _
          refine XS.iload X18.here hx rfl (hb hby at_174) rfl ?_
          show Steps p.tables e below (T18.setTop (mkF m 176 #[.val (.int p1), .val (.int p2), .val (.int p3), .val (.int p4), .val (.int (0 : Int32)), .val (.int (0 : Int32)), .val (.int (0 : Int32)), .val .null, .val .null, .val .null, .val (.ref b7), .val (.int (1 : Int32)), .val (.ref bb_13), .val (.int (1 : Int32)), .val (.ref bb_16), .val (.int (1 : Int32))] [(.int (1 : Int32))])) _
          refine XS.ifNo X18.here hx rfl (hb hby at_176) rfl ((if0 _ _).trans (feq (by decide)).1) ?_
          show Steps p.tables e below (T18.setTop (mkF m 179 #[.val (.int p1), .val (.int p2), .val (.int p3), .val (.int p4), .val (.int (0 : Int32)), .val (.int (0 : Int32)), .val (.int (0 : Int32)), .val .null, .val .null, .val .null, .val (.ref b7), .val (.int (1 : Int32)), .val (.ref bb_13), .val (.int (1 : Int32)), .val (.ref bb_16), .val (.int (1 : Int32))] [])) _
          refine XS.iconst X18.here hx rfl (hb hby at_179) ?_
          show Steps p.tables e below (T18.setTop (mkF m 180 #[.val (.int p1), .val (.int p2), .val (.int p3), .val (.int p4), .val (.int (0 : Int32)), .val (.int (0 : Int32)), .val (.int (0 : Int32)), .val .null, .val .null, .val .null, .val (.ref b7), .val (.int (1 : Int32)), .val (.ref bb_13), .val (.int (1 : Int32)), .val (.ref bb_16), .val (.int (1 : Int32))] [(.int (1 : Int32))])) _
          refine XS.goto X18.here hx rfl (pc0 := 180) (pc' := 184) rfl (hb hby at_180) (by decide) (by decide) ?_
          show Steps p.tables e below (T18.setTop (mkF m 184 #[.val (.int p1), .val (.int p2), .val (.int p3), .val (.int p4), .val (.int (0 : Int32)), .val (.int (0 : Int32)), .val (.int (0 : Int32)), .val .null, .val .null, .val .null, .val (.ref b7), .val (.int (1 : Int32)), .val (.ref bb_13), .val (.int (1 : Int32)), .val (.ref bb_16), .val (.int (1 : Int32))] [(.int (1 : Int32))])) _
          exact retN X18 hx (t := .boolean) Bd.returns (by simp) (hb hby at_184) hr
        · show Q_rm0 Z p1 p2 p3 p4 w_cache h0 n0 _ T18.heap _
          rw [e18]
          exact ⟨rfl, N18, K16⟩
      · skip
        obtain ⟨_, _, ⟨T20, L20, k20, n20⟩, -, X20, ⟨Lc20, hQ20, l20, y20, z20⟩, st20⟩ := Jvm.LawKit.callS X0 hx (y := (⟨"java/lang/Integer", "valueOf", "(I)Ljava/lang/Integer;"⟩ : MethodName)) hown (mvT hZ (kw0 hw)) (mvT hZ (kw1 hw)) (mvT hZ (kw2 hw)) (mvT hZ (kw3 hw)) (by decide) (backOf (W := 0) (rm1 l Z a0 hw [] p3 w_cache h0 n0 Z0 P0 P1 P2 HC) hZ (kw3 hw) (kw2 hw) (by decide) (by decide)) (g := (mkF m 75 #[.val (.int p1), .val (.int p2), .val (.int p3), .val (.int p4), .val (.int (0 : Int32)), .val (.int (0 : Int32)), .val (.int (1 : Int32)), .val .null, .val .null, .unset, .unset, .unset, .unset, .unset, .unset, .unset] [(.int p3)])) rfl (by rw [hml]; rfl) (argsL := [(.int p3)]) (rest := []) (lenOf pd_4 rfl) rfl (by show 2 * 0 + _ ≤ _; exact Nat.le_of_eq rfl) (hb hby at_75) (fun _ _ => ⟨rfl, e0, (by decide : 0 + 1 ≤ _), (by decide : 0 + 1 ≤ _)⟩)
        dsimp only [Pt.U, Pt.locs, Pt.cells, Pt.slots] at X20 l20 y20 z20 st20 hQ20
        subst l20 y20 z20
        obtain ⟨bb_20, rfl, N20q, Kq20⟩ := hQ20
        have N20 := Fr.app N0 N20q
        have Z20 : n0 ≤ T20.heap.size := Nat.le_trans Z0 Kq20.1
        have K20 : Keep h0 T20.heap [] := KR.trans Kq20 all0
        obtain ⟨T21, h21, X21, e21, E21, A21, D21, -, st21⟩ := newO X20 hx hZ hown (kw7 hw) (kw8 hw) (kw9 hw) rfl (g := (mkF m 84 #[.val (.int p1), .val (.int p2), .val (.int p3), .val (.int p4), .val (.int (0 : Int32)), .val (.int (0 : Int32)), .val (.int (1 : Int32)), .val .null, .val .null, .val (.ref bb_20), .unset, .unset, .unset, .unset, .unset, .unset] [])) rfl (hb hby at_84) (by decide) (by decide)
        obtain ⟨b21, g21⟩ : ∃ z, z = T20.heap.size := ⟨_, rfl⟩
        rw [← g21] at A21 D21 st21
        have g_b21 : n0 ≤ b21 := Nat.le_trans Z20 (Nat.le_of_eq g21.symm)
        have sz_b21 : h0.size ≤ b21 := Nat.le_trans K20.1 (Nat.le_of_eq g21.symm)
        have Z21 : n0 ≤ h21.size := Nat.le_trans Z20 E21.1
        have K21 : Keep h0 h21 [] := K20.ext E21
        have F21_current : Fld Z h21 b21 "com/example/mergewright/mergewright/merge/Match" "current" "Ljava/lang/Object;" .null := D21 (Or.inr (kw17 hw)) (ty := (.object "java/lang/Object")) (by decide)
        have F21_base : Fld Z h21 b21 "com/example/mergewright/mergewright/merge/Match" "base" "Ljava/lang/Object;" .null := D21 (Or.inr (kw19 hw)) (ty := (.object "java/lang/Object")) (by decide)
        have F21_other : Fld Z h21 b21 "com/example/mergewright/mergewright/merge/Match" "other" "Ljava/lang/Object;" .null := D21 (Or.inr (kw21 hw)) (ty := (.object "java/lang/Object")) (by decide)
        obtain ⟨_, _, ⟨T22, L22, k22, n22⟩, -, X22, ⟨Lc22, hQ22, l22, y22, z22⟩, st22⟩ := X21.specialBack hx (y := (⟨"com/example/mergewright/mergewright/merge/Match", "<init>", "(Ljava/lang/Object;Ljava/lang/Object;Ljava/lang/Object;)V"⟩ : MethodName)) rfl hown (mvT hZ (kw10 hw)) (mvT hZ (kw11 hw)) (mvT hZ (kw12 hw)) (by decide) (backOf (W := 1) (rm2_nnr l Z a0 hw [] b21 bb_20 h21 n0 Z21 A21 g_b21 F21_current F21_base F21_other) hZ (kw12 hw) (kw9 hw) (by decide) (by decide)) (g := (mkF m 94 #[.val (.int p1), .val (.int p2), .val (.int p3), .val (.int p4), .val (.int (0 : Int32)), .val (.int (0 : Int32)), .val (.int (1 : Int32)), .val .null, .val .null, .val (.ref bb_20), .unset, .unset, .unset, .unset, .unset, .unset] [(.ref bb_20), .null, .null, (.ref b21), (.ref b21)])) rfl (by rw [hml]; rfl) (Steps.refl _) (a := b21) (argsL := [.null, .null, (.ref bb_20)]) (rest := [(.ref b21)]) (lenOf pd_2 rfl) rfl (by show 2 * 0 + _ ≤ _; exact Nat.le_of_eq rfl) (hb hby at_94) (fun _ _ => ⟨rfl, e21, (by decide : 2 + 0 ≤ _), (by decide : 4 + 0 ≤ _)⟩)
        dsimp only [Pt.U, Pt.locs, Pt.cells, Pt.slots] at X22 l22 y22 z22 st22 hQ22
        subst l22 y22 z22
        obtain ⟨rfl, N22q, Kq22, p22_0⟩ := hQ22
        have N22 := Fr.app N20 N22q
        have Z22 : n0 ≤ T22.heap.size := Nat.le_trans Z21 Kq22.1
        have K22 : Keep h0 T22.heap [] := K21.trans Kq22 (allS (Or.inr sz_b21) all0)
        have f24 : Exa Z T22.heap b21 "com/example/mergewright/mergewright/merge/Match" := (A21.keep Kq22)
        obtain ⟨cq23, kq23, q23a, q23b, q23c⟩ := isOf hZ rfl f24
        obtain ⟨_, _, ⟨T23, L23, k23, n23⟩, -, X23, ⟨Lc23, hQ23, l23, y23, z23⟩, st23⟩ := X22.virtualBack hx (y := (⟨"com/example/mergewright/mergewright/merge/Match", "isInsertedByBoth", "()Z"⟩ : MethodName)) (z := (⟨"com/example/mergewright/mergewright/merge/Match", "isInsertedByBoth", "()Z"⟩ : MethodName)) hown (mvT hZ (kw22 hw)) (mvT hZ (kw23 hw)) (notFace_of_selects (args := #[]) (mvT hZ (kw25 hw))) (mvT hZ (kw25 hw)) (mvT hZ (kw24 hw)) (by decide) (backOf (W := 0) (rm4_n l Z a0 hw [] b21 T22.heap n0 Z22 p22_0) hZ (kw26 hw) (kw9 hw) (by decide) (by decide)) q23a q23c (g := (mkF m 101 #[.val (.int p1), .val (.int p2), .val (.int p3), .val (.int p4), .val (.int (0 : Int32)), .val (.int (0 : Int32)), .val (.int (1 : Int32)), .val .null, .val .null, .val (.ref bb_20), .val (.ref b21), .unset, .unset, .unset, .unset, .unset] [(.ref b21)])) rfl (by rw [hml]; rfl) (Steps.refl _) (argsL := []) (rest := []) (lenOf pd_3 rfl) rfl (by show 2 * 0 + _ ≤ _; exact Nat.le_of_eq rfl) (hb hby at_101) (fun _ _ => ⟨rfl, rfl, (by decide : 2 + 0 ≤ _), (by decide : 4 + 0 ≤ _)⟩)
        dsimp only [Pt.U, Pt.locs, Pt.cells, Pt.slots] at X23 l23 y23 z23 st23 hQ23
        subst l23 y23 z23
        obtain ⟨rfl, N23q, e23⟩ := hQ23
        have N23 := Fr.app N22 N23q
        have f26 : Old Z n0 T22.heap := (((P0.keep Kq20 all0).ext E21).keep Kq22 (allS g_b21 all0))
        obtain ⟨_, _, ⟨T25, L25, k25, n25⟩, -, X25, ⟨Lc25, hQ25, l25, y25, z25⟩, st25⟩ := Jvm.LawKit.callS X23 hx (y := (⟨"java/lang/Integer", "valueOf", "(I)Ljava/lang/Integer;"⟩ : MethodName)) hown (mvT hZ (kw0 hw)) (mvT hZ (kw1 hw)) (mvT hZ (kw2 hw)) (mvT hZ (kw3 hw)) (by decide) (backOf (W := 0) (rm1 l Z a0 hw [] p1 w_cache T22.heap n0 Z22 f26 P1 P2 HC) hZ (kw3 hw) (kw2 hw) (by decide) (by decide)) (g := (mkF m 125 #[.val (.int p1), .val (.int p2), .val (.int p3), .val (.int p4), .val (.int (0 : Int32)), .val (.int (0 : Int32)), .val (.int (1 : Int32)), .val .null, .val .null, .val (.ref bb_20), .val (.ref b21), .val (.int (1 : Int32)), .unset, .unset, .unset, .unset] [(.int p1)])) rfl (by rw [hml]; rfl) (argsL := [(.int p1)]) (rest := []) (lenOf pd_4 rfl) rfl (by show 2 * 0 + _ ≤ _; exact Nat.le_of_eq rfl) (hb hby at_125) (fun _ _ => ⟨rfl, e23, (by decide : 2 + 1 ≤ _), (by decide : 4 + 1 ≤ _)⟩)
        dsimp only [Pt.U, Pt.locs, Pt.cells, Pt.slots] at X25 l25 y25 z25 st25 hQ25
        subst l25 y25 z25
        obtain ⟨bb_25, rfl, N25q, Kq25⟩ := hQ25
        have N25 := Fr.app N23 N25q
        have Z25 : n0 ≤ T25.heap.size := Nat.le_trans Z22 Kq25.1
        have K25 : Keep h0 T25.heap [] := K22.trans Kq25 all0
        have f28 : Exa Z T25.heap b21 "com/example/mergewright/mergewright/merge/Match" := (f24.keep Kq25)
        obtain ⟨_, _, ⟨T27, L27, k27, n27⟩, -, X27, ⟨Lc27, hQ27, l27, y27, z27⟩, st27⟩ := Jvm.LawKit.callS X25 hx (y := (⟨"com/example/mergewright/mergewright/merge/Match", "inserted", "(Ljava/lang/Object;)Lcom/example/mergewright/mergewright/merge/Match;"⟩ : MethodName)) hown (mvT hZ (kw27 hw)) (mvT hZ (kw28 hw)) (mvT hZ (kw9 hw)) (mvT hZ (kw29 hw)) (by decide) (backOf (W := 0) (rm5 l Z a0 hw [] bb_25 T25.heap n0 Z25 ) hZ (kw29 hw) (kw9 hw) (by decide) (by decide)) (g := (mkF m 128 #[.val (.int p1), .val (.int p2), .val (.int p3), .val (.int p4), .val (.int (0 : Int32)), .val (.int (0 : Int32)), .val (.int (1 : Int32)), .val .null, .val .null, .val (.ref bb_20), .val (.ref b21), .val (.int (1 : Int32)), .unset, .unset, .unset, .unset] [(.ref bb_25)])) rfl (by rw [hml]; rfl) (argsL := [(.ref bb_25)]) (rest := []) (lenOf pd_5 rfl) rfl (by show 2 * 0 + _ ≤ _; exact Nat.le_of_eq rfl) (hb hby at_128) (fun _ _ => ⟨rfl, rfl, (by decide : 3 + 1 ≤ _), (by decide : 5 + 3 ≤ _)⟩)
        dsimp only [Pt.U, Pt.locs, Pt.cells, Pt.slots] at X27 l27 y27 z27 st27 hQ27
        subst l27 y27 z27
        obtain ⟨bb_27, rfl, N27q, Kq27, p27_0, p27_1, p27_2, p27_3⟩ := hQ27
        have N27 := Fr.app N25 N27q
        have Z27 : n0 ≤ T27.heap.size := Nat.le_trans Z25 Kq27.1
        have K27 : Keep h0 T27.heap [] := K25.trans Kq27 all0
        have sz_bb_27 : h0.size ≤ bb_27 := Nat.le_trans K25.1 p27_1
        have ne27_b21_bb_27 : b21 ≠ bb_27 := Nat.ne_of_lt (Nat.lt_of_lt_of_le f28.lt p27_1)
        obtain ⟨cq29, kq29, q29a, q29b, q29c⟩ := isOf hZ rfl p27_2
        obtain ⟨_, _, ⟨T29, L29, k29, n29⟩, -, X29, ⟨Lc29, hQ29, l29, y29, z29⟩, st29⟩ := X27.virtualBack hx (y := (⟨"com/example/mergewright/mergewright/merge/Match", "isInsertedByBoth", "()Z"⟩ : MethodName)) (z := (⟨"com/example/mergewright/mergewright/merge/Match", "isInsertedByBoth", "()Z"⟩ : MethodName)) hown (mvT hZ (kw22 hw)) (mvT hZ (kw23 hw)) (notFace_of_selects (args := #[]) (mvT hZ (kw25 hw))) (mvT hZ (kw25 hw)) (mvT hZ (kw24 hw)) (by decide) (backOf (W := 0) (rm4_r l Z a0 hw [] bb_27 bb_25 T27.heap n0 Z27 p27_3) hZ (kw26 hw) (kw9 hw) (by decide) (by decide)) q29a q29c (g := (mkF m 135 #[.val (.int p1), .val (.int p2), .val (.int p3), .val (.int p4), .val (.int (0 : Int32)), .val (.int (0 : Int32)), .val (.int (1 : Int32)), .val .null, .val .null, .val (.ref bb_20), .val (.ref b21), .val (.int (1 : Int32)), .val (.ref bb_27), .unset, .unset, .unset] [(.ref bb_27)])) rfl (by rw [hml]; rfl) (Steps.refl _) (argsL := []) (rest := []) (lenOf pd_3 rfl) rfl (by show 2 * 0 + _ ≤ _; exact Nat.le_of_eq rfl) (hb hby at_135) (fun _ _ => ⟨rfl, rfl, (by decide : 4 + 0 ≤ _), (by decide : 8 + 0 ≤ _)⟩)
        dsimp only [Pt.U, Pt.locs, Pt.cells, Pt.slots] at X29 l29 y29 z29 st29 hQ29
        subst l29 y29 z29
        obtain ⟨rfl, N29q, e29⟩ := hQ29
        have N29 := Fr.app N27 N29q
        have f31 : Exa Z T27.heap b21 "com/example/mergewright/mergewright/merge/Match" := (f28.keep Kq27)
        obtain ⟨_, _, ⟨T30, L30, k30, n30⟩, -, X30, ⟨Lc30, hQ30, l30, y30, z30⟩, st30⟩ := Jvm.LawKit.callS X29 hx (y := (⟨"com/example/mergewright/mergewright/merge/Match", "insertedByBoth", "(Ljava/lang/Object;Ljava/lang/Object;)Lcom/example/mergewright/mergewright/merge/Match;"⟩ : MethodName)) hown (mvT hZ (kw32 hw)) (mvT hZ (kw33 hw)) (mvT hZ (kw9 hw)) (mvT hZ (kw34 hw)) (by decide) (backOf (W := 0) (rm6_nr l Z a0 hw [] bb_20 T27.heap n0 Z27 ) hZ (kw34 hw) (kw9 hw) (by decide) (by decide)) (g := (mkF m 152 #[.val (.int p1), .val (.int p2), .val (.int p3), .val (.int p4), .val (.int (0 : Int32)), .val (.int (0 : Int32)), .val (.int (1 : Int32)), .val .null, .val .null, .val (.ref bb_20), .val (.ref b21), .val (.int (1 : Int32)), .val (.ref bb_27), .val (.int (1 : Int32)), .unset, .unset] [(.ref bb_20), .null])) rfl (by rw [hml]; rfl) (argsL := [.null, (.ref bb_20)]) (rest := []) (lenOf pd_6 rfl) rfl (by show 2 * 0 + _ ≤ _; exact Nat.le_of_eq rfl) (hb hby at_152) (fun _ _ => ⟨rfl, e29, (by decide : 4 + 1 ≤ _), (by decide : 8 + 3 ≤ _)⟩)
        dsimp only [Pt.U, Pt.locs, Pt.cells, Pt.slots] at X30 l30 y30 z30 st30 hQ30
        subst l30 y30 z30
        obtain ⟨bb_30, rfl, N30q, Kq30, p30_0, p30_1, p30_2, p30_3⟩ := hQ30
        have N30 := Fr.app N29 N30q
        have Z30 : n0 ≤ T30.heap.size := Nat.le_trans Z27 Kq30.1
        have K30 : Keep h0 T30.heap [] := K27.trans Kq30 all0
        have sz_bb_30 : h0.size ≤ bb_30 := Nat.le_trans K27.1 p30_1
        have ne30_b21_bb_30 : b21 ≠ bb_30 := Nat.ne_of_lt (Nat.lt_of_lt_of_le f31.lt p30_1)
        have ne30_bb_27_bb_30 : bb_27 ≠ bb_30 := Nat.ne_of_lt (Nat.lt_of_lt_of_le p27_2.lt p30_1)
        obtain ⟨cq32, kq32, q32a, q32b, q32c⟩ := isOf hZ rfl p30_2
        obtain ⟨_, _, ⟨T32, L32, k32, n32⟩, -, X32, ⟨Lc32, hQ32, l32, y32, z32⟩, st32⟩ := X30.virtualBack hx (y := (⟨"com/example/mergewright/mergewright/merge/Match", "isInsertedByBoth", "()Z"⟩ : MethodName)) (z := (⟨"com/example/mergewright/mergewright/merge/Match", "isInsertedByBoth", "()Z"⟩ : MethodName)) hown (mvT hZ (kw22 hw)) (mvT hZ (kw23 hw)) (notFace_of_selects (args := #[]) (mvT hZ (kw25 hw))) (mvT hZ (kw25 hw)) (mvT hZ (kw24 hw)) (by decide) (backOf (W := 0) (rm4_n l Z a0 hw [] bb_30 T30.heap n0 Z30 p30_3) hZ (kw26 hw) (kw9 hw) (by decide) (by decide)) q32a q32c (g := (mkF m 159 #[.val (.int p1), .val (.int p2), .val (.int p3), .val (.int p4), .val (.int (0 : Int32)), .val (.int (0 : Int32)), .val (.int (1 : Int32)), .val .null, .val .null, .val (.ref bb_20), .val (.ref b21), .val (.int (1 : Int32)), .val (.ref bb_27), .val (.int (1 : Int32)), .val (.ref bb_30), .unset] [(.ref bb_30)])) rfl (by rw [hml]; rfl) (Steps.refl _) (argsL := []) (rest := []) (lenOf pd_3 rfl) rfl (by show 2 * 0 + _ ≤ _; exact Nat.le_of_eq rfl) (hb hby at_159) (fun _ _ => ⟨rfl, rfl, (by decide : 5 + 0 ≤ _), (by decide : 11 + 0 ≤ _)⟩)
        dsimp only [Pt.U, Pt.locs, Pt.cells, Pt.slots] at X32 l32 y32 z32 st32 hQ32
        subst l32 y32 z32
        obtain ⟨rfl, N32q, e32⟩ := hQ32
        have N32 := Fr.app N30 N32q
        obtain ⟨fs, hr, hrun, hended, hW, hsame⟩ := X32.leave (v := some (.int (1 : Int32))) (fun h => by rw [Bd.returns] at h; cases h)
        refine ⟨_, _, pre5 _ ?_, hrun, hended, _, _, rfl, ?_, ⟨_, rfl⟩, hW, hsame.mono (by decide) (by decide)⟩
        · skip
          refine XS.ifNo X0.here hx rfl (hb hby at_29) rfl ((if0 _ _).trans (feq hc6).1) ?_
          show Steps p.tables e below (s₁.setTop (mkF m 32 #[.val (.int p1), .val (.int p2), .val (.int p3), .val (.int p4), .val (.int (0 : Int32)), .val (.int (0 : Int32)), .unset, .unset, .unset, .unset, .unset, .unset, .unset, .unset, .unset, .unset] [])) _
          refine XS.iconst X0.here hx rfl (hb hby at_32) ?_
          show Steps p.tables e below (s₁.setTop (mkF m 33 #[.val (.int p1), .val (.int p2), .val (.int p3), .val (.int p4), .val (.int (0 : Int32)), .val (.int (0 : Int32)), .unset, .unset, .unset, .unset, .unset, .unset, .unset, .unset, .unset, .unset] [(.int (1 : Int32))])) _
          refine XS.goto X0.here hx rfl (pc0 := 33) (pc' := 37) rfl (hb hby at_33) (by decide) (by decide) ?_
          show Steps p.tables e below (s₁.setTop (mkF m 37 #[.val (.int p1), .val (.int p2), .val (.int p3), .val (.int p4), .val (.int (0 : Int32)), .val (.int (0 : Int32)), .unset, .unset, .unset, .unset, .unset, .unset, .unset, .unset, .unset, .unset] [(.int (1 : Int32))])) _
          refine XS.istore X0.here hx rfl (hb hby at_37) rfl (l' := #[.val (.int p1), .val (.int p2), .val (.int p3), .val (.int p4), .val (.int (0 : Int32)), .val (.int (0 : Int32)), .val (.int (1 : Int32)), .unset, .unset, .unset, .unset, .unset, .unset, .unset, .unset, .unset]) rfl ?_
          show Steps p.tables e below (s₁.setTop (mkF m 39 #[.val (.int p1), .val (.int p2), .val (.int p3), .val (.int p4), .val (.int (0 : Int32)), .val (.int (0 : Int32)), .val (.int (1 : Int32)), .unset, .unset, .unset, .unset, .unset, .unset, .unset, .unset, .unset] [])) _
          refine XS.iload X0.here hx rfl (hb hby at_39) rfl ?_
          show Steps p.tables e below (s₁.setTop (mkF m 41 #[.val (.int p1), .val (.int p2), .val (.int p3), .val (.int p4), .val (.int (0 : Int32)), .val (.int (0 : Int32)), .val (.int (1 : Int32)), .unset, .unset, .unset, .unset, .unset, .unset, .unset, .unset, .unset] [(.int (0 : Int32))])) _
          refine XS.ifYes X0.here hx rfl (pc0 := 41) (pc' := 51) rfl (hb hby at_41) rfl ((if0 _ _).trans (teq rfl).1) (by decide) (by decide) ?_
          show Steps p.tables e below (s₁.setTop (mkF m 51 #[.val (.int p1), .val (.int p2), .val (.int p3), .val (.int p4), .val (.int (0 : Int32)), .val (.int (0 : Int32)), .val (.int (1 : Int32)), .unset, .unset, .unset, .unset, .unset, .unset, .unset, .unset, .unset] [])) _
          refine XS.aconstNull X0.here hx rfl (hb hby at_51) ?_
          show Steps p.tables e below (s₁.setTop (mkF m 52 #[.val (.int p1), .val (.int p2), .val (.int p3), .val (.int p4), .val (.int (0 : Int32)), .val (.int (0 : Int32)), .val (.int (1 : Int32)), .unset, .unset, .unset, .unset, .unset, .unset, .unset, .unset, .unset] [.null])) _
          refine XS.astore X0.here hx rfl (hb hby at_52) rfl rfl (l' := #[.val (.int p1), .val (.int p2), .val (.int p3), .val (.int p4), .val (.int (0 : Int32)), .val (.int (0 : Int32)), .val (.int (1 : Int32)), .val .null, .unset, .unset, .unset, .unset, .unset, .unset, .unset, .unset]) rfl ?_
          show Steps p.tables e below (s₁.setTop (mkF m 54 #[.val (.int p1), .val (.int p2), .val (.int p3), .val (.int p4), .val (.int (0 : Int32)), .val (.int (0 : Int32)), .val (.int (1 : Int32)), .val .null, .unset, .unset, .unset, .unset, .unset, .unset, .unset, .unset] [])) _
          refine XS.iload X0.here hx rfl (hb hby at_54) rfl ?_
          show Steps p.tables e below (s₁.setTop (mkF m 56 #[.val (.int p1), .val (.int p2), .val (.int p3), .val (.int p4), .val (.int (0 : Int32)), .val (.int (0 : Int32)), .val (.int (1 : Int32)), .val .null, .unset, .unset, .unset, .unset, .unset, .unset, .unset, .unset] [(.int (0 : Int32))])) _
          refine XS.ifYes X0.here hx rfl (pc0 := 56) (pc' := 66) rfl (hb hby at_56) rfl ((if0 _ _).trans (teq rfl).1) (by decide) (by decide) ?_
          show Steps p.tables e below (s₁.setTop (mkF m 66 #[.val (.int p1), .val (.int p2), .val (.int p3), .val (.int p4), .val (.int (0 : Int32)), .val (.int (0 : Int32)), .val (.int (1 : Int32)), .val .null, .unset, .unset, .unset, .unset, .unset, .unset, .unset, .unset] [])) _
          refine XS.aconstNull X0.here hx rfl (hb hby at_66) ?_
          show Steps p.tables e below (s₁.setTop (mkF m 67 #[.val (.int p1), .val (.int p2), .val (.int p3), .val (.int p4), .val (.int (0 : Int32)), .val (.int (0 : Int32)), .val (.int (1 : Int32)), .val .null, .unset, .unset, .unset, .unset, .unset, .unset, .unset, .unset] [.null])) _
          refine XS.astore X0.here hx rfl (hb hby at_67) rfl rfl (l' := #[.val (.int p1), .val (.int p2), .val (.int p3), .val (.int p4), .val (.int (0 : Int32)), .val (.int (0 : Int32)), .val (.int (1 : Int32)), .val .null, .val .null, .unset, .unset, .unset, .unset, .unset, .unset, .unset]) rfl ?_
          show Steps p.tables e below (s₁.setTop (mkF m 69 #[.val (.int p1), .val (.int p2), .val (.int p3), .val (.int p4), .val (.int (0 : Int32)), .val (.int (0 : Int32)), .val (.int (1 : Int32)), .val .null, .val .null, .unset, .unset, .unset, .unset, .unset, .unset, .unset] [])) _
          refine XS.iload X0.here hx rfl (hb hby at_69) rfl ?_
          show Steps p.tables e below (s₁.setTop (mkF m 71 #[.val (.int p1), .val (.int p2), .val (.int p3), .val (.int p4), .val (.int (0 : Int32)), .val (.int (0 : Int32)), .val (.int (1 : Int32)), .val .null, .val .null, .unset, .unset, .unset, .unset, .unset, .unset, .unset] [(.int (1 : Int32))])) _
          refine XS.ifNo X0.here hx rfl (hb hby at_71) rfl ((if0 _ _).trans (feq (by decide)).1) ?_
          show Steps p.tables e below (s₁.setTop (mkF m 74 #[.val (.int p1), .val (.int p2), .val (.int p3), .val (.int p4), .val (.int (0 : Int32)), .val (.int (0 : Int32)), .val (.int (1 : Int32)), .val .null, .val .null, .unset, .unset, .unset, .unset, .unset, .unset, .unset] [])) _
          refine XS.iloadN X0.here hx rfl (hb hby at_74) rfl ?_
          show Steps p.tables e below (s₁.setTop (mkF m 75 #[.val (.int p1), .val (.int p2), .val (.int p3), .val (.int p4), .val (.int (0 : Int32)), .val (.int (0 : Int32)), .val (.int (1 : Int32)), .val .null, .val .null, .unset, .unset, .unset, .unset, .unset, .unset, .unset] [(.int p3)])) _
          refine st20 _ ?_
          show Steps p.tables e below (T20.setTop (mkF m 78 #[.val (.int p1), .val (.int p2), .val (.int p3), .val (.int p4), .val (.int (0 : Int32)), .val (.int (0 : Int32)), .val (.int (1 : Int32)), .val .null, .val .null, .unset, .unset, .unset, .unset, .unset, .unset, .unset] [(.ref bb_20)])) _
          refine XS.goto X20.here hx rfl (pc0 := 78) (pc' := 82) rfl (hb hby at_78) (by decide) (by decide) ?_
          show Steps p.tables e below (T20.setTop (mkF m 82 #[.val (.int p1), .val (.int p2), .val (.int p3), .val (.int p4), .val (.int (0 : Int32)), .val (.int (0 : Int32)), .val (.int (1 : Int32)), .val .null, .val .null, .unset, .unset, .unset, .unset, .unset, .unset, .unset] [(.ref bb_20)])) _
          refine XS.astore X20.here hx rfl (hb hby at_82) rfl rfl (l' := #[.val (.int p1), .val (.int p2), .val (.int p3), .val (.int p4), .val (.int (0 : Int32)), .val (.int (0 : Int32)), .val (.int (1 : Int32)), .val .null, .val .null, .val (.ref bb_20), .unset, .unset, .unset, .unset, .unset, .unset]) rfl ?_
          show Steps p.tables e below (T20.setTop (mkF m 84 #[.val (.int p1), .val (.int p2), .val (.int p3), .val (.int p4), .val (.int (0 : Int32)), .val (.int (0 : Int32)), .val (.int (1 : Int32)), .val .null, .val .null, .val (.ref bb_20), .unset, .unset, .unset, .unset, .unset, .unset] [])) _
          refine st21 _ ?_
          show Steps p.tables e below (T21.setTop (mkF m 87 #[.val (.int p1), .val (.int p2), .val (.int p3), .val (.int p4), .val (.int (0 : Int32)), .val (.int (0 : Int32)), .val (.int (1 : Int32)), .val .null, .val .null, .val (.ref bb_20), .unset, .unset, .unset, .unset, .unset, .unset] [(.ref b21)])) _
          refine XS.dup X21.here hx rfl (hb hby at_87) rfl rfl ?_
          show Steps p.tables e below (T21.setTop (mkF m 88 #[.val (.int p1), .val (.int p2), .val (.int p3), .val (.int p4), .val (.int (0 : Int32)), .val (.int (0 : Int32)), .val (.int (1 : Int32)), .val .null, .val .null, .val (.ref bb_20), .unset, .unset, .unset, .unset, .unset, .unset] [(.ref b21), (.ref b21)])) _
          refine XS.aload X21.here hx rfl (hb hby at_88) rfl rfl ?_
          show Steps p.tables e below (T21.setTop (mkF m 90 #[.val (.int p1), .val (.int p2), .val (.int p3), .val (.int p4), .val (.int (0 : Int32)), .val (.int (0 : Int32)), .val (.int (1 : Int32)), .val .null, .val .null, .val (.ref bb_20), .unset, .unset, .unset, .unset, .unset, .unset] [.null, (.ref b21), (.ref b21)])) _
          refine XS.aload X21.here hx rfl (hb hby at_90) rfl rfl ?_
          show Steps p.tables e below (T21.setTop (mkF m 92 #[.val (.int p1), .val (.int p2), .val (.int p3), .val (.int p4), .val (.int (0 : Int32)), .val (.int (0 : Int32)), .val (.int (1 : Int32)), .val .null, .val .null, .val (.ref bb_20), .unset, .unset, .unset, .unset, .unset, .unset] [.null, .null, (.ref b21), (.ref b21)])) _
          refine XS.aload X21.here hx rfl (hb hby at_92) rfl rfl ?_
          show Steps p.tables e below (T21.setTop (mkF m 94 #[.val (.int p1), .val (.int p2), .val (.int p3), .val (.int p4), .val (.int (0 : Int32)), .val (.int (0 : Int32)), .val (.int (1 : Int32)), .val .null, .val .null, .val (.ref bb_20), .unset, .unset, .unset, .unset, .unset, .unset] [(.ref bb_20), .null, .null, (.ref b21), (.ref b21)])) _
          refine st22.trans ?_
          show Steps p.tables e below (T22.setTop (mkF m 97 #[.val (.int p1), .val (.int p2), .val (.int p3), .val (.int p4), .val (.int (0 : Int32)), .val (.int (0 : Int32)), .val (.int (1 : Int32)), .val .null, .val .null, .val (.ref bb_20), .unset, .unset, .unset, .unset, .unset, .unset] [(.ref b21)])) _
          refine XS.astore X22.here hx rfl (hb hby at_97) rfl rfl (l' := #[.val (.int p1), .val (.int p2), .val (.int p3), .val (.int p4), .val (.int (0 : Int32)), .val (.int (0 : Int32)), .val (.int (1 : Int32)), .val .null, .val .null, .val (.ref bb_20), .val (.ref b21), .unset, .unset, .unset, .unset, .unset]) rfl ?_
          show Steps p.tables e below (T22.setTop (mkF m 99 #[.val (.int p1), .val (.int p2), .val (.int p3), .val (.int p4), .val (.int (0 : Int32)), .val (.int (0 : Int32)), .val (.int (1 : Int32)), .val .null, .val .null, .val (.ref bb_20), .val (.ref b21), .unset, .unset, .unset, .unset, .unset] [])) _
          refine XS.aload X22.here hx rfl (hb hby at_99) rfl rfl ?_
          show Steps p.tables e below (T22.setTop (mkF m 101 #[.val (.int p1), .val (.int p2), .val (.int p3), .val (.int p4), .val (.int (0 : Int32)), .val (.int (0 : Int32)), .val (.int (1 : Int32)), .val .null, .val .null, .val (.ref bb_20), .val (.ref b21), .unset, .unset, .unset, .unset, .unset] [(.ref b21)])) _
          refine st23.trans ?_
          show Steps p.tables e below (T23.setTop (mkF m 104 #[.val (.int p1), .val (.int p2), .val (.int p3), .val (.int p4), .val (.int (0 : Int32)), .val (.int (0 : Int32)), .val (.int (1 : Int32)), .val .null, .val .null, .val (.ref bb_20), .val (.ref b21), .unset, .unset, .unset, .unset, .unset] [(.int (1 : Int32))])) _
          refine XS.iload X23.here hx rfl (hb hby at_104) rfl ?_
          show Steps p.tables e below (T23.setTop (mkF m 106 #[.val (.int p1), .val (.int p2), .val (.int p3), .val (.int p4), .val (.int (0 : Int32)), .val (.int (0 : Int32)), .val (.int (1 : Int32)), .val .null, .val .null, .val (.ref bb_20), .val (.ref b21), .unset, .unset, .unset, .unset, .unset] [(.int (0 : Int32)), (.int (1 : Int32))])) _
          refine XS.ifNo X23.here hx rfl (hb hby at_106) rfl ((if0 _ _).trans (teq rfl).2) ?_
          show Steps p.tables e below (T23.setTop (mkF m 109 #[.val (.int p1), .val (.int p2), .val (.int p3), .val (.int p4), .val (.int (0 : Int32)), .val (.int (0 : Int32)), .val (.int (1 : Int32)), .val .null, .val .null, .val (.ref bb_20), .val (.ref b21), .unset, .unset, .unset, .unset, .unset] [(.int (1 : Int32))])) _
          refine XS.iconst X23.here hx rfl (hb hby at_109) ?_
          show Steps p.tables e below (T23.setTop (mkF m 110 #[.val (.int p1), .val (.int p2), .val (.int p3), .val (.int p4), .val (.int (0 : Int32)), .val (.int (0 : Int32)), .val (.int (1 : Int32)), .val .null, .val .null, .val (.ref bb_20), .val (.ref b21), .unset, .unset, .unset, .unset, .unset] [(.int (1 : Int32)), (.int (1 : Int32))])) _
          refine XS.goto X23.here hx rfl (pc0 := 110) (pc' := 114) rfl (hb hby at_110) (by decide) (by decide) ?_
          show Steps p.tables e below (T23.setTop (mkF m 114 #[.val (.int p1), .val (.int p2), .val (.int p3), .val (.int p4), .val (.int (0 : Int32)), .val (.int (0 : Int32)), .val (.int (1 : Int32)), .val .null, .val .null, .val (.ref bb_20), .val (.ref b21), .unset, .unset, .unset, .unset, .unset] [(.int (1 : Int32)), (.int (1 : Int32))])) _
          refine XS.icmpNo X23.here hx rfl (hb hby at_114) rfl (teq rfl).2 ?_
          show Steps p.tables e below (T23.setTop (mkF m 117 #[.val (.int p1), .val (.int p2), .val (.int p3), .val (.int p4), .val (.int (0 : Int32)), .val (.int (0 : Int32)), .val (.int (1 : Int32)), .val .null, .val .null, .val (.ref bb_20), .val (.ref b21), .unset, .unset, .unset, .unset, .unset] [])) _
          refine XS.iconst X23.here hx rfl (hb hby at_117) ?_
          show Steps p.tables e below (T23.setTop (mkF m 118 #[.val (.int p1), .val (.int p2), .val (.int p3), .val (.int p4), .val (.int (0 : Int32)), .val (.int (0 : Int32)), .val (.int (1 : Int32)), .val .null, .val .null, .val (.ref bb_20), .val (.ref b21), .unset, .unset, .unset, .unset, .unset] [(.int (1 : Int32))])) _
          refine XS.goto X23.here hx rfl (pc0 := 118) (pc' := 122) rfl (hb hby at_118) (by decide) (by decide) ?_
          show Steps p.tables e below (T23.setTop (mkF m 122 #[.val (.int p1), .val (.int p2), .val (.int p3), .val (.int p4), .val (.int (0 : Int32)), .val (.int (0 : Int32)), .val (.int (1 : Int32)), .val .null, .val .null, .val (.ref bb_20), .val (.ref b21), .unset, .unset, .unset, .unset, .unset] [(.int (1 : Int32))])) _
          refine XS.istore X23.here hx rfl (hb hby at_122) rfl (l' := #[.val (.int p1), .val (.int p2), .val (.int p3), .val (.int p4), .val (.int (0 : Int32)), .val (.int (0 : Int32)), .val (.int (1 : Int32)), .val .null, .val .null, .val (.ref bb_20), .val (.ref b21), .val (.int (1 : Int32)), .unset, .unset, .unset, .unset]) rfl ?_
          show Steps p.tables e below (T23.setTop (mkF m 124 #[.val (.int p1), .val (.int p2), .val (.int p3), .val (.int p4), .val (.int (0 : Int32)), .val (.int (0 : Int32)), .val (.int (1 : Int32)), .val .null, .val .null, .val (.ref bb_20), .val (.ref b21), .val (.int (1 : Int32)), .unset, .unset, .unset, .unset] [])) _
          refine XS.iloadN X23.here hx rfl (hb hby at_124) rfl ?_
          show Steps p.tables e below (T23.setTop (mkF m 125 #[.val (.int p1), .val (.int p2), .val (.int p3), .val (.int p4), .val (.int (0 : Int32)), .val (.int (0 : Int32)), .val (.int (1 : Int32)), .val .null, .val .null, .val (.ref bb_20), .val (.ref b21), .val (.int (1 : Int32)), .unset, .unset, .unset, .unset] [(.int p1)])) _
          refine st25 _ ?_
          show Steps p.tables e below (T25.setTop (mkF m 128 #[.val (.int p1), .val (.int p2), .val (.int p3), .val (.int p4), .val (.int (0 : Int32)), .val (.int (0 : Int32)), .val (.int (1 : Int32)), .val .null, .val .null, .val (.ref bb_20), .val (.ref b21), .val (.int (1 : Int32)), .unset, .unset, .unset, .unset] [(.ref bb_25)])) _
          refine st27 _ ?_
          show Steps p.tables e below (T27.setTop (mkF m 131 #[.val (.int p1), .val (.int p2), .val (.int p3), .val (.int p4), .val (.int (0 : Int32)), .val (.int (0 : Int32)), .val (.int (1 : Int32)), .val .null, .val .null, .val (.ref bb_20), .val (.ref b21), .val (.int (1 : Int32)), .unset, .unset, .unset, .unset] [(.ref bb_27)])) _
          refine XS.astore X27.here hx rfl (hb hby at_131) rfl rfl (l' := #[.val (.int p1), .val (.int p2), .val (.int p3), .val (.int p4), .val (.int (0 : Int32)), .val (.int (0 : Int32)), .val (.int (1 : Int32)), .val .null, .val .null, .val (.ref bb_20), .val (.ref b21), .val (.int (1 : Int32)), .val (.ref bb_27), .unset, .unset, .unset]) rfl ?_
          show Steps p.tables e below (T27.setTop (mkF m 133 #[.val (.int p1), .val (.int p2), .val (.int p3), .val (.int p4), .val (.int (0 : Int32)), .val (.int (0 : Int32)), .val (.int (1 : Int32)), .val .null, .val .null, .val (.ref bb_20), .val (.ref b21), .val (.int (1 : Int32)), .val (.ref bb_27), .unset, .unset, .unset] [])) _
          refine XS.aload X27.here hx rfl (hb hby at_133) rfl rfl ?_
          show Steps p.tables e below (T27.setTop (mkF m 135 #[.val (.int p1), .val (.int p2), .val (.int p3), .val (.int p4), .val (.int (0 : Int32)), .val (.int (0 : Int32)), .val (.int (1 : Int32)), .val .null, .val .null, .val (.ref bb_20), .val (.ref b21), .val (.int (1 : Int32)), .val (.ref bb_27), .unset, .unset, .unset] [(.ref bb_27)])) _
          refine st29.trans ?_
          show Steps p.tables e below (T29.setTop (mkF m 138 #[.val (.int p1), .val (.int p2), .val (.int p3), .val (.int p4), .val (.int (0 : Int32)), .val (.int (0 : Int32)), .val (.int (1 : Int32)), .val .null, .val .null, .val (.ref bb_20), .val (.ref b21), .val (.int (1 : Int32)), .val (.ref bb_27), .unset, .unset, .unset] [(.int (0 : Int32))])) _
          refine XS.ifNo X29.here hx rfl (hb hby at_138) rfl ((if0 _ _).trans (teq rfl).2) ?_
          show Steps p.tables e below (T29.setTop (mkF m 141 #[.val (.int p1), .val (.int p2), .val (.int p3), .val (.int p4), .val (.int (0 : Int32)), .val (.int (0 : Int32)), .val (.int (1 : Int32)), .val .null, .val .null, .val (.ref bb_20), .val (.ref b21), .val (.int (1 : Int32)), .val (.ref bb_27), .unset, .unset, .unset] [])) _
          refine XS.iconst X29.here hx rfl (hb hby at_141) ?_
          show Steps p.tables e below (T29.setTop (mkF m 142 #[.val (.int p1), .val (.int p2), .val (.int p3), .val (.int p4), .val (.int (0 : Int32)), .val (.int (0 : Int32)), .val (.int (1 : Int32)), .val .null, .val .null, .val (.ref bb_20), .val (.ref b21), .val (.int (1 : Int32)), .val (.ref bb_27), .unset, .unset, .unset] [(.int (1 : Int32))])) _
          refine XS.goto X29.here hx rfl (pc0 := 142) (pc' := 146) rfl (hb hby at_142) (by decide) (by decide) ?_
          show Steps p.tables e below (T29.setTop (mkF m 146 #[.val (.int p1), .val (.int p2), .val (.int p3), .val (.int p4), .val (.int (0 : Int32)), .val (.int (0 : Int32)), .val (.int (1 : Int32)), .val .null, .val .null, .val (.ref bb_20), .val (.ref b21), .val (.int (1 : Int32)), .val (.ref bb_27), .unset, .unset, .unset] [(.int (1 : Int32))])) _
          refine XS.istore X29.here hx rfl (hb hby at_146) rfl (l' := #[.val (.int p1), .val (.int p2), .val (.int p3), .val (.int p4), .val (.int (0 : Int32)), .val (.int (0 : Int32)), .val (.int (1 : Int32)), .val .null, .val .null, .val (.ref bb_20), .val (.ref b21), .val (.int (1 : Int32)), .val (.ref bb_27), .val (.int (1 : Int32)), .unset, .unset]) rfl ?_
          show Steps p.tables e below (T29.setTop (mkF m 148 #[.val (.int p1), .val (.int p2), .val (.int p3), .val (.int p4), .val (.int (0 : Int32)), .val (.int (0 : Int32)), .val (.int (1 : Int32)), .val .null, .val .null, .val (.ref bb_20), .val (.ref b21), .val (.int (1 : Int32)), .val (.ref bb_27), .val (.int (1 : Int32)), .unset, .unset] [])) _
          refine XS.aload X29.here hx rfl (hb hby at_148) rfl rfl ?_
          show Steps p.tables e below (T29.setTop (mkF m 150 #[.val (.int p1), .val (.int p2), .val (.int p3), .val (.int p4), .val (.int (0 : Int32)), .val (.int (0 : Int32)), .val (.int (1 : Int32)), .val .null, .val .null, .val (.ref bb_20), .val (.ref b21), .val (.int (1 : Int32)), .val (.ref bb_27), .val (.int (1 : Int32)), .unset, .unset] [.null])) _
          refine XS.aload X29.here hx rfl (hb hby at_150) rfl rfl ?_
          show Steps p.tables e below (T29.setTop (mkF m 152 #[.val (.int p1), .val (.int p2), .val (.int p3), .val (.int p4), .val (.int (0 : Int32)), .val (.int (0 : Int32)), .val (.int (1 : Int32)), .val .null, .val .null, .val (.ref bb_20), .val (.ref b21), .val (.int (1 : Int32)), .val (.ref bb_27), .val (.int (1 : Int32)), .unset, .unset] [(.ref bb_20), .null])) _
          refine st30 _ ?_
          show Steps p.tables e below (T30.setTop (mkF m 155 #[.val (.int p1), .val (.int p2), .val (.int p3), .val (.int p4), .val (.int (0 : Int32)), .val (.int (0 : Int32)), .val (.int (1 : Int32)), .val .null, .val .null, .val (.ref bb_20), .val (.ref b21), .val (.int (1 : Int32)), .val (.ref bb_27), .val (.int (1 : Int32)), .unset, .unset] [(.ref bb_30)])) _
          refine XS.astore X30.here hx rfl (hb hby at_155) rfl rfl (l' := #[.val (.int p1), .val (.int p2), .val (.int p3), .val (.int p4), .val (.int (0 : Int32)), .val (.int (0 : Int32)), .val (.int (1 : Int32)), .val .null, .val .null, .val (.ref bb_20), .val (.ref b21), .val (.int (1 : Int32)), .val (.ref bb_27), .val (.int (1 : Int32)), .val (.ref bb_30), .unset]) rfl ?_
          show Steps p.tables e below (T30.setTop (mkF m 157 #[.val (.int p1), .val (.int p2), .val (.int p3), .val (.int p4), .val (.int (0 : Int32)), .val (.int (0 : Int32)), .val (.int (1 : Int32)), .val .null, .val .null, .val (.ref bb_20), .val (.ref b21), .val (.int (1 : Int32)), .val (.ref bb_27), .val (.int (1 : Int32)), .val (.ref bb_30), .unset] [])) _
          refine XS.aload X30.here hx rfl (hb hby at_157) rfl rfl ?_
          show Steps p.tables e below (T30.setTop (mkF m 159 #[.val (.int p1), .val (.int p2), .val (.int p3), .val (.int p4), .val (.int (0 : Int32)), .val (.int (0 : Int32)), .val (.int (1 : Int32)), .val .null, .val .null, .val (.ref bb_20), .val (.ref b21), .val (.int (1 : Int32)), .val (.ref bb_27), .val (.int (1 : Int32)), .val (.ref bb_30), .unset] [(.ref bb_30)])) _
          refine st32.trans ?_
          show Steps p.tables e below (T32.setTop (mkF m 162 #[.val (.int p1), .val (.int p2), .val (.int p3), .val (.int p4), .val (.int (0 : Int32)), .val (.int (0 : Int32)), .val (.int (1 : Int32)), .val .null, .val .null, .val (.ref bb_20), .val (.ref b21), .val (.int (1 : Int32)), .val (.ref bb_27), .val (.int (1 : Int32)), .val (.ref bb_30), .unset] [(.int (1 : Int32))])) _
          refine XS.istore X32.here hx rfl (hb hby at_162) rfl (l' := #[.val (.int p1), .val (.int p2), .val (.int p3), .val (.int p4), .val (.int (0 : Int32)), .val (.int (0 : Int32)), .val (.int (1 : Int32)), .val .null, .val .null, .val (.ref bb_20), .val (.ref b21), .val (.int (1 : Int32)), .val (.ref bb_27), .val (.int (1 : Int32)), .val (.ref bb_30), .val (.int (1 : Int32))]) rfl ?_
          show Steps p.tables e below (T32.setTop (mkF m 164 #[.val (.int p1), .val (.int p2), .val (.int p3), .val (.int p4), .val (.int (0 : Int32)), .val (.int (0 : Int32)), .val (.int (1 : Int32)), .val .null, .val .null, .val (.ref bb_20), .val (.ref b21), .val (.int (1 : Int32)), .val (.ref bb_27), .val (.int (1 : Int32)), .val (.ref bb_30), .val (.int (1 : Int32))] [])) _
          refine XS.iload X32.here hx rfl (hb hby at_164) rfl ?_
          show Steps p.tables e below (T32.setTop (mkF m 166 #[.val (.int p1), .val (.int p2), .val (.int p3), .val (.int p4), .val (.int (0 : Int32)), .val (.int (0 : Int32)), .val (.int (1 : Int32)), .val .null, .val .null, .val (.ref bb_20), .val (.ref b21), .val (.int (1 : Int32)), .val (.ref bb_27), .val (.int (1 : Int32)), .val (.ref bb_30), .val (.int (1 : Int32))] [(.int (1 : Int32))])) _
          refine XS.ifNo X32.here hx rfl (hb hby at_166) rfl ((if0 _ _).trans (feq (by decide)).1) ?_
          show Steps p.tables e below (T32.setTop (mkF m 169 #[.val (.int p1), .val (.int p2), .val (.int p3), .val (.int p4), .val (.int (0 : Int32)), .val (.int (0 : Int32)), .val (.int (1 : Int32)), .val .null, .val .null, .val (.ref bb_20), .val (.ref b21), .val (.int (1 : Int32)), .val (.ref bb_27), .val (.int (1 : Int32)), .val (.ref bb_30), .val (.int (1 : Int32))] [])) _
          refine XS.iload X32.here hx rfl (hb hby at_169) rfl ?_
          show Steps p.tables e below (T32.setTop (mkF m 171 #[.val (.int p1), .val (.int p2), .val (.int p3), .val (.int p4), .val (.int (0 : Int32)), .val (.int (0 : Int32)), .val (.int (1 : Int32)), .val .null, .val .null, .val (.ref bb_20), .val (.ref b21), .val (.int (1 : Int32)), .val (.ref bb_27), .val (.int (1 : Int32)), .val (.ref bb_30), .val (.int (1 : Int32))] [(.int (1 : Int32))])) _
          refine XS.ifNo X32.here hx rfl (hb hby at_171) rfl ((if0 _ _).trans (feq (by decide)).1) ?_
          show Steps p.tables e below (T32.setTop (mkF m 174 #[.val (.int p1), .val (.int p2), .val (.int p3), .val (.int p4), .val (.int (0 : Int32)), .val (.int (0 : Int32)), .val (.int (1 : Int32)), .val .null, .val .null, .val (.ref bb_20), .val (.ref b21), .val (.int (1 : Int32)), .val (.ref bb_27), .val (.int (1 : Int32)), .val (.ref bb_30), .val (.int (1 : Int32))] [])) _
          refine XS.iload X32.here hx rfl (hb hby at_174) rfl ?_
          show Steps p.tables e below (T32.setTop (mkF m 176 #[.val (.int p1), .val (.int p2), .val (.int p3), .val (.int p4), .val (.int (0 : Int32)), .val (.int (0 : Int32)), .val (.int (1 : Int32)), .val .null, .val .null, .val (.ref bb_20), .val (.ref b21), .val (.int (1 : Int32)), .val (.ref bb_27), .val (.int (1 : Int32)), .val (.ref bb_30), .val (.int (1 : Int32))] [(.int (1 : Int32))])) _
          refine XS.ifNo X32.here hx rfl (hb hby at_176) rfl ((if0 _ _).trans (feq (by decide)).1) ?_
          show Steps p.tables e below (T32.setTop (mkF m 179 #[.val (.int p1), .val (.int p2), .val (.int p3), .val (.int p4), .val (.int (0 : Int32)), .val (.int (0 : Int32)), .val (.int (1 : Int32)), .val .null, .val .null, .val (.ref bb_20), .val (.ref b21), .val (.int (1 : Int32)), .val (.ref bb_27), .val (.int (1 : Int32)), .val (.ref bb_30), .val (.int (1 : Int32))] [])) _
          refine XS.iconst X32.here hx rfl (hb hby at_179) ?_
          show Steps p.tables e below (T32.setTop (mkF m 180 #[.val (.int p1), .val (.int p2), .val (.int p3), .val (.int p4), .val (.int (0 : Int32)), .val (.int (0 : Int32)), .val (.int (1 : Int32)), .val .null, .val .null, .val (.ref bb_20), .val (.ref b21), .val (.int (1 : Int32)), .val (.ref bb_27), .val (.int (1 : Int32)), .val (.ref bb_30), .val (.int (1 : Int32))] [(.int (1 : Int32))])) _
          refine XS.goto X32.here hx rfl (pc0 := 180) (pc' := 184) rfl (hb hby at_180) (by decide) (by decide) ?_
          show Steps p.tables e below (T32.setTop (mkF m 184 #[.val (.int p1), .val (.int p2), .val (.int p3), .val (.int p4), .val (.int (0 : Int32)), .val (.int (0 : Int32)), .val (.int (1 : Int32)), .val .null, .val .null, .val (.ref bb_20), .val (.ref b21), .val (.int (1 : Int32)), .val (.ref bb_27), .val (.int (1 : Int32)), .val (.ref bb_30), .val (.int (1 : Int32))] [(.int (1 : Int32))])) _
          exact retN X32 hx (t := .boolean) Bd.returns (by simp) (hb hby at_184) hr
        · show Q_rm0 Z p1 p2 p3 p4 w_cache h0 n0 _ T32.heap _
          rw [e32]
          exact ⟨rfl, N32, K30⟩
    · skip
      have pre34 : ∀ t, Steps p.tables e below (s₁.setTop (mkF m 29 #[.val (.int p1), .val (.int p2), .val (.int p3), .val (.int p4), .val (.int (0 : Int32)), .val (.int (1 : Int32)), .unset, .unset, .unset, .unset, .unset, .unset, .unset, .unset, .unset, .unset] [(.int (p4 &&& (4 : Int32)))])) t → Steps p.tables e below (s₁.setTop (entryFrame m #[(.int p1), (.int p2), (.int p3), (.int p4)] maxLocals)) t := fun t k => pre3 t (by
        refine XS.ifNo X0.here hx rfl (hb hby at_16) rfl ((if0 _ _).trans (feq hc4).1) ?_
        show Steps p.tables e below (s₁.setTop (mkF m 19 #[.val (.int p1), .val (.int p2), .val (.int p3), .val (.int p4), .val (.int (0 : Int32)), .unset, .unset, .unset, .unset, .unset, .unset, .unset, .unset, .unset, .unset, .unset] [])) _
        refine XS.iconst X0.here hx rfl (hb hby at_19) ?_
        show Steps p.tables e below (s₁.setTop (mkF m 20 #[.val (.int p1), .val (.int p2), .val (.int p3), .val (.int p4), .val (.int (0 : Int32)), .unset, .unset, .unset, .unset, .unset, .unset, .unset, .unset, .unset, .unset, .unset] [(.int (1 : Int32))])) _
        refine XS.goto X0.here hx rfl (pc0 := 20) (pc' := 24) rfl (hb hby at_20) (by decide) (by decide) ?_
        show Steps p.tables e below (s₁.setTop (mkF m 24 #[.val (.int p1), .val (.int p2), .val (.int p3), .val (.int p4), .val (.int (0 : Int32)), .unset, .unset, .unset, .unset, .unset, .unset, .unset, .unset, .unset, .unset, .unset] [(.int (1 : Int32))])) _
        refine XS.istore X0.here hx rfl (hb hby at_24) rfl (l' := #[.val (.int p1), .val (.int p2), .val (.int p3), .val (.int p4), .val (.int (0 : Int32)), .val (.int (1 : Int32)), .unset, .unset, .unset, .unset, .unset, .unset, .unset, .unset, .unset, .unset]) rfl ?_
        show Steps p.tables e below (s₁.setTop (mkF m 26 #[.val (.int p1), .val (.int p2), .val (.int p3), .val (.int p4), .val (.int (0 : Int32)), .val (.int (1 : Int32)), .unset, .unset, .unset, .unset, .unset, .unset, .unset, .unset, .unset, .unset] [])) _
        refine XS.iloadN X0.here hx rfl (hb hby at_26) rfl ?_
        show Steps p.tables e below (s₁.setTop (mkF m 27 #[.val (.int p1), .val (.int p2), .val (.int p3), .val (.int p4), .val (.int (0 : Int32)), .val (.int (1 : Int32)), .unset, .unset, .unset, .unset, .unset, .unset, .unset, .unset, .unset, .unset] [(.int p4)])) _
        refine XS.iconst X0.here hx rfl (hb hby at_27) ?_
        show Steps p.tables e below (s₁.setTop (mkF m 28 #[.val (.int p1), .val (.int p2), .val (.int p3), .val (.int p4), .val (.int (0 : Int32)), .val (.int (1 : Int32)), .unset, .unset, .unset, .unset, .unset, .unset, .unset, .unset, .unset, .unset] [(.int (4 : Int32)), (.int p4)])) _
        refine XS.iand X0.here hx rfl (hb hby at_28) rfl ?_
        show Steps p.tables e below (s₁.setTop (mkF m 29 #[.val (.int p1), .val (.int p2), .val (.int p3), .val (.int p4), .val (.int (0 : Int32)), .val (.int (1 : Int32)), .unset, .unset, .unset, .unset, .unset, .unset, .unset, .unset, .unset, .unset] [(.int (p4 &&& (4 : Int32)))])) _
        exact k)
      by_cases hc35 : (p4 &&& (4 : Int32)) = (0 : Int32)
      · skip
        obtain ⟨_, _, ⟨T36, L36, k36, n36⟩, -, X36, ⟨Lc36, hQ36, l36, y36, z36⟩, st36⟩ := Jvm.LawKit.callS X0 hx (y := (⟨"java/lang/Integer", "valueOf", "(I)Ljava/lang/Integer;"⟩ : MethodName)) hown (mvT hZ (kw0 hw)) (mvT hZ (kw1 hw)) (mvT hZ (kw2 hw)) (mvT hZ (kw3 hw)) (by decide) (backOf (W := 0) (rm1 l Z a0 hw [] p2 w_cache h0 n0 Z0 P0 P1 P2 HC) hZ (kw3 hw) (kw2 hw) (by decide) (by decide)) (g := (mkF m 60 #[.val (.int p1), .val (.int p2), .val (.int p3), .val (.int p4), .val (.int (0 : Int32)), .val (.int (1 : Int32)), .val (.int (0 : Int32)), .val .null, .unset, .unset, .unset, .unset, .unset, .unset, .unset, .unset] [(.int p2)])) rfl (by rw [hml]; rfl) (argsL := [(.int p2)]) (rest := []) (lenOf pd_4 rfl) rfl (by show 2 * 0 + _ ≤ _; exact Nat.le_of_eq rfl) (hb hby at_60) (fun _ _ => ⟨rfl, e0, (by decide : 0 + 1 ≤ _), (by decide : 0 + 1 ≤ _)⟩)
        dsimp only [Pt.U, Pt.locs, Pt.cells, Pt.slots] at X36 l36 y36 z36 st36 hQ36
        subst l36 y36 z36
        obtain ⟨bb_36, rfl, N36q, Kq36⟩ := hQ36
        have N36 := Fr.app N0 N36q
        have Z36 : n0 ≤ T36.heap.size := Nat.le_trans Z0 Kq36.1
        have K36 : Keep h0 T36.heap [] := KR.trans Kq36 all0
        obtain ⟨T37, h37, X37, e37, E37, A37, D37, -, st37⟩ := newO X36 hx hZ hown (kw7 hw) (kw8 hw) (kw9 hw) rfl (g := (mkF m 84 #[.val (.int p1), .val (.int p2), .val (.int p3), .val (.int p4), .val (.int (0 : Int32)), .val (.int (1 : Int32)), .val (.int (0 : Int32)), .val .null, .val (.ref bb_36), .val .null, .unset, .unset, .unset, .unset, .unset, .unset] [])) rfl (hb hby at_84) (by decide) (by decide)
        obtain ⟨b37, g37⟩ : ∃ z, z = T36.heap.size := ⟨_, rfl⟩
        rw [← g37] at A37 D37 st37
        have g_b37 : n0 ≤ b37 := Nat.le_trans Z36 (Nat.le_of_eq g37.symm)
        have sz_b37 : h0.size ≤ b37 := Nat.le_trans K36.1 (Nat.le_of_eq g37.symm)
        have Z37 : n0 ≤ h37.size := Nat.le_trans Z36 E37.1
        have K37 : Keep h0 h37 [] := K36.ext E37
        have F37_current : Fld Z h37 b37 "com/example/mergewright/mergewright/merge/Match" "current" "Ljava/lang/Object;" .null := D37 (Or.inr (kw17 hw)) (ty := (.object "java/lang/Object")) (by decide)
        have F37_base : Fld Z h37 b37 "com/example/mergewright/mergewright/merge/Match" "base" "Ljava/lang/Object;" .null := D37 (Or.inr (kw19 hw)) (ty := (.object "java/lang/Object")) (by decide)
        have F37_other : Fld Z h37 b37 "com/example/mergewright/mergewright/merge/Match" "other" "Ljava/lang/Object;" .null := D37 (Or.inr (kw21 hw)) (ty := (.object "java/lang/Object")) (by decide)
        obtain ⟨_, _, ⟨T38, L38, k38, n38⟩, -, X38, ⟨Lc38, hQ38, l38, y38, z38⟩, st38⟩ := X37.specialBack hx (y := (⟨"com/example/mergewright/mergewright/merge/Match", "<init>", "(Ljava/lang/Object;Ljava/lang/Object;Ljava/lang/Object;)V"⟩ : MethodName)) rfl hown (mvT hZ (kw10 hw)) (mvT hZ (kw11 hw)) (mvT hZ (kw12 hw)) (by decide) (backOf (W := 1) (rm2_nrn l Z a0 hw [] b37 bb_36 h37 n0 Z37 A37 g_b37 F37_current F37_base F37_other) hZ (kw12 hw) (kw9 hw) (by decide) (by decide)) (g := (mkF m 94 #[.val (.int p1), .val (.int p2), .val (.int p3), .val (.int p4), .val (.int (0 : Int32)), .val (.int (1 : Int32)), .val (.int (0 : Int32)), .val .null, .val (.ref bb_36), .val .null, .unset, .unset, .unset, .unset, .unset, .unset] [.null, (.ref bb_36), .null, (.ref b37), (.ref b37)])) rfl (by rw [hml]; rfl) (Steps.refl _) (a := b37) (argsL := [.null, (.ref bb_36), .null]) (rest := [(.ref b37)]) (lenOf pd_2 rfl) rfl (by show 2 * 0 + _ ≤ _; exact Nat.le_of_eq rfl) (hb hby at_94) (fun _ _ => ⟨rfl, e37, (by decide : 2 + 0 ≤ _), (by decide : 4 + 0 ≤ _)⟩)
        dsimp only [Pt.U, Pt.locs, Pt.cells, Pt.slots] at X38 l38 y38 z38 st38 hQ38
        subst l38 y38 z38
        obtain ⟨rfl, N38q, Kq38, p38_0⟩ := hQ38
        have N38 := Fr.app N36 N38q
        have Z38 : n0 ≤ T38.heap.size := Nat.le_trans Z37 Kq38.1
        have K38 : Keep h0 T38.heap [] := K37.trans Kq38 (allS (Or.inr sz_b37) all0)
        have f40 : Exa Z T38.heap b37 "com/example/mergewright/mergewright/merge/Match" := (A37.keep Kq38)
        obtain ⟨cq39, kq39, q39a, q39b, q39c⟩ := isOf hZ rfl f40
        obtain ⟨_, _, ⟨T39, L39, k39, n39⟩, -, X39, ⟨Lc39, hQ39, l39, y39, z39⟩, st39⟩ := X38.virtualBack hx (y := (⟨"com/example/mergewright/mergewright/merge/Match", "isInsertedByBoth", "()Z"⟩ : MethodName)) (z := (⟨"com/example/mergewright/mergewright/merge/Match", "isInsertedByBoth", "()Z"⟩ : MethodName)) hown (mvT hZ (kw22 hw)) (mvT hZ (kw23 hw)) (notFace_of_selects (args := #[]) (mvT hZ (kw25 hw))) (mvT hZ (kw25 hw)) (mvT hZ (kw24 hw)) (by decide) (backOf (W := 0) (rm4_r l Z a0 hw [] b37 bb_36 T38.heap n0 Z38 p38_0) hZ (kw26 hw) (kw9 hw) (by decide) (by decide)) q39a q39c (g := (mkF m 101 #[.val (.int p1), .val (.int p2), .val (.int p3), .val (.int p4), .val (.int (0 : Int32)), .val (.int (1 : Int32)), .val (.int (0 : Int32)), .val .null, .val (.ref bb_36), .val .null, .val (.ref b37), .unset, .unset, .unset, .unset, .unset] [(.ref b37)])) rfl (by rw [hml]; rfl) (Steps.refl _) (argsL := []) (rest := []) (lenOf pd_3 rfl) rfl (by show 2 * 0 + _ ≤ _; exact Nat.le_of_eq rfl) (hb hby at_101) (fun _ _ => ⟨rfl, rfl, (by decide : 2 + 0 ≤ _), (by decide : 4 + 0 ≤ _)⟩)
        dsimp only [Pt.U, Pt.locs, Pt.cells, Pt.slots] at X39 l39 y39 z39 st39 hQ39
        subst l39 y39 z39
        obtain ⟨rfl, N39q, e39⟩ := hQ39
        have N39 := Fr.app N38 N39q
        have f42 : Old Z n0 T38.heap := (((P0.keep Kq36 all0).ext E37).keep Kq38 (allS g_b37 all0))
        obtain ⟨_, _, ⟨T41, L41, k41, n41⟩, -, X41, ⟨Lc41, hQ41, l41, y41, z41⟩, st41⟩ := Jvm.LawKit.callS X39 hx (y := (⟨"java/lang/Integer", "valueOf", "(I)Ljava/lang/Integer;"⟩ : MethodName)) hown (mvT hZ (kw0 hw)) (mvT hZ (kw1 hw)) (mvT hZ (kw2 hw)) (mvT hZ (kw3 hw)) (by decide) (backOf (W := 0) (rm1 l Z a0 hw [] p1 w_cache T38.heap n0 Z38 f42 P1 P2 HC) hZ (kw3 hw) (kw2 hw) (by decide) (by decide)) (g := (mkF m 125 #[.val (.int p1), .val (.int p2), .val (.int p3), .val (.int p4), .val (.int (0 : Int32)), .val (.int (1 : Int32)), .val (.int (0 : Int32)), .val .null, .val (.ref bb_36), .val .null, .val (.ref b37), .val (.int (1 : Int32)), .unset, .unset, .unset, .unset] [(.int p1)])) rfl (by rw [hml]; rfl) (argsL := [(.int p1)]) (rest := []) (lenOf pd_4 rfl) rfl (by show 2 * 0 + _ ≤ _; exact Nat.le_of_eq rfl) (hb hby at_125) (fun _ _ => ⟨rfl, e39, (by decide : 2 + 1 ≤ _), (by decide : 4 + 1 ≤ _)⟩)
        dsimp only [Pt.U, Pt.locs, Pt.cells, Pt.slots] at X41 l41 y41 z41 st41 hQ41
        subst l41 y41 z41
        obtain ⟨bb_41, rfl, N41q, Kq41⟩ := hQ41
        have N41 := Fr.app N39 N41q
        have Z41 : n0 ≤ T41.heap.size := Nat.le_trans Z38 Kq41.1
        have K41 : Keep h0 T41.heap [] := K38.trans Kq41 all0
        have f44 : Exa Z T41.heap b37 "com/example/mergewright/mergewright/merge/Match" := (f40.keep Kq41)
        obtain ⟨_, _, ⟨T43, L43, k43, n43⟩, -, X43, ⟨Lc43, hQ43, l43, y43, z43⟩, st43⟩ := Jvm.LawKit.callS X41 hx (y := (⟨"com/example/mergewright/mergewright/merge/Match", "inserted", "(Ljava/lang/Object;)Lcom/example/mergewright/mergewright/merge/Match;"⟩ : MethodName)) hown (mvT hZ (kw27 hw)) (mvT hZ (kw28 hw)) (mvT hZ (kw9 hw)) (mvT hZ (kw29 hw)) (by decide) (backOf (W := 0) (rm5 l Z a0 hw [] bb_41 T41.heap n0 Z41 ) hZ (kw29 hw) (kw9 hw) (by decide) (by decide)) (g := (mkF m 128 #[.val (.int p1), .val (.int p2), .val (.int p3), .val (.int p4), .val (.int (0 : Int32)), .val (.int (1 : Int32)), .val (.int (0 : Int32)), .val .null, .val (.ref bb_36), .val .null, .val (.ref b37), .val (.int (1 : Int32)), .unset, .unset, .unset, .unset] [(.ref bb_41)])) rfl (by rw [hml]; rfl) (argsL := [(.ref bb_41)]) (rest := []) (lenOf pd_5 rfl) rfl (by show 2 * 0 + _ ≤ _; exact Nat.le_of_eq rfl) (hb hby at_128) (fun _ _ => ⟨rfl, rfl, (by decide : 3 + 1 ≤ _), (by decide : 5 + 3 ≤ _)⟩)
        dsimp only [Pt.U, Pt.locs, Pt.cells, Pt.slots] at X43 l43 y43 z43 st43 hQ43
        subst l43 y43 z43
        obtain ⟨bb_43, rfl, N43q, Kq43, p43_0, p43_1, p43_2, p43_3⟩ := hQ43
        have N43 := Fr.app N41 N43q
        have Z43 : n0 ≤ T43.heap.size := Nat.le_trans Z41 Kq43.1
        have K43 : Keep h0 T43.heap [] := K41.trans Kq43 all0
        have sz_bb_43 : h0.size ≤ bb_43 := Nat.le_trans K41.1 p43_1
        have ne43_b37_bb_43 : b37 ≠ bb_43 := Nat.ne_of_lt (Nat.lt_of_lt_of_le f44.lt p43_1)
        obtain ⟨cq45, kq45, q45a, q45b, q45c⟩ := isOf hZ rfl p43_2
        obtain ⟨_, _, ⟨T45, L45, k45, n45⟩, -, X45, ⟨Lc45, hQ45, l45, y45, z45⟩, st45⟩ := X43.virtualBack hx (y := (⟨"com/example/mergewright/mergewright/merge/Match", "isInsertedByBoth", "()Z"⟩ : MethodName)) (z := (⟨"com/example/mergewright/mergewright/merge/Match", "isInsertedByBoth", "()Z"⟩ : MethodName)) hown (mvT hZ (kw22 hw)) (mvT hZ (kw23 hw)) (notFace_of_selects (args := #[]) (mvT hZ (kw25 hw))) (mvT hZ (kw25 hw)) (mvT hZ (kw24 hw)) (by decide) (backOf (W := 0) (rm4_r l Z a0 hw [] bb_43 bb_41 T43.heap n0 Z43 p43_3) hZ (kw26 hw) (kw9 hw) (by decide) (by decide)) q45a q45c (g := (mkF m 135 #[.val (.int p1), .val (.int p2), .val (.int p3), .val (.int p4), .val (.int (0 : Int32)), .val (.int (1 : Int32)), .val (.int (0 : Int32)), .val .null, .val (.ref bb_36), .val .null, .val (.ref b37), .val (.int (1 : Int32)), .val (.ref bb_43), .unset, .unset, .unset] [(.ref bb_43)])) rfl (by rw [hml]; rfl) (Steps.refl _) (argsL := []) (rest := []) (lenOf pd_3 rfl) rfl (by show 2 * 0 + _ ≤ _; exact Nat.le_of_eq rfl) (hb hby at_135) (fun _ _ => ⟨rfl, rfl, (by decide : 4 + 0 ≤ _), (by decide : 8 + 0 ≤ _)⟩)
        dsimp only [Pt.U, Pt.locs, Pt.cells, Pt.slots] at X45 l45 y45 z45 st45 hQ45
        subst l45 y45 z45
        obtain ⟨rfl, N45q, e45⟩ := hQ45
        have N45 := Fr.app N43 N45q
        have f47 : Exa Z T43.heap b37 "com/example/mergewright/mergewright/merge/Match" := (f44.keep Kq43)
        obtain ⟨_, _, ⟨T46, L46, k46, n46⟩, -, X46, ⟨Lc46, hQ46, l46, y46, z46⟩, st46⟩ := Jvm.LawKit.callS X45 hx (y := (⟨"com/example/mergewright/mergewright/merge/Match", "insertedByBoth", "(Ljava/lang/Object;Ljava/lang/Object;)Lcom/example/mergewright/mergewright/merge/Match;"⟩ : MethodName)) hown (mvT hZ (kw32 hw)) (mvT hZ (kw33 hw)) (mvT hZ (kw9 hw)) (mvT hZ (kw34 hw)) (by decide) (backOf (W := 0) (rm6_nn l Z a0 hw []  T43.heap n0 Z43 ) hZ (kw34 hw) (kw9 hw) (by decide) (by decide)) (g := (mkF m 152 #[.val (.int p1), .val (.int p2), .val (.int p3), .val (.int p4), .val (.int (0 : Int32)), .val (.int (1 : Int32)), .val (.int (0 : Int32)), .val .null, .val (.ref bb_36), .val .null, .val (.ref b37), .val (.int (1 : Int32)), .val (.ref bb_43), .val (.int (1 : Int32)), .unset, .unset] [.null, .null])) rfl (by rw [hml]; rfl) (argsL := [.null, .null]) (rest := []) (lenOf pd_6 rfl) rfl (by show 2 * 0 + _ ≤ _; exact Nat.le_of_eq rfl) (hb hby at_152) (fun _ _ => ⟨rfl, e45, (by decide : 4 + 1 ≤ _), (by decide : 8 + 3 ≤ _)⟩)
        dsimp only [Pt.U, Pt.locs, Pt.cells, Pt.slots] at X46 l46 y46 z46 st46 hQ46
        subst l46 y46 z46
        obtain ⟨bb_46, rfl, N46q, Kq46, p46_0, p46_1, p46_2, p46_3⟩ := hQ46
        have N46 := Fr.app N45 N46q
        have Z46 : n0 ≤ T46.heap.size := Nat.le_trans Z43 Kq46.1
        have K46 : Keep h0 T46.heap [] := K43.trans Kq46 all0
        have sz_bb_46 : h0.size ≤ bb_46 := Nat.le_trans K43.1 p46_1
        have ne46_b37_bb_46 : b37 ≠ bb_46 := Nat.ne_of_lt (Nat.lt_of_lt_of_le f47.lt p46_1)
        have ne46_bb_43_bb_46 : bb_43 ≠ bb_46 := Nat.ne_of_lt (Nat.lt_of_lt_of_le p43_2.lt p46_1)
        obtain ⟨cq48, kq48, q48a, q48b, q48c⟩ := isOf hZ rfl p46_2
        obtain ⟨_, _, ⟨T48, L48, k48, n48⟩, -, X48, ⟨Lc48, hQ48, l48, y48, z48⟩, st48⟩ := X46.virtualBack hx (y := (⟨"com/example/mergewright/mergewright/merge/Match", "isInsertedByBoth", "()Z"⟩ : MethodName)) (z := (⟨"com/example/mergewright/mergewright/merge/Match", "isInsertedByBoth", "()Z"⟩ : MethodName)) hown (mvT hZ (kw22 hw)) (mvT hZ (kw23 hw)) (notFace_of_selects (args := #[]) (mvT hZ (kw25 hw))) (mvT hZ (kw25 hw)) (mvT hZ (kw24 hw)) (by decide) (backOf (W := 0) (rm4_n l Z a0 hw [] bb_46 T46.heap n0 Z46 p46_3) hZ (kw26 hw) (kw9 hw) (by decide) (by decide)) q48a q48c (g := (mkF m 159 #[.val (.int p1), .val (.int p2), .val (.int p3), .val (.int p4), .val (.int (0 : Int32)), .val (.int (1 : Int32)), .val (.int (0 : Int32)), .val .null, .val (.ref bb_36), .val .null, .val (.ref b37), .val (.int (1 : Int32)), .val (.ref bb_43), .val (.int (1 : Int32)), .val (.ref bb_46), .unset] [(.ref bb_46)])) rfl (by rw [hml]; rfl) (Steps.refl _) (argsL := []) (rest := []) (lenOf pd_3 rfl) rfl (by show 2 * 0 + _ ≤ _; exact Nat.le_of_eq rfl) (hb hby at_159) (fun _ _ => ⟨rfl, rfl, (by decide : 5 + 0 ≤ _), (by decide : 11 + 0 ≤ _)⟩)
        dsimp only [Pt.U, Pt.locs, Pt.cells, Pt.slots] at X48 l48 y48 z48 st48 hQ48
        subst l48 y48 z48
        obtain ⟨rfl, N48q, e48⟩ := hQ48
        have N48 := Fr.app N46 N48q
        obtain ⟨fs, hr, hrun, hended, hW, hsame⟩ := X48.leave (v := some (.int (1 : Int32))) (fun h => by rw [Bd.returns] at h; cases h)
        refine ⟨_, _, pre34 _ ?_, hrun, hended, _, _, rfl, ?_, ⟨_, rfl⟩, hW, hsame.mono (by decide) (by decide)⟩
        · skip
          refine XS.ifYes X0.here hx rfl (pc0 := 29) (pc' := 36) rfl (hb hby at_29) rfl ((if0 _ _).trans (teq hc35).1) (by decide) (by decide) ?_
          show Steps p.tables e below (s₁.setTop (mkF m 36 #[.val (.int p1), .val (.int p2), .val (.int p3), .val (.int p4), .val (.int (0 : Int32)), .val (.int (1 : Int32)), .unset, .unset, .unset, .unset, .unset, .unset, .unset, .unset, .unset, .unset] [])) _
          refine XS.iconst X0.here hx rfl (hb hby at_36) ?_
          show Steps p.tables e below (s₁.setTop (mkF m 37 #[.val (.int p1), .val (.int p2), .val (.int p3), .val (.int p4), .val (.int (0 : Int32)), .val (.int (1 : Int32)), .unset, .unset, .unset, .unset, .unset, .unset, .unset, .unset, .unset, .unset] [(.int (0 : Int32))])) _
          refine XS.istore X0.here hx rfl (hb hby at_37) rfl (l' := #[.val (.int p1), .val (.int p2), .val (.int p3), .val (.int p4), .val (.int (0 : Int32)), .val (.int (1 : Int32)), .val (.int (0 : Int32)), .unset, .unset, .unset, .unset, .unset, .unset, .unset, .unset, .unset]) rfl ?_
          show Steps p.tables e below (s₁.setTop (mkF m 39 #[.val (.int p1), .val (.int p2), .val (.int p3), .val (.int p4), .val (.int (0 : Int32)), .val (.int (1 : Int32)), .val (.int (0 : Int32)), .unset, .unset, .unset, .unset, .unset, .unset, .unset, .unset, .unset] [])) _
          refine XS.iload X0.here hx rfl (hb hby at_39) rfl ?_
          show Steps p.tables e below (s₁.setTop (mkF m 41 #[.val (.int p1), .val (.int p2), .val (.int p3), .val (.int p4), .val (.int (0 : Int32)), .val (.int (1 : Int32)), .val (.int (0 : Int32)), .unset, .unset, .unset, .unset, .unset, .unset, .unset, .unset, .unset] [(.int (0 : Int32))])) _
          refine XS.ifYes X0.here hx rfl (pc0 := 41) (pc' := 51) rfl (hb hby at_41) rfl ((if0 _ _).trans (teq rfl).1) (by decide) (by decide) ?_
          show Steps p.tables e below (s₁.setTop (mkF m 51 #[.val (.int p1), .val (.int p2), .val (.int p3), .val (.int p4), .val (.int (0 : Int32)), .val (.int (1 : Int32)), .val (.int (0 : Int32)), .unset, .unset, .unset, .unset, .unset, .unset, .unset, .unset, .unset] [])) _
          refine XS.aconstNull X0.here hx rfl (hb hby at_51) ?_
          show Steps p.tables e below (s₁.setTop (mkF m 52 #[.val (.int p1), .val (.int p2), .val (.int p3), .val (.int p4), .val (.int (0 : Int32)), .val (.int (1 : Int32)), .val (.int (0 : Int32)), .unset, .unset, .unset, .unset, .unset, .unset, .unset, .unset, .unset] [.null])) _
          refine XS.astore X0.here hx rfl (hb hby at_52) rfl rfl (l' := #[.val (.int p1), .val (.int p2), .val (.int p3), .val (.int p4), .val (.int (0 : Int32)), .val (.int (1 : Int32)), .val (.int (0 : Int32)), .val .null, .unset, .unset, .unset, .unset, .unset, .unset, .unset, .unset]) rfl ?_
          show Steps p.tables e below (s₁.setTop (mkF m 54 #[.val (.int p1), .val (.int p2), .val (.int p3), .val (.int p4), .val (.int (0 : Int32)), .val (.int (1 : Int32)), .val (.int (0 : Int32)), .val .null, .unset, .unset, .unset, .unset, .unset, .unset, .unset, .unset] [])) _
          refine XS.iload X0.here hx rfl (hb hby at_54) rfl ?_
          show Steps p.tables e below (s₁.setTop (mkF m 56 #[.val (.int p1), .val (.int p2), .val (.int p3), .val (.int p4), .val (.int (0 : Int32)), .val (.int (1 : Int32)), .val (.int (0 : Int32)), .val .null, .unset, .unset, .unset, .unset, .unset, .unset, .unset, .unset] [(.int (1 : Int32))])) _
          refine XS.ifNo X0.here hx rfl (hb hby at_56) rfl ((if0 _ _).trans (feq (by decide)).1) ?_
          show Steps p.tables e below (s₁.setTop (mkF m 59 #[.val (.int p1), .val (.int p2), .val (.int p3), .val (.int p4), .val (.int (0 : Int32)), .val (.int (1 : Int32)), .val (.int (0 : Int32)), .val .null, .unset, .unset, .unset, .unset, .unset, .unset, .unset, .unset] [])) _
          refine XS.iloadN X0.here hx rfl (hb hby at_59) rfl ?_
          show Steps p.tables e below (s₁.setTop (mkF m 60 #[.val (.int p1), .val (.int p2), .val (.int p3), .val (.int p4), .val (.int (0 : Int32)), .val (.int (1 : Int32)), .val (.int (0 : Int32)), .val .null, .unset, .unset, .unset, .unset, .unset, .unset, .unset, .unset] [(.int p2)])) _
          refine st36 _ ?_
          show Steps p.tables e below (T36.setTop (mkF m 63 #[.val (.int p1), .val (.int p2), .val (.int p3), .val (.int p4), .val (.int (0 : Int32)), .val (.int (1 : Int32)), .val (.int (0 : Int32)), .val .null, .unset, .unset, .unset, .unset, .unset, .unset, .unset, .unset] [(.ref bb_36)])) _
          refine XS.goto X36.here hx rfl (pc0 := 63) (pc' := 67) rfl (hb hby at_63) (by decide) (by decide) ?_
          show Steps p.tables e below (T36.setTop (mkF m 67 #[.val (.int p1), .val (.int p2), .val (.int p3), .val (.int p4), .val (.int (0 : Int32)), .val (.int (1 : Int32)), .val (.int (0 : Int32)), .val .null, .unset, .unset, .unset, .unset, .unset, .unset, .unset, .unset] [(.ref bb_36)])) _
          refine XS.astore X36.here hx rfl (hb hby at_67) rfl rfl (l' := #[.val (.int p1), .val (.int p2), .val (.int p3), .val (.int p4), .val (.int (0 : Int32)), .val (.int (1 : Int32)), .val (.int (0 : Int32)), .val .null, .val (.ref bb_36), .unset, .unset, .unset, .unset, .unset, .unset, .unset]) rfl ?_
          show Steps p.tables e below (T36.setTop (mkF m 69 #[.val (.int p1), .val (.int p2), .val (.int p3), .val (.int p4), .val (.int (0 : Int32)), .val (.int (1 : Int32)), .val (.int (0 : Int32)), .val .null, .val (.ref bb_36), .unset, .unset, .unset, .unset, .unset, .unset, .unset] [])) _
          refine XS.iload X36.here hx rfl (hb hby at_69) rfl ?_
          show Steps p.tables e below (T36.setTop (mkF m 71 #[.val (.int p1), .val (.int p2), .val (.int p3), .val (.int p4), .val (.int (0 : Int32)), .val (.int (1 : Int32)), .val (.int (0 : Int32)), .val .null, .val (.ref bb_36), .unset, .unset, .unset, .unset, .unset, .unset, .unset] [(.int (0 : Int32))])) _
          refine XS.ifYes X36.here hx rfl (pc0 := 71) (pc' := 81) rfl (hb hby at_71) rfl ((if0 _ _).trans (teq rfl).1) (by decide) (by decide) ?_
          show Steps p.tables e below (T36.setTop (mkF m 81 #[.val (.int p1), .val (.int p2), .val (.int p3), .val (.int p4), .val (.int (0 : Int32)), .val (.int (1 : Int32)), .val (.int (0 : Int32)), .val .null, .val (.ref bb_36), .unset, .unset, .unset, .unset, .unset, .unset, .unset] [])) _
          refine XS.aconstNull X36.here hx rfl (hb hby at_81) ?_
          show Steps p.tables e below (T36.setTop (mkF m 82 #[.val (.int p1), .val (.int p2), .val (.int p3), .val (.int p4), .val (.int (0 : Int32)), .val (.int (1 : Int32)), .val (.int (0 : Int32)), .val .null, .val (.ref bb_36), .unset, .unset, .unset, .unset, .unset, .unset, .unset] [.null])) _
          refine XS.astore X36.here hx rfl (hb hby at_82) rfl rfl (l' := #[.val (.int p1), .val (.int p2), .val (.int p3), .val (.int p4), .val (.int (0 : Int32)), .val (.int (1 : Int32)), .val (.int (0 : Int32)), .val .null, .val (.ref bb_36), .val .null, .unset, .unset, .unset, .unset, .unset, .unset]) rfl ?_
          show Steps p.tables e below (T36.setTop (mkF m 84 #[.val (.int p1), .val (.int p2), .val (.int p3), .val (.int p4), .val (.int (0 : Int32)), .val (.int (1 : Int32)), .val (.int (0 : Int32)), .val .null, .val (.ref bb_36), .val .null, .unset, .unset, .unset, .unset, .unset, .unset] [])) _
          refine st37 _ ?_
          show Steps p.tables e below (T37.setTop (mkF m 87 #[.val (.int p1), .val (.int p2), .val (.int p3), .val (.int p4), .val (.int (0 : Int32)), .val (.int (1 : Int32)), .val (.int (0 : Int32)), .val .null, .val (.ref bb_36), .val .null, .unset, .unset, .unset, .unset, .unset, .unset] [(.ref b37)])) _
          refine XS.dup X37.here hx rfl (hb hby at_87) rfl rfl ?_
          show Steps p.tables e below (T37.setTop (mkF m 88 #[.val (.int p1), .val (.int p2), .val (.int p3), .val (.int p4), .val (.int (0 : Int32)), .val (.int (1 : Int32)), .val (.int (0 : Int32)), .val .null, .val (.ref bb_36), .val .null, .unset, .unset, .unset, .unset, .unset, .unset] [(.ref b37), (.ref b37)])) _
          refine XS.aload X37.here hx rfl (hb hby at_88) rfl rfl ?_
          show Steps p.tables e below (T37.setTop (mkF m 90 #[.val (.int p1), .val (.int p2), .val (.int p3), .val (.int p4), .val (.int (0 : Int32)), .val (.int (1 : Int32)), .val (.int (0 : Int32)), .val .null, .val (.ref bb_36), .val .null, .unset, .unset, .unset, .unset, .unset, .unset] [.null, (.ref b37), (.ref b37)])) _
          refine XS.aload X37.here hx rfl (hb hby at_90) rfl rfl ?_
          show Steps p.tables e below (T37.setTop (mkF m 92 #[.val (.int p1), .val (.int p2), .val (.int p3), .val (.int p4), .val (.int (0 : Int32)), .val (.int (1 : Int32)), .val (.int (0 : Int32)), .val .null, .val (.ref bb_36), .val .null, .unset, .unset, .unset, .unset, .unset, .unset] [(.ref bb_36), .null, (.ref b37), (.ref b37)])) _
          refine XS.aload X37.here hx rfl (hb hby at_92) rfl rfl ?_
          show Steps p.tables e below (T37.setTop (mkF m 94 #[.val (.int p1), .val (.int p2), .val (.int p3), .val (.int p4), .val (.int (0 : Int32)), .val (.int (1 : Int32)), .val (.int (0 : Int32)), .val .null, .val (.ref bb_36), .val .null, .unset, .unset, .unset, .unset, .unset, .unset] [.null, (.ref bb_36), .null, (.ref b37), (.ref b37)])) _
          refine st38.trans ?_
          show Steps p.tables e below (T38.setTop (mkF m 97 #[.val (.int p1), .val (.int p2), .val (.int p3), .val (.int p4), .val (.int (0 : Int32)), .val (.int (1 : Int32)), .val (.int (0 : Int32)), .val .null, .val (.ref bb_36), .val .null, .unset, .unset, .unset, .unset, .unset, .unset] [(.ref b37)])) _
          refine XS.astore X38.here hx rfl (hb hby at_97) rfl rfl (l' := #[.val (.int p1), .val (.int p2), .val (.int p3), .val (.int p4), .val (.int (0 : Int32)), .val (.int (1 : Int32)), .val (.int (0 : Int32)), .val .null, .val (.ref bb_36), .val .null, .val (.ref b37), .unset, .unset, .unset, .unset, .unset]) rfl ?_
          show Steps p.tables e below (T38.setTop (mkF m 99 #[.val (.int p1), .val (.int p2), .val (.int p3), .val (.int p4), .val (.int (0 : Int32)), .val (.int (1 : Int32)), .val (.int (0 : Int32)), .val .null, .val (.ref bb_36), .val .null, .val (.ref b37), .unset, .unset, .unset, .unset, .unset] [])) _
          refine XS.aload X38.here hx rfl (hb hby at_99) rfl rfl ?_
          show Steps p.tables e below (T38.setTop (mkF m 101 #[.val (.int p1), .val (.int p2), .val (.int p3), .val (.int p4), .val (.int (0 : Int32)), .val (.int (1 : Int32)), .val (.int (0 : Int32)), .val .null, .val (.ref bb_36), .val .null, .val (.ref b37), .unset, .unset, .unset, .unset, .unset] [(.ref b37)])) _
          refine st39.trans ?_
          show Steps p.tables e below (T39.setTop (mkF m 104 #[.val (.int p1), .val (.int p2), .val (.int p3), .val (.int p4), .val (.int (0 : Int32)), .val (.int (1 : Int32)), .val (.int (0 : Int32)), .val .null, .val (.ref bb_36), .val .null, .val (.ref b37), .unset, .unset, .unset, .unset, .unset] [(.int (0 : Int32))])) _
          refine XS.iload X39.here hx rfl (hb hby at_104) rfl ?_
          show Steps p.tables e below (T39.setTop (mkF m 106 #[.val (.int p1), .val (.int p2), .val (.int p3), .val (.int p4), .val (.int (0 : Int32)), .val (.int (1 : Int32)), .val (.int (0 : Int32)), .val .null, .val (.ref bb_36), .val .null, .val (.ref b37), .unset, .unset, .unset, .unset, .unset] [(.int (1 : Int32)), (.int (0 : Int32))])) _
          refine XS.ifYes X39.here hx rfl (pc0 := 106) (pc' := 113) rfl (hb hby at_106) rfl ((if0 _ _).trans (feq (by decide)).2) (by decide) (by decide) ?_
          show Steps p.tables e below (T39.setTop (mkF m 113 #[.val (.int p1), .val (.int p2), .val (.int p3), .val (.int p4), .val (.int (0 : Int32)), .val (.int (1 : Int32)), .val (.int (0 : Int32)), .val .null, .val (.ref bb_36), .val .null, .val (.ref b37), .unset, .unset, .unset, .unset, .unset] [(.int (0 : Int32))])) _
          refine XS.iconst X39.here hx rfl (hb hby at_113) ?_
          show Steps p.tables e below (T39.setTop (mkF m 114 #[.val (.int p1), .val (.int p2), .val (.int p3), .val (.int p4), .val (.int (0 : Int32)), .val (.int (1 : Int32)), .val (.int (0 : Int32)), .val .null, .val (.ref bb_36), .val .null, .val (.ref b37), .unset, .unset, .unset, .unset, .unset] [(.int (0 : Int32)), (.int (0 : Int32))])) _
          refine XS.icmpNo X39.here hx rfl (hb hby at_114) rfl (teq rfl).2 ?_
          show Steps p.tables e below (T39.setTop (mkF m 117 #[.val (.int p1), .val (.int p2), .val (.int p3), .val (.int p4), .val (.int (0 : Int32)), .val (.int (1 : Int32)), .val (.int (0 : Int32)), .val .null, .val (.ref bb_36), .val .null, .val (.ref b37), .unset, .unset, .unset, .unset, .unset] [])) _
          refine XS.iconst X39.here hx rfl (hb hby at_117) ?_
          show Steps p.tables e below (T39.setTop (mkF m 118 #[.val (.int p1), .val (.int p2), .val (.int p3), .val (.int p4), .val (.int (0 : Int32)), .val (.int (1 : Int32)), .val (.int (0 : Int32)), .val .null, .val (.ref bb_36), .val .null, .val (.ref b37), .unset, .unset, .unset, .unset, .unset] [(.int (1 : Int32))])) _
          refine XS.goto X39.here hx rfl (pc0 := 118) (pc' := 122) rfl (hb hby at_118) (by decide) (by decide) ?_
          show Steps p.tables e below (T39.setTop (mkF m 122 #[.val (.int p1), .val (.int p2), .val (.int p3), .val (.int p4), .val (.int (0 : Int32)), .val (.int (1 : Int32)), .val (.int (0 : Int32)), .val .null, .val (.ref bb_36), .val .null, .val (.ref b37), .unset, .unset, .unset, .unset, .unset] [(.int (1 : Int32))])) _
          refine XS.istore X39.here hx rfl (hb hby at_122) rfl (l' := #[.val (.int p1), .val (.int p2), .val (.int p3), .val (.int p4), .val (.int (0 : Int32)), .val (.int (1 : Int32)), .val (.int (0 : Int32)), .val .null, .val (.ref bb_36), .val .null, .val (.ref b37), .val (.int (1 : Int32)), .unset, .unset, .unset, .unset]) rfl ?_
          show Steps p.tables e below (T39.setTop (mkF m 124 #[.val (.int p1), .val (.int p2), .val (.int p3), .val (.int p4), .val (.int (0 : Int32)), .val (.int (1 : Int32)), .val (.int (0 : Int32)), .val .null, .val (.ref bb_36), .val .null, .val (.ref b37), .val (.int (1 : Int32)), .unset, .unset, .unset, .unset] [])) _
          refine XS.iloadN X39.here hx rfl (hb hby at_124) rfl ?_
          show Steps p.tables e below (T39.setTop (mkF m 125 #[.val (.int p1), .val (.int p2), .val (.int p3), .val (.int p4), .val (.int (0 : Int32)), .val (.int (1 : Int32)), .val (.int (0 : Int32)), .val .null, .val (.ref bb_36), .val .null, .val (.ref b37), .val (.int (1 : Int32)), .unset, .unset, .unset, .unset] [(.int p1)])) _
          refine st41 _ ?_
          show Steps p.tables e below (T41.setTop (mkF m 128 #[.val (.int p1), .val (.int p2), .val (.int p3), .val (.int p4), .val (.int (0 : Int32)), .val (.int (1 : Int32)), .val (.int (0 : Int32)), .val .null, .val (.ref bb_36), .val .null, .val (.ref b37), .val (.int (1 : Int32)), .unset, .unset, .unset, .unset] [(.ref bb_41)])) _
          refine st43 _ ?_
          show Steps p.tables e below (T43.setTop (mkF m 131 #[.val (.int p1), .val (.int p2), .val (.int p3), .val (.int p4), .val (.int (0 : Int32)), .val (.int (1 : Int32)), .val (.int (0 : Int32)), .val .null, .val (.ref bb_36), .val .null, .val (.ref b37), .val (.int (1 : Int32)), .unset, .unset, .unset, .unset] [(.ref bb_43)])) _
          refine XS.astore X43.here hx rfl (hb hby at_131) rfl rfl (l' := #[.val (.int p1), .val (.int p2), .val (.int p3), .val (.int p4), .val (.int (0 : Int32)), .val (.int (1 : Int32)), .val (.int (0 : Int32)), .val .null, .val (.ref bb_36), .val .null, .val (.ref b37), .val (.int (1 : Int32)), .val (.ref bb_43), .unset, .unset, .unset]) rfl ?_
          show Steps p.tables e below (T43.setTop (mkF m 133 #[.val (.int p1), .val (.int p2), .val (.int p3), .val (.int p4), .val (.int (0 : Int32)), .val (.int (1 : Int32)), .val (.int (0 : Int32)), .val .null, .val (.ref bb_36), .val .null, .val (.ref b37), .val (.int (1 : Int32)), .val (.ref bb_43), .unset, .unset, .unset] [])) _
          refine XS.aload X43.here hx rfl (hb hby at_133) rfl rfl ?_
          show Steps p.tables e below (T43.setTop (mkF m 135 #[.val (.int p1), .val (.int p2), .val (.int p3), .val (.int p4), .val (.int (0 : Int32)), .val (.int (1 : Int32)), .val (.int (0 : Int32)), .val .null, .val (.ref bb_36), .val .null, .val (.ref b37), .val (.int (1 : Int32)), .val (.ref bb_43), .unset, .unset, .unset] [(.ref bb_43)])) _
          refine st45.trans ?_
          show Steps p.tables e below (T45.setTop (mkF m 138 #[.val (.int p1), .val (.int p2), .val (.int p3), .val (.int p4), .val (.int (0 : Int32)), .val (.int (1 : Int32)), .val (.int (0 : Int32)), .val .null, .val (.ref bb_36), .val .null, .val (.ref b37), .val (.int (1 : Int32)), .val (.ref bb_43), .unset, .unset, .unset] [(.int (0 : Int32))])) _
          refine XS.ifNo X45.here hx rfl (hb hby at_138) rfl ((if0 _ _).trans (teq rfl).2) ?_
          show Steps p.tables e below (T45.setTop (mkF m 141 #[.val (.int p1), .val (.int p2), .val (.int p3), .val (.int p4), .val (.int (0 : Int32)), .val (.int (1 : Int32)), .val (.int (0 : Int32)), .val .null, .val (.ref bb_36), .val .null, .val (.ref b37), .val (.int (1 : Int32)), .val (.ref bb_43), .unset, .unset, .unset] [])) _
          refine XS.iconst X45.here hx rfl (hb hby at_141) ?_
          show Steps p.tables e below (T45.setTop (mkF m 142 #[.val (.int p1), .val (.int p2), .val (.int p3), .val (.int p4), .val (.int (0 : Int32)), .val (.int (1 : Int32)), .val (.int (0 : Int32)), .val .null, .val (.ref bb_36), .val .null, .val (.ref b37), .val (.int (1 : Int32)), .val (.ref bb_43), .unset, .unset, .unset] [(.int (1 : Int32))])) _
          refine XS.goto X45.here hx rfl (pc0 := 142) (pc' := 146) rfl (hb hby at_142) (by decide) (by decide) ?_
          show Steps p.tables e below (T45.setTop (mkF m 146 #[.val (.int p1), .val (.int p2), .val (.int p3), .val (.int p4), .val (.int (0 : Int32)), .val (.int (1 : Int32)), .val (.int (0 : Int32)), .val .null, .val (.ref bb_36), .val .null, .val (.ref b37), .val (.int (1 : Int32)), .val (.ref bb_43), .unset, .unset, .unset] [(.int (1 : Int32))])) _
          refine XS.istore X45.here hx rfl (hb hby at_146) rfl (l' := #[.val (.int p1), .val (.int p2), .val (.int p3), .val (.int p4), .val (.int (0 : Int32)), .val (.int (1 : Int32)), .val (.int (0 : Int32)), .val .null, .val (.ref bb_36), .val .null, .val (.ref b37), .val (.int (1 : Int32)), .val (.ref bb_43), .val (.int (1 : Int32)), .unset, .unset]) rfl ?_
          show Steps p.tables e below (T45.setTop (mkF m 148 #[.val (.int p1), .val (.int p2), .val (.int p3), .val (.int p4), .val (.int (0 : Int32)), .val (.int (1 : Int32)), .val (.int (0 : Int32)), .val .null, .val (.ref bb_36), .val .null, .val (.ref b37), .val (.int (1 : Int32)), .val (.ref bb_43), .val (.int (1 : Int32)), .unset, .unset] [])) _
          refine XS.aload X45.here hx rfl (hb hby at_148) rfl rfl ?_
          show Steps p.tables e below (T45.setTop (mkF m 150 #[.val (.int p1), .val (.int p2), .val (.int p3), .val (.int p4), .val (.int (0 : Int32)), .val (.int (1 : Int32)), .val (.int (0 : Int32)), .val .null, .val (.ref bb_36), .val .null, .val (.ref b37), .val (.int (1 : Int32)), .val (.ref bb_43), .val (.int (1 : Int32)), .unset, .unset] [.null])) _
          refine XS.aload X45.here hx rfl (hb hby at_150) rfl rfl ?_
          show Steps p.tables e below (T45.setTop (mkF m 152 #[.val (.int p1), .val (.int p2), .val (.int p3), .val (.int p4), .val (.int (0 : Int32)), .val (.int (1 : Int32)), .val (.int (0 : Int32)), .val .null, .val (.ref bb_36), .val .null, .val (.ref b37), .val (.int (1 : Int32)), .val (.ref bb_43), .val (.int (1 : Int32)), .unset, .unset] [.null, .null])) _
          refine st46 _ ?_
          show Steps p.tables e below (T46.setTop (mkF m 155 #[.val (.int p1), .val (.int p2), .val (.int p3), .val (.int p4), .val (.int (0 : Int32)), .val (.int (1 : Int32)), .val (.int (0 : Int32)), .val .null, .val (.ref bb_36), .val .null, .val (.ref b37), .val (.int (1 : Int32)), .val (.ref bb_43), .val (.int (1 : Int32)), .unset, .unset] [(.ref bb_46)])) _
          refine XS.astore X46.here hx rfl (hb hby at_155) rfl rfl (l' := #[.val (.int p1), .val (.int p2), .val (.int p3), .val (.int p4), .val (.int (0 : Int32)), .val (.int (1 : Int32)), .val (.int (0 : Int32)), .val .null, .val (.ref bb_36), .val .null, .val (.ref b37), .val (.int (1 : Int32)), .val (.ref bb_43), .val (.int (1 : Int32)), .val (.ref bb_46), .unset]) rfl ?_
          show Steps p.tables e below (T46.setTop (mkF m 157 #[.val (.int p1), .val (.int p2), .val (.int p3), .val (.int p4), .val (.int (0 : Int32)), .val (.int (1 : Int32)), .val (.int (0 : Int32)), .val .null, .val (.ref bb_36), .val .null, .val (.ref b37), .val (.int (1 : Int32)), .val (.ref bb_43), .val (.int (1 : Int32)), .val (.ref bb_46), .unset] [])) _
          refine XS.aload X46.here hx rfl (hb hby at_157) rfl rfl ?_
          show Steps p.tables e below (T46.setTop (mkF m 159 #[.val (.int p1), .val (.int p2), .val (.int p3), .val (.int p4), .val (.int (0 : Int32)), .val (.int (1 : Int32)), .val (.int (0 : Int32)), .val .null, .val (.ref bb_36), .val .null, .val (.ref b37), .val (.int (1 : Int32)), .val (.ref bb_43), .val (.int (1 : Int32)), .val (.ref bb_46), .unset] [(.ref bb_46)])) _
          refine st48.trans ?_
          show Steps p.tables e below (T48.setTop (mkF m 162 #[.val (.int p1), .val (.int p2), .val (.int p3), .val (.int p4), .val (.int (0 : Int32)), .val (.int (1 : Int32)), .val (.int (0 : Int32)), .val .null, .val (.ref bb_36), .val .null, .val (.ref b37), .val (.int (1 : Int32)), .val (.ref bb_43), .val (.int (1 : Int32)), .val (.ref bb_46), .unset] [(.int (1 : Int32))])) _
          refine XS.istore X48.here hx rfl (hb hby at_162) rfl (l' := #[.val (.int p1), .val (.int p2), .val (.int p3), .val (.int p4), .val (.int (0 : Int32)), .val (.int (1 : Int32)), .val (.int (0 : Int32)), .val .null, .val (.ref bb_36), .val .null, .val (.ref b37), .val (.int (1 : Int32)), .val (.ref bb_43), .val (.int (1 : Int32)), .val (.ref bb_46), .val (.int (1 : Int32))]) rfl ?_
          show Steps p.tables e below (T48.setTop (mkF m 164 #[.val (.int p1), .val (.int p2), .val (.int p3), .val (.int p4), .val (.int (0 : Int32)), .val (.int (1 : Int32)), .val (.int (0 : Int32)), .val .null, .val (.ref bb_36), .val .null, .val (.ref b37), .val (.int (1 : Int32)), .val (.ref bb_43), .val (.int (1 : Int32)), .val (.ref bb_46), .val (.int (1 : Int32))] [])) _
          refine XS.iload X48.here hx rfl (hb hby at_164) rfl ?_
          show Steps p.tables e below (T48.setTop (mkF m 166 #[.val (.int p1), .val (.int p2), .val (.int p3), .val (.int p4), .val (.int (0 : Int32)), .val (.int (1 : Int32)), .val (.int (0 : Int32)), .val .null, .val (.ref bb_36), .val .null, .val (.ref b37), .val (.int (1 : Int32)), .val (.ref bb_43), .val (.int (1 : Int32)), .val (.ref bb_46), .val (.int (1 : Int32))] [(.int (1 : Int32))])) _
          refine XS.ifNo X48.here hx rfl (hb hby at_166) rfl ((if0 _ _).trans (feq (by decide)).1) ?_
          show Steps p.tables e below (T48.setTop (mkF m 169 #[.val (.int p1), .val (.int p2), .val (.int p3), .val (.int p4), .val (.int (0 : Int32)), .val (.int (1 : Int32)), .val (.int (0 : Int32)), .val .null, .val (.ref bb_36), .val .null, .val (.ref b37), .val (.int (1 : Int32)), .val (.ref bb_43), .val (.int (1 : Int32)), .val (.ref bb_46), .val (.int (1 : Int32))] [])) _
          refine XS.iload X48.here hx rfl (hb hby at_169) rfl ?_
          show Steps p.tables e below (T48.setTop (mkF m 171 #[.val (.int p1), .val (.int p2), .val (.int p3), .val (.int p4), .val (.int (0 : Int32)), .val (.int (1 : Int32)), .val (.int (0 : Int32)), .val .null, .val (.ref bb_36), .val .null, .val (.ref b37), .val (.int (1 : Int32)), .val (.ref bb_43), .val (.int (1 : Int32)), .val (.ref bb_46), .val (.int (1 : Int32))] [(.int (1 : Int32))])) _
          refine XS.ifNo X48.here hx rfl (hb hby at_171) rfl ((if0 _ _).trans (feq (by decide)).1) ?_
          show Steps p.tables e below (T48.setTop (mkF m 174 #[.val (.int p1), .val (.int p2), .val (.int p3), .val (.int p4), .val (.int (0 : Int32)), .val (.int (1 : Int32)), .val (.int (0 : Int32)), .val .null, .val (.ref bb_36), .val .null, .val (.ref b37), .val (.int (1 : Int32)), .val (.ref bb_43), .val (.int (1 : Int32)), .val (.ref bb_46), .val (.int (1 : Int32))] [])) _
          refine XS.iload X48.here hx rfl (hb hby at_174) rfl ?_
          show Steps p.tables e below (T48.setTop (mkF m 176 #[.val (.int p1), .val (.int p2), .val (.int p3), .val (.int p4), .val (.int (0 : Int32)), .val (.int (1 : Int32)), .val (.int (0 : Int32)), .val .null, .val (.ref bb_36), .val .null, .val (.ref b37), .val (.int (1 : Int32)), .val (.ref bb_43), .val (.int (1 : Int32)), .val (.ref bb_46), .val (.int (1 : Int32))] [(.int (1 : Int32))])) _
          refine XS.ifNo X48.here hx rfl (hb hby at_176) rfl ((if0 _ _).trans (feq (by decide)).1) ?_
          show Steps p.tables e below (T48.setTop (mkF m 179 #[.val (.int p1), .val (.int p2), .val (.int p3), .val (.int p4), .val (.int (0 : Int32)), .val (.int (1 : Int32)), .val (.int (0 : Int32)), .val .null, .val (.ref bb_36), .val .null, .val (.ref b37), .val (.int (1 : Int32)), .val (.ref bb_43), .val (.int (1 : Int32)), .val (.ref bb_46), .val (.int (1 : Int32))] [])) _
          refine XS.iconst X48.here hx rfl (hb hby at_179) ?_
          show Steps p.tables e below (T48.setTop (mkF m 180 #[.val (.int p1), .val (.int p2), .val (.int p3), .val (.int p4), .val (.int (0 : Int32)), .val (.int (1 : Int32)), .val (.int (0 : Int32)), .val .null, .val (.ref bb_36), .val .null, .val (.ref b37), .val (.int (1 : Int32)), .val (.ref bb_43), .val (.int (1 : Int32)), .val (.ref bb_46), .val (.int (1 : Int32))] [(.int (1 : Int32))])) _
          refine XS.goto X48.here hx rfl (pc0 := 180) (pc' := 184) rfl (hb hby at_180) (by decide) (by decide) ?_
          show Steps p.tables e below (T48.setTop (mkF m 184 #[.val (.int p1), .val (.int p2), .val (.int p3), .val (.int p4), .val (.int (0 : Int32)), .val (.int (1 : Int32)), .val (.int (0 : Int32)), .val .null, .val (.ref bb_36), .val .null, .val (.ref b37), .val (.int (1 : Int32)), .val (.ref bb_43), .val (.int (1 : Int32)), .val (.ref bb_46), .val (.int (1 : Int32))] [(.int (1 : Int32))])) _
          exact retN X48 hx (t := .boolean) Bd.returns (by simp) (hb hby at_184) hr
        · show Q_rm0 Z p1 p2 p3 p4 w_cache h0 n0 _ T48.heap _
          rw [e48]
          exact ⟨rfl, N48, K46⟩
      · skip
        obtain ⟨_, _, ⟨T50, L50, k50, n50⟩, -, X50, ⟨Lc50, hQ50, l50, y50, z50⟩, st50⟩ := Jvm.LawKit.callS X0 hx (y := (⟨"java/lang/Integer", "valueOf", "(I)Ljava/lang/Integer;"⟩ : MethodName)) hown (mvT hZ (kw0 hw)) (mvT hZ (kw1 hw)) (mvT hZ (kw2 hw)) (mvT hZ (kw3 hw)) (by decide) (backOf (W := 0) (rm1 l Z a0 hw [] p2 w_cache h0 n0 Z0 P0 P1 P2 HC) hZ (kw3 hw) (kw2 hw) (by decide) (by decide)) (g := (mkF m 60 #[.val (.int p1), .val (.int p2), .val (.int p3), .val (.int p4), .val (.int (0 : Int32)), .val (.int (1 : Int32)), .val (.int (1 : Int32)), .val .null, .unset, .unset, .unset, .unset, .unset, .unset, .unset, .unset] [(.int p2)])) rfl (by rw [hml]; rfl) (argsL := [(.int p2)]) (rest := []) (lenOf pd_4 rfl) rfl (by show 2 * 0 + _ ≤ _; exact Nat.le_of_eq rfl) (hb hby at_60) (fun _ _ => ⟨rfl, e0, (by decide : 0 + 1 ≤ _), (by decide : 0 + 1 ≤ _)⟩)
        dsimp only [Pt.U, Pt.locs, Pt.cells, Pt.slots] at X50 l50 y50 z50 st50 hQ50
        subst l50 y50 z50
        obtain ⟨bb_50, rfl, N50q, Kq50⟩ := hQ50
        have N50 := Fr.app N0 N50q
        have Z50 : n0 ≤ T50.heap.size := Nat.le_trans Z0 Kq50.1
        have K50 : Keep h0 T50.heap [] := KR.trans Kq50 all0
        have f52 : Old Z n0 T50.heap := (P0.keep Kq50 all0)
        obtain ⟨_, _, ⟨T51, L51, k51, n51⟩, -, X51, ⟨Lc51, hQ51, l51, y51, z51⟩, st51⟩ := Jvm.LawKit.callS X50 hx (y := (⟨"java/lang/Integer", "valueOf", "(I)Ljava/lang/Integer;"⟩ : MethodName)) hown (mvT hZ (kw0 hw)) (mvT hZ (kw1 hw)) (mvT hZ (kw2 hw)) (mvT hZ (kw3 hw)) (by decide) (backOf (W := 0) (rm1 l Z a0 hw [] p3 w_cache T50.heap n0 Z50 f52 P1 P2 HC) hZ (kw3 hw) (kw2 hw) (by decide) (by decide)) (g := (mkF m 75 #[.val (.int p1), .val (.int p2), .val (.int p3), .val (.int p4), .val (.int (0 : Int32)), .val (.int (1 : Int32)), .val (.int (1 : Int32)), .val .null, .val (.ref bb_50), .unset, .unset, .unset, .unset, .unset, .unset, .unset] [(.int p3)])) rfl (by rw [hml]; rfl) (argsL := [(.int p3)]) (rest := []) (lenOf pd_4 rfl) rfl (by show 2 * 0 + _ ≤ _; exact Nat.le_of_eq rfl) (hb hby at_75) (fun _ _ => ⟨rfl, rfl, (by decide : 1 + 1 ≤ _), (by decide : 1 + 1 ≤ _)⟩)
        dsimp only [Pt.U, Pt.locs, Pt.cells, Pt.slots] at X51 l51 y51 z51 st51 hQ51
        subst l51 y51 z51
        obtain ⟨bb_51, rfl, N51q, Kq51⟩ := hQ51
        have N51 := Fr.app N50 N51q
        have Z51 : n0 ≤ T51.heap.size := Nat.le_trans Z50 Kq51.1
        have K51 : Keep h0 T51.heap [] := K50.trans Kq51 all0
        obtain ⟨T53, h53, X53, e53, E53, A53, D53, -, st53⟩ := newO X51 hx hZ hown (kw7 hw) (kw8 hw) (kw9 hw) rfl (g := (mkF m 84 #[.val (.int p1), .val (.int p2), .val (.int p3), .val (.int p4), .val (.int (0 : Int32)), .val (.int (1 : Int32)), .val (.int (1 : Int32)), .val .null, .val (.ref bb_50), .val (.ref bb_51), .unset, .unset, .unset, .unset, .unset, .unset] [])) rfl (hb hby at_84) (by decide) (by decide)
        obtain ⟨b53, g53⟩ : ∃ z, z = T51.heap.size := ⟨_, rfl⟩
        rw [← g53] at A53 D53 st53
        have g_b53 : n0 ≤ b53 := Nat.le_trans Z51 (Nat.le_of_eq g53.symm)
        have sz_b53 : h0.size ≤ b53 := Nat.le_trans K51.1 (Nat.le_of_eq g53.symm)
        have Z53 : n0 ≤ h53.size := Nat.le_trans Z51 E53.1
        have K53 : Keep h0 h53 [] := K51.ext E53
        have F53_current : Fld Z h53 b53 "com/example/mergewright/mergewright/merge/Match" "current" "Ljava/lang/Object;" .null := D53 (Or.inr (kw17 hw)) (ty := (.object "java/lang/Object")) (by decide)
        have F53_base : Fld Z h53 b53 "com/example/mergewright/mergewright/merge/Match" "base" "Ljava/lang/Object;" .null := D53 (Or.inr (kw19 hw)) (ty := (.object "java/lang/Object")) (by decide)
        have F53_other : Fld Z h53 b53 "com/example/mergewright/mergewright/merge/Match" "other" "Ljava/lang/Object;" .null := D53 (Or.inr (kw21 hw)) (ty := (.object "java/lang/Object")) (by decide)
        obtain ⟨_, _, ⟨T54, L54, k54, n54⟩, -, X54, ⟨Lc54, hQ54, l54, y54, z54⟩, st54⟩ := X53.specialBack hx (y := (⟨"com/example/mergewright/mergewright/merge/Match", "<init>", "(Ljava/lang/Object;Ljava/lang/Object;Ljava/lang/Object;)V"⟩ : MethodName)) rfl hown (mvT hZ (kw10 hw)) (mvT hZ (kw11 hw)) (mvT hZ (kw12 hw)) (by decide) (backOf (W := 1) (rm2_nrr l Z a0 hw [] b53 bb_50 bb_51 h53 n0 Z53 A53 g_b53 F53_current F53_base F53_other) hZ (kw12 hw) (kw9 hw) (by decide) (by decide)) (g := (mkF m 94 #[.val (.int p1), .val (.int p2), .val (.int p3), .val (.int p4), .val (.int (0 : Int32)), .val (.int (1 : Int32)), .val (.int (1 : Int32)), .val .null, .val (.ref bb_50), .val (.ref bb_51), .unset, .unset, .unset, .unset, .unset, .unset] [(.ref bb_51), (.ref bb_50), .null, (.ref b53), (.ref b53)])) rfl (by rw [hml]; rfl) (Steps.refl _) (a := b53) (argsL := [.null, (.ref bb_50), (.ref bb_51)]) (rest := [(.ref b53)]) (lenOf pd_2 rfl) rfl (by show 2 * 0 + _ ≤ _; exact Nat.le_of_eq rfl) (hb hby at_94) (fun _ _ => ⟨rfl, e53, (by decide : 3 + 0 ≤ _), (by decide : 5 + 0 ≤ _)⟩)
        dsimp only [Pt.U, Pt.locs, Pt.cells, Pt.slots] at X54 l54 y54 z54 st54 hQ54
        subst l54 y54 z54
        obtain ⟨rfl, N54q, Kq54, p54_0⟩ := hQ54
        have N54 := Fr.app N51 N54q
        have Z54 : n0 ≤ T54.heap.size := Nat.le_trans Z53 Kq54.1
        have K54 : Keep h0 T54.heap [] := K53.trans Kq54 (allS (Or.inr sz_b53) all0)
        have f56 : Exa Z T54.heap b53 "com/example/mergewright/mergewright/merge/Match" := (A53.keep Kq54)
        obtain ⟨cq55, kq55, q55a, q55b, q55c⟩ := isOf hZ rfl f56
        obtain ⟨_, _, ⟨T55, L55, k55, n55⟩, -, X55, ⟨Lc55, hQ55, l55, y55, z55⟩, st55⟩ := X54.virtualBack hx (y := (⟨"com/example/mergewright/mergewright/merge/Match", "isInsertedByBoth", "()Z"⟩ : MethodName)) (z := (⟨"com/example/mergewright/mergewright/merge/Match", "isInsertedByBoth", "()Z"⟩ : MethodName)) hown (mvT hZ (kw22 hw)) (mvT hZ (kw23 hw)) (notFace_of_selects (args := #[]) (mvT hZ (kw25 hw))) (mvT hZ (kw25 hw)) (mvT hZ (kw24 hw)) (by decide) (backOf (W := 0) (rm4_r l Z a0 hw [] b53 bb_50 T54.heap n0 Z54 p54_0) hZ (kw26 hw) (kw9 hw) (by decide) (by decide)) q55a q55c (g := (mkF m 101 #[.val (.int p1), .val (.int p2), .val (.int p3), .val (.int p4), .val (.int (0 : Int32)), .val (.int (1 : Int32)), .val (.int (1 : Int32)), .val .null, .val (.ref bb_50), .val (.ref bb_51), .val (.ref b53), .unset, .unset, .unset, .unset, .unset] [(.ref b53)])) rfl (by rw [hml]; rfl) (Steps.refl _) (argsL := []) (rest := []) (lenOf pd_3 rfl) rfl (by show 2 * 0 + _ ≤ _; exact Nat.le_of_eq rfl) (hb hby at_101) (fun _ _ => ⟨rfl, rfl, (by decide : 3 + 0 ≤ _), (by decide : 5 + 0 ≤ _)⟩)
        dsimp only [Pt.U, Pt.locs, Pt.cells, Pt.slots] at X55 l55 y55 z55 st55 hQ55
        subst l55 y55 z55
        obtain ⟨rfl, N55q, e55⟩ := hQ55
        have N55 := Fr.app N54 N55q
        have f58 : Old Z n0 T54.heap := (((f52.keep Kq51 all0).ext E53).keep Kq54 (allS g_b53 all0))
        obtain ⟨_, _, ⟨T57, L57, k57, n57⟩, -, X57, ⟨Lc57, hQ57, l57, y57, z57⟩, st57⟩ := Jvm.LawKit.callS X55 hx (y := (⟨"java/lang/Integer", "valueOf", "(I)Ljava/lang/Integer;"⟩ : MethodName)) hown (mvT hZ (kw0 hw)) (mvT hZ (kw1 hw)) (mvT hZ (kw2 hw)) (mvT hZ (kw3 hw)) (by decide) (backOf (W := 0) (rm1 l Z a0 hw [] p1 w_cache T54.heap n0 Z54 f58 P1 P2 HC) hZ (kw3 hw) (kw2 hw) (by decide) (by decide)) (g := (mkF m 125 #[.val (.int p1), .val (.int p2), .val (.int p3), .val (.int p4), .val (.int (0 : Int32)), .val (.int (1 : Int32)), .val (.int (1 : Int32)), .val .null, .val (.ref bb_50), .val (.ref bb_51), .val (.ref b53), .val (.int (1 : Int32)), .unset, .unset, .unset, .unset] [(.int p1)])) rfl (by rw [hml]; rfl) (argsL := [(.int p1)]) (rest := []) (lenOf pd_4 rfl) rfl (by show 2 * 0 + _ ≤ _; exact Nat.le_of_eq rfl) (hb hby at_125) (fun _ _ => ⟨rfl, e55, (by decide : 3 + 1 ≤ _), (by decide : 5 + 1 ≤ _)⟩)
        dsimp only [Pt.U, Pt.locs, Pt.cells, Pt.slots] at X57 l57 y57 z57 st57 hQ57
        subst l57 y57 z57
        obtain ⟨bb_57, rfl, N57q, Kq57⟩ := hQ57
        have N57 := Fr.app N55 N57q
        have Z57 : n0 ≤ T57.heap.size := Nat.le_trans Z54 Kq57.1
        have K57 : Keep h0 T57.heap [] := K54.trans Kq57 all0
        have f60 : Exa Z T57.heap b53 "com/example/mergewright/mergewright/merge/Match" := (f56.keep Kq57)
        obtain ⟨_, _, ⟨T59, L59, k59, n59⟩, -, X59, ⟨Lc59, hQ59, l59, y59, z59⟩, st59⟩ := Jvm.LawKit.callS X57 hx (y := (⟨"com/example/mergewright/mergewright/merge/Match", "inserted", "(Ljava/lang/Object;)Lcom/example/mergewright/mergewright/merge/Match;"⟩ : MethodName)) hown (mvT hZ (kw27 hw)) (mvT hZ (kw28 hw)) (mvT hZ (kw9 hw)) (mvT hZ (kw29 hw)) (by decide) (backOf (W := 0) (rm5 l Z a0 hw [] bb_57 T57.heap n0 Z57 ) hZ (kw29 hw) (kw9 hw) (by decide) (by decide)) (g := (mkF m 128 #[.val (.int p1), .val (.int p2), .val (.int p3), .val (.int p4), .val (.int (0 : Int32)), .val (.int (1 : Int32)), .val (.int (1 : Int32)), .val .null, .val (.ref bb_50), .val (.ref bb_51), .val (.ref b53), .val (.int (1 : Int32)), .unset, .unset, .unset, .unset] [(.ref bb_57)])) rfl (by rw [hml]; rfl) (argsL := [(.ref bb_57)]) (rest := []) (lenOf pd_5 rfl) rfl (by show 2 * 0 + _ ≤ _; exact Nat.le_of_eq rfl) (hb hby at_128) (fun _ _ => ⟨rfl, rfl, (by decide : 4 + 1 ≤ _), (by decide : 6 + 3 ≤ _)⟩)
        dsimp only [Pt.U, Pt.locs, Pt.cells, Pt.slots] at X59 l59 y59 z59 st59 hQ59
        subst l59 y59 z59
        obtain ⟨bb_59, rfl, N59q, Kq59, p59_0, p59_1, p59_2, p59_3⟩ := hQ59
        have N59 := Fr.app N57 N59q
        have Z59 : n0 ≤ T59.heap.size := Nat.le_trans Z57 Kq59.1
        have K59 : Keep h0 T59.heap [] := K57.trans Kq59 all0
        have sz_bb_59 : h0.size ≤ bb_59 := Nat.le_trans K57.1 p59_1
        have ne59_b53_bb_59 : b53 ≠ bb_59 := Nat.ne_of_lt (Nat.lt_of_lt_of_le f60.lt p59_1)
        obtain ⟨cq61, kq61, q61a, q61b, q61c⟩ := isOf hZ rfl p59_2
        obtain ⟨_, _, ⟨T61, L61, k61, n61⟩, -, X61, ⟨Lc61, hQ61, l61, y61, z61⟩, st61⟩ := X59.virtualBack hx (y := (⟨"com/example/mergewright/mergewright/merge/Match", "isInsertedByBoth", "()Z"⟩ : MethodName)) (z := (⟨"com/example/mergewright/mergewright/merge/Match", "isInsertedByBoth", "()Z"⟩ : MethodName)) hown (mvT hZ (kw22 hw)) (mvT hZ (kw23 hw)) (notFace_of_selects (args := #[]) (mvT hZ (kw25 hw))) (mvT hZ (kw25 hw)) (mvT hZ (kw24 hw)) (by decide) (backOf (W := 0) (rm4_r l Z a0 hw [] bb_59 bb_57 T59.heap n0 Z59 p59_3) hZ (kw26 hw) (kw9 hw) (by decide) (by decide)) q61a q61c (g := (mkF m 135 #[.val (.int p1), .val (.int p2), .val (.int p3), .val (.int p4), .val (.int (0 : Int32)), .val (.int (1 : Int32)), .val (.int (1 : Int32)), .val .null, .val (.ref bb_50), .val (.ref bb_51), .val (.ref b53), .val (.int (1 : Int32)), .val (.ref bb_59), .unset, .unset, .unset] [(.ref bb_59)])) rfl (by rw [hml]; rfl) (Steps.refl _) (argsL := []) (rest := []) (lenOf pd_3 rfl) rfl (by show 2 * 0 + _ ≤ _; exact Nat.le_of_eq rfl) (hb hby at_135) (fun _ _ => ⟨rfl, rfl, (by decide : 5 + 0 ≤ _), (by decide : 9 + 0 ≤ _)⟩)
        dsimp only [Pt.U, Pt.locs, Pt.cells, Pt.slots] at X61 l61 y61 z61 st61 hQ61
        subst l61 y61 z61
        obtain ⟨rfl, N61q, e61⟩ := hQ61
        have N61 := Fr.app N59 N61q
        have f63 : Exa Z T59.heap b53 "com/example/mergewright/mergewright/merge/Match" := (f60.keep Kq59)
        obtain ⟨_, _, ⟨T62, L62, k62, n62⟩, -, X62, ⟨Lc62, hQ62, l62, y62, z62⟩, st62⟩ := Jvm.LawKit.callS X61 hx (y := (⟨"com/example/mergewright/mergewright/merge/Match", "insertedByBoth", "(Ljava/lang/Object;Ljava/lang/Object;)Lcom/example/mergewright/mergewright/merge/Match;"⟩ : MethodName)) hown (mvT hZ (kw32 hw)) (mvT hZ (kw33 hw)) (mvT hZ (kw9 hw)) (mvT hZ (kw34 hw)) (by decide) (backOf (W := 0) (rm6_nr l Z a0 hw [] bb_51 T59.heap n0 Z59 ) hZ (kw34 hw) (kw9 hw) (by decide) (by decide)) (g := (mkF m 152 #[.val (.int p1), .val (.int p2), .val (.int p3), .val (.int p4), .val (.int (0 : Int32)), .val (.int (1 : Int32)), .val (.int (1 : Int32)), .val .null, .val (.ref bb_50), .val (.ref bb_51), .val (.ref b53), .val (.int (1 : Int32)), .val (.ref bb_59), .val (.int (1 : Int32)), .unset, .unset] [(.ref bb_51), .null])) rfl (by rw [hml]; rfl) (argsL := [.null, (.ref bb_51)]) (rest := []) (lenOf pd_6 rfl) rfl (by show 2 * 0 + _ ≤ _; exact Nat.le_of_eq rfl) (hb hby at_152) (fun _ _ => ⟨rfl, e61, (by decide : 5 + 1 ≤ _), (by decide : 9 + 3 ≤ _)⟩)
        dsimp only [Pt.U, Pt.locs, Pt.cells, Pt.slots] at X62 l62 y62 z62 st62 hQ62
        subst l62 y62 z62
        obtain ⟨bb_62, rfl, N62q, Kq62, p62_0, p62_1, p62_2, p62_3⟩ := hQ62
        have N62 := Fr.app N61 N62q
        have Z62 : n0 ≤ T62.heap.size := Nat.le_trans Z59 Kq62.1
        have K62 : Keep h0 T62.heap [] := K59.trans Kq62 all0
        have sz_bb_62 : h0.size ≤ bb_62 := Nat.le_trans K59.1 p62_1
        have ne62_b53_bb_62 : b53 ≠ bb_62 := Nat.ne_of_lt (Nat.lt_of_lt_of_le f63.lt p62_1)
        have ne62_bb_59_bb_62 : bb_59 ≠ bb_62 := Nat.ne_of_lt (Nat.lt_of_lt_of_le p59_2.lt p62_1)
        obtain ⟨cq64, kq64, q64a, q64b, q64c⟩ := isOf hZ rfl p62_2
        obtain ⟨_, _, ⟨T64, L64, k64, n64⟩, -, X64, ⟨Lc64, hQ64, l64, y64, z64⟩, st64⟩ := X62.virtualBack hx (y := (⟨"com/example/mergewright/mergewright/merge/Match", "isInsertedByBoth", "()Z"⟩ : MethodName)) (z := (⟨"com/example/mergewright/mergewright/merge/Match", "isInsertedByBoth", "()Z"⟩ : MethodName)) hown (mvT hZ (kw22 hw)) (mvT hZ (kw23 hw)) (notFace_of_selects (args := #[]) (mvT hZ (kw25 hw))) (mvT hZ (kw25 hw)) (mvT hZ (kw24 hw)) (by decide) (backOf (W := 0) (rm4_n l Z a0 hw [] bb_62 T62.heap n0 Z62 p62_3) hZ (kw26 hw) (kw9 hw) (by decide) (by decide)) q64a q64c (g := (mkF m 159 #[.val (.int p1), .val (.int p2), .val (.int p3), .val (.int p4), .val (.int (0 : Int32)), .val (.int (1 : Int32)), .val (.int (1 : Int32)), .val .null, .val (.ref bb_50), .val (.ref bb_51), .val (.ref b53), .val (.int (1 : Int32)), .val (.ref bb_59), .val (.int (1 : Int32)), .val (.ref bb_62), .unset] [(.ref bb_62)])) rfl (by rw [hml]; rfl) (Steps.refl _) (argsL := []) (rest := []) (lenOf pd_3 rfl) rfl (by show 2 * 0 + _ ≤ _; exact Nat.le_of_eq rfl) (hb hby at_159) (fun _ _ => ⟨rfl, rfl, (by decide : 6 + 0 ≤ _), (by decide : 12 + 0 ≤ _)⟩)
        dsimp only [Pt.U, Pt.locs, Pt.cells, Pt.slots] at X64 l64 y64 z64 st64 hQ64
        subst l64 y64 z64
        obtain ⟨rfl, N64q, e64⟩ := hQ64
        have N64 := Fr.app N62 N64q
        obtain ⟨fs, hr, hrun, hended, hW, hsame⟩ := X64.leave (v := some (.int (1 : Int32))) (fun h => by rw [Bd.returns] at h; cases h)
        refine ⟨_, _, pre34 _ ?_, hrun, hended, _, _, rfl, ?_, ⟨_, rfl⟩, hW, hsame.mono (by decide) (by decide)⟩
        · skip
          refine XS.ifNo X0.here hx rfl (hb hby at_29) rfl ((if0 _ _).trans (feq hc35).1) ?_
          show Steps p.tables e below (s₁.setTop (mkF m 32 #[.val (.int p1), .val (.int p2), .val (.int p3), .val (.int p4), .val (.int (0 : Int32)), .val (.int (1 : Int32)), .unset, .unset, .unset, .unset, .unset, .unset, .unset, .unset, .unset, .unset] [])) _
          refine XS.iconst X0.here hx rfl (hb hby at_32) ?_
          show Steps p.tables e below (s₁.setTop (mkF m 33 #[.val (.int p1), .val (.int p2), .val (.int p3), .val (.int p4), .val (.int (0 : Int32)), .val (.int (1 : Int32)), .unset, .unset, .unset, .unset, .unset, .unset, .unset, .unset, .unset, .unset] [(.int (1 : Int32))])) _
          refine XS.goto X0.here hx rfl (pc0 := 33) (pc' := 37) rfl (hb hby at_33) (by decide) (by decide) ?_
          show Steps p.tables e below (s₁.setTop (mkF m 37 #[.val (.int p1), .val (.int p2), .val (.int p3), .val (.int p4), .val (.int (0 : Int32)), .val (.int (1 : Int32)), .unset, .unset, .unset, .unset, .unset, .unset, .unset, .unset, .unset, .unset] [(.int (1 : Int32))])) _
          refine XS.istore X0.here hx rfl (hb hby at_37) rfl (l' := #[.val (.int p1), .val (.int p2), .val (.int p3), .val (.int p4), .val (.int (0 : Int32)), .val (.int (1 : Int32)), .val (.int (1 : Int32)), .unset, .unset, .unset, .unset, .unset, .unset, .unset, .unset, .unset]) rfl ?_
          show Steps p.tables e below (s₁.setTop (mkF m 39 #[.val (.int p1), .val (.int p2), .val (.int p3), .val (.int p4), .val (.int (0 : Int32)), .val (.int (1 : Int32)), .val (.int (1 : Int32)), .unset, .unset, .unset, .unset, .unset, .unset, .unset, .unset, .unset] [])) _
          refine XS.iload X0.here hx rfl (hb hby at_39) rfl ?_
          show Steps p.tables e below (s₁.setTop (mkF m 41 #[.val (.int p1), .val (.int p2), .val (.int p3), .val (.int p4), .val (.int (0 : Int32)), .val (.int (1 : Int32)), .val (.int (1 : Int32)), .unset, .unset, .unset, .unset, .unset, .unset, .unset, .unset, .unset] [(.int (0 : Int32))])) _
          refine XS.ifYes X0.here hx rfl (pc0 := 41) (pc' := 51) rfl (hb hby at_41) rfl ((if0 _ _).trans (teq rfl).1) (by decide) (by decide) ?_
          show Steps p.tables e below (s₁.setTop (mkF m 51 #[.val (.int p1), .val (.int p2), .val (.int p3), .val (.int p4), .val (.int (0 : Int32)), .val (.int (1 : Int32)), .val (.int (1 : Int32)), .unset, .unset, .unset, .unset, .unset, .unset, .unset, .unset, .unset] [])) _
          refine XS.aconstNull X0.here hx rfl (hb hby at_51) ?_
          show Steps p.tables e below (s₁.setTop (mkF m 52 #[.val (.int p1), .val (.int p2), .val (.int p3), .val (.int p4), .val (.int (0 : Int32)), .val (.int (1 : Int32)), .val (.int (1 : Int32)), .unset, .unset, .unset, .unset, .unset, .unset, .unset, .unset, .unset] [.null])) _
          refine XS.astore X0.here hx rfl (hb hby at_52) rfl rfl (l' := #[.val (.int p1), .val (.int p2), .val (.int p3), .val (.int p4), .val (.int (0 : Int32)), .val (.int (1 : Int32)), .val (.int (1 : Int32)), .val .null, .unset, .unset, .unset, .unset, .unset, .unset, .unset, .unset]) rfl ?_
          show Steps p.tables e below (s₁.setTop (mkF m 54 #[.val (.int p1), .val (.int p2), .val (.int p3), .val (.int p4), .val (.int (0 : Int32)), .val (.int (1 : Int32)), .val (.int (1 : Int32)), .val .null, .unset, .unset, .unset, .unset, .unset, .unset, .unset, .unset] [])) _
          refine XS.iload X0.here hx rfl (hb hby at_54) rfl ?_
          show Steps p.tables e below (s₁.setTop (mkF m 56 #[.val (.int p1), .val (.int p2), .val (.int p3), .val (.int p4), .val (.int (0 : Int32)), .val (.int (1 : Int32)), .val (.int (1 : Int32)), .val .null, .unset, .unset, .unset, .unset, .unset, .unset, .unset, .unset] [(.int (1 : Int32))])) _
          refine XS.ifNo X0.here hx rfl (hb hby at_56) rfl ((if0 _ _).trans (feq (by decide)).1) ?_
          show Steps p.tables e below (s₁.setTop (mkF m 59 #[.val (.int p1), .val (.int p2), .val (.int p3), .val (.int p4), .val (.int (0 : Int32)), .val (.int (1 : Int32)), .val (.int (1 : Int32)), .val .null, .unset, .unset, .unset, .unset, .unset, .unset, .unset, .unset] [])) _
          refine XS.iloadN X0.here hx rfl (hb hby at_59) rfl ?_
          show Steps p.tables e below (s₁.setTop (mkF m 60 #[.val (.int p1), .val (.int p2), .val (.int p3), .val (.int p4), .val (.int (0 : Int32)), .val (.int (1 : Int32)), .val (.int (1 : Int32)), .val .null, .unset, .unset, .unset, .unset, .unset, .unset, .unset, .unset] [(.int p2)])) _
          refine st50 _ ?_
          show Steps p.tables e below (T50.setTop (mkF m 63 #[.val (.int p1), .val (.int p2), .val (.int p3), .val (.int p4), .val (.int (0 : Int32)), .val (.int (1 : Int32)), .val (.int (1 : Int32)), .val .null, .unset, .unset, .unset, .unset, .unset, .unset, .unset, .unset] [(.ref bb_50)])) _
          refine XS.goto X50.here hx rfl (pc0 := 63) (pc' := 67) rfl (hb hby at_63) (by decide) (by decide) ?_
          show Steps p.tables e below (T50.setTop (mkF m 67 #[.val (.int p1), .val (.int p2), .val (.int p3), .val (.int p4), .val (.int (0 : Int32)), .val (.int (1 : Int32)), .val (.int (1 : Int32)), .val .null, .unset, .unset, .unset, .unset, .unset, .unset, .unset, .unset] [(.ref bb_50)])) _
          refine XS.astore X50.here hx rfl (hb hby at_67) rfl rfl (l' := #[.val (.int p1), .val (.int p2), .val (.int p3), .val (.int p4), .val (.int (0 : Int32)), .val (.int (1 : Int32)), .val (.int (1 : Int32)), .val .null, .val (.ref bb_50), .unset, .unset, .unset, .unset, .unset, .unset, .unset]) rfl ?_
          show Steps p.tables e below (T50.setTop (mkF m 69 #[.val (.int p1), .val (.int p2), .val (.int p3), .val (.int p4), .val (.int (0 : Int32)), .val (.int (1 : Int32)), .val (.int (1 : Int32)), .val .null, .val (.ref bb_50), .unset, .unset, .unset, .unset, .unset, .unset, .unset] [])) _
          refine XS.iload X50.here hx rfl (hb hby at_69) rfl ?_
          show Steps p.tables e below (T50.setTop (mkF m 71 #[.val (.int p1), .val (.int p2), .val (.int p3), .val (.int p4), .val (.int (0 : Int32)), .val (.int (1 : Int32)), .val (.int (1 : Int32)), .val .null, .val (.ref bb_50), .unset, .unset, .unset, .unset, .unset, .unset, .unset] [(.int (1 : Int32))])) _
          refine XS.ifNo X50.here hx rfl (hb hby at_71) rfl ((if0 _ _).trans (feq (by decide)).1) ?_
          show Steps p.tables e below (T50.setTop (mkF m 74 #[.val (.int p1), .val (.int p2), .val (.int p3), .val (.int p4), .val (.int (0 : Int32)), .val (.int (1 : Int32)), .val (.int (1 : Int32)), .val .null, .val (.ref bb_50), .unset, .unset, .unset, .unset, .unset, .unset, .unset] [])) _
          refine XS.iloadN X50.here hx rfl (hb hby at_74) rfl ?_
          show Steps p.tables e below (T50.setTop (mkF m 75 #[.val (.int p1), .val (.int p2), .val (.int p3), .val (.int p4), .val (.int (0 : Int32)), .val (.int (1 : Int32)), .val (.int (1 : Int32)), .val .null, .val (.ref bb_50), .unset, .unset, .unset, .unset, .unset, .unset, .unset] [(.int p3)])) _
          refine st51 _ ?_
          show Steps p.tables e below (T51.setTop (mkF m 78 #[.val (.int p1), .val (.int p2), .val (.int p3), .val (.int p4), .val (.int (0 : Int32)), .val (.int (1 : Int32)), .val (.int (1 : Int32)), .val .null, .val (.ref bb_50), .unset, .unset, .unset, .unset, .unset, .unset, .unset] [(.ref bb_51)])) _
          refine XS.goto X51.here hx rfl (pc0 := 78) (pc' := 82) rfl (hb hby at_78) (by decide) (by decide) ?_
          show Steps p.tables e below (T51.setTop (mkF m 82 #[.val (.int p1), .val (.int p2), .val (.int p3), .val (.int p4), .val (.int (0 : Int32)), .val (.int (1 : Int32)), .val (.int (1 : Int32)), .val .null, .val (.ref bb_50), .unset, .unset, .unset, .unset, .unset, .unset, .unset] [(.ref bb_51)])) _
          refine XS.astore X51.here hx rfl (hb hby at_82) rfl rfl (l' := #[.val (.int p1), .val (.int p2), .val (.int p3), .val (.int p4), .val (.int (0 : Int32)), .val (.int (1 : Int32)), .val (.int (1 : Int32)), .val .null, .val (.ref bb_50), .val (.ref bb_51), .unset, .unset, .unset, .unset, .unset, .unset]) rfl ?_
          show Steps p.tables e below (T51.setTop (mkF m 84 #[.val (.int p1), .val (.int p2), .val (.int p3), .val (.int p4), .val (.int (0 : Int32)), .val (.int (1 : Int32)), .val (.int (1 : Int32)), .val .null, .val (.ref bb_50), .val (.ref bb_51), .unset, .unset, .unset, .unset, .unset, .unset] [])) _
          refine st53 _ ?_
          show Steps p.tables e below (T53.setTop (mkF m 87 #[.val (.int p1), .val (.int p2), .val (.int p3), .val (.int p4), .val (.int (0 : Int32)), .val (.int (1 : Int32)), .val (.int (1 : Int32)), .val .null, .val (.ref bb_50), .val (.ref bb_51), .unset, .unset, .unset, .unset, .unset, .unset] [(.ref b53)])) _
          refine XS.dup X53.here hx rfl (hb hby at_87) rfl rfl ?_
          show Steps p.tables e below (T53.setTop (mkF m 88 #[.val (.int p1), .val (.int p2), .val (.int p3), .val (.int p4), .val (.int (0 : Int32)), .val (.int (1 : Int32)), .val (.int (1 : Int32)), .val .null, .val (.ref bb_50), .val (.ref bb_51), .unset, .unset, .unset, .unset, .unset, .unset] [(.ref b53), (.ref b53)])) _
          refine XS.aload X53.here hx rfl (hb hby at_88) rfl rfl ?_
          show Steps p.tables e below (T53.setTop (mkF m 90 #[.val (.int p1), .val (.int p2), .val (.int p3), .val (.int p4), .val (.int (0 : Int32)), .val (.int (1 : Int32)), .val (.int (1 : Int32)), .val .null, .val (.ref bb_50), .val (.ref bb_51), .unset, .unset, .unset, .unset, .unset, .unset] [.null, (.ref b53), (.ref b53)])) _
          refine XS.aload X53.here hx rfl (hb hby at_90) rfl rfl ?_
          show Steps p.tables e below (T53.setTop (mkF m 92 #[.val (.int p1), .val (.int p2), .val (.int p3), .val (.int p4), .val (.int (0 : Int32)), .val (.int (1 : Int32)), .val (.int (1 : Int32)), .val .null, .val (.ref bb_50), .val (.ref bb_51), .unset, .unset, .unset, .unset, .unset, .unset] [(.ref bb_50), .null, (.ref b53), (.ref b53)])) _
          refine XS.aload X53.here hx rfl (hb hby at_92) rfl rfl ?_
          show Steps p.tables e below (T53.setTop (mkF m 94 #[.val (.int p1), .val (.int p2), .val (.int p3), .val (.int p4), .val (.int (0 : Int32)), .val (.int (1 : Int32)), .val (.int (1 : Int32)), .val .null, .val (.ref bb_50), .val (.ref bb_51), .unset, .unset, .unset, .unset, .unset, .unset] [(.ref bb_51), (.ref bb_50), .null, (.ref b53), (.ref b53)])) _
          refine st54.trans ?_
          show Steps p.tables e below (T54.setTop (mkF m 97 #[.val (.int p1), .val (.int p2), .val (.int p3), .val (.int p4), .val (.int (0 : Int32)), .val (.int (1 : Int32)), .val (.int (1 : Int32)), .val .null, .val (.ref bb_50), .val (.ref bb_51), .unset, .unset, .unset, .unset, .unset, .unset] [(.ref b53)])) _
          refine XS.astore X54.here hx rfl (hb hby at_97) rfl rfl (l' := #[.val (.int p1), .val (.int p2), .val (.int p3), .val (.int p4), .val (.int (0 : Int32)), .val (.int (1 : Int32)), .val (.int (1 : Int32)), .val .null, .val (.ref bb_50), .val (.ref bb_51), .val (.ref b53), .unset, .unset, .unset, .unset, .unset]) rfl ?_
          show Steps p.tables e below (T54.setTop (mkF m 99 #[.val (.int p1), .val (.int p2), .val (.int p3), .val (.int p4), .val (.int (0 : Int32)), .val (.int (1 : Int32)), .val (.int (1 : Int32)), .val .null, .val (.ref bb_50), .val (.ref bb_51), .val (.ref b53), .unset, .unset, .unset, .unset, .unset] [])) _
          refine XS.aload X54.here hx rfl (hb hby at_99) rfl rfl ?_
          show Steps p.tables e below (T54.setTop (mkF m 101 #[.val (.int p1), .val (.int p2), .val (.int p3), .val (.int p4), .val (.int (0 : Int32)), .val (.int (1 : Int32)), .val (.int (1 : Int32)), .val .null, .val (.ref bb_50), .val (.ref bb_51), .val (.ref b53), .unset, .unset, .unset, .unset, .unset] [(.ref b53)])) _
          refine st55.trans ?_
          show Steps p.tables e below (T55.setTop (mkF m 104 #[.val (.int p1), .val (.int p2), .val (.int p3), .val (.int p4), .val (.int (0 : Int32)), .val (.int (1 : Int32)), .val (.int (1 : Int32)), .val .null, .val (.ref bb_50), .val (.ref bb_51), .val (.ref b53), .unset, .unset, .unset, .unset, .unset] [(.int (0 : Int32))])) _
          refine XS.iload X55.here hx rfl (hb hby at_104) rfl ?_
          show Steps p.tables e below (T55.setTop (mkF m 106 #[.val (.int p1), .val (.int p2), .val (.int p3), .val (.int p4), .val (.int (0 : Int32)), .val (.int (1 : Int32)), .val (.int (1 : Int32)), .val .null, .val (.ref bb_50), .val (.ref bb_51), .val (.ref b53), .unset, .unset, .unset, .unset, .unset] [(.int (1 : Int32)), (.int (0 : Int32))])) _
          refine XS.ifYes X55.here hx rfl (pc0 := 106) (pc' := 113) rfl (hb hby at_106) rfl ((if0 _ _).trans (feq (by decide)).2) (by decide) (by decide) ?_
          show Steps p.tables e below (T55.setTop (mkF m 113 #[.val (.int p1), .val (.int p2), .val (.int p3), .val (.int p4), .val (.int (0 : Int32)), .val (.int (1 : Int32)), .val (.int (1 : Int32)), .val .null, .val (.ref bb_50), .val (.ref bb_51), .val (.ref b53), .unset, .unset, .unset, .unset, .unset] [(.int (0 : Int32))])) _
          refine XS.iconst X55.here hx rfl (hb hby at_113) ?_
          show Steps p.tables e below (T55.setTop (mkF m 114 #[.val (.int p1), .val (.int p2), .val (.int p3), .val (.int p4), .val (.int (0 : Int32)), .val (.int (1 : Int32)), .val (.int (1 : Int32)), .val .null, .val (.ref bb_50), .val (.ref bb_51), .val (.ref b53), .unset, .unset, .unset, .unset, .unset] [(.int (0 : Int32)), (.int (0 : Int32))])) _
          refine XS.icmpNo X55.here hx rfl (hb hby at_114) rfl (teq rfl).2 ?_
          show Steps p.tables e below (T55.setTop (mkF m 117 #[.val (.int p1), .val (.int p2), .val (.int p3), .val (.int p4), .val (.int (0 : Int32)), .val (.int (1 : Int32)), .val (.int (1 : Int32)), .val .null, .val (.ref bb_50), .val (.ref bb_51), .val (.ref b53), .unset, .unset, .unset, .unset, .unset] [])) _
          refine XS.iconst X55.here hx rfl (hb hby at_117) ?_
          show Steps p.tables e below (T55.setTop (mkF m 118 #[.val (.int p1), .val (.int p2), .val (.int p3), .val (.int p4), .val (.int (0 : Int32)), .val (.int (1 : Int32)), .val (.int (1 : Int32)), .val .null, .val (.ref bb_50), .val (.ref bb_51), .val (.ref b53), .unset, .unset, .unset, .unset, .unset] [(.int (1 : Int32))])) _
          refine XS.goto X55.here hx rfl (pc0 := 118) (pc' := 122) rfl (hb hby at_118) (by decide) (by decide) ?_
          show Steps p.tables e below (T55.setTop (mkF m 122 #[.val (.int p1), .val (.int p2), .val (.int p3), .val (.int p4), .val (.int (0 : Int32)), .val (.int (1 : Int32)), .val (.int (1 : Int32)), .val .null, .val (.ref bb_50), .val (.ref bb_51), .val (.ref b53), .unset, .unset, .unset, .unset, .unset] [(.int (1 : Int32))])) _
          refine XS.istore X55.here hx rfl (hb hby at_122) rfl (l' := #[.val (.int p1), .val (.int p2), .val (.int p3), .val (.int p4), .val (.int (0 : Int32)), .val (.int (1 : Int32)), .val (.int (1 : Int32)), .val .null, .val (.ref bb_50), .val (.ref bb_51), .val (.ref b53), .val (.int (1 : Int32)), .unset, .unset, .unset, .unset]) rfl ?_
          show Steps p.tables e below (T55.setTop (mkF m 124 #[.val (.int p1), .val (.int p2), .val (.int p3), .val (.int p4), .val (.int (0 : Int32)), .val (.int (1 : Int32)), .val (.int (1 : Int32)), .val .null, .val (.ref bb_50), .val (.ref bb_51), .val (.ref b53), .val (.int (1 : Int32)), .unset, .unset, .unset, .unset] [])) _
          refine XS.iloadN X55.here hx rfl (hb hby at_124) rfl ?_
          show Steps p.tables e below (T55.setTop (mkF m 125 #[.val (.int p1), .val (.int p2), .val (.int p3), .val (.int p4), .val (.int (0 : Int32)), .val (.int (1 : Int32)), .val (.int (1 : Int32)), .val .null, .val (.ref bb_50), .val (.ref bb_51), .val (.ref b53), .val (.int (1 : Int32)), .unset, .unset, .unset, .unset] [(.int p1)])) _
          refine st57 _ ?_
          show Steps p.tables e below (T57.setTop (mkF m 128 #[.val (.int p1), .val (.int p2), .val (.int p3), .val (.int p4), .val (.int (0 : Int32)), .val (.int (1 : Int32)), .val (.int (1 : Int32)), .val .null, .val (.ref bb_50), .val (.ref bb_51), .val (.ref b53), .val (.int (1 : Int32)), .unset, .unset, .unset, .unset] [(.ref bb_57)])) _
          refine st59 _ ?_
          show Steps p.tables e below (T59.setTop (mkF m 131 #[.val (.int p1), .val (.int p2), .val (.int p3), .val (.int p4), .val (.int (0 : Int32)), .val (.int (1 : Int32)), .val (.int (1 : Int32)), .val .null, .val (.ref bb_50), .val (.ref bb_51), .val (.ref b53), .val (.int (1 : Int32)), .unset, .unset, .unset, .unset] [(.ref bb_59)])) _
          refine XS.astore X59.here hx rfl (hb hby at_131) rfl rfl (l' := #[.val (.int p1), .val (.int p2), .val (.int p3), .val (.int p4), .val (.int (0 : Int32)), .val (.int (1 : Int32)), .val (.int (1 : Int32)), .val .null, .val (.ref bb_50), .val (.ref bb_51), .val (.ref b53), .val (.int (1 : Int32)), .val (.ref bb_59), .unset, .unset, .unset]) rfl ?_
          show Steps p.tables e below (T59.setTop (mkF m 133 #[.val (.int p1), .val (.int p2), .val (.int p3), .val (.int p4), .val (.int (0 : Int32)), .val (.int (1 : Int32)), .val (.int (1 : Int32)), .val .null, .val (.ref bb_50), .val (.ref bb_51), .val (.ref b53), .val (.int (1 : Int32)), .val (.ref bb_59), .unset, .unset, .unset] [])) _
          refine XS.aload X59.here hx rfl (hb hby at_133) rfl rfl ?_
          show Steps p.tables e below (T59.setTop (mkF m 135 #[.val (.int p1), .val (.int p2), .val (.int p3), .val (.int p4), .val (.int (0 : Int32)), .val (.int (1 : Int32)), .val (.int (1 : Int32)), .val .null, .val (.ref bb_50), .val (.ref bb_51), .val (.ref b53), .val (.int (1 : Int32)), .val (.ref bb_59), .unset, .unset, .unset] [(.ref bb_59)])) _
          refine st61.trans ?_
          show Steps p.tables e below (T61.setTop (mkF m 138 #[.val (.int p1), .val (.int p2), .val (.int p3), .val (.int p4), .val (.int (0 : Int32)), .val (.int (1 : Int32)), .val (.int (1 : Int32)), .val .null, .val (.ref bb_50), .val (.ref bb_51), .val (.ref b53), .val (.int (1 : Int32)), .val (.ref bb_59), .unset, .unset, .unset] [(.int (0 : Int32))])) _
          refine XS.ifNo X61.here hx rfl (hb hby at_138) rfl ((if0 _ _).trans (teq rfl).2) ?_
          show Steps p.tables e below (T61.setTop (mkF m 141 #[.val (.int p1), .val (.int p2), .val (.int p3), .val (.int p4), .val (.int (0 : Int32)), .val (.int (1 : Int32)), .val (.int (1 : Int32)), .val .null, .val (.ref bb_50), .val (.ref bb_51), .val (.ref b53), .val (.int (1 : Int32)), .val (.ref bb_59), .unset, .unset, .unset] [])) _
          refine XS.iconst X61.here hx rfl (hb hby at_141) ?_
          show Steps p.tables e below (T61.setTop (mkF m 142 #[.val (.int p1), .val (.int p2), .val (.int p3), .val (.int p4), .val (.int (0 : Int32)), .val (.int (1 : Int32)), .val (.int (1 : Int32)), .val .null, .val (.ref bb_50), .val (.ref bb_51), .val (.ref b53), .val (.int (1 : Int32)), .val (.ref bb_59), .unset, .unset, .unset] [(.int (1 : Int32))])) _
          refine XS.goto X61.here hx rfl (pc0 := 142) (pc' := 146) rfl (hb hby at_142) (by decide) (by decide) ?_
          show Steps p.tables e below (T61.setTop (mkF m 146 #[.val (.int p1), .val (.int p2), .val (.int p3), .val (.int p4), .val (.int (0 : Int32)), .val (.int (1 : Int32)), .val (.int (1 : Int32)), .val .null, .val (.ref bb_50), .val (.ref bb_51), .val (.ref b53), .val (.int (1 : Int32)), .val (.ref bb_59), .unset, .unset, .unset] [(.int (1 : Int32))])) _
          refine XS.istore X61.here hx rfl (hb hby at_146) rfl (l' := #[.val (.int p1), .val (.int p2), .val (.int p3), .val (.int p4), .val (.int (0 : Int32)), .val (.int (1 : Int32)), .val (.int (1 : Int32)), .val .null, .val (.ref bb_50), .val (.ref bb_51), .val (.ref b53), .val (.int (1 : Int32)), .val (.ref bb_59), .val (.int (1 : Int32)), .unset, .unset]) rfl ?_
          show Steps p.tables e below (T61.setTop (mkF m 148 #[.val (.int p1), .val (.int p2), .val (.int p3), .val (.int p4), .val (.int (0 : Int32)), .val (.int (1 : Int32)), .val (.int (1 : Int32)), .val .null, .val (.ref bb_50), .val (.ref bb_51), .val (.ref b53), .val (.int (1 : Int32)), .val (.ref bb_59), .val (.int (1 : Int32)), .unset, .unset] [])) _
          refine XS.aload X61.here hx rfl (hb hby at_148) rfl rfl ?_
          show Steps p.tables e below (T61.setTop (mkF m 150 #[.val (.int p1), .val (.int p2), .val (.int p3), .val (.int p4), .val (.int (0 : Int32)), .val (.int (1 : Int32)), .val (.int (1 : Int32)), .val .null, .val (.ref bb_50), .val (.ref bb_51), .val (.ref b53), .val (.int (1 : Int32)), .val (.ref bb_59), .val (.int (1 : Int32)), .unset, .unset] [.null])) _
          refine XS.aload X61.here hx rfl (hb hby at_150) rfl rfl ?_
          show Steps p.tables e below (T61.setTop (mkF m 152 #[.val (.int p1), .val (.int p2), .val (.int p3), .val (.int p4), .val (.int (0 : Int32)), .val (.int (1 : Int32)), .val (.int (1 : Int32)), .val .null, .val (.ref bb_50), .val (.ref bb_51), .val (.ref b53), .val (.int (1 : Int32)), .val (.ref bb_59), .val (.int (1 : Int32)), .unset, .unset] [(.ref bb_51), .null])) _
          refine st62 _ ?_
          show Steps p.tables e below (T62.setTop (mkF m 155 #[.val (.int p1), .val (.int p2), .val (.int p3), .val (.int p4), .val (.int (0 : Int32)), .val (.int (1 : Int32)), .val (.int (1 : Int32)), .val .null, .val (.ref bb_50), .val (.ref bb_51), .val (.ref b53), .val (.int (1 : Int32)), .val (.ref bb_59), .val (.int (1 : Int32)), .unset, .unset] [(.ref bb_62)])) _
          refine XS.astore X62.here hx rfl (hb hby at_155) rfl rfl (l' := #[.val (.int p1), .val (.int p2), .val (.int p3), .val (.int p4), .val (.int (0 : Int32)), .val (.int (1 : Int32)), .val (.int (1 : Int32)), .val .null, .val (.ref bb_50), .val (.ref bb_51), .val (.ref b53), .val (.int (1 : Int32)), .val (.ref bb_59), .val (.int (1 : Int32)), .val (.ref bb_62), .unset]) rfl ?_
          show Steps p.tables e below (T62.setTop (mkF m 157 #[.val (.int p1), .val (.int p2), .val (.int p3), .val (.int p4), .val (.int (0 : Int32)), .val (.int (1 : Int32)), .val (.int (1 : Int32)), .val .null, .val (.ref bb_50), .val (.ref bb_51), .val (.ref b53), .val (.int (1 : Int32)), .val (.ref bb_59), .val (.int (1 : Int32)), .val (.ref bb_62), .unset] [])) _
          refine XS.aload X62.here hx rfl (hb hby at_157) rfl rfl ?_
          show Steps p.tables e below (T62.setTop (mkF m 159 #[.val (.int p1), .val (.int p2), .val (.int p3), .val (.int p4), .val (.int (0 : Int32)), .val (.int (1 : Int32)), .val (.int (1 : Int32)), .val .null, .val (.ref bb_50), .val (.ref bb_51), .val (.ref b53), .val (.int (1 : Int32)), .val (.ref bb_59), .val (.int (1 : Int32)), .val (.ref bb_62), .unset] [(.ref bb_62)])) _
          refine st64.trans ?_
          show Steps p.tables e below (T64.setTop (mkF m 162 #[.val (.int p1), .val (.int p2), .val (.int p3), .val (.int p4), .val (.int (0 : Int32)), .val (.int (1 : Int32)), .val (.int (1 : Int32)), .val .null, .val (.ref bb_50), .val (.ref bb_51), .val (.ref b53), .val (.int (1 : Int32)), .val (.ref bb_59), .val (.int (1 : Int32)), .val (.ref bb_62), .unset] [(.int (1 : Int32))])) _
          refine XS.istore X64.here hx rfl (hb hby at_162) rfl (l' := #[.val (.int p1), .val (.int p2), .val (.int p3), .val (.int p4), .val (.int (0 : Int32)), .val (.int (1 : Int32)), .val (.int (1 : Int32)), .val .null, .val (.ref bb_50), .val (.ref bb_51), .val (.ref b53), .val (.int (1 : Int32)), .val (.ref bb_59), .val (.int (1 : Int32)), .val (.ref bb_62), .val (.int (1 : Int32))]) rfl ?_
          show Steps p.tables e below (T64.setTop (mkF m 164 #[.val (.int p1), .val (.int p2), .val (.int p3), .val (.int p4), .val (.int (0 : Int32)), .val (.int (1 : Int32)), .val (.int (1 : Int32)), .val .null, .val (.ref bb_50), .val (.ref bb_51), .val (.ref b53), .val (.int (1 : Int32)), .val (.ref bb_59), .val (.int (1 : Int32)), .val (.ref bb_62), .val (.int (1 : Int32))] [])) _
          refine XS.iload X64.here hx rfl (hb hby at_164) rfl ?_
          show Steps p.tables e below (T64.setTop (mkF m 166 #[.val (.int p1), .val (.int p2), .val (.int p3), .val (.int p4), .val (.int (0 : Int32)), .val (.int (1 : Int32)), .val (.int (1 : Int32)), .val .null, .val (.ref bb_50), .val (.ref bb_51), .val (.ref b53), .val (.int (1 : Int32)), .val (.ref bb_59), .val (.int (1 : Int32)), .val (.ref bb_62), .val (.int (1 : Int32))] [(.int (1 : Int32))])) _
          refine XS.ifNo X64.here hx rfl (hb hby at_166) rfl ((if0 _ _).trans (feq (by decide)).1) ?_
          show Steps p.tables e below (T64.setTop (mkF m 169 #[.val (.int p1), .val (.int p2), .val (.int p3), .val (.int p4), .val (.int (0 : Int32)), .val (.int (1 : Int32)), .val (.int (1 : Int32)), .val .null, .val (.ref bb_50), .val (.ref bb_51), .val (.ref b53), .val (.int (1 : Int32)), .val (.ref bb_59), .val (.int (1 : Int32)), .val (.ref bb_62), .val (.int (1 : Int32))] [])) _
          refine XS.iload X64.here hx rfl (hb hby at_169) rfl ?_
          show Steps p.tables e below (T64.setTop (mkF m 171 #[.val (.int p1), .val (.int p2), .val (.int p3), .val (.int p4), .val (.int (0 : Int32)), .val (.int (1 : Int32)), .val (.int (1 : Int32)), .val .null, .val (.ref bb_50), .val (.ref bb_51), .val (.ref b53), .val (.int (1 : Int32)), .val (.ref bb_59), .val (.int (1 : Int32)), .val (.ref bb_62), .val (.int (1 : Int32))] [(.int (1 : Int32))])) _
          refine XS.ifNo X64.here hx rfl (hb hby at_171) rfl ((if0 _ _).trans (feq (by decide)).1) ?_
          show Steps p.tables e below (T64.setTop (mkF m 174 #[.val (.int p1), .val (.int p2), .val (.int p3), .val (.int p4), .val (.int (0 : Int32)), .val (.int (1 : Int32)), .val (.int (1 : Int32)), .val .null, .val (.ref bb_50), .val (.ref bb_51), .val (.ref b53), .val (.int (1 : Int32)), .val (.ref bb_59), .val (.int (1 : Int32)), .val (.ref bb_62), .val (.int (1 : Int32))] [])) _
          refine XS.iload X64.here hx rfl (hb hby at_174) rfl ?_
          show Steps p.tables e below (T64.setTop (mkF m 176 #[.val (.int p1), .val (.int p2), .val (.int p3), .val (.int p4), .val (.int (0 : Int32)), .val (.int (1 : Int32)), .val (.int (1 : Int32)), .val .null, .val (.ref bb_50), .val (.ref bb_51), .val (.ref b53), .val (.int (1 : Int32)), .val (.ref bb_59), .val (.int (1 : Int32)), .val (.ref bb_62), .val (.int (1 : Int32))] [(.int (1 : Int32))])) _
          refine XS.ifNo X64.here hx rfl (hb hby at_176) rfl ((if0 _ _).trans (feq (by decide)).1) ?_
          show Steps p.tables e below (T64.setTop (mkF m 179 #[.val (.int p1), .val (.int p2), .val (.int p3), .val (.int p4), .val (.int (0 : Int32)), .val (.int (1 : Int32)), .val (.int (1 : Int32)), .val .null, .val (.ref bb_50), .val (.ref bb_51), .val (.ref b53), .val (.int (1 : Int32)), .val (.ref bb_59), .val (.int (1 : Int32)), .val (.ref bb_62), .val (.int (1 : Int32))] [])) _
          refine XS.iconst X64.here hx rfl (hb hby at_179) ?_
          show Steps p.tables e below (T64.setTop (mkF m 180 #[.val (.int p1), .val (.int p2), .val (.int p3), .val (.int p4), .val (.int (0 : Int32)), .val (.int (1 : Int32)), .val (.int (1 : Int32)), .val .null, .val (.ref bb_50), .val (.ref bb_51), .val (.ref b53), .val (.int (1 : Int32)), .val (.ref bb_59), .val (.int (1 : Int32)), .val (.ref bb_62), .val (.int (1 : Int32))] [(.int (1 : Int32))])) _
          refine XS.goto X64.here hx rfl (pc0 := 180) (pc' := 184) rfl (hb hby at_180) (by decide) (by decide) ?_
          show Steps p.tables e below (T64.setTop (mkF m 184 #[.val (.int p1), .val (.int p2), .val (.int p3), .val (.int p4), .val (.int (0 : Int32)), .val (.int (1 : Int32)), .val (.int (1 : Int32)), .val .null, .val (.ref bb_50), .val (.ref bb_51), .val (.ref b53), .val (.int (1 : Int32)), .val (.ref bb_59), .val (.int (1 : Int32)), .val (.ref bb_62), .val (.int (1 : Int32))] [(.int (1 : Int32))])) _
          exact retN X64 hx (t := .boolean) Bd.returns (by simp) (hb hby at_184) hr
        · show Q_rm0 Z p1 p2 p3 p4 w_cache h0 n0 _ T64.heap _
          rw [e64]
          exact ⟨rfl, N64, K62⟩
  · skip
    have pre66 : ∀ t, Steps p.tables e below (s₁.setTop (mkF m 16 #[.val (.int p1), .val (.int p2), .val (.int p3), .val (.int p4), .val (.int (1 : Int32)), .unset, .unset, .unset, .unset, .unset, .unset, .unset, .unset, .unset, .unset, .unset] [(.int (p4 &&& (2 : Int32)))])) t → Steps p.tables e below (s₁.setTop (entryFrame m #[(.int p1), (.int p2), (.int p3), (.int p4)] maxLocals)) t := fun t k => pre1 t (by
      refine XS.ifNo X0.here hx rfl (hb hby at_3) rfl ((if0 _ _).trans (feq hc2).1) ?_
      show Steps p.tables e below (s₁.setTop (mkF m 6 #[.val (.int p1), .val (.int p2), .val (.int p3), .val (.int p4), .unset, .unset, .unset, .unset, .unset, .unset, .unset, .unset, .unset, .unset, .unset, .unset] [])) _
      refine XS.iconst X0.here hx rfl (hb hby at_6) ?_
      show Steps p.tables e below (s₁.setTop (mkF m 7 #[.val (.int p1), .val (.int p2), .val (.int p3), .val (.int p4), .unset, .unset, .unset, .unset, .unset, .unset, .unset, .unset, .unset, .unset, .unset, .unset] [(.int (1 : Int32))])) _
      refine XS.goto X0.here hx rfl (pc0 := 7) (pc' := 11) rfl (hb hby at_7) (by decide) (by decide) ?_
      show Steps p.tables e below (s₁.setTop (mkF m 11 #[.val (.int p1), .val (.int p2), .val (.int p3), .val (.int p4), .unset, .unset, .unset, .unset, .unset, .unset, .unset, .unset, .unset, .unset, .unset, .unset] [(.int (1 : Int32))])) _
      refine XS.istore X0.here hx rfl (hb hby at_11) rfl (l' := #[.val (.int p1), .val (.int p2), .val (.int p3), .val (.int p4), .val (.int (1 : Int32)), .unset, .unset, .unset, .unset, .unset, .unset, .unset, .unset, .unset, .unset, .unset]) rfl ?_
      show Steps p.tables e below (s₁.setTop (mkF m 13 #[.val (.int p1), .val (.int p2), .val (.int p3), .val (.int p4), .val (.int (1 : Int32)), .unset, .unset, .unset, .unset, .unset, .unset, .unset, .unset, .unset, .unset, .unset] [])) _
      refine XS.iloadN X0.here hx rfl (hb hby at_13) rfl ?_
      show Steps p.tables e below (s₁.setTop (mkF m 14 #[.val (.int p1), .val (.int p2), .val (.int p3), .val (.int p4), .val (.int (1 : Int32)), .unset, .unset, .unset, .unset, .unset, .unset, .unset, .unset, .unset, .unset, .unset] [(.int p4)])) _
      refine XS.iconst X0.here hx rfl (hb hby at_14) ?_
      show Steps p.tables e below (s₁.setTop (mkF m 15 #[.val (.int p1), .val (.int p2), .val (.int p3), .val (.int p4), .val (.int (1 : Int32)), .unset, .unset, .unset, .unset, .unset, .unset, .unset, .unset, .unset, .unset, .unset] [(.int (2 : Int32)), (.int p4)])) _
      refine XS.iand X0.here hx rfl (hb hby at_15) rfl ?_
      show Steps p.tables e below (s₁.setTop (mkF m 16 #[.val (.int p1), .val (.int p2), .val (.int p3), .val (.int p4), .val (.int (1 : Int32)), .unset, .unset, .unset, .unset, .unset, .unset, .unset, .unset, .unset, .unset, .unset] [(.int (p4 &&& (2 : Int32)))])) _
      exact k)
    by_cases hc67 : (p4 &&& (2 : Int32)) = (0 : Int32)
    · skip
      have pre68 : ∀ t, Steps p.tables e below (s₁.setTop (mkF m 29 #[.val (.int p1), .val (.int p2), .val (.int p3), .val (.int p4), .val (.int (1 : Int32)), .val (.int (0 : Int32)), .unset, .unset, .unset, .unset, .unset, .unset, .unset, .unset, .unset, .unset] [(.int (p4 &&& (4 : Int32)))])) t → Steps p.tables e below (s₁.setTop (entryFrame m #[(.int p1), (.int p2), (.int p3), (.int p4)] maxLocals)) t := fun t k => pre66 t (by
        refine XS.ifYes X0.here hx rfl (pc0 := 16) (pc' := 23) rfl (hb hby at_16) rfl ((if0 _ _).trans (teq hc67).1) (by decide) (by decide) ?_
        show Steps p.tables e below (s₁.setTop (mkF m 23 #[.val (.int p1), .val (.int p2), .val (.int p3), .val (.int p4), .val (.int (1 : Int32)), .unset, .unset, .unset, .unset, .unset, .unset, .unset, .unset, .unset, .unset, .unset] [])) _
        refine XS.iconst X0.here hx rfl (hb hby at_23) ?_
        show Steps p.tables e below (s₁.setTop (mkF m 24 #[.val (.int p1), .val (.int p2), .val (.int p3), .val (.int p4), .val (.int (1 : Int32)), .unset, .unset, .unset, .unset, .unset, .unset, .unset, .unset, .unset, .unset, .unset] [(.int (0 : Int32))])) _
        refine XS.istore X0.here hx rfl (hb hby at_24) rfl (l' := #[.val (.int p1), .val (.int p2), .val (.int p3), .val (.int p4), .val (.int (1 : Int32)), .val (.int (0 : Int32)), .unset, .unset, .unset, .unset, .unset, .unset, .unset, .unset, .unset, .unset]) rfl ?_
        show Steps p.tables e below (s₁.setTop (mkF m 26 #[.val (.int p1), .val (.int p2), .val (.int p3), .val (.int p4), .val (.int (1 : Int32)), .val (.int (0 : Int32)), .unset, .unset, .unset, .unset, .unset, .unset, .unset, .unset, .unset, .unset] [])) _
        refine XS.iloadN X0.here hx rfl (hb hby at_26) rfl ?_
        show Steps p.tables e below (s₁.setTop (mkF m 27 #[.val (.int p1), .val (.int p2), .val (.int p3), .val (.int p4), .val (.int (1 : Int32)), .val (.int (0 : Int32)), .unset, .unset, .unset, .unset, .unset, .unset, .unset, .unset, .unset, .unset] [(.int p4)])) _
        refine XS.iconst X0.here hx rfl (hb hby at_27) ?_
        show Steps p.tables e below (s₁.setTop (mkF m 28 #[.val (.int p1), .val (.int p2), .val (.int p3), .val (.int p4), .val (.int (1 : Int32)), .val (.int (0 : Int32)), .unset, .unset, .unset, .unset, .unset, .unset, .unset, .unset, .unset, .unset] [(.int (4 : Int32)), (.int p4)])) _
        refine XS.iand X0.here hx rfl (hb hby at_28) rfl ?_
        show Steps p.tables e below (s₁.setTop (mkF m 29 #[.val (.int p1), .val (.int p2), .val (.int p3), .val (.int p4), .val (.int (1 : Int32)), .val (.int (0 : Int32)), .unset, .unset, .unset, .unset, .unset, .unset, .unset, .unset, .unset, .unset] [(.int (p4 &&& (4 : Int32)))])) _
        exact k)
      by_cases hc69 : (p4 &&& (4 : Int32)) = (0 : Int32)
      · skip
        obtain ⟨_, _, ⟨T70, L70, k70, n70⟩, -, X70, ⟨Lc70, hQ70, l70, y70, z70⟩, st70⟩ := Jvm.LawKit.callS X0 hx (y := (⟨"java/lang/Integer", "valueOf", "(I)Ljava/lang/Integer;"⟩ : MethodName)) hown (mvT hZ (kw0 hw)) (mvT hZ (kw1 hw)) (mvT hZ (kw2 hw)) (mvT hZ (kw3 hw)) (by decide) (backOf (W := 0) (rm1 l Z a0 hw [] p1 w_cache h0 n0 Z0 P0 P1 P2 HC) hZ (kw3 hw) (kw2 hw) (by decide) (by decide)) (g := (mkF m 45 #[.val (.int p1), .val (.int p2), .val (.int p3), .val (.int p4), .val (.int (1 : Int32)), .val (.int (0 : Int32)), .val (.int (0 : Int32)), .unset, .unset, .unset, .unset, .unset, .unset, .unset, .unset, .unset] [(.int p1)])) rfl (by rw [hml]; rfl) (argsL := [(.int p1)]) (rest := []) (lenOf pd_4 rfl) rfl (by show 2 * 0 + _ ≤ _; exact Nat.le_of_eq rfl) (hb hby at_45) (fun _ _ => ⟨rfl, e0, (by decide : 0 + 1 ≤ _), (by decide : 0 + 1 ≤ _)⟩)
        dsimp only [Pt.U, Pt.locs, Pt.cells, Pt.slots] at X70 l70 y70 z70 st70 hQ70
        subst l70 y70 z70
        obtain ⟨bb_70, rfl, N70q, Kq70⟩ := hQ70
        have N70 := Fr.app N0 N70q
        have Z70 : n0 ≤ T70.heap.size := Nat.le_trans Z0 Kq70.1
        have K70 : Keep h0 T70.heap [] := KR.trans Kq70 all0
        obtain ⟨T71, h71, X71, e71, E71, A71, D71, -, st71⟩ := newO X70 hx hZ hown (kw7 hw) (kw8 hw) (kw9 hw) rfl (g := (mkF m 84 #[.val (.int p1), .val (.int p2), .val (.int p3), .val (.int p4), .val (.int (1 : Int32)), .val (.int (0 : Int32)), .val (.int (0 : Int32)), .val (.ref bb_70), .val .null, .val .null, .unset, .unset, .unset, .unset, .unset, .unset] [])) rfl (hb hby at_84) (by decide) (by decide)
        obtain ⟨b71, g71⟩ : ∃ z, z = T70.heap.size := ⟨_, rfl⟩
        rw [← g71] at A71 D71 st71
        have g_b71 : n0 ≤ b71 := Nat.le_trans Z70 (Nat.le_of_eq g71.symm)
        have sz_b71 : h0.size ≤ b71 := Nat.le_trans K70.1 (Nat.le_of_eq g71.symm)
        have Z71 : n0 ≤ h71.size := Nat.le_trans Z70 E71.1
        have K71 : Keep h0 h71 [] := K70.ext E71
        have F71_current : Fld Z h71 b71 "com/example/mergewright/mergewright/merge/Match" "current" "Ljava/lang/Object;" .null := D71 (Or.inr (kw17 hw)) (ty := (.object "java/lang/Object")) (by decide)
        have F71_base : Fld Z h71 b71 "com/example/mergewright/mergewright/merge/Match" "base" "Ljava/lang/Object;" .null := D71 (Or.inr (kw19 hw)) (ty := (.object "java/lang/Object")) (by decide)
        have F71_other : Fld Z h71 b71 "com/example/mergewright/mergewright/merge/Match" "other" "Ljava/lang/Object;" .null := D71 (Or.inr (kw21 hw)) (ty := (.object "java/lang/Object")) (by decide)
        obtain ⟨_, _, ⟨T72, L72, k72, n72⟩, -, X72, ⟨Lc72, hQ72, l72, y72, z72⟩, st72⟩ := X71.specialBack hx (y := (⟨"com/example/mergewright/mergewright/merge/Match", "<init>", "(Ljava/lang/Object;Ljava/lang/Object;Ljava/lang/Object;)V"⟩ : MethodName)) rfl hown (mvT hZ (kw10 hw)) (mvT hZ (kw11 hw)) (mvT hZ (kw12 hw)) (by decide) (backOf (W := 1) (rm2_rnn l Z a0 hw [] b71 bb_70 h71 n0 Z71 A71 g_b71 F71_current F71_base F71_other) hZ (kw12 hw) (kw9 hw) (by decide) (by decide)) (g := (mkF m 94 #[.val (.int p1), .val (.int p2), .val (.int p3), .val (.int p4), .val (.int (1 : Int32)), .val (.int (0 : Int32)), .val (.int (0 : Int32)), .val (.ref bb_70), .val .null, .val .null, .unset, .unset, .unset, .unset, .unset, .unset] [.null, .null, (.ref bb_70), (.ref b71), (.ref b71)])) rfl (by rw [hml]; rfl) (Steps.refl _) (a := b71) (argsL := [(.ref bb_70), .null, .null]) (rest := [(.ref b71)]) (lenOf pd_2 rfl) rfl (by show 2 * 0 + _ ≤ _; exact Nat.le_of_eq rfl) (hb hby at_94) (fun _ _ => ⟨rfl, e71, (by decide : 2 + 0 ≤ _), (by decide : 4 + 0 ≤ _)⟩)
        dsimp only [Pt.U, Pt.locs, Pt.cells, Pt.slots] at X72 l72 y72 z72 st72 hQ72
        subst l72 y72 z72
        obtain ⟨rfl, N72q, Kq72, p72_0⟩ := hQ72
        have N72 := Fr.app N70 N72q
        have Z72 : n0 ≤ T72.heap.size := Nat.le_trans Z71 Kq72.1
        have K72 : Keep h0 T72.heap [] := K71.trans Kq72 (allS (Or.inr sz_b71) all0)
        have f74 : Exa Z T72.heap b71 "com/example/mergewright/mergewright/merge/Match" := (A71.keep Kq72)
        obtain ⟨cq73, kq73, q73a, q73b, q73c⟩ := isOf hZ rfl f74
        obtain ⟨_, _, ⟨T73, L73, k73, n73⟩, -, X73, ⟨Lc73, hQ73, l73, y73, z73⟩, st73⟩ := X72.virtualBack hx (y := (⟨"com/example/mergewright/mergewright/merge/Match", "isInsertedByBoth", "()Z"⟩ : MethodName)) (z := (⟨"com/example/mergewright/mergewright/merge/Match", "isInsertedByBoth", "()Z"⟩ : MethodName)) hown (mvT hZ (kw22 hw)) (mvT hZ (kw23 hw)) (notFace_of_selects (args := #[]) (mvT hZ (kw25 hw))) (mvT hZ (kw25 hw)) (mvT hZ (kw24 hw)) (by decide) (backOf (W := 0) (rm4_n l Z a0 hw [] b71 T72.heap n0 Z72 p72_0) hZ (kw26 hw) (kw9 hw) (by decide) (by decide)) q73a q73c (g := (mkF m 101 #[.val (.int p1), .val (.int p2), .val (.int p3), .val (.int p4), .val (.int (1 : Int32)), .val (.int (0 : Int32)), .val (.int (0 : Int32)), .val (.ref bb_70), .val .null, .val .null, .val (.ref b71), .unset, .unset, .unset, .unset, .unset] [(.ref b71)])) rfl (by rw [hml]; rfl) (Steps.refl _) (argsL := []) (rest := []) (lenOf pd_3 rfl) rfl (by show 2 * 0 + _ ≤ _; exact Nat.le_of_eq rfl) (hb hby at_101) (fun _ _ => ⟨rfl, rfl, (by decide : 2 + 0 ≤ _), (by decide : 4 + 0 ≤ _)⟩)
        dsimp only [Pt.U, Pt.locs, Pt.cells, Pt.slots] at X73 l73 y73 z73 st73 hQ73
        subst l73 y73 z73
        obtain ⟨rfl, N73q, e73⟩ := hQ73
        have N73 := Fr.app N72 N73q
        have f76 : Old Z n0 T72.heap := (((P0.keep Kq70 all0).ext E71).keep Kq72 (allS g_b71 all0))
        obtain ⟨_, _, ⟨T75, L75, k75, n75⟩, -, X75, ⟨Lc75, hQ75, l75, y75, z75⟩, st75⟩ := Jvm.LawKit.callS X73 hx (y := (⟨"java/lang/Integer", "valueOf", "(I)Ljava/lang/Integer;"⟩ : MethodName)) hown (mvT hZ (kw0 hw)) (mvT hZ (kw1 hw)) (mvT hZ (kw2 hw)) (mvT hZ (kw3 hw)) (by decide) (backOf (W := 0) (rm1 l Z a0 hw [] p1 w_cache T72.heap n0 Z72 f76 P1 P2 HC) hZ (kw3 hw) (kw2 hw) (by decide) (by decide)) (g := (mkF m 125 #[.val (.int p1), .val (.int p2), .val (.int p3), .val (.int p4), .val (.int (1 : Int32)), .val (.int (0 : Int32)), .val (.int (0 : Int32)), .val (.ref bb_70), .val .null, .val .null, .val (.ref b71), .val (.int (1 : Int32)), .unset, .unset, .unset, .unset] [(.int p1)])) rfl (by rw [hml]; rfl) (argsL := [(.int p1)]) (rest := []) (lenOf pd_4 rfl) rfl (by show 2 * 0 + _ ≤ _; exact Nat.le_of_eq rfl) (hb hby at_125) (fun _ _ => ⟨rfl, e73, (by decide : 2 + 1 ≤ _), (by decide : 4 + 1 ≤ _)⟩)
        dsimp only [Pt.U, Pt.locs, Pt.cells, Pt.slots] at X75 l75 y75 z75 st75 hQ75
        subst l75 y75 z75
        obtain ⟨bb_75, rfl, N75q, Kq75⟩ := hQ75
        have N75 := Fr.app N73 N75q
        have Z75 : n0 ≤ T75.heap.size := Nat.le_trans Z72 Kq75.1
        have K75 : Keep h0 T75.heap [] := K72.trans Kq75 all0
        have f78 : Exa Z T75.heap b71 "com/example/mergewright/mergewright/merge/Match" := (f74.keep Kq75)
        obtain ⟨_, _, ⟨T77, L77, k77, n77⟩, -, X77, ⟨Lc77, hQ77, l77, y77, z77⟩, st77⟩ := Jvm.LawKit.callS X75 hx (y := (⟨"com/example/mergewright/mergewright/merge/Match", "inserted", "(Ljava/lang/Object;)Lcom/example/mergewright/mergewright/merge/Match;"⟩ : MethodName)) hown (mvT hZ (kw27 hw)) (mvT hZ (kw28 hw)) (mvT hZ (kw9 hw)) (mvT hZ (kw29 hw)) (by decide) (backOf (W := 0) (rm5 l Z a0 hw [] bb_75 T75.heap n0 Z75 ) hZ (kw29 hw) (kw9 hw) (by decide) (by decide)) (g := (mkF m 128 #[.val (.int p1), .val (.int p2), .val (.int p3), .val (.int p4), .val (.int (1 : Int32)), .val (.int (0 : Int32)), .val (.int (0 : Int32)), .val (.ref bb_70), .val .null, .val .null, .val (.ref b71), .val (.int (1 : Int32)), .unset, .unset, .unset, .unset] [(.ref bb_75)])) rfl (by rw [hml]; rfl) (argsL := [(.ref bb_75)]) (rest := []) (lenOf pd_5 rfl) rfl (by show 2 * 0 + _ ≤ _; exact Nat.le_of_eq rfl) (hb hby at_128) (fun _ _ => ⟨rfl, rfl, (by decide : 3 + 1 ≤ _), (by decide : 5 + 3 ≤ _)⟩)
        dsimp only [Pt.U, Pt.locs, Pt.cells, Pt.slots] at X77 l77 y77 z77 st77 hQ77
        subst l77 y77 z77
        obtain ⟨bb_77, rfl, N77q, Kq77, p77_0, p77_1, p77_2, p77_3⟩ := hQ77
        have N77 := Fr.app N75 N77q
        have Z77 : n0 ≤ T77.heap.size := Nat.le_trans Z75 Kq77.1
        have K77 : Keep h0 T77.heap [] := K75.trans Kq77 all0
        have sz_bb_77 : h0.size ≤ bb_77 := Nat.le_trans K75.1 p77_1
        have ne77_b71_bb_77 : b71 ≠ bb_77 := Nat.ne_of_lt (Nat.lt_of_lt_of_le f78.lt p77_1)
        obtain ⟨cq79, kq79, q79a, q79b, q79c⟩ := isOf hZ rfl p77_2
        obtain ⟨_, _, ⟨T79, L79, k79, n79⟩, -, X79, ⟨Lc79, hQ79, l79, y79, z79⟩, st79⟩ := X77.virtualBack hx (y := (⟨"com/example/mergewright/mergewright/merge/Match", "isInsertedByBoth", "()Z"⟩ : MethodName)) (z := (⟨"com/example/mergewright/mergewright/merge/Match", "isInsertedByBoth", "()Z"⟩ : MethodName)) hown (mvT hZ (kw22 hw)) (mvT hZ (kw23 hw)) (notFace_of_selects (args := #[]) (mvT hZ (kw25 hw))) (mvT hZ (kw25 hw)) (mvT hZ (kw24 hw)) (by decide) (backOf (W := 0) (rm4_r l Z a0 hw [] bb_77 bb_75 T77.heap n0 Z77 p77_3) hZ (kw26 hw) (kw9 hw) (by decide) (by decide)) q79a q79c (g := (mkF m 135 #[.val (.int p1), .val (.int p2), .val (.int p3), .val (.int p4), .val (.int (1 : Int32)), .val (.int (0 : Int32)), .val (.int (0 : Int32)), .val (.ref bb_70), .val .null, .val .null, .val (.ref b71), .val (.int (1 : Int32)), .val (.ref bb_77), .unset, .unset, .unset] [(.ref bb_77)])) rfl (by rw [hml]; rfl) (Steps.refl _) (argsL := []) (rest := []) (lenOf pd_3 rfl) rfl (by show 2 * 0 + _ ≤ _; exact Nat.le_of_eq rfl) (hb hby at_135) (fun _ _ => ⟨rfl, rfl, (by decide : 4 + 0 ≤ _), (by decide : 8 + 0 ≤ _)⟩)
        dsimp only [Pt.U, Pt.locs, Pt.cells, Pt.slots] at X79 l79 y79 z79 st79 hQ79
        subst l79 y79 z79
        obtain ⟨rfl, N79q, e79⟩ := hQ79
        have N79 := Fr.app N77 N79q
        have f81 : Exa Z T77.heap b71 "com/example/mergewright/mergewright/merge/Match" := (f78.keep Kq77)
        obtain ⟨_, _, ⟨T80, L80, k80, n80⟩, -, X80, ⟨Lc80, hQ80, l80, y80, z80⟩, st80⟩ := Jvm.LawKit.callS X79 hx (y := (⟨"com/example/mergewright/mergewright/merge/Match", "insertedByBoth", "(Ljava/lang/Object;Ljava/lang/Object;)Lcom/example/mergewright/mergewright/merge/Match;"⟩ : MethodName)) hown (mvT hZ (kw32 hw)) (mvT hZ (kw33 hw)) (mvT hZ (kw9 hw)) (mvT hZ (kw34 hw)) (by decide) (backOf (W := 0) (rm6_rn l Z a0 hw [] bb_70 T77.heap n0 Z77 ) hZ (kw34 hw) (kw9 hw) (by decide) (by decide)) (g := (mkF m 152 #[.val (.int p1), .val (.int p2), .val (.int p3), .val (.int p4), .val (.int (1 : Int32)), .val (.int (0 : Int32)), .val (.int (0 : Int32)), .val (.ref bb_70), .val .null, .val .null, .val (.ref b71), .val (.int (1 : Int32)), .val (.ref bb_77), .val (.int (1 : Int32)), .unset, .unset] [.null, (.ref bb_70)])) rfl (by rw [hml]; rfl) (argsL := [(.ref bb_70), .null]) (rest := []) (lenOf pd_6 rfl) rfl (by show 2 * 0 + _ ≤ _; exact Nat.le_of_eq rfl) (hb hby at_152) (fun _ _ => ⟨rfl, e79, (by decide : 4 + 1 ≤ _), (by decide : 8 + 3 ≤ _)⟩)
        dsimp only [Pt.U, Pt.locs, Pt.cells, Pt.slots] at X80 l80 y80 z80 st80 hQ80
        subst l80 y80 z80
        obtain ⟨bb_80, rfl, N80q, Kq80, p80_0, p80_1, p80_2, p80_3⟩ := hQ80
        have N80 := Fr.app N79 N80q
        have Z80 : n0 ≤ T80.heap.size := Nat.le_trans Z77 Kq80.1
        have K80 : Keep h0 T80.heap [] := K77.trans Kq80 all0
        have sz_bb_80 : h0.size ≤ bb_80 := Nat.le_trans K77.1 p80_1
        have ne80_b71_bb_80 : b71 ≠ bb_80 := Nat.ne_of_lt (Nat.lt_of_lt_of_le f81.lt p80_1)
        have ne80_bb_77_bb_80 : bb_77 ≠ bb_80 := Nat.ne_of_lt (Nat.lt_of_lt_of_le p77_2.lt p80_1)
        obtain ⟨cq82, kq82, q82a, q82b, q82c⟩ := isOf hZ rfl p80_2
        obtain ⟨_, _, ⟨T82, L82, k82, n82⟩, -, X82, ⟨Lc82, hQ82, l82, y82, z82⟩, st82⟩ := X80.virtualBack hx (y := (⟨"com/example/mergewright/mergewright/merge/Match", "isInsertedByBoth", "()Z"⟩ : MethodName)) (z := (⟨"com/example/mergewright/mergewright/merge/Match", "isInsertedByBoth", "()Z"⟩ : MethodName)) hown (mvT hZ (kw22 hw)) (mvT hZ (kw23 hw)) (notFace_of_selects (args := #[]) (mvT hZ (kw25 hw))) (mvT hZ (kw25 hw)) (mvT hZ (kw24 hw)) (by decide) (backOf (W := 0) (rm4_n l Z a0 hw [] bb_80 T80.heap n0 Z80 p80_3) hZ (kw26 hw) (kw9 hw) (by decide) (by decide)) q82a q82c (g := (mkF m 159 #[.val (.int p1), .val (.int p2), .val (.int p3), .val (.int p4), .val (.int (1 : Int32)), .val (.int (0 : Int32)), .val (.int (0 : Int32)), .val (.ref bb_70), .val .null, .val .null, .val (.ref b71), .val (.int (1 : Int32)), .val (.ref bb_77), .val (.int (1 : Int32)), .val (.ref bb_80), .unset] [(.ref bb_80)])) rfl (by rw [hml]; rfl) (Steps.refl _) (argsL := []) (rest := []) (lenOf pd_3 rfl) rfl (by show 2 * 0 + _ ≤ _; exact Nat.le_of_eq rfl) (hb hby at_159) (fun _ _ => ⟨rfl, rfl, (by decide : 5 + 0 ≤ _), (by decide : 11 + 0 ≤ _)⟩)
        dsimp only [Pt.U, Pt.locs, Pt.cells, Pt.slots] at X82 l82 y82 z82 st82 hQ82
        subst l82 y82 z82
        obtain ⟨rfl, N82q, e82⟩ := hQ82
        have N82 := Fr.app N80 N82q
        obtain ⟨fs, hr, hrun, hended, hW, hsame⟩ := X82.leave (v := some (.int (1 : Int32))) (fun h => by rw [Bd.returns] at h; cases h)
        refine ⟨_, _, pre68 _ ?_, hrun, hended, _, _, rfl, ?_, ⟨_, rfl⟩, hW, hsame.mono (by decide) (by decide)⟩
        · skip
          refine XS.ifYes X0.here hx rfl (pc0 := 29) (pc' := 36) rfl (hb hby at_29) rfl ((if0 _ _).trans (teq hc69).1) (by decide) (by decide) ?_
          show Steps p.tables e below (s₁.setTop (mkF m 36 #[.val (.int p1), .val (.int p2), .val (.int p3), .val (.int p4), .val (.int (1 : Int32)), .val (.int (0 : Int32)), .unset, .unset, .unset, .unset, .unset, .unset, .unset, .unset, .unset, .unset] [])) _
          refine XS.iconst X0.here hx rfl (hb hby at_36) ?_
          show Steps p.tables e below (s₁.setTop (mkF m 37 #[.val (.int p1), .val (.int p2), .val (.int p3), .val (.int p4), .val (.int (1 : Int32)), .val (.int (0 : Int32)), .unset, .unset, .unset, .unset, .unset, .unset, .unset, .unset, .unset, .unset] [(.int (0 : Int32))])) _
          refine XS.istore X0.here hx rfl (hb hby at_37) rfl (l' := #[.val (.int p1), .val (.int p2), .val (.int p3), .val (.int p4), .val (.int (1 : Int32)), .val (.int (0 : Int32)), .val (.int (0 : Int32)), .unset, .unset, .unset, .unset, .unset, .unset, .unset, .unset, .unset]) rfl ?_
          show Steps p.tables e below (s₁.setTop (mkF m 39 #[.val (.int p1), .val (.int p2), .val (.int p3), .val (.int p4), .val (.int (1 : Int32)), .val (.int (0 : Int32)), .val (.int (0 : Int32)), .unset, .unset, .unset, .unset, .unset, .unset, .unset, .unset, .unset] [])) _
          refine XS.iload X0.here hx rfl (hb hby at_39) rfl ?_
          show Steps p.tables e below (s₁.setTop (mkF m 41 #[.val (.int p1), .val (.int p2), .val (.int p3), .val (.int p4), .val (.int (1 : Int32)), .val (.int (0 : Int32)), .val (.int (0 : Int32)), .unset, .unset, .unset, .unset, .unset, .unset, .unset, .unset, .unset] [(.int (1 : Int32))])) _
          refine XS.ifNo X0.here hx rfl (hb hby at_41) rfl ((if0 _ _).trans (feq (by decide)).1) ?_
          show Steps p.tables e below (s₁.setTop (mkF m 44 #[.val (.int p1), .val (.int p2), .val (.int p3), .val (.int p4), .val (.int (1 : Int32)), .val (.int (0 : Int32)), .val (.int (0 : Int32)), .unset, .unset, .unset, .unset, .unset, .unset, .unset, .unset, .unset] [])) _
          refine XS.iloadN X0.here hx rfl (hb hby at_44) rfl ?_
          show Steps p.tables e below (s₁.setTop (mkF m 45 #[.val (.int p1), .val (.int p2), .val (.int p3), .val (.int p4), .val (.int (1 : Int32)), .val (.int (0 : Int32)), .val (.int (0 : Int32)), .unset, .unset, .unset, .unset, .unset, .unset, .unset, .unset, .unset] [(.int p1)])) _
          refine st70 _ ?_
          show Steps p.tables e below (T70.setTop (mkF m 48 #[.val (.int p1), .val (.int p2), .val (.int p3), .val (.int p4), .val (.int (1 : Int32)), .val (.int (0 : Int32)), .val (.int (0 : Int32)), .unset, .unset, .unset, .unset, .unset, .unset, .unset, .unset, .unset] [(.ref bb_70)])) _
          refine XS.goto X70.here hx rfl (pc0 := 48) (pc' := 52) rfl (hb hby at_48) (by decide) (by decide) ?_
          show Steps p.tables e below (T70.setTop (mkF m 52 #[.val (.int p1), .val (.int p2), .val (.int p3), .val (.int p4), .val (.int (1 : Int32)), .val (.int (0 : Int32)), .val (.int (0 : Int32)), .unset, .unset, .unset, .unset, .unset, .unset, .unset, .unset, .unset] [(.ref bb_70)])) _
          refine XS.astore X70.here hx rfl (hb hby at_52) rfl rfl (l' := #[.val (.int p1), .val (.int p2), .val (.int p3), .val (.int p4), .val (.int (1 : Int32)), .val (.int (0 : Int32)), .val (.int (0 : Int32)), .val (.ref bb_70), .unset, .unset, .unset, .unset, .unset, .unset, .unset, .unset]) rfl ?_
          show Steps p.tables e below (T70.setTop (mkF m 54 #[.val (.int p1), .val (.int p2), .val (.int p3), .val (.int p4), .val (.int (1 : Int32)), .val (.int (0 : Int32)), .val (.int (0 : Int32)), .val (.ref bb_70), .unset, .unset, .unset, .unset, .unset, .unset, .unset, .unset] [])) _
          refine XS.iload X70.here hx rfl (hb hby at_54) rfl ?_
          show Steps p.tables e below (T70.setTop (mkF m 56 #[.val (.int p1), .val (.int p2), .val (.int p3), .val (.int p4), .val (.int (1 : Int32)), .val (.int (0 : Int32)), .val (.int (0 : Int32)), .val (.ref bb_70), .unset, .unset, .unset, .unset, .unset, .unset, .unset, .unset] [(.int (0 : Int32))])) _
          refine XS.ifYes X70.here hx rfl (pc0 := 56) (pc' := 66) rfl (hb hby at_56) rfl ((if0 _ _).trans (teq rfl).1) (by decide) (by decide) ?_
          show Steps p.tables e below (T70.setTop (mkF m 66 #[.val (.int p1), .val (.int p2), .val (.int p3), .val (.int p4), .val (.int (1 : Int32)), .val (.int (0 : Int32)), .val (.int (0 : Int32)), .val (.ref bb_70), .unset, .unset, .unset, .unset, .unset, .unset, .unset, .unset] [])) _
          refine XS.aconstNull X70.here hx rfl (hb hby at_66) ?_
          show Steps p.tables e below (T70.setTop (mkF m 67 #[.val (.int p1), .val (.int p2), .val (.int p3), .val (.int p4), .val (.int (1 : Int32)), .val (.int (0 : Int32)), .val (.int (0 : Int32)), .val (.ref bb_70), .unset, .unset, .unset, .unset, .unset, .unset, .unset, .unset] [.null])) _
          refine XS.astore X70.here hx rfl (hb hby at_67) rfl rfl (l' := #[.val (.int p1), .val (.int p2), .val (.int p3), .val (.int p4), .val (.int (1 : Int32)), .val (.int (0 : Int32)), .val (.int (0 : Int32)), .val (.ref bb_70), .val .null, .unset, .unset, .unset, .unset, .unset, .unset, .unset]) rfl ?_
          show Steps p.tables e below (T70.setTop (mkF m 69 #[.val (.int p1), .val (.int p2), .val (.int p3), .val (.int p4), .val (.int (1 : Int32)), .val (.int (0 : Int32)), .val (.int (0 : Int32)), .val (.ref bb_70), .val .null, .unset, .unset, .unset, .unset, .unset, .unset, .unset] [])) _
          refine XS.iload X70.here hx rfl (hb hby at_69) rfl ?_
          show Steps p.tables e below (T70.setTop (mkF m 71 #[.val (.int p1), .val (.int p2), .val (.int p3), .val (.int p4), .val (.int (1 : Int32)), .val (.int (0 : Int32)), .val (.int (0 : Int32)), .val (.ref bb_70), .val .null, .unset, .unset, .unset, .unset, .unset, .unset, .unset] [(.int (0 : Int32))])) _
          refine XS.ifYes X70.here hx rfl (pc0 := 71) (pc' := 81) rfl (hb hby at_71) rfl ((if0 _ _).trans (teq rfl).1) (by decide) (by decide) ?_
          show Steps p.tables e below (T70.setTop (mkF m 81 #[.val (.int p1), .val (.int p2), .val (.int p3), .val (.int p4), .val (.int (1 : Int32)), .val (.int (0 : Int32)), .val (.int (0 : Int32)), .val (.ref bb_70), .val .null, .unset, .unset, .unset, .unset, .unset, .unset, .unset] [])) _
          refine XS.aconstNull X70.here hx rfl (hb hby at_81) ?_
          show Steps p.tables e below (T70.setTop (mkF m 82 #[.val (.int p1), .val (.int p2), .val (.int p3), .val (.int p4), .val (.int (1 : Int32)), .val (.int (0 : Int32)), .val (.int (0 : Int32)), .val (.ref bb_70), .val .null, .unset, .unset, .unset, .unset, .unset, .unset, .unset] [.null])) _
          refine XS.astore X70.here hx rfl (hb hby at_82) rfl rfl (l' := #[.val (.int p1), .val (.int p2), .val (.int p3), .val (.int p4), .val (.int (1 : Int32)), .val (.int (0 : Int32)), .val (.int (0 : Int32)), .val (.ref bb_70), .val .null, .val .null, .unset, .unset, .unset, .unset, .unset, .unset]) rfl ?_
          show Steps p.tables e below (T70.setTop (mkF m 84 #[.val (.int p1), .val (.int p2), .val (.int p3), .val (.int p4), .val (.int (1 : Int32)), .val (.int (0 : Int32)), .val (.int (0 : Int32)), .val (.ref bb_70), .val .null, .val .null, .unset, .unset, .unset, .unset, .unset, .unset] [])) _
          refine st71 _ ?_
          show Steps p.tables e below (T71.setTop (mkF m 87 #[.val (.int p1), .val (.int p2), .val (.int p3), .val (.int p4), .val (.int (1 : Int32)), .val (.int (0 : Int32)), .val (.int (0 : Int32)), .val (.ref bb_70), .val .null, .val .null, .unset, .unset, .unset, .unset, .unset, .unset] [(.ref b71)])) _
          refine XS.dup X71.here hx rfl (hb hby at_87) rfl rfl ?_
          show Steps p.tables e below (T71.setTop (mkF m 88 #[.val (.int p1), .val (.int p2), .val (.int p3), .val (.int p4), .val (.int (1 : Int32)), .val (.int (0 : Int32)), .val (.int (0 : Int32)), .val (.ref bb_70), .val .null, .val .null, .unset, .unset, .unset, .unset, .unset, .unset] [(.ref b71), (.ref b71)])) _
          refine XS.aload X71.here hx rfl (hb hby at_88) rfl rfl ?_
          show Steps p.tables e below (T71.setTop (mkF m 90 #[.val (.int p1), .val (.int p2), .val (.int p3), .val (.int p4), .val (.int (1 : Int32)), .val (.int (0 : Int32)), .val (.int (0 : Int32)), .val (.ref bb_70), .val .null, .val .null, .unset, .unset, .unset, .unset, .unset, .unset] [(.ref bb_70), (.ref b71), (.ref b71)])) _
          refine XS.aload X71.here hx rfl (hb hby at_90) rfl rfl ?_
          show Steps p.tables e below (T71.setTop (mkF m 92 #[.val (.int p1), .val (.int p2), .val (.int p3), .val (.int p4), .val (.int (1 : Int32)), .val (.int (0 : Int32)), .val (.int (0 : Int32)), .val (.ref bb_70), .val .null, .val .null, .unset, .unset, .unset, .unset, .unset, .unset] [.null, (.ref bb_70), (.ref b71), (.ref b71)])) _
          refine XS.aload X71.here hx rfl (hb hby at_92) rfl rfl ?_
          show Steps p.tables e below (T71.setTop (mkF m 94 #[.val (.int p1), .val (.int p2), .val (.int p3), .val (.int p4), .val (.int (1 : Int32)), .val (.int (0 : Int32)), .val (.int (0 : Int32)), .val (.ref bb_70), .val .null, .val .null, .unset, .unset, .unset, .unset, .unset, .unset] [.null, .null, (.ref bb_70), (.ref b71), (.ref b71)])) _
          refine st72.trans ?_
          show Steps p.tables e below (T72.setTop (mkF m 97 #[.val (.int p1), .val (.int p2), .val (.int p3), .val (.int p4), .val (.int (1 : Int32)), .val (.int (0 : Int32)), .val (.int (0 : Int32)), .val (.ref bb_70), .val .null, .val .null, .unset, .unset, .unset, .unset, .unset, .unset] [(.ref b71)])) _
          refine XS.astore X72.here hx rfl (hb hby at_97) rfl rfl (l' := #[.val (.int p1), .val (.int p2), .val (.int p3), .val (.int p4), .val (.int (1 : Int32)), .val (.int (0 : Int32)), .val (.int (0 : Int32)), .val (.ref bb_70), .val .null, .val .null, .val (.ref b71), .unset, .unset, .unset, .unset, .unset]) rfl ?_
          show Steps p.tables e below (T72.setTop (mkF m 99 #[.val (.int p1), .val (.int p2), .val (.int p3), .val (.int p4), .val (.int (1 : Int32)), .val (.int (0 : Int32)), .val (.int (0 : Int32)), .val (.ref bb_70), .val .null, .val .null, .val (.ref b71), .unset, .unset, .unset, .unset, .unset] [])) _
          refine XS.aload X72.here hx rfl (hb hby at_99) rfl rfl ?_
          show Steps p.tables e below (T72.setTop (mkF m 101 #[.val (.int p1), .val (.int p2), .val (.int p3), .val (.int p4), .val (.int (1 : Int32)), .val (.int (0 : Int32)), .val (.int (0 : Int32)), .val (.ref bb_70), .val .null, .val .null, .val (.ref b71), .unset, .unset, .unset, .unset, .unset] [(.ref b71)])) _
          refine st73.trans ?_
          show Steps p.tables e below (T73.setTop (mkF m 104 #[.val (.int p1), .val (.int p2), .val (.int p3), .val (.int p4), .val (.int (1 : Int32)), .val (.int (0 : Int32)), .val (.int (0 : Int32)), .val (.ref bb_70), .val .null, .val .null, .val (.ref b71), .unset, .unset, .unset, .unset, .unset] [(.int (1 : Int32))])) _
          refine XS.iload X73.here hx rfl (hb hby at_104) rfl ?_
          show Steps p.tables e below (T73.setTop (mkF m 106 #[.val (.int p1), .val (.int p2), .val (.int p3), .val (.int p4), .val (.int (1 : Int32)), .val (.int (0 : Int32)), .val (.int (0 : Int32)), .val (.ref bb_70), .val .null, .val .null, .val (.ref b71), .unset, .unset, .unset, .unset, .unset] [(.int (0 : Int32)), (.int (1 : Int32))])) _
          refine XS.ifNo X73.here hx rfl (hb hby at_106) rfl ((if0 _ _).trans (teq rfl).2) ?_
          show Steps p.tables e below (T73.setTop (mkF m 109 #[.val (.int p1), .val (.int p2), .val (.int p3), .val (.int p4), .val (.int (1 : Int32)), .val (.int (0 : Int32)), .val (.int (0 : Int32)), .val (.ref bb_70), .val .null, .val .null, .val (.ref b71), .unset, .unset, .unset, .unset, .unset] [(.int (1 : Int32))])) _
          refine XS.iconst X73.here hx rfl (hb hby at_109) ?_
          show Steps p.tables e below (T73.setTop (mkF m 110 #[.val (.int p1), .val (.int p2), .val (.int p3), .val (.int p4), .val (.int (1 : Int32)), .val (.int (0 : Int32)), .val (.int (0 : Int32)), .val (.ref bb_70), .val .null, .val .null, .val (.ref b71), .unset, .unset, .unset, .unset, .unset] [(.int (1 : Int32)), (.int (1 : Int32))])) _
          refine XS.goto X73.here hx rfl (pc0 := 110) (pc' := 114) rfl (hb hby at_110) (by decide) (by decide) ?_
          show Steps p.tables e below (T73.setTop (mkF m 114 #[.val (.int p1), .val (.int p2), .val (.int p3), .val (.int p4), .val (.int (1 : Int32)), .val (.int (0 : Int32)), .val (.int (0 : Int32)), .val (.ref bb_70), .val .null, .val .null, .val (.ref b71), .unset, .unset, .unset, .unset, .unset] [(.int (1 : Int32)), (.int (1 : Int32))])) _
          refine XS.icmpNo X73.here hx rfl (hb hby at_114) rfl (teq rfl).2 ?_
          show Steps p.tables e below (T73.setTop (mkF m 117 #[.val (.int p1), .val (.int p2), .val (.int p3), .val (.int p4), .val (.int (1 : Int32)), .val (.int (0 : Int32)), .val (.int (0 : Int32)), .val (.ref bb_70), .val .null, .val .null, .val (.ref b71), .unset, .unset, .unset, .unset, .unset] [])) _
          refine XS.iconst X73.here hx rfl (hb hby at_117) ?_
          show Steps p.tables e below (T73.setTop (mkF m 118 #[.val (.int p1), .val (.int p2), .val (.int p3), .val (.int p4), .val (.int (1 : Int32)), .val (.int (0 : Int32)), .val (.int (0 : Int32)), .val (.ref bb_70), .val .null, .val .null, .val (.ref b71), .unset, .unset, .unset, .unset, .unset] [(.int (1 : Int32))])) _
          refine XS.goto X73.here hx rfl (pc0 := 118) (pc' := 122) rfl (hb hby at_118) (by decide) (by decide) ?_
          show Steps p.tables e below (T73.setTop (mkF m 122 #[.val (.int p1), .val (.int p2), .val (.int p3), .val (.int p4), .val (.int (1 : Int32)), .val (.int (0 : Int32)), .val (.int (0 : Int32)), .val (.ref bb_70), .val .null, .val .null, .val (.ref b71), .unset, .unset, .unset, .unset, .unset] [(.int (1 : Int32))])) _
          refine XS.istore X73.here hx rfl (hb hby at_122) rfl (l' := #[.val (.int p1), .val (.int p2), .val (.int p3), .val (.int p4), .val (.int (1 : Int32)), .val (.int (0 : Int32)), .val (.int (0 : Int32)), .val (.ref bb_70), .val .null, .val .null, .val (.ref b71), .val (.int (1 : Int32)), .unset, .unset, .unset, .unset]) rfl ?_
          show Steps p.tables e below (T73.setTop (mkF m 124 #[.val (.int p1), .val (.int p2), .val (.int p3), .val (.int p4), .val (.int (1 : Int32)), .val (.int (0 : Int32)), .val (.int (0 : Int32)), .val (.ref bb_70), .val .null, .val .null, .val (.ref b71), .val (.int (1 : Int32)), .unset, .unset, .unset, .unset] [])) _
          refine XS.iloadN X73.here hx rfl (hb hby at_124) rfl ?_
          show Steps p.tables e below (T73.setTop (mkF m 125 #[.val (.int p1), .val (.int p2), .val (.int p3), .val (.int p4), .val (.int (1 : Int32)), .val (.int (0 : Int32)), .val (.int (0 : Int32)), .val (.ref bb_70), .val .null, .val .null, .val (.ref b71), .val (.int (1 : Int32)), .unset, .unset, .unset, .unset] [(.int p1)])) _
          refine st75 _ ?_
          show Steps p.tables e below (T75.setTop (mkF m 128 #[.val (.int p1), .val (.int p2), .val (.int p3), .val (.int p4), .val (.int (1 : Int32)), .val (.int (0 : Int32)), .val (.int (0 : Int32)), .val (.ref bb_70), .val .null, .val .null, .val (.ref b71), .val (.int (1 : Int32)), .unset, .unset, .unset, .unset] [(.ref bb_75)])) _
          refine st77 _ ?_
          show Steps p.tables e below (T77.setTop (mkF m 131 #[.val (.int p1), .val (.int p2), .val (.int p3), .val (.int p4), .val (.int (1 : Int32)), .val (.int (0 : Int32)), .val (.int (0 : Int32)), .val (.ref bb_70), .val .null, .val .null, .val (.ref b71), .val (.int (1 : Int32)), .unset, .unset, .unset, .unset] [(.ref bb_77)])) _
          refine XS.astore X77.here hx rfl (hb hby at_131) rfl rfl (l' := #[.val (.int p1), .val (.int p2), .val (.int p3), .val (.int p4), .val (.int (1 : Int32)), .val (.int (0 : Int32)), .val (.int (0 : Int32)), .val (.ref bb_70), .val .null, .val .null, .val (.ref b71), .val (.int (1 : Int32)), .val (.ref bb_77), .unset, .unset, .unset]) rfl ?_
          show Steps p.tables e below (T77.setTop (mkF m 133 #[.val (.int p1), .val (.int p2), .val (.int p3), .val (.int p4), .val (.int (1 : Int32)), .val (.int (0 : Int32)), .val (.int (0 : Int32)), .val (.ref bb_70), .val .null, .val .null, .val (.ref b71), .val (.int (1 : Int32)), .val (.ref bb_77), .unset, .unset, .unset] [])) _
          refine XS.aload X77.here hx rfl (hb hby at_133) rfl rfl ?_
          show Steps p.tables e below (T77.setTop (mkF m 135 #[.val (.int p1), .val (.int p2), .val (.int p3), .val (.int p4), .val (.int (1 : Int32)), .val (.int (0 : Int32)), .val (.int (0 : Int32)), .val (.ref bb_70), .val .null, .val .null, .val (.ref b71), .val (.int (1 : Int32)), .val (.ref bb_77), .unset, .unset, .unset] [(.ref bb_77)])) _
          refine st79.trans ?_
          show Steps p.tables e below (T79.setTop (mkF m 138 #[.val (.int p1), .val (.int p2), .val (.int p3), .val (.int p4), .val (.int (1 : Int32)), .val (.int (0 : Int32)), .val (.int (0 : Int32)), .val (.ref bb_70), .val .null, .val .null, .val (.ref b71), .val (.int (1 : Int32)), .val (.ref bb_77), .unset, .unset, .unset] [(.int (0 : Int32))])) _
          refine XS.ifNo X79.here hx rfl (hb hby at_138) rfl ((if0 _ _).trans (teq rfl).2) ?_
          show Steps p.tables e below (T79.setTop (mkF m 141 #[.val (.int p1), .val (.int p2), .val (.int p3), .val (.int p4), .val (.int (1 : Int32)), .val (.int (0 : Int32)), .val (.int (0 : Int32)), .val (.ref bb_70), .val .null, .val .null, .val (.ref b71), .val (.int (1 : Int32)), .val (.ref bb_77), .unset, .unset, .unset] [])) _
          refine XS.iconst X79.here hx rfl (hb hby at_141) ?_
          show Steps p.tables e below (T79.setTop (mkF m 142 #[.val (.int p1), .val (.int p2), .val (.int p3), .val (.int p4), .val (.int (1 : Int32)), .val (.int (0 : Int32)), .val (.int (0 : Int32)), .val (.ref bb_70), .val .null, .val .null, .val (.ref b71), .val (.int (1 : Int32)), .val (.ref bb_77), .unset, .unset, .unset] [(.int (1 : Int32))])) _
          refine XS.goto X79.here hx rfl (pc0 := 142) (pc' := 146) rfl (hb hby at_142) (by decide) (by decide) ?_
          show Steps p.tables e below (T79.setTop (mkF m 146 #[.val (.int p1), .val (.int p2), .val (.int p3), .val (.int p4), .val (.int (1 : Int32)), .val (.int (0 : Int32)), .val (.int (0 : Int32)), .val (.ref bb_70), .val .null, .val .null, .val (.ref b71), .val (.int (1 : Int32)), .val (.ref bb_77), .unset, .unset, .unset] [(.int (1 : Int32))])) _
          refine XS.istore X79.here hx rfl (hb hby at_146) rfl (l' := #[.val (.int p1), .val (.int p2), .val (.int p3), .val (.int p4), .val (.int (1 : Int32)), .val (.int (0 : Int32)), .val (.int (0 : Int32)), .val (.ref bb_70), .val .null, .val .null, .val (.ref b71), .val (.int (1 : Int32)), .val (.ref bb_77), .val (.int (1 : Int32)), .unset, .unset]) rfl ?_
          show Steps p.tables e below (T79.setTop (mkF m 148 #[.val (.int p1), .val (.int p2), .val (.int p3), .val (.int p4), .val (.int (1 : Int32)), .val (.int (0 : Int32)), .val (.int (0 : Int32)), .val (.ref bb_70), .val .null, .val .null, .val (.ref b71), .val (.int (1 : Int32)), .val (.ref bb_77), .val (.int (1 : Int32)), .unset, .unset] [])) _
          refine XS.aload X79.here hx rfl (hb hby at_148) rfl rfl ?_
          show Steps p.tables e below (T79.setTop (mkF m 150 #[.val (.int p1), .val (.int p2), .val (.int p3), .val (.int p4), .val (.int (1 : Int32)), .val (.int (0 : Int32)), .val (.int (0 : Int32)), .val (.ref bb_70), .val .null, .val .null, .val (.ref b71), .val (.int (1 : Int32)), .val (.ref bb_77), .val (.int (1 : Int32)), .unset, .unset] [(.ref bb_70)])) _
          refine XS.aload X79.here hx rfl (hb hby at_150) rfl rfl ?_
          show Steps p.tables e below (T79.setTop (mkF m 152 #[.val (.int p1), .val (.int p2), .val (.int p3), .val (.int p4), .val (.int (1 : Int32)), .val (.int (0 : Int32)), .val (.int (0 : Int32)), .val (.ref bb_70), .val .null, .val .null, .val (.ref b71), .val (.int (1 : Int32)), .val (.ref bb_77), .val (.int (1 : Int32)), .unset, .unset] [.null, (.ref bb_70)])) _
          refine st80 _ ?_
          show Steps p.tables e below (T80.setTop (mkF m 155 #[.val (.int p1), .val (.int p2), .val (.int p3), .val (.int p4), .val (.int (1 : Int32)), .val (.int (0 : Int32)), .val (.int (0 : Int32)), .val (.ref bb_70), .val .null, .val .null, .val (.ref b71), .val (.int (1 : Int32)), .val (.ref bb_77), .val (.int (1 : Int32)), .unset, .unset] [(.ref bb_80)])) _
          refine XS.astore X80.here hx rfl (hb hby at_155) rfl rfl (l' := #[.val (.int p1), .val (.int p2), .val (.int p3), .val (.int p4), .val (.int (1 : Int32)), .val (.int (0 : Int32)), .val (.int (0 : Int32)), .val (.ref bb_70), .val .null, .val .null, .val (.ref b71), .val (.int (1 : Int32)), .val (.ref bb_77), .val (.int (1 : Int32)), .val (.ref bb_80), .unset]) rfl ?_
          show Steps p.tables e below (T80.setTop (mkF m 157 #[.val (.int p1), .val (.int p2), .val (.int p3), .val (.int p4), .val (.int (1 : Int32)), .val (.int (0 : Int32)), .val (.int (0 : Int32)), .val (.ref bb_70), .val .null, .val .null, .val (.ref b71), .val (.int (1 : Int32)), .val (.ref bb_77), .val (.int (1 : Int32)), .val (.ref bb_80), .unset] [])) _
          refine XS.aload X80.here hx rfl (hb hby at_157) rfl rfl ?_
          show Steps p.tables e below (T80.setTop (mkF m 159 #[.val (.int p1), .val (.int p2), .val (.int p3), .val (.int p4), .val (.int (1 : Int32)), .val (.int (0 : Int32)), .val (.int (0 : Int32)), .val (.ref bb_70), .val .null, .val .null, .val (.ref b71), .val (.int (1 : Int32)), .val (.ref bb_77), .val (.int (1 : Int32)), .val (.ref bb_80), .unset] [(.ref bb_80)])) _
          refine st82.trans ?_
          show Steps p.tables e below (T82.setTop (mkF m 162 #[.val (.int p1), .val (.int p2), .val (.int p3), .val (.int p4), .val (.int (1 : Int32)), .val (.int (0 : Int32)), .val (.int (0 : Int32)), .val (.ref bb_70), .val .null, .val .null, .val (.ref b71), .val (.int (1 : Int32)), .val (.ref bb_77), .val (.int (1 : Int32)), .val (.ref bb_80), .unset] [(.int (1 : Int32))])) _
          refine XS.istore X82.here hx rfl (hb hby at_162) rfl (l' := #[.val (.int p1), .val (.int p2), .val (.int p3), .val (.int p4), .val (.int (1 : Int32)), .val (.int (0 : Int32)), .val (.int (0 : Int32)), .val (.ref bb_70), .val .null, .val .null, .val (.ref b71), .val (.int (1 : Int32)), .val (.ref bb_77), .val (.int (1 : Int32)), .val (.ref bb_80), .val (.int (1 : Int32))]) rfl ?_
          show Steps p.tables e below (T82.setTop (mkF m 164 #[.val (.int p1), .val (.int p2), .val (.int p3), .val (.int p4), .val (.int (1 : Int32)), .val (.int (0 : Int32)), .val (.int (0 : Int32)), .val (.ref bb_70), .val .null, .val .null, .val (.ref b71), .val (.int (1 : Int32)), .val (.ref bb_77), .val (.int (1 : Int32)), .val (.ref bb_80), .val (.int (1 : Int32))] [])) _
          refine XS.iload X82.here hx rfl (hb hby at_164) rfl ?_
          show Steps p.tables e below (T82.setTop (mkF m 166 #[.val (.int p1), .val (.int p2), .val (.int p3), .val (.int p4), .val (.int (1 : Int32)), .val (.int (0 : Int32)), .val (.int (0 : Int32)), .val (.ref bb_70), .val .null, .val .null, .val (.ref b71), .val (.int (1 : Int32)), .val (.ref bb_77), .val (.int (1 : Int32)), .val (.ref bb_80), .val (.int (1 : Int32))] [(.int (1 : Int32))])) _
          refine XS.ifNo X82.here hx rfl (hb hby at_166) rfl ((if0 _ _).trans (feq (by decide)).1) ?_
          show Steps p.tables e below (T82.setTop (mkF m 169 #[.val (.int p1), .val (.int p2), .val (.int p3), .val (.int p4), .val (.int (1 : Int32)), .val (.int (0 : Int32)), .val (.int (0 : Int32)), .val (.ref bb_70), .val .null, .val .null, .val (.ref b71), .val (.int (1 : Int32)), .val (.ref bb_77), .val (.int (1 : Int32)), .val (.ref bb_80), .val (.int (1 : Int32))] [])) _
          refine XS.iload X82.here hx rfl (hb hby at_169) rfl ?_
          show Steps p.tables e below (T82.setTop (mkF m 171 #[.val (.int p1), .val (.int p2), .val (.int p3), .val (.int p4), .val (.int (1 : Int32)), .val (.int (0 : Int32)), .val (.int (0 : Int32)), .val (.ref bb_70), .val .null, .val .null, .val (.ref b71), .val (.int (1 : Int32)), .val (.ref bb_77), .val (.int (1 : Int32)), .val (.ref bb_80), .val (.int (1 : Int32))] [(.int (1 : Int32))])) _
          refine XS.ifNo X82.here hx rfl (hb hby at_171) rfl ((if0 _ _).trans (feq (by decide)).1) ?_
          show Steps p.tables e below (T82.setTop (mkF m 174 #[.val (.int p1), .val (.int p2), .val (.int p3), .val (.int p4), .val (.int (1 : Int32)), .val (.int (0 : Int32)), .val (.int (0 : Int32)), .val (.ref bb_70), .val .null, .val .null, .val (.ref b71), .val (.int (1 : Int32)), .val (.ref bb_77), .val (.int (1 : Int32)), .val (.ref bb_80), .val (.int (1 : Int32))] [])) _
          refine XS.iload X82.here hx rfl (hb hby at_174) rfl ?_
          show Steps p.tables e below (T82.setTop (mkF m 176 #[.val (.int p1), .val (.int p2), .val (.int p3), .val (.int p4), .val (.int (1 : Int32)), .val (.int (0 : Int32)), .val (.int (0 : Int32)), .val (.ref bb_70), .val .null, .val .null, .val (.ref b71), .val (.int (1 : Int32)), .val (.ref bb_77), .val (.int (1 : Int32)), .val (.ref bb_80), .val (.int (1 : Int32))] [(.int (1 : Int32))])) _
          refine XS.ifNo X82.here hx rfl (hb hby at_176) rfl ((if0 _ _).trans (feq (by decide)).1) ?_
          show Steps p.tables e below (T82.setTop (mkF m 179 #[.val (.int p1), .val (.int p2), .val (.int p3), .val (.int p4), .val (.int (1 : Int32)), .val (.int (0 : Int32)), .val (.int (0 : Int32)), .val (.ref bb_70), .val .null, .val .null, .val (.ref b71), .val (.int (1 : Int32)), .val (.ref bb_77), .val (.int (1 : Int32)), .val (.ref bb_80), .val (.int (1 : Int32))] [])) _
          refine XS.iconst X82.here hx rfl (hb hby at_179) ?_
          show Steps p.tables e below (T82.setTop (mkF m 180 #[.val (.int p1), .val (.int p2), .val (.int p3), .val (.int p4), .val (.int (1 : Int32)), .val (.int (0 : Int32)), .val (.int (0 : Int32)), .val (.ref bb_70), .val .null, .val .null, .val (.ref b71), .val (.int (1 : Int32)), .val (.ref bb_77), .val (.int (1 : Int32)), .val (.ref bb_80), .val (.int (1 : Int32))] [(.int (1 : Int32))])) _
          refine XS.goto X82.here hx rfl (pc0 := 180) (pc' := 184) rfl (hb hby at_180) (by decide) (by decide) ?_
          show Steps p.tables e below (T82.setTop (mkF m 184 #[.val (.int p1), .val (.int p2), .val (.int p3), .val (.int p4), .val (.int (1 : Int32)), .val (.int (0 : Int32)), .val (.int (0 : Int32)), .val (.ref bb_70), .val .null, .val .null, .val (.ref b71), .val (.int (1 : Int32)), .val (.ref bb_77), .val (.int (1 : Int32)), .val (.ref bb_80), .val (.int (1 : Int32))] [(.int (1 : Int32))])) _
          exact retN X82 hx (t := .boolean) Bd.returns (by simp) (hb hby at_184) hr
        · show Q_rm0 Z p1 p2 p3 p4 w_cache h0 n0 _ T82.heap _
          rw [e82]
          exact ⟨rfl, N82, K80⟩
      · skip
        obtain ⟨_, _, ⟨T84, L84, k84, n84⟩, -, X84, ⟨Lc84, hQ84, l84, y84, z84⟩, st84⟩ := Jvm.LawKit.callS X0 hx (y := (⟨"java/lang/Integer", "valueOf", "(I)Ljava/lang/Integer;"⟩ : MethodName)) hown (mvT hZ (kw0 hw)) (mvT hZ (kw1 hw)) (mvT hZ (kw2 hw)) (mvT hZ (kw3 hw)) (by decide) (backOf (W := 0) (rm1 l Z a0 hw [] p1 w_cache h0 n0 Z0 P0 P1 P2 HC) hZ (kw3 hw) (kw2 hw) (by decide) (by decide)) (g := (mkF m 45 #[.val (.int p1), .val (.int p2), .val (.int p3), .val (.int p4), .val (.int (1 : Int32)), .val (.int (0 : Int32)), .val (.int (1 : Int32)), .unset, .unset, .unset, .unset, .unset, .unset, .unset, .unset, .unset] [(.int p1)])) rfl (by rw [hml]; rfl) (argsL := [(.int p1)]) (rest := []) (lenOf pd_4 rfl) rfl (by show 2 * 0 + _ ≤ _; exact Nat.le_of_eq rfl) (hb hby at_45) (fun _ _ => ⟨rfl, e0, (by decide : 0 + 1 ≤ _), (by decide : 0 + 1 ≤ _)⟩)
        dsimp only [Pt.U, Pt.locs, Pt.cells, Pt.slots] at X84 l84 y84 z84 st84 hQ84
        subst l84 y84 z84
        obtain ⟨bb_84, rfl, N84q, Kq84⟩ := hQ84
        have N84 := Fr.app N0 N84q
        have Z84 : n0 ≤ T84.heap.size := Nat.le_trans Z0 Kq84.1
        have K84 : Keep h0 T84.heap [] := KR.trans Kq84 all0
        have f86 : Old Z n0 T84.heap := (P0.keep Kq84 all0)
        obtain ⟨_, _, ⟨T85, L85, k85, n85⟩, -, X85, ⟨Lc85, hQ85, l85, y85, z85⟩, st85⟩ := Jvm.LawKit.callS X84 hx (y := (⟨"java/lang/Integer", "valueOf", "(I)Ljava/lang/Integer;"⟩ : MethodName)) hown (mvT hZ (kw0 hw)) (mvT hZ (kw1 hw)) (mvT hZ (kw2 hw)) (mvT hZ (kw3 hw)) (by decide) (backOf (W := 0) (rm1 l Z a0 hw [] p3 w_cache T84.heap n0 Z84 f86 P1 P2 HC) hZ (kw3 hw) (kw2 hw) (by decide) (by decide)) (g := (mkF m 75 #[.val (.int p1), .val (.int p2), .val (.int p3), .val (.int p4), .val (.int (1 : Int32)), .val (.int (0 : Int32)), .val (.int (1 : Int32)), .val (.ref bb_84), .val .null, .unset, .unset, .unset, .unset, .unset, .unset, .unset] [(.int p3)])) rfl (by rw [hml]; rfl) (argsL := [(.int p3)]) (rest := []) (lenOf pd_4 rfl) rfl (by show 2 * 0 + _ ≤ _; exact Nat.le_of_eq rfl) (hb hby at_75) (fun _ _ => ⟨rfl, rfl, (by decide : 1 + 1 ≤ _), (by decide : 1 + 1 ≤ _)⟩)
        dsimp only [Pt.U, Pt.locs, Pt.cells, Pt.slots] at X85 l85 y85 z85 st85 hQ85
        subst l85 y85 z85
        obtain ⟨bb_85, rfl, N85q, Kq85⟩ := hQ85
        have N85 := Fr.app N84 N85q
        have Z85 : n0 ≤ T85.heap.size := Nat.le_trans Z84 Kq85.1
        have K85 : Keep h0 T85.heap [] := K84.trans Kq85 all0
        obtain ⟨T87, h87, X87, e87, E87, A87, D87, -, st87⟩ := newO X85 hx hZ hown (kw7 hw) (kw8 hw) (kw9 hw) rfl (g := (mkF m 84 #[.val (.int p1), .val (.int p2), .val (.int p3), .val (.int p4), .val (.int (1 : Int32)), .val (.int (0 : Int32)), .val (.int (1 : Int32)), .val (.ref bb_84), .val .null, .val (.ref bb_85), .unset, .unset, .unset, .unset, .unset, .unset] [])) rfl (hb hby at_84) (by decide) (by decide)
        obtain ⟨b87, g87⟩ : ∃ z, z = T85.heap.size := ⟨_, rfl⟩
        rw [← g87] at A87 D87 st87
        have g_b87 : n0 ≤ b87 := Nat.le_trans Z85 (Nat.le_of_eq g87.symm)
        have sz_b87 : h0.size ≤ b87 := Nat.le_trans K85.1 (Nat.le_of_eq g87.symm)
        have Z87 : n0 ≤ h87.size := Nat.le_trans Z85 E87.1
        have K87 : Keep h0 h87 [] := K85.ext E87
        have F87_current : Fld Z h87 b87 "com/example/mergewright/mergewright/merge/Match" "current" "Ljava/lang/Object;" .null := D87 (Or.inr (kw17 hw)) (ty := (.object "java/lang/Object")) (by decide)
        have F87_base : Fld Z h87 b87 "com/example/mergewright/mergewright/merge/Match" "base" "Ljava/lang/Object;" .null := D87 (Or.inr (kw19 hw)) (ty := (.object "java/lang/Object")) (by decide)
        have F87_other : Fld Z h87 b87 "com/example/mergewright/mergewright/merge/Match" "other" "Ljava/lang/Object;" .null := D87 (Or.inr (kw21 hw)) (ty := (.object "java/lang/Object")) (by decide)
        obtain ⟨_, _, ⟨T88, L88, k88, n88⟩, -, X88, ⟨Lc88, hQ88, l88, y88, z88⟩, st88⟩ := X87.specialBack hx (y := (⟨"com/example/mergewright/mergewright/merge/Match", "<init>", "(Ljava/lang/Object;Ljava/lang/Object;Ljava/lang/Object;)V"⟩ : MethodName)) rfl hown (mvT hZ (kw10 hw)) (mvT hZ (kw11 hw)) (mvT hZ (kw12 hw)) (by decide) (backOf (W := 1) (rm2_rnr l Z a0 hw [] b87 bb_84 bb_85 h87 n0 Z87 A87 g_b87 F87_current F87_base F87_other) hZ (kw12 hw) (kw9 hw) (by decide) (by decide)) (g := (mkF m 94 #[.val (.int p1), .val (.int p2), .val (.int p3), .val (.int p4), .val (.int (1 : Int32)), .val (.int (0 : Int32)), .val (.int (1 : Int32)), .val (.ref bb_84), .val .null, .val (.ref bb_85), .unset, .unset, .unset, .unset, .unset, .unset] [(.ref bb_85), .null, (.ref bb_84), (.ref b87), (.ref b87)])) rfl (by rw [hml]; rfl) (Steps.refl _) (a := b87) (argsL := [(.ref bb_84), .null, (.ref bb_85)]) (rest := [(.ref b87)]) (lenOf pd_2 rfl) rfl (by show 2 * 0 + _ ≤ _; exact Nat.le_of_eq rfl) (hb hby at_94) (fun _ _ => ⟨rfl, e87, (by decide : 3 + 0 ≤ _), (by decide : 5 + 0 ≤ _)⟩)
        dsimp only [Pt.U, Pt.locs, Pt.cells, Pt.slots] at X88 l88 y88 z88 st88 hQ88
        subst l88 y88 z88
        obtain ⟨rfl, N88q, Kq88, p88_0⟩ := hQ88
        have N88 := Fr.app N85 N88q
        have Z88 : n0 ≤ T88.heap.size := Nat.le_trans Z87 Kq88.1
        have K88 : Keep h0 T88.heap [] := K87.trans Kq88 (allS (Or.inr sz_b87) all0)
        have f90 : Exa Z T88.heap b87 "com/example/mergewright/mergewright/merge/Match" := (A87.keep Kq88)
        obtain ⟨cq89, kq89, q89a, q89b, q89c⟩ := isOf hZ rfl f90
        obtain ⟨_, _, ⟨T89, L89, k89, n89⟩, -, X89, ⟨Lc89, hQ89, l89, y89, z89⟩, st89⟩ := X88.virtualBack hx (y := (⟨"com/example/mergewright/mergewright/merge/Match", "isInsertedByBoth", "()Z"⟩ : MethodName)) (z := (⟨"com/example/mergewright/mergewright/merge/Match", "isInsertedByBoth", "()Z"⟩ : MethodName)) hown (mvT hZ (kw22 hw)) (mvT hZ (kw23 hw)) (notFace_of_selects (args := #[]) (mvT hZ (kw25 hw))) (mvT hZ (kw25 hw)) (mvT hZ (kw24 hw)) (by decide) (backOf (W := 0) (rm4_n l Z a0 hw [] b87 T88.heap n0 Z88 p88_0) hZ (kw26 hw) (kw9 hw) (by decide) (by decide)) q89a q89c (g := (mkF m 101 #[.val (.int p1), .val (.int p2), .val (.int p3), .val (.int p4), .val (.int (1 : Int32)), .val (.int (0 : Int32)), .val (.int (1 : Int32)), .val (.ref bb_84), .val .null, .val (.ref bb_85), .val (.ref b87), .unset, .unset, .unset, .unset, .unset] [(.ref b87)])) rfl (by rw [hml]; rfl) (Steps.refl _) (argsL := []) (rest := []) (lenOf pd_3 rfl) rfl (by show 2 * 0 + _ ≤ _; exact Nat.le_of_eq rfl) (hb hby at_101) (fun _ _ => ⟨rfl, rfl, (by decide : 3 + 0 ≤ _), (by decide : 5 + 0 ≤ _)⟩)
        dsimp only [Pt.U, Pt.locs, Pt.cells, Pt.slots] at X89 l89 y89 z89 st89 hQ89
        subst l89 y89 z89
        obtain ⟨rfl, N89q, e89⟩ := hQ89
        have N89 := Fr.app N88 N89q
        have f92 : Old Z n0 T88.heap := (((f86.keep Kq85 all0).ext E87).keep Kq88 (allS g_b87 all0))
        obtain ⟨_, _, ⟨T91, L91, k91, n91⟩, -, X91, ⟨Lc91, hQ91, l91, y91, z91⟩, st91⟩ := Jvm.LawKit.callS X89 hx (y := (⟨"java/lang/Integer", "valueOf", "(I)Ljava/lang/Integer;"⟩ : MethodName)) hown (mvT hZ (kw0 hw)) (mvT hZ (kw1 hw)) (mvT hZ (kw2 hw)) (mvT hZ (kw3 hw)) (by decide) (backOf (W := 0) (rm1 l Z a0 hw [] p1 w_cache T88.heap n0 Z88 f92 P1 P2 HC) hZ (kw3 hw) (kw2 hw) (by decide) (by decide)) (g := (mkF m 125 #[.val (.int p1), .val (.int p2), .val (.int p3), .val (.int p4), .val (.int (1 : Int32)), .val (.int (0 : Int32)), .val (.int (1 : Int32)), .val (.ref bb_84), .val .null, .val (.ref bb_85), .val (.ref b87), .val (.int (1 : Int32)), .unset, .unset, .unset, .unset] [(.int p1)])) rfl (by rw [hml]; rfl) (argsL := [(.int p1)]) (rest := []) (lenOf pd_4 rfl) rfl (by show 2 * 0 + _ ≤ _; exact Nat.le_of_eq rfl) (hb hby at_125) (fun _ _ => ⟨rfl, e89, (by decide : 3 + 1 ≤ _), (by decide : 5 + 1 ≤ _)⟩)
        dsimp only [Pt.U, Pt.locs, Pt.cells, Pt.slots] at X91 l91 y91 z91 st91 hQ91
        subst l91 y91 z91
        obtain ⟨bb_91, rfl, N91q, Kq91⟩ := hQ91
        have N91 := Fr.app N89 N91q
        have Z91 : n0 ≤ T91.heap.size := Nat.le_trans Z88 Kq91.1
        have K91 : Keep h0 T91.heap [] := K88.trans Kq91 all0
        have f94 : Exa Z T91.heap b87 "com/example/mergewright/mergewright/merge/Match" := (f90.keep Kq91)
        obtain ⟨_, _, ⟨T93, L93, k93, n93⟩, -, X93, ⟨Lc93, hQ93, l93, y93, z93⟩, st93⟩ := Jvm.LawKit.callS X91 hx (y := (⟨"com/example/mergewright/mergewright/merge/Match", "inserted", "(Ljava/lang/Object;)Lcom/example/mergewright/mergewright/merge/Match;"⟩ : MethodName)) hown (mvT hZ (kw27 hw)) (mvT hZ (kw28 hw)) (mvT hZ (kw9 hw)) (mvT hZ (kw29 hw)) (by decide) (backOf (W := 0) (rm5 l Z a0 hw [] bb_91 T91.heap n0 Z91 ) hZ (kw29 hw) (kw9 hw) (by decide) (by decide)) (g := (mkF m 128 #[.val (.int p1), .val (.int p2), .val (.int p3), .val (.int p4), .val (.int (1 : Int32)), .val (.int (0 : Int32)), .val (.int (1 : Int32)), .val (.ref bb_84), .val .null, .val (.ref bb_85), .val (.ref b87), .val (.int (1 : Int32)), .unset, .unset, .unset, .unset] [(.ref bb_91)])) rfl (by rw [hml]; rfl) (argsL := [(.ref bb_91)]) (rest := []) (lenOf pd_5 rfl) rfl (by show 2 * 0 + _ ≤ _; exact Nat.le_of_eq rfl) (hb hby at_128) (fun _ _ => ⟨rfl, rfl, (by decide : 4 + 1 ≤ _), (by decide : 6 + 3 ≤ _)⟩)
        dsimp only [Pt.U, Pt.locs, Pt.cells, Pt.slots] at X93 l93 y93 z93 st93 hQ93
        subst l93 y93 z93
        obtain ⟨bb_93, rfl, N93q, Kq93, p93_0, p93_1, p93_2, p93_3⟩ := hQ93
        have N93 := Fr.app N91 N93q
        have Z93 : n0 ≤ T93.heap.size := Nat.le_trans Z91 Kq93.1
        have K93 : Keep h0 T93.heap [] := K91.trans Kq93 all0
        have sz_bb_93 : h0.size ≤ bb_93 := Nat.le_trans K91.1 p93_1
        have ne93_b87_bb_93 : b87 ≠ bb_93 := Nat.ne_of_lt (Nat.lt_of_lt_of_le f94.lt p93_1)
        obtain ⟨cq95, kq95, q95a, q95b, q95c⟩ := isOf hZ rfl p93_2
        obtain ⟨_, _, ⟨T95, L95, k95, n95⟩, -, X95, ⟨Lc95, hQ95, l95, y95, z95⟩, st95⟩ := X93.virtualBack hx (y := (⟨"com/example/mergewright/mergewright/merge/Match", "isInsertedByBoth", "()Z"⟩ : MethodName)) (z := (⟨"com/example/mergewright/mergewright/merge/Match", "isInsertedByBoth", "()Z"⟩ : MethodName)) hown (mvT hZ (kw22 hw)) (mvT hZ (kw23 hw)) (notFace_of_selects (args := #[]) (mvT hZ (kw25 hw))) (mvT hZ (kw25 hw)) (mvT hZ (kw24 hw)) (by decide) (backOf (W := 0) (rm4_r l Z a0 hw [] bb_93 bb_91 T93.heap n0 Z93 p93_3) hZ (kw26 hw) (kw9 hw) (by decide) (by decide)) q95a q95c (g := (mkF m 135 #[.val (.int p1), .val (.int p2), .val (.int p3), .val (.int p4), .val (.int (1 : Int32)), .val (.int (0 : Int32)), .val (.int (1 : Int32)), .val (.ref bb_84), .val .null, .val (.ref bb_85), .val (.ref b87), .val (.int (1 : Int32)), .val (.ref bb_93), .unset, .unset, .unset] [(.ref bb_93)])) rfl (by rw [hml]; rfl) (Steps.refl _) (argsL := []) (rest := []) (lenOf pd_3 rfl) rfl (by show 2 * 0 + _ ≤ _; exact Nat.le_of_eq rfl) (hb hby at_135) (fun _ _ => ⟨rfl, rfl, (by decide : 5 + 0 ≤ _), (by decide : 9 + 0 ≤ _)⟩)
        dsimp only [Pt.U, Pt.locs, Pt.cells, Pt.slots] at X95 l95 y95 z95 st95 hQ95
        subst l95 y95 z95
        obtain ⟨rfl, N95q, e95⟩ := hQ95
        have N95 := Fr.app N93 N95q
        have f97 : Exa Z T93.heap b87 "com/example/mergewright/mergewright/merge/Match" := (f94.keep Kq93)
        obtain ⟨_, _, ⟨T96, L96, k96, n96⟩, -, X96, ⟨Lc96, hQ96, l96, y96, z96⟩, st96⟩ := Jvm.LawKit.callS X95 hx (y := (⟨"com/example/mergewright/mergewright/merge/Match", "insertedByBoth", "(Ljava/lang/Object;Ljava/lang/Object;)Lcom/example/mergewright/mergewright/merge/Match;"⟩ : MethodName)) hown (mvT hZ (kw32 hw)) (mvT hZ (kw33 hw)) (mvT hZ (kw9 hw)) (mvT hZ (kw34 hw)) (by decide) (backOf (W := 0) (rm6_rr l Z a0 hw [] bb_84 bb_85 T93.heap n0 Z93 ) hZ (kw34 hw) (kw9 hw) (by decide) (by decide)) (g := (mkF m 152 #[.val (.int p1), .val (.int p2), .val (.int p3), .val (.int p4), .val (.int (1 : Int32)), .val (.int (0 : Int32)), .val (.int (1 : Int32)), .val (.ref bb_84), .val .null, .val (.ref bb_85), .val (.ref b87), .val (.int (1 : Int32)), .val (.ref bb_93), .val (.int (1 : Int32)), .unset, .unset] [(.ref bb_85), (.ref bb_84)])) rfl (by rw [hml]; rfl) (argsL := [(.ref bb_84), (.ref bb_85)]) (rest := []) (lenOf pd_6 rfl) rfl (by show 2 * 0 + _ ≤ _; exact Nat.le_of_eq rfl) (hb hby at_152) (fun _ _ => ⟨rfl, e95, (by decide : 5 + 1 ≤ _), (by decide : 9 + 3 ≤ _)⟩)
        dsimp only [Pt.U, Pt.locs, Pt.cells, Pt.slots] at X96 l96 y96 z96 st96 hQ96
        subst l96 y96 z96
        obtain ⟨bb_96, rfl, N96q, Kq96, p96_0, p96_1, p96_2, p96_3⟩ := hQ96
        have N96 := Fr.app N95 N96q
        have Z96 : n0 ≤ T96.heap.size := Nat.le_trans Z93 Kq96.1
        have K96 : Keep h0 T96.heap [] := K93.trans Kq96 all0
        have sz_bb_96 : h0.size ≤ bb_96 := Nat.le_trans K93.1 p96_1
        have ne96_b87_bb_96 : b87 ≠ bb_96 := Nat.ne_of_lt (Nat.lt_of_lt_of_le f97.lt p96_1)
        have ne96_bb_93_bb_96 : bb_93 ≠ bb_96 := Nat.ne_of_lt (Nat.lt_of_lt_of_le p93_2.lt p96_1)
        obtain ⟨cq98, kq98, q98a, q98b, q98c⟩ := isOf hZ rfl p96_2
        obtain ⟨_, _, ⟨T98, L98, k98, n98⟩, -, X98, ⟨Lc98, hQ98, l98, y98, z98⟩, st98⟩ := X96.virtualBack hx (y := (⟨"com/example/mergewright/mergewright/merge/Match", "isInsertedByBoth", "()Z"⟩ : MethodName)) (z := (⟨"com/example/mergewright/mergewright/merge/Match", "isInsertedByBoth", "()Z"⟩ : MethodName)) hown (mvT hZ (kw22 hw)) (mvT hZ (kw23 hw)) (notFace_of_selects (args := #[]) (mvT hZ (kw25 hw))) (mvT hZ (kw25 hw)) (mvT hZ (kw24 hw)) (by decide) (backOf (W := 0) (rm4_n l Z a0 hw [] bb_96 T96.heap n0 Z96 p96_3) hZ (kw26 hw) (kw9 hw) (by decide) (by decide)) q98a q98c (g := (mkF m 159 #[.val (.int p1), .val (.int p2), .val (.int p3), .val (.int p4), .val (.int (1 : Int32)), .val (.int (0 : Int32)), .val (.int (1 : Int32)), .val (.ref bb_84), .val .null, .val (.ref bb_85), .val (.ref b87), .val (.int (1 : Int32)), .val (.ref bb_93), .val (.int (1 : Int32)), .val (.ref bb_96), .unset] [(.ref bb_96)])) rfl (by rw [hml]; rfl) (Steps.refl _) (argsL := []) (rest := []) (lenOf pd_3 rfl) rfl (by show 2 * 0 + _ ≤ _; exact Nat.le_of_eq rfl) (hb hby at_159) (fun _ _ => ⟨rfl, rfl, (by decide : 6 + 0 ≤ _), (by decide : 12 + 0 ≤ _)⟩)
        dsimp only [Pt.U, Pt.locs, Pt.cells, Pt.slots] at X98 l98 y98 z98 st98 hQ98
        subst l98 y98 z98
        obtain ⟨rfl, N98q, e98⟩ := hQ98
        have N98 := Fr.app N96 N98q
        obtain ⟨fs, hr, hrun, hended, hW, hsame⟩ := X98.leave (v := some (.int (1 : Int32))) (fun h => by rw [Bd.returns] at h; cases h)
        refine ⟨_, _, pre68 _ ?_, hrun, hended, _, _, rfl, ?_, ⟨_, rfl⟩, hW, hsame.mono (by decide) (by decide)⟩
        · skip
          refine XS.ifNo X0.here hx rfl (hb hby at_29) rfl ((if0 _ _).trans (feq hc69).1) ?_
          show Steps p.tables e below (s₁.setTop (mkF m 32 #[.val (.int p1), .val (.int p2), .val (.int p3), .val (.int p4), .val (.int (1 : Int32)), .val (.int (0 : Int32)), .unset, .unset, .unset, .unset, .unset, .unset, .unset, .unset, .unset, .unset] [])) _
          refine XS.iconst X0.here hx rfl (hb hby at_32) ?_
          show Steps p.tables e below (s₁.setTop (mkF m 33 #[.val (.int p1), .val (.int p2), .val (.int p3), .val (.int p4), .val (.int (1 : Int32)), .val (.int (0 : Int32)), .unset, .unset, .unset, .unset, .unset, .unset, .unset, .unset, .unset, .unset] [(.int (1 : Int32))])) _
          refine XS.goto X0.here hx rfl (pc0 := 33) (pc' := 37) rfl (hb hby at_33) (by decide) (by decide) ?_
          show Steps p.tables e below (s₁.setTop (mkF m 37 #[.val (.int p1), .val (.int p2), .val (.int p3), .val (.int p4), .val (.int (1 : Int32)), .val (.int (0 : Int32)), .unset, .unset, .unset, .unset, .unset, .unset, .unset, .unset, .unset, .unset] [(.int (1 : Int32))])) _
          refine XS.istore X0.here hx rfl (hb hby at_37) rfl (l' := #[.val (.int p1), .val (.int p2), .val (.int p3), .val (.int p4), .val (.int (1 : Int32)), .val (.int (0 : Int32)), .val (.int (1 : Int32)), .unset, .unset, .unset, .unset, .unset, .unset, .unset, .unset, .unset]) rfl ?_
          show Steps p.tables e below (s₁.setTop (mkF m 39 #[.val (.int p1), .val (.int p2), .val (.int p3), .val (.int p4), .val (.int (1 : Int32)), .val (.int (0 : Int32)), .val (.int (1 : Int32)), .unset, .unset, .unset, .unset, .unset, .unset, .unset, .unset, .unset] [])) _
          refine XS.iload X0.here hx rfl (hb hby at_39) rfl ?_
          show Steps p.tables e below (s₁.setTop (mkF m 41 #[.val (.int p1), .val (.int p2), .val (.int p3), .val (.int p4), .val (.int (1 : Int32)), .val (.int (0 : Int32)), .val (.int (1 : Int32)), .unset, .unset, .unset, .unset, .unset, .unset, .unset, .unset, .unset] [(.int (1 : Int32))])) _
          refine XS.ifNo X0.here hx rfl (hb hby at_41) rfl ((if0 _ _).trans (feq (by decide)).1) ?_
          show Steps p.tables e below (s₁.setTop (mkF m 44 #[.val (.int p1), .val (.int p2), .val (.int p3), .val (.int p4), .val (.int (1 : Int32)), .val (.int (0 : Int32)), .val (.int (1 : Int32)), .unset, .unset, .unset, .unset, .unset, .unset, .unset, .unset, .unset] [])) _
          refine XS.iloadN X0.here hx rfl (hb hby at_44) rfl ?_
          show Steps p.tables e below (s₁.setTop (mkF m 45 #[.val (.int p1), .val (.int p2), .val (.int p3), .val (.int p4), .val (.int (1 : Int32)), .val (.int (0 : Int32)), .val (.int (1 : Int32)), .unset, .unset, .unset, .unset, .unset, .unset, .unset, .unset, .unset] [(.int p1)])) _
          refine st84 _ ?_
          show Steps p.tables e below (T84.setTop (mkF m 48 #[.val (.int p1), .val (.int p2), .val (.int p3), .val (.int p4), .val (.int (1 : Int32)), .val (.int (0 : Int32)), .val (.int (1 : Int32)), .unset, .unset, .unset, .unset, .unset, .unset, .unset, .unset, .unset] [(.ref bb_84)])) _
          refine XS.goto X84.here hx rfl (pc0 := 48) (pc' := 52) rfl (hb hby at_48) (by decide) (by decide) ?_
          show Steps p.tables e below (T84.setTop (mkF m 52 #[.val (.int p1), .val (.int p2), .val (.int p3), .val (.int p4), .val (.int (1 : Int32)), .val (.int (0 : Int32)), .val (.int (1 : Int32)), .unset, .unset, .unset, .unset, .unset, .unset, .unset, .unset, .unset] [(.ref bb_84)])) _
          refine XS.astore X84.here hx rfl (hb hby at_52) rfl rfl (l' := #[.val (.int p1), .val (.int p2), .val (.int p3), .val (.int p4), .val (.int (1 : Int32)), .val (.int (0 : Int32)), .val (.int (1 : Int32)), .val (.ref bb_84), .unset, .unset, .unset, .unset, .unset, .unset, .unset, .unset]) rfl ?_
          show Steps p.tables e below (T84.setTop (mkF m 54 #[.val (.int p1), .val (.int p2), .val (.int p3), .val (.int p4), .val (.int (1 : Int32)), .val (.int (0 : Int32)), .val (.int (1 : Int32)), .val (.ref bb_84), .unset, .unset, .unset, .unset, .unset, .unset, .unset, .unset] [])) _
          refine XS.iload X84.here hx rfl (hb hby at_54) rfl ?_
          show Steps p.tables e below (T84.setTop (mkF m 56 #[.val (.int p1), .val (.int p2), .val (.int p3), .val (.int p4), .val (.int (1 : Int32)), .val (.int (0 : Int32)), .val (.int (1 : Int32)), .val (.ref bb_84), .unset, .unset, .unset, .unset, .unset, .unset, .unset, .unset] [(.int (0 : Int32))])) _
          refine XS.ifYes X84.here hx rfl (pc0 := 56) (pc' := 66) rfl (hb hby at_56) rfl ((if0 _ _).trans (teq rfl).1) (by decide) (by decide) ?_
          show Steps p.tables e below (T84.setTop (mkF m 66 #[.val (.int p1), .val (.int p2), .val (.int p3), .val (.int p4), .val (.int (1 : Int32)), .val (.int (0 : Int32)), .val (.int (1 : Int32)), .val (.ref bb_84), .unset, .unset, .unset, .unset, .unset, .unset, .unset, .unset] [])) _
          refine XS.aconstNull X84.here hx rfl (hb hby at_66) ?_
          show Steps p.tables e below (T84.setTop (mkF m 67 #[.val (.int p1), .val (.int p2), .val (.int p3), .val (.int p4), .val (.int (1 : Int32)), .val (.int (0 : Int32)), .val (.int (1 : Int32)), .val (.ref bb_84), .unset, .unset, .unset, .unset, .unset, .unset, .unset, .unset] [.null])) _
          refine XS.astore X84.here hx rfl (hb hby at_67) rfl rfl (l' := #[.val (.int p1), .val (.int p2), .val (.int p3), .val (.int p4), .val (.int (1 : Int32)), .val (.int (0 : Int32)), .val (.int (1 : Int32)), .val (.ref bb_84), .val .null, .unset, .unset, .unset, .unset, .unset, .unset, .unset]) rfl ?_
          show Steps p.tables e below (T84.setTop (mkF m 69 #[.val (.int p1), .val (.int p2), .val (.int p3), .val (.int p4), .val (.int (1 : Int32)), .val (.int (0 : Int32)), .val (.int (1 : Int32)), .val (.ref bb_84), .val .null, .unset, .unset, .unset, .unset, .unset, .unset, .unset] [])) _
          refine XS.iload X84.here hx rfl (hb hby at_69) rfl ?_
          show Steps p.tables e below (T84.setTop (mkF m 71 #[.val (.int p1), .val (.int p2), .val (.int p3), .val (.int p4), .val (.int (1 : Int32)), .val (.int (0 : Int32)), .val (.int (1 : Int32)), .val (.ref bb_84), .val .null, .unset, .unset, .unset, .unset, .unset, .unset, .unset] [(.int (1 : Int32))])) _
          refine XS.ifNo X84.here hx rfl (hb hby at_71) rfl ((if0 _ _).trans (feq (by decide)).1) ?_
          show Steps p.tables e below (T84.setTop (mkF m 74 #[.val (.int p1), .val (.int p2), .val (.int p3), .val (.int p4), .val (.int (1 : Int32)), .val (.int (0 : Int32)), .val (.int (1 : Int32)), .val (.ref bb_84), .val .null, .unset, .unset, .unset, .unset, .unset, .unset, .unset] [])) _
          refine XS.iloadN X84.here hx rfl (hb hby at_74) rfl ?_
          show Steps p.tables e below (T84.setTop (mkF m 75 #[.val (.int p1), .val (.int p2), .val (.int p3), .val (.int p4), .val (.int (1 : Int32)), .val (.int (0 : Int32)), .val (.int (1 : Int32)), .val (.ref bb_84), .val .null, .unset, .unset, .unset, .unset, .unset, .unset, .unset] [(.int p3)])) _
          refine st85 _ ?_
          show Steps p.tables e below (T85.setTop (mkF m 78 #[.val (.int p1), .val (.int p2), .val (.int p3), .val (.int p4), .val (.int (1 : Int32)), .val (.int (0 : Int32)), .val (.int (1 : Int32)), .val (.ref bb_84), .val .null, .unset, .unset, .unset, .unset, .unset, .unset, .unset] [(.ref bb_85)])) _
          refine XS.goto X85.here hx rfl (pc0 := 78) (pc' := 82) rfl (hb hby at_78) (by decide) (by decide) ?_
          show Steps p.tables e below (T85.setTop (mkF m 82 #[.val (.int p1), .val (.int p2), .val (.int p3), .val (.int p4), .val (.int (1 : Int32)), .val (.int (0 : Int32)), .val (.int (1 : Int32)), .val (.ref bb_84), .val .null, .unset, .unset, .unset, .unset, .unset, .unset, .unset] [(.ref bb_85)])) _
          refine XS.astore X85.here hx rfl (hb hby at_82) rfl rfl (l' := #[.val (.int p1), .val (.int p2), .val (.int p3), .val (.int p4), .val (.int (1 : Int32)), .val (.int (0 : Int32)), .val (.int (1 : Int32)), .val (.ref bb_84), .val .null, .val (.ref bb_85), .unset, .unset, .unset, .unset, .unset, .unset]) rfl ?_
          show Steps p.tables e below (T85.setTop (mkF m 84 #[.val (.int p1), .val (.int p2), .val (.int p3), .val (.int p4), .val (.int (1 : Int32)), .val (.int (0 : Int32)), .val (.int (1 : Int32)), .val (.ref bb_84), .val .null, .val (.ref bb_85), .unset, .unset, .unset, .unset, .unset, .unset] [])) _
          refine st87 _ ?_
          show Steps p.tables e below (T87.setTop (mkF m 87 #[.val (.int p1), .val (.int p2), .val (.int p3), .val (.int p4), .val (.int (1 : Int32)), .val (.int (0 : Int32)), .val (.int (1 : Int32)), .val (.ref bb_84), .val .null, .val (.ref bb_85), .unset, .unset, .unset, .unset, .unset, .unset] [(.ref b87)])) _
          refine XS.dup X87.here hx rfl (hb hby at_87) rfl rfl ?_
          show Steps p.tables e below (T87.setTop (mkF m 88 #[.val (.int p1), .val (.int p2), .val (.int p3), .val (.int p4), .val (.int (1 : Int32)), .val (.int (0 : Int32)), .val (.int (1 : Int32)), .val (.ref bb_84), .val .null, .val (.ref bb_85), .unset, .unset, .unset, .unset, .unset, .unset] [(.ref b87), (.ref b87)])) _
          refine XS.aload X87.here hx rfl (hb hby at_88) rfl rfl ?_
          show Steps p.tables e below (T87.setTop (mkF m 90 #[.val (.int p1), .val (.int p2), .val (.int p3), .val (.int p4), .val (.int (1 : Int32)), .val (.int (0 : Int32)), .val (.int (1 : Int32)), .val (.ref bb_84), .val .null, .val (.ref bb_85), .unset, .unset, .unset, .unset, .unset, .unset] [(.ref bb_84), (.ref b87), (.ref b87)])) _
          refine XS.aload X87.here hx rfl (hb hby at_90) rfl rfl ?_
          show Steps p.tables e below (T87.setTop (mkF m 92 #[.val (.int p1), .val (.int p2), .val (.int p3), .val (.int p4), .val (.int (1 : Int32)), .val (.int (0 : Int32)), .val (.int (1 : Int32)), .val (.ref bb_84), .val .null, .val (.ref bb_85), .unset, .unset, .unset, .unset, .unset, .unset] [.null, (.ref bb_84), (.ref b87), (.ref b87)])) _
          refine XS.aload X87.here hx rfl (hb hby at_92) rfl rfl ?_
          show Steps p.tables e below (T87.setTop (mkF m 94 #[.val (.int p1), .val (.int p2), .val (.int p3), .val (.int p4), .val (.int (1 : Int32)), .val (.int (0 : Int32)), .val (.int (1 : Int32)), .val (.ref bb_84), .val .null, .val (.ref bb_85), .unset, .unset, .unset, .unset, .unset, .unset] [(.ref bb_85), .null, (.ref bb_84), (.ref b87), (.ref b87)])) _
          refine st88.trans ?_
          show Steps p.tables e below (T88.setTop (mkF m 97 #[.val (.int p1), .val (.int p2), .val (.int p3), .val (.int p4), .val (.int (1 : Int32)), .val (.int (0 : Int32)), .val (.int (1 : Int32)), .val (.ref bb_84), .val .null, .val (.ref bb_85), .unset, .unset, .unset, .unset, .unset, .unset] [(.ref b87)])) _
          refine XS.astore X88.here hx rfl (hb hby at_97) rfl rfl (l' := #[.val (.int p1), .val (.int p2), .val (.int p3), .val (.int p4), .val (.int (1 : Int32)), .val (.int (0 : Int32)), .val (.int (1 : Int32)), .val (.ref bb_84), .val .null, .val (.ref bb_85), .val (.ref b87), .unset, .unset, .unset, .unset, .unset]) rfl ?_
          show Steps p.tables e below (T88.setTop (mkF m 99 #[.val (.int p1), .val (.int p2), .val (.int p3), .val (.int p4), .val (.int (1 : Int32)), .val (.int (0 : Int32)), .val (.int (1 : Int32)), .val (.ref bb_84), .val .null, .val (.ref bb_85), .val (.ref b87), .unset, .unset, .unset, .unset, .unset] [])) _
          refine XS.aload X88.here hx rfl (hb hby at_99) rfl rfl ?_
          show Steps p.tables e below (T88.setTop (mkF m 101 #[.val (.int p1), .val (.int p2), .val (.int p3), .val (.int p4), .val (.int (1 : Int32)), .val (.int (0 : Int32)), .val (.int (1 : Int32)), .val (.ref bb_84), .val .null, .val (.ref bb_85), .val (.ref b87), .unset, .unset, .unset, .unset, .unset] [(.ref b87)])) _
          refine st89.trans ?_
          show Steps p.tables e below (T89.setTop (mkF m 104 #[.val (.int p1), .val (.int p2), .val (.int p3), .val (.int p4), .val (.int (1 : Int32)), .val (.int (0 : Int32)), .val (.int (1 : Int32)), .val (.ref bb_84), .val .null, .val (.ref bb_85), .val (.ref b87), .unset, .unset, .unset, .unset, .unset] [(.int (1 : Int32))])) _
          refine XS.iload X89.here hx rfl (hb hby at_104) rfl ?_
          show Steps p.tables e below (T89.setTop (mkF m 106 #[.val (.int p1), .val (.int p2), .val (.int p3), .val (.int p4), .val (.int (1 : Int32)), .val (.int (0 : Int32)), .val (.int (1 : Int32)), .val (.ref bb_84), .val .null, .val (.ref bb_85), .val (.ref b87), .unset, .unset, .unset, .unset, .unset] [(.int (0 : Int32)), (.int (1 : Int32))])) _
          refine XS.ifNo X89.here hx rfl (hb hby at_106) rfl ((if0 _ _).trans (teq rfl).2) ?_
          show Steps p.tables e below (T89.setTop (mkF m 109 #[.val (.int p1), .val (.int p2), .val (.int p3), .val (.int p4), .val (.int (1 : Int32)), .val (.int (0 : Int32)), .val (.int (1 : Int32)), .val (.ref bb_84), .val .null, .val (.ref bb_85), .val (.ref b87), .unset, .unset, .unset, .unset, .unset] [(.int (1 : Int32))])) _
          refine XS.iconst X89.here hx rfl (hb hby at_109) ?_
          show Steps p.tables e below (T89.setTop (mkF m 110 #[.val (.int p1), .val (.int p2), .val (.int p3), .val (.int p4), .val (.int (1 : Int32)), .val (.int (0 : Int32)), .val (.int (1 : Int32)), .val (.ref bb_84), .val .null, .val (.ref bb_85), .val (.ref b87), .unset, .unset, .unset, .unset, .unset] [(.int (1 : Int32)), (.int (1 : Int32))])) _
          refine XS.goto X89.here hx rfl (pc0 := 110) (pc' := 114) rfl (hb hby at_110) (by decide) (by decide) ?_
          show Steps p.tables e below (T89.setTop (mkF m 114 #[.val (.int p1), .val (.int p2), .val (.int p3), .val (.int p4), .val (.int (1 : Int32)), .val (.int (0 : Int32)), .val (.int (1 : Int32)), .val (.ref bb_84), .val .null, .val (.ref bb_85), .val (.ref b87), .unset, .unset, .unset, .unset, .unset] [(.int (1 : Int32)), (.int (1 : Int32))])) _
          refine XS.icmpNo X89.here hx rfl (hb hby at_114) rfl (teq rfl).2 ?_
          show Steps p.tables e below (T89.setTop (mkF m 117 #[.val (.int p1), .val (.int p2), .val (.int p3), .val (.int p4), .val (.int (1 : Int32)), .val (.int (0 : Int32)), .val (.int (1 : Int32)), .val (.ref bb_84), .val .null, .val (.ref bb_85), .val (.ref b87), .unset, .unset, .unset, .unset, .unset] [])) _
          refine XS.iconst X89.here hx rfl (hb hby at_117) ?_
          show Steps p.tables e below (T89.setTop (mkF m 118 #[.val (.int p1), .val (.int p2), .val (.int p3), .val (.int p4), .val (.int (1 : Int32)), .val (.int (0 : Int32)), .val (.int (1 : Int32)), .val (.ref bb_84), .val .null, .val (.ref bb_85), .val (.ref b87), .unset, .unset, .unset, .unset, .unset] [(.int (1 : Int32))])) _
          refine XS.goto X89.here hx rfl (pc0 := 118) (pc' := 122) rfl (hb hby at_118) (by decide) (by decide) ?_
          show Steps p.tables e below (T89.setTop (mkF m 122 #[.val (.int p1), .val (.int p2), .val (.int p3), .val (.int p4), .val (.int (1 : Int32)), .val (.int (0 : Int32)), .val (.int (1 : Int32)), .val (.ref bb_84), .val .null, .val (.ref bb_85), .val (.ref b87), .unset, .unset, .unset, .unset, .unset] [(.int (1 : Int32))])) _
          refine XS.istore X89.here hx rfl (hb hby at_122) rfl (l' := #[.val (.int p1), .val (.int p2), .val (.int p3), .val (.int p4), .val (.int (1 : Int32)), .val (.int (0 : Int32)), .val (.int (1 : Int32)), .val (.ref bb_84), .val .null, .val (.ref bb_85), .val (.ref b87), .val (.int (1 : Int32)), .unset, .unset, .unset, .unset]) rfl ?_
          show Steps p.tables e below (T89.setTop (mkF m 124 #[.val (.int p1), .val (.int p2), .val (.int p3), .val (.int p4), .val (.int (1 : Int32)), .val (.int (0 : Int32)), .val (.int (1 : Int32)), .val (.ref bb_84), .val .null, .val (.ref bb_85), .val (.ref b87), .val (.int (1 : Int32)), .unset, .unset, .unset, .unset] [])) _
          refine XS.iloadN X89.here hx rfl (hb hby at_124) rfl ?_
          show Steps p.tables e below (T89.setTop (mkF m 125 #[.val (.int p1), .val (.int p2), .val (.int p3), .val (.int p4), .val (.int (1 : Int32)), .val (.int (0 : Int32)), .val (.int (1 : Int32)), .val (.ref bb_84), .val .null, .val (.ref bb_85), .val (.ref b87), .val (.int (1 : Int32)), .unset, .unset, .unset, .unset] [(.int p1)])) _
          refine st91 _ ?_
          show Steps p.tables e below (T91.setTop (mkF m 128 #[.val (.int p1), .val (.int p2), .val (.int p3), .val (.int p4), .val (.int (1 : Int32)), .val (.int (0 : Int32)), .val (.int (1 : Int32)), .val (.ref bb_84), .val .null, .val (.ref bb_85), .val (.ref b87), .val (.int (1 : Int32)), .unset, .unset, .unset, .unset] [(.ref bb_91)])) _
          refine st93 _ ?_
          show Steps p.tables e below (T93.setTop (mkF m 131 #[.val (.int p1), .val (.int p2), .val (.int p3), .val (.int p4), .val (.int (1 : Int32)), .val (.int (0 : Int32)), .val (.int (1 : Int32)), .val (.ref bb_84), .val .null, .val (.ref bb_85), .val (.ref b87), .val (.int (1 : Int32)), .unset, .unset, .unset, .unset] [(.ref bb_93)])) _
          refine XS.astore X93.here hx rfl (hb hby at_131) rfl rfl (l' := #[.val (.int p1), .val (.int p2), .val (.int p3), .val (.int p4), .val (.int (1 : Int32)), .val (.int (0 : Int32)), .val (.int (1 : Int32)), .val (.ref bb_84), .val .null, .val (.ref bb_85), .val (.ref b87), .val (.int (1 : Int32)), .val (.ref bb_93), .unset, .unset, .unset]) rfl ?_
          show Steps p.tables e below (T93.setTop (mkF m 133 #[.val (.int p1), .val (.int p2), .val (.int p3), .val (.int p4), .val (.int (1 : Int32)), .val (.int (0 : Int32)), .val (.int (1 : Int32)), .val (.ref bb_84), .val .null, .val (.ref bb_85), .val (.ref b87), .val (.int (1 : Int32)), .val (.ref bb_93), .unset, .unset, .unset] [])) _
          refine XS.aload X93.here hx rfl (hb hby at_133) rfl rfl ?_
          show Steps p.tables e below (T93.setTop (mkF m 135 #[.val (.int p1), .val (.int p2), .val (.int p3), .val (.int p4), .val (.int (1 : Int32)), .val (.int (0 : Int32)), .val (.int (1 : Int32)), .val (.ref bb_84), .val .null, .val (.ref bb_85), .val (.ref b87), .val (.int (1 : Int32)), .val (.ref bb_93), .unset, .unset, .unset] [(.ref bb_93)])) _
          refine st95.trans ?_
          show Steps p.tables e below (T95.setTop (mkF m 138 #[.val (.int p1), .val (.int p2), .val (.int p3), .val (.int p4), .val (.int (1 : Int32)), .val (.int (0 : Int32)), .val (.int (1 : Int32)), .val (.ref bb_84), .val .null, .val (.ref bb_85), .val (.ref b87), .val (.int (1 : Int32)), .val (.ref bb_93), .unset, .unset, .unset] [(.int (0 : Int32))])) _
          refine XS.ifNo X95.here hx rfl (hb hby at_138) rfl ((if0 _ _).trans (teq rfl).2) ?_
          show Steps p.tables e below (T95.setTop (mkF m 141 #[.val (.int p1), .val (.int p2), .val (.int p3), .val (.int p4), .val (.int (1 : Int32)), .val (.int (0 : Int32)), .val (.int (1 : Int32)), .val (.ref bb_84), .val .null, .val (.ref bb_85), .val (.ref b87), .val (.int (1 : Int32)), .val (.ref bb_93), .unset, .unset, .unset] [])) _
          refine XS.iconst X95.here hx rfl (hb hby at_141) ?_
          show Steps p.tables e below (T95.setTop (mkF m 142 #[.val (.int p1), .val (.int p2), .val (.int p3), .val (.int p4), .val (.int (1 : Int32)), .val (.int (0 : Int32)), .val (.int (1 : Int32)), .val (.ref bb_84), .val .null, .val (.ref bb_85), .val (.ref b87), .val (.int (1 : Int32)), .val (.ref bb_93), .unset, .unset, .unset] [(.int (1 : Int32))])) _
          refine XS.goto X95.here hx rfl (pc0 := 142) (pc' := 146) rfl (hb hby at_142) (by decide) (by decide) ?_
          show Steps p.tables e below (T95.setTop (mkF m 146 #[.val (.int p1), .val (.int p2), .val (.int p3), .val (.int p4), .val (.int (1 : Int32)), .val (.int (0 : Int32)), .val (.int (1 : Int32)), .val (.ref bb_84), .val .null, .val (.ref bb_85), .val (.ref b87), .val (.int (1 : Int32)), .val (.ref bb_93), .unset, .unset, .unset] [(.int (1 : Int32))])) _
          refine XS.istore X95.here hx rfl (hb hby at_146) rfl (l' := #[.val (.int p1), .val (.int p2), .val (.int p3), .val (.int p4), .val (.int (1 : Int32)), .val (.int (0 : Int32)), .val (.int (1 : Int32)), .val (.ref bb_84), .val .null, .val (.ref bb_85), .val (.ref b87), .val (.int (1 : Int32)), .val (.ref bb_93), .val (.int (1 : Int32)), .unset, .unset]) rfl ?_
          show Steps p.tables e below (T95.setTop (mkF m 148 #[.val (.int p1), .val (.int p2), .val (.int p3), .val (.int p4), .val (.int (1 : Int32)), .val (.int (0 : Int32)), .val (.int (1 : Int32)), .val (.ref bb_84), .val .null, .val (.ref bb_85), .val (.ref b87), .val (.int (1 : Int32)), .val (.ref bb_93), .val (.int (1 : Int32)), .unset, .unset] [])) _
          refine XS.aload X95.here hx rfl (hb hby at_148) rfl rfl ?_
          show Steps p.tables e below (T95.setTop (mkF m 150 #[.val (.int p1), .val (.int p2), .val (.int p3), .val (.int p4), .val (.int (1 : Int32)), .val (.int (0 : Int32)), .val (.int (1 : Int32)), .val (.ref bb_84), .val .null, .val (.ref bb_85), .val (.ref b87), .val (.int (1 : Int32)), .val (.ref bb_93), .val (.int (1 : Int32)), .unset, .unset] [(.ref bb_84)])) _
          refine XS.aload X95.here hx rfl (hb hby at_150) rfl rfl ?_
          show Steps p.tables e below (T95.setTop (mkF m 152 #[.val (.int p1), .val (.int p2), .val (.int p3), .val (.int p4), .val (.int (1 : Int32)), .val (.int (0 : Int32)), .val (.int (1 : Int32)), .val (.ref bb_84), .val .null, .val (.ref bb_85), .val (.ref b87), .val (.int (1 : Int32)), .val (.ref bb_93), .val (.int (1 : Int32)), .unset, .unset] [(.ref bb_85), (.ref bb_84)])) _
          refine st96 _ ?_
          show Steps p.tables e below (T96.setTop (mkF m 155 #[.val (.int p1), .val (.int p2), .val (.int p3), .val (.int p4), .val (.int (1 : Int32)), .val (.int (0 : Int32)), .val (.int (1 : Int32)), .val (.ref bb_84), .val .null, .val (.ref bb_85), .val (.ref b87), .val (.int (1 : Int32)), .val (.ref bb_93), .val (.int (1 : Int32)), .unset, .unset] [(.ref bb_96)])) _
          refine XS.astore X96.here hx rfl (hb hby at_155) rfl rfl (l' := #[.val (.int p1), .val (.int p2), .val (.int p3), .val (.int p4), .val (.int (1 : Int32)), .val (.int (0 : Int32)), .val (.int (1 : Int32)), .val (.ref bb_84), .val .null, .val (.ref bb_85), .val (.ref b87), .val (.int (1 : Int32)), .val (.ref bb_93), .val (.int (1 : Int32)), .val (.ref bb_96), .unset]) rfl ?_
          show Steps p.tables e below (T96.setTop (mkF m 157 #[.val (.int p1), .val (.int p2), .val (.int p3), .val (.int p4), .val (.int (1 : Int32)), .val (.int (0 : Int32)), .val (.int (1 : Int32)), .val (.ref bb_84), .val .null, .val (.ref bb_85), .val (.ref b87), .val (.int (1 : Int32)), .val (.ref bb_93), .val (.int (1 : Int32)), .val (.ref bb_96), .unset] [])) _
          refine XS.aload X96.here hx rfl (hb hby at_157) rfl rfl ?_
          show Steps p.tables e below (T96.setTop (mkF m 159 #[.val (.int p1), .val (.int p2), .val (.int p3), .val (.int p4), .val (.int (1 : Int32)), .val (.int (0 : Int32)), .val (.int (1 : Int32)), .val (.ref bb_84), .val .null, .val (.ref bb_85), .val (.ref b87), .val (.int (1 : Int32)), .val (.ref bb_93), .val (.int (1 : Int32)), .val (.ref bb_96), .unset] [(.ref bb_96)])) _
          refine st98.trans ?_
          show Steps p.tables e below (T98.setTop (mkF m 162 #[.val (.int p1), .val (.int p2), .val (.int p3), .val (.int p4), .val (.int (1 : Int32)), .val (.int (0 : Int32)), .val (.int (1 : Int32)), .val (.ref bb_84), .val .null, .val (.ref bb_85), .val (.ref b87), .val (.int (1 : Int32)), .val (.ref bb_93), .val (.int (1 : Int32)), .val (.ref bb_96), .unset] [(.int (1 : Int32))])) _
          refine XS.istore X98.here hx rfl (hb hby at_162) rfl (l' := #[.val (.int p1), .val (.int p2), .val (.int p3), .val (.int p4), .val (.int (1 : Int32)), .val (.int (0 : Int32)), .val (.int (1 : Int32)), .val (.ref bb_84), .val .null, .val (.ref bb_85), .val (.ref b87), .val (.int (1 : Int32)), .val (.ref bb_93), .val (.int (1 : Int32)), .val (.ref bb_96), .val (.int (1 : Int32))]) rfl ?_
          show Steps p.tables e below (T98.setTop (mkF m 164 #[.val (.int p1), .val (.int p2), .val (.int p3), .val (.int p4), .val (.int (1 : Int32)), .val (.int (0 : Int32)), .val (.int (1 : Int32)), .val (.ref bb_84), .val .null, .val (.ref bb_85), .val (.ref b87), .val (.int (1 : Int32)), .val (.ref bb_93), .val (.int (1 : Int32)), .val (.ref bb_96), .val (.int (1 : Int32))] [])) _
          refine XS.iload X98.here hx rfl (hb hby at_164) rfl ?_
          show Steps p.tables e below (T98.setTop (mkF m 166 #[.val (.int p1), .val (.int p2), .val (.int p3), .val (.int p4), .val (.int (1 : Int32)), .val (.int (0 : Int32)), .val (.int (1 : Int32)), .val (.ref bb_84), .val .null, .val (.ref bb_85), .val (.ref b87), .val (.int (1 : Int32)), .val (.ref bb_93), .val (.int (1 : Int32)), .val (.ref bb_96), .val (.int (1 : Int32))] [(.int (1 : Int32))])) _
          refine XS.ifNo X98.here hx rfl (hb hby at_166) rfl ((if0 _ _).trans (feq (by decide)).1) ?_
          show Steps p.tables e below (T98.setTop (mkF m 169 #[.val (.int p1), .val (.int p2), .val (.int p3), .val (.int p4), .val (.int (1 : Int32)), .val (.int (0 : Int32)), .val (.int (1 : Int32)), .val (.ref bb_84), .val .null, .val (.ref bb_85), .val (.ref b87), .val (.int (1 : Int32)), .val (.ref bb_93), .val (.int (1 : Int32)), .val (.ref bb_96), .val (.int (1 : Int32))] [])) _
          refine XS.iload X98.here hx rfl (hb hby at_169) rfl ?_
          show Steps p.tables e below (T98.setTop (mkF m 171 #[.val (.int p1), .val (.int p2), .val (.int p3), .val (.int p4), .val (.int (1 : Int32)), .val (.int (0 : Int32)), .val (.int (1 : Int32)), .val (.ref bb_84), .val .null, .val (.ref bb_85), .val (.ref b87), .val (.int (1 : Int32)), .val (.ref bb_93), .val (.int (1 : Int32)), .val (.ref bb_96), .val (.int (1 : Int32))] [(.int (1 : Int32))])) _
          refine XS.ifNo X98.here hx rfl (hb hby at_171) rfl ((if0 _ _).trans (feq (by decide)).1) ?_
          show Steps p.tables e below (T98.setTop (mkF m 174 #[.val (.int p1), .val (.int p2), .val (.int p3), .val (.int p4), .val (.int (1 : Int32)), .val (.int (0 : Int32)), .val (.int (1 : Int32)), .val (.ref bb_84), .val .null, .val (.ref bb_85), .val (.ref b87), .val (.int (1 : Int32)), .val (.ref bb_93), .val (.int (1 : Int32)), .val (.ref bb_96), .val (.int (1 : Int32))] [])) _
          refine XS.iload X98.here hx rfl (hb hby at_174) rfl ?_
          show Steps p.tables e below (T98.setTop (mkF m 176 #[.val (.int p1), .val (.int p2), .val (.int p3), .val (.int p4), .val (.int (1 : Int32)), .val (.int (0 : Int32)), .val (.int (1 : Int32)), .val (.ref bb_84), .val .null, .val (.ref bb_85), .val (.ref b87), .val (.int (1 : Int32)), .val (.ref bb_93), .val (.int (1 : Int32)), .val (.ref bb_96), .val (.int (1 : Int32))] [(.int (1 : Int32))])) _
          refine XS.ifNo X98.here hx rfl (hb hby at_176) rfl ((if0 _ _).trans (feq (by decide)).1) ?_
          show Steps p.tables e below (T98.setTop (mkF m 179 #[.val (.int p1), .val (.int p2), .val (.int p3), .val (.int p4), .val (.int (1 : Int32)), .val (.int (0 : Int32)), .val (.int (1 : Int32)), .val (.ref bb_84), .val .null, .val (.ref bb_85), .val (.ref b87), .val (.int (1 : Int32)), .val (.ref bb_93), .val (.int (1 : Int32)), .val (.ref bb_96), .val (.int (1 : Int32))] [])) _
          refine XS.iconst X98.here hx rfl (hb hby at_179) ?_
          show Steps p.tables e below (T98.setTop (mkF m 180 #[.val (.int p1), .val (.int p2), .val (.int p3), .val (.int p4), .val (.int (1 : Int32)), .val (.int (0 : Int32)), .val (.int (1 : Int32)), .val (.ref bb_84), .val .null, .val (.ref bb_85), .val (.ref b87), .val (.int (1 : Int32)), .val (.ref bb_93), .val (.int (1 : Int32)), .val (.ref bb_96), .val (.int (1 : Int32))] [(.int (1 : Int32))])) _
          refine XS.goto X98.here hx rfl (pc0 := 180) (pc' := 184) rfl (hb hby at_180) (by decide) (by decide) ?_
          show Steps p.tables e below (T98.setTop (mkF m 184 #[.val (.int p1), .val (.int p2), .val (.int p3), .val (.int p4), .val (.int (1 : Int32)), .val (.int (0 : Int32)), .val (.int (1 : Int32)), .val (.ref bb_84), .val .null, .val (.ref bb_85), .val (.ref b87), .val (.int (1 : Int32)), .val (.ref bb_93), .val (.int (1 : Int32)), .val (.ref bb_96), .val (.int (1 : Int32))] [(.int (1 : Int32))])) _
          exact retN X98 hx (t := .boolean) Bd.returns (by simp) (hb hby at_184) hr
        · show Q_rm0 Z p1 p2 p3 p4 w_cache h0 n0 _ T98.heap _
          rw [e98]
          exact ⟨rfl, N98, K96⟩
    · skip
      have pre100 : ∀ t, Steps p.tables e below (s₁.setTop (mkF m 29 #[.val (.int p1), .val (.int p2), .val (.int p3), .val (.int p4), .val (.int (1 : Int32)), .val (.int (1 : Int32)), .unset, .unset, .unset, .unset, .unset, .unset, .unset, .unset, .unset, .unset] [(.int (p4 &&& (4 : Int32)))])) t → Steps p.tables e below (s₁.setTop (entryFrame m #[(.int p1), (.int p2), (.int p3), (.int p4)] maxLocals)) t := fun t k => pre66 t (by
        refine XS.ifNo X0.here hx rfl (hb hby at_16) rfl ((if0 _ _).trans (feq hc67).1) ?_
        show Steps p.tables e below (s₁.setTop (mkF m 19 #[.val (.int p1), .val (.int p2), .val (.int p3), .val (.int p4), .val (.int (1 : Int32)), .unset, .unset, .unset, .unset, .unset, .unset, .unset, .unset, .unset, .unset, .unset] [])) _
        refine XS.iconst X0.here hx rfl (hb hby at_19) ?_
        show Steps p.tables e below (s₁.setTop (mkF m 20 #[.val (.int p1), .val (.int p2), .val (.int p3), .val (.int p4), .val (.int (1 : Int32)), .unset, .unset, .unset, .unset, .unset, .unset, .unset, .unset, .unset, .unset, .unset] [(.int (1 : Int32))])) _
        refine XS.goto X0.here hx rfl (pc0 := 20) (pc' := 24) rfl (hb hby at_20) (by decide) (by decide) ?_
        show Steps p.tables e below (s₁.setTop (mkF m 24 #[.val (.int p1), .val (.int p2), .val (.int p3), .val (.int p4), .val (.int (1 : Int32)), .unset, .unset, .unset, .unset, .unset, .unset, .unset, .unset, .unset, .unset, .unset] [(.int (1 : Int32))])) _
        refine XS.istore X0.here hx rfl (hb hby at_24) rfl (l' := #[.val (.int p1), .val (.int p2), .val (.int p3), .val (.int p4), .val (.int (1 : Int32)), .val (.int (1 : Int32)), .unset, .unset, .unset, .unset, .unset, .unset, .unset, .unset, .unset, .unset]) rfl ?_
        show Steps p.tables e below (s₁.setTop (mkF m 26 #[.val (.int p1), .val (.int p2), .val (.int p3), .val (.int p4), .val (.int (1 : Int32)), .val (.int (1 : Int32)), .unset, .unset, .unset, .unset, .unset, .unset, .unset, .unset, .unset, .unset] [])) _
        refine XS.iloadN X0.here hx rfl (hb hby at_26) rfl ?_
        show Steps p.tables e below (s₁.setTop (mkF m 27 #[.val (.int p1), .val (.int p2), .val (.int p3), .val (.int p4), .val (.int (1 : Int32)), .val (.int (1 : Int32)), .unset, .unset, .unset, .unset, .unset, .unset, .unset, .unset, .unset, .unset] [(.int p4)])) _
        refine XS.iconst X0.here hx rfl (hb hby at_27) ?_
        show Steps p.tables e below (s₁.setTop (mkF m 28 #[.val (.int p1), .val (.int p2), .val (.int p3), .val (.int p4), .val (.int (1 : Int32)), .val (.int (1 : Int32)), .unset, .unset, .unset, .unset, .unset, .unset, .unset, .unset, .unset, .unset] [(.int (4 : Int32)), (.int p4)])) _
        refine XS.iand X0.here hx rfl (hb hby at_28) rfl ?_
        show Steps p.tables e below (s₁.setTop (mkF m 29 #[.val (.int p1), .val (.int p2), .val (.int p3), .val (.int p4), .val (.int (1 : Int32)), .val (.int (1 : Int32)), .unset, .unset, .unset, .unset, .unset, .unset, .unset, .unset, .unset, .unset] [(.int (p4 &&& (4 : Int32)))])) _
        exact k)
      by_cases hc101 : (p4 &&& (4 : Int32)) = (0 : Int32)
      · skip
        obtain ⟨_, _, ⟨T102, L102, k102, n102⟩, -, X102, ⟨Lc102, hQ102, l102, y102, z102⟩, st102⟩ := Jvm.LawKit.callS X0 hx (y := (⟨"java/lang/Integer", "valueOf", "(I)Ljava/lang/Integer;"⟩ : MethodName)) hown (mvT hZ (kw0 hw)) (mvT hZ (kw1 hw)) (mvT hZ (kw2 hw)) (mvT hZ (kw3 hw)) (by decide) (backOf (W := 0) (rm1 l Z a0 hw [] p1 w_cache h0 n0 Z0 P0 P1 P2 HC) hZ (kw3 hw) (kw2 hw) (by decide) (by decide)) (g := (mkF m 45 #[.val (.int p1), .val (.int p2), .val (.int p3), .val (.int p4), .val (.int (1 : Int32)), .val (.int (1 : Int32)), .val (.int (0 : Int32)), .unset, .unset, .unset, .unset, .unset, .unset, .unset, .unset, .unset] [(.int p1)])) rfl (by rw [hml]; rfl) (argsL := [(.int p1)]) (rest := []) (lenOf pd_4 rfl) rfl (by show 2 * 0 + _ ≤ _; exact Nat.le_of_eq rfl) (hb hby at_45) (fun _ _ => ⟨rfl, e0, (by decide : 0 + 1 ≤ _), (by decide : 0 + 1 ≤ _)⟩)
        dsimp only [Pt.U, Pt.locs, Pt.cells, Pt.slots] at X102 l102 y102 z102 st102 hQ102
        subst l102 y102 z102
        obtain ⟨bb_102, rfl, N102q, Kq102⟩ := hQ102
        have N102 := Fr.app N0 N102q
        have Z102 : n0 ≤ T102.heap.size := Nat.le_trans Z0 Kq102.1
        have K102 : Keep h0 T102.heap [] := KR.trans Kq102 all0
        have f104 : Old Z n0 T102.heap := (P0.keep Kq102 all0)
        obtain ⟨_, _, ⟨T103, L103, k103, n103⟩, -, X103, ⟨Lc103, hQ103, l103, y103, z103⟩, st103⟩ := Jvm.LawKit.callS X102 hx (y := (⟨"java/lang/Integer", "valueOf", "(I)Ljava/lang/Integer;"⟩ : MethodName)) hown (mvT hZ (kw0 hw)) (mvT hZ (kw1 hw)) (mvT hZ (kw2 hw)) (mvT hZ (kw3 hw)) (by decide) (backOf (W := 0) (rm1 l Z a0 hw [] p2 w_cache T102.heap n0 Z102 f104 P1 P2 HC) hZ (kw3 hw) (kw2 hw) (by decide) (by decide)) (g := (mkF m 60 #[.val (.int p1), .val (.int p2), .val (.int p3), .val (.int p4), .val (.int (1 : Int32)), .val (.int (1 : Int32)), .val (.int (0 : Int32)), .val (.ref bb_102), .unset, .unset, .unset, .unset, .unset, .unset, .unset, .unset] [(.int p2)])) rfl (by rw [hml]; rfl) (argsL := [(.int p2)]) (rest := []) (lenOf pd_4 rfl) rfl (by show 2 * 0 + _ ≤ _; exact Nat.le_of_eq rfl) (hb hby at_60) (fun _ _ => ⟨rfl, rfl, (by decide : 1 + 1 ≤ _), (by decide : 1 + 1 ≤ _)⟩)
        dsimp only [Pt.U, Pt.locs, Pt.cells, Pt.slots] at X103 l103 y103 z103 st103 hQ103
        subst l103 y103 z103
        obtain ⟨bb_103, rfl, N103q, Kq103⟩ := hQ103
        have N103 := Fr.app N102 N103q
        have Z103 : n0 ≤ T103.heap.size := Nat.le_trans Z102 Kq103.1
        have K103 : Keep h0 T103.heap [] := K102.trans Kq103 all0
        obtain ⟨T105, h105, X105, e105, E105, A105, D105, -, st105⟩ := newO X103 hx hZ hown (kw7 hw) (kw8 hw) (kw9 hw) rfl (g := (mkF m 84 #[.val (.int p1), .val (.int p2), .val (.int p3), .val (.int p4), .val (.int (1 : Int32)), .val (.int (1 : Int32)), .val (.int (0 : Int32)), .val (.ref bb_102), .val (.ref bb_103), .val .null, .unset, .unset, .unset, .unset, .unset, .unset] [])) rfl (hb hby at_84) (by decide) (by decide)
        obtain ⟨b105, g105⟩ : ∃ z, z = T103.heap.size := ⟨_, rfl⟩
        rw [← g105] at A105 D105 st105
        have g_b105 : n0 ≤ b105 := Nat.le_trans Z103 (Nat.le_of_eq g105.symm)
        have sz_b105 : h0.size ≤ b105 := Nat.le_trans K103.1 (Nat.le_of_eq g105.symm)
        have Z105 : n0 ≤ h105.size := Nat.le_trans Z103 E105.1
        have K105 : Keep h0 h105 [] := K103.ext E105
        have F105_current : Fld Z h105 b105 "com/example/mergewright/mergewright/merge/Match" "current" "Ljava/lang/Object;" .null := D105 (Or.inr (kw17 hw)) (ty := (.object "java/lang/Object")) (by decide)
        have F105_base : Fld Z h105 b105 "com/example/mergewright/mergewright/merge/Match" "base" "Ljava/lang/Object;" .null := D105 (Or.inr (kw19 hw)) (ty := (.object "java/lang/Object")) (by decide)
        have F105_other : Fld Z h105 b105 "com/example/mergewright/mergewright/merge/Match" "other" "Ljava/lang/Object;" .null := D105 (Or.inr (kw21 hw)) (ty := (.object "java/lang/Object")) (by decide)
        obtain ⟨_, _, ⟨T106, L106, k106, n106⟩, -, X106, ⟨Lc106, hQ106, l106, y106, z106⟩, st106⟩ := X105.specialBack hx (y := (⟨"com/example/mergewright/mergewright/merge/Match", "<init>", "(Ljava/lang/Object;Ljava/lang/Object;Ljava/lang/Object;)V"⟩ : MethodName)) rfl hown (mvT hZ (kw10 hw)) (mvT hZ (kw11 hw)) (mvT hZ (kw12 hw)) (by decide) (backOf (W := 1) (rm2_rrn l Z a0 hw [] b105 bb_102 bb_103 h105 n0 Z105 A105 g_b105 F105_current F105_base F105_other) hZ (kw12 hw) (kw9 hw) (by decide) (by decide)) (g := (mkF m 94 #[.val (.int p1), .val (.int p2), .val (.int p3), .val (.int p4), .val (.int (1 : Int32)), .val (.int (1 : Int32)), .val (.int (0 : Int32)), .val (.ref bb_102), .val (.ref bb_103), .val .null, .unset, .unset, .unset, .unset, .unset, .unset] [.null, (.ref bb_103), (.ref bb_102), (.ref b105), (.ref b105)])) rfl (by rw [hml]; rfl) (Steps.refl _) (a := b105) (argsL := [(.ref bb_102), (.ref bb_103), .null]) (rest := [(.ref b105)]) (lenOf pd_2 rfl) rfl (by show 2 * 0 + _ ≤ _; exact Nat.le_of_eq rfl) (hb hby at_94) (fun _ _ => ⟨rfl, e105, (by decide : 3 + 0 ≤ _), (by decide : 5 + 0 ≤ _)⟩)
        dsimp only [Pt.U, Pt.locs, Pt.cells, Pt.slots] at X106 l106 y106 z106 st106 hQ106
        subst l106 y106 z106
        obtain ⟨rfl, N106q, Kq106, p106_0⟩ := hQ106
        have N106 := Fr.app N103 N106q
        have Z106 : n0 ≤ T106.heap.size := Nat.le_trans Z105 Kq106.1
        have K106 : Keep h0 T106.heap [] := K105.trans Kq106 (allS (Or.inr sz_b105) all0)
        have f108 : Exa Z T106.heap b105 "com/example/mergewright/mergewright/merge/Match" := (A105.keep Kq106)
        obtain ⟨cq107, kq107, q107a, q107b, q107c⟩ := isOf hZ rfl f108
        obtain ⟨_, _, ⟨T107, L107, k107, n107⟩, -, X107, ⟨Lc107, hQ107, l107, y107, z107⟩, st107⟩ := X106.virtualBack hx (y := (⟨"com/example/mergewright/mergewright/merge/Match", "isInsertedByBoth", "()Z"⟩ : MethodName)) (z := (⟨"com/example/mergewright/mergewright/merge/Match", "isInsertedByBoth", "()Z"⟩ : MethodName)) hown (mvT hZ (kw22 hw)) (mvT hZ (kw23 hw)) (notFace_of_selects (args := #[]) (mvT hZ (kw25 hw))) (mvT hZ (kw25 hw)) (mvT hZ (kw24 hw)) (by decide) (backOf (W := 0) (rm4_r l Z a0 hw [] b105 bb_103 T106.heap n0 Z106 p106_0) hZ (kw26 hw) (kw9 hw) (by decide) (by decide)) q107a q107c (g := (mkF m 101 #[.val (.int p1), .val (.int p2), .val (.int p3), .val (.int p4), .val (.int (1 : Int32)), .val (.int (1 : Int32)), .val (.int (0 : Int32)), .val (.ref bb_102), .val (.ref bb_103), .val .null, .val (.ref b105), .unset, .unset, .unset, .unset, .unset] [(.ref b105)])) rfl (by rw [hml]; rfl) (Steps.refl _) (argsL := []) (rest := []) (lenOf pd_3 rfl) rfl (by show 2 * 0 + _ ≤ _; exact Nat.le_of_eq rfl) (hb hby at_101) (fun _ _ => ⟨rfl, rfl, (by decide : 3 + 0 ≤ _), (by decide : 5 + 0 ≤ _)⟩)
        dsimp only [Pt.U, Pt.locs, Pt.cells, Pt.slots] at X107 l107 y107 z107 st107 hQ107
        subst l107 y107 z107
        obtain ⟨rfl, N107q, e107⟩ := hQ107
        have N107 := Fr.app N106 N107q
        have f110 : Old Z n0 T106.heap := (((f104.keep Kq103 all0).ext E105).keep Kq106 (allS g_b105 all0))
        obtain ⟨_, _, ⟨T109, L109, k109, n109⟩, -, X109, ⟨Lc109, hQ109, l109, y109, z109⟩, st109⟩ := Jvm.LawKit.callS X107 hx (y := (⟨"java/lang/Integer", "valueOf", "(I)Ljava/lang/Integer;"⟩ : MethodName)) hown (mvT hZ (kw0 hw)) (mvT hZ (kw1 hw)) (mvT hZ (kw2 hw)) (mvT hZ (kw3 hw)) (by decide) (backOf (W := 0) (rm1 l Z a0 hw [] p1 w_cache T106.heap n0 Z106 f110 P1 P2 HC) hZ (kw3 hw) (kw2 hw) (by decide) (by decide)) (g := (mkF m 125 #[.val (.int p1), .val (.int p2), .val (.int p3), .val (.int p4), .val (.int (1 : Int32)), .val (.int (1 : Int32)), .val (.int (0 : Int32)), .val (.ref bb_102), .val (.ref bb_103), .val .null, .val (.ref b105), .val (.int (1 : Int32)), .unset, .unset, .unset, .unset] [(.int p1)])) rfl (by rw [hml]; rfl) (argsL := [(.int p1)]) (rest := []) (lenOf pd_4 rfl) rfl (by show 2 * 0 + _ ≤ _; exact Nat.le_of_eq rfl) (hb hby at_125) (fun _ _ => ⟨rfl, e107, (by decide : 3 + 1 ≤ _), (by decide : 5 + 1 ≤ _)⟩)
        dsimp only [Pt.U, Pt.locs, Pt.cells, Pt.slots] at X109 l109 y109 z109 st109 hQ109
        subst l109 y109 z109
        obtain ⟨bb_109, rfl, N109q, Kq109⟩ := hQ109
        have N109 := Fr.app N107 N109q
        have Z109 : n0 ≤ T109.heap.size := Nat.le_trans Z106 Kq109.1
        have K109 : Keep h0 T109.heap [] := K106.trans Kq109 all0
        have f112 : Exa Z T109.heap b105 "com/example/mergewright/mergewright/merge/Match" := (f108.keep Kq109)
        obtain ⟨_, _, ⟨T111, L111, k111, n111⟩, -, X111, ⟨Lc111, hQ111, l111, y111, z111⟩, st111⟩ := Jvm.LawKit.callS X109 hx (y := (⟨"com/example/mergewright/mergewright/merge/Match", "inserted", "(Ljava/lang/Object;)Lcom/example/mergewright/mergewright/merge/Match;"⟩ : MethodName)) hown (mvT hZ (kw27 hw)) (mvT hZ (kw28 hw)) (mvT hZ (kw9 hw)) (mvT hZ (kw29 hw)) (by decide) (backOf (W := 0) (rm5 l Z a0 hw [] bb_109 T109.heap n0 Z109 ) hZ (kw29 hw) (kw9 hw) (by decide) (by decide)) (g := (mkF m 128 #[.val (.int p1), .val (.int p2), .val (.int p3), .val (.int p4), .val (.int (1 : Int32)), .val (.int (1 : Int32)), .val (.int (0 : Int32)), .val (.ref bb_102), .val (.ref bb_103), .val .null, .val (.ref b105), .val (.int (1 : Int32)), .unset, .unset, .unset, .unset] [(.ref bb_109)])) rfl (by rw [hml]; rfl) (argsL := [(.ref bb_109)]) (rest := []) (lenOf pd_5 rfl) rfl (by show 2 * 0 + _ ≤ _; exact Nat.le_of_eq rfl) (hb hby at_128) (fun _ _ => ⟨rfl, rfl, (by decide : 4 + 1 ≤ _), (by decide : 6 + 3 ≤ _)⟩)
        dsimp only [Pt.U, Pt.locs, Pt.cells, Pt.slots] at X111 l111 y111 z111 st111 hQ111
        subst l111 y111 z111
        obtain ⟨bb_111, rfl, N111q, Kq111, p111_0, p111_1, p111_2, p111_3⟩ := hQ111
        have N111 := Fr.app N109 N111q
        have Z111 : n0 ≤ T111.heap.size := Nat.le_trans Z109 Kq111.1
        have K111 : Keep h0 T111.heap [] := K109.trans Kq111 all0
        have sz_bb_111 : h0.size ≤ bb_111 := Nat.le_trans K109.1 p111_1
        have ne111_b105_bb_111 : b105 ≠ bb_111 := Nat.ne_of_lt (Nat.lt_of_lt_of_le f112.lt p111_1)
        obtain ⟨cq113, kq113, q113a, q113b, q113c⟩ := isOf hZ rfl p111_2
        obtain ⟨_, _, ⟨T113, L113, k113, n113⟩, -, X113, ⟨Lc113, hQ113, l113, y113, z113⟩, st113⟩ := X111.virtualBack hx (y := (⟨"com/example/mergewright/mergewright/merge/Match", "isInsertedByBoth", "()Z"⟩ : MethodName)) (z := (⟨"com/example/mergewright/mergewright/merge/Match", "isInsertedByBoth", "()Z"⟩ : MethodName)) hown (mvT hZ (kw22 hw)) (mvT hZ (kw23 hw)) (notFace_of_selects (args := #[]) (mvT hZ (kw25 hw))) (mvT hZ (kw25 hw)) (mvT hZ (kw24 hw)) (by decide) (backOf (W := 0) (rm4_r l Z a0 hw [] bb_111 bb_109 T111.heap n0 Z111 p111_3) hZ (kw26 hw) (kw9 hw) (by decide) (by decide)) q113a q113c (g := (mkF m 135 #[.val (.int p1), .val (.int p2), .val (.int p3), .val (.int p4), .val (.int (1 : Int32)), .val (.int (1 : Int32)), .val (.int (0 : Int32)), .val (.ref bb_102), .val (.ref bb_103), .val .null, .val (.ref b105), .val (.int (1 : Int32)), .val (.ref bb_111), .unset, .unset, .unset] [(.ref bb_111)])) rfl (by rw [hml]; rfl) (Steps.refl _) (argsL := []) (rest := []) (lenOf pd_3 rfl) rfl (by show 2 * 0 + _ ≤ _; exact Nat.le_of_eq rfl) (hb hby at_135) (fun _ _ => ⟨rfl, rfl, (by decide : 5 + 0 ≤ _), (by decide : 9 + 0 ≤ _)⟩)
        dsimp only [Pt.U, Pt.locs, Pt.cells, Pt.slots] at X113 l113 y113 z113 st113 hQ113
        subst l113 y113 z113
        obtain ⟨rfl, N113q, e113⟩ := hQ113
        have N113 := Fr.app N111 N113q
        have f115 : Exa Z T111.heap b105 "com/example/mergewright/mergewright/merge/Match" := (f112.keep Kq111)
        obtain ⟨_, _, ⟨T114, L114, k114, n114⟩, -, X114, ⟨Lc114, hQ114, l114, y114, z114⟩, st114⟩ := Jvm.LawKit.callS X113 hx (y := (⟨"com/example/mergewright/mergewright/merge/Match", "insertedByBoth", "(Ljava/lang/Object;Ljava/lang/Object;)Lcom/example/mergewright/mergewright/merge/Match;"⟩ : MethodName)) hown (mvT hZ (kw32 hw)) (mvT hZ (kw33 hw)) (mvT hZ (kw9 hw)) (mvT hZ (kw34 hw)) (by decide) (backOf (W := 0) (rm6_rn l Z a0 hw [] bb_102 T111.heap n0 Z111 ) hZ (kw34 hw) (kw9 hw) (by decide) (by decide)) (g := (mkF m 152 #[.val (.int p1), .val (.int p2), .val (.int p3), .val (.int p4), .val (.int (1 : Int32)), .val (.int (1 : Int32)), .val (.int (0 : Int32)), .val (.ref bb_102), .val (.ref bb_103), .val .null, .val (.ref b105), .val (.int (1 : Int32)), .val (.ref bb_111), .val (.int (1 : Int32)), .unset, .unset] [.null, (.ref bb_102)])) rfl (by rw [hml]; rfl) (argsL := [(.ref bb_102), .null]) (rest := []) (lenOf pd_6 rfl) rfl (by show 2 * 0 + _ ≤ _; exact Nat.le_of_eq rfl) (hb hby at_152) (fun _ _ => ⟨rfl, e113, (by decide : 5 + 1 ≤ _), (by decide : 9 + 3 ≤ _)⟩)
        dsimp only [Pt.U, Pt.locs, Pt.cells, Pt.slots] at X114 l114 y114 z114 st114 hQ114
        subst l114 y114 z114
        obtain ⟨bb_114, rfl, N114q, Kq114, p114_0, p114_1, p114_2, p114_3⟩ := hQ114
        have N114 := Fr.app N113 N114q
        have Z114 : n0 ≤ T114.heap.size := Nat.le_trans Z111 Kq114.1
        have K114 : Keep h0 T114.heap [] := K111.trans Kq114 all0
        have sz_bb_114 : h0.size ≤ bb_114 := Nat.le_trans K111.1 p114_1
        have ne114_b105_bb_114 : b105 ≠ bb_114 := Nat.ne_of_lt (Nat.lt_of_lt_of_le f115.lt p114_1)
        have ne114_bb_111_bb_114 : bb_111 ≠ bb_114 := Nat.ne_of_lt (Nat.lt_of_lt_of_le p111_2.lt p114_1)
        obtain ⟨cq116, kq116, q116a, q116b, q116c⟩ := isOf hZ rfl p114_2
        obtain ⟨_, _, ⟨T116, L116, k116, n116⟩, -, X116, ⟨Lc116, hQ116, l116, y116, z116⟩, st116⟩ := X114.virtualBack hx (y := (⟨"com/example/mergewright/mergewright/merge/Match", "isInsertedByBoth", "()Z"⟩ : MethodName)) (z := (⟨"com/example/mergewright/mergewright/merge/Match", "isInsertedByBoth", "()Z"⟩ : MethodName)) hown (mvT hZ (kw22 hw)) (mvT hZ (kw23 hw)) (notFace_of_selects (args := #[]) (mvT hZ (kw25 hw))) (mvT hZ (kw25 hw)) (mvT hZ (kw24 hw)) (by decide) (backOf (W := 0) (rm4_n l Z a0 hw [] bb_114 T114.heap n0 Z114 p114_3) hZ (kw26 hw) (kw9 hw) (by decide) (by decide)) q116a q116c (g := (mkF m 159 #[.val (.int p1), .val (.int p2), .val (.int p3), .val (.int p4), .val (.int (1 : Int32)), .val (.int (1 : Int32)), .val (.int (0 : Int32)), .val (.ref bb_102), .val (.ref bb_103), .val .null, .val (.ref b105), .val (.int (1 : Int32)), .val (.ref bb_111), .val (.int (1 : Int32)), .val (.ref bb_114), .unset] [(.ref bb_114)])) rfl (by rw [hml]; rfl) (Steps.refl _) (argsL := []) (rest := []) (lenOf pd_3 rfl) rfl (by show 2 * 0 + _ ≤ _; exact Nat.le_of_eq rfl) (hb hby at_159) (fun _ _ => ⟨rfl, rfl, (by decide : 6 + 0 ≤ _), (by decide : 12 + 0 ≤ _)⟩)
        dsimp only [Pt.U, Pt.locs, Pt.cells, Pt.slots] at X116 l116 y116 z116 st116 hQ116
        subst l116 y116 z116
        obtain ⟨rfl, N116q, e116⟩ := hQ116
        have N116 := Fr.app N114 N116q
        obtain ⟨fs, hr, hrun, hended, hW, hsame⟩ := X116.leave (v := some (.int (1 : Int32))) (fun h => by rw [Bd.returns] at h; cases h)
        refine ⟨_, _, pre100 _ ?_, hrun, hended, _, _, rfl, ?_, ⟨_, rfl⟩, hW, hsame.mono (by decide) (by decide)⟩
        · skip
          refine XS.ifYes X0.here hx rfl (pc0 := 29) (pc' := 36) rfl (hb hby at_29) rfl ((if0 _ _).trans (teq hc101).1) (by decide) (by decide) ?_
          show Steps p.tables e below (s₁.setTop (mkF m 36 #[.val (.int p1), .val (.int p2), .val (.int p3), .val (.int p4), .val (.int (1 : Int32)), .val (.int (1 : Int32)), .unset, .unset, .unset, .unset, .unset, .unset, .unset, .unset, .unset, .unset] [])) _
          refine XS.iconst X0.here hx rfl (hb hby at_36) ?_
          show Steps p.tables e below (s₁.setTop (mkF m 37 #[.val (.int p1), .val (.int p2), .val (.int p3), .val (.int p4), .val (.int (1 : Int32)), .val (.int (1 : Int32)), .unset, .unset, .unset, .unset, .unset, .unset, .unset, .unset, .unset, .unset] [(.int (0 : Int32))])) _
          refine XS.istore X0.here hx rfl (hb hby at_37) rfl (l' := #[.val (.int p1), .val (.int p2), .val (.int p3), .val (.int p4), .val (.int (1 : Int32)), .val (.int (1 : Int32)), .val (.int (0 : Int32)), .unset, .unset, .unset, .unset, .unset, .unset, .unset, .unset, .unset]) rfl ?_
          show Steps p.tables e below (s₁.setTop (mkF m 39 #[.val (.int p1), .val (.int p2), .val (.int p3), .val (.int p4), .val (.int (1 : Int32)), .val (.int (1 : Int32)), .val (.int (0 : Int32)), .unset, .unset, .unset, .unset, .unset, .unset, .unset, .unset, .unset] [])) _
          refine XS.iload X0.here hx rfl (hb hby at_39) rfl ?_
          show Steps p.tables e below (s₁.setTop (mkF m 41 #[.val (.int p1), .val (.int p2), .val (.int p3), .val (.int p4), .val (.int (1 : Int32)), .val (.int (1 : Int32)), .val (.int (0 : Int32)), .unset, .unset, .unset, .unset, .unset, .unset, .unset, .unset, .unset] [(.int (1 : Int32))])) _
          refine XS.ifNo X0.here hx rfl (hb hby at_41) rfl ((if0 _ _).trans (feq (by decide)).1) ?_
          show Steps p.tables e below (s₁.setTop (mkF m 44 #[.val (.int p1), .val (.int p2), .val (.int p3), .val (.int p4), .val (.int (1 : Int32)), .val (.int (1 : Int32)), .val (.int (0 : Int32)), .unset, .unset, .unset, .unset, .unset, .unset, .unset, .unset, .unset] [])) _
          refine XS.iloadN X0.here hx rfl (hb hby at_44) rfl ?_
          show Steps p.tables e below (s₁.setTop (mkF m 45 #[.val (.int p1), .val (.int p2), .val (.int p3), .val (.int p4), .val (.int (1 : Int32)), .val (.int (1 : Int32)), .val (.int (0 : Int32)), .unset, .unset, .unset, .unset, .unset, .unset, .unset, .unset, .unset] [(.int p1)])) _
          refine st102 _ ?_
          show Steps p.tables e below (T102.setTop (mkF m 48 #[.val (.int p1), .val (.int p2), .val (.int p3), .val (.int p4), .val (.int (1 : Int32)), .val (.int (1 : Int32)), .val (.int (0 : Int32)), .unset, .unset, .unset, .unset, .unset, .unset, .unset, .unset, .unset] [(.ref bb_102)])) _
          refine XS.goto X102.here hx rfl (pc0 := 48) (pc' := 52) rfl (hb hby at_48) (by decide) (by decide) ?_
          show Steps p.tables e below (T102.setTop (mkF m 52 #[.val (.int p1), .val (.int p2), .val (.int p3), .val (.int p4), .val (.int (1 : Int32)), .val (.int (1 : Int32)), .val (.int (0 : Int32)), .unset, .unset, .unset, .unset, .unset, .unset, .unset, .unset, .unset] [(.ref bb_102)])) _
          refine XS.astore X102.here hx rfl (hb hby at_52) rfl rfl (l' := #[.val (.int p1), .val (.int p2), .val (.int p3), .val (.int p4), .val (.int (1 : Int32)), .val (.int (1 : Int32)), .val (.int (0 : Int32)), .val (.ref bb_102), .unset, .unset, .unset, .unset, .unset, .unset, .unset, .unset]) rfl ?_
          show Steps p.tables e below (T102.setTop (mkF m 54 #[.val (.int p1), .val (.int p2), .val (.int p3), .val (.int p4), .val (.int (1 : Int32)), .val (.int (1 : Int32)), .val (.int (0 : Int32)), .val (.ref bb_102), .unset, .unset, .unset, .unset, .unset, .unset, .unset, .unset] [])) _
          refine XS.iload X102.here hx rfl (hb hby at_54) rfl ?_
          show Steps p.tables e below (T102.setTop (mkF m 56 #[.val (.int p1), .val (.int p2), .val (.int p3), .val (.int p4), .val (.int (1 : Int32)), .val (.int (1 : Int32)), .val (.int (0 : Int32)), .val (.ref bb_102), .unset, .unset, .unset, .unset, .unset, .unset, .unset, .unset] [(.int (1 : Int32))])) _
          refine XS.ifNo X102.here hx rfl (hb hby at_56) rfl ((if0 _ _).trans (feq (by decide)).1) ?_
          show Steps p.tables e below (T102.setTop (mkF m 59 #[.val (.int p1), .val (.int p2), .val (.int p3), .val (.int p4), .val (.int (1 : Int32)), .val (.int (1 : Int32)), .val (.int (0 : Int32)), .val (.ref bb_102), .unset, .unset, .unset, .unset, .unset, .unset, .unset, .unset] [])) _
          refine XS.iloadN X102.here hx rfl (hb hby at_59) rfl ?_
          show Steps p.tables e below (T102.setTop (mkF m 60 #[.val (.int p1), .val (.int p2), .val (.int p3), .val (.int p4), .val (.int (1 : Int32)), .val (.int (1 : Int32)), .val (.int (0 : Int32)), .val (.ref bb_102), .unset, .unset, .unset, .unset, .unset, .unset, .unset, .unset] [(.int p2)])) _
          refine st103 _ ?_
          show Steps p.tables e below (T103.setTop (mkF m 63 #[.val (.int p1), .val (.int p2), .val (.int p3), .val (.int p4), .val (.int (1 : Int32)), .val (.int (1 : Int32)), .val (.int (0 : Int32)), .val (.ref bb_102), .unset, .unset, .unset, .unset, .unset, .unset, .unset, .unset] [(.ref bb_103)])) _
          refine XS.goto X103.here hx rfl (pc0 := 63) (pc' := 67) rfl (hb hby at_63) (by decide) (by decide) ?_
          show Steps p.tables e below (T103.setTop (mkF m 67 #[.val (.int p1), .val (.int p2), .val (.int p3), .val (.int p4), .val (.int (1 : Int32)), .val (.int (1 : Int32)), .val (.int (0 : Int32)), .val (.ref bb_102), .unset, .unset, .unset, .unset, .unset, .unset, .unset, .unset] [(.ref bb_103)])) _
          refine XS.astore X103.here hx rfl (hb hby at_67) rfl rfl (l' := #[.val (.int p1), .val (.int p2), .val (.int p3), .val (.int p4), .val (.int (1 : Int32)), .val (.int (1 : Int32)), .val (.int (0 : Int32)), .val (.ref bb_102), .val (.ref bb_103), .unset, .unset, .unset, .unset, .unset, .unset, .unset]) rfl ?_
          show Steps p.tables e below (T103.setTop (mkF m 69 #[.val (.int p1), .val (.int p2), .val (.int p3), .val (.int p4), .val (.int (1 : Int32)), .val (.int (1 : Int32)), .val (.int (0 : Int32)), .val (.ref bb_102), .val (.ref bb_103), .unset, .unset, .unset, .unset, .unset, .unset, .unset] [])) _
          refine XS.iload X103.here hx rfl (hb hby at_69) rfl ?_
          show Steps p.tables e below (T103.setTop (mkF m 71 #[.val (.int p1), .val (.int p2), .val (.int p3), .val (.int p4), .val (.int (1 : Int32)), .val (.int (1 : Int32)), .val (.int (0 : Int32)), .val (.ref bb_102), .val (.ref bb_103), .unset, .unset, .unset, .unset, .unset, .unset, .unset] [(.int (0 : Int32))])) _
          refine XS.ifYes X103.here hx rfl (pc0 := 71) (pc' := 81) rfl (hb hby at_71) rfl ((if0 _ _).trans (teq rfl).1) (by decide) (by decide) ?_
          show Steps p.tables e below (T103.setTop (mkF m 81 #[.val (.int p1), .val (.int p2), .val (.int p3), .val (.int p4), .val (.int (1 : Int32)), .val (.int (1 : Int32)), .val (.int (0 : Int32)), .val (.ref bb_102), .val (.ref bb_103), .unset, .unset, .unset, .unset, .unset, .unset, .unset] [])) _
          refine XS.aconstNull X103.here hx rfl (hb hby at_81) ?_
          show Steps p.tables e below (T103.setTop (mkF m 82 #[.val (.int p1), .val (.int p2), .val (.int p3), .val (.int p4), .val (.int (1 : Int32)), .val (.int (1 : Int32)), .val (.int (0 : Int32)), .val (.ref bb_102), .val (.ref bb_103), .unset, .unset, .unset, .unset, .unset, .unset, .unset] [.null])) _
          refine XS.astore X103.here hx rfl (hb hby at_82) rfl rfl (l' := #[.val (.int p1), .val (.int p2), .val (.int p3), .val (.int p4), .val (.int (1 : Int32)), .val (.int (1 : Int32)), .val (.int (0 : Int32)), .val (.ref bb_102), .val (.ref bb_103), .val .null, .unset, .unset, .unset, .unset, .unset, .unset]) rfl ?_
          show Steps p.tables e below (T103.setTop (mkF m 84 #[.val (.int p1), .val (.int p2), .val (.int p3), .val (.int p4), .val (.int (1 : Int32)), .val (.int (1 : Int32)), .val (.int (0 : Int32)), .val (.ref bb_102), .val (.ref bb_103), .val .null, .unset, .unset, .unset, .unset, .unset, .unset] [])) _
          refine st105 _ ?_
          show Steps p.tables e below (T105.setTop (mkF m 87 #[.val (.int p1), .val (.int p2), .val (.int p3), .val (.int p4), .val (.int (1 : Int32)), .val (.int (1 : Int32)), .val (.int (0 : Int32)), .val (.ref bb_102), .val (.ref bb_103), .val .null, .unset, .unset, .unset, .unset, .unset, .unset] [(.ref b105)])) _
          refine XS.dup X105.here hx rfl (hb hby at_87) rfl rfl ?_
          show Steps p.tables e below (T105.setTop (mkF m 88 #[.val (.int p1), .val (.int p2), .val (.int p3), .val (.int p4), .val (.int (1 : Int32)), .val (.int (1 : Int32)), .val (.int (0 : Int32)), .val (.ref bb_102), .val (.ref bb_103), .val .null, .unset, .unset, .unset, .unset, .unset, .unset] [(.ref b105), (.ref b105)])) _
          refine XS.aload X105.here hx rfl (hb hby at_88) rfl rfl ?_
          show Steps p.tables e below (T105.setTop (mkF m 90 #[.val (.int p1), .val (.int p2), .val (.int p3), .val (.int p4), .val (.int (1 : Int32)), .val (.int (1 : Int32)), .val (.int (0 : Int32)), .val (.ref bb_102), .val (.ref bb_103), .val .null, .unset, .unset, .unset, .unset, .unset, .unset] [(.ref bb_102), (.ref b105), (.ref b105)])) _
          refine XS.aload X105.here hx rfl (hb hby at_90) rfl rfl ?_
          show Steps p.tables e below (T105.setTop (mkF m 92 #[.val (.int p1), .val (.int p2), .val (.int p3), .val (.int p4), .val (.int (1 : Int32)), .val (.int (1 : Int32)), .val (.int (0 : Int32)), .val (.ref bb_102), .val (.ref bb_103), .val .null, .unset, .unset, .unset, .unset, .unset, .unset] [(.ref bb_103), (.ref bb_102), (.ref b105), (.ref b105)])) _
          refine XS.aload X105.here hx rfl (hb hby at_92) rfl rfl ?_
          show Steps p.tables e below (T105.setTop (mkF m 94 #[.val (.int p1), .val (.int p2), .val (.int p3), .val (.int p4), .val (.int (1 : Int32)), .val (.int (1 : Int32)), .val (.int (0 : Int32)), .val (.ref bb_102), .val (.ref bb_103), .val .null, .unset, .unset, .unset, .unset, .unset, .unset] [.null, (.ref bb_103), (.ref bb_102), (.ref b105), (.ref b105)])) _
          refine st106.trans ?_
          show Steps p.tables e below (T106.setTop (mkF m 97 #[.val (.int p1), .val (.int p2), .val (.int p3), .val (.int p4), .val (.int (1 : Int32)), .val (.int (1 : Int32)), .val (.int (0 : Int32)), .val (.ref bb_102), .val (.ref bb_103), .val .null, .unset, .unset, .unset, .unset, .unset, .unset] [(.ref b105)])) _
          refine XS.astore X106.here hx rfl (hb hby at_97) rfl rfl (l' := #[.val (.int p1), .val (.int p2), .val (.int p3), .val (.int p4), .val (.int (1 : Int32)), .val (.int (1 : Int32)), .val (.int (0 : Int32)), .val (.ref bb_102), .val (.ref bb_103), .val .null, .val (.ref b105), .unset, .unset, .unset, .unset, .unset]) rfl ?_
          show Steps p.tables e below (T106.setTop (mkF m 99 #[.val (.int p1), .val (.int p2), .val (.int p3), .val (.int p4), .val (.int (1 : Int32)), .val (.int (1 : Int32)), .val (.int (0 : Int32)), .val (.ref bb_102), .val (.ref bb_103), .val .null, .val (.ref b105), .unset, .unset, .unset, .unset, .unset] [])) _
          refine XS.aload X106.here hx rfl (hb hby at_99) rfl rfl ?_
          show Steps p.tables e below (T106.setTop (mkF m 101 #[.val (.int p1), .val (.int p2), .val (.int p3), .val (.int p4), .val (.int (1 : Int32)), .val (.int (1 : Int32)), .val (.int (0 : Int32)), .val (.ref bb_102), .val (.ref bb_103), .val .null, .val (.ref b105), .unset, .unset, .unset, .unset, .unset] [(.ref b105)])) _
          refine st107.trans ?_
          show Steps p.tables e below (T107.setTop (mkF m 104 #[.val (.int p1), .val (.int p2), .val (.int p3), .val (.int p4), .val (.int (1 : Int32)), .val (.int (1 : Int32)), .val (.int (0 : Int32)), .val (.ref bb_102), .val (.ref bb_103), .val .null, .val (.ref b105), .unset, .unset, .unset, .unset, .unset] [(.int (0 : Int32))])) _
          refine XS.iload X107.here hx rfl (hb hby at_104) rfl ?_
          show Steps p.tables e below (T107.setTop (mkF m 106 #[.val (.int p1), .val (.int p2), .val (.int p3), .val (.int p4), .val (.int (1 : Int32)), .val (.int (1 : Int32)), .val (.int (0 : Int32)), .val (.ref bb_102), .val (.ref bb_103), .val .null, .val (.ref b105), .unset, .unset, .unset, .unset, .unset] [(.int (1 : Int32)), (.int (0 : Int32))])) _
          refine XS.ifYes X107.here hx rfl (pc0 := 106) (pc' := 113) rfl (hb hby at_106) rfl ((if0 _ _).trans (feq (by decide)).2) (by decide) (by decide) ?_
          show Steps p.tables e below (T107.setTop (mkF m 113 #[.val (.int p1), .val (.int p2), .val (.int p3), .val (.int p4), .val (.int (1 : Int32)), .val (.int (1 : Int32)), .val (.int (0 : Int32)), .val (.ref bb_102), .val (.ref bb_103), .val .null, .val (.ref b105), .unset, .unset, .unset, .unset, .unset] [(.int (0 : Int32))])) _
          refine XS.iconst X107.here hx rfl (hb hby at_113) ?_
          show Steps p.tables e below (T107.setTop (mkF m 114 #[.val (.int p1), .val (.int p2), .val (.int p3), .val (.int p4), .val (.int (1 : Int32)), .val (.int (1 : Int32)), .val (.int (0 : Int32)), .val (.ref bb_102), .val (.ref bb_103), .val .null, .val (.ref b105), .unset, .unset, .unset, .unset, .unset] [(.int (0 : Int32)), (.int (0 : Int32))])) _
          refine XS.icmpNo X107.here hx rfl (hb hby at_114) rfl (teq rfl).2 ?_
          show Steps p.tables e below (T107.setTop (mkF m 117 #[.val (.int p1), .val (.int p2), .val (.int p3), .val (.int p4), .val (.int (1 : Int32)), .val (.int (1 : Int32)), .val (.int (0 : Int32)), .val (.ref bb_102), .val (.ref bb_103), .val .null, .val (.ref b105), .unset, .unset, .unset, .unset, .unset] [])) _
          refine XS.iconst X107.here hx rfl (hb hby at_117) ?_
          show Steps p.tables e below (T107.setTop (mkF m 118 #[.val (.int p1), .val (.int p2), .val (.int p3), .val (.int p4), .val (.int (1 : Int32)), .val (.int (1 : Int32)), .val (.int (0 : Int32)), .val (.ref bb_102), .val (.ref bb_103), .val .null, .val (.ref b105), .unset, .unset, .unset, .unset, .unset] [(.int (1 : Int32))])) _
          refine XS.goto X107.here hx rfl (pc0 := 118) (pc' := 122) rfl (hb hby at_118) (by decide) (by decide) ?_
          show Steps p.tables e below (T107.setTop (mkF m 122 #[.val (.int p1), .val (.int p2), .val (.int p3), .val (.int p4), .val (.int (1 : Int32)), .val (.int (1 : Int32)), .val (.int (0 : Int32)), .val (.ref bb_102), .val (.ref bb_103), .val .null, .val (.ref b105), .unset, .unset, .unset, .unset, .unset] [(.int (1 : Int32))])) _
          refine XS.istore X107.here hx rfl (hb hby at_122) rfl (l' := #[.val (.int p1), .val (.int p2), .val (.int p3), .val (.int p4), .val (.int (1 : Int32)), .val (.int (1 : Int32)), .val (.int (0 : Int32)), .val (.ref bb_102), .val (.ref bb_103), .val .null, .val (.ref b105), .val (.int (1 : Int32)), .unset, .unset, .unset, .unset]) rfl ?_
          show Steps p.tables e below (T107.setTop (mkF m 124 #[.val (.int p1), .val (.int p2), .val (.int p3), .val (.int p4), .val (.int (1 : Int32)), .val (.int (1 : Int32)), .val (.int (0 : Int32)), .val (.ref bb_102), .val (.ref bb_103), .val .null, .val (.ref b105), .val (.int (1 : Int32)), .unset, .unset, .unset, .unset] [])) _
          refine XS.iloadN X107.here hx rfl (hb hby at_124) rfl ?_
          show Steps p.tables e below (T107.setTop (mkF m 125 #[.val (.int p1), .val (.int p2), .val (.int p3), .val (.int p4), .val (.int (1 : Int32)), .val (.int (1 : Int32)), .val (.int (0 : Int32)), .val (.ref bb_102), .val (.ref bb_103), .val .null, .val (.ref b105), .val (.int (1 : Int32)), .unset, .unset, .unset, .unset] [(.int p1)])) _
          refine st109 _ ?_
          show Steps p.tables e below (T109.setTop (mkF m 128 #[.val (.int p1), .val (.int p2), .val (.int p3), .val (.int p4), .val (.int (1 : Int32)), .val (.int (1 : Int32)), .val (.int (0 : Int32)), .val (.ref bb_102), .val (.ref bb_103), .val .null, .val (.ref b105), .val (.int (1 : Int32)), .unset, .unset, .unset, .unset] [(.ref bb_109)])) _
          refine st111 _ ?_
          show Steps p.tables e below (T111.setTop (mkF m 131 #[.val (.int p1), .val (.int p2), .val (.int p3), .val (.int p4), .val (.int (1 : Int32)), .val (.int (1 : Int32)), .val (.int (0 : Int32)), .val (.ref bb_102), .val (.ref bb_103), .val .null, .val (.ref b105), .val (.int (1 : Int32)), .unset, .unset, .unset, .unset] [(.ref bb_111)])) _
          refine XS.astore X111.here hx rfl (hb hby at_131) rfl rfl (l' := #[.val (.int p1), .val (.int p2), .val (.int p3), .val (.int p4), .val (.int (1 : Int32)), .val (.int (1 : Int32)), .val (.int (0 : Int32)), .val (.ref bb_102), .val (.ref bb_103), .val .null, .val (.ref b105), .val (.int (1 : Int32)), .val (.ref bb_111), .unset, .unset, .unset]) rfl ?_
          show Steps p.tables e below (T111.setTop (mkF m 133 #[.val (.int p1), .val (.int p2), .val (.int p3), .val (.int p4), .val (.int (1 : Int32)), .val (.int (1 : Int32)), .val (.int (0 : Int32)), .val (.ref bb_102), .val (.ref bb_103), .val .null, .val (.ref b105), .val (.int (1 : Int32)), .val (.ref bb_111), .unset, .unset, .unset] [])) _
          refine XS.aload X111.here hx rfl (hb hby at_133) rfl rfl ?_
          show Steps p.tables e below (T111.setTop (mkF m 135 #[.val (.int p1), .val (.int p2), .val (.int p3), .val (.int p4), .val (.int (1 : Int32)), .val (.int (1 : Int32)), .val (.int (0 : Int32)), .val (.ref bb_102), .val (.ref bb_103), .val .null, .val (.ref b105), .val (.int (1 : Int32)), .val (.ref bb_111), .unset, .unset, .unset] [(.ref bb_111)])) _
          refine st113.trans ?_
          show Steps p.tables e below (T113.setTop (mkF m 138 #[.val (.int p1), .val (.int p2), .val (.int p3), .val (.int p4), .val (.int (1 : Int32)), .val (.int (1 : Int32)), .val (.int (0 : Int32)), .val (.ref bb_102), .val (.ref bb_103), .val .null, .val (.ref b105), .val (.int (1 : Int32)), .val (.ref bb_111), .unset, .unset, .unset] [(.int (0 : Int32))])) _
          refine XS.ifNo X113.here hx rfl (hb hby at_138) rfl ((if0 _ _).trans (teq rfl).2) ?_
          show Steps p.tables e below (T113.setTop (mkF m 141 #[.val (.int p1), .val (.int p2), .val (.int p3), .val (.int p4), .val (.int (1 : Int32)), .val (.int (1 : Int32)), .val (.int (0 : Int32)), .val (.ref bb_102), .val (.ref bb_103), .val .null, .val (.ref b105), .val (.int (1 : Int32)), .val (.ref bb_111), .unset, .unset, .unset] [])) _
          refine XS.iconst X113.here hx rfl (hb hby at_141) ?_
          show Steps p.tables e below (T113.setTop (mkF m 142 #[.val (.int p1), .val (.int p2), .val (.int p3), .val (.int p4), .val (.int (1 : Int32)), .val (.int (1 : Int32)), .val (.int (0 : Int32)), .val (.ref bb_102), .val (.ref bb_103), .val .null, .val (.ref b105), .val (.int (1 : Int32)), .val (.ref bb_111), .unset, .unset, .unset] [(.int (1 : Int32))])) _
          refine XS.goto X113.here hx rfl (pc0 := 142) (pc' := 146) rfl (hb hby at_142) (by decide) (by decide) ?_
          show Steps p.tables e below (T113.setTop (mkF m 146 #[.val (.int p1), .val (.int p2), .val (.int p3), .val (.int p4), .val (.int (1 : Int32)), .val (.int (1 : Int32)), .val (.int (0 : Int32)), .val (.ref bb_102), .val (.ref bb_103), .val .null, .val (.ref b105), .val (.int (1 : Int32)), .val (.ref bb_111), .unset, .unset, .unset] [(.int (1 : Int32))])) _
          refine XS.istore X113.here hx rfl (hb hby at_146) rfl (l' := #[.val (.int p1), .val (.int p2), .val (.int p3), .val (.int p4), .val (.int (1 : Int32)), .val (.int (1 : Int32)), .val (.int (0 : Int32)), .val (.ref bb_102), .val (.ref bb_103), .val .null, .val (.ref b105), .val (.int (1 : Int32)), .val (.ref bb_111), .val (.int (1 : Int32)), .unset, .unset]) rfl ?_
          show Steps p.tables e below (T113.setTop (mkF m 148 #[.val (.int p1), .val (.int p2), .val (.int p3), .val (.int p4), .val (.int (1 : Int32)), .val (.int (1 : Int32)), .val (.int (0 : Int32)), .val (.ref bb_102), .val (.ref bb_103), .val .null, .val (.ref b105), .val (.int (1 : Int32)), .val (.ref bb_111), .val (.int (1 : Int32)), .unset, .unset] [])) _
          refine XS.aload X113.here hx rfl (hb hby at_148) rfl rfl ?_
          show Steps p.tables e below (T113.setTop (mkF m 150 #[.val (.int p1), .val (.int p2), .val (.int p3), .val (.int p4), .val (.int (1 : Int32)), .val (.int (1 : Int32)), .val (.int (0 : Int32)), .val (.ref bb_102), .val (.ref bb_103), .val .null, .val (.ref b105), .val (.int (1 : Int32)), .val (.ref bb_111), .val (.int (1 : Int32)), .unset, .unset] [(.ref bb_102)])) _
          refine XS.aload X113.here hx rfl (hb hby at_150) rfl rfl ?_
          show Steps p.tables e below (T113.setTop (mkF m 152 #[.val (.int p1), .val (.int p2), .val (.int p3), .val (.int p4), .val (.int (1 : Int32)), .val (.int (1 : Int32)), .val (.int (0 : Int32)), .val (.ref bb_102), .val (.ref bb_103), .val .null, .val (.ref b105), .val (.int (1 : Int32)), .val (.ref bb_111), .val (.int (1 : Int32)), .unset, .unset] [.null, (.ref bb_102)])) _
          refine st114 _ ?_
          show Steps p.tables e below (T114.setTop (mkF m 155 #[.val (.int p1), .val (.int p2), .val (.int p3), .val (.int p4), .val (.int (1 : Int32)), .val (.int (1 : Int32)), .val (.int (0 : Int32)), .val (.ref bb_102), .val (.ref bb_103), .val .null, .val (.ref b105), .val (.int (1 : Int32)), .val (.ref bb_111), .val (.int (1 : Int32)), .unset, .unset] [(.ref bb_114)])) _
          refine XS.astore X114.here hx rfl (hb hby at_155) rfl rfl (l' := #[.val (.int p1), .val (.int p2), .val (.int p3), .val (.int p4), .val (.int (1 : Int32)), .val (.int (1 : Int32)), .val (.int (0 : Int32)), .val (.ref bb_102), .val (.ref bb_103), .val .null, .val (.ref b105), .val (.int (1 : Int32)), .val (.ref bb_111), .val (.int (1 : Int32)), .val (.ref bb_114), .unset]) rfl ?_
          show Steps p.tables e below (T114.setTop (mkF m 157 #[.val (.int p1), .val (.int p2), .val (.int p3), .val (.int p4), .val (.int (1 : Int32)), .val (.int (1 : Int32)), .val (.int (0 : Int32)), .val (.ref bb_102), .val (.ref bb_103), .val .null, .val (.ref b105), .val (.int (1 : Int32)), .val (.ref bb_111), .val (.int (1 : Int32)), .val (.ref bb_114), .unset] [])) _
          refine XS.aload X114.here hx rfl (hb hby at_157) rfl rfl ?_
          show Steps p.tables e below (T114.setTop (mkF m 159 #[.val (.int p1), .val (.int p2), .val (.int p3), .val (.int p4), .val (.int (1 : Int32)), .val (.int (1 : Int32)), .val (.int (0 : Int32)), .val (.ref bb_102), .val (.ref bb_103), .val .null, .val (.ref b105), .val (.int (1 : Int32)), .val (.ref bb_111), .val (.int (1 : Int32)), .val (.ref bb_114), .unset] [(.ref bb_114)])) _
          refine st116.trans ?_
          show Steps p.tables e below (T116.setTop (mkF m 162 #[.val (.int p1), .val (.int p2), .val (.int p3), .val (.int p4), .val (.int (1 : Int32)), .val (.int (1 : Int32)), .val (.int (0 : Int32)), .val (.ref bb_102), .val (.ref bb_103), .val .null, .val (.ref b105), .val (.int (1 : Int32)), .val (.ref bb_111), .val (.int (1 : Int32)), .val (.ref bb_114), .unset] [(.int (1 : Int32))])) _
          refine XS.istore X116.here hx rfl (hb hby at_162) rfl (l' := #[.val (.int p1), .val (.int p2), .val (.int p3), .val (.int p4), .val (.int (1 : Int32)), .val (.int (1 : Int32)), .val (.int (0 : Int32)), .val (.ref bb_102), .val (.ref bb_103), .val .null, .val (.ref b105), .val (.int (1 : Int32)), .val (.ref bb_111), .val (.int (1 : Int32)), .val (.ref bb_114), .val (.int (1 : Int32))]) rfl ?_
          show Steps p.tables e below (T116.setTop (mkF m 164 #[.val (.int p1), .val (.int p2), .val (.int p3), .val (.int p4), .val (.int (1 : Int32)), .val (.int (1 : Int32)), .val (.int (0 : Int32)), .val (.ref bb_102), .val (.ref bb_103), .val .null, .val (.ref b105), .val (.int (1 : Int32)), .val (.ref bb_111), .val (.int (1 : Int32)), .val (.ref bb_114), .val (.int (1 : Int32))] [])) _
          refine XS.iload X116.here hx rfl (hb hby at_164) rfl ?_
          show Steps p.tables e below (T116.setTop (mkF m 166 #[.val (.int p1), .val (.int p2), .val (.int p3), .val (.int p4), .val (.int (1 : Int32)), .val (.int (1 : Int32)), .val (.int (0 : Int32)), .val (.ref bb_102), .val (.ref bb_103), .val .null, .val (.ref b105), .val (.int (1 : Int32)), .val (.ref bb_111), .val (.int (1 : Int32)), .val (.ref bb_114), .val (.int (1 : Int32))] [(.int (1 : Int32))])) _
          refine XS.ifNo X116.here hx rfl (hb hby at_166) rfl ((if0 _ _).trans (feq (by decide)).1) ?_
          show Steps p.tables e below (T116.setTop (mkF m 169 #[.val (.int p1), .val (.int p2), .val (.int p3), .val (.int p4), .val (.int (1 : Int32)), .val (.int (1 : Int32)), .val (.int (0 : Int32)), .val (.ref bb_102), .val (.ref bb_103), .val .null, .val (.ref b105), .val (.int (1 : Int32)), .val (.ref bb_111), .val (.int (1 : Int32)), .val (.ref bb_114), .val (.int (1 : Int32))] [])) _
          refine XS.iload X116.here hx rfl (hb hby at_169) rfl ?_
          show Steps p.tables e below (T116.setTop (mkF m 171 #[.val (.int p1), .val (.int p2), .val (.int p3), .val (.int p4), .val (.int (1 : Int32)), .val (.int (1 : Int32)), .val (.int (0 : Int32)), .val (.ref bb_102), .val (.ref bb_103), .val .null, .val (.ref b105), .val (.int (1 : Int32)), .val (.ref bb_111), .val (.int (1 : Int32)), .val (.ref bb_114), .val (.int (1 : Int32))] [(.int (1 : Int32))])) _
          refine XS.ifNo X116.here hx rfl (hb hby at_171) rfl ((if0 _ _).trans (feq (by decide)).1) ?_
          show Steps p.tables e below (T116.setTop (mkF m 174 #[.val (.int p1), .val (.int p2), .val (.int p3), .val (.int p4), .val (.int (1 : Int32)), .val (.int (1 : Int32)), .val (.int (0 : Int32)), .val (.ref bb_102), .val (.ref bb_103), .val .null, .val (.ref b105), .val (.int (1 : Int32)), .val (.ref bb_111), .val (.int (1 : Int32)), .val (.ref bb_114), .val (.int (1 : Int32))] [])) _
          refine XS.iload X116.here hx rfl (hb hby at_174) rfl ?_
          show Steps p.tables e below (T116.setTop (mkF m 176 #[.val (.int p1), .val (.int p2), .val (.int p3), .val (.int p4), .val (.int (1 : Int32)), .val (.int (1 : Int32)), .val (.int (0 : Int32)), .val (.ref bb_102), .val (.ref bb_103), .val .null, .val (.ref b105), .val (.int (1 : Int32)), .val (.ref bb_111), .val (.int (1 : Int32)), .val (.ref bb_114), .val (.int (1 : Int32))] [(.int (1 : Int32))])) _
          refine XS.ifNo X116.here hx rfl (hb hby at_176) rfl ((if0 _ _).trans (feq (by decide)).1) ?_
          show Steps p.tables e below (T116.setTop (mkF m 179 #[.val (.int p1), .val (.int p2), .val (.int p3), .val (.int p4), .val (.int (1 : Int32)), .val (.int (1 : Int32)), .val (.int (0 : Int32)), .val (.ref bb_102), .val (.ref bb_103), .val .null, .val (.ref b105), .val (.int (1 : Int32)), .val (.ref bb_111), .val (.int (1 : Int32)), .val (.ref bb_114), .val (.int (1 : Int32))] [])) _
          refine XS.iconst X116.here hx rfl (hb hby at_179) ?_
          show Steps p.tables e below (T116.setTop (mkF m 180 #[.val (.int p1), .val (.int p2), .val (.int p3), .val (.int p4), .val (.int (1 : Int32)), .val (.int (1 : Int32)), .val (.int (0 : Int32)), .val (.ref bb_102), .val (.ref bb_103), .val .null, .val (.ref b105), .val (.int (1 : Int32)), .val (.ref bb_111), .val (.int (1 : Int32)), .val (.ref bb_114), .val (.int (1 : Int32))] [(.int (1 : Int32))])) _
          refine XS.goto X116.here hx rfl (pc0 := 180) (pc' := 184) rfl (hb hby at_180) (by decide) (by decide) ?_
          show Steps p.tables e below (T116.setTop (mkF m 184 #[.val (.int p1), .val (.int p2), .val (.int p3), .val (.int p4), .val (.int (1 : Int32)), .val (.int (1 : Int32)), .val (.int (0 : Int32)), .val (.ref bb_102), .val (.ref bb_103), .val .null, .val (.ref b105), .val (.int (1 : Int32)), .val (.ref bb_111), .val (.int (1 : Int32)), .val (.ref bb_114), .val (.int (1 : Int32))] [(.int (1 : Int32))])) _
          exact retN X116 hx (t := .boolean) Bd.returns (by simp) (hb hby at_184) hr
        · show Q_rm0 Z p1 p2 p3 p4 w_cache h0 n0 _ T116.heap _
          rw [e116]
          exact ⟨rfl, N116, K114⟩
      · skip
        obtain ⟨_, _, ⟨T118, L118, k118, n118⟩, -, X118, ⟨Lc118, hQ118, l118, y118, z118⟩, st118⟩ := Jvm.LawKit.callS X0 hx (y := (⟨"java/lang/Integer", "valueOf", "(I)Ljava/lang/Integer;"⟩ : MethodName)) hown (mvT hZ (kw0 hw)) (mvT hZ (kw1 hw)) (mvT hZ (kw2 hw)) (mvT hZ (kw3 hw)) (by decide) (backOf (W := 0) (rm1 l Z a0 hw [] p1 w_cache h0 n0 Z0 P0 P1 P2 HC) hZ (kw3 hw) (kw2 hw) (by decide) (by decide)) (g := (mkF m 45 #[.val (.int p1), .val (.int p2), .val (.int p3), .val (.int p4), .val (.int (1 : Int32)), .val (.int (1 : Int32)), .val (.int (1 : Int32)), .unset, .unset, .unset, .unset, .unset, .unset, .unset, .unset, .unset] [(.int p1)])) rfl (by rw [hml]; rfl) (argsL := [(.int p1)]) (rest := []) (lenOf pd_4 rfl) rfl (by show 2 * 0 + _ ≤ _; exact Nat.le_of_eq rfl) (hb hby at_45) (fun _ _ => ⟨rfl, e0, (by decide : 0 + 1 ≤ _), (by decide : 0 + 1 ≤ _)⟩)
        dsimp only [Pt.U, Pt.locs, Pt.cells, Pt.slots] at X118 l118 y118 z118 st118 hQ118
        subst l118 y118 z118
        obtain ⟨bb_118, rfl, N118q, Kq118⟩ := hQ118
        have N118 := Fr.app N0 N118q
        have Z118 : n0 ≤ T118.heap.size := Nat.le_trans Z0 Kq118.1
        have K118 : Keep h0 T118.heap [] := KR.trans Kq118 all0
        have f120 : Old Z n0 T118.heap := (P0.keep Kq118 all0)
        obtain ⟨_, _, ⟨T119, L119, k119, n119⟩, -, X119, ⟨Lc119, hQ119, l119, y119, z119⟩, st119⟩ := Jvm.LawKit.callS X118 hx (y := (⟨"java/lang/Integer", "valueOf", "(I)Ljava/lang/Integer;"⟩ : MethodName)) hown (mvT hZ (kw0 hw)) (mvT hZ (kw1 hw)) (mvT hZ (kw2 hw)) (mvT hZ (kw3 hw)) (by decide) (backOf (W := 0) (rm1 l Z a0 hw [] p2 w_cache T118.heap n0 Z118 f120 P1 P2 HC) hZ (kw3 hw) (kw2 hw) (by decide) (by decide)) (g := (mkF m 60 #[.val (.int p1), .val (.int p2), .val (.int p3), .val (.int p4), .val (.int (1 : Int32)), .val (.int (1 : Int32)), .val (.int (1 : Int32)), .val (.ref bb_118), .unset, .unset, .unset, .unset, .unset, .unset, .unset, .unset] [(.int p2)])) rfl (by rw [hml]; rfl) (argsL := [(.int p2)]) (rest := []) (lenOf pd_4 rfl) rfl (by show 2 * 0 + _ ≤ _; exact Nat.le_of_eq rfl) (hb hby at_60) (fun _ _ => ⟨rfl, rfl, (by decide : 1 + 1 ≤ _), (by decide : 1 + 1 ≤ _)⟩)
        dsimp only [Pt.U, Pt.locs, Pt.cells, Pt.slots] at X119 l119 y119 z119 st119 hQ119
        subst l119 y119 z119
        obtain ⟨bb_119, rfl, N119q, Kq119⟩ := hQ119
        have N119 := Fr.app N118 N119q
        have Z119 : n0 ≤ T119.heap.size := Nat.le_trans Z118 Kq119.1
        have K119 : Keep h0 T119.heap [] := K118.trans Kq119 all0
        have f122 : Old Z n0 T119.heap := (f120.keep Kq119 all0)
        obtain ⟨_, _, ⟨T121, L121, k121, n121⟩, -, X121, ⟨Lc121, hQ121, l121, y121, z121⟩, st121⟩ := Jvm.LawKit.callS X119 hx (y := (⟨"java/lang/Integer", "valueOf", "(I)Ljava/lang/Integer;"⟩ : MethodName)) hown (mvT hZ (kw0 hw)) (mvT hZ (kw1 hw)) (mvT hZ (kw2 hw)) (mvT hZ (kw3 hw)) (by decide) (backOf (W := 0) (rm1 l Z a0 hw [] p3 w_cache T119.heap n0 Z119 f122 P1 P2 HC) hZ (kw3 hw) (kw2 hw) (by decide) (by decide)) (g := (mkF m 75 #[.val (.int p1), .val (.int p2), .val (.int p3), .val (.int p4), .val (.int (1 : Int32)), .val (.int (1 : Int32)), .val (.int (1 : Int32)), .val (.ref bb_118), .val (.ref bb_119), .unset, .unset, .unset, .unset, .unset, .unset, .unset] [(.int p3)])) rfl (by rw [hml]; rfl) (argsL := [(.int p3)]) (rest := []) (lenOf pd_4 rfl) rfl (by show 2 * 0 + _ ≤ _; exact Nat.le_of_eq rfl) (hb hby at_75) (fun _ _ => ⟨rfl, rfl, (by decide : 2 + 1 ≤ _), (by decide : 2 + 1 ≤ _)⟩)
        dsimp only [Pt.U, Pt.locs, Pt.cells, Pt.slots] at X121 l121 y121 z121 st121 hQ121
        subst l121 y121 z121
        obtain ⟨bb_121, rfl, N121q, Kq121⟩ := hQ121
        have N121 := Fr.app N119 N121q
        have Z121 : n0 ≤ T121.heap.size := Nat.le_trans Z119 Kq121.1
        have K121 : Keep h0 T121.heap [] := K119.trans Kq121 all0
        obtain ⟨T123, h123, X123, e123, E123, A123, D123, -, st123⟩ := newO X121 hx hZ hown (kw7 hw) (kw8 hw) (kw9 hw) rfl (g := (mkF m 84 #[.val (.int p1), .val (.int p2), .val (.int p3), .val (.int p4), .val (.int (1 : Int32)), .val (.int (1 : Int32)), .val (.int (1 : Int32)), .val (.ref bb_118), .val (.ref bb_119), .val (.ref bb_121), .unset, .unset, .unset, .unset, .unset, .unset] [])) rfl (hb hby at_84) (by decide) (by decide)
        obtain ⟨b123, g123⟩ : ∃ z, z = T121.heap.size := ⟨_, rfl⟩
        rw [← g123] at A123 D123 st123
        have g_b123 : n0 ≤ b123 := Nat.le_trans Z121 (Nat.le_of_eq g123.symm)
        have sz_b123 : h0.size ≤ b123 := Nat.le_trans K121.1 (Nat.le_of_eq g123.symm)
        have Z123 : n0 ≤ h123.size := Nat.le_trans Z121 E123.1
        have K123 : Keep h0 h123 [] := K121.ext E123
        have F123_current : Fld Z h123 b123 "com/example/mergewright/mergewright/merge/Match" "current" "Ljava/lang/Object;" .null := D123 (Or.inr (kw17 hw)) (ty := (.object "java/lang/Object")) (by decide)
        have F123_base : Fld Z h123 b123 "com/example/mergewright/mergewright/merge/Match" "base" "Ljava/lang/Object;" .null := D123 (Or.inr (kw19 hw)) (ty := (.object "java/lang/Object")) (by decide)
        have F123_other : Fld Z h123 b123 "com/example/mergewright/mergewright/merge/Match" "other" "Ljava/lang/Object;" .null := D123 (Or.inr (kw21 hw)) (ty := (.object "java/lang/Object")) (by decide)
        obtain ⟨_, _, ⟨T124, L124, k124, n124⟩, -, X124, ⟨Lc124, hQ124, l124, y124, z124⟩, st124⟩ := X123.specialBack hx (y := (⟨"com/example/mergewright/mergewright/merge/Match", "<init>", "(Ljava/lang/Object;Ljava/lang/Object;Ljava/lang/Object;)V"⟩ : MethodName)) rfl hown (mvT hZ (kw10 hw)) (mvT hZ (kw11 hw)) (mvT hZ (kw12 hw)) (by decide) (backOf (W := 1) (rm2_rrr l Z a0 hw [] b123 bb_118 bb_119 bb_121 h123 n0 Z123 A123 g_b123 F123_current F123_base F123_other) hZ (kw12 hw) (kw9 hw) (by decide) (by decide)) (g := (mkF m 94 #[.val (.int p1), .val (.int p2), .val (.int p3), .val (.int p4), .val (.int (1 : Int32)), .val (.int (1 : Int32)), .val (.int (1 : Int32)), .val (.ref bb_118), .val (.ref bb_119), .val (.ref bb_121), .unset, .unset, .unset, .unset, .unset, .unset] [(.ref bb_121), (.ref bb_119), (.ref bb_118), (.ref b123), (.ref b123)])) rfl (by rw [hml]; rfl) (Steps.refl _) (a := b123) (argsL := [(.ref bb_118), (.ref bb_119), (.ref bb_121)]) (rest := [(.ref b123)]) (lenOf pd_2 rfl) rfl (by show 2 * 0 + _ ≤ _; exact Nat.le_of_eq rfl) (hb hby at_94) (fun _ _ => ⟨rfl, e123, (by decide : 4 + 0 ≤ _), (by decide : 6 + 0 ≤ _)⟩)
        dsimp only [Pt.U, Pt.locs, Pt.cells, Pt.slots] at X124 l124 y124 z124 st124 hQ124
        subst l124 y124 z124
        obtain ⟨rfl, N124q, Kq124, p124_0⟩ := hQ124
        have N124 := Fr.app N121 N124q
        have Z124 : n0 ≤ T124.heap.size := Nat.le_trans Z123 Kq124.1
        have K124 : Keep h0 T124.heap [] := K123.trans Kq124 (allS (Or.inr sz_b123) all0)
        have f126 : Exa Z T124.heap b123 "com/example/mergewright/mergewright/merge/Match" := (A123.keep Kq124)
        obtain ⟨cq125, kq125, q125a, q125b, q125c⟩ := isOf hZ rfl f126
        obtain ⟨_, _, ⟨T125, L125, k125, n125⟩, -, X125, ⟨Lc125, hQ125, l125, y125, z125⟩, st125⟩ := X124.virtualBack hx (y := (⟨"com/example/mergewright/mergewright/merge/Match", "isInsertedByBoth", "()Z"⟩ : MethodName)) (z := (⟨"com/example/mergewright/mergewright/merge/Match", "isInsertedByBoth", "()Z"⟩ : MethodName)) hown (mvT hZ (kw22 hw)) (mvT hZ (kw23 hw)) (notFace_of_selects (args := #[]) (mvT hZ (kw25 hw))) (mvT hZ (kw25 hw)) (mvT hZ (kw24 hw)) (by decide) (backOf (W := 0) (rm4_r l Z a0 hw [] b123 bb_119 T124.heap n0 Z124 p124_0) hZ (kw26 hw) (kw9 hw) (by decide) (by decide)) q125a q125c (g := (mkF m 101 #[.val (.int p1), .val (.int p2), .val (.int p3), .val (.int p4), .val (.int (1 : Int32)), .val (.int (1 : Int32)), .val (.int (1 : Int32)), .val (.ref bb_118), .val (.ref bb_119), .val (.ref bb_121), .val (.ref b123), .unset, .unset, .unset, .unset, .unset] [(.ref b123)])) rfl (by rw [hml]; rfl) (Steps.refl _) (argsL := []) (rest := []) (lenOf pd_3 rfl) rfl (by show 2 * 0 + _ ≤ _; exact Nat.le_of_eq rfl) (hb hby at_101) (fun _ _ => ⟨rfl, rfl, (by decide : 4 + 0 ≤ _), (by decide : 6 + 0 ≤ _)⟩)
        dsimp only [Pt.U, Pt.locs, Pt.cells, Pt.slots] at X125 l125 y125 z125 st125 hQ125
        subst l125 y125 z125
        obtain ⟨rfl, N125q, e125⟩ := hQ125
        have N125 := Fr.app N124 N125q
        have f128 : Old Z n0 T124.heap := (((f122.keep Kq121 all0).ext E123).keep Kq124 (allS g_b123 all0))
        obtain ⟨_, _, ⟨T127, L127, k127, n127⟩, -, X127, ⟨Lc127, hQ127, l127, y127, z127⟩, st127⟩ := Jvm.LawKit.callS X125 hx (y := (⟨"java/lang/Integer", "valueOf", "(I)Ljava/lang/Integer;"⟩ : MethodName)) hown (mvT hZ (kw0 hw)) (mvT hZ (kw1 hw)) (mvT hZ (kw2 hw)) (mvT hZ (kw3 hw)) (by decide) (backOf (W := 0) (rm1 l Z a0 hw [] p1 w_cache T124.heap n0 Z124 f128 P1 P2 HC) hZ (kw3 hw) (kw2 hw) (by decide) (by decide)) (g := (mkF m 125 #[.val (.int p1), .val (.int p2), .val (.int p3), .val (.int p4), .val (.int (1 : Int32)), .val (.int (1 : Int32)), .val (.int (1 : Int32)), .val (.ref bb_118), .val (.ref bb_119), .val (.ref bb_121), .val (.ref b123), .val (.int (1 : Int32)), .unset, .unset, .unset, .unset] [(.int p1)])) rfl (by rw [hml]; rfl) (argsL := [(.int p1)]) (rest := []) (lenOf pd_4 rfl) rfl (by show 2 * 0 + _ ≤ _; exact Nat.le_of_eq rfl) (hb hby at_125) (fun _ _ => ⟨rfl, e125, (by decide : 4 + 1 ≤ _), (by decide : 6 + 1 ≤ _)⟩)
        dsimp only [Pt.U, Pt.locs, Pt.cells, Pt.slots] at X127 l127 y127 z127 st127 hQ127
        subst l127 y127 z127
        obtain ⟨bb_127, rfl, N127q, Kq127⟩ := hQ127
        have N127 := Fr.app N125 N127q
        have Z127 : n0 ≤ T127.heap.size := Nat.le_trans Z124 Kq127.1
        have K127 : Keep h0 T127.heap [] := K124.trans Kq127 all0
        have f130 : Exa Z T127.heap b123 "com/example/mergewright/mergewright/merge/Match" := (f126.keep Kq127)
        obtain ⟨_, _, ⟨T129, L129, k129, n129⟩, -, X129, ⟨Lc129, hQ129, l129, y129, z129⟩, st129⟩ := Jvm.LawKit.callS X127 hx (y := (⟨"com/example/mergewright/mergewright/merge/Match", "inserted", "(Ljava/lang/Object;)Lcom/example/mergewright/mergewright/merge/Match;"⟩ : MethodName)) hown (mvT hZ (kw27 hw)) (mvT hZ (kw28 hw)) (mvT hZ (kw9 hw)) (mvT hZ (kw29 hw)) (by decide) (backOf (W := 0) (rm5 l Z a0 hw [] bb_127 T127.heap n0 Z127 ) hZ (kw29 hw) (kw9 hw) (by decide) (by decide)) (g := (mkF m 128 #[.val (.int p1), .val (.int p2), .val (.int p3), .val (.int p4), .val (.int (1 : Int32)), .val (.int (1 : Int32)), .val (.int (1 : Int32)), .val (.ref bb_118), .val (.ref bb_119), .val (.ref bb_121), .val (.ref b123), .val (.int (1 : Int32)), .unset, .unset, .unset, .unset] [(.ref bb_127)])) rfl (by rw [hml]; rfl) (argsL := [(.ref bb_127)]) (rest := []) (lenOf pd_5 rfl) rfl (by show 2 * 0 + _ ≤ _; exact Nat.le_of_eq rfl) (hb hby at_128) (fun _ _ => ⟨rfl, rfl, (by decide : 5 + 1 ≤ _), (by decide : 7 + 3 ≤ _)⟩)
        dsimp only [Pt.U, Pt.locs, Pt.cells, Pt.slots] at X129 l129 y129 z129 st129 hQ129
        subst l129 y129 z129
        obtain ⟨bb_129, rfl, N129q, Kq129, p129_0, p129_1, p129_2, p129_3⟩ := hQ129
        have N129 := Fr.app N127 N129q
        have Z129 : n0 ≤ T129.heap.size := Nat.le_trans Z127 Kq129.1
        have K129 : Keep h0 T129.heap [] := K127.trans Kq129 all0
        have sz_bb_129 : h0.size ≤ bb_129 := Nat.le_trans K127.1 p129_1
        have ne129_b123_bb_129 : b123 ≠ bb_129 := Nat.ne_of_lt (Nat.lt_of_lt_of_le f130.lt p129_1)
        obtain ⟨cq131, kq131, q131a, q131b, q131c⟩ := isOf hZ rfl p129_2
        obtain ⟨_, _, ⟨T131, L131, k131, n131⟩, -, X131, ⟨Lc131, hQ131, l131, y131, z131⟩, st131⟩ := X129.virtualBack hx (y := (⟨"com/example/mergewright/mergewright/merge/Match", "isInsertedByBoth", "()Z"⟩ : MethodName)) (z := (⟨"com/example/mergewright/mergewright/merge/Match", "isInsertedByBoth", "()Z"⟩ : MethodName)) hown (mvT hZ (kw22 hw)) (mvT hZ (kw23 hw)) (notFace_of_selects (args := #[]) (mvT hZ (kw25 hw))) (mvT hZ (kw25 hw)) (mvT hZ (kw24 hw)) (by decide) (backOf (W := 0) (rm4_r l Z a0 hw [] bb_129 bb_127 T129.heap n0 Z129 p129_3) hZ (kw26 hw) (kw9 hw) (by decide) (by decide)) q131a q131c (g := (mkF m 135 #[.val (.int p1), .val (.int p2), .val (.int p3), .val (.int p4), .val (.int (1 : Int32)), .val (.int (1 : Int32)), .val (.int (1 : Int32)), .val (.ref bb_118), .val (.ref bb_119), .val (.ref bb_121), .val (.ref b123), .val (.int (1 : Int32)), .val (.ref bb_129), .unset, .unset, .unset] [(.ref bb_129)])) rfl (by rw [hml]; rfl) (Steps.refl _) (argsL := []) (rest := []) (lenOf pd_3 rfl) rfl (by show 2 * 0 + _ ≤ _; exact Nat.le_of_eq rfl) (hb hby at_135) (fun _ _ => ⟨rfl, rfl, (by decide : 6 + 0 ≤ _), (by decide : 10 + 0 ≤ _)⟩)
        dsimp only [Pt.U, Pt.locs, Pt.cells, Pt.slots] at X131 l131 y131 z131 st131 hQ131
        subst l131 y131 z131
        obtain ⟨rfl, N131q, e131⟩ := hQ131
        have N131 := Fr.app N129 N131q
        have f133 : Exa Z T129.heap b123 "com/example/mergewright/mergewright/merge/Match" := (f130.keep Kq129)
        obtain ⟨_, _, ⟨T132, L132, k132, n132⟩, -, X132, ⟨Lc132, hQ132, l132, y132, z132⟩, st132⟩ := Jvm.LawKit.callS X131 hx (y := (⟨"com/example/mergewright/mergewright/merge/Match", "insertedByBoth", "(Ljava/lang/Object;Ljava/lang/Object;)Lcom/example/mergewright/mergewright/merge/Match;"⟩ : MethodName)) hown (mvT hZ (kw32 hw)) (mvT hZ (kw33 hw)) (mvT hZ (kw9 hw)) (mvT hZ (kw34 hw)) (by decide) (backOf (W := 0) (rm6_rr l Z a0 hw [] bb_118 bb_121 T129.heap n0 Z129 ) hZ (kw34 hw) (kw9 hw) (by decide) (by decide)) (g := (mkF m 152 #[.val (.int p1), .val (.int p2), .val (.int p3), .val (.int p4), .val (.int (1 : Int32)), .val (.int (1 : Int32)), .val (.int (1 : Int32)), .val (.ref bb_118), .val (.ref bb_119), .val (.ref bb_121), .val (.ref b123), .val (.int (1 : Int32)), .val (.ref bb_129), .val (.int (1 : Int32)), .unset, .unset] [(.ref bb_121), (.ref bb_118)])) rfl (by rw [hml]; rfl) (argsL := [(.ref bb_118), (.ref bb_121)]) (rest := []) (lenOf pd_6 rfl) rfl (by show 2 * 0 + _ ≤ _; exact Nat.le_of_eq rfl) (hb hby at_152) (fun _ _ => ⟨rfl, e131, (by decide : 6 + 1 ≤ _), (by decide : 10 + 3 ≤ _)⟩)
        dsimp only [Pt.U, Pt.locs, Pt.cells, Pt.slots] at X132 l132 y132 z132 st132 hQ132
        subst l132 y132 z132
        obtain ⟨bb_132, rfl, N132q, Kq132, p132_0, p132_1, p132_2, p132_3⟩ := hQ132
        have N132 := Fr.app N131 N132q
        have Z132 : n0 ≤ T132.heap.size := Nat.le_trans Z129 Kq132.1
        have K132 : Keep h0 T132.heap [] := K129.trans Kq132 all0
        have sz_bb_132 : h0.size ≤ bb_132 := Nat.le_trans K129.1 p132_1
        have ne132_b123_bb_132 : b123 ≠ bb_132 := Nat.ne_of_lt (Nat.lt_of_lt_of_le f133.lt p132_1)
        have ne132_bb_129_bb_132 : bb_129 ≠ bb_132 := Nat.ne_of_lt (Nat.lt_of_lt_of_le p129_2.lt p132_1)
        obtain ⟨cq134, kq134, q134a, q134b, q134c⟩ := isOf hZ rfl p132_2
        obtain ⟨_, _, ⟨T134, L134, k134, n134⟩, -, X134, ⟨Lc134, hQ134, l134, y134, z134⟩, st134⟩ := X132.virtualBack hx (y := (⟨"com/example/mergewright/mergewright/merge/Match", "isInsertedByBoth", "()Z"⟩ : MethodName)) (z := (⟨"com/example/mergewright/mergewright/merge/Match", "isInsertedByBoth", "()Z"⟩ : MethodName)) hown (mvT hZ (kw22 hw)) (mvT hZ (kw23 hw)) (notFace_of_selects (args := #[]) (mvT hZ (kw25 hw))) (mvT hZ (kw25 hw)) (mvT hZ (kw24 hw)) (by decide) (backOf (W := 0) (rm4_n l Z a0 hw [] bb_132 T132.heap n0 Z132 p132_3) hZ (kw26 hw) (kw9 hw) (by decide) (by decide)) q134a q134c (g := (mkF m 159 #[.val (.int p1), .val (.int p2), .val (.int p3), .val (.int p4), .val (.int (1 : Int32)), .val (.int (1 : Int32)), .val (.int (1 : Int32)), .val (.ref bb_118), .val (.ref bb_119), .val (.ref bb_121), .val (.ref b123), .val (.int (1 : Int32)), .val (.ref bb_129), .val (.int (1 : Int32)), .val (.ref bb_132), .unset] [(.ref bb_132)])) rfl (by rw [hml]; rfl) (Steps.refl _) (argsL := []) (rest := []) (lenOf pd_3 rfl) rfl (by show 2 * 0 + _ ≤ _; exact Nat.le_of_eq rfl) (hb hby at_159) (fun _ _ => ⟨rfl, rfl, (by decide : 7 + 0 ≤ _), (by decide : 13 + 0 ≤ _)⟩)
        dsimp only [Pt.U, Pt.locs, Pt.cells, Pt.slots] at X134 l134 y134 z134 st134 hQ134
        subst l134 y134 z134
        obtain ⟨rfl, N134q, e134⟩ := hQ134
        have N134 := Fr.app N132 N134q
        obtain ⟨fs, hr, hrun, hended, hW, hsame⟩ := X134.leave (v := some (.int (1 : Int32))) (fun h => by rw [Bd.returns] at h; cases h)
        refine ⟨_, _, pre100 _ ?_, hrun, hended, _, _, rfl, ?_, ⟨_, rfl⟩, hW, hsame.mono (by decide) (by decide)⟩
        · skip
          refine XS.ifNo X0.here hx rfl (hb hby at_29) rfl ((if0 _ _).trans (feq hc101).1) ?_
          show Steps p.tables e below (s₁.setTop (mkF m 32 #[.val (.int p1), .val (.int p2), .val (.int p3), .val (.int p4), .val (.int (1 : Int32)), .val (.int (1 : Int32)), .unset, .unset, .unset, .unset, .unset, .unset, .unset, .unset, .unset, .unset] [])) _
          refine XS.iconst X0.here hx rfl (hb hby at_32) ?_
          show Steps p.tables e below (s₁.setTop (mkF m 33 #[.val (.int p1), .val (.int p2), .val (.int p3), .val (.int p4), .val (.int (1 : Int32)), .val (.int (1 : Int32)), .unset, .unset, .unset, .unset, .unset, .unset, .unset, .unset, .unset, .unset] [(.int (1 : Int32))])) _
          refine XS.goto X0.here hx rfl (pc0 := 33) (pc' := 37) rfl (hb hby at_33) (by decide) (by decide) ?_
          show Steps p.tables e below (s₁.setTop (mkF m 37 #[.val (.int p1), .val (.int p2), .val (.int p3), .val (.int p4), .val (.int (1 : Int32)), .val (.int (1 : Int32)), .unset, .unset, .unset, .unset, .unset, .unset, .unset, .unset, .unset, .unset] [(.int (1 : Int32))])) _
          refine XS.istore X0.here hx rfl (hb hby at_37) rfl (l' := #[.val (.int p1), .val (.int p2), .val (.int p3), .val (.int p4), .val (.int (1 : Int32)), .val (.int (1 : Int32)), .val (.int (1 : Int32)), .unset, .unset, .unset, .unset, .unset, .unset, .unset, .unset, .unset]) rfl ?_
          show Steps p.tables e below (s₁.setTop (mkF m 39 #[.val (.int p1), .val (.int p2), .val (.int p3), .val (.int p4), .val (.int (1 : Int32)), .val (.int (1 : Int32)), .val (.int (1 : Int32)), .unset, .unset, .unset, .unset, .unset, .unset, .unset, .unset, .unset] [])) _
          refine XS.iload X0.here hx rfl (hb hby at_39) rfl ?_
          show Steps p.tables e below (s₁.setTop (mkF m 41 #[.val (.int p1), .val (.int p2), .val (.int p3), .val (.int p4), .val (.int (1 : Int32)), .val (.int (1 : Int32)), .val (.int (1 : Int32)), .unset, .unset, .unset, .unset, .unset, .unset, .unset, .unset, .unset] [(.int (1 : Int32))])) _
          refine XS.ifNo X0.here hx rfl (hb hby at_41) rfl ((if0 _ _).trans (feq (by decide)).1) ?_
          show Steps p.tables e below (s₁.setTop (mkF m 44 #[.val (.int p1), .val (.int p2), .val (.int p3), .val (.int p4), .val (.int (1 : Int32)), .val (.int (1 : Int32)), .val (.int (1 : Int32)), .unset, .unset, .unset, .unset, .unset, .unset, .unset, .unset, .unset] [])) _
          refine XS.iloadN X0.here hx rfl (hb hby at_44) rfl ?_
          show Steps p.tables e below (s₁.setTop (mkF m 45 #[.val (.int p1), .val (.int p2), .val (.int p3), .val (.int p4), .val (.int (1 : Int32)), .val (.int (1 : Int32)), .val (.int (1 : Int32)), .unset, .unset, .unset, .unset, .unset, .unset, .unset, .unset, .unset] [(.int p1)])) _
          refine st118 _ ?_
          show Steps p.tables e below (T118.setTop (mkF m 48 #[.val (.int p1), .val (.int p2), .val (.int p3), .val (.int p4), .val (.int (1 : Int32)), .val (.int (1 : Int32)), .val (.int (1 : Int32)), .unset, .unset, .unset, .unset, .unset, .unset, .unset, .unset, .unset] [(.ref bb_118)])) _
          refine XS.goto X118.here hx rfl (pc0 := 48) (pc' := 52) rfl (hb hby at_48) (by decide) (by decide) ?_
          show Steps p.tables e below (T118.setTop (mkF m 52 #[.val (.int p1), .val (.int p2), .val (.int p3), .val (.int p4), .val (.int (1 : Int32)), .val (.int (1 : Int32)), .val (.int (1 : Int32)), .unset, .unset, .unset, .unset, .unset, .unset, .unset, .unset, .unset] [(.ref bb_118)])) _
          refine XS.astore X118.here hx rfl (hb hby at_52) rfl rfl (l' := #[.val (.int p1), .val (.int p2), .val (.int p3), .val (.int p4), .val (.int (1 : Int32)), .val (.int (1 : Int32)), .val (.int (1 : Int32)), .val (.ref bb_118), .unset, .unset, .unset, .unset, .unset, .unset, .unset, .unset]) rfl ?_
          show Steps p.tables e below (T118.setTop (mkF m 54 #[.val (.int p1), .val (.int p2), .val (.int p3), .val (.int p4), .val (.int (1 : Int32)), .val (.int (1 : Int32)), .val (.int (1 : Int32)), .val (.ref bb_118), .unset, .unset, .unset, .unset, .unset, .unset, .unset, .unset] [])) _
          refine XS.iload X118.here hx rfl (hb hby at_54) rfl ?_
          show Steps p.tables e below (T118.setTop (mkF m 56 #[.val (.int p1), .val (.int p2), .val (.int p3), .val (.int p4), .val (.int (1 : Int32)), .val (.int (1 : Int32)), .val (.int (1 : Int32)), .val (.ref bb_118), .unset, .unset, .unset, .unset, .unset, .unset, .unset, .unset] [(.int (1 : Int32))])) _
          refine XS.ifNo X118.here hx rfl (hb hby at_56) rfl ((if0 _ _).trans (feq (by decide)).1) ?_
          show Steps p.tables e below (T118.setTop (mkF m 59 #[.val (.int p1), .val (.int p2), .val (.int p3), .val (.int p4), .val (.int (1 : Int32)), .val (.int (1 : Int32)), .val (.int (1 : Int32)), .val (.ref bb_118), .unset, .unset, .unset, .unset, .unset, .unset, .unset, .unset] [])) _
          refine XS.iloadN X118.here hx rfl (hb hby at_59) rfl ?_
          show Steps p.tables e below (T118.setTop (mkF m 60 #[.val (.int p1), .val (.int p2), .val (.int p3), .val (.int p4), .val (.int (1 : Int32)), .val (.int (1 : Int32)), .val (.int (1 : Int32)), .val (.ref bb_118), .unset, .unset, .unset, .unset, .unset, .unset, .unset, .unset] [(.int p2)])) _
          refine st119 _ ?_
          show Steps p.tables e below (T119.setTop (mkF m 63 #[.val (.int p1), .val (.int p2), .val (.int p3), .val (.int p4), .val (.int (1 : Int32)), .val (.int (1 : Int32)), .val (.int (1 : Int32)), .val (.ref bb_118), .unset, .unset, .unset, .unset, .unset, .unset, .unset, .unset] [(.ref bb_119)])) _
          refine XS.goto X119.here hx rfl (pc0 := 63) (pc' := 67) rfl (hb hby at_63) (by decide) (by decide) ?_
          show Steps p.tables e below (T119.setTop (mkF m 67 #[.val (.int p1), .val (.int p2), .val (.int p3), .val (.int p4), .val (.int (1 : Int32)), .val (.int (1 : Int32)), .val (.int (1 : Int32)), .val (.ref bb_118), .unset, .unset, .unset, .unset, .unset, .unset, .unset, .unset] [(.ref bb_119)])) _
          refine XS.astore X119.here hx rfl (hb hby at_67) rfl rfl (l' := #[.val (.int p1), .val (.int p2), .val (.int p3), .val (.int p4), .val (.int (1 : Int32)), .val (.int (1 : Int32)), .val (.int (1 : Int32)), .val (.ref bb_118), .val (.ref bb_119), .unset, .unset, .unset, .unset, .unset, .unset, .unset]) rfl ?_
          show Steps p.tables e below (T119.setTop (mkF m 69 #[.val (.int p1), .val (.int p2), .val (.int p3), .val (.int p4), .val (.int (1 : Int32)), .val (.int (1 : Int32)), .val (.int (1 : Int32)), .val (.ref bb_118), .val (.ref bb_119), .unset, .unset, .unset, .unset, .unset, .unset, .unset] [])) _
          refine XS.iload X119.here hx rfl (hb hby at_69) rfl ?_
          show Steps p.tables e below (T119.setTop (mkF m 71 #[.val (.int p1), .val (.int p2), .val (.int p3), .val (.int p4), .val (.int (1 : Int32)), .val (.int (1 : Int32)), .val (.int (1 : Int32)), .val (.ref bb_118), .val (.ref bb_119), .unset, .unset, .unset, .unset, .unset, .unset, .unset] [(.int (1 : Int32))])) _
          refine XS.ifNo X119.here hx rfl (hb hby at_71) rfl ((if0 _ _).trans (feq (by decide)).1) ?_
          show Steps p.tables e below (T119.setTop (mkF m 74 #[.val (.int p1), .val (.int p2), .val (.int p3), .val (.int p4), .val (.int (1 : Int32)), .val (.int (1 : Int32)), .val (.int (1 : Int32)), .val (.ref bb_118), .val (.ref bb_119), .unset, .unset, .unset, .unset, .unset, .unset, .unset] [])) _
          refine XS.iloadN X119.here hx rfl (hb hby at_74) rfl ?_
          show Steps p.tables e below (T119.setTop (mkF m 75 #[.val (.int p1), .val (.int p2), .val (.int p3), .val (.int p4), .val (.int (1 : Int32)), .val (.int (1 : Int32)), .val (.int (1 : Int32)), .val (.ref bb_118), .val (.ref bb_119), .unset, .unset, .unset, .unset, .unset, .unset, .unset] [(.int p3)])) _
          refine st121 _ ?_
          show Steps p.tables e below (T121.setTop (mkF m 78 #[.val (.int p1), .val (.int p2), .val (.int p3), .val (.int p4), .val (.int (1 : Int32)), .val (.int (1 : Int32)), .val (.int (1 : Int32)), .val (.ref bb_118), .val (.ref bb_119), .unset, .unset, .unset, .unset, .unset, .unset, .unset] [(.ref bb_121)])) _
          refine XS.goto X121.here hx rfl (pc0 := 78) (pc' := 82) rfl (hb hby at_78) (by decide) (by decide) ?_
          show Steps p.tables e below (T121.setTop (mkF m 82 #[.val (.int p1), .val (.int p2), .val (.int p3), .val (.int p4), .val (.int (1 : Int32)), .val (.int (1 : Int32)), .val (.int (1 : Int32)), .val (.ref bb_118), .val (.ref bb_119), .unset, .unset, .unset, .unset, .unset, .unset, .unset] [(.ref bb_121)])) _
          refine XS.astore X121.here hx rfl (hb hby at_82) rfl rfl (l' := #[.val (.int p1), .val (.int p2), .val (.int p3), .val (.int p4), .val (.int (1 : Int32)), .val (.int (1 : Int32)), .val (.int (1 : Int32)), .val (.ref bb_118), .val (.ref bb_119), .val (.ref bb_121), .unset, .unset, .unset, .unset, .unset, .unset]) rfl ?_
          show Steps p.tables e below (T121.setTop (mkF m 84 #[.val (.int p1), .val (.int p2), .val (.int p3), .val (.int p4), .val (.int (1 : Int32)), .val (.int (1 : Int32)), .val (.int (1 : Int32)), .val (.ref bb_118), .val (.ref bb_119), .val (.ref bb_121), .unset, .unset, .unset, .unset, .unset, .unset] [])) _
          refine st123 _ ?_
          show Steps p.tables e below (T123.setTop (mkF m 87 #[.val (.int p1), .val (.int p2), .val (.int p3), .val (.int p4), .val (.int (1 : Int32)), .val (.int (1 : Int32)), .val (.int (1 : Int32)), .val (.ref bb_118), .val (.ref bb_119), .val (.ref bb_121), .unset, .unset, .unset, .unset, .unset, .unset] [(.ref b123)])) _
          refine XS.dup X123.here hx rfl (hb hby at_87) rfl rfl ?_
          show Steps p.tables e below (T123.setTop (mkF m 88 #[.val (.int p1), .val (.int p2), .val (.int p3), .val (.int p4), .val (.int (1 : Int32)), .val (.int (1 : Int32)), .val (.int (1 : Int32)), .val (.ref bb_118), .val (.ref bb_119), .val (.ref bb_121), .unset, .unset, .unset, .unset, .unset, .unset] [(.ref b123), (.ref b123)])) _
          refine XS.aload X123.here hx rfl (hb hby at_88) rfl rfl ?_
          show Steps p.tables e below (T123.setTop (mkF m 90 #[.val (.int p1), .val (.int p2), .val (.int p3), .val (.int p4), .val (.int (1 : Int32)), .val (.int (1 : Int32)), .val (.int (1 : Int32)), .val (.ref bb_118), .val (.ref bb_119), .val (.ref bb_121), .unset, .unset, .unset, .unset, .unset, .unset] [(.ref bb_118), (.ref b123), (.ref b123)])) _
          refine XS.aload X123.here hx rfl (hb hby at_90) rfl rfl ?_
          show Steps p.tables e below (T123.setTop (mkF m 92 #[.val (.int p1), .val (.int p2), .val (.int p3), .val (.int p4), .val (.int (1 : Int32)), .val (.int (1 : Int32)), .val (.int (1 : Int32)), .val (.ref bb_118), .val (.ref bb_119), .val (.ref bb_121), .unset, .unset, .unset, .unset, .unset, .unset] [(.ref bb_119), (.ref bb_118), (.ref b123), (.ref b123)])) _
          refine XS.aload X123.here hx rfl (hb hby at_92) rfl rfl ?_
          show Steps p.tables e below (T123.setTop (mkF m 94 #[.val (.int p1), .val (.int p2), .val (.int p3), .val (.int p4), .val (.int (1 : Int32)), .val (.int (1 : Int32)), .val (.int (1 : Int32)), .val (.ref bb_118), .val (.ref bb_119), .val (.ref bb_121), .unset, .unset, .unset, .unset, .unset, .unset] [(.ref bb_121), (.ref bb_119), (.ref bb_118), (.ref b123), (.ref b123)])) _
          refine st124.trans ?_
          show Steps p.tables e below (T124.setTop (mkF m 97 #[.val (.int p1), .val (.int p2), .val (.int p3), .val (.int p4), .val (.int (1 : Int32)), .val (.int (1 : Int32)), .val (.int (1 : Int32)), .val (.ref bb_118), .val (.ref bb_119), .val (.ref bb_121), .unset, .unset, .unset, .unset, .unset, .unset] [(.ref b123)])) _
          refine XS.astore X124.here hx rfl (hb hby at_97) rfl rfl (l' := #[.val (.int p1), .val (.int p2), .val (.int p3), .val (.int p4), .val (.int (1 : Int32)), .val (.int (1 : Int32)), .val (.int (1 : Int32)), .val (.ref bb_118), .val (.ref bb_119), .val (.ref bb_121), .val (.ref b123), .unset, .unset, .unset, .unset, .unset]) rfl ?_
          show Steps p.tables e below (T124.setTop (mkF m 99 #[.val (.int p1), .val (.int p2), .val (.int p3), .val (.int p4), .val (.int (1 : Int32)), .val (.int (1 : Int32)), .val (.int (1 : Int32)), .val (.ref bb_118), .val (.ref bb_119), .val (.ref bb_121), .val (.ref b123), .unset, .unset, .unset, .unset, .unset] [])) _
          refine XS.aload X124.here hx rfl (hb hby at_99) rfl rfl ?_
          show Steps p.tables e below (T124.setTop (mkF m 101 #[.val (.int p1), .val (.int p2), .val (.int p3), .val (.int p4), .val (.int (1 : Int32)), .val (.int (1 : Int32)), .val (.int (1 : Int32)), .val (.ref bb_118), .val (.ref bb_119), .val (.ref bb_121), .val (.ref b123), .unset, .unset, .unset, .unset, .unset] [(.ref b123)])) _
          refine st125.trans ?_
          show Steps p.tables e below (T125.setTop (mkF m 104 #[.val (.int p1), .val (.int p2), .val (.int p3), .val (.int p4), .val (.int (1 : Int32)), .val (.int (1 : Int32)), .val (.int (1 : Int32)), .val (.ref bb_118), .val (.ref bb_119), .val (.ref bb_121), .val (.ref b123), .unset, .unset, .unset, .unset, .unset] [(.int (0 : Int32))])) _
          refine XS.iload X125.here hx rfl (hb hby at_104) rfl ?_
          show Steps p.tables e below (T125.setTop (mkF m 106 #[.val (.int p1), .val (.int p2), .val (.int p3), .val (.int p4), .val (.int (1 : Int32)), .val (.int (1 : Int32)), .val (.int (1 : Int32)), .val (.ref bb_118), .val (.ref bb_119), .val (.ref bb_121), .val (.ref b123), .unset, .unset, .unset, .unset, .unset] [(.int (1 : Int32)), (.int (0 : Int32))])) _
          refine XS.ifYes X125.here hx rfl (pc0 := 106) (pc' := 113) rfl (hb hby at_106) rfl ((if0 _ _).trans (feq (by decide)).2) (by decide) (by decide) ?_
          show Steps p.tables e below (T125.setTop (mkF m 113 #[.val (.int p1), .val (.int p2), .val (.int p3), .val (.int p4), .val (.int (1 : Int32)), .val (.int (1 : Int32)), .val (.int (1 : Int32)), .val (.ref bb_118), .val (.ref bb_119), .val (.ref bb_121), .val (.ref b123), .unset, .unset, .unset, .unset, .unset] [(.int (0 : Int32))])) _
          refine XS.iconst X125.here hx rfl (hb hby at_113) ?_
          show Steps p.tables e below (T125.setTop (mkF m 114 #[.val (.int p1), .val (.int p2), .val (.int p3), .val (.int p4), .val (.int (1 : Int32)), .val (.int (1 : Int32)), .val (.int (1 : Int32)), .val (.ref bb_118), .val (.ref bb_119), .val (.ref bb_121), .val (.ref b123), .unset, .unset, .unset, .unset, .unset] [(.int (0 : Int32)), (.int (0 : Int32))])) _
          refine XS.icmpNo X125.here hx rfl (hb hby at_114) rfl (teq rfl).2 ?_
          show Steps p.tables e below (T125.setTop (mkF m 117 #[.val (.int p1), .val (.int p2), .val (.int p3), .val (.int p4), .val (.int (1 : Int32)), .val (.int (1 : Int32)), .val (.int (1 : Int32)), .val (.ref bb_118), .val (.ref bb_119), .val (.ref bb_121), .val (.ref b123), .unset, .unset, .unset, .unset, .unset] [])) _
          refine XS.iconst X125.here hx rfl (hb hby at_117) ?_
          show Steps p.tables e below (T125.setTop (mkF m 118 #[.val (.int p1), .val (.int p2), .val (.int p3), .val (.int p4), .val (.int (1 : Int32)), .val (.int (1 : Int32)), .val (.int (1 : Int32)), .val (.ref bb_118), .val (.ref bb_119), .val (.ref bb_121), .val (.ref b123), .unset, .unset, .unset, .unset, .unset] [(.int (1 : Int32))])) _
          refine XS.goto X125.here hx rfl (pc0 := 118) (pc' := 122) rfl (hb hby at_118) (by decide) (by decide) ?_
          show Steps p.tables e below (T125.setTop (mkF m 122 #[.val (.int p1), .val (.int p2), .val (.int p3), .val (.int p4), .val (.int (1 : Int32)), .val (.int (1 : Int32)), .val (.int (1 : Int32)), .val (.ref bb_118), .val (.ref bb_119), .val (.ref bb_121), .val (.ref b123), .unset, .unset, .unset, .unset, .unset] [(.int (1 : Int32))])) _
          refine XS.istore X125.here hx rfl (hb hby at_122) rfl (l' := #[.val (.int p1), .val (.int p2), .val (.int p3), .val (.int p4), .val (.int (1 : Int32)), .val (.int (1 : Int32)), .val (.int (1 : Int32)), .val (.ref bb_118), .val (.ref bb_119), .val (.ref bb_121), .val (.ref b123), .val (.int (1 : Int32)), .unset, .unset, .unset, .unset]) rfl ?_
          show Steps p.tables e below (T125.setTop (mkF m 124 #[.val (.int p1), .val (.int p2), .val (.int p3), .val (.int p4), .val (.int (1 : Int32)), .val (.int (1 : Int32)), .val (.int (1 : Int32)), .val (.ref bb_118), .val (.ref bb_119), .val (.ref bb_121), .val (.ref b123), .val (.int (1 : Int32)), .unset, .unset, .unset, .unset] [])) _
          refine XS.iloadN X125.here hx rfl (hb hby at_124) rfl ?_
          show Steps p.tables e below (T125.setTop (mkF m 125 #[.val (.int p1), .val (.int p2), .val (.int p3), .val (.int p4), .val (.int (1 : Int32)), .val (.int (1 : Int32)), .val (.int (1 : Int32)), .val (.ref bb_118), .val (.ref bb_119), .val (.ref bb_121), .val (.ref b123), .val (.int (1 : Int32)), .unset, .unset, .unset, .unset] [(.int p1)])) _
          refine st127 _ ?_
          show Steps p.tables e below (T127.setTop (mkF m 128 #[.val (.int p1), .val (.int p2), .val (.int p3), .val (.int p4), .val (.int (1 : Int32)), .val (.int (1 : Int32)), .val (.int (1 : Int32)), .val (.ref bb_118), .val (.ref bb_119), .val (.ref bb_121), .val (.ref b123), .val (.int (1 : Int32)), .unset, .unset, .unset, .unset] [(.ref bb_127)])) _
          refine st129 _ ?_
          show Steps p.tables e below (T129.setTop (mkF m 131 #[.val (.int p1), .val (.int p2), .val (.int p3), .val (.int p4), .val (.int (1 : Int32)), .val (.int (1 : Int32)), .val (.int (1 : Int32)), .val (.ref bb_118), .val (.ref bb_119), .val (.ref bb_121), .val (.ref b123), .val (.int (1 : Int32)), .unset, .unset, .unset, .unset] [(.ref bb_129)])) _
          refine XS.astore X129.here hx rfl (hb hby at_131) rfl rfl (l' := #[.val (.int p1), .val (.int p2), .val (.int p3), .val (.int p4), .val (.int (1 : Int32)), .val (.int (1 : Int32)), .val (.int (1 : Int32)), .val (.ref bb_118), .val (.ref bb_119), .val (.ref bb_121), .val (.ref b123), .val (.int (1 : Int32)), .val (.ref bb_129), .unset, .unset, .unset]) rfl ?_
          show Steps p.tables e below (T129.setTop (mkF m 133 #[.val (.int p1), .val (.int p2), .val (.int p3), .val (.int p4), .val (.int (1 : Int32)), .val (.int (1 : Int32)), .val (.int (1 : Int32)), .val (.ref bb_118), .val (.ref bb_119), .val (.ref bb_121), .val (.ref b123), .val (.int (1 : Int32)), .val (.ref bb_129), .unset, .unset, .unset] [])) _
          refine XS.aload X129.here hx rfl (hb hby at_133) rfl rfl ?_
          show Steps p.tables e below (T129.setTop (mkF m 135 #[.val (.int p1), .val (.int p2), .val (.int p3), .val (.int p4), .val (.int (1 : Int32)), .val (.int (1 : Int32)), .val (.int (1 : Int32)), .val (.ref bb_118), .val (.ref bb_119), .val (.ref bb_121), .val (.ref b123), .val (.int (1 : Int32)), .val (.ref bb_129), .unset, .unset, .unset] [(.ref bb_129)])) _
          refine st131.trans ?_
          show Steps p.tables e below (T131.setTop (mkF m 138 #[.val (.int p1), .val (.int p2), .val (.int p3), .val (.int p4), .val (.int (1 : Int32)), .val (.int (1 : Int32)), .val (.int (1 : Int32)), .val (.ref bb_118), .val (.ref bb_119), .val (.ref bb_121), .val (.ref b123), .val (.int (1 : Int32)), .val (.ref bb_129), .unset, .unset, .unset] [(.int (0 : Int32))])) _
          refine XS.ifNo X131.here hx rfl (hb hby at_138) rfl ((if0 _ _).trans (teq rfl).2) ?_
          show Steps p.tables e below (T131.setTop (mkF m 141 #[.val (.int p1), .val (.int p2), .val (.int p3), .val (.int p4), .val (.int (1 : Int32)), .val (.int (1 : Int32)), .val (.int (1 : Int32)), .val (.ref bb_118), .val (.ref bb_119), .val (.ref bb_121), .val (.ref b123), .val (.int (1 : Int32)), .val (.ref bb_129), .unset, .unset, .unset] [])) _
          refine XS.iconst X131.here hx rfl (hb hby at_141) ?_
          show Steps p.tables e below (T131.setTop (mkF m 142 #[.val (.int p1), .val (.int p2), .val (.int p3), .val (.int p4), .val (.int (1 : Int32)), .val (.int (1 : Int32)), .val (.int (1 : Int32)), .val (.ref bb_118), .val (.ref bb_119), .val (.ref bb_121), .val (.ref b123), .val (.int (1 : Int32)), .val (.ref bb_129), .unset, .unset, .unset] [(.int (1 : Int32))])) _
          refine XS.goto X131.here hx rfl (pc0 := 142) (pc' := 146) rfl (hb hby at_142) (by decide) (by decide) ?_
          show Steps p.tables e below (T131.setTop (mkF m 146 #[.val (.int p1), .val (.int p2), .val (.int p3), .val (.int p4), .val (.int (1 : Int32)), .val (.int (1 : Int32)), .val (.int (1 : Int32)), .val (.ref bb_118), .val (.ref bb_119), .val (.ref bb_121), .val (.ref b123), .val (.int (1 : Int32)), .val (.ref bb_129), .unset, .unset, .unset] [(.int (1 : Int32))])) _
          refine XS.istore X131.here hx rfl (hb hby at_146) rfl (l' := #[.val (.int p1), .val (.int p2), .val (.int p3), .val (.int p4), .val (.int (1 : Int32)), .val (.int (1 : Int32)), .val (.int (1 : Int32)), .val (.ref bb_118), .val (.ref bb_119), .val (.ref bb_121), .val (.ref b123), .val (.int (1 : Int32)), .val (.ref bb_129), .val (.int (1 : Int32)), .unset, .unset]) rfl ?_
          show Steps p.tables e below (T131.setTop (mkF m 148 #[.val (.int p1), .val (.int p2), .val (.int p3), .val (.int p4), .val (.int (1 : Int32)), .val (.int (1 : Int32)), .val (.int (1 : Int32)), .val (.ref bb_118), .val (.ref bb_119), .val (.ref bb_121), .val (.ref b123), .val (.int (1 : Int32)), .val (.ref bb_129), .val (.int (1 : Int32)), .unset, .unset] [])) _
          refine XS.aload X131.here hx rfl (hb hby at_148) rfl rfl ?_
          show Steps p.tables e below (T131.setTop (mkF m 150 #[.val (.int p1), .val (.int p2), .val (.int p3), .val (.int p4), .val (.int (1 : Int32)), .val (.int (1 : Int32)), .val (.int (1 : Int32)), .val (.ref bb_118), .val (.ref bb_119), .val (.ref bb_121), .val (.ref b123), .val (.int (1 : Int32)), .val (.ref bb_129), .val (.int (1 : Int32)), .unset, .unset] [(.ref bb_118)])) _
          refine XS.aload X131.here hx rfl (hb hby at_150) rfl rfl ?_
          show Steps p.tables e below (T131.setTop (mkF m 152 #[.val (.int p1), .val (.int p2), .val (.int p3), .val (.int p4), .val (.int (1 : Int32)), .val (.int (1 : Int32)), .val (.int (1 : Int32)), .val (.ref bb_118), .val (.ref bb_119), .val (.ref bb_121), .val (.ref b123), .val (.int (1 : Int32)), .val (.ref bb_129), .val (.int (1 : Int32)), .unset, .unset] [(.ref bb_121), (.ref bb_118)])) _
          refine st132 _ ?_
          show Steps p.tables e below (T132.setTop (mkF m 155 #[.val (.int p1), .val (.int p2), .val (.int p3), .val (.int p4), .val (.int (1 : Int32)), .val (.int (1 : Int32)), .val (.int (1 : Int32)), .val (.ref bb_118), .val (.ref bb_119), .val (.ref bb_121), .val (.ref b123), .val (.int (1 : Int32)), .val (.ref bb_129), .val (.int (1 : Int32)), .unset, .unset] [(.ref bb_132)])) _
          refine XS.astore X132.here hx rfl (hb hby at_155) rfl rfl (l' := #[.val (.int p1), .val (.int p2), .val (.int p3), .val (.int p4), .val (.int (1 : Int32)), .val (.int (1 : Int32)), .val (.int (1 : Int32)), .val (.ref bb_118), .val (.ref bb_119), .val (.ref bb_121), .val (.ref b123), .val (.int (1 : Int32)), .val (.ref bb_129), .val (.int (1 : Int32)), .val (.ref bb_132), .unset]) rfl ?_
          show Steps p.tables e below (T132.setTop (mkF m 157 #[.val (.int p1), .val (.int p2), .val (.int p3), .val (.int p4), .val (.int (1 : Int32)), .val (.int (1 : Int32)), .val (.int (1 : Int32)), .val (.ref bb_118), .val (.ref bb_119), .val (.ref bb_121), .val (.ref b123), .val (.int (1 : Int32)), .val (.ref bb_129), .val (.int (1 : Int32)), .val (.ref bb_132), .unset] [])) _
          refine XS.aload X132.here hx rfl (hb hby at_157) rfl rfl ?_
          show Steps p.tables e below (T132.setTop (mkF m 159 #[.val (.int p1), .val (.int p2), .val (.int p3), .val (.int p4), .val (.int (1 : Int32)), .val (.int (1 : Int32)), .val (.int (1 : Int32)), .val (.ref bb_118), .val (.ref bb_119), .val (.ref bb_121), .val (.ref b123), .val (.int (1 : Int32)), .val (.ref bb_129), .val (.int (1 : Int32)), .val (.ref bb_132), .unset] [(.ref bb_132)])) _
          refine st134.trans ?_
          show Steps p.tables e below (T134.setTop (mkF m 162 #[.val (.int p1), .val (.int p2), .val (.int p3), .val (.int p4), .val (.int (1 : Int32)), .val (.int (1 : Int32)), .val (.int (1 : Int32)), .val (.ref bb_118), .val (.ref bb_119), .val (.ref bb_121), .val (.ref b123), .val (.int (1 : Int32)), .val (.ref bb_129), .val (.int (1 : Int32)), .val (.ref bb_132), .unset] [(.int (1 : Int32))])) _
          refine XS.istore X134.here hx rfl (hb hby at_162) rfl (l' := #[.val (.int p1), .val (.int p2), .val (.int p3), .val (.int p4), .val (.int (1 : Int32)), .val (.int (1 : Int32)), .val (.int (1 : Int32)), .val (.ref bb_118), .val (.ref bb_119), .val (.ref bb_121), .val (.ref b123), .val (.int (1 : Int32)), .val (.ref bb_129), .val (.int (1 : Int32)), .val (.ref bb_132), .val (.int (1 : Int32))]) rfl ?_
          show Steps p.tables e below (T134.setTop (mkF m 164 #[.val (.int p1), .val (.int p2), .val (.int p3), .val (.int p4), .val (.int (1 : Int32)), .val (.int (1 : Int32)), .val (.int (1 : Int32)), .val (.ref bb_118), .val (.ref bb_119), .val (.ref bb_121), .val (.ref b123), .val (.int (1 : Int32)), .val (.ref bb_129), .val (.int (1 : Int32)), .val (.ref bb_132), .val (.int (1 : Int32))] [])) _
          refine XS.iload X134.here hx rfl (hb hby at_164) rfl ?_
          show Steps p.tables e below (T134.setTop (mkF m 166 #[.val (.int p1), .val (.int p2), .val (.int p3), .val (.int p4), .val (.int (1 : Int32)), .val (.int (1 : Int32)), .val (.int (1 : Int32)), .val (.ref bb_118), .val (.ref bb_119), .val (.ref bb_121), .val (.ref b123), .val (.int (1 : Int32)), .val (.ref bb_129), .val (.int (1 : Int32)), .val (.ref bb_132), .val (.int (1 : Int32))] [(.int (1 : Int32))])) _
          refine XS.ifNo X134.here hx rfl (hb hby at_166) rfl ((if0 _ _).trans (feq (by decide)).1) ?_
          show Steps p.tables e below (T134.setTop (mkF m 169 #[.val (.int p1), .val (.int p2), .val (.int p3), .val (.int p4), .val (.int (1 : Int32)), .val (.int (1 : Int32)), .val (.int (1 : Int32)), .val (.ref bb_118), .val (.ref bb_119), .val (.ref bb_121), .val (.ref b123), .val (.int (1 : Int32)), .val (.ref bb_129), .val (.int (1 : Int32)), .val (.ref bb_132), .val (.int (1 : Int32))] [])) _
          refine XS.iload X134.here hx rfl (hb hby at_169) rfl ?_
          show Steps p.tables e below (T134.setTop (mkF m 171 #[.val (.int p1), .val (.int p2), .val (.int p3), .val (.int p4), .val (.int (1 : Int32)), .val (.int (1 : Int32)), .val (.int (1 : Int32)), .val (.ref bb_118), .val (.ref bb_119), .val (.ref bb_121), .val (.ref b123), .val (.int (1 : Int32)), .val (.ref bb_129), .val (.int (1 : Int32)), .val (.ref bb_132), .val (.int (1 : Int32))] [(.int (1 : Int32))])) _
          refine XS.ifNo X134.here hx rfl (hb hby at_171) rfl ((if0 _ _).trans (feq (by decide)).1) ?_
          show Steps p.tables e below (T134.setTop (mkF m 174 #[.val (.int p1), .val (.int p2), .val (.int p3), .val (.int p4), .val (.int (1 : Int32)), .val (.int (1 : Int32)), .val (.int (1 : Int32)), .val (.ref bb_118), .val (.ref bb_119), .val (.ref bb_121), .val (.ref b123), .val (.int (1 : Int32)), .val (.ref bb_129), .val (.int (1 : Int32)), .val (.ref bb_132), .val (.int (1 : Int32))] [])) _
          refine XS.iload X134.here hx rfl (hb hby at_174) rfl ?_
          show Steps p.tables e below (T134.setTop (mkF m 176 #[.val (.int p1), .val (.int p2), .val (.int p3), .val (.int p4), .val (.int (1 : Int32)), .val (.int (1 : Int32)), .val (.int (1 : Int32)), .val (.ref bb_118), .val (.ref bb_119), .val (.ref bb_121), .val (.ref b123), .val (.int (1 : Int32)), .val (.ref bb_129), .val (.int (1 : Int32)), .val (.ref bb_132), .val (.int (1 : Int32))] [(.int (1 : Int32))])) _
          refine XS.ifNo X134.here hx rfl (hb hby at_176) rfl ((if0 _ _).trans (feq (by decide)).1) ?_
          show Steps p.tables e below (T134.setTop (mkF m 179 #[.val (.int p1), .val (.int p2), .val (.int p3), .val (.int p4), .val (.int (1 : Int32)), .val (.int (1 : Int32)), .val (.int (1 : Int32)), .val (.ref bb_118), .val (.ref bb_119), .val (.ref bb_121), .val (.ref b123), .val (.int (1 : Int32)), .val (.ref bb_129), .val (.int (1 : Int32)), .val (.ref bb_132), .val (.int (1 : Int32))] [])) _
          refine XS.iconst X134.here hx rfl (hb hby at_179) ?_
          show Steps p.tables e below (T134.setTop (mkF m 180 #[.val (.int p1), .val (.int p2), .val (.int p3), .val (.int p4), .val (.int (1 : Int32)), .val (.int (1 : Int32)), .val (.int (1 : Int32)), .val (.ref bb_118), .val (.ref bb_119), .val (.ref bb_121), .val (.ref b123), .val (.int (1 : Int32)), .val (.ref bb_129), .val (.int (1 : Int32)), .val (.ref bb_132), .val (.int (1 : Int32))] [(.int (1 : Int32))])) _
          refine XS.goto X134.here hx rfl (pc0 := 180) (pc' := 184) rfl (hb hby at_180) (by decide) (by decide) ?_
          show Steps p.tables e below (T134.setTop (mkF m 184 #[.val (.int p1), .val (.int p2), .val (.int p3), .val (.int p4), .val (.int (1 : Int32)), .val (.int (1 : Int32)), .val (.int (1 : Int32)), .val (.ref bb_118), .val (.ref bb_119), .val (.ref bb_121), .val (.ref b123), .val (.int (1 : Int32)), .val (.ref bb_129), .val (.int (1 : Int32)), .val (.ref bb_132), .val (.int (1 : Int32))] [(.int (1 : Int32))])) _
          exact retN X134 hx (t := .boolean) Bd.returns (by simp) (hb hby at_184) hr
        · show Q_rm0 Z p1 p2 p3 p4 w_cache h0 n0 _ T134.heap _
          rw [e134]
          exact ⟨rfl, N134, K132⟩
set_option maxRecDepth 65536 in
set_option maxHeartbeats 40000000 in
theorem comes_1 {Post : Tables → Env → Array Value → State → Outcome → State → Prop} (hpost : ∀ tb e args s v u, (limb_1_1.after args s (.returned v) u = true ∧ limb_1_2.after args s (.returned v) u = true ∧ True) → FrameEnd s (.returned v) u (Jvm.fieldLocs frame_1_writes args s ++ Jvm.arrayLocs frame_1_arrays args s ++ Jvm.staticLocs frame_1_statics s) 24 128 → Post tb e args s (.returned v) u) :
    ArmFor flags0 classFile x code maxLocals ret World_1 tables_1 room_1 Calls_1 rest_1 Pre_1 Post := by
  intro l hfl _ _ p e ha hc hk s m args below hf hA hF happ hP
  obtain ⟨hcalls, hrest, hpre⟩ := hP
  obtain ⟨-, -, -, hnamed, -, -, -, hat⟩ := (Spec.applies_iff hf).mp happ
  obtain ⟨hg, hn⟩ := and_e (Cond.before_iff.mp (show (Jvm.Cond.and given_1 narrow_1).before args s = true from hpre))
  obtain ⟨g1, g2⟩ := and_e hg
  obtain ⟨g3, g4⟩ := and_e g2
  obtain ⟨g5, g6⟩ := and_e g4
  obtain ⟨g7, g8⟩ := and_e g6
  obtain ⟨w0, w1, w2, w3, rfl⟩ : ∃ w0 w1 w2 w3 : Value, args = #[w0, w1, w2, w3] := by
    have hs : args.size = 4 := by simpa [Cond.value, given_1] using g1
    obtain ⟨L⟩ := args
    match L, hs with
    | [w0, w1, w2, w3], _ => exact ⟨w0, w1, w2, w3, rfl⟩
  have hw0 := fun d (hd : d ∈ tables_1) => atoms_spec (ws := Jvm.Cond.code x code maxLocals ret :: tables_1) hat d (List.mem_cons_of_mem _ hd)
  have hfit : Fit s := fun {y c} hc i hi => by
    obtain ⟨ha, rfl⟩ := Array.getElem?_eq_some_iff.mp hc
    have q := List.all_eq_true.mp ((Array.all_eq_true_iff_forall_mem.mp hF) _ (Array.getElem_mem ha)) i (List.mem_range.mpr hi)
    simpa [Array.getElem?_eq_getElem hi] using q
  obtain ⟨hsets, hown0⟩ := atoms_of _ (rest_1_c_eq ▸ (show rest_1_c.before _ s = true from hrest))
  have hw : ∀ d ∈ own_tab, d.before _ s = true := fun d hd => (List.mem_append.mp hd).elim (hw0 d) (hsets d)
  obtain ⟨i0, ei0⟩ := is_v g3
  obtain rfl : w0 = (.int i0) := Option.some.inj ei0
  obtain ⟨i1, ei1⟩ := is_v g5
  obtain rfl : w1 = (.int i1) := Option.some.inj ei1
  obtain ⟨i2, ei2⟩ := is_v g7
  obtain rfl : w2 = (.int i2) := Option.some.inj ei2
  obtain ⟨i3, ei3⟩ := is_v g8
  obtain rfl : w3 = (.int i3) := Option.some.inj ei3
  have j9 := Cond.before_iff.mp (hsets _ (List.mem_of_getElem? (i := 3) rfl))
  have j10 := Cond.before_iff.mp (hsets _ (List.mem_of_getElem? (i := 4) rfl))
  have j11 := Cond.before_iff.mp (hsets _ (List.mem_of_getElem? (i := 5) rfl))
  have j12 := Cond.before_iff.mp (hsets _ (List.mem_of_getElem? (i := 6) rfl))
  have j13 := Cond.before_iff.mp (hsets _ (List.mem_of_getElem? (i := 7) rfl))
  obtain ⟨w_cache, ev_w_cache⟩ := exa_v j11
  have S_w_cache := Sta.start ev_w_cache (Or.inr ⟨(kw5 hw), (kw52 hw)⟩)
  have Ex_w_cache : Exa s s.heap w_cache "[Ljava/lang/Integer;" := Exa.start ev_w_cache j11
  obtain ⟨cl_w_cache, Ar_w_cache⟩ := Arr.start ev_w_cache j10
  have ev_v_high := own_staInt j9
  have S_v_high := Sta.start ev_v_high (Or.inl (kw51 hw))
  have jlen := Cond.before_iff.mp (hsets _ (List.mem_of_getElem? (i := 6) rfl))
  have jall := Cond.before_iff.mp (hsets _ (List.mem_of_getElem? (i := 7) rfl))
  obtain ⟨n, o, h1, h2, h3, _, L, rfl, ⟨rfl, N, -⟩, hq⟩ := rm0 l s _ hw tables_1 i0 i1 i2 i3 w_cache s.heap s.heap.size (Nat.le_refl _) (Old.start s) S_v_high S_w_cache (own_cache ev_w_cache Ar_w_cache jlen jall) p e ha hc hk s m _ below hf ((Spec.applies_iff_loose hf).mp happ).1 ⟨rfl, State.Warmed39.refl s, rfl⟩ trivial
  refine ⟨n, _, h1, h2, h3, hpost _ _ _ _ _ _ ⟨Cond.after_iff.mpr rfl, Cond.after_iff.mpr (eq_i res_at (Term.int_eval (1)) rfl), trivial⟩ ⟨hq.1, hq.2.1, (hq.2.2.sift fun y hy => Or.inr (N y hy)).mono (by decide) (by decide)⟩⟩
theorem main_1_1 : Claimed_1_1 := comes_1 fun _ _ _ _ _ _ h hF => ⟨h.1, hF⟩
theorem main_1_2 : Claimed_1_2 := comes_1 fun _ _ _ _ _ _ h hF => ⟨h.2.1, hF⟩
end Jvm.Pilot.@@N@@
namespace Jvm.Pilot.@@N@@
open Jvm Jvm.ClassFile Sem Op Lib Jvm.Free Jvm.Stand Jvm.Pilot.@@N@@.Jvm.D
/-! MADE BY PROGRAM (witnessworld.py) out of the Statement's table words and the real class files: 16 classes; the members and pool entries that the words name. The judged class is class 1, her method 1. -/
namespace start1
open Jvm.ClassFile
def u (s : String) : CpInfo := .utf8 (stringToUtf16 s)
/-- a pool by its gaps: so many unusable entries, then the entry; so many at the end -/
def gap : Nat → List CpInfo → List CpInfo
  | 0, r => r
  | n + 1, r => .unusable :: gap n r
def poolList (es : List (Nat × CpInfo)) (last : Nat) : List CpInfo := es.foldr (fun e r => gap e.1 (e.2 :: r)) (gap last [])
def pool (es : List (Nat × CpInfo)) (last : Nat) : Array CpInfo := ⟨poolList es last⟩
def fileOf (pool : Array CpInfo) (this : Nat) (attrs : Array Attribute := #[]) (ms : Array MethodInfo := #[]) (fl : Nat := 33) (sup : Nat := 0) (ifs : Array Nat := #[]) (fds : Array FieldInfo := #[]) : ClassFile where
  minorVersion := 0
  majorVersion := 65
  constantPool := pool
  accessFlags := fl
  thisClass := this
  superClass := sup
  interfaces := ifs
  fields := fds
  methods := ms
  attributes := attrs
def plain (name : String) (sup : Option ClassId) : Class where
  name := name
  kind := .ordinary
  loader := none
  accessFlags := 33
  super := sup
  interfaces := #[]
  cf := none
  fields := #[]
  methods := #[]
  instanceTypes := #[]
  staticTypes := #[]
  resolved := #[]
  callSites := []
  init := .initialized
  statics := none
  mirror := none

def pool0 : Array CpInfo := pool [(5, u "<init>"), (0, u "()V"), (1, .class_ 10), (1, u "java/lang/Object")] 113

def k0c0 : Code := { maxStack := 0, maxLocals := 1, code := object_method_1_code, exceptionTable := #[], attributes := #[] }
def k0m0 : Method := { name := "<init>", desc := "()V", sig := { parameters := [], returnType := none }, accessFlags := 1, code := some k0c0 }
/-- java/lang/Object -/
def k0 : Class := { plain "java/lang/Object" none with
  accessFlags := 33
  interfaces := #[]
  cf := some (fileOf pool0 8 #[] #[{ accessFlags := 1, nameIndex := 5, descriptorIndex := 6, attributes := #[] }] 33 0 #[] #[])
  fields := #[]
  methods := #[k0m0]
  instanceTypes := #[]
  staticTypes := #[]
  resolved := Array.replicate 124 none
  statics := none }

def pool1 : Array CpInfo := pool [(2, .class_ 4), (1, u "java/lang/Object"), (0, u "<init>"), (0, u "()V"), (0, .methodref 8 9), (0, .class_ 10), (0, .nameAndType 11 12), (0, u "java/lang/Integer"), (0, u "valueOf"), (0, u "(I)Ljava/lang/Integer;"), (0, .class_ 14), (0, u "com/example/mergewright/mergewright/merge/Match"), (0, .methodref 13 16), (0, .nameAndType 5 17), (0, u "(Ljava/lang/Object;Ljava/lang/Object;Ljava/lang/Object;)V"), (0, .methodref 13 19), (0, .nameAndType 20 21), (0, u "isInsertedByBoth"), (0, u "()Z"), (0, .methodref 13 23), (0, .nameAndType 24 25), (0, u "inserted"), (0, u "(Ljava/lang/Object;)Lcom/example/mergewright/mergewright/merge/Match;"), (0, .methodref 13 27), (0, .nameAndType 28 29), (0, u "insertedByBoth"), (0, u "(Ljava/lang/Object;Ljava/lang/Object;)Lcom/example/mergewright/mergewright/merge/Match;"), (0, .class_ 31), (0, u "com/example/mergewright/mergewright/merge/MatchIsInsertedByBothPinLaw"), (2, u "law"), (0, u "(IIII)Z")] 3

def k1m0 : Method := { name := "<init>", desc := "()V", sig := { parameters := [], returnType := none }, accessFlags := 1, code := none }
def k1c1 : Code := { maxStack := 5, maxLocals := 16, code := code, exceptionTable := #[], attributes := #[] }
def k1m1 : Method := { name := "law", desc := "(IIII)Z", sig := { parameters := [.int, .int, .int, .int], returnType := some .boolean }, accessFlags := 9, code := some k1c1 }
/-- com/example/mergewright/mergewright/merge/MatchIsInsertedByBothPinLaw -/
def k1 : Class := { plain "com/example/mergewright/mergewright/merge/MatchIsInsertedByBothPinLaw" (some 0) with
  accessFlags := 49
  interfaces := #[]
  cf := some (fileOf pool1 30 #[] #[{ accessFlags := 1, nameIndex := 5, descriptorIndex := 6, attributes := #[] }, { accessFlags := 9, nameIndex := 34, descriptorIndex := 35, attributes := #[] }] 49 2 #[] #[])
  fields := #[]
  methods := #[k1m0, k1m1]
  instanceTypes := #[]
  staticTypes := #[]
  resolved := Array.replicate 39 none
  statics := none }

def pool2 : Array CpInfo := pool [(1, .class_ 2), (0, u "java/io/Serializable"), (0, .class_ 4), (0, u "java/lang/Object")] 2

/-- java/io/Serializable -/
def k2 : Class := { plain "java/io/Serializable" (some 0) with
  accessFlags := 1537
  interfaces := #[]
  cf := some (fileOf pool2 1 #[] #[] 1537 3 #[] #[])
  fields := #[]
  methods := #[]
  instanceTypes := #[]
  staticTypes := #[]
  resolved := Array.replicate 7 none
  statics := none }

def pool3 : Array CpInfo := pool [(1, .methodref 2 3), (0, .class_ 4), (0, .nameAndType 5 6), (0, u "java/lang/Object"), (0, u "<init>"), (0, u "()V"), (1, .class_ 10), (1, u "java/lang/Number"), (2, .class_ 14), (0, u "java/io/Serializable"), (0, u "serialVersionUID"), (0, u "J")] 20

def k3c0 : Code := { maxStack := 1, maxLocals := 1, code := jdk_18_method_1_code, exceptionTable := #[], attributes := #[] }
def k3m0 : Method := { name := "<init>", desc := "()V", sig := { parameters := [], returnType := none }, accessFlags := 1, code := some k3c0 }
/-- java/lang/Number -/
def k3 : Class := { plain "java/lang/Number" (some 0) with
  accessFlags := 1057
  interfaces := #[2]
  cf := some (fileOf pool3 8 #[] #[{ accessFlags := 1, nameIndex := 5, descriptorIndex := 6, attributes := #[] }] 1057 2 #[13] #[{ accessFlags := 26, nameIndex := 15, descriptorIndex := 16, attributes := #[] }])
  fields := #[{ name := "serialVersionUID", type := .long, accessFlags := 26, slot := 0, constantValue := 0 }]
  methods := #[k3m0]
  instanceTypes := #[]
  staticTypes := #[.long]
  resolved := Array.replicate 37 none
  statics := none }

def pool4 : Array CpInfo := pool [(1, .class_ 2), (0, u "java/lang/Comparable"), (0, .class_ 4), (0, u "java/lang/Object")] 7

/-- java/lang/Comparable -/
def k4 : Class := { plain "java/lang/Comparable" (some 0) with
  accessFlags := 1537
  interfaces := #[]
  cf := some (fileOf pool4 1 #[] #[] 1537 3 #[] #[])
  fields := #[]
  methods := #[]
  instanceTypes := #[]
  staticTypes := #[]
  resolved := Array.replicate 12 none
  statics := none }

def pool5 : Array CpInfo := pool [(1, .class_ 2), (0, u "java/lang/constant/Constable"), (0, .class_ 4), (0, u "java/lang/Object")] 6

/-- java/lang/constant/Constable -/
def k5 : Class := { plain "java/lang/constant/Constable" (some 0) with
  accessFlags := 1537
  interfaces := #[]
  cf := some (fileOf pool5 1 #[] #[] 1537 3 #[] #[])
  fields := #[]
  methods := #[]
  instanceTypes := #[]
  staticTypes := #[]
  resolved := Array.replicate 11 none
  statics := none }

def pool6 : Array CpInfo := pool [(1, .class_ 2), (0, u "java/lang/constant/ConstantDesc"), (0, .class_ 4), (0, u "java/lang/Object")] 32

/-- java/lang/constant/ConstantDesc -/
def k6 : Class := { plain "java/lang/constant/ConstantDesc" (some 0) with
  accessFlags := 1537
  interfaces := #[]
  cf := some (fileOf pool6 1 #[] #[] 1537 3 #[] #[])
  fields := #[]
  methods := #[]
  instanceTypes := #[]
  staticTypes := #[]
  resolved := Array.replicate 37 none
  statics := none }

def pool7 : Array CpInfo := pool [(1, .class_ 2), (0, u "java/lang/Integer"), (16, u "digits"), (0, u "[C"), (46, u "<init>"), (17, u "DigitOnes"), (0, u "[B"), (2, u "DigitTens"), (10, .nameAndType 67 101), (0, u "()V"), (85, u "valueOf"), (0, u "(I)Ljava/lang/Integer;"), (0, .class_ 190), (0, u "java/lang/Integer$IntegerCache"), (0, .fieldref 189 192), (0, .nameAndType 193 194), (0, u "high"), (0, u "I"), (0, .fieldref 189 196), (0, .nameAndType 197 198), (0, u "cache"), (0, u "[Ljava/lang/Integer;"), (0, .methodref 1 200), (0, .nameAndType 67 201), (0, u "(I)V"), (0, .methodref 203 100), (0, .class_ 204), (0, u "java/lang/Number"), (0, .fieldref 1 206), (0, .nameAndType 207 194), (0, u "value"), (94, u "TYPE"), (0, u "Ljava/lang/Class;"), (0, .class_ 305), (0, u "java/lang/Comparable"), (0, .class_ 307), (0, u "java/lang/constant/Constable"), (0, .class_ 309), (0, u "java/lang/constant/ConstantDesc"), (0, u "MIN_VALUE"), (1, u "MAX_VALUE"), (3, u "SIZE"), (1, u "BYTES"), (1, u "serialVersionUID"), (0, u "J")] 131

def k7c0 : Code := { maxStack := 3, maxLocals := 1, code := jdk_33_method_22_code, exceptionTable := #[], attributes := #[] }
def k7m0 : Method := { name := "valueOf", desc := "(I)Ljava/lang/Integer;", sig := { parameters := [.int], returnType := some (.object "java/lang/Integer") }, accessFlags := 9, code := some k7c0 }
def k7c1 : Code := { maxStack := 2, maxLocals := 2, code := jdk_33_method_23_code, exceptionTable := #[], attributes := #[] }
def k7m1 : Method := { name := "<init>", desc := "(I)V", sig := { parameters := [.int], returnType := none }, accessFlags := 1, code := some k7c1 }
/-- java/lang/Integer -/
def k7 : Class := { plain "java/lang/Integer" (some 3) with
  accessFlags := 49
  interfaces := #[4, 5, 6]
  cf := some (fileOf pool7 1 #[.nestMembers #[189]] #[{ accessFlags := 9, nameIndex := 187, descriptorIndex := 188, attributes := #[] }, { accessFlags := 1, nameIndex := 67, descriptorIndex := 201, attributes := #[] }] 49 203 #[304, 306, 308] #[{ accessFlags := 25, nameIndex := 310, descriptorIndex := 194, attributes := #[] }, { accessFlags := 25, nameIndex := 312, descriptorIndex := 194, attributes := #[] }, { accessFlags := 25, nameIndex := 302, descriptorIndex := 303, attributes := #[] }, { accessFlags := 24, nameIndex := 19, descriptorIndex := 20, attributes := #[] }, { accessFlags := 24, nameIndex := 89, descriptorIndex := 86, attributes := #[] }, { accessFlags := 24, nameIndex := 85, descriptorIndex := 86, attributes := #[] }, { accessFlags := 18, nameIndex := 207, descriptorIndex := 194, attributes := #[] }, { accessFlags := 25, nameIndex := 316, descriptorIndex := 194, attributes := #[] }, { accessFlags := 25, nameIndex := 318, descriptorIndex := 194, attributes := #[] }, { accessFlags := 26, nameIndex := 320, descriptorIndex := 321, attributes := #[] }])
  fields := #[{ name := "MIN_VALUE", type := .int, accessFlags := 25, slot := 0, constantValue := 0 }, { name := "MAX_VALUE", type := .int, accessFlags := 25, slot := 1, constantValue := 0 }, { name := "TYPE", type := (.object "java/lang/Class"), accessFlags := 25, slot := 2, constantValue := 0 }, { name := "digits", type := (.array .char), accessFlags := 24, slot := 3, constantValue := 0 }, { name := "DigitTens", type := (.array .byte), accessFlags := 24, slot := 4, constantValue := 0 }, { name := "DigitOnes", type := (.array .byte), accessFlags := 24, slot := 5, constantValue := 0 }, { name := "value", type := .int, accessFlags := 18, slot := 0, constantValue := 0 }, { name := "SIZE", type := .int, accessFlags := 25, slot := 6, constantValue := 0 }, { name := "BYTES", type := .int, accessFlags := 25, slot := 7, constantValue := 0 }, { name := "serialVersionUID", type := .long, accessFlags := 26, slot := 8, constantValue := 0 }]
  methods := #[k7m0, k7m1]
  instanceTypes := #[.int]
  staticTypes := #[.int, .int, (.object "java/lang/Class"), (.array .char), (.array .byte), (.array .byte), .int, .int, .long]
  resolved := Array.replicate 453 none
  statics := none }

def pool8 : Array CpInfo := pool [(2, .class_ 4), (1, u "java/lang/Object"), (0, u "<init>"), (0, u "()V"), (0, .class_ 8), (0, u "java/lang/Integer"), (7, .class_ 18), (1, u "java/lang/Integer$IntegerCache"), (0, u "$assertionsDisabled"), (0, u "Z"), (26, u "high"), (0, u "I"), (8, u "archivedCache"), (0, u "[Ljava/lang/Integer;"), (12, u "cache"), (0, u "low")] 27

def k8m0 : Method := { name := "<init>", desc := "()V", sig := { parameters := [], returnType := none }, accessFlags := 2, code := none }
/-- java/lang/Integer$IntegerCache -/
def k8 : Class := { plain "java/lang/Integer$IntegerCache" (some 0) with
  accessFlags := 48
  interfaces := #[]
  cf := some (fileOf pool8 16 #[.nestHost 7] #[{ accessFlags := 2, nameIndex := 5, descriptorIndex := 6, attributes := #[] }] 48 2 #[] #[{ accessFlags := 24, nameIndex := 72, descriptorIndex := 48, attributes := #[] }, { accessFlags := 24, nameIndex := 47, descriptorIndex := 48, attributes := #[] }, { accessFlags := 24, nameIndex := 71, descriptorIndex := 58, attributes := #[] }, { accessFlags := 8, nameIndex := 57, descriptorIndex := 58, attributes := #[] }, { accessFlags := 4120, nameIndex := 19, descriptorIndex := 20, attributes := #[] }])
  fields := #[{ name := "low", type := .int, accessFlags := 24, slot := 0, constantValue := 0 }, { name := "high", type := .int, accessFlags := 24, slot := 1, constantValue := 0 }, { name := "cache", type := (.array (.object "java/lang/Integer")), accessFlags := 24, slot := 2, constantValue := 0 }, { name := "archivedCache", type := (.array (.object "java/lang/Integer")), accessFlags := 8, slot := 3, constantValue := 0 }, { name := "$assertionsDisabled", type := .boolean, accessFlags := 4120, slot := 4, constantValue := 0 }]
  methods := #[k8m0]
  instanceTypes := #[]
  staticTypes := #[.int, .int, (.array (.object "java/lang/Integer")), (.array (.object "java/lang/Integer")), .boolean]
  resolved := Array.replicate 100 none
  statics := some 0 }

def pool9 : Array CpInfo := pool [(1, .methodref 2 3), (0, .class_ 4), (0, .nameAndType 5 6), (0, u "java/lang/Object"), (0, u "<init>"), (0, u "()V"), (0, .fieldref 8 9), (0, .class_ 10), (0, .nameAndType 11 12), (0, u "com/example/mergewright/mergewright/merge/Match"), (0, u "current"), (0, u "Ljava/lang/Object;"), (0, .fieldref 8 14), (0, .nameAndType 15 12), (0, u "base"), (0, .fieldref 8 17), (0, .nameAndType 18 12), (0, u "other"), (0, .methodref 8 20), (0, .nameAndType 5 21), (0, u "(Ljava/lang/Object;Ljava/lang/Object;Ljava/lang/Object;)V"), (5, u "inserted"), (0, u "(Ljava/lang/Object;)Lcom/example/mergewright/mergewright/merge/Match;"), (1, u "insertedByBoth"), (0, u "(Ljava/lang/Object;Ljava/lang/Object;)Lcom/example/mergewright/mergewright/merge/Match;"), (1, u "isInsertedByBoth"), (0, u "()Z")] 6

def k9c0 : Code := { maxStack := 2, maxLocals := 4, code := prog_31_method_1_code, exceptionTable := #[], attributes := #[] }
def k9m0 : Method := { name := "<init>", desc := "(Ljava/lang/Object;Ljava/lang/Object;Ljava/lang/Object;)V", sig := { parameters := [(.object "java/lang/Object"), (.object "java/lang/Object"), (.object "java/lang/Object")], returnType := none }, accessFlags := 0, code := some k9c0 }
def k9c1 : Code := { maxStack := 5, maxLocals := 1, code := prog_31_method_2_code, exceptionTable := #[], attributes := #[] }
def k9m1 : Method := { name := "inserted", desc := "(Ljava/lang/Object;)Lcom/example/mergewright/mergewright/merge/Match;", sig := { parameters := [(.object "java/lang/Object")], returnType := some (.object "com/example/mergewright/mergewright/merge/Match") }, accessFlags := 8, code := some k9c1 }
def k9c2 : Code := { maxStack := 5, maxLocals := 2, code := prog_31_method_3_code, exceptionTable := #[], attributes := #[] }
def k9m2 : Method := { name := "insertedByBoth", desc := "(Ljava/lang/Object;Ljava/lang/Object;)Lcom/example/mergewright/mergewright/merge/Match;", sig := { parameters := [(.object "java/lang/Object"), (.object "java/lang/Object")], returnType := some (.object "com/example/mergewright/mergewright/merge/Match") }, accessFlags := 8, code := some k9c2 }
def k9c3 : Code := { maxStack := 1, maxLocals := 1, code := prog_31_method_4_code, exceptionTable := #[], attributes := #[] }
def k9m3 : Method := { name := "isInsertedByBoth", desc := "()Z", sig := { parameters := [], returnType := some .boolean }, accessFlags := 0, code := some k9c3 }
/-- com/example/mergewright/mergewright/merge/Match -/
def k9 : Class := { plain "com/example/mergewright/mergewright/merge/Match" (some 0) with
  accessFlags := 32
  interfaces := #[]
  cf := some (fileOf pool9 8 #[] #[{ accessFlags := 0, nameIndex := 5, descriptorIndex := 21, attributes := #[] }, { accessFlags := 8, nameIndex := 27, descriptorIndex := 28, attributes := #[] }, { accessFlags := 8, nameIndex := 30, descriptorIndex := 31, attributes := #[] }, { accessFlags := 0, nameIndex := 33, descriptorIndex := 34, attributes := #[] }] 32 2 #[] #[{ accessFlags := 18, nameIndex := 11, descriptorIndex := 12, attributes := #[] }, { accessFlags := 18, nameIndex := 15, descriptorIndex := 12, attributes := #[] }, { accessFlags := 18, nameIndex := 18, descriptorIndex := 12, attributes := #[] }])
  fields := #[{ name := "current", type := (.object "java/lang/Object"), accessFlags := 18, slot := 0, constantValue := 0 }, { name := "base", type := (.object "java/lang/Object"), accessFlags := 18, slot := 1, constantValue := 0 }, { name := "other", type := (.object "java/lang/Object"), accessFlags := 18, slot := 2, constantValue := 0 }]
  methods := #[k9m0, k9m1, k9m2, k9m3]
  instanceTypes := #[(.object "java/lang/Object"), (.object "java/lang/Object"), (.object "java/lang/Object")]
  staticTypes := #[]
  resolved := Array.replicate 41 none
  statics := none }

def pool10 : Array CpInfo := pool [(1, u "java/lang/Cloneable"), (0, .class_ 1), (0, u "java/lang/Object"), (0, .class_ 3)] 3

/-- java/lang/Cloneable -/
def k10 : Class := { plain "java/lang/Cloneable" (some 0) with
  accessFlags := 1537
  interfaces := #[]
  cf := some (fileOf pool10 2 #[] #[] 1537 4 #[] #[])
  fields := #[]
  methods := #[]
  instanceTypes := #[]
  staticTypes := #[]
  resolved := Array.replicate 8 none
  statics := none }

/-- the primitive byte -/
def k11 : Class := { plain "byte" none with kind := .primitive 'B', accessFlags := 0x411 }
/-- [B -/
def k12 : Class := { plain "[B" (some 0) with kind := .array 11 .byte, interfaces := #[10, 2], accessFlags := 1041 }

/-- the primitive int -/
def k13 : Class := { plain "int" none with kind := .primitive 'I', accessFlags := 0x411 }
/-- [I -/
def k14 : Class := { plain "[I" (some 0) with kind := .array 13 .int, interfaces := #[10, 2], accessFlags := 1041 }

/-- [Ljava/lang/Integer; -/
def k15 : Class := { plain "[Ljava/lang/Integer;" (some 0) with kind := .array 7 (.object "java/lang/Integer"), interfaces := #[10, 2], accessFlags := 1041 }

def heap : Heap := #[{ cls := 8, slots := #[.int 0, .int 127, .ref 1, .null, .int 0], vm := .statics 8 },
  { cls := 15, slots := #[.ref 2, .ref 3, .ref 4, .ref 5, .ref 6, .ref 7, .ref 8, .ref 9, .ref 10, .ref 11, .ref 12, .ref 13, .ref 14, .ref 15, .ref 16, .ref 17, .ref 18, .ref 19, .ref 20, .ref 21, .ref 22, .ref 23, .ref 24, .ref 25, .ref 26, .ref 27, .ref 28, .ref 29, .ref 30, .ref 31, .ref 32, .ref 33, .ref 34, .ref 35, .ref 36, .ref 37, .ref 38, .ref 39, .ref 40, .ref 41, .ref 42, .ref 43, .ref 44, .ref 45, .ref 46, .ref 47, .ref 48, .ref 49, .ref 50, .ref 51, .ref 52, .ref 53, .ref 54, .ref 55, .ref 56, .ref 57, .ref 58, .ref 59, .ref 60, .ref 61, .ref 62, .ref 63, .ref 64, .ref 65, .ref 66, .ref 67, .ref 68, .ref 69, .ref 70, .ref 71, .ref 72, .ref 73, .ref 74, .ref 75, .ref 76, .ref 77, .ref 78, .ref 79, .ref 80, .ref 81, .ref 82, .ref 83, .ref 84, .ref 85, .ref 86, .ref 87, .ref 88, .ref 89, .ref 90, .ref 91, .ref 92, .ref 93, .ref 94, .ref 95, .ref 96, .ref 97, .ref 98, .ref 99, .ref 100, .ref 101, .ref 102, .ref 103, .ref 104, .ref 105, .ref 106, .ref 107, .ref 108, .ref 109, .ref 110, .ref 111, .ref 112, .ref 113, .ref 114, .ref 115, .ref 116, .ref 117, .ref 118, .ref 119, .ref 120, .ref 121, .ref 122, .ref 123, .ref 124, .ref 125, .ref 126, .ref 127, .ref 128, .ref 129, .ref 130, .ref 131, .ref 132, .ref 133, .ref 134, .ref 135, .ref 136, .ref 137, .ref 138, .ref 139, .ref 140, .ref 141, .ref 142, .ref 143, .ref 144, .ref 145, .ref 146, .ref 147, .ref 148, .ref 149, .ref 150, .ref 151, .ref 152, .ref 153, .ref 154, .ref 155, .ref 156, .ref 157, .ref 158, .ref 159, .ref 160, .ref 161, .ref 162, .ref 163, .ref 164, .ref 165, .ref 166, .ref 167, .ref 168, .ref 169, .ref 170, .ref 171, .ref 172, .ref 173, .ref 174, .ref 175, .ref 176, .ref 177, .ref 178, .ref 179, .ref 180, .ref 181, .ref 182, .ref 183, .ref 184, .ref 185, .ref 186, .ref 187, .ref 188, .ref 189, .ref 190, .ref 191, .ref 192, .ref 193, .ref 194, .ref 195, .ref 196, .ref 197, .ref 198, .ref 199, .ref 200, .ref 201, .ref 202, .ref 203, .ref 204, .ref 205, .ref 206, .ref 207, .ref 208, .ref 209, .ref 210, .ref 211, .ref 212, .ref 213, .ref 214, .ref 215, .ref 216, .ref 217, .ref 218, .ref 219, .ref 220, .ref 221, .ref 222, .ref 223, .ref 224, .ref 225, .ref 226, .ref 227, .ref 228, .ref 229, .ref 230, .ref 231, .ref 232, .ref 233, .ref 234, .ref 235, .ref 236, .ref 237, .ref 238, .ref 239, .ref 240, .ref 241, .ref 242, .ref 243, .ref 244, .ref 245, .ref 246, .ref 247, .ref 248, .ref 249, .ref 250, .ref 251, .ref 252, .ref 253, .ref 254, .ref 255, .ref 256, .ref 257], vm := .none },
  { cls := 7, slots := #[.int (-128)], vm := .none },
  { cls := 7, slots := #[.int (-127)], vm := .none },
  { cls := 7, slots := #[.int (-126)], vm := .none },
  { cls := 7, slots := #[.int (-125)], vm := .none },
  { cls := 7, slots := #[.int (-124)], vm := .none },
  { cls := 7, slots := #[.int (-123)], vm := .none },
  { cls := 7, slots := #[.int (-122)], vm := .none },
  { cls := 7, slots := #[.int (-121)], vm := .none },
  { cls := 7, slots := #[.int (-120)], vm := .none },
  { cls := 7, slots := #[.int (-119)], vm := .none },
  { cls := 7, slots := #[.int (-118)], vm := .none },
  { cls := 7, slots := #[.int (-117)], vm := .none },
  { cls := 7, slots := #[.int (-116)], vm := .none },
  { cls := 7, slots := #[.int (-115)], vm := .none },
  { cls := 7, slots := #[.int (-114)], vm := .none },
  { cls := 7, slots := #[.int (-113)], vm := .none },
  { cls := 7, slots := #[.int (-112)], vm := .none },
  { cls := 7, slots := #[.int (-111)], vm := .none },
  { cls := 7, slots := #[.int (-110)], vm := .none },
  { cls := 7, slots := #[.int (-109)], vm := .none },
  { cls := 7, slots := #[.int (-108)], vm := .none },
  { cls := 7, slots := #[.int (-107)], vm := .none },
  { cls := 7, slots := #[.int (-106)], vm := .none },
  { cls := 7, slots := #[.int (-105)], vm := .none },
  { cls := 7, slots := #[.int (-104)], vm := .none },
  { cls := 7, slots := #[.int (-103)], vm := .none },
  { cls := 7, slots := #[.int (-102)], vm := .none },
  { cls := 7, slots := #[.int (-101)], vm := .none },
  { cls := 7, slots := #[.int (-100)], vm := .none },
  { cls := 7, slots := #[.int (-99)], vm := .none },
  { cls := 7, slots := #[.int (-98)], vm := .none },
  { cls := 7, slots := #[.int (-97)], vm := .none },
  { cls := 7, slots := #[.int (-96)], vm := .none },
  { cls := 7, slots := #[.int (-95)], vm := .none },
  { cls := 7, slots := #[.int (-94)], vm := .none },
  { cls := 7, slots := #[.int (-93)], vm := .none },
  { cls := 7, slots := #[.int (-92)], vm := .none },
  { cls := 7, slots := #[.int (-91)], vm := .none },
  { cls := 7, slots := #[.int (-90)], vm := .none },
  { cls := 7, slots := #[.int (-89)], vm := .none },
  { cls := 7, slots := #[.int (-88)], vm := .none },
  { cls := 7, slots := #[.int (-87)], vm := .none },
  { cls := 7, slots := #[.int (-86)], vm := .none },
  { cls := 7, slots := #[.int (-85)], vm := .none },
  { cls := 7, slots := #[.int (-84)], vm := .none },
  { cls := 7, slots := #[.int (-83)], vm := .none },
  { cls := 7, slots := #[.int (-82)], vm := .none },
  { cls := 7, slots := #[.int (-81)], vm := .none },
  { cls := 7, slots := #[.int (-80)], vm := .none },
  { cls := 7, slots := #[.int (-79)], vm := .none },
  { cls := 7, slots := #[.int (-78)], vm := .none },
  { cls := 7, slots := #[.int (-77)], vm := .none },
  { cls := 7, slots := #[.int (-76)], vm := .none },
  { cls := 7, slots := #[.int (-75)], vm := .none },
  { cls := 7, slots := #[.int (-74)], vm := .none },
  { cls := 7, slots := #[.int (-73)], vm := .none },
  { cls := 7, slots := #[.int (-72)], vm := .none },
  { cls := 7, slots := #[.int (-71)], vm := .none },
  { cls := 7, slots := #[.int (-70)], vm := .none },
  { cls := 7, slots := #[.int (-69)], vm := .none },
  { cls := 7, slots := #[.int (-68)], vm := .none },
  { cls := 7, slots := #[.int (-67)], vm := .none },
  { cls := 7, slots := #[.int (-66)], vm := .none },
  { cls := 7, slots := #[.int (-65)], vm := .none },
  { cls := 7, slots := #[.int (-64)], vm := .none },
  { cls := 7, slots := #[.int (-63)], vm := .none },
  { cls := 7, slots := #[.int (-62)], vm := .none },
  { cls := 7, slots := #[.int (-61)], vm := .none },
  { cls := 7, slots := #[.int (-60)], vm := .none },
  { cls := 7, slots := #[.int (-59)], vm := .none },
  { cls := 7, slots := #[.int (-58)], vm := .none },
  { cls := 7, slots := #[.int (-57)], vm := .none },
  { cls := 7, slots := #[.int (-56)], vm := .none },
  { cls := 7, slots := #[.int (-55)], vm := .none },
  { cls := 7, slots := #[.int (-54)], vm := .none },
  { cls := 7, slots := #[.int (-53)], vm := .none },
  { cls := 7, slots := #[.int (-52)], vm := .none },
  { cls := 7, slots := #[.int (-51)], vm := .none },
  { cls := 7, slots := #[.int (-50)], vm := .none },
  { cls := 7, slots := #[.int (-49)], vm := .none },
  { cls := 7, slots := #[.int (-48)], vm := .none },
  { cls := 7, slots := #[.int (-47)], vm := .none },
  { cls := 7, slots := #[.int (-46)], vm := .none },
  { cls := 7, slots := #[.int (-45)], vm := .none },
  { cls := 7, slots := #[.int (-44)], vm := .none },
  { cls := 7, slots := #[.int (-43)], vm := .none },
  { cls := 7, slots := #[.int (-42)], vm := .none },
  { cls := 7, slots := #[.int (-41)], vm := .none },
  { cls := 7, slots := #[.int (-40)], vm := .none },
  { cls := 7, slots := #[.int (-39)], vm := .none },
  { cls := 7, slots := #[.int (-38)], vm := .none },
  { cls := 7, slots := #[.int (-37)], vm := .none },
  { cls := 7, slots := #[.int (-36)], vm := .none },
  { cls := 7, slots := #[.int (-35)], vm := .none },
  { cls := 7, slots := #[.int (-34)], vm := .none },
  { cls := 7, slots := #[.int (-33)], vm := .none },
  { cls := 7, slots := #[.int (-32)], vm := .none },
  { cls := 7, slots := #[.int (-31)], vm := .none },
  { cls := 7, slots := #[.int (-30)], vm := .none },
  { cls := 7, slots := #[.int (-29)], vm := .none },
  { cls := 7, slots := #[.int (-28)], vm := .none },
  { cls := 7, slots := #[.int (-27)], vm := .none },
  { cls := 7, slots := #[.int (-26)], vm := .none },
  { cls := 7, slots := #[.int (-25)], vm := .none },
  { cls := 7, slots := #[.int (-24)], vm := .none },
  { cls := 7, slots := #[.int (-23)], vm := .none },
  { cls := 7, slots := #[.int (-22)], vm := .none },
  { cls := 7, slots := #[.int (-21)], vm := .none },
  { cls := 7, slots := #[.int (-20)], vm := .none },
  { cls := 7, slots := #[.int (-19)], vm := .none },
  { cls := 7, slots := #[.int (-18)], vm := .none },
  { cls := 7, slots := #[.int (-17)], vm := .none },
  { cls := 7, slots := #[.int (-16)], vm := .none },
  { cls := 7, slots := #[.int (-15)], vm := .none },
  { cls := 7, slots := #[.int (-14)], vm := .none },
  { cls := 7, slots := #[.int (-13)], vm := .none },
  { cls := 7, slots := #[.int (-12)], vm := .none },
  { cls := 7, slots := #[.int (-11)], vm := .none },
  { cls := 7, slots := #[.int (-10)], vm := .none },
  { cls := 7, slots := #[.int (-9)], vm := .none },
  { cls := 7, slots := #[.int (-8)], vm := .none },
  { cls := 7, slots := #[.int (-7)], vm := .none },
  { cls := 7, slots := #[.int (-6)], vm := .none },
  { cls := 7, slots := #[.int (-5)], vm := .none },
  { cls := 7, slots := #[.int (-4)], vm := .none },
  { cls := 7, slots := #[.int (-3)], vm := .none },
  { cls := 7, slots := #[.int (-2)], vm := .none },
  { cls := 7, slots := #[.int (-1)], vm := .none },
  { cls := 7, slots := #[.int (0)], vm := .none },
  { cls := 7, slots := #[.int (1)], vm := .none },
  { cls := 7, slots := #[.int (2)], vm := .none },
  { cls := 7, slots := #[.int (3)], vm := .none },
  { cls := 7, slots := #[.int (4)], vm := .none },
  { cls := 7, slots := #[.int (5)], vm := .none },
  { cls := 7, slots := #[.int (6)], vm := .none },
  { cls := 7, slots := #[.int (7)], vm := .none },
  { cls := 7, slots := #[.int (8)], vm := .none },
  { cls := 7, slots := #[.int (9)], vm := .none },
  { cls := 7, slots := #[.int (10)], vm := .none },
  { cls := 7, slots := #[.int (11)], vm := .none },
  { cls := 7, slots := #[.int (12)], vm := .none },
  { cls := 7, slots := #[.int (13)], vm := .none },
  { cls := 7, slots := #[.int (14)], vm := .none },
  { cls := 7, slots := #[.int (15)], vm := .none },
  { cls := 7, slots := #[.int (16)], vm := .none },
  { cls := 7, slots := #[.int (17)], vm := .none },
  { cls := 7, slots := #[.int (18)], vm := .none },
  { cls := 7, slots := #[.int (19)], vm := .none },
  { cls := 7, slots := #[.int (20)], vm := .none },
  { cls := 7, slots := #[.int (21)], vm := .none },
  { cls := 7, slots := #[.int (22)], vm := .none },
  { cls := 7, slots := #[.int (23)], vm := .none },
  { cls := 7, slots := #[.int (24)], vm := .none },
  { cls := 7, slots := #[.int (25)], vm := .none },
  { cls := 7, slots := #[.int (26)], vm := .none },
  { cls := 7, slots := #[.int (27)], vm := .none },
  { cls := 7, slots := #[.int (28)], vm := .none },
  { cls := 7, slots := #[.int (29)], vm := .none },
  { cls := 7, slots := #[.int (30)], vm := .none },
  { cls := 7, slots := #[.int (31)], vm := .none },
  { cls := 7, slots := #[.int (32)], vm := .none },
  { cls := 7, slots := #[.int (33)], vm := .none },
  { cls := 7, slots := #[.int (34)], vm := .none },
  { cls := 7, slots := #[.int (35)], vm := .none },
  { cls := 7, slots := #[.int (36)], vm := .none },
  { cls := 7, slots := #[.int (37)], vm := .none },
  { cls := 7, slots := #[.int (38)], vm := .none },
  { cls := 7, slots := #[.int (39)], vm := .none },
  { cls := 7, slots := #[.int (40)], vm := .none },
  { cls := 7, slots := #[.int (41)], vm := .none },
  { cls := 7, slots := #[.int (42)], vm := .none },
  { cls := 7, slots := #[.int (43)], vm := .none },
  { cls := 7, slots := #[.int (44)], vm := .none },
  { cls := 7, slots := #[.int (45)], vm := .none },
  { cls := 7, slots := #[.int (46)], vm := .none },
  { cls := 7, slots := #[.int (47)], vm := .none },
  { cls := 7, slots := #[.int (48)], vm := .none },
  { cls := 7, slots := #[.int (49)], vm := .none },
  { cls := 7, slots := #[.int (50)], vm := .none },
  { cls := 7, slots := #[.int (51)], vm := .none },
  { cls := 7, slots := #[.int (52)], vm := .none },
  { cls := 7, slots := #[.int (53)], vm := .none },
  { cls := 7, slots := #[.int (54)], vm := .none },
  { cls := 7, slots := #[.int (55)], vm := .none },
  { cls := 7, slots := #[.int (56)], vm := .none },
  { cls := 7, slots := #[.int (57)], vm := .none },
  { cls := 7, slots := #[.int (58)], vm := .none },
  { cls := 7, slots := #[.int (59)], vm := .none },
  { cls := 7, slots := #[.int (60)], vm := .none },
  { cls := 7, slots := #[.int (61)], vm := .none },
  { cls := 7, slots := #[.int (62)], vm := .none },
  { cls := 7, slots := #[.int (63)], vm := .none },
  { cls := 7, slots := #[.int (64)], vm := .none },
  { cls := 7, slots := #[.int (65)], vm := .none },
  { cls := 7, slots := #[.int (66)], vm := .none },
  { cls := 7, slots := #[.int (67)], vm := .none },
  { cls := 7, slots := #[.int (68)], vm := .none },
  { cls := 7, slots := #[.int (69)], vm := .none },
  { cls := 7, slots := #[.int (70)], vm := .none },
  { cls := 7, slots := #[.int (71)], vm := .none },
  { cls := 7, slots := #[.int (72)], vm := .none },
  { cls := 7, slots := #[.int (73)], vm := .none },
  { cls := 7, slots := #[.int (74)], vm := .none },
  { cls := 7, slots := #[.int (75)], vm := .none },
  { cls := 7, slots := #[.int (76)], vm := .none },
  { cls := 7, slots := #[.int (77)], vm := .none },
  { cls := 7, slots := #[.int (78)], vm := .none },
  { cls := 7, slots := #[.int (79)], vm := .none },
  { cls := 7, slots := #[.int (80)], vm := .none },
  { cls := 7, slots := #[.int (81)], vm := .none },
  { cls := 7, slots := #[.int (82)], vm := .none },
  { cls := 7, slots := #[.int (83)], vm := .none },
  { cls := 7, slots := #[.int (84)], vm := .none },
  { cls := 7, slots := #[.int (85)], vm := .none },
  { cls := 7, slots := #[.int (86)], vm := .none },
  { cls := 7, slots := #[.int (87)], vm := .none },
  { cls := 7, slots := #[.int (88)], vm := .none },
  { cls := 7, slots := #[.int (89)], vm := .none },
  { cls := 7, slots := #[.int (90)], vm := .none },
  { cls := 7, slots := #[.int (91)], vm := .none },
  { cls := 7, slots := #[.int (92)], vm := .none },
  { cls := 7, slots := #[.int (93)], vm := .none },
  { cls := 7, slots := #[.int (94)], vm := .none },
  { cls := 7, slots := #[.int (95)], vm := .none },
  { cls := 7, slots := #[.int (96)], vm := .none },
  { cls := 7, slots := #[.int (97)], vm := .none },
  { cls := 7, slots := #[.int (98)], vm := .none },
  { cls := 7, slots := #[.int (99)], vm := .none },
  { cls := 7, slots := #[.int (100)], vm := .none },
  { cls := 7, slots := #[.int (101)], vm := .none },
  { cls := 7, slots := #[.int (102)], vm := .none },
  { cls := 7, slots := #[.int (103)], vm := .none },
  { cls := 7, slots := #[.int (104)], vm := .none },
  { cls := 7, slots := #[.int (105)], vm := .none },
  { cls := 7, slots := #[.int (106)], vm := .none },
  { cls := 7, slots := #[.int (107)], vm := .none },
  { cls := 7, slots := #[.int (108)], vm := .none },
  { cls := 7, slots := #[.int (109)], vm := .none },
  { cls := 7, slots := #[.int (110)], vm := .none },
  { cls := 7, slots := #[.int (111)], vm := .none },
  { cls := 7, slots := #[.int (112)], vm := .none },
  { cls := 7, slots := #[.int (113)], vm := .none },
  { cls := 7, slots := #[.int (114)], vm := .none },
  { cls := 7, slots := #[.int (115)], vm := .none },
  { cls := 7, slots := #[.int (116)], vm := .none },
  { cls := 7, slots := #[.int (117)], vm := .none },
  { cls := 7, slots := #[.int (118)], vm := .none },
  { cls := 7, slots := #[.int (119)], vm := .none },
  { cls := 7, slots := #[.int (120)], vm := .none },
  { cls := 7, slots := #[.int (121)], vm := .none },
  { cls := 7, slots := #[.int (122)], vm := .none },
  { cls := 7, slots := #[.int (123)], vm := .none },
  { cls := 7, slots := #[.int (124)], vm := .none },
  { cls := 7, slots := #[.int (125)], vm := .none },
  { cls := 7, slots := #[.int (126)], vm := .none },
  { cls := 7, slots := #[.int (127)], vm := .none }]
def classes : Array Class := #[k0, k1, k2, k3, k4, k5, k6, k7, k8, k9, k10, k11, k12, k13, k14, k15]
def interned : List (Array UInt16 × Addr) := []
def slotsUsed : Nat := 517
def theMethod : MethodId := ⟨1, 1⟩
def args0 : Array Value := #[.int 5, .int 6, .int 7, .int 8]
def aboutOver (below : List Frame) : State where
  vm := { classes := classes, interned := interned.toArray }
  heap := heap
  slotsUsed := slotsUsed
  threads := #[{ frames := .invoking theMethod args0 :: below }]
def below0 : List Frame := [.native { method := ⟨0, 0⟩, args := #[] }]
def about1 : State := aboutOver below0
def p0 : Program := .bare "" "" ""
def e0 : Env := launch0.env 0 0 0
theorem w_frames : about1.frames = Frame.invoking theMethod args0 :: below0 := rfl
set_option maxRecDepth 65536 in
theorem w_args : argsFit about1.vm theMethod args0 = true := by decide +kernel
set_option maxRecDepth 65536 in
theorem w_heap : heapFits about1 = true := by decide +kernel
set_option maxRecDepth 65536 in
theorem w_runnable : about1.curStatus? = some .runnable := by decide +kernel
set_option maxRecDepth 65536 in
theorem w_alone : about1.alone = true := by decide +kernel
set_option maxRecDepth 65536 in
theorem w_named : about1.methodNamed? x = some theMethod := by decide +kernel
set_option maxRecDepth 65536 in
theorem w_hears : about1.hears theMethod below0 = true := by decide +kernel
set_option maxRecDepth 65536 in
theorem w_ripe : about1.ripe theMethod args0 below0 = true := by decide +kernel
theorem w_running : about1.status = .running := rfl
set_option maxRecDepth 65536 in
theorem w_room : about1.hasRoom e0.platform room_1 = true :=
  launch0.hasRoom_least _ room_1 (by decide +kernel) (by decide +kernel) (by decide +kernel) (by decide +kernel) (by decide +kernel) (by decide +kernel)
theorem allAtoms_all (ts : List Jvm.Cond) (a : Array Jvm.Value) (st : Jvm.State) : (allAtoms ts).before a st = ts.all (fun c => c.before a st) := by
  induction ts with
  | nil => rfl
  | cons c t ih =>
    show (Jvm.Cond.and c (allAtoms t)).before a st = _
    rw [Jvm.Cond.before_and, ih, List.all_cons]
def words1 : List Jvm.Cond := Jvm.Cond.code x code maxLocals ret :: tables_1
/-- a 'code' word, met by the world's own term for the bytes: nothing is compared byte by byte -/
theorem code_word {y : MethodName} {bytes : ByteArray} {mx : Nat} {rt : Option FieldType} {a : Array Value} {s : State} {m : MethodId} {meth : Method} {c : Code} (h1 : s.methodNamed? y = some m) (h2 : s.vm.method? m = some meth) (h3 : meth.code = some c) (h4 : c.code = bytes)
    (h5 : (c.maxLocals == mx && c.exceptionTable.isEmpty && decide (c.maxStack ≤ mostOperands) && decide (meth.sig.returnType = rt) && !meth.locks && decide (parseMethodDescriptor y.desc = some meth.sig)) = true) : (Jvm.Cond.code y bytes mx rt).before a s = true := by
  simp only [Bool.and_eq_true, beq_iff_eq, Bool.not_eq_true', decide_eq_true_eq] at h5
  obtain ⟨⟨⟨⟨⟨g1, g2⟩, g3⟩, g4⟩, g5⟩, g6⟩ := h5
  simp [Cond.before, Cond.holds, Cond.value, h1, h2, h3, h4, g1, g2, g3, g4, g5, g6]
def isCode : Jvm.Cond → Bool
  | .code _ _ _ _ => true
  | _ => false
theorem all_split {L : List Jvm.Cond} {P : Jvm.Cond → Bool} (h1 : L.all (fun c => isCode c || P c) = true) (h2 : ∀ c ∈ L.filter isCode, P c = true) : L.all P = true := by
  refine List.all_eq_true.mpr fun c hc => ?_
  have h := List.all_eq_true.mp h1 c hc
  rcases Bool.eq_false_or_eq_true (isCode c) with hi | hi
  · exact h2 c (List.mem_filter.mpr ⟨hc, hi⟩)
  · simpa [hi] using h
set_option maxRecDepth 65536 in
theorem w_c0 : (Jvm.Cond.code x code maxLocals ret).before args0 about1 = true := code_word (m := ⟨1, 1⟩) (meth := k1m1) (c := k1c1) (by decide +kernel) rfl rfl rfl (by decide +kernel)
set_option maxRecDepth 65536 in
theorem w_c1 : (Jvm.Cond.code ({ cls := "java/lang/Integer", name := "valueOf", desc := "(I)Ljava/lang/Integer;" } : Jvm.MethodName) jdk_33_method_22_code (1 : Nat) (Option.some (Jvm.ClassFile.FieldType.object "java/lang/Integer"))).before args0 about1 = true := code_word (m := ⟨7, 0⟩) (meth := k7m0) (c := k7c0) (by decide +kernel) rfl rfl rfl (by decide +kernel)
set_option maxRecDepth 65536 in
theorem w_c2 : (Jvm.Cond.code ({ cls := "com/example/mergewright/mergewright/merge/Match", name := "<init>", desc := "(Ljava/lang/Object;Ljava/lang/Object;Ljava/lang/Object;)V" } : Jvm.MethodName) prog_31_method_1_code (4 : Nat) (Option.none : Option Jvm.ClassFile.FieldType)).before args0 about1 = true := code_word (m := ⟨9, 0⟩) (meth := k9m0) (c := k9c0) (by decide +kernel) rfl rfl rfl (by decide +kernel)
set_option maxRecDepth 65536 in
theorem w_c3 : (Jvm.Cond.code ({ cls := "java/lang/Object", name := "<init>", desc := "()V" } : Jvm.MethodName) object_method_1_code (1 : Nat) (Option.none : Option Jvm.ClassFile.FieldType)).before args0 about1 = true := code_word (m := ⟨0, 0⟩) (meth := k0m0) (c := k0c0) (by decide +kernel) rfl rfl rfl (by decide +kernel)
set_option maxRecDepth 65536 in
theorem w_c4 : (Jvm.Cond.code ({ cls := "com/example/mergewright/mergewright/merge/Match", name := "isInsertedByBoth", desc := "()Z" } : Jvm.MethodName) prog_31_method_4_code (1 : Nat) (Option.some Jvm.ClassFile.FieldType.boolean)).before args0 about1 = true := code_word (m := ⟨9, 3⟩) (meth := k9m3) (c := k9c3) (by decide +kernel) rfl rfl rfl (by decide +kernel)
set_option maxRecDepth 65536 in
theorem w_c5 : (Jvm.Cond.code ({ cls := "com/example/mergewright/mergewright/merge/Match", name := "inserted", desc := "(Ljava/lang/Object;)Lcom/example/mergewright/mergewright/merge/Match;" } : Jvm.MethodName) prog_31_method_2_code (1 : Nat) (Option.some (Jvm.ClassFile.FieldType.object "com/example/mergewright/mergewright/merge/Match"))).before args0 about1 = true := code_word (m := ⟨9, 1⟩) (meth := k9m1) (c := k9c1) (by decide +kernel) rfl rfl rfl (by decide +kernel)
set_option maxRecDepth 65536 in
theorem w_c6 : (Jvm.Cond.code ({ cls := "com/example/mergewright/mergewright/merge/Match", name := "insertedByBoth", desc := "(Ljava/lang/Object;Ljava/lang/Object;)Lcom/example/mergewright/mergewright/merge/Match;" } : Jvm.MethodName) prog_31_method_3_code (2 : Nat) (Option.some (Jvm.ClassFile.FieldType.object "com/example/mergewright/mergewright/merge/Match"))).before args0 about1 = true := code_word (m := ⟨9, 2⟩) (meth := k9m2) (c := k9c2) (by decide +kernel) rfl rfl rfl (by decide +kernel)
set_option maxRecDepth 65536 in
theorem w_c7 : (Jvm.Cond.code ({ cls := "java/lang/Integer", name := "<init>", desc := "(I)V" } : Jvm.MethodName) jdk_33_method_23_code (2 : Nat) (Option.none : Option Jvm.ClassFile.FieldType)).before args0 about1 = true := code_word (m := ⟨7, 1⟩) (meth := k7m1) (c := k7c1) (by decide +kernel) rfl rfl rfl (by decide +kernel)
set_option maxRecDepth 65536 in
theorem w_c8 : (Jvm.Cond.code ({ cls := "java/lang/Number", name := "<init>", desc := "()V" } : Jvm.MethodName) jdk_18_method_1_code (1 : Nat) (Option.none : Option Jvm.ClassFile.FieldType)).before args0 about1 = true := code_word (m := ⟨3, 0⟩) (meth := k3m0) (c := k3c0) (by decide +kernel) rfl rfl rfl (by decide +kernel)
def codes1 : List Jvm.Cond := [Jvm.Cond.code x code maxLocals ret, Jvm.Cond.code ({ cls := "java/lang/Integer", name := "valueOf", desc := "(I)Ljava/lang/Integer;" } : Jvm.MethodName) jdk_33_method_22_code (1 : Nat) (Option.some (Jvm.ClassFile.FieldType.object "java/lang/Integer")), Jvm.Cond.code ({ cls := "com/example/mergewright/mergewright/merge/Match", name := "<init>", desc := "(Ljava/lang/Object;Ljava/lang/Object;Ljava/lang/Object;)V" } : Jvm.MethodName) prog_31_method_1_code (4 : Nat) (Option.none : Option Jvm.ClassFile.FieldType), Jvm.Cond.code ({ cls := "java/lang/Object", name := "<init>", desc := "()V" } : Jvm.MethodName) object_method_1_code (1 : Nat) (Option.none : Option Jvm.ClassFile.FieldType), Jvm.Cond.code ({ cls := "com/example/mergewright/mergewright/merge/Match", name := "isInsertedByBoth", desc := "()Z" } : Jvm.MethodName) prog_31_method_4_code (1 : Nat) (Option.some Jvm.ClassFile.FieldType.boolean), Jvm.Cond.code ({ cls := "com/example/mergewright/mergewright/merge/Match", name := "inserted", desc := "(Ljava/lang/Object;)Lcom/example/mergewright/mergewright/merge/Match;" } : Jvm.MethodName) prog_31_method_2_code (1 : Nat) (Option.some (Jvm.ClassFile.FieldType.object "com/example/mergewright/mergewright/merge/Match")), Jvm.Cond.code ({ cls := "com/example/mergewright/mergewright/merge/Match", name := "insertedByBoth", desc := "(Ljava/lang/Object;Ljava/lang/Object;)Lcom/example/mergewright/mergewright/merge/Match;" } : Jvm.MethodName) prog_31_method_3_code (2 : Nat) (Option.some (Jvm.ClassFile.FieldType.object "com/example/mergewright/mergewright/merge/Match")), Jvm.Cond.code ({ cls := "java/lang/Integer", name := "<init>", desc := "(I)V" } : Jvm.MethodName) jdk_33_method_23_code (2 : Nat) (Option.none : Option Jvm.ClassFile.FieldType), Jvm.Cond.code ({ cls := "java/lang/Number", name := "<init>", desc := "()V" } : Jvm.MethodName) jdk_18_method_1_code (1 : Nat) (Option.none : Option Jvm.ClassFile.FieldType)]
set_option maxRecDepth 65536 in
theorem codes_eq : words1.filter isCode = codes1 := rfl
theorem w_codes : ∀ c ∈ words1.filter isCode, c.before args0 about1 = true := by
  rw [codes_eq]
  intro c hc
  simp only [codes1, List.mem_cons, List.not_mem_nil, or_false] at hc
  rcases hc with rfl | rfl | rfl | rfl | rfl | rfl | rfl | rfl | rfl
  · exact w_c0
  · exact w_c1
  · exact w_c2
  · exact w_c3
  · exact w_c4
  · exact w_c5
  · exact w_c6
  · exact w_c7
  · exact w_c8
set_option maxRecDepth 65536 in
theorem w_t1 : (words1.take 24).all (fun c => isCode c || c.before args0 about1) = true := by decide +kernel
set_option maxRecDepth 65536 in
theorem w_t2 : ((words1.drop 24).take 24).all (fun c => isCode c || c.before args0 about1) = true := by decide +kernel
set_option maxRecDepth 65536 in
theorem w_t3 : ((words1.drop 24).drop 24).all (fun c => isCode c || c.before args0 about1) = true := by decide +kernel
theorem w_tables : (allAtoms (Jvm.Cond.code x code maxLocals ret :: tables_1)).before args0 about1 = true := by
  rw [allAtoms_all]
  show words1.all (fun c => c.before args0 about1) = true
  refine all_split ?_ w_codes
  rw [← List.take_append_drop 24 words1, List.all_append, w_t1, ← List.take_append_drop 24 (words1.drop 24), List.all_append, w_t2, w_t3]
  rfl
set_option maxRecDepth 65536 in
theorem w_rest : rest_1_c.before args0 about1 = true := by decide +kernel
set_option maxRecDepth 65536 in
theorem w_case : (Jvm.Cond.and given_1 narrow_1).before args0 about1 = true := by decide +kernel
theorem w_applies : (headSpec (Jvm.Cond.code x code maxLocals ret :: tables_1) room_1).applies x e0.platform about1 = true :=
  (Spec.applies_iff w_frames).mpr ⟨w_running, w_runnable, w_alone, w_named, w_hears, w_ripe, w_room, w_tables⟩
theorem atStart : AtStart classFile x code maxLocals ret World_1 tables_1 room_1 Calls_1 rest_1 Pre_1 launch0 p0 e0 about1 theMethod args0 below0 :=
  ⟨lists_1, trivial, launch0.admits_env _ _ _, launch0.least_env, fairChoices_fair.cas, fairChoices_fair.clock, w_frames, w_args, w_heap, w_applies, trivial, w_rest, w_case⟩
end start1
theorem witness_1 : WitnessClaimed_1 := ⟨start1.p0, start1.e0, start1.about1, start1.theMethod, start1.args0, start1.below0, start1.atStart⟩
end Jvm.Pilot.@@N@@
