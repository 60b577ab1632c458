import JvmDerived
import JvmDerived.Pilot.@@N@@Statement
import JvmDerived.Pilot.@@N@@Code
set_option linter.unusedVariables false
set_option linter.unusedSimpArgs false
namespace Jvm.RoadKit
open Sem ClassFile Op Lib Jvm.Stand Jvm.Free Jvm.LawKit
section New
variable {p : Program} {l : Launch} {e : Env} {R : Room} {s : State} {m : MethodId} {args : Array Value} {below : List Frame} {meth : Method} {c : Code} {T : State} {locs : List Loc} {cells slots : Nat}
theorem retI (X : Stand p l e R s m args below meth c T locs cells slots) (hx : p.tables.exec = Jvm.exec) {pc : Nat} {Ls : Array Slot} {z : Int32} {rest : List Value} (hret : meth.sig.returnType = some .int) (hd : decode c.code pc = .ok (.ireturn, 1)) {fs : List Frame}
    (hl : ∀ (f : JFrame) (acts : List Action), f.method = m → f.locked = none → f.entered = [] → (doReturn e (T.setTop f) acts (some (.int z))).1 = T.setFrames fs) : Steps p.tables e below (T.setTop (mkF m pc Ls (.int z :: rest))) (T.setFrames fs) := by
  have hm' : T.vm.method? m = some meth := X.method'
  have hn : narrow .int (.int z) = .int z := rfl
  show Steps p.tables e below (T.setTop { method := m, pc := pc, locals := Ls, stack := _ :: rest, locked := none }) _
  jvm_step X.here [X.here.top, hx, hd, hm', hret, hn]
  first | (intro acts; rw [hl _ acts rfl rfl rfl]) | rw [hl _ _ rfl rfl rfl]
  exact Steps.refl _
theorem own_lremM {g : JFrame} {target : State} (X : Stand p l e R s m args below meth c T locs cells slots) (hx : p.tables.exec = Jvm.exec) (hg : g.method = m) {x y : Int64} {rest : List Value} (hd : decode c.code g.pc = .ok (.lrem, 1)) (hs : g.stack = .long y :: .long x :: rest) (hy : y ≠ 0)
    (hr : Steps p.tables e below (T.setTop { g with pc := g.pc + 1, stack := .long (x % y) :: rest }) target) : Steps p.tables e below (T.setTop g) target := by
  have q : x - x / y * y = x % y := lrem_mod x y
  exact XS.lrem X.here hx hg hd hs hy (by rw [q]; exact hr)
theorem own_selP {Z : State} {a0 : Array Value} {C : String} {n : Nat} {y : MethodName} (hC : y.cls = C) (wi : (Cond.instantiable C n).before a0 Z = true) (wm : (Cond.instanceMethod y).before a0 Z = true) (wp : (Cond.privateMethod y).before a0 Z = true) (hy : y.cls ≠ "java/lang/invoke/MethodHandle" ∧ y.cls ≠ "java/lang/invoke/VarHandle") : (Cond.selects y.cls y y).before a0 Z = true := by
  obtain ⟨c, k, h1, h2, h3, h4, -⟩ := Cond.instantiable_spec wi
  simp only [Bool.or_eq_false_iff] at h4
  subst hC
  exact selects_self_of_private h1 h2 h4.1 (Cond.privateMethod_at wp) wm hy
end New
end Jvm.RoadKit
namespace Jvm.Pilot.@@N@@
open Jvm Jvm.ClassFile Sem Op Lib Jvm.Free Jvm.Stand Jvm.LawKit Jvm.RoadKit Bundle Jvm.Pilot.@@N@@.Jvm.D
theorem own_fldInt {s : State} {args : Array Value} {t : Term} {a : Addr} {C n d : String} {k : Int32} (ev : t.eval args s none [] s = some (.ref a)) (h : (Jvm.Cond.eq (Term.field t C n d) (Term.int k)).value args s none s [] = some true) : Fld s s.heap a C n d (.int k) := by
  obtain ⟨x, y, h1, h2, h3, h4⟩ := cmp_v (Or.inl h)
  have e2 : y = .int k := (Option.some.inj h2).symm
  subst e2
  obtain ⟨z, rfl⟩ := h4
  have e : s.fieldOf? a C n d = some (.int z) := by simpa [Term.eval, ev] using h1
  have q : z = k := by
    simp only [Cond.value, h1, h2] at h; simpa using h
  subst q
  exact Fld.start e
theorem own_rem (x n : Int32) (hn : 0 < n.toInt) : 0 ≤ ((x &&& (2147483647 : Int32)) % n).toInt ∧ ((x &&& (2147483647 : Int32)) % n).toInt < n.toInt := by
  have h := (c_and x 2147483647 (by decide)).1
  have q := (c_irem (x &&& 2147483647) n n.toInt rfl).1 h
  rw [q]; exact ⟨Int.emod_nonneg _ (by omega), Int.emod_lt_of_pos _ hn⟩
theorem own_cases {k : Int32} (h : 0 ≤ k.toInt ∧ k.toInt < 13) : k = 0 ∨ k = 1 ∨ k = 2 ∨ k = 3 ∨ k = 4 ∨ k = 5 ∨ k = 6 ∨ k = 7 ∨ k = 8 ∨ k = 9 ∨ k = 10 ∨ k = 11 ∨ k = 12 := by
  have q : k.toInt = 0 ∨ k.toInt = 1 ∨ k.toInt = 2 ∨ k.toInt = 3 ∨ k.toInt = 4 ∨ k.toInt = 5 ∨ k.toInt = 6 ∨ k.toInt = 7 ∨ k.toInt = 8 ∨ k.toInt = 9 ∨ k.toInt = 10 ∨ k.toInt = 11 ∨ k.toInt = 12 := by omega
  rcases q with q | q | q | q | q | q | q | q | q | q | q | q | q
  · exact Or.inl (Int32.toInt_inj.mp (q.trans (by decide)))
  · exact Or.inr (Or.inl (Int32.toInt_inj.mp (q.trans (by decide))))
  · exact Or.inr (Or.inr (Or.inl (Int32.toInt_inj.mp (q.trans (by decide)))))
  · exact Or.inr (Or.inr (Or.inr (Or.inl (Int32.toInt_inj.mp (q.trans (by decide))))))
  · exact Or.inr (Or.inr (Or.inr (Or.inr (Or.inl (Int32.toInt_inj.mp (q.trans (by decide)))))))
  · exact Or.inr (Or.inr (Or.inr (Or.inr (Or.inr (Or.inl (Int32.toInt_inj.mp (q.trans (by decide))))))))
  · exact Or.inr (Or.inr (Or.inr (Or.inr (Or.inr (Or.inr (Or.inl (Int32.toInt_inj.mp (q.trans (by decide)))))))))
  · exact Or.inr (Or.inr (Or.inr (Or.inr (Or.inr (Or.inr (Or.inr (Or.inl (Int32.toInt_inj.mp (q.trans (by decide))))))))))
  · exact Or.inr (Or.inr (Or.inr (Or.inr (Or.inr (Or.inr (Or.inr (Or.inr (Or.inl (Int32.toInt_inj.mp (q.trans (by decide)))))))))))
  · exact Or.inr (Or.inr (Or.inr (Or.inr (Or.inr (Or.inr (Or.inr (Or.inr (Or.inr (Or.inl (Int32.toInt_inj.mp (q.trans (by decide))))))))))))
  · exact Or.inr (Or.inr (Or.inr (Or.inr (Or.inr (Or.inr (Or.inr (Or.inr (Or.inr (Or.inr (Or.inl (Int32.toInt_inj.mp (q.trans (by decide)))))))))))))
  · exact Or.inr (Or.inr (Or.inr (Or.inr (Or.inr (Or.inr (Or.inr (Or.inr (Or.inr (Or.inr (Or.inr (Or.inl (Int32.toInt_inj.mp (q.trans (by decide))))))))))))))
  · exact Or.inr (Or.inr (Or.inr (Or.inr (Or.inr (Or.inr (Or.inr (Or.inr (Or.inr (Or.inr (Or.inr (Or.inr (Int32.toInt_inj.mp (q.trans (by decide))))))))))))))
def own_pick (k : Int32) (w_ENABLED w_FIRED w_EXECUTING w_COMPLETE w_FORCED_COMPLETE w_FAILED w_IS_PARENT w_SUSPENDED w_DEADLOCKED w_DELETED w_WITHDRAWN w_CANCELLED_BY_CASE w_DISCARDED : Addr) : Addr := if k = (0 : Int32) then w_ENABLED else if k = (1 : Int32) then w_FIRED else if k = (2 : Int32) then w_EXECUTING else if k = (3 : Int32) then w_COMPLETE else if k = (4 : Int32) then w_FORCED_COMPLETE else if k = (5 : Int32) then w_FAILED else if k = (6 : Int32) then w_IS_PARENT else if k = (7 : Int32) then w_SUSPENDED else if k = (8 : Int32) then w_DEADLOCKED else if k = (9 : Int32) then w_DELETED else if k = (10 : Int32) then w_WITHDRAWN else if k = (11 : Int32) then w_CANCELLED_BY_CASE else w_DISCARDED
theorem own_ite {P : Addr → Prop} {c : Prop} [Decidable c] {a b : Addr} (ha : P a) (hb : P b) : P (if c then a else b) := by
  split <;> assumption
theorem own_pick_ind {P : Addr → Prop} {k : Int32} {w_ENABLED w_FIRED w_EXECUTING w_COMPLETE w_FORCED_COMPLETE w_FAILED w_IS_PARENT w_SUSPENDED w_DEADLOCKED w_DELETED w_WITHDRAWN w_CANCELLED_BY_CASE w_DISCARDED : Addr} (h0 : P w_ENABLED) (h1 : P w_FIRED) (h2 : P w_EXECUTING) (h3 : P w_COMPLETE) (h4 : P w_FORCED_COMPLETE) (h5 : P w_FAILED) (h6 : P w_IS_PARENT) (h7 : P w_SUSPENDED) (h8 : P w_DEADLOCKED) (h9 : P w_DELETED) (h10 : P w_WITHDRAWN) (h11 : P w_CANCELLED_BY_CASE) (h12 : P w_DISCARDED) : P (own_pick k w_ENABLED w_FIRED w_EXECUTING w_COMPLETE w_FORCED_COMPLETE w_FAILED w_IS_PARENT w_SUSPENDED w_DEADLOCKED w_DELETED w_WITHDRAWN w_CANCELLED_BY_CASE w_DISCARDED) := own_ite h0 (own_ite h1 (own_ite h2 (own_ite h3 (own_ite h4 (own_ite h5 (own_ite h6 (own_ite h7 (own_ite h8 (own_ite h9 (own_ite h10 (own_ite h11 (h12))))))))))))
def own_q (a w_COMPLETE w_FORCED_COMPLETE : Addr) : Int32 := if a = w_COMPLETE then (1 : Int32) else if a = w_FORCED_COMPLETE then (1 : Int32) else (0 : Int32)
theorem own_law {Z : State} {h : Heap} {k : Int32} {w_ENABLED w_FIRED w_EXECUTING w_COMPLETE w_FORCED_COMPLETE w_FAILED w_IS_PARENT w_SUSPENDED w_DEADLOCKED w_DELETED w_WITHDRAWN w_CANCELLED_BY_CASE w_DISCARDED : Addr} (hk : 0 ≤ k.toInt ∧ k.toInt < 13) (F0 : Fld Z h w_ENABLED "java/lang/Enum" "ordinal" "I" (.int (0 : Int32))) (F1 : Fld Z h w_FIRED "java/lang/Enum" "ordinal" "I" (.int (1 : Int32))) (F2 : Fld Z h w_EXECUTING "java/lang/Enum" "ordinal" "I" (.int (2 : Int32))) (F3 : Fld Z h w_COMPLETE "java/lang/Enum" "ordinal" "I" (.int (3 : Int32))) (F4 : Fld Z h w_FORCED_COMPLETE "java/lang/Enum" "ordinal" "I" (.int (4 : Int32))) (F5 : Fld Z h w_FAILED "java/lang/Enum" "ordinal" "I" (.int (5 : Int32))) (F6 : Fld Z h w_IS_PARENT "java/lang/Enum" "ordinal" "I" (.int (6 : Int32))) (F7 : Fld Z h w_SUSPENDED "java/lang/Enum" "ordinal" "I" (.int (7 : Int32))) (F8 : Fld Z h w_DEADLOCKED "java/lang/Enum" "ordinal" "I" (.int (8 : Int32))) (F9 : Fld Z h w_DELETED "java/lang/Enum" "ordinal" "I" (.int (9 : Int32))) (F10 : Fld Z h w_WITHDRAWN "java/lang/Enum" "ordinal" "I" (.int (10 : Int32))) (F11 : Fld Z h w_CANCELLED_BY_CASE "java/lang/Enum" "ordinal" "I" (.int (11 : Int32))) (F12 : Fld Z h w_DISCARDED "java/lang/Enum" "ordinal" "I" (.int (12 : Int32))) : own_q (own_pick k w_ENABLED w_FIRED w_EXECUTING w_COMPLETE w_FORCED_COMPLETE w_FAILED w_IS_PARENT w_SUSPENDED w_DEADLOCKED w_DELETED w_WITHDRAWN w_CANCELLED_BY_CASE w_DISCARDED) w_COMPLETE w_FORCED_COMPLETE = (if k = (3 : Int32) then (1 : Int32) else (if k = (4 : Int32) then (1 : Int32) else (0 : Int32))) := by
  rcases own_cases hk with rfl | rfl | rfl | rfl | rfl | rfl | rfl | rfl | rfl | rfl | rfl | rfl | rfl
  · have e : own_pick (0 : Int32) w_ENABLED w_FIRED w_EXECUTING w_COMPLETE w_FORCED_COMPLETE w_FAILED w_IS_PARENT w_SUSPENDED w_DEADLOCKED w_DELETED w_WITHDRAWN w_CANCELLED_BY_CASE w_DISCARDED = w_ENABLED := rfl
    have n3 : w_ENABLED ≠ w_COMPLETE := Fld.ne F0 F3 (by simp)
    have n4 : w_ENABLED ≠ w_FORCED_COMPLETE := Fld.ne F0 F4 (by simp)
    rw [e]; simp +decide [own_q, n3, n4]
  · have e : own_pick (1 : Int32) w_ENABLED w_FIRED w_EXECUTING w_COMPLETE w_FORCED_COMPLETE w_FAILED w_IS_PARENT w_SUSPENDED w_DEADLOCKED w_DELETED w_WITHDRAWN w_CANCELLED_BY_CASE w_DISCARDED = w_FIRED := rfl
    have n3 : w_FIRED ≠ w_COMPLETE := Fld.ne F1 F3 (by simp)
    have n4 : w_FIRED ≠ w_FORCED_COMPLETE := Fld.ne F1 F4 (by simp)
    rw [e]; simp +decide [own_q, n3, n4]
  · have e : own_pick (2 : Int32) w_ENABLED w_FIRED w_EXECUTING w_COMPLETE w_FORCED_COMPLETE w_FAILED w_IS_PARENT w_SUSPENDED w_DEADLOCKED w_DELETED w_WITHDRAWN w_CANCELLED_BY_CASE w_DISCARDED = w_EXECUTING := rfl
    have n3 : w_EXECUTING ≠ w_COMPLETE := Fld.ne F2 F3 (by simp)
    have n4 : w_EXECUTING ≠ w_FORCED_COMPLETE := Fld.ne F2 F4 (by simp)
    rw [e]; simp +decide [own_q, n3, n4]
  · have e : own_pick (3 : Int32) w_ENABLED w_FIRED w_EXECUTING w_COMPLETE w_FORCED_COMPLETE w_FAILED w_IS_PARENT w_SUSPENDED w_DEADLOCKED w_DELETED w_WITHDRAWN w_CANCELLED_BY_CASE w_DISCARDED = w_COMPLETE := rfl
    have n4 : w_COMPLETE ≠ w_FORCED_COMPLETE := Fld.ne F3 F4 (by simp)
    rw [e]; simp +decide [own_q, n4]
  · have e : own_pick (4 : Int32) w_ENABLED w_FIRED w_EXECUTING w_COMPLETE w_FORCED_COMPLETE w_FAILED w_IS_PARENT w_SUSPENDED w_DEADLOCKED w_DELETED w_WITHDRAWN w_CANCELLED_BY_CASE w_DISCARDED = w_FORCED_COMPLETE := rfl
    have n3 : w_FORCED_COMPLETE ≠ w_COMPLETE := Fld.ne F4 F3 (by simp)
    rw [e]; simp +decide [own_q, n3]
  · have e : own_pick (5 : Int32) w_ENABLED w_FIRED w_EXECUTING w_COMPLETE w_FORCED_COMPLETE w_FAILED w_IS_PARENT w_SUSPENDED w_DEADLOCKED w_DELETED w_WITHDRAWN w_CANCELLED_BY_CASE w_DISCARDED = w_FAILED := rfl
    have n3 : w_FAILED ≠ w_COMPLETE := Fld.ne F5 F3 (by simp)
    have n4 : w_FAILED ≠ w_FORCED_COMPLETE := Fld.ne F5 F4 (by simp)
    rw [e]; simp +decide [own_q, n3, n4]
  · have e : own_pick (6 : Int32) w_ENABLED w_FIRED w_EXECUTING w_COMPLETE w_FORCED_COMPLETE w_FAILED w_IS_PARENT w_SUSPENDED w_DEADLOCKED w_DELETED w_WITHDRAWN w_CANCELLED_BY_CASE w_DISCARDED = w_IS_PARENT := rfl
    have n3 : w_IS_PARENT ≠ w_COMPLETE := Fld.ne F6 F3 (by simp)
    have n4 : w_IS_PARENT ≠ w_FORCED_COMPLETE := Fld.ne F6 F4 (by simp)
    rw [e]; simp +decide [own_q, n3, n4]
  · have e : own_pick (7 : Int32) w_ENABLED w_FIRED w_EXECUTING w_COMPLETE w_FORCED_COMPLETE w_FAILED w_IS_PARENT w_SUSPENDED w_DEADLOCKED w_DELETED w_WITHDRAWN w_CANCELLED_BY_CASE w_DISCARDED = w_SUSPENDED := rfl
    have n3 : w_SUSPENDED ≠ w_COMPLETE := Fld.ne F7 F3 (by simp)
    have n4 : w_SUSPENDED ≠ w_FORCED_COMPLETE := Fld.ne F7 F4 (by simp)
    rw [e]; simp +decide [own_q, n3, n4]
  · have e : own_pick (8 : Int32) w_ENABLED w_FIRED w_EXECUTING w_COMPLETE w_FORCED_COMPLETE w_FAILED w_IS_PARENT w_SUSPENDED w_DEADLOCKED w_DELETED w_WITHDRAWN w_CANCELLED_BY_CASE w_DISCARDED = w_DEADLOCKED := rfl
    have n3 : w_DEADLOCKED ≠ w_COMPLETE := Fld.ne F8 F3 (by simp)
    have n4 : w_DEADLOCKED ≠ w_FORCED_COMPLETE := Fld.ne F8 F4 (by simp)
    rw [e]; simp +decide [own_q, n3, n4]
  · have e : own_pick (9 : Int32) w_ENABLED w_FIRED w_EXECUTING w_COMPLETE w_FORCED_COMPLETE w_FAILED w_IS_PARENT w_SUSPENDED w_DEADLOCKED w_DELETED w_WITHDRAWN w_CANCELLED_BY_CASE w_DISCARDED = w_DELETED := rfl
    have n3 : w_DELETED ≠ w_COMPLETE := Fld.ne F9 F3 (by simp)
    have n4 : w_DELETED ≠ w_FORCED_COMPLETE := Fld.ne F9 F4 (by simp)
    rw [e]; simp +decide [own_q, n3, n4]
  · have e : own_pick (10 : Int32) w_ENABLED w_FIRED w_EXECUTING w_COMPLETE w_FORCED_COMPLETE w_FAILED w_IS_PARENT w_SUSPENDED w_DEADLOCKED w_DELETED w_WITHDRAWN w_CANCELLED_BY_CASE w_DISCARDED = w_WITHDRAWN := rfl
    have n3 : w_WITHDRAWN ≠ w_COMPLETE := Fld.ne F10 F3 (by simp)
    have n4 : w_WITHDRAWN ≠ w_FORCED_COMPLETE := Fld.ne F10 F4 (by simp)
    rw [e]; simp +decide [own_q, n3, n4]
  · have e : own_pick (11 : Int32) w_ENABLED w_FIRED w_EXECUTING w_COMPLETE w_FORCED_COMPLETE w_FAILED w_IS_PARENT w_SUSPENDED w_DEADLOCKED w_DELETED w_WITHDRAWN w_CANCELLED_BY_CASE w_DISCARDED = w_CANCELLED_BY_CASE := rfl
    have n3 : w_CANCELLED_BY_CASE ≠ w_COMPLETE := Fld.ne F11 F3 (by simp)
    have n4 : w_CANCELLED_BY_CASE ≠ w_FORCED_COMPLETE := Fld.ne F11 F4 (by simp)
    rw [e]; simp +decide [own_q, n3, n4]
  · have e : own_pick (12 : Int32) w_ENABLED w_FIRED w_EXECUTING w_COMPLETE w_FORCED_COMPLETE w_FAILED w_IS_PARENT w_SUSPENDED w_DEADLOCKED w_DELETED w_WITHDRAWN w_CANCELLED_BY_CASE w_DISCARDED = w_DISCARDED := rfl
    have n3 : w_DISCARDED ≠ w_COMPLETE := Fld.ne F12 F3 (by simp)
    have n4 : w_DISCARDED ≠ w_FORCED_COMPLETE := Fld.ne F12 F4 (by simp)
    rw [e]; simp +decide [own_q, n3, n4]
def own_all (w_ENABLED w_FIRED w_EXECUTING w_COMPLETE w_FORCED_COMPLETE w_FAILED w_IS_PARENT w_SUSPENDED w_DEADLOCKED w_DELETED w_WITHDRAWN w_CANCELLED_BY_CASE w_DISCARDED : Addr) : List Value := [.ref w_ENABLED, .ref w_FIRED, .ref w_EXECUTING, .ref w_COMPLETE, .ref w_FORCED_COMPLETE, .ref w_FAILED, .ref w_IS_PARENT, .ref w_SUSPENDED, .ref w_DEADLOCKED, .ref w_DELETED, .ref w_WITHDRAWN, .ref w_CANCELLED_BY_CASE, .ref w_DISCARDED]
theorem own_at {k : Int32} (hk : 0 ≤ k.toInt ∧ k.toInt < 13) {w_ENABLED w_FIRED w_EXECUTING w_COMPLETE w_FORCED_COMPLETE w_FAILED w_IS_PARENT w_SUSPENDED w_DEADLOCKED w_DELETED w_WITHDRAWN w_CANCELLED_BY_CASE w_DISCARDED : Addr} : (own_all w_ENABLED w_FIRED w_EXECUTING w_COMPLETE w_FORCED_COMPLETE w_FAILED w_IS_PARENT w_SUSPENDED w_DEADLOCKED w_DELETED w_WITHDRAWN w_CANCELLED_BY_CASE w_DISCARDED).getD k.toNatClampNeg .null = .ref (own_pick k w_ENABLED w_FIRED w_EXECUTING w_COMPLETE w_FORCED_COMPLETE w_FAILED w_IS_PARENT w_SUSPENDED w_DEADLOCKED w_DELETED w_WITHDRAWN w_CANCELLED_BY_CASE w_DISCARDED) := by
  rcases own_cases hk with rfl | rfl | rfl | rfl | rfl | rfl | rfl | rfl | rfl | rfl | rfl | rfl | rfl <;> rfl
theorem own_in {k : Int32} (hk : 0 ≤ k.toInt ∧ k.toInt < 13) : ¬ k < 0 ∧ k < (13 : Int32) := by
  have h3 : (13 : Int32).toInt = 13 := by decide
  have h4 : (0 : Int32).toInt = 0 := by decide
  rw [Int32.lt_iff_toInt_lt, Int32.lt_iff_toInt_lt]; omega

theorem kw0 {Z : State} {a0 : Array Value} (hw : ∀ d ∈ tables_1, d.before a0 Z = true) : (Jvm.Cond.classLink "com/example/able_hands/ablehands/WorkItemStatusIsCompletedPinLaw" (7 : Nat) "com/example/able_hands/ablehands/WorkItemStatus").before a0 Z = true := hw _ (List.mem_of_getElem? (i := 0) rfl)
theorem kw1 {Z : State} {a0 : Array Value} (hw : ∀ d ∈ tables_1, d.before a0 Z = true) : (Jvm.Cond.arrayOver (Jvm.ClassFile.FieldType.object "com/example/able_hands/ablehands/WorkItemStatus")).before a0 Z = true := hw _ (List.mem_of_getElem? (i := 1) rfl)
theorem kw2 {Z : State} {a0 : Array Value} (hw : ∀ d ∈ tables_1, d.before a0 Z = true) : (Jvm.Cond.fieldLink "com/example/able_hands/ablehands/WorkItemStatusIsCompletedPinLaw" (9 : Nat) "com/example/able_hands/ablehands/WorkItemStatus" "ENABLED" "Lcom/example/able_hands/ablehands/WorkItemStatus;").before a0 Z = true := hw _ (List.mem_of_getElem? (i := 2) rfl)
theorem kw3 {Z : State} {a0 : Array Value} (hw : ∀ d ∈ tables_1, d.before a0 Z = true) : (Jvm.Cond.initialized "com/example/able_hands/ablehands/WorkItemStatus").before a0 Z = true := hw _ (List.mem_of_getElem? (i := 3) rfl)
theorem kw4 {Z : State} {a0 : Array Value} (hw : ∀ d ∈ tables_1, d.before a0 Z = true) : (Jvm.Cond.laysStatic "com/example/able_hands/ablehands/WorkItemStatus" "ENABLED" "Lcom/example/able_hands/ablehands/WorkItemStatus;").before a0 Z = true := hw _ (List.mem_of_getElem? (i := 4) rfl)
theorem kw6 {Z : State} {a0 : Array Value} (hw : ∀ d ∈ tables_1, d.before a0 Z = true) : (Jvm.Cond.fieldLink "com/example/able_hands/ablehands/WorkItemStatusIsCompletedPinLaw" (13 : Nat) "com/example/able_hands/ablehands/WorkItemStatus" "FIRED" "Lcom/example/able_hands/ablehands/WorkItemStatus;").before a0 Z = true := hw _ (List.mem_of_getElem? (i := 6) rfl)
theorem kw7 {Z : State} {a0 : Array Value} (hw : ∀ d ∈ tables_1, d.before a0 Z = true) : (Jvm.Cond.laysStatic "com/example/able_hands/ablehands/WorkItemStatus" "FIRED" "Lcom/example/able_hands/ablehands/WorkItemStatus;").before a0 Z = true := hw _ (List.mem_of_getElem? (i := 7) rfl)
theorem kw8 {Z : State} {a0 : Array Value} (hw : ∀ d ∈ tables_1, d.before a0 Z = true) : (Jvm.Cond.fieldLink "com/example/able_hands/ablehands/WorkItemStatusIsCompletedPinLaw" (16 : Nat) "com/example/able_hands/ablehands/WorkItemStatus" "EXECUTING" "Lcom/example/able_hands/ablehands/WorkItemStatus;").before a0 Z = true := hw _ (List.mem_of_getElem? (i := 8) rfl)
theorem kw9 {Z : State} {a0 : Array Value} (hw : ∀ d ∈ tables_1, d.before a0 Z = true) : (Jvm.Cond.laysStatic "com/example/able_hands/ablehands/WorkItemStatus" "EXECUTING" "Lcom/example/able_hands/ablehands/WorkItemStatus;").before a0 Z = true := hw _ (List.mem_of_getElem? (i := 9) rfl)
theorem kw10 {Z : State} {a0 : Array Value} (hw : ∀ d ∈ tables_1, d.before a0 Z = true) : (Jvm.Cond.fieldLink "com/example/able_hands/ablehands/WorkItemStatusIsCompletedPinLaw" (19 : Nat) "com/example/able_hands/ablehands/WorkItemStatus" "COMPLETE" "Lcom/example/able_hands/ablehands/WorkItemStatus;").before a0 Z = true := hw _ (List.mem_of_getElem? (i := 10) rfl)
theorem kw11 {Z : State} {a0 : Array Value} (hw : ∀ d ∈ tables_1, d.before a0 Z = true) : (Jvm.Cond.laysStatic "com/example/able_hands/ablehands/WorkItemStatus" "COMPLETE" "Lcom/example/able_hands/ablehands/WorkItemStatus;").before a0 Z = true := hw _ (List.mem_of_getElem? (i := 11) rfl)
theorem kw12 {Z : State} {a0 : Array Value} (hw : ∀ d ∈ tables_1, d.before a0 Z = true) : (Jvm.Cond.fieldLink "com/example/able_hands/ablehands/WorkItemStatusIsCompletedPinLaw" (22 : Nat) "com/example/able_hands/ablehands/WorkItemStatus" "FORCED_COMPLETE" "Lcom/example/able_hands/ablehands/WorkItemStatus;").before a0 Z = true := hw _ (List.mem_of_getElem? (i := 12) rfl)
theorem kw13 {Z : State} {a0 : Array Value} (hw : ∀ d ∈ tables_1, d.before a0 Z = true) : (Jvm.Cond.laysStatic "com/example/able_hands/ablehands/WorkItemStatus" "FORCED_COMPLETE" "Lcom/example/able_hands/ablehands/WorkItemStatus;").before a0 Z = true := hw _ (List.mem_of_getElem? (i := 13) rfl)
theorem kw14 {Z : State} {a0 : Array Value} (hw : ∀ d ∈ tables_1, d.before a0 Z = true) : (Jvm.Cond.fieldLink "com/example/able_hands/ablehands/WorkItemStatusIsCompletedPinLaw" (25 : Nat) "com/example/able_hands/ablehands/WorkItemStatus" "FAILED" "Lcom/example/able_hands/ablehands/WorkItemStatus;").before a0 Z = true := hw _ (List.mem_of_getElem? (i := 14) rfl)
theorem kw15 {Z : State} {a0 : Array Value} (hw : ∀ d ∈ tables_1, d.before a0 Z = true) : (Jvm.Cond.laysStatic "com/example/able_hands/ablehands/WorkItemStatus" "FAILED" "Lcom/example/able_hands/ablehands/WorkItemStatus;").before a0 Z = true := hw _ (List.mem_of_getElem? (i := 15) rfl)
theorem kw16 {Z : State} {a0 : Array Value} (hw : ∀ d ∈ tables_1, d.before a0 Z = true) : (Jvm.Cond.fieldLink "com/example/able_hands/ablehands/WorkItemStatusIsCompletedPinLaw" (28 : Nat) "com/example/able_hands/ablehands/WorkItemStatus" "IS_PARENT" "Lcom/example/able_hands/ablehands/WorkItemStatus;").before a0 Z = true := hw _ (List.mem_of_getElem? (i := 16) rfl)
theorem kw17 {Z : State} {a0 : Array Value} (hw : ∀ d ∈ tables_1, d.before a0 Z = true) : (Jvm.Cond.laysStatic "com/example/able_hands/ablehands/WorkItemStatus" "IS_PARENT" "Lcom/example/able_hands/ablehands/WorkItemStatus;").before a0 Z = true := hw _ (List.mem_of_getElem? (i := 17) rfl)
theorem kw18 {Z : State} {a0 : Array Value} (hw : ∀ d ∈ tables_1, d.before a0 Z = true) : (Jvm.Cond.fieldLink "com/example/able_hands/ablehands/WorkItemStatusIsCompletedPinLaw" (31 : Nat) "com/example/able_hands/ablehands/WorkItemStatus" "SUSPENDED" "Lcom/example/able_hands/ablehands/WorkItemStatus;").before a0 Z = true := hw _ (List.mem_of_getElem? (i := 18) rfl)
theorem kw19 {Z : State} {a0 : Array Value} (hw : ∀ d ∈ tables_1, d.before a0 Z = true) : (Jvm.Cond.laysStatic "com/example/able_hands/ablehands/WorkItemStatus" "SUSPENDED" "Lcom/example/able_hands/ablehands/WorkItemStatus;").before a0 Z = true := hw _ (List.mem_of_getElem? (i := 19) rfl)
theorem kw20 {Z : State} {a0 : Array Value} (hw : ∀ d ∈ tables_1, d.before a0 Z = true) : (Jvm.Cond.fieldLink "com/example/able_hands/ablehands/WorkItemStatusIsCompletedPinLaw" (34 : Nat) "com/example/able_hands/ablehands/WorkItemStatus" "DEADLOCKED" "Lcom/example/able_hands/ablehands/WorkItemStatus;").before a0 Z = true := hw _ (List.mem_of_getElem? (i := 20) rfl)
theorem kw21 {Z : State} {a0 : Array Value} (hw : ∀ d ∈ tables_1, d.before a0 Z = true) : (Jvm.Cond.laysStatic "com/example/able_hands/ablehands/WorkItemStatus" "DEADLOCKED" "Lcom/example/able_hands/ablehands/WorkItemStatus;").before a0 Z = true := hw _ (List.mem_of_getElem? (i := 21) rfl)
theorem kw22 {Z : State} {a0 : Array Value} (hw : ∀ d ∈ tables_1, d.before a0 Z = true) : (Jvm.Cond.fieldLink "com/example/able_hands/ablehands/WorkItemStatusIsCompletedPinLaw" (37 : Nat) "com/example/able_hands/ablehands/WorkItemStatus" "DELETED" "Lcom/example/able_hands/ablehands/WorkItemStatus;").before a0 Z = true := hw _ (List.mem_of_getElem? (i := 22) rfl)
theorem kw23 {Z : State} {a0 : Array Value} (hw : ∀ d ∈ tables_1, d.before a0 Z = true) : (Jvm.Cond.laysStatic "com/example/able_hands/ablehands/WorkItemStatus" "DELETED" "Lcom/example/able_hands/ablehands/WorkItemStatus;").before a0 Z = true := hw _ (List.mem_of_getElem? (i := 23) rfl)
theorem kw24 {Z : State} {a0 : Array Value} (hw : ∀ d ∈ tables_1, d.before a0 Z = true) : (Jvm.Cond.fieldLink "com/example/able_hands/ablehands/WorkItemStatusIsCompletedPinLaw" (40 : Nat) "com/example/able_hands/ablehands/WorkItemStatus" "WITHDRAWN" "Lcom/example/able_hands/ablehands/WorkItemStatus;").before a0 Z = true := hw _ (List.mem_of_getElem? (i := 24) rfl)
theorem kw25 {Z : State} {a0 : Array Value} (hw : ∀ d ∈ tables_1, d.before a0 Z = true) : (Jvm.Cond.laysStatic "com/example/able_hands/ablehands/WorkItemStatus" "WITHDRAWN" "Lcom/example/able_hands/ablehands/WorkItemStatus;").before a0 Z = true := hw _ (List.mem_of_getElem? (i := 25) rfl)
theorem kw26 {Z : State} {a0 : Array Value} (hw : ∀ d ∈ tables_1, d.before a0 Z = true) : (Jvm.Cond.fieldLink "com/example/able_hands/ablehands/WorkItemStatusIsCompletedPinLaw" (43 : Nat) "com/example/able_hands/ablehands/WorkItemStatus" "CANCELLED_BY_CASE" "Lcom/example/able_hands/ablehands/WorkItemStatus;").before a0 Z = true := hw _ (List.mem_of_getElem? (i := 26) rfl)
theorem kw27 {Z : State} {a0 : Array Value} (hw : ∀ d ∈ tables_1, d.before a0 Z = true) : (Jvm.Cond.laysStatic "com/example/able_hands/ablehands/WorkItemStatus" "CANCELLED_BY_CASE" "Lcom/example/able_hands/ablehands/WorkItemStatus;").before a0 Z = true := hw _ (List.mem_of_getElem? (i := 27) rfl)
theorem kw28 {Z : State} {a0 : Array Value} (hw : ∀ d ∈ tables_1, d.before a0 Z = true) : (Jvm.Cond.fieldLink "com/example/able_hands/ablehands/WorkItemStatusIsCompletedPinLaw" (46 : Nat) "com/example/able_hands/ablehands/WorkItemStatus" "DISCARDED" "Lcom/example/able_hands/ablehands/WorkItemStatus;").before a0 Z = true := hw _ (List.mem_of_getElem? (i := 28) rfl)
theorem kw29 {Z : State} {a0 : Array Value} (hw : ∀ d ∈ tables_1, d.before a0 Z = true) : (Jvm.Cond.laysStatic "com/example/able_hands/ablehands/WorkItemStatus" "DISCARDED" "Lcom/example/able_hands/ablehands/WorkItemStatus;").before a0 Z = true := hw _ (List.mem_of_getElem? (i := 29) rfl)
theorem kw30 {Z : State} {a0 : Array Value} (hw : ∀ d ∈ tables_1, d.before a0 Z = true) : (Jvm.Cond.constant "com/example/able_hands/ablehands/WorkItemStatusIsCompletedPinLaw" (49 : Nat) (2147483647 : Int32)).before a0 Z = true := hw _ (List.mem_of_getElem? (i := 30) rfl)
theorem kw31 {Z : State} {a0 : Array Value} (hw : ∀ d ∈ tables_1, d.before a0 Z = true) : (Jvm.Cond.methodLink "com/example/able_hands/ablehands/WorkItemStatusIsCompletedPinLaw" (50 : Nat) ({ cls := "com/example/able_hands/ablehands/WorkItemStatus", name := "isCompleted", desc := "()Z" } : Jvm.MethodName)).before a0 Z = true := hw _ (List.mem_of_getElem? (i := 31) rfl)
theorem kw32 {Z : State} {a0 : Array Value} (hw : ∀ d ∈ tables_1, d.before a0 Z = true) : (Jvm.Cond.declares ({ cls := "com/example/able_hands/ablehands/WorkItemStatus", name := "isCompleted", desc := "()Z" } : Jvm.MethodName)).before a0 Z = true := hw _ (List.mem_of_getElem? (i := 32) rfl)
theorem kw33 {Z : State} {a0 : Array Value} (hw : ∀ d ∈ tables_1, d.before a0 Z = true) : (Jvm.Cond.instanceMethod ({ cls := "com/example/able_hands/ablehands/WorkItemStatus", name := "isCompleted", desc := "()Z" } : Jvm.MethodName)).before a0 Z = true := hw _ (List.mem_of_getElem? (i := 33) rfl)
theorem kw34 {Z : State} {a0 : Array Value} (hw : ∀ d ∈ tables_1, d.before a0 Z = true) : (Jvm.Cond.selects "com/example/able_hands/ablehands/WorkItemStatus" ({ cls := "com/example/able_hands/ablehands/WorkItemStatus", name := "isCompleted", desc := "()Z" } : Jvm.MethodName) ({ cls := "com/example/able_hands/ablehands/WorkItemStatus", name := "isCompleted", desc := "()Z" } : Jvm.MethodName)).before a0 Z = true := hw _ (List.mem_of_getElem? (i := 34) rfl)
theorem kw35 {Z : State} {a0 : Array Value} (hw : ∀ d ∈ tables_1, d.before a0 Z = true) : (Jvm.Cond.code ({ cls := "com/example/able_hands/ablehands/WorkItemStatus", name := "isCompleted", desc := "()Z" } : Jvm.MethodName) prog_85_method_10_code (1 : Nat) (Option.some Jvm.ClassFile.FieldType.boolean)).before a0 Z = true := hw _ (List.mem_of_getElem? (i := 35) rfl)
theorem kw36 {Z : State} {a0 : Array Value} (hw : ∀ d ∈ tables_1, d.before a0 Z = true) : (Jvm.Cond.fieldLink "com/example/able_hands/ablehands/WorkItemStatus" (13 : Nat) "com/example/able_hands/ablehands/WorkItemStatus" "COMPLETE" "Lcom/example/able_hands/ablehands/WorkItemStatus;").before a0 Z = true := hw _ (List.mem_of_getElem? (i := 36) rfl)
theorem kw37 {Z : State} {a0 : Array Value} (hw : ∀ d ∈ tables_1, d.before a0 Z = true) : (Jvm.Cond.fieldLink "com/example/able_hands/ablehands/WorkItemStatus" (16 : Nat) "com/example/able_hands/ablehands/WorkItemStatus" "FORCED_COMPLETE" "Lcom/example/able_hands/ablehands/WorkItemStatus;").before a0 Z = true := hw _ (List.mem_of_getElem? (i := 37) rfl)
theorem pn_0 : plainName "com/example/able_hands/ablehands/WorkItemStatus" = true := by first | (simp [plainName, overriddenIn]; done) | decide +kernel
theorem pn_1 : plainName "com/example/able_hands/ablehands/WorkItemStatusIsCompletedPinLaw" = true := by first | (simp [plainName, overriddenIn]; done) | decide +kernel
theorem pd_0 : parseMethodDescriptor "()Z" = some ⟨[], some .boolean⟩ := by decide +kernel
theorem d1_0 : decode prog_85_method_10_code 0 = .ok (.aload_n 0, 1) := by decide +kernel
theorem d1_1 : decode prog_85_method_10_code 1 = .ok (.getstatic 13, 3) := by decide +kernel
theorem d1_4 : decode prog_85_method_10_code 4 = .ok (.if_acmp .eq 10, 3) := by decide +kernel
theorem d1_7 : decode prog_85_method_10_code 7 = .ok (.aload_n 0, 1) := by decide +kernel
theorem d1_8 : decode prog_85_method_10_code 8 = .ok (.getstatic 16, 3) := by decide +kernel
theorem d1_11 : decode prog_85_method_10_code 11 = .ok (.if_acmp .ne 7, 3) := by decide +kernel
theorem d1_14 : decode prog_85_method_10_code 14 = .ok (.iconst 1, 1) := by decide +kernel
theorem d1_15 : decode prog_85_method_10_code 15 = .ok (.goto 4, 3) := by decide +kernel
theorem d1_18 : decode prog_85_method_10_code 18 = .ok (.iconst 0, 1) := by decide +kernel
theorem d1_19 : decode prog_85_method_10_code 19 = .ok (.ireturn, 1) := by decide +kernel
theorem ef_rm1 (m : MethodId) (x0 : Addr) : entryFrame m #[(.ref x0)] 1 = mkF m 0 #[.val (.ref x0)] [] := by first | (simp [entryFrame, mkF, argsToLocals, Value.category]; done) | rfl
def Q_rm1 (Z : State) (a1 : Addr) (w_COMPLETE : Addr) (w_FORCED_COMPLETE : Addr) (h0 : Heap) (n0 : Nat) (v : Option Value) (h : Heap) (L : List Loc) : Prop := v = some (.int (own_q a1 w_COMPLETE w_FORCED_COMPLETE)) ∧ Fr n0 L ∧ h = h0
set_option maxRecDepth 65536 in
set_option maxHeartbeats 40000000 in
theorem rm1 (l : Launch) (Z : State) (a0 : Array Value) (hw : ∀ d ∈ tables_1, d.before a0 Z = true) (ws : List Jvm.Cond) (a1 : Addr) (w_COMPLETE : Addr) (w_FORCED_COMPLETE : Addr) (h0 : Heap) (n0 : Nat) (Z0 : n0 ≤ h0.size) (P0 : Old Z n0 h0) (P1 : Sta Z Z.heap "com/example/able_hands/ablehands/WorkItemStatus" "COMPLETE" "Lcom/example/able_hands/ablehands/WorkItemStatus;" (.ref w_COMPLETE)) (P2 : Sta Z Z.heap "com/example/able_hands/ablehands/WorkItemStatus" "FORCED_COMPLETE" "Lcom/example/able_hands/ablehands/WorkItemStatus;" (.ref w_FORCED_COMPLETE)) :
    MetFree l (⟨"com/example/able_hands/ablehands/WorkItemStatus", "isCompleted", "()Z"⟩ : MethodName) (head1 (Jvm.Cond.code (⟨"com/example/able_hands/ablehands/WorkItemStatus", "isCompleted", "()Z"⟩ : MethodName) prog_85_method_10_code 1 (some .boolean) :: ws) ({ frames := 0, cells := 0, slots := 0, locals := 0 } : Room)) (fun a U => a = #[(.ref a1)] ∧ Z.Warmed39 U.vm ∧ U.heap = h0) (fun _ _ _ _ _ => True) (fun _ U o U' => ∃ v L, o = .returned v ∧ Q_rm1 Z a1 w_COMPLETE w_FORCED_COMPLETE h0 n0 v U'.heap L ∧ FrameEnd U o U' L ({ frames := 0, cells := 0, slots := 0, locals := 0 } : Room).cells ({ frames := 0, cells := 0, slots := 0, locals := 0 } : Room).slots) := by
  refine MetFree.of_bodySF (plainFor_of_name pn_0) hisR ?_
  intro p e s m args below meth c s₁ Bd hml0 hP hK
  obtain ⟨rfl, hZ, hh⟩ := hP
  have hx := Bd.exec
  have hby := Bd.bytes
  have hml : c.maxLocals = 1 := hml0
  have hown : s.vm.findClass "com/example/able_hands/ablehands/WorkItemStatus" = some m.cls := findClass_of_methodNamed Bd.named
  have hnm := (name_of_methodNamed Bd.named Bd.method).1
  have X0 : Stand p l e ({ frames := 0, cells := 0, slots := 0, locals := 0 } : Room) s m #[(.ref a1)] below meth c s₁ [] 0 0 := Stand.of_body Bd
  have e0 : s₁.heap = h0 := by rw [← hh, Bd.state]; rfl
  have N0 := Fr.nil n0
  have KR : Keep h0 h0 [] := Keep.refl h0 _
  have pre0 : ∀ t, Steps p.tables e below (s₁.setTop (mkF m 0 #[.val (.ref a1)] [])) t → Steps p.tables e below (s₁.setTop (entryFrame m #[(.ref a1)] 1)) t := fun t k => castTop (ef_rm1 m (a1)) k
  obtain ⟨T1, X1, e1, st1⟩ := getS2 X0 hx hZ hown (host := "") (Or.inl (kw36 hw)) Via.refl e0 (Sta.ext P0.2 P1) (g := (mkF m 1 #[.val (.ref a1)] [(.ref a1)])) rfl (hb hby d1_1)
  have pre2 : ∀ t, Steps p.tables e below (T1.setTop (mkF m 4 #[.val (.ref a1)] [(.ref w_COMPLETE), (.ref a1)])) t → Steps p.tables e below (s₁.setTop (entryFrame m #[(.ref a1)] 1)) t := fun t k => pre0 t (by
    show Steps p.tables e below (s₁.setTop (mkF m 0 #[.val (.ref a1)] [])) _
    refine XS.aloadN X0.here hx rfl (hb hby d1_0) rfl rfl ?_
    show Steps p.tables e below (s₁.setTop (mkF m 1 #[.val (.ref a1)] [(.ref a1)])) _
    refine st1 _ ?_
    show Steps p.tables e below (T1.setTop (mkF m 4 #[.val (.ref a1)] [(.ref w_COMPLETE), (.ref a1)])) _
    exact k)
  by_cases hc3 : a1 = w_COMPLETE
  · skip
    obtain ⟨fs, hr, hrun, hended, hW, hsame⟩ := X1.leave (v := some (.int (1 : Int32))) (fun h => by rw [Bd.returns] at h; cases h)
    refine ⟨_, _, pre2 _ ?_, hrun, hended, _, _, rfl, ?_, ⟨_, rfl⟩, hW, hsame.mono (by decide) (by decide)⟩
    · skip
      refine Jvm.RoadKit.acmp (g := (mkF m 4 #[.val (.ref a1)] [(.ref w_COMPLETE), (.ref a1)])) X1 hx rfl rfl rfl (pc0 := 4) (pc' := 14) (same := true) rfl (hb hby d1_4) rfl (decide_eq_true (congrArg Value.ref hc3)) (by decide) (by decide) ?_
      show Steps p.tables e below (T1.setTop (mkF m 14 #[.val (.ref a1)] [])) _
      refine XS.iconst X1.here hx rfl (hb hby d1_14) ?_
      show Steps p.tables e below (T1.setTop (mkF m 15 #[.val (.ref a1)] [(.int (1 : Int32))])) _
      refine XS.goto X1.here hx rfl (pc0 := 15) (pc' := 19) rfl (hb hby d1_15) (by decide) (by decide) ?_
      show Steps p.tables e below (T1.setTop (mkF m 19 #[.val (.ref a1)] [(.int (1 : Int32))])) _
      exact retN X1 hx (t := .boolean) Bd.returns (by simp) (hb hby d1_19) hr
    · show Q_rm1 Z a1 w_COMPLETE w_FORCED_COMPLETE h0 n0 _ T1.heap _
      rw [e1]
      exact ⟨(by unfold own_q; rw [if_pos hc3]), N0, rfl⟩
  · skip
    obtain ⟨T5, X5, e5, st5⟩ := getS2 X1 hx hZ hown (host := "") (Or.inl (kw37 hw)) Via.refl e1 (Sta.ext P0.2 P2) (g := (mkF m 8 #[.val (.ref a1)] [(.ref a1)])) rfl (hb hby d1_8)
    have pre6 : ∀ t, Steps p.tables e below (T5.setTop (mkF m 11 #[.val (.ref a1)] [(.ref w_FORCED_COMPLETE), (.ref a1)])) t → Steps p.tables e below (s₁.setTop (entryFrame m #[(.ref a1)] 1)) t := fun t k => pre2 t (by
      refine Jvm.RoadKit.acmp (g := (mkF m 4 #[.val (.ref a1)] [(.ref w_COMPLETE), (.ref a1)])) X1 hx rfl rfl rfl (pc0 := 4) (pc' := 7) (same := false) rfl (hb hby d1_4) rfl (decide_eq_false fun q => hc3 (Value.ref.inj q)) (by decide) (by decide) ?_
      show Steps p.tables e below (T1.setTop (mkF m 7 #[.val (.ref a1)] [])) _
      refine XS.aloadN X1.here hx rfl (hb hby d1_7) rfl rfl ?_
      show Steps p.tables e below (T1.setTop (mkF m 8 #[.val (.ref a1)] [(.ref a1)])) _
      refine st5 _ ?_
      show Steps p.tables e below (T5.setTop (mkF m 11 #[.val (.ref a1)] [(.ref w_FORCED_COMPLETE), (.ref a1)])) _
      exact k)
    by_cases hc7 : a1 = w_FORCED_COMPLETE
    · skip
      obtain ⟨fs, hr, hrun, hended, hW, hsame⟩ := X5.leave (v := some (.int (1 : Int32))) (fun h => by rw [Bd.returns] at h; cases h)
      refine ⟨_, _, pre6 _ ?_, hrun, hended, _, _, rfl, ?_, ⟨_, rfl⟩, hW, hsame.mono (by decide) (by decide)⟩
      · skip
        refine Jvm.RoadKit.acmp (g := (mkF m 11 #[.val (.ref a1)] [(.ref w_FORCED_COMPLETE), (.ref a1)])) X5 hx rfl rfl rfl (pc0 := 11) (pc' := 14) (same := true) rfl (hb hby d1_11) rfl (decide_eq_true (congrArg Value.ref hc7)) (by decide) (by decide) ?_
        show Steps p.tables e below (T5.setTop (mkF m 14 #[.val (.ref a1)] [])) _
        refine XS.iconst X5.here hx rfl (hb hby d1_14) ?_
        show Steps p.tables e below (T5.setTop (mkF m 15 #[.val (.ref a1)] [(.int (1 : Int32))])) _
        refine XS.goto X5.here hx rfl (pc0 := 15) (pc' := 19) rfl (hb hby d1_15) (by decide) (by decide) ?_
        show Steps p.tables e below (T5.setTop (mkF m 19 #[.val (.ref a1)] [(.int (1 : Int32))])) _
        exact retN X5 hx (t := .boolean) Bd.returns (by simp) (hb hby d1_19) hr
      · show Q_rm1 Z a1 w_COMPLETE w_FORCED_COMPLETE h0 n0 _ T5.heap _
        rw [e5]
        exact ⟨(by unfold own_q; rw [if_neg hc3, if_pos hc7]), N0, rfl⟩
    · skip
      obtain ⟨fs, hr, hrun, hended, hW, hsame⟩ := X5.leave (v := some (.int (0 : Int32))) (fun h => by rw [Bd.returns] at h; cases h)
      refine ⟨_, _, pre6 _ ?_, hrun, hended, _, _, rfl, ?_, ⟨_, rfl⟩, hW, hsame.mono (by decide) (by decide)⟩
      · skip
        refine Jvm.RoadKit.acmp (g := (mkF m 11 #[.val (.ref a1)] [(.ref w_FORCED_COMPLETE), (.ref a1)])) X5 hx rfl rfl rfl (pc0 := 11) (pc' := 18) (same := false) rfl (hb hby d1_11) rfl (decide_eq_false fun q => hc7 (Value.ref.inj q)) (by decide) (by decide) ?_
        show Steps p.tables e below (T5.setTop (mkF m 18 #[.val (.ref a1)] [])) _
        refine XS.iconst X5.here hx rfl (hb hby d1_18) ?_
        show Steps p.tables e below (T5.setTop (mkF m 19 #[.val (.ref a1)] [(.int (0 : Int32))])) _
        exact retN X5 hx (t := .boolean) Bd.returns (by simp) (hb hby d1_19) hr
      · show Q_rm1 Z a1 w_COMPLETE w_FORCED_COMPLETE h0 n0 _ T5.heap _
        rw [e5]
        exact ⟨(by unfold own_q; rw [if_neg hc3, if_neg hc7]), N0, rfl⟩
theorem ef_rm0 (m : MethodId) (x0 : Int32) : entryFrame m #[(.int x0)] maxLocals = mkF m 0 #[.val (.int x0), .unset, .unset, .unset] [] := by first | (simp [entryFrame, mkF, argsToLocals, Value.category, maxLocals]; done) | rfl
def Q_rm0 (Z : State) (p1 : Int32) (w_ENABLED : Addr) (w_FIRED : Addr) (w_EXECUTING : Addr) (w_COMPLETE : Addr) (w_FORCED_COMPLETE : Addr) (w_FAILED : Addr) (w_IS_PARENT : Addr) (w_SUSPENDED : Addr) (w_DEADLOCKED : Addr) (w_DELETED : Addr) (w_WITHDRAWN : Addr) (w_CANCELLED_BY_CASE : Addr) (w_DISCARDED : Addr) (h0 : Heap) (n0 : Nat) (v : Option Value) (h : Heap) (L : List Loc) : Prop := v = some (.int (1 : Int32)) ∧ Fr n0 L ∧ Keep h0 h []
set_option maxRecDepth 65536 in
set_option maxHeartbeats 40000000 in
theorem rm0 (l : Launch) (Z : State) (a0 : Array Value) (hw : ∀ d ∈ tables_1, d.before a0 Z = true) (ws : List Jvm.Cond) (p1 : Int32) (w_ENABLED : Addr) (w_FIRED : Addr) (w_EXECUTING : Addr) (w_COMPLETE : Addr) (w_FORCED_COMPLETE : Addr) (w_FAILED : Addr) (w_IS_PARENT : Addr) (w_SUSPENDED : Addr) (w_DEADLOCKED : Addr) (w_DELETED : Addr) (w_WITHDRAWN : Addr) (w_CANCELLED_BY_CASE : Addr) (w_DISCARDED : Addr) (h0 : Heap) (n0 : Nat) (Z0 : n0 ≤ h0.size) (P0 : Old Z n0 h0) (P1 : Sta Z Z.heap "com/example/able_hands/ablehands/WorkItemStatus" "ENABLED" "Lcom/example/able_hands/ablehands/WorkItemStatus;" (.ref w_ENABLED)) (P2 : Sta Z Z.heap "com/example/able_hands/ablehands/WorkItemStatus" "FIRED" "Lcom/example/able_hands/ablehands/WorkItemStatus;" (.ref w_FIRED)) (P3 : Sta Z Z.heap "com/example/able_hands/ablehands/WorkItemStatus" "EXECUTING" "Lcom/example/able_hands/ablehands/WorkItemStatus;" (.ref w_EXECUTING)) (P4 : Sta Z Z.heap "com/example/able_hands/ablehands/WorkItemStatus" "COMPLETE" "Lcom/example/able_hands/ablehands/WorkItemStatus;" (.ref w_COMPLETE)) (P5 : Sta Z Z.heap "com/example/able_hands/ablehands/WorkItemStatus" "FORCED_COMPLETE" "Lcom/example/able_hands/ablehands/WorkItemStatus;" (.ref w_FORCED_COMPLETE)) (P6 : Sta Z Z.heap "com/example/able_hands/ablehands/WorkItemStatus" "FAILED" "Lcom/example/able_hands/ablehands/WorkItemStatus;" (.ref w_FAILED)) (P7 : Sta Z Z.heap "com/example/able_hands/ablehands/WorkItemStatus" "IS_PARENT" "Lcom/example/able_hands/ablehands/WorkItemStatus;" (.ref w_IS_PARENT)) (P8 : Sta Z Z.heap "com/example/able_hands/ablehands/WorkItemStatus" "SUSPENDED" "Lcom/example/able_hands/ablehands/WorkItemStatus;" (.ref w_SUSPENDED)) (P9 : Sta Z Z.heap "com/example/able_hands/ablehands/WorkItemStatus" "DEADLOCKED" "Lcom/example/able_hands/ablehands/WorkItemStatus;" (.ref w_DEADLOCKED)) (P10 : Sta Z Z.heap "com/example/able_hands/ablehands/WorkItemStatus" "DELETED" "Lcom/example/able_hands/ablehands/WorkItemStatus;" (.ref w_DELETED)) (P11 : Sta Z Z.heap "com/example/able_hands/ablehands/WorkItemStatus" "WITHDRAWN" "Lcom/example/able_hands/ablehands/WorkItemStatus;" (.ref w_WITHDRAWN)) (P12 : Sta Z Z.heap "com/example/able_hands/ablehands/WorkItemStatus" "CANCELLED_BY_CASE" "Lcom/example/able_hands/ablehands/WorkItemStatus;" (.ref w_CANCELLED_BY_CASE)) (P13 : Sta Z Z.heap "com/example/able_hands/ablehands/WorkItemStatus" "DISCARDED" "Lcom/example/able_hands/ablehands/WorkItemStatus;" (.ref w_DISCARDED)) (P14 : Exa Z h0 w_ENABLED "com/example/able_hands/ablehands/WorkItemStatus") (P15 : Exa Z h0 w_FIRED "com/example/able_hands/ablehands/WorkItemStatus") (P16 : Exa Z h0 w_EXECUTING "com/example/able_hands/ablehands/WorkItemStatus") (P17 : Exa Z h0 w_COMPLETE "com/example/able_hands/ablehands/WorkItemStatus") (P18 : Exa Z h0 w_FORCED_COMPLETE "com/example/able_hands/ablehands/WorkItemStatus") (P19 : Exa Z h0 w_FAILED "com/example/able_hands/ablehands/WorkItemStatus") (P20 : Exa Z h0 w_IS_PARENT "com/example/able_hands/ablehands/WorkItemStatus") (P21 : Exa Z h0 w_SUSPENDED "com/example/able_hands/ablehands/WorkItemStatus") (P22 : Exa Z h0 w_DEADLOCKED "com/example/able_hands/ablehands/WorkItemStatus") (P23 : Exa Z h0 w_DELETED "com/example/able_hands/ablehands/WorkItemStatus") (P24 : Exa Z h0 w_WITHDRAWN "com/example/able_hands/ablehands/WorkItemStatus") (P25 : Exa Z h0 w_CANCELLED_BY_CASE "com/example/able_hands/ablehands/WorkItemStatus") (P26 : Exa Z h0 w_DISCARDED "com/example/able_hands/ablehands/WorkItemStatus") (P27 : Fld Z h0 w_ENABLED "java/lang/Enum" "ordinal" "I" (.int (0 : Int32))) (P28 : Fld Z h0 w_FIRED "java/lang/Enum" "ordinal" "I" (.int (1 : Int32))) (P29 : Fld Z h0 w_EXECUTING "java/lang/Enum" "ordinal" "I" (.int (2 : Int32))) (P30 : Fld Z h0 w_COMPLETE "java/lang/Enum" "ordinal" "I" (.int (3 : Int32))) (P31 : Fld Z h0 w_FORCED_COMPLETE "java/lang/Enum" "ordinal" "I" (.int (4 : Int32))) (P32 : Fld Z h0 w_FAILED "java/lang/Enum" "ordinal" "I" (.int (5 : Int32))) (P33 : Fld Z h0 w_IS_PARENT "java/lang/Enum" "ordinal" "I" (.int (6 : Int32))) (P34 : Fld Z h0 w_SUSPENDED "java/lang/Enum" "ordinal" "I" (.int (7 : Int32))) (P35 : Fld Z h0 w_DEADLOCKED "java/lang/Enum" "ordinal" "I" (.int (8 : Int32))) (P36 : Fld Z h0 w_DELETED "java/lang/Enum" "ordinal" "I" (.int (9 : Int32))) (P37 : Fld Z h0 w_WITHDRAWN "java/lang/Enum" "ordinal" "I" (.int (10 : Int32))) (P38 : Fld Z h0 w_CANCELLED_BY_CASE "java/lang/Enum" "ordinal" "I" (.int (11 : Int32))) (P39 : Fld Z h0 w_DISCARDED "java/lang/Enum" "ordinal" "I" (.int (12 : Int32))) :
    MetFree l x (head1 (Jvm.Cond.code x code maxLocals ret :: ws) room_1) (fun a U => a = #[(.int p1)] ∧ Z.Warmed39 U.vm ∧ U.heap = h0) (fun _ _ _ _ _ => True) (fun _ U o U' => ∃ v L, o = .returned v ∧ Q_rm0 Z p1 w_ENABLED w_FIRED w_EXECUTING w_COMPLETE w_FORCED_COMPLETE w_FAILED w_IS_PARENT w_SUSPENDED w_DEADLOCKED w_DELETED w_WITHDRAWN w_CANCELLED_BY_CASE w_DISCARDED h0 n0 v U'.heap L ∧ FrameEnd U o U' L room_1.cells room_1.slots) := by
  refine MetFree.of_bodySF (plainFor_of_name pn_1) hisR ?_
  intro p e s m args below meth c s₁ Bd hml0 hP hK
  obtain ⟨rfl, hZ, hh⟩ := hP
  have hx := Bd.exec
  have hby := Bd.bytes
  have hml : c.maxLocals = 4 := hml0
  have hown : s.vm.findClass "com/example/able_hands/ablehands/WorkItemStatusIsCompletedPinLaw" = some m.cls := findClass_of_methodNamed Bd.named
  have hnm := (name_of_methodNamed Bd.named Bd.method).1
  have X0 : Stand p l e room_1 s m #[(.int p1)] below meth c s₁ [] 0 0 := Stand.of_body Bd
  have e0 : s₁.heap = h0 := by rw [← hh, Bd.state]; rfl
  have N0 := Fr.nil n0
  have KR : Keep h0 h0 [] := Keep.refl h0 _
  have pre0 : ∀ t, Steps p.tables e below (s₁.setTop (mkF m 0 #[.val (.int p1), .unset, .unset, .unset] [])) t → Steps p.tables e below (s₁.setTop (entryFrame m #[(.int p1)] maxLocals)) t := fun t k => castTop (ef_rm0 m (p1)) k
  obtain ⟨T1, h1, k1, X1, e1, E1, A1, O1, st1⟩ := newR X0 hx hZ hown (kw0 hw) (kw1 hw) e0 (g := (mkF m 2 #[.val (.int p1), .unset, .unset, .unset] [(.int (13 : Int32))])) rfl (hb hby at_2) rfl (by decide) (cap := 13) (by decide) (by decide) (by decide) (by decide)
  obtain ⟨b1, g1⟩ : ∃ z, z = h0.size := ⟨_, rfl⟩
  rw [← g1] at A1 st1
  have ne1_w_CANCELLED_BY_CASE : w_CANCELLED_BY_CASE ≠ b1 := Nat.ne_of_lt (Nat.lt_of_lt_of_le P25.lt (Nat.le_of_eq g1.symm))
  have ne1_w_COMPLETE : w_COMPLETE ≠ b1 := Nat.ne_of_lt (Nat.lt_of_lt_of_le P17.lt (Nat.le_of_eq g1.symm))
  have ne1_w_DEADLOCKED : w_DEADLOCKED ≠ b1 := Nat.ne_of_lt (Nat.lt_of_lt_of_le P22.lt (Nat.le_of_eq g1.symm))
  have ne1_w_DELETED : w_DELETED ≠ b1 := Nat.ne_of_lt (Nat.lt_of_lt_of_le P23.lt (Nat.le_of_eq g1.symm))
  have ne1_w_DISCARDED : w_DISCARDED ≠ b1 := Nat.ne_of_lt (Nat.lt_of_lt_of_le P26.lt (Nat.le_of_eq g1.symm))
  have ne1_w_ENABLED : w_ENABLED ≠ b1 := Nat.ne_of_lt (Nat.lt_of_lt_of_le P14.lt (Nat.le_of_eq g1.symm))
  have ne1_w_EXECUTING : w_EXECUTING ≠ b1 := Nat.ne_of_lt (Nat.lt_of_lt_of_le P16.lt (Nat.le_of_eq g1.symm))
  have ne1_w_FAILED : w_FAILED ≠ b1 := Nat.ne_of_lt (Nat.lt_of_lt_of_le P19.lt (Nat.le_of_eq g1.symm))
  have ne1_w_FIRED : w_FIRED ≠ b1 := Nat.ne_of_lt (Nat.lt_of_lt_of_le P15.lt (Nat.le_of_eq g1.symm))
  have ne1_w_FORCED_COMPLETE : w_FORCED_COMPLETE ≠ b1 := Nat.ne_of_lt (Nat.lt_of_lt_of_le P18.lt (Nat.le_of_eq g1.symm))
  have ne1_w_IS_PARENT : w_IS_PARENT ≠ b1 := Nat.ne_of_lt (Nat.lt_of_lt_of_le P20.lt (Nat.le_of_eq g1.symm))
  have ne1_w_SUSPENDED : w_SUSPENDED ≠ b1 := Nat.ne_of_lt (Nat.lt_of_lt_of_le P21.lt (Nat.le_of_eq g1.symm))
  have ne1_w_WITHDRAWN : w_WITHDRAWN ≠ b1 := Nat.ne_of_lt (Nat.lt_of_lt_of_le P24.lt (Nat.le_of_eq g1.symm))
  have g_b1 : n0 ≤ b1 := Nat.le_trans Z0 (Nat.le_of_eq g1.symm)
  have sz_b1 : h0.size ≤ b1 := Nat.le_trans KR.1 (Nat.le_of_eq g1.symm)
  have Z1 : n0 ≤ h1.size := Nat.le_trans Z0 E1.1
  have K1 : Keep h0 h1 [] := KR.ext E1
  have V1 : Arv Z h1 b1 k1 (.object "com/example/able_hands/ablehands/WorkItemStatus") (13 : Int32) (List.replicate 13 .null) .null := (Arv.new A1 (by decide)).pad (pad_rep [] .null 13)
  have f3 : Old Z n0 h1 := (P0.ext E1)
  obtain ⟨T2, X2, e2, st2⟩ := getS2 X1 hx hZ hown (host := "") (Or.inl (kw2 hw)) Via.refl e1 (Sta.ext f3.2 P1) (g := (mkF m 7 #[.val (.int p1), .unset, .unset, .unset] [(.int (0 : Int32)), (.ref b1), (.ref b1)])) rfl (hb hby at_7)
  obtain ⟨cl4, Ar4, q4, S4, N4', H4, G4⟩ := id V1
  have hin4 : ¬ ((0 : Int32) < 0 ∨ cl4.slots.size ≤ ((0 : Int32)).toNatClampNeg) := inb_of S4 ⟨by decide, by decide⟩
  have f5 : Exa Z h1 w_ENABLED "com/example/able_hands/ablehands/WorkItemStatus" := (P14.ext E1)
  obtain ⟨T4, h4, X4, e4, W4, st4⟩ := stR X2 hx hZ e2 Ar4 (j := (0 : Int32)) hin4 rfl (Sto.ofV Ar4 q4 O1 (Ins.self f5)) (g := (mkF m 10 #[.val (.int p1), .unset, .unset, .unset] [(.ref w_ENABLED), (.int (0 : Int32)), (.ref b1), (.ref b1)])) rfl rfl (hb hby at_10)
  have Z4 : n0 ≤ h4.size := Nat.le_trans Z1 (Keep.of_wr W4).1
  have K4 : Keep h0 h4 [] := K1.wr W4 (Or.inr sz_b1)
  have N4 := Fr.snoc X4 N0 g_b1
  have V4 : Arv Z h4 b1 k1 (.object "com/example/able_hands/ablehands/WorkItemStatus") (13 : Int32) ((List.replicate 13 .null).set 0 (.ref w_ENABLED)) .null := Arv.set Ar4 q4 S4 N4' H4 G4 rfl W4 0 rfl (Nat.le_of_ble_eq_true rfl)
  have f7 : Old Z n0 h4 := (f3.wr W4 g_b1)
  obtain ⟨T6, X6, e6, st6⟩ := getS2 X4 hx hZ hown (host := "") (Or.inl (kw6 hw)) Via.refl e4 (Sta.ext f7.2 P2) (g := (mkF m 13 #[.val (.int p1), .unset, .unset, .unset] [(.int (1 : Int32)), (.ref b1), (.ref b1)])) rfl (hb hby at_13)
  obtain ⟨cl8, Ar8, q8, S8, N8', H8, G8⟩ := id V4
  have hin8 : ¬ ((1 : Int32) < 0 ∨ cl8.slots.size ≤ ((1 : Int32)).toNatClampNeg) := inb_of S8 ⟨by decide, by decide⟩
  have f9 : Exa Z h4 w_FIRED "com/example/able_hands/ablehands/WorkItemStatus" := ((P15.ext E1).wr W4)
  obtain ⟨T8, h8, X8, e8, W8, st8⟩ := stR X6 hx hZ e6 Ar8 (j := (1 : Int32)) hin8 rfl (Sto.ofV Ar8 q8 O1 (Ins.self f9)) (g := (mkF m 16 #[.val (.int p1), .unset, .unset, .unset] [(.ref w_FIRED), (.int (1 : Int32)), (.ref b1), (.ref b1)])) rfl rfl (hb hby at_16)
  have Z8 : n0 ≤ h8.size := Nat.le_trans Z4 (Keep.of_wr W8).1
  have K8 : Keep h0 h8 [] := K4.wr W8 (Or.inr sz_b1)
  have N8 := Fr.snoc X8 N4 g_b1
  have V8 : Arv Z h8 b1 k1 (.object "com/example/able_hands/ablehands/WorkItemStatus") (13 : Int32) (((List.replicate 13 .null).set 0 (.ref w_ENABLED)).set 1 (.ref w_FIRED)) .null := Arv.set Ar8 q8 S8 N8' H8 G8 rfl W8 1 rfl (Nat.le_of_ble_eq_true rfl)
  have f11 : Old Z n0 h8 := (f7.wr W8 g_b1)
  obtain ⟨T10, X10, e10, st10⟩ := getS2 X8 hx hZ hown (host := "") (Or.inl (kw8 hw)) Via.refl e8 (Sta.ext f11.2 P3) (g := (mkF m 19 #[.val (.int p1), .unset, .unset, .unset] [(.int (2 : Int32)), (.ref b1), (.ref b1)])) rfl (hb hby at_19)
  obtain ⟨cl12, Ar12, q12, S12, N12', H12, G12⟩ := id V8
  have hin12 : ¬ ((2 : Int32) < 0 ∨ cl12.slots.size ≤ ((2 : Int32)).toNatClampNeg) := inb_of S12 ⟨by decide, by decide⟩
  have f13 : Exa Z h8 w_EXECUTING "com/example/able_hands/ablehands/WorkItemStatus" := (((P16.ext E1).wr W4).wr W8)
  obtain ⟨T12, h12, X12, e12, W12, st12⟩ := stR X10 hx hZ e10 Ar12 (j := (2 : Int32)) hin12 rfl (Sto.ofV Ar12 q12 O1 (Ins.self f13)) (g := (mkF m 22 #[.val (.int p1), .unset, .unset, .unset] [(.ref w_EXECUTING), (.int (2 : Int32)), (.ref b1), (.ref b1)])) rfl rfl (hb hby at_22)
  have Z12 : n0 ≤ h12.size := Nat.le_trans Z8 (Keep.of_wr W12).1
  have K12 : Keep h0 h12 [] := K8.wr W12 (Or.inr sz_b1)
  have N12 := Fr.snoc X12 N8 g_b1
  have V12 : Arv Z h12 b1 k1 (.object "com/example/able_hands/ablehands/WorkItemStatus") (13 : Int32) ((((List.replicate 13 .null).set 0 (.ref w_ENABLED)).set 1 (.ref w_FIRED)).set 2 (.ref w_EXECUTING)) .null := Arv.set Ar12 q12 S12 N12' H12 G12 rfl W12 2 rfl (Nat.le_of_ble_eq_true rfl)
  have f15 : Old Z n0 h12 := (f11.wr W12 g_b1)
  obtain ⟨T14, X14, e14, st14⟩ := getS2 X12 hx hZ hown (host := "") (Or.inl (kw10 hw)) Via.refl e12 (Sta.ext f15.2 P4) (g := (mkF m 25 #[.val (.int p1), .unset, .unset, .unset] [(.int (3 : Int32)), (.ref b1), (.ref b1)])) rfl (hb hby at_25)
  obtain ⟨cl16, Ar16, q16, S16, N16', H16, G16⟩ := id V12
  have hin16 : ¬ ((3 : Int32) < 0 ∨ cl16.slots.size ≤ ((3 : Int32)).toNatClampNeg) := inb_of S16 ⟨by decide, by decide⟩
  have f17 : Exa Z h12 w_COMPLETE "com/example/able_hands/ablehands/WorkItemStatus" := ((((P17.ext E1).wr W4).wr W8).wr W12)
  obtain ⟨T16, h16, X16, e16, W16, st16⟩ := stR X14 hx hZ e14 Ar16 (j := (3 : Int32)) hin16 rfl (Sto.ofV Ar16 q16 O1 (Ins.self f17)) (g := (mkF m 28 #[.val (.int p1), .unset, .unset, .unset] [(.ref w_COMPLETE), (.int (3 : Int32)), (.ref b1), (.ref b1)])) rfl rfl (hb hby at_28)
  have Z16 : n0 ≤ h16.size := Nat.le_trans Z12 (Keep.of_wr W16).1
  have K16 : Keep h0 h16 [] := K12.wr W16 (Or.inr sz_b1)
  have N16 := Fr.snoc X16 N12 g_b1
  have V16 : Arv Z h16 b1 k1 (.object "com/example/able_hands/ablehands/WorkItemStatus") (13 : Int32) (((((List.replicate 13 .null).set 0 (.ref w_ENABLED)).set 1 (.ref w_FIRED)).set 2 (.ref w_EXECUTING)).set 3 (.ref w_COMPLETE)) .null := Arv.set Ar16 q16 S16 N16' H16 G16 rfl W16 3 rfl (Nat.le_of_ble_eq_true rfl)
  have f19 : Old Z n0 h16 := (f15.wr W16 g_b1)
  obtain ⟨T18, X18, e18, st18⟩ := getS2 X16 hx hZ hown (host := "") (Or.inl (kw12 hw)) Via.refl e16 (Sta.ext f19.2 P5) (g := (mkF m 31 #[.val (.int p1), .unset, .unset, .unset] [(.int (4 : Int32)), (.ref b1), (.ref b1)])) rfl (hb hby at_31)
  obtain ⟨cl20, Ar20, q20, S20, N20', H20, G20⟩ := id V16
  have hin20 : ¬ ((4 : Int32) < 0 ∨ cl20.slots.size ≤ ((4 : Int32)).toNatClampNeg) := inb_of S20 ⟨by decide, by decide⟩
  have f21 : Exa Z h16 w_FORCED_COMPLETE "com/example/able_hands/ablehands/WorkItemStatus" := (((((P18.ext E1).wr W4).wr W8).wr W12).wr W16)
  obtain ⟨T20, h20, X20, e20, W20, st20⟩ := stR X18 hx hZ e18 Ar20 (j := (4 : Int32)) hin20 rfl (Sto.ofV Ar20 q20 O1 (Ins.self f21)) (g := (mkF m 34 #[.val (.int p1), .unset, .unset, .unset] [(.ref w_FORCED_COMPLETE), (.int (4 : Int32)), (.ref b1), (.ref b1)])) rfl rfl (hb hby at_34)
  have Z20 : n0 ≤ h20.size := Nat.le_trans Z16 (Keep.of_wr W20).1
  have K20 : Keep h0 h20 [] := K16.wr W20 (Or.inr sz_b1)
  have N20 := Fr.snoc X20 N16 g_b1
  have V20 : Arv Z h20 b1 k1 (.object "com/example/able_hands/ablehands/WorkItemStatus") (13 : Int32) ((((((List.replicate 13 .null).set 0 (.ref w_ENABLED)).set 1 (.ref w_FIRED)).set 2 (.ref w_EXECUTING)).set 3 (.ref w_COMPLETE)).set 4 (.ref w_FORCED_COMPLETE)) .null := Arv.set Ar20 q20 S20 N20' H20 G20 rfl W20 4 rfl (Nat.le_of_ble_eq_true rfl)
  have f23 : Old Z n0 h20 := (f19.wr W20 g_b1)
  obtain ⟨T22, X22, e22, st22⟩ := getS2 X20 hx hZ hown (host := "") (Or.inl (kw14 hw)) Via.refl e20 (Sta.ext f23.2 P6) (g := (mkF m 37 #[.val (.int p1), .unset, .unset, .unset] [(.int (5 : Int32)), (.ref b1), (.ref b1)])) rfl (hb hby at_37)
  obtain ⟨cl24, Ar24, q24, S24, N24', H24, G24⟩ := id V20
  have hin24 : ¬ ((5 : Int32) < 0 ∨ cl24.slots.size ≤ ((5 : Int32)).toNatClampNeg) := inb_of S24 ⟨by decide, by decide⟩
  have f25 : Exa Z h20 w_FAILED "com/example/able_hands/ablehands/WorkItemStatus" := ((((((P19.ext E1).wr W4).wr W8).wr W12).wr W16).wr W20)
  obtain ⟨T24, h24, X24, e24, W24, st24⟩ := stR X22 hx hZ e22 Ar24 (j := (5 : Int32)) hin24 rfl (Sto.ofV Ar24 q24 O1 (Ins.self f25)) (g := (mkF m 40 #[.val (.int p1), .unset, .unset, .unset] [(.ref w_FAILED), (.int (5 : Int32)), (.ref b1), (.ref b1)])) rfl rfl (hb hby at_40)
  have Z24 : n0 ≤ h24.size := Nat.le_trans Z20 (Keep.of_wr W24).1
  have K24 : Keep h0 h24 [] := K20.wr W24 (Or.inr sz_b1)
  have N24 := Fr.snoc X24 N20 g_b1
  have V24 : Arv Z h24 b1 k1 (.object "com/example/able_hands/ablehands/WorkItemStatus") (13 : Int32) (((((((List.replicate 13 .null).set 0 (.ref w_ENABLED)).set 1 (.ref w_FIRED)).set 2 (.ref w_EXECUTING)).set 3 (.ref w_COMPLETE)).set 4 (.ref w_FORCED_COMPLETE)).set 5 (.ref w_FAILED)) .null := Arv.set Ar24 q24 S24 N24' H24 G24 rfl W24 5 rfl (Nat.le_of_ble_eq_true rfl)
  have f27 : Old Z n0 h24 := (f23.wr W24 g_b1)
  obtain ⟨T26, X26, e26, st26⟩ := getS2 X24 hx hZ hown (host := "") (Or.inl (kw16 hw)) Via.refl e24 (Sta.ext f27.2 P7) (g := (mkF m 44 #[.val (.int p1), .unset, .unset, .unset] [(.int (6 : Int32)), (.ref b1), (.ref b1)])) rfl (hb hby at_44)
  obtain ⟨cl28, Ar28, q28, S28, N28', H28, G28⟩ := id V24
  have hin28 : ¬ ((6 : Int32) < 0 ∨ cl28.slots.size ≤ ((6 : Int32)).toNatClampNeg) := inb_of S28 ⟨by decide, by decide⟩
  have f29 : Exa Z h24 w_IS_PARENT "com/example/able_hands/ablehands/WorkItemStatus" := (((((((P20.ext E1).wr W4).wr W8).wr W12).wr W16).wr W20).wr W24)
  obtain ⟨T28, h28, X28, e28, W28, st28⟩ := stR X26 hx hZ e26 Ar28 (j := (6 : Int32)) hin28 rfl (Sto.ofV Ar28 q28 O1 (Ins.self f29)) (g := (mkF m 47 #[.val (.int p1), .unset, .unset, .unset] [(.ref w_IS_PARENT), (.int (6 : Int32)), (.ref b1), (.ref b1)])) rfl rfl (hb hby at_47)
  have Z28 : n0 ≤ h28.size := Nat.le_trans Z24 (Keep.of_wr W28).1
  have K28 : Keep h0 h28 [] := K24.wr W28 (Or.inr sz_b1)
  have N28 := Fr.snoc X28 N24 g_b1
  have V28 : Arv Z h28 b1 k1 (.object "com/example/able_hands/ablehands/WorkItemStatus") (13 : Int32) ((((((((List.replicate 13 .null).set 0 (.ref w_ENABLED)).set 1 (.ref w_FIRED)).set 2 (.ref w_EXECUTING)).set 3 (.ref w_COMPLETE)).set 4 (.ref w_FORCED_COMPLETE)).set 5 (.ref w_FAILED)).set 6 (.ref w_IS_PARENT)) .null := Arv.set Ar28 q28 S28 N28' H28 G28 rfl W28 6 rfl (Nat.le_of_ble_eq_true rfl)
  have f31 : Old Z n0 h28 := (f27.wr W28 g_b1)
  obtain ⟨T30, X30, e30, st30⟩ := getS2 X28 hx hZ hown (host := "") (Or.inl (kw18 hw)) Via.refl e28 (Sta.ext f31.2 P8) (g := (mkF m 51 #[.val (.int p1), .unset, .unset, .unset] [(.int (7 : Int32)), (.ref b1), (.ref b1)])) rfl (hb hby at_51)
  obtain ⟨cl32, Ar32, q32, S32, N32', H32, G32⟩ := id V28
  have hin32 : ¬ ((7 : Int32) < 0 ∨ cl32.slots.size ≤ ((7 : Int32)).toNatClampNeg) := inb_of S32 ⟨by decide, by decide⟩
  have f33 : Exa Z h28 w_SUSPENDED "com/example/able_hands/ablehands/WorkItemStatus" := ((((((((P21.ext E1).wr W4).wr W8).wr W12).wr W16).wr W20).wr W24).wr W28)
  obtain ⟨T32, h32, X32, e32, W32, st32⟩ := stR X30 hx hZ e30 Ar32 (j := (7 : Int32)) hin32 rfl (Sto.ofV Ar32 q32 O1 (Ins.self f33)) (g := (mkF m 54 #[.val (.int p1), .unset, .unset, .unset] [(.ref w_SUSPENDED), (.int (7 : Int32)), (.ref b1), (.ref b1)])) rfl rfl (hb hby at_54)
  have Z32 : n0 ≤ h32.size := Nat.le_trans Z28 (Keep.of_wr W32).1
  have K32 : Keep h0 h32 [] := K28.wr W32 (Or.inr sz_b1)
  have N32 := Fr.snoc X32 N28 g_b1
  have V32 : Arv Z h32 b1 k1 (.object "com/example/able_hands/ablehands/WorkItemStatus") (13 : Int32) (((((((((List.replicate 13 .null).set 0 (.ref w_ENABLED)).set 1 (.ref w_FIRED)).set 2 (.ref w_EXECUTING)).set 3 (.ref w_COMPLETE)).set 4 (.ref w_FORCED_COMPLETE)).set 5 (.ref w_FAILED)).set 6 (.ref w_IS_PARENT)).set 7 (.ref w_SUSPENDED)) .null := Arv.set Ar32 q32 S32 N32' H32 G32 rfl W32 7 rfl (Nat.le_of_ble_eq_true rfl)
  have f35 : Old Z n0 h32 := (f31.wr W32 g_b1)
  obtain ⟨T34, X34, e34, st34⟩ := getS2 X32 hx hZ hown (host := "") (Or.inl (kw20 hw)) Via.refl e32 (Sta.ext f35.2 P9) (g := (mkF m 58 #[.val (.int p1), .unset, .unset, .unset] [(.int (8 : Int32)), (.ref b1), (.ref b1)])) rfl (hb hby at_58)
  obtain ⟨cl36, Ar36, q36, S36, N36', H36, G36⟩ := id V32
  have hin36 : ¬ ((8 : Int32) < 0 ∨ cl36.slots.size ≤ ((8 : Int32)).toNatClampNeg) := inb_of S36 ⟨by decide, by decide⟩
  have f37 : Exa Z h32 w_DEADLOCKED "com/example/able_hands/ablehands/WorkItemStatus" := (((((((((P22.ext E1).wr W4).wr W8).wr W12).wr W16).wr W20).wr W24).wr W28).wr W32)
  obtain ⟨T36, h36, X36, e36, W36, st36⟩ := stR X34 hx hZ e34 Ar36 (j := (8 : Int32)) hin36 rfl (Sto.ofV Ar36 q36 O1 (Ins.self f37)) (g := (mkF m 61 #[.val (.int p1), .unset, .unset, .unset] [(.ref w_DEADLOCKED), (.int (8 : Int32)), (.ref b1), (.ref b1)])) rfl rfl (hb hby at_61)
  have Z36 : n0 ≤ h36.size := Nat.le_trans Z32 (Keep.of_wr W36).1
  have K36 : Keep h0 h36 [] := K32.wr W36 (Or.inr sz_b1)
  have N36 := Fr.snoc X36 N32 g_b1
  have V36 : Arv Z h36 b1 k1 (.object "com/example/able_hands/ablehands/WorkItemStatus") (13 : Int32) ((((((((((List.replicate 13 .null).set 0 (.ref w_ENABLED)).set 1 (.ref w_FIRED)).set 2 (.ref w_EXECUTING)).set 3 (.ref w_COMPLETE)).set 4 (.ref w_FORCED_COMPLETE)).set 5 (.ref w_FAILED)).set 6 (.ref w_IS_PARENT)).set 7 (.ref w_SUSPENDED)).set 8 (.ref w_DEADLOCKED)) .null := Arv.set Ar36 q36 S36 N36' H36 G36 rfl W36 8 rfl (Nat.le_of_ble_eq_true rfl)
  have f39 : Old Z n0 h36 := (f35.wr W36 g_b1)
  obtain ⟨T38, X38, e38, st38⟩ := getS2 X36 hx hZ hown (host := "") (Or.inl (kw22 hw)) Via.refl e36 (Sta.ext f39.2 P10) (g := (mkF m 65 #[.val (.int p1), .unset, .unset, .unset] [(.int (9 : Int32)), (.ref b1), (.ref b1)])) rfl (hb hby at_65)
  obtain ⟨cl40, Ar40, q40, S40, N40', H40, G40⟩ := id V36
  have hin40 : ¬ ((9 : Int32) < 0 ∨ cl40.slots.size ≤ ((9 : Int32)).toNatClampNeg) := inb_of S40 ⟨by decide, by decide⟩
  have f41 : Exa Z h36 w_DELETED "com/example/able_hands/ablehands/WorkItemStatus" := ((((((((((P23.ext E1).wr W4).wr W8).wr W12).wr W16).wr W20).wr W24).wr W28).wr W32).wr W36)
  obtain ⟨T40, h40, X40, e40, W40, st40⟩ := stR X38 hx hZ e38 Ar40 (j := (9 : Int32)) hin40 rfl (Sto.ofV Ar40 q40 O1 (Ins.self f41)) (g := (mkF m 68 #[.val (.int p1), .unset, .unset, .unset] [(.ref w_DELETED), (.int (9 : Int32)), (.ref b1), (.ref b1)])) rfl rfl (hb hby at_68)
  have Z40 : n0 ≤ h40.size := Nat.le_trans Z36 (Keep.of_wr W40).1
  have K40 : Keep h0 h40 [] := K36.wr W40 (Or.inr sz_b1)
  have N40 := Fr.snoc X40 N36 g_b1
  have V40 : Arv Z h40 b1 k1 (.object "com/example/able_hands/ablehands/WorkItemStatus") (13 : Int32) (((((((((((List.replicate 13 .null).set 0 (.ref w_ENABLED)).set 1 (.ref w_FIRED)).set 2 (.ref w_EXECUTING)).set 3 (.ref w_COMPLETE)).set 4 (.ref w_FORCED_COMPLETE)).set 5 (.ref w_FAILED)).set 6 (.ref w_IS_PARENT)).set 7 (.ref w_SUSPENDED)).set 8 (.ref w_DEADLOCKED)).set 9 (.ref w_DELETED)) .null := Arv.set Ar40 q40 S40 N40' H40 G40 rfl W40 9 rfl (Nat.le_of_ble_eq_true rfl)
  have f43 : Old Z n0 h40 := (f39.wr W40 g_b1)
  obtain ⟨T42, X42, e42, st42⟩ := getS2 X40 hx hZ hown (host := "") (Or.inl (kw24 hw)) Via.refl e40 (Sta.ext f43.2 P11) (g := (mkF m 72 #[.val (.int p1), .unset, .unset, .unset] [(.int (10 : Int32)), (.ref b1), (.ref b1)])) rfl (hb hby at_72)
  obtain ⟨cl44, Ar44, q44, S44, N44', H44, G44⟩ := id V40
  have hin44 : ¬ ((10 : Int32) < 0 ∨ cl44.slots.size ≤ ((10 : Int32)).toNatClampNeg) := inb_of S44 ⟨by decide, by decide⟩
  have f45 : Exa Z h40 w_WITHDRAWN "com/example/able_hands/ablehands/WorkItemStatus" := (((((((((((P24.ext E1).wr W4).wr W8).wr W12).wr W16).wr W20).wr W24).wr W28).wr W32).wr W36).wr W40)
  obtain ⟨T44, h44, X44, e44, W44, st44⟩ := stR X42 hx hZ e42 Ar44 (j := (10 : Int32)) hin44 rfl (Sto.ofV Ar44 q44 O1 (Ins.self f45)) (g := (mkF m 75 #[.val (.int p1), .unset, .unset, .unset] [(.ref w_WITHDRAWN), (.int (10 : Int32)), (.ref b1), (.ref b1)])) rfl rfl (hb hby at_75)
  have Z44 : n0 ≤ h44.size := Nat.le_trans Z40 (Keep.of_wr W44).1
  have K44 : Keep h0 h44 [] := K40.wr W44 (Or.inr sz_b1)
  have N44 := Fr.snoc X44 N40 g_b1
  have V44 : Arv Z h44 b1 k1 (.object "com/example/able_hands/ablehands/WorkItemStatus") (13 : Int32) ((((((((((((List.replicate 13 .null).set 0 (.ref w_ENABLED)).set 1 (.ref w_FIRED)).set 2 (.ref w_EXECUTING)).set 3 (.ref w_COMPLETE)).set 4 (.ref w_FORCED_COMPLETE)).set 5 (.ref w_FAILED)).set 6 (.ref w_IS_PARENT)).set 7 (.ref w_SUSPENDED)).set 8 (.ref w_DEADLOCKED)).set 9 (.ref w_DELETED)).set 10 (.ref w_WITHDRAWN)) .null := Arv.set Ar44 q44 S44 N44' H44 G44 rfl W44 10 rfl (Nat.le_of_ble_eq_true rfl)
  have f47 : Old Z n0 h44 := (f43.wr W44 g_b1)
  obtain ⟨T46, X46, e46, st46⟩ := getS2 X44 hx hZ hown (host := "") (Or.inl (kw26 hw)) Via.refl e44 (Sta.ext f47.2 P12) (g := (mkF m 79 #[.val (.int p1), .unset, .unset, .unset] [(.int (11 : Int32)), (.ref b1), (.ref b1)])) rfl (hb hby at_79)
  obtain ⟨cl48, Ar48, q48, S48, N48', H48, G48⟩ := id V44
  have hin48 : ¬ ((11 : Int32) < 0 ∨ cl48.slots.size ≤ ((11 : Int32)).toNatClampNeg) := inb_of S48 ⟨by decide, by decide⟩
  have f49 : Exa Z h44 w_CANCELLED_BY_CASE "com/example/able_hands/ablehands/WorkItemStatus" := ((((((((((((P25.ext E1).wr W4).wr W8).wr W12).wr W16).wr W20).wr W24).wr W28).wr W32).wr W36).wr W40).wr W44)
  obtain ⟨T48, h48, X48, e48, W48, st48⟩ := stR X46 hx hZ e46 Ar48 (j := (11 : Int32)) hin48 rfl (Sto.ofV Ar48 q48 O1 (Ins.self f49)) (g := (mkF m 82 #[.val (.int p1), .unset, .unset, .unset] [(.ref w_CANCELLED_BY_CASE), (.int (11 : Int32)), (.ref b1), (.ref b1)])) rfl rfl (hb hby at_82)
  have Z48 : n0 ≤ h48.size := Nat.le_trans Z44 (Keep.of_wr W48).1
  have K48 : Keep h0 h48 [] := K44.wr W48 (Or.inr sz_b1)
  have N48 := Fr.snoc X48 N44 g_b1
  have V48 : Arv Z h48 b1 k1 (.object "com/example/able_hands/ablehands/WorkItemStatus") (13 : Int32) (((((((((((((List.replicate 13 .null).set 0 (.ref w_ENABLED)).set 1 (.ref w_FIRED)).set 2 (.ref w_EXECUTING)).set 3 (.ref w_COMPLETE)).set 4 (.ref w_FORCED_COMPLETE)).set 5 (.ref w_FAILED)).set 6 (.ref w_IS_PARENT)).set 7 (.ref w_SUSPENDED)).set 8 (.ref w_DEADLOCKED)).set 9 (.ref w_DELETED)).set 10 (.ref w_WITHDRAWN)).set 11 (.ref w_CANCELLED_BY_CASE)) .null := Arv.set Ar48 q48 S48 N48' H48 G48 rfl W48 11 rfl (Nat.le_of_ble_eq_true rfl)
  have f51 : Old Z n0 h48 := (f47.wr W48 g_b1)
  obtain ⟨T50, X50, e50, st50⟩ := getS2 X48 hx hZ hown (host := "") (Or.inl (kw28 hw)) Via.refl e48 (Sta.ext f51.2 P13) (g := (mkF m 86 #[.val (.int p1), .unset, .unset, .unset] [(.int (12 : Int32)), (.ref b1), (.ref b1)])) rfl (hb hby at_86)
  obtain ⟨cl52, Ar52, q52, S52, N52', H52, G52⟩ := id V48
  have hin52 : ¬ ((12 : Int32) < 0 ∨ cl52.slots.size ≤ ((12 : Int32)).toNatClampNeg) := inb_of S52 ⟨by decide, by decide⟩
  have f53 : Exa Z h48 w_DISCARDED "com/example/able_hands/ablehands/WorkItemStatus" := (((((((((((((P26.ext E1).wr W4).wr W8).wr W12).wr W16).wr W20).wr W24).wr W28).wr W32).wr W36).wr W40).wr W44).wr W48)
  obtain ⟨T52, h52, X52, e52, W52, st52⟩ := stR X50 hx hZ e50 Ar52 (j := (12 : Int32)) hin52 rfl (Sto.ofV Ar52 q52 O1 (Ins.self f53)) (g := (mkF m 89 #[.val (.int p1), .unset, .unset, .unset] [(.ref w_DISCARDED), (.int (12 : Int32)), (.ref b1), (.ref b1)])) rfl rfl (hb hby at_89)
  have Z52 : n0 ≤ h52.size := Nat.le_trans Z48 (Keep.of_wr W52).1
  have K52 : Keep h0 h52 [] := K48.wr W52 (Or.inr sz_b1)
  have N52 := Fr.snoc X52 N48 g_b1
  have V52 : Arv Z h52 b1 k1 (.object "com/example/able_hands/ablehands/WorkItemStatus") (13 : Int32) ((((((((((((((List.replicate 13 .null).set 0 (.ref w_ENABLED)).set 1 (.ref w_FIRED)).set 2 (.ref w_EXECUTING)).set 3 (.ref w_COMPLETE)).set 4 (.ref w_FORCED_COMPLETE)).set 5 (.ref w_FAILED)).set 6 (.ref w_IS_PARENT)).set 7 (.ref w_SUSPENDED)).set 8 (.ref w_DEADLOCKED)).set 9 (.ref w_DELETED)).set 10 (.ref w_WITHDRAWN)).set 11 (.ref w_CANCELLED_BY_CASE)).set 12 (.ref w_DISCARDED)) .null := Arv.set Ar52 q52 S52 N52' H52 G52 rfl W52 12 rfl (Nat.le_of_ble_eq_true rfl)
  have Vs52 : Arv Z h52 b1 k1 (.object "com/example/able_hands/ablehands/WorkItemStatus") (13 : Int32) (own_all w_ENABLED w_FIRED w_EXECUTING w_COMPLETE w_FORCED_COMPLETE w_FAILED w_IS_PARENT w_SUSPENDED w_DEADLOCKED w_DELETED w_WITHDRAWN w_CANCELLED_BY_CASE w_DISCARDED) .null := V52
  have pre54 : ∀ t, Steps p.tables e below (T52.setTop (mkF m 101 #[.val (.int p1), .val (.ref b1), .val (.int ((p1 &&& (2147483647 : Int32)) % (13 : Int32))), .unset] [(.int (3 : Int32)), (.int ((p1 &&& (2147483647 : Int32)) % (13 : Int32)))])) t → Steps p.tables e below (s₁.setTop (entryFrame m #[(.int p1)] maxLocals)) t := fun t k => pre0 t (by
    show Steps p.tables e below (s₁.setTop (mkF m 0 #[.val (.int p1), .unset, .unset, .unset] [])) _
    refine XS.bipush X0.here hx rfl (hb hby at_0) ?_
    show Steps p.tables e below (s₁.setTop (mkF m 2 #[.val (.int p1), .unset, .unset, .unset] [(.int (13 : Int32))])) _
    refine st1 _ ?_
    show Steps p.tables e below (T1.setTop (mkF m 5 #[.val (.int p1), .unset, .unset, .unset] [(.ref b1)])) _
    refine XS.dup X1.here hx rfl (hb hby at_5) rfl rfl ?_
    show Steps p.tables e below (T1.setTop (mkF m 6 #[.val (.int p1), .unset, .unset, .unset] [(.ref b1), (.ref b1)])) _
    refine XS.iconst X1.here hx rfl (hb hby at_6) ?_
    show Steps p.tables e below (T1.setTop (mkF m 7 #[.val (.int p1), .unset, .unset, .unset] [(.int (0 : Int32)), (.ref b1), (.ref b1)])) _
    refine st2 _ ?_
    show Steps p.tables e below (T2.setTop (mkF m 10 #[.val (.int p1), .unset, .unset, .unset] [(.ref w_ENABLED), (.int (0 : Int32)), (.ref b1), (.ref b1)])) _
    refine st4 _ ?_
    show Steps p.tables e below (T4.setTop (mkF m 11 #[.val (.int p1), .unset, .unset, .unset] [(.ref b1)])) _
    refine XS.dup X4.here hx rfl (hb hby at_11) rfl rfl ?_
    show Steps p.tables e below (T4.setTop (mkF m 12 #[.val (.int p1), .unset, .unset, .unset] [(.ref b1), (.ref b1)])) _
    refine XS.iconst X4.here hx rfl (hb hby at_12) ?_
    show Steps p.tables e below (T4.setTop (mkF m 13 #[.val (.int p1), .unset, .unset, .unset] [(.int (1 : Int32)), (.ref b1), (.ref b1)])) _
    refine st6 _ ?_
    show Steps p.tables e below (T6.setTop (mkF m 16 #[.val (.int p1), .unset, .unset, .unset] [(.ref w_FIRED), (.int (1 : Int32)), (.ref b1), (.ref b1)])) _
    refine st8 _ ?_
    show Steps p.tables e below (T8.setTop (mkF m 17 #[.val (.int p1), .unset, .unset, .unset] [(.ref b1)])) _
    refine XS.dup X8.here hx rfl (hb hby at_17) rfl rfl ?_
    show Steps p.tables e below (T8.setTop (mkF m 18 #[.val (.int p1), .unset, .unset, .unset] [(.ref b1), (.ref b1)])) _
    refine XS.iconst X8.here hx rfl (hb hby at_18) ?_
    show Steps p.tables e below (T8.setTop (mkF m 19 #[.val (.int p1), .unset, .unset, .unset] [(.int (2 : Int32)), (.ref b1), (.ref b1)])) _
    refine st10 _ ?_
    show Steps p.tables e below (T10.setTop (mkF m 22 #[.val (.int p1), .unset, .unset, .unset] [(.ref w_EXECUTING), (.int (2 : Int32)), (.ref b1), (.ref b1)])) _
    refine st12 _ ?_
    show Steps p.tables e below (T12.setTop (mkF m 23 #[.val (.int p1), .unset, .unset, .unset] [(.ref b1)])) _
    refine XS.dup X12.here hx rfl (hb hby at_23) rfl rfl ?_
    show Steps p.tables e below (T12.setTop (mkF m 24 #[.val (.int p1), .unset, .unset, .unset] [(.ref b1), (.ref b1)])) _
    refine XS.iconst X12.here hx rfl (hb hby at_24) ?_
    show Steps p.tables e below (T12.setTop (mkF m 25 #[.val (.int p1), .unset, .unset, .unset] [(.int (3 : Int32)), (.ref b1), (.ref b1)])) _
    refine st14 _ ?_
    show Steps p.tables e below (T14.setTop (mkF m 28 #[.val (.int p1), .unset, .unset, .unset] [(.ref w_COMPLETE), (.int (3 : Int32)), (.ref b1), (.ref b1)])) _
    refine st16 _ ?_
    show Steps p.tables e below (T16.setTop (mkF m 29 #[.val (.int p1), .unset, .unset, .unset] [(.ref b1)])) _
    refine XS.dup X16.here hx rfl (hb hby at_29) rfl rfl ?_
    show Steps p.tables e below (T16.setTop (mkF m 30 #[.val (.int p1), .unset, .unset, .unset] [(.ref b1), (.ref b1)])) _
    refine XS.iconst X16.here hx rfl (hb hby at_30) ?_
    show Steps p.tables e below (T16.setTop (mkF m 31 #[.val (.int p1), .unset, .unset, .unset] [(.int (4 : Int32)), (.ref b1), (.ref b1)])) _
    refine st18 _ ?_
    show Steps p.tables e below (T18.setTop (mkF m 34 #[.val (.int p1), .unset, .unset, .unset] [(.ref w_FORCED_COMPLETE), (.int (4 : Int32)), (.ref b1), (.ref b1)])) _
    refine st20 _ ?_
    show Steps p.tables e below (T20.setTop (mkF m 35 #[.val (.int p1), .unset, .unset, .unset] [(.ref b1)])) _
    refine XS.dup X20.here hx rfl (hb hby at_35) rfl rfl ?_
    show Steps p.tables e below (T20.setTop (mkF m 36 #[.val (.int p1), .unset, .unset, .unset] [(.ref b1), (.ref b1)])) _
    refine XS.iconst X20.here hx rfl (hb hby at_36) ?_
    show Steps p.tables e below (T20.setTop (mkF m 37 #[.val (.int p1), .unset, .unset, .unset] [(.int (5 : Int32)), (.ref b1), (.ref b1)])) _
    refine st22 _ ?_
    show Steps p.tables e below (T22.setTop (mkF m 40 #[.val (.int p1), .unset, .unset, .unset] [(.ref w_FAILED), (.int (5 : Int32)), (.ref b1), (.ref b1)])) _
    refine st24 _ ?_
    show Steps p.tables e below (T24.setTop (mkF m 41 #[.val (.int p1), .unset, .unset, .unset] [(.ref b1)])) _
    refine XS.dup X24.here hx rfl (hb hby at_41) rfl rfl ?_
    show Steps p.tables e below (T24.setTop (mkF m 42 #[.val (.int p1), .unset, .unset, .unset] [(.ref b1), (.ref b1)])) _
    refine XS.bipush X24.here hx rfl (hb hby at_42) ?_
    show Steps p.tables e below (T24.setTop (mkF m 44 #[.val (.int p1), .unset, .unset, .unset] [(.int (6 : Int32)), (.ref b1), (.ref b1)])) _
    refine st26 _ ?_
    show Steps p.tables e below (T26.setTop (mkF m 47 #[.val (.int p1), .unset, .unset, .unset] [(.ref w_IS_PARENT), (.int (6 : Int32)), (.ref b1), (.ref b1)])) _
    refine st28 _ ?_
    show Steps p.tables e below (T28.setTop (mkF m 48 #[.val (.int p1), .unset, .unset, .unset] [(.ref b1)])) _
    refine XS.dup X28.here hx rfl (hb hby at_48) rfl rfl ?_
    show Steps p.tables e below (T28.setTop (mkF m 49 #[.val (.int p1), .unset, .unset, .unset] [(.ref b1), (.ref b1)])) _
    refine XS.bipush X28.here hx rfl (hb hby at_49) ?_
    show Steps p.tables e below (T28.setTop (mkF m 51 #[.val (.int p1), .unset, .unset, .unset] [(.int (7 : Int32)), (.ref b1), (.ref b1)])) _
    refine st30 _ ?_
    show Steps p.tables e below (T30.setTop (mkF m 54 #[.val (.int p1), .unset, .unset, .unset] [(.ref w_SUSPENDED), (.int (7 : Int32)), (.ref b1), (.ref b1)])) _
    refine st32 _ ?_
    show Steps p.tables e below (T32.setTop (mkF m 55 #[.val (.int p1), .unset, .unset, .unset] [(.ref b1)])) _
    refine XS.dup X32.here hx rfl (hb hby at_55) rfl rfl ?_
    show Steps p.tables e below (T32.setTop (mkF m 56 #[.val (.int p1), .unset, .unset, .unset] [(.ref b1), (.ref b1)])) _
    refine XS.bipush X32.here hx rfl (hb hby at_56) ?_
    show Steps p.tables e below (T32.setTop (mkF m 58 #[.val (.int p1), .unset, .unset, .unset] [(.int (8 : Int32)), (.ref b1), (.ref b1)])) _
    refine st34 _ ?_
    show Steps p.tables e below (T34.setTop (mkF m 61 #[.val (.int p1), .unset, .unset, .unset] [(.ref w_DEADLOCKED), (.int (8 : Int32)), (.ref b1), (.ref b1)])) _
    refine st36 _ ?_
    show Steps p.tables e below (T36.setTop (mkF m 62 #[.val (.int p1), .unset, .unset, .unset] [(.ref b1)])) _
    refine XS.dup X36.here hx rfl (hb hby at_62) rfl rfl ?_
    show Steps p.tables e below (T36.setTop (mkF m 63 #[.val (.int p1), .unset, .unset, .unset] [(.ref b1), (.ref b1)])) _
    refine XS.bipush X36.here hx rfl (hb hby at_63) ?_
    show Steps p.tables e below (T36.setTop (mkF m 65 #[.val (.int p1), .unset, .unset, .unset] [(.int (9 : Int32)), (.ref b1), (.ref b1)])) _
    refine st38 _ ?_
    show Steps p.tables e below (T38.setTop (mkF m 68 #[.val (.int p1), .unset, .unset, .unset] [(.ref w_DELETED), (.int (9 : Int32)), (.ref b1), (.ref b1)])) _
    refine st40 _ ?_
    show Steps p.tables e below (T40.setTop (mkF m 69 #[.val (.int p1), .unset, .unset, .unset] [(.ref b1)])) _
    refine XS.dup X40.here hx rfl (hb hby at_69) rfl rfl ?_
    show Steps p.tables e below (T40.setTop (mkF m 70 #[.val (.int p1), .unset, .unset, .unset] [(.ref b1), (.ref b1)])) _
    refine XS.bipush X40.here hx rfl (hb hby at_70) ?_
    show Steps p.tables e below (T40.setTop (mkF m 72 #[.val (.int p1), .unset, .unset, .unset] [(.int (10 : Int32)), (.ref b1), (.ref b1)])) _
    refine st42 _ ?_
    show Steps p.tables e below (T42.setTop (mkF m 75 #[.val (.int p1), .unset, .unset, .unset] [(.ref w_WITHDRAWN), (.int (10 : Int32)), (.ref b1), (.ref b1)])) _
    refine st44 _ ?_
    show Steps p.tables e below (T44.setTop (mkF m 76 #[.val (.int p1), .unset, .unset, .unset] [(.ref b1)])) _
    refine XS.dup X44.here hx rfl (hb hby at_76) rfl rfl ?_
    show Steps p.tables e below (T44.setTop (mkF m 77 #[.val (.int p1), .unset, .unset, .unset] [(.ref b1), (.ref b1)])) _
    refine XS.bipush X44.here hx rfl (hb hby at_77) ?_
    show Steps p.tables e below (T44.setTop (mkF m 79 #[.val (.int p1), .unset, .unset, .unset] [(.int (11 : Int32)), (.ref b1), (.ref b1)])) _
    refine st46 _ ?_
    show Steps p.tables e below (T46.setTop (mkF m 82 #[.val (.int p1), .unset, .unset, .unset] [(.ref w_CANCELLED_BY_CASE), (.int (11 : Int32)), (.ref b1), (.ref b1)])) _
    refine st48 _ ?_
    show Steps p.tables e below (T48.setTop (mkF m 83 #[.val (.int p1), .unset, .unset, .unset] [(.ref b1)])) _
    refine XS.dup X48.here hx rfl (hb hby at_83) rfl rfl ?_
    show Steps p.tables e below (T48.setTop (mkF m 84 #[.val (.int p1), .unset, .unset, .unset] [(.ref b1), (.ref b1)])) _
    refine XS.bipush X48.here hx rfl (hb hby at_84) ?_
    show Steps p.tables e below (T48.setTop (mkF m 86 #[.val (.int p1), .unset, .unset, .unset] [(.int (12 : Int32)), (.ref b1), (.ref b1)])) _
    refine st50 _ ?_
    show Steps p.tables e below (T50.setTop (mkF m 89 #[.val (.int p1), .unset, .unset, .unset] [(.ref w_DISCARDED), (.int (12 : Int32)), (.ref b1), (.ref b1)])) _
    refine st52 _ ?_
    show Steps p.tables e below (T52.setTop (mkF m 90 #[.val (.int p1), .unset, .unset, .unset] [(.ref b1)])) _
    refine XS.astoreN X52.here hx rfl (hb hby at_90) rfl rfl (l' := #[.val (.int p1), .val (.ref b1), .unset, .unset]) rfl ?_
    show Steps p.tables e below (T52.setTop (mkF m 91 #[.val (.int p1), .val (.ref b1), .unset, .unset] [])) _
    refine XS.iloadN X52.here hx rfl (hb hby at_91) rfl ?_
    show Steps p.tables e below (T52.setTop (mkF m 92 #[.val (.int p1), .val (.ref b1), .unset, .unset] [(.int p1)])) _
    refine X52.ldcInt hx hown (mvT hZ (kw30 hw)) (g := (mkF m 92 #[.val (.int p1), .val (.ref b1), .unset, .unset] [(.int p1)])) rfl (hb hby at_92) _ ?_
    show Steps p.tables e below (T52.setTop (mkF m 94 #[.val (.int p1), .val (.ref b1), .unset, .unset] [(.int (2147483647 : Int32)), (.int p1)])) _
    refine XS.iand X52.here hx rfl (hb hby at_94) rfl ?_
    show Steps p.tables e below (T52.setTop (mkF m 95 #[.val (.int p1), .val (.ref b1), .unset, .unset] [(.int (p1 &&& (2147483647 : Int32)))])) _
    refine XS.bipush X52.here hx rfl (hb hby at_95) ?_
    show Steps p.tables e below (T52.setTop (mkF m 97 #[.val (.int p1), .val (.ref b1), .unset, .unset] [(.int (13 : Int32)), (.int (p1 &&& (2147483647 : Int32)))])) _
    refine iremM X52 hx rfl (hb hby at_97) rfl (by decide) ?_
    show Steps p.tables e below (T52.setTop (mkF m 98 #[.val (.int p1), .val (.ref b1), .unset, .unset] [(.int ((p1 &&& (2147483647 : Int32)) % (13 : Int32)))])) _
    refine XS.istoreN X52.here hx rfl (hb hby at_98) rfl (l' := #[.val (.int p1), .val (.ref b1), .val (.int ((p1 &&& (2147483647 : Int32)) % (13 : Int32))), .unset]) rfl ?_
    show Steps p.tables e below (T52.setTop (mkF m 99 #[.val (.int p1), .val (.ref b1), .val (.int ((p1 &&& (2147483647 : Int32)) % (13 : Int32))), .unset] [])) _
    refine XS.iloadN X52.here hx rfl (hb hby at_99) rfl ?_
    show Steps p.tables e below (T52.setTop (mkF m 100 #[.val (.int p1), .val (.ref b1), .val (.int ((p1 &&& (2147483647 : Int32)) % (13 : Int32))), .unset] [(.int ((p1 &&& (2147483647 : Int32)) % (13 : Int32)))])) _
    refine XS.iconst X52.here hx rfl (hb hby at_100) ?_
    show Steps p.tables e below (T52.setTop (mkF m 101 #[.val (.int p1), .val (.ref b1), .val (.int ((p1 &&& (2147483647 : Int32)) % (13 : Int32))), .unset] [(.int (3 : Int32)), (.int ((p1 &&& (2147483647 : Int32)) % (13 : Int32)))])) _
    exact k)
  have pre57 : ∀ t, Steps p.tables e below (T52.setTop (mkF m 114 #[.val (.int p1), .val (.ref b1), .val (.int ((p1 &&& (2147483647 : Int32)) % (13 : Int32))), .unset] [(.int (if ((p1 &&& (2147483647 : Int32)) % (13 : Int32)) = (3 : Int32) then (1 : Int32) else (if ((p1 &&& (2147483647 : Int32)) % (13 : Int32)) = (4 : Int32) then (1 : Int32) else (0 : Int32))))])) t → Steps p.tables e below (s₁.setTop (entryFrame m #[(.int p1)] maxLocals)) t := fun t k => pre54 t (by
    by_cases hc55 : ((p1 &&& (2147483647 : Int32)) % (13 : Int32)) = (3 : Int32)
    · skip
      refine XS.icmpYes X52.here hx rfl (pc0 := 101) (pc' := 109) rfl (hb hby at_101) rfl (teq hc55).1 (by decide) (by decide) ?_
      show Steps p.tables e below (T52.setTop (mkF m 109 #[.val (.int p1), .val (.ref b1), .val (.int ((p1 &&& (2147483647 : Int32)) % (13 : Int32))), .unset] [])) _
      refine XS.iconst X52.here hx rfl (hb hby at_109) ?_
      show Steps p.tables e below (T52.setTop (mkF m 110 #[.val (.int p1), .val (.ref b1), .val (.int ((p1 &&& (2147483647 : Int32)) % (13 : Int32))), .unset] [(.int (1 : Int32))])) _
      refine XS.goto X52.here hx rfl (pc0 := 110) (pc' := 114) rfl (hb hby at_110) (by decide) (by decide) ?_
      show Steps p.tables e below (T52.setTop (mkF m 114 #[.val (.int p1), .val (.ref b1), .val (.int ((p1 &&& (2147483647 : Int32)) % (13 : Int32))), .unset] [(.int (1 : Int32))])) _
      simp only [if_pos hc55] at k; exact k
    · skip
      refine XS.icmpNo X52.here hx rfl (hb hby at_101) rfl (feq hc55).1 ?_
      show Steps p.tables e below (T52.setTop (mkF m 104 #[.val (.int p1), .val (.ref b1), .val (.int ((p1 &&& (2147483647 : Int32)) % (13 : Int32))), .unset] [])) _
      refine XS.iloadN X52.here hx rfl (hb hby at_104) rfl ?_
      show Steps p.tables e below (T52.setTop (mkF m 105 #[.val (.int p1), .val (.ref b1), .val (.int ((p1 &&& (2147483647 : Int32)) % (13 : Int32))), .unset] [(.int ((p1 &&& (2147483647 : Int32)) % (13 : Int32)))])) _
      refine XS.iconst X52.here hx rfl (hb hby at_105) ?_
      show Steps p.tables e below (T52.setTop (mkF m 106 #[.val (.int p1), .val (.ref b1), .val (.int ((p1 &&& (2147483647 : Int32)) % (13 : Int32))), .unset] [(.int (4 : Int32)), (.int ((p1 &&& (2147483647 : Int32)) % (13 : Int32)))])) _
      by_cases hc56 : ((p1 &&& (2147483647 : Int32)) % (13 : Int32)) = (4 : Int32)
      · skip
        refine XS.icmpNo X52.here hx rfl (hb hby at_106) rfl (teq hc56).2 ?_
        show Steps p.tables e below (T52.setTop (mkF m 109 #[.val (.int p1), .val (.ref b1), .val (.int ((p1 &&& (2147483647 : Int32)) % (13 : Int32))), .unset] [])) _
        refine XS.iconst X52.here hx rfl (hb hby at_109) ?_
        show Steps p.tables e below (T52.setTop (mkF m 110 #[.val (.int p1), .val (.ref b1), .val (.int ((p1 &&& (2147483647 : Int32)) % (13 : Int32))), .unset] [(.int (1 : Int32))])) _
        refine XS.goto X52.here hx rfl (pc0 := 110) (pc' := 114) rfl (hb hby at_110) (by decide) (by decide) ?_
        show Steps p.tables e below (T52.setTop (mkF m 114 #[.val (.int p1), .val (.ref b1), .val (.int ((p1 &&& (2147483647 : Int32)) % (13 : Int32))), .unset] [(.int (1 : Int32))])) _
        simp only [if_neg hc55, if_pos hc56] at k; exact k
      · skip
        refine XS.icmpYes X52.here hx rfl (pc0 := 106) (pc' := 113) rfl (hb hby at_106) rfl (feq hc56).2 (by decide) (by decide) ?_
        show Steps p.tables e below (T52.setTop (mkF m 113 #[.val (.int p1), .val (.ref b1), .val (.int ((p1 &&& (2147483647 : Int32)) % (13 : Int32))), .unset] [])) _
        refine XS.iconst X52.here hx rfl (hb hby at_113) ?_
        show Steps p.tables e below (T52.setTop (mkF m 114 #[.val (.int p1), .val (.ref b1), .val (.int ((p1 &&& (2147483647 : Int32)) % (13 : Int32))), .unset] [(.int (0 : Int32))])) _
        simp only [if_neg hc55, if_neg hc56] at k; exact k)
  obtain ⟨cl58, Ar58, q58, S58, N58', H58, G58⟩ := id Vs52
  have hin58 : ¬ (((p1 &&& (2147483647 : Int32)) % (13 : Int32)) < 0 ∨ cl58.slots.size ≤ (((p1 &&& (2147483647 : Int32)) % (13 : Int32))).toNatClampNeg) := inb_of S58 (own_in (own_rem p1 13 (by decide)))
  have f59 : Exa Z h52 w_ENABLED "com/example/able_hands/ablehands/WorkItemStatus" := (((((((((((((f5.wr W4).wr W8).wr W12).wr W16).wr W20).wr W24).wr W28).wr W32).wr W36).wr W40).wr W44).wr W48).wr W52)
  have f60 : Exa Z h52 w_FIRED "com/example/able_hands/ablehands/WorkItemStatus" := ((((((((((((f9.wr W8).wr W12).wr W16).wr W20).wr W24).wr W28).wr W32).wr W36).wr W40).wr W44).wr W48).wr W52)
  have f61 : Exa Z h52 w_EXECUTING "com/example/able_hands/ablehands/WorkItemStatus" := (((((((((((f13.wr W12).wr W16).wr W20).wr W24).wr W28).wr W32).wr W36).wr W40).wr W44).wr W48).wr W52)
  have f62 : Exa Z h52 w_COMPLETE "com/example/able_hands/ablehands/WorkItemStatus" := ((((((((((f17.wr W16).wr W20).wr W24).wr W28).wr W32).wr W36).wr W40).wr W44).wr W48).wr W52)
  have f63 : Exa Z h52 w_FORCED_COMPLETE "com/example/able_hands/ablehands/WorkItemStatus" := (((((((((f21.wr W20).wr W24).wr W28).wr W32).wr W36).wr W40).wr W44).wr W48).wr W52)
  have f64 : Exa Z h52 w_FAILED "com/example/able_hands/ablehands/WorkItemStatus" := ((((((((f25.wr W24).wr W28).wr W32).wr W36).wr W40).wr W44).wr W48).wr W52)
  have f65 : Exa Z h52 w_IS_PARENT "com/example/able_hands/ablehands/WorkItemStatus" := (((((((f29.wr W28).wr W32).wr W36).wr W40).wr W44).wr W48).wr W52)
  have f66 : Exa Z h52 w_SUSPENDED "com/example/able_hands/ablehands/WorkItemStatus" := ((((((f33.wr W32).wr W36).wr W40).wr W44).wr W48).wr W52)
  have f67 : Exa Z h52 w_DEADLOCKED "com/example/able_hands/ablehands/WorkItemStatus" := (((((f37.wr W36).wr W40).wr W44).wr W48).wr W52)
  have f68 : Exa Z h52 w_DELETED "com/example/able_hands/ablehands/WorkItemStatus" := ((((f41.wr W40).wr W44).wr W48).wr W52)
  have f69 : Exa Z h52 w_WITHDRAWN "com/example/able_hands/ablehands/WorkItemStatus" := (((f45.wr W44).wr W48).wr W52)
  have f70 : Exa Z h52 w_CANCELLED_BY_CASE "com/example/able_hands/ablehands/WorkItemStatus" := ((f49.wr W48).wr W52)
  have f71 : Exa Z h52 w_DISCARDED "com/example/able_hands/ablehands/WorkItemStatus" := (f53.wr W52)
  have Ep : Exa Z h52 (own_pick ((p1 &&& (2147483647 : Int32)) % (13 : Int32)) w_ENABLED w_FIRED w_EXECUTING w_COMPLETE w_FORCED_COMPLETE w_FAILED w_IS_PARENT w_SUSPENDED w_DEADLOCKED w_DELETED w_WITHDRAWN w_CANCELLED_BY_CASE w_DISCARDED) "com/example/able_hands/ablehands/WorkItemStatus" := own_pick_ind (P := fun z => Exa Z h52 z "com/example/able_hands/ablehands/WorkItemStatus") f59 f60 f61 f62 f63 f64 f65 f66 f67 f68 f69 f70 f71
  have hat58 : cl58.slots[(((p1 &&& (2147483647 : Int32)) % (13 : Int32))).toNatClampNeg]? = some (.ref (own_pick ((p1 &&& (2147483647 : Int32)) % (13 : Int32)) w_ENABLED w_FIRED w_EXECUTING w_COMPLETE w_FORCED_COMPLETE w_FAILED w_IS_PARENT w_SUSPENDED w_DEADLOCKED w_DELETED w_WITHDRAWN w_CANCELLED_BY_CASE w_DISCARDED)) := H58.at hin58 (own_at (own_rem p1 13 (by decide)))
  have f73 : Old Z n0 h52 := (f51.wr W52 g_b1)
  obtain ⟨cq72, kq72, q72a, q72b, q72c⟩ := isOf hZ e52 Ep
  obtain ⟨_, _, ⟨T72, L72, k72, n72⟩, -, X72, ⟨Lc72, hQ72, l72, y72, z72⟩, st72⟩ := X52.virtualBack hx (y := (⟨"com/example/able_hands/ablehands/WorkItemStatus", "isCompleted", "()Z"⟩ : MethodName)) (z := (⟨"com/example/able_hands/ablehands/WorkItemStatus", "isCompleted", "()Z"⟩ : MethodName)) hown (mvT hZ (kw31 hw)) (mvT hZ (kw32 hw)) (notFace_of_selects (args := #[]) (mvT hZ (kw34 hw))) (mvT hZ (kw34 hw)) (mvT hZ (kw33 hw)) (by decide) (backOf (W := 0) (rm1 l Z a0 hw [] (own_pick ((p1 &&& (2147483647 : Int32)) % (13 : Int32)) w_ENABLED w_FIRED w_EXECUTING w_COMPLETE w_FORCED_COMPLETE w_FAILED w_IS_PARENT w_SUSPENDED w_DEADLOCKED w_DELETED w_WITHDRAWN w_CANCELLED_BY_CASE w_DISCARDED) w_COMPLETE w_FORCED_COMPLETE h52 n0 Z52 f73 P4 P5) hZ (kw35 hw) (kw3 hw) (by decide) (by decide)) q72a q72c (g := (mkF m 118 #[.val (.int p1), .val (.ref b1), .val (.int ((p1 &&& (2147483647 : Int32)) % (13 : Int32))), .val (.int (if ((p1 &&& (2147483647 : Int32)) % (13 : Int32)) = (3 : Int32) then (1 : Int32) else (if ((p1 &&& (2147483647 : Int32)) % (13 : Int32)) = (4 : Int32) then (1 : Int32) else (0 : Int32))))] [(.ref (own_pick ((p1 &&& (2147483647 : Int32)) % (13 : Int32)) w_ENABLED w_FIRED w_EXECUTING w_COMPLETE w_FORCED_COMPLETE w_FAILED w_IS_PARENT w_SUSPENDED w_DEADLOCKED w_DELETED w_WITHDRAWN w_CANCELLED_BY_CASE w_DISCARDED))])) rfl (by rw [hml]; rfl) (Steps.refl _) (argsL := []) (rest := []) (lenOf pd_0 rfl) rfl (by show 2 * 0 + _ ≤ _; exact Nat.le_of_eq rfl) (hb hby at_118) (fun _ _ => ⟨rfl, e52, (by decide : 1 + 0 ≤ _), (by decide : 13 + 0 ≤ _)⟩)
  dsimp only [Pt.U, Pt.locs, Pt.cells, Pt.slots] at X72 l72 y72 z72 st72 hQ72
  subst l72 y72 z72
  obtain ⟨rfl, N72q, e72⟩ := hQ72
  have N72 := Fr.app N52 N72q
  have f74 : Fld Z h52 w_ENABLED "java/lang/Enum" "ordinal" "I" (.int (0 : Int32)) := ((((((((((((((P27.ext E1).other W4 (Or.inl ne1_w_ENABLED)).other W8 (Or.inl ne1_w_ENABLED)).other W12 (Or.inl ne1_w_ENABLED)).other W16 (Or.inl ne1_w_ENABLED)).other W20 (Or.inl ne1_w_ENABLED)).other W24 (Or.inl ne1_w_ENABLED)).other W28 (Or.inl ne1_w_ENABLED)).other W32 (Or.inl ne1_w_ENABLED)).other W36 (Or.inl ne1_w_ENABLED)).other W40 (Or.inl ne1_w_ENABLED)).other W44 (Or.inl ne1_w_ENABLED)).other W48 (Or.inl ne1_w_ENABLED)).other W52 (Or.inl ne1_w_ENABLED))
  have f75 : Fld Z h52 w_FIRED "java/lang/Enum" "ordinal" "I" (.int (1 : Int32)) := ((((((((((((((P28.ext E1).other W4 (Or.inl ne1_w_FIRED)).other W8 (Or.inl ne1_w_FIRED)).other W12 (Or.inl ne1_w_FIRED)).other W16 (Or.inl ne1_w_FIRED)).other W20 (Or.inl ne1_w_FIRED)).other W24 (Or.inl ne1_w_FIRED)).other W28 (Or.inl ne1_w_FIRED)).other W32 (Or.inl ne1_w_FIRED)).other W36 (Or.inl ne1_w_FIRED)).other W40 (Or.inl ne1_w_FIRED)).other W44 (Or.inl ne1_w_FIRED)).other W48 (Or.inl ne1_w_FIRED)).other W52 (Or.inl ne1_w_FIRED))
  have f76 : Fld Z h52 w_EXECUTING "java/lang/Enum" "ordinal" "I" (.int (2 : Int32)) := ((((((((((((((P29.ext E1).other W4 (Or.inl ne1_w_EXECUTING)).other W8 (Or.inl ne1_w_EXECUTING)).other W12 (Or.inl ne1_w_EXECUTING)).other W16 (Or.inl ne1_w_EXECUTING)).other W20 (Or.inl ne1_w_EXECUTING)).other W24 (Or.inl ne1_w_EXECUTING)).other W28 (Or.inl ne1_w_EXECUTING)).other W32 (Or.inl ne1_w_EXECUTING)).other W36 (Or.inl ne1_w_EXECUTING)).other W40 (Or.inl ne1_w_EXECUTING)).other W44 (Or.inl ne1_w_EXECUTING)).other W48 (Or.inl ne1_w_EXECUTING)).other W52 (Or.inl ne1_w_EXECUTING))
  have f77 : Fld Z h52 w_COMPLETE "java/lang/Enum" "ordinal" "I" (.int (3 : Int32)) := ((((((((((((((P30.ext E1).other W4 (Or.inl ne1_w_COMPLETE)).other W8 (Or.inl ne1_w_COMPLETE)).other W12 (Or.inl ne1_w_COMPLETE)).other W16 (Or.inl ne1_w_COMPLETE)).other W20 (Or.inl ne1_w_COMPLETE)).other W24 (Or.inl ne1_w_COMPLETE)).other W28 (Or.inl ne1_w_COMPLETE)).other W32 (Or.inl ne1_w_COMPLETE)).other W36 (Or.inl ne1_w_COMPLETE)).other W40 (Or.inl ne1_w_COMPLETE)).other W44 (Or.inl ne1_w_COMPLETE)).other W48 (Or.inl ne1_w_COMPLETE)).other W52 (Or.inl ne1_w_COMPLETE))
  have f78 : Fld Z h52 w_FORCED_COMPLETE "java/lang/Enum" "ordinal" "I" (.int (4 : Int32)) := ((((((((((((((P31.ext E1).other W4 (Or.inl ne1_w_FORCED_COMPLETE)).other W8 (Or.inl ne1_w_FORCED_COMPLETE)).other W12 (Or.inl ne1_w_FORCED_COMPLETE)).other W16 (Or.inl ne1_w_FORCED_COMPLETE)).other W20 (Or.inl ne1_w_FORCED_COMPLETE)).other W24 (Or.inl ne1_w_FORCED_COMPLETE)).other W28 (Or.inl ne1_w_FORCED_COMPLETE)).other W32 (Or.inl ne1_w_FORCED_COMPLETE)).other W36 (Or.inl ne1_w_FORCED_COMPLETE)).other W40 (Or.inl ne1_w_FORCED_COMPLETE)).other W44 (Or.inl ne1_w_FORCED_COMPLETE)).other W48 (Or.inl ne1_w_FORCED_COMPLETE)).other W52 (Or.inl ne1_w_FORCED_COMPLETE))
  have f79 : Fld Z h52 w_FAILED "java/lang/Enum" "ordinal" "I" (.int (5 : Int32)) := ((((((((((((((P32.ext E1).other W4 (Or.inl ne1_w_FAILED)).other W8 (Or.inl ne1_w_FAILED)).other W12 (Or.inl ne1_w_FAILED)).other W16 (Or.inl ne1_w_FAILED)).other W20 (Or.inl ne1_w_FAILED)).other W24 (Or.inl ne1_w_FAILED)).other W28 (Or.inl ne1_w_FAILED)).other W32 (Or.inl ne1_w_FAILED)).other W36 (Or.inl ne1_w_FAILED)).other W40 (Or.inl ne1_w_FAILED)).other W44 (Or.inl ne1_w_FAILED)).other W48 (Or.inl ne1_w_FAILED)).other W52 (Or.inl ne1_w_FAILED))
  have f80 : Fld Z h52 w_IS_PARENT "java/lang/Enum" "ordinal" "I" (.int (6 : Int32)) := ((((((((((((((P33.ext E1).other W4 (Or.inl ne1_w_IS_PARENT)).other W8 (Or.inl ne1_w_IS_PARENT)).other W12 (Or.inl ne1_w_IS_PARENT)).other W16 (Or.inl ne1_w_IS_PARENT)).other W20 (Or.inl ne1_w_IS_PARENT)).other W24 (Or.inl ne1_w_IS_PARENT)).other W28 (Or.inl ne1_w_IS_PARENT)).other W32 (Or.inl ne1_w_IS_PARENT)).other W36 (Or.inl ne1_w_IS_PARENT)).other W40 (Or.inl ne1_w_IS_PARENT)).other W44 (Or.inl ne1_w_IS_PARENT)).other W48 (Or.inl ne1_w_IS_PARENT)).other W52 (Or.inl ne1_w_IS_PARENT))
  have f81 : Fld Z h52 w_SUSPENDED "java/lang/Enum" "ordinal" "I" (.int (7 : Int32)) := ((((((((((((((P34.ext E1).other W4 (Or.inl ne1_w_SUSPENDED)).other W8 (Or.inl ne1_w_SUSPENDED)).other W12 (Or.inl ne1_w_SUSPENDED)).other W16 (Or.inl ne1_w_SUSPENDED)).other W20 (Or.inl ne1_w_SUSPENDED)).other W24 (Or.inl ne1_w_SUSPENDED)).other W28 (Or.inl ne1_w_SUSPENDED)).other W32 (Or.inl ne1_w_SUSPENDED)).other W36 (Or.inl ne1_w_SUSPENDED)).other W40 (Or.inl ne1_w_SUSPENDED)).other W44 (Or.inl ne1_w_SUSPENDED)).other W48 (Or.inl ne1_w_SUSPENDED)).other W52 (Or.inl ne1_w_SUSPENDED))
  have f82 : Fld Z h52 w_DEADLOCKED "java/lang/Enum" "ordinal" "I" (.int (8 : Int32)) := ((((((((((((((P35.ext E1).other W4 (Or.inl ne1_w_DEADLOCKED)).other W8 (Or.inl ne1_w_DEADLOCKED)).other W12 (Or.inl ne1_w_DEADLOCKED)).other W16 (Or.inl ne1_w_DEADLOCKED)).other W20 (Or.inl ne1_w_DEADLOCKED)).other W24 (Or.inl ne1_w_DEADLOCKED)).other W28 (Or.inl ne1_w_DEADLOCKED)).other W32 (Or.inl ne1_w_DEADLOCKED)).other W36 (Or.inl ne1_w_DEADLOCKED)).other W40 (Or.inl ne1_w_DEADLOCKED)).other W44 (Or.inl ne1_w_DEADLOCKED)).other W48 (Or.inl ne1_w_DEADLOCKED)).other W52 (Or.inl ne1_w_DEADLOCKED))
  have f83 : Fld Z h52 w_DELETED "java/lang/Enum" "ordinal" "I" (.int (9 : Int32)) := ((((((((((((((P36.ext E1).other W4 (Or.inl ne1_w_DELETED)).other W8 (Or.inl ne1_w_DELETED)).other W12 (Or.inl ne1_w_DELETED)).other W16 (Or.inl ne1_w_DELETED)).other W20 (Or.inl ne1_w_DELETED)).other W24 (Or.inl ne1_w_DELETED)).other W28 (Or.inl ne1_w_DELETED)).other W32 (Or.inl ne1_w_DELETED)).other W36 (Or.inl ne1_w_DELETED)).other W40 (Or.inl ne1_w_DELETED)).other W44 (Or.inl ne1_w_DELETED)).other W48 (Or.inl ne1_w_DELETED)).other W52 (Or.inl ne1_w_DELETED))
  have f84 : Fld Z h52 w_WITHDRAWN "java/lang/Enum" "ordinal" "I" (.int (10 : Int32)) := ((((((((((((((P37.ext E1).other W4 (Or.inl ne1_w_WITHDRAWN)).other W8 (Or.inl ne1_w_WITHDRAWN)).other W12 (Or.inl ne1_w_WITHDRAWN)).other W16 (Or.inl ne1_w_WITHDRAWN)).other W20 (Or.inl ne1_w_WITHDRAWN)).other W24 (Or.inl ne1_w_WITHDRAWN)).other W28 (Or.inl ne1_w_WITHDRAWN)).other W32 (Or.inl ne1_w_WITHDRAWN)).other W36 (Or.inl ne1_w_WITHDRAWN)).other W40 (Or.inl ne1_w_WITHDRAWN)).other W44 (Or.inl ne1_w_WITHDRAWN)).other W48 (Or.inl ne1_w_WITHDRAWN)).other W52 (Or.inl ne1_w_WITHDRAWN))
  have f85 : Fld Z h52 w_CANCELLED_BY_CASE "java/lang/Enum" "ordinal" "I" (.int (11 : Int32)) := ((((((((((((((P38.ext E1).other W4 (Or.inl ne1_w_CANCELLED_BY_CASE)).other W8 (Or.inl ne1_w_CANCELLED_BY_CASE)).other W12 (Or.inl ne1_w_CANCELLED_BY_CASE)).other W16 (Or.inl ne1_w_CANCELLED_BY_CASE)).other W20 (Or.inl ne1_w_CANCELLED_BY_CASE)).other W24 (Or.inl ne1_w_CANCELLED_BY_CASE)).other W28 (Or.inl ne1_w_CANCELLED_BY_CASE)).other W32 (Or.inl ne1_w_CANCELLED_BY_CASE)).other W36 (Or.inl ne1_w_CANCELLED_BY_CASE)).other W40 (Or.inl ne1_w_CANCELLED_BY_CASE)).other W44 (Or.inl ne1_w_CANCELLED_BY_CASE)).other W48 (Or.inl ne1_w_CANCELLED_BY_CASE)).other W52 (Or.inl ne1_w_CANCELLED_BY_CASE))
  have f86 : Fld Z h52 w_DISCARDED "java/lang/Enum" "ordinal" "I" (.int (12 : Int32)) := ((((((((((((((P39.ext E1).other W4 (Or.inl ne1_w_DISCARDED)).other W8 (Or.inl ne1_w_DISCARDED)).other W12 (Or.inl ne1_w_DISCARDED)).other W16 (Or.inl ne1_w_DISCARDED)).other W20 (Or.inl ne1_w_DISCARDED)).other W24 (Or.inl ne1_w_DISCARDED)).other W28 (Or.inl ne1_w_DISCARDED)).other W32 (Or.inl ne1_w_DISCARDED)).other W36 (Or.inl ne1_w_DISCARDED)).other W40 (Or.inl ne1_w_DISCARDED)).other W44 (Or.inl ne1_w_DISCARDED)).other W48 (Or.inl ne1_w_DISCARDED)).other W52 (Or.inl ne1_w_DISCARDED))
  obtain ⟨fs, hr, hrun, hended, hW, hsame⟩ := X72.leave (v := some (.int (1 : Int32))) (fun h => by rw [Bd.returns] at h; cases h)
  refine ⟨_, _, pre57 _ ?_, hrun, hended, _, _, rfl, ?_, ⟨_, rfl⟩, hW, hsame.mono (by decide) (by decide)⟩
  · skip
    show Steps p.tables e below (T52.setTop (mkF m 114 #[.val (.int p1), .val (.ref b1), .val (.int ((p1 &&& (2147483647 : Int32)) % (13 : Int32))), .unset] [(.int (if ((p1 &&& (2147483647 : Int32)) % (13 : Int32)) = (3 : Int32) then (1 : Int32) else (if ((p1 &&& (2147483647 : Int32)) % (13 : Int32)) = (4 : Int32) then (1 : Int32) else (0 : Int32))))])) _
    refine XS.istoreN X52.here hx rfl (hb hby at_114) rfl (l' := #[.val (.int p1), .val (.ref b1), .val (.int ((p1 &&& (2147483647 : Int32)) % (13 : Int32))), .val (.int (if ((p1 &&& (2147483647 : Int32)) % (13 : Int32)) = (3 : Int32) then (1 : Int32) else (if ((p1 &&& (2147483647 : Int32)) % (13 : Int32)) = (4 : Int32) then (1 : Int32) else (0 : Int32))))]) rfl ?_
    show Steps p.tables e below (T52.setTop (mkF m 115 #[.val (.int p1), .val (.ref b1), .val (.int ((p1 &&& (2147483647 : Int32)) % (13 : Int32))), .val (.int (if ((p1 &&& (2147483647 : Int32)) % (13 : Int32)) = (3 : Int32) then (1 : Int32) else (if ((p1 &&& (2147483647 : Int32)) % (13 : Int32)) = (4 : Int32) then (1 : Int32) else (0 : Int32))))] [])) _
    refine XS.aloadN X52.here hx rfl (hb hby at_115) rfl rfl ?_
    show Steps p.tables e below (T52.setTop (mkF m 116 #[.val (.int p1), .val (.ref b1), .val (.int ((p1 &&& (2147483647 : Int32)) % (13 : Int32))), .val (.int (if ((p1 &&& (2147483647 : Int32)) % (13 : Int32)) = (3 : Int32) then (1 : Int32) else (if ((p1 &&& (2147483647 : Int32)) % (13 : Int32)) = (4 : Int32) then (1 : Int32) else (0 : Int32))))] [(.ref b1)])) _
    refine XS.iloadN X52.here hx rfl (hb hby at_116) rfl ?_
    show Steps p.tables e below (T52.setTop (mkF m 117 #[.val (.int p1), .val (.ref b1), .val (.int ((p1 &&& (2147483647 : Int32)) % (13 : Int32))), .val (.int (if ((p1 &&& (2147483647 : Int32)) % (13 : Int32)) = (3 : Int32) then (1 : Int32) else (if ((p1 &&& (2147483647 : Int32)) % (13 : Int32)) = (4 : Int32) then (1 : Int32) else (0 : Int32))))] [(.int ((p1 &&& (2147483647 : Int32)) % (13 : Int32))), (.ref b1)])) _
    refine X52.aaload hx (j := ((p1 &&& (2147483647 : Int32)) % (13 : Int32))) (v := (.ref (own_pick ((p1 &&& (2147483647 : Int32)) % (13 : Int32)) w_ENABLED w_FIRED w_EXECUTING w_COMPLETE w_FORCED_COMPLETE w_FAILED w_IS_PARENT w_SUSPENDED w_DEADLOCKED w_DELETED w_WITHDRAWN w_CANCELLED_BY_CASE w_DISCARDED))) (by rw [e52]; exact Ar58.1) (State.isArrayOf_alike hZ.alike Ar58.2.1) rfl Ar58.2.2 hin58 hat58 (g := (mkF m 117 #[.val (.int p1), .val (.ref b1), .val (.int ((p1 &&& (2147483647 : Int32)) % (13 : Int32))), .val (.int (if ((p1 &&& (2147483647 : Int32)) % (13 : Int32)) = (3 : Int32) then (1 : Int32) else (if ((p1 &&& (2147483647 : Int32)) % (13 : Int32)) = (4 : Int32) then (1 : Int32) else (0 : Int32))))] [(.int ((p1 &&& (2147483647 : Int32)) % (13 : Int32))), (.ref b1)])) rfl rfl (hb hby at_117) _ ?_
    show Steps p.tables e below (T52.setTop (mkF m 118 #[.val (.int p1), .val (.ref b1), .val (.int ((p1 &&& (2147483647 : Int32)) % (13 : Int32))), .val (.int (if ((p1 &&& (2147483647 : Int32)) % (13 : Int32)) = (3 : Int32) then (1 : Int32) else (if ((p1 &&& (2147483647 : Int32)) % (13 : Int32)) = (4 : Int32) then (1 : Int32) else (0 : Int32))))] [(.ref (own_pick ((p1 &&& (2147483647 : Int32)) % (13 : Int32)) w_ENABLED w_FIRED w_EXECUTING w_COMPLETE w_FORCED_COMPLETE w_FAILED w_IS_PARENT w_SUSPENDED w_DEADLOCKED w_DELETED w_WITHDRAWN w_CANCELLED_BY_CASE w_DISCARDED))])) _
    refine st72.trans ?_
    show Steps p.tables e below (T72.setTop (mkF m 121 #[.val (.int p1), .val (.ref b1), .val (.int ((p1 &&& (2147483647 : Int32)) % (13 : Int32))), .val (.int (if ((p1 &&& (2147483647 : Int32)) % (13 : Int32)) = (3 : Int32) then (1 : Int32) else (if ((p1 &&& (2147483647 : Int32)) % (13 : Int32)) = (4 : Int32) then (1 : Int32) else (0 : Int32))))] [(.int (own_q (own_pick ((p1 &&& (2147483647 : Int32)) % (13 : Int32)) w_ENABLED w_FIRED w_EXECUTING w_COMPLETE w_FORCED_COMPLETE w_FAILED w_IS_PARENT w_SUSPENDED w_DEADLOCKED w_DELETED w_WITHDRAWN w_CANCELLED_BY_CASE w_DISCARDED) w_COMPLETE w_FORCED_COMPLETE))])) _
    refine XS.iloadN X72.here hx rfl (hb hby at_121) rfl ?_
    show Steps p.tables e below (T72.setTop (mkF m 122 #[.val (.int p1), .val (.ref b1), .val (.int ((p1 &&& (2147483647 : Int32)) % (13 : Int32))), .val (.int (if ((p1 &&& (2147483647 : Int32)) % (13 : Int32)) = (3 : Int32) then (1 : Int32) else (if ((p1 &&& (2147483647 : Int32)) % (13 : Int32)) = (4 : Int32) then (1 : Int32) else (0 : Int32))))] [(.int (if ((p1 &&& (2147483647 : Int32)) % (13 : Int32)) = (3 : Int32) then (1 : Int32) else (if ((p1 &&& (2147483647 : Int32)) % (13 : Int32)) = (4 : Int32) then (1 : Int32) else (0 : Int32)))), (.int (own_q (own_pick ((p1 &&& (2147483647 : Int32)) % (13 : Int32)) w_ENABLED w_FIRED w_EXECUTING w_COMPLETE w_FORCED_COMPLETE w_FAILED w_IS_PARENT w_SUSPENDED w_DEADLOCKED w_DELETED w_WITHDRAWN w_CANCELLED_BY_CASE w_DISCARDED) w_COMPLETE w_FORCED_COMPLETE))])) _
    refine XS.icmpNo X72.here hx rfl (hb hby at_122) rfl (teq (own_law (own_rem p1 13 (by decide)) f74 f75 f76 f77 f78 f79 f80 f81 f82 f83 f84 f85 f86)).2 ?_
    show Steps p.tables e below (T72.setTop (mkF m 125 #[.val (.int p1), .val (.ref b1), .val (.int ((p1 &&& (2147483647 : Int32)) % (13 : Int32))), .val (.int (if ((p1 &&& (2147483647 : Int32)) % (13 : Int32)) = (3 : Int32) then (1 : Int32) else (if ((p1 &&& (2147483647 : Int32)) % (13 : Int32)) = (4 : Int32) then (1 : Int32) else (0 : Int32))))] [])) _
    refine XS.iconst X72.here hx rfl (hb hby at_125) ?_
    show Steps p.tables e below (T72.setTop (mkF m 126 #[.val (.int p1), .val (.ref b1), .val (.int ((p1 &&& (2147483647 : Int32)) % (13 : Int32))), .val (.int (if ((p1 &&& (2147483647 : Int32)) % (13 : Int32)) = (3 : Int32) then (1 : Int32) else (if ((p1 &&& (2147483647 : Int32)) % (13 : Int32)) = (4 : Int32) then (1 : Int32) else (0 : Int32))))] [(.int (1 : Int32))])) _
    refine XS.goto X72.here hx rfl (pc0 := 126) (pc' := 130) rfl (hb hby at_126) (by decide) (by decide) ?_
    show Steps p.tables e below (T72.setTop (mkF m 130 #[.val (.int p1), .val (.ref b1), .val (.int ((p1 &&& (2147483647 : Int32)) % (13 : Int32))), .val (.int (if ((p1 &&& (2147483647 : Int32)) % (13 : Int32)) = (3 : Int32) then (1 : Int32) else (if ((p1 &&& (2147483647 : Int32)) % (13 : Int32)) = (4 : Int32) then (1 : Int32) else (0 : Int32))))] [(.int (1 : Int32))])) _
    exact retN X72 hx (t := .boolean) Bd.returns (by simp) (hb hby at_130) hr
  · show Q_rm0 Z p1 w_ENABLED w_FIRED w_EXECUTING w_COMPLETE w_FORCED_COMPLETE w_FAILED w_IS_PARENT w_SUSPENDED w_DEADLOCKED w_DELETED w_WITHDRAWN w_CANCELLED_BY_CASE w_DISCARDED h0 n0 _ T72.heap _
    rw [e72]
    exact ⟨rfl, N72, K52⟩
set_option maxRecDepth 65536 in
set_option maxHeartbeats 40000000 in
theorem comes_1 {Post : Tables → Env → Array Value → State → Outcome → State → Prop} (hpost : ∀ tb e args s v u, (limb_1_1.after args s (.returned v) u = true ∧ limb_1_2.after args s (.returned v) u = true ∧ True) → FrameEnd s (.returned v) u (Jvm.fieldLocs frame_1_writes args s ++ Jvm.arrayLocs frame_1_arrays args s ++ Jvm.staticLocs frame_1_statics s) 16 128 → Post tb e args s (.returned v) u) :
    ArmFor flags0 classFile x code maxLocals ret World_1 tables_1 room_1 Calls_1 rest_1 Pre_1 Post := by
  intro l hfl _ _ p e ha hc hk s m args below hf hA hF happ hP
  obtain ⟨hcalls, hrest, hpre⟩ := hP
  obtain ⟨-, -, -, hnamed, -, -, -, hat⟩ := (Spec.applies_iff hf).mp happ
  obtain ⟨hg, hn⟩ := and_e (Cond.before_iff.mp (show (Jvm.Cond.and given_1 narrow_1).before args s = true from hpre))
  obtain ⟨g1, g2⟩ := and_e hg
  obtain ⟨g3, g4⟩ := and_e hn
  obtain ⟨g5, g6⟩ := and_e g4
  obtain ⟨g7, g8⟩ := and_e g6
  obtain ⟨g9, g10⟩ := and_e g8
  obtain ⟨g11, g12⟩ := and_e g10
  obtain ⟨g13, g14⟩ := and_e g12
  obtain ⟨g15, g16⟩ := and_e g14
  obtain ⟨g17, g18⟩ := and_e g16
  obtain ⟨g19, g20⟩ := and_e g18
  obtain ⟨g21, g22⟩ := and_e g20
  obtain ⟨g23, g24⟩ := and_e g22
  obtain ⟨g25, g26⟩ := and_e g24
  obtain ⟨g27, g28⟩ := and_e g26
  obtain ⟨g29, g30⟩ := and_e g28
  obtain ⟨g31, g32⟩ := and_e g30
  obtain ⟨g33, g34⟩ := and_e g32
  obtain ⟨g35, g36⟩ := and_e g34
  obtain ⟨g37, g38⟩ := and_e g36
  obtain ⟨g39, g40⟩ := and_e g38
  obtain ⟨g41, g42⟩ := and_e g40
  obtain ⟨g43, g44⟩ := and_e g42
  obtain ⟨g45, g46⟩ := and_e g44
  obtain ⟨g47, g48⟩ := and_e g46
  obtain ⟨g49, g50⟩ := and_e g48
  obtain ⟨g51, g52⟩ := and_e g50
  obtain ⟨w0, rfl⟩ : ∃ w0 : Value, args = #[w0] := by
    have hs : args.size = 1 := by simpa [Cond.value, given_1] using g1
    obtain ⟨L⟩ := args
    match L, hs with
    | [w0], _ => exact ⟨w0, rfl⟩
  have hw0 := fun d (hd : d ∈ tables_1) => atoms_spec (ws := Jvm.Cond.code x code maxLocals ret :: tables_1) hat d (List.mem_cons_of_mem _ hd)
  have hfit : Fit s := fun {y c} hc i hi => by
    obtain ⟨ha, rfl⟩ := Array.getElem?_eq_some_iff.mp hc
    have q := List.all_eq_true.mp ((Array.all_eq_true_iff_forall_mem.mp hF) _ (Array.getElem_mem ha)) i (List.mem_range.mpr hi)
    simpa [Array.getElem?_eq_getElem hi] using q
  have hw := hw0
  obtain ⟨i0, ei0⟩ := is_v g2
  obtain rfl : w0 = (.int i0) := Option.some.inj ei0
  obtain ⟨w_ENABLED, ev_w_ENABLED⟩ := exa_v g3
  have S_w_ENABLED := Sta.start ev_w_ENABLED (Or.inr ⟨(kw3 hw), (kw4 hw)⟩)
  have Ex_w_ENABLED : Exa s s.heap w_ENABLED "com/example/able_hands/ablehands/WorkItemStatus" := Exa.start ev_w_ENABLED g3
  obtain ⟨w_FIRED, ev_w_FIRED⟩ := exa_v g5
  have S_w_FIRED := Sta.start ev_w_FIRED (Or.inr ⟨(kw3 hw), (kw7 hw)⟩)
  have Ex_w_FIRED : Exa s s.heap w_FIRED "com/example/able_hands/ablehands/WorkItemStatus" := Exa.start ev_w_FIRED g5
  obtain ⟨w_EXECUTING, ev_w_EXECUTING⟩ := exa_v g7
  have S_w_EXECUTING := Sta.start ev_w_EXECUTING (Or.inr ⟨(kw3 hw), (kw9 hw)⟩)
  have Ex_w_EXECUTING : Exa s s.heap w_EXECUTING "com/example/able_hands/ablehands/WorkItemStatus" := Exa.start ev_w_EXECUTING g7
  obtain ⟨w_COMPLETE, ev_w_COMPLETE⟩ := exa_v g9
  have S_w_COMPLETE := Sta.start ev_w_COMPLETE (Or.inr ⟨(kw3 hw), (kw11 hw)⟩)
  have Ex_w_COMPLETE : Exa s s.heap w_COMPLETE "com/example/able_hands/ablehands/WorkItemStatus" := Exa.start ev_w_COMPLETE g9
  obtain ⟨w_FORCED_COMPLETE, ev_w_FORCED_COMPLETE⟩ := exa_v g11
  have S_w_FORCED_COMPLETE := Sta.start ev_w_FORCED_COMPLETE (Or.inr ⟨(kw3 hw), (kw13 hw)⟩)
  have Ex_w_FORCED_COMPLETE : Exa s s.heap w_FORCED_COMPLETE "com/example/able_hands/ablehands/WorkItemStatus" := Exa.start ev_w_FORCED_COMPLETE g11
  obtain ⟨w_FAILED, ev_w_FAILED⟩ := exa_v g13
  have S_w_FAILED := Sta.start ev_w_FAILED (Or.inr ⟨(kw3 hw), (kw15 hw)⟩)
  have Ex_w_FAILED : Exa s s.heap w_FAILED "com/example/able_hands/ablehands/WorkItemStatus" := Exa.start ev_w_FAILED g13
  obtain ⟨w_IS_PARENT, ev_w_IS_PARENT⟩ := exa_v g15
  have S_w_IS_PARENT := Sta.start ev_w_IS_PARENT (Or.inr ⟨(kw3 hw), (kw17 hw)⟩)
  have Ex_w_IS_PARENT : Exa s s.heap w_IS_PARENT "com/example/able_hands/ablehands/WorkItemStatus" := Exa.start ev_w_IS_PARENT g15
  obtain ⟨w_SUSPENDED, ev_w_SUSPENDED⟩ := exa_v g17
  have S_w_SUSPENDED := Sta.start ev_w_SUSPENDED (Or.inr ⟨(kw3 hw), (kw19 hw)⟩)
  have Ex_w_SUSPENDED : Exa s s.heap w_SUSPENDED "com/example/able_hands/ablehands/WorkItemStatus" := Exa.start ev_w_SUSPENDED g17
  obtain ⟨w_DEADLOCKED, ev_w_DEADLOCKED⟩ := exa_v g19
  have S_w_DEADLOCKED := Sta.start ev_w_DEADLOCKED (Or.inr ⟨(kw3 hw), (kw21 hw)⟩)
  have Ex_w_DEADLOCKED : Exa s s.heap w_DEADLOCKED "com/example/able_hands/ablehands/WorkItemStatus" := Exa.start ev_w_DEADLOCKED g19
  obtain ⟨w_DELETED, ev_w_DELETED⟩ := exa_v g21
  have S_w_DELETED := Sta.start ev_w_DELETED (Or.inr ⟨(kw3 hw), (kw23 hw)⟩)
  have Ex_w_DELETED : Exa s s.heap w_DELETED "com/example/able_hands/ablehands/WorkItemStatus" := Exa.start ev_w_DELETED g21
  obtain ⟨w_WITHDRAWN, ev_w_WITHDRAWN⟩ := exa_v g23
  have S_w_WITHDRAWN := Sta.start ev_w_WITHDRAWN (Or.inr ⟨(kw3 hw), (kw25 hw)⟩)
  have Ex_w_WITHDRAWN : Exa s s.heap w_WITHDRAWN "com/example/able_hands/ablehands/WorkItemStatus" := Exa.start ev_w_WITHDRAWN g23
  obtain ⟨w_CANCELLED_BY_CASE, ev_w_CANCELLED_BY_CASE⟩ := exa_v g25
  have S_w_CANCELLED_BY_CASE := Sta.start ev_w_CANCELLED_BY_CASE (Or.inr ⟨(kw3 hw), (kw27 hw)⟩)
  have Ex_w_CANCELLED_BY_CASE : Exa s s.heap w_CANCELLED_BY_CASE "com/example/able_hands/ablehands/WorkItemStatus" := Exa.start ev_w_CANCELLED_BY_CASE g25
  obtain ⟨w_DISCARDED, ev_w_DISCARDED⟩ := exa_v g27
  have S_w_DISCARDED := Sta.start ev_w_DISCARDED (Or.inr ⟨(kw3 hw), (kw29 hw)⟩)
  have Ex_w_DISCARDED : Exa s s.heap w_DISCARDED "com/example/able_hands/ablehands/WorkItemStatus" := Exa.start ev_w_DISCARDED g27
  have Fo_w_ENABLED_ordinal : Fld s s.heap w_ENABLED "java/lang/Enum" "ordinal" "I" (.int (0 : Int32)) := own_fldInt ev_w_ENABLED g29
  have Fo_w_COMPLETE_ordinal : Fld s s.heap w_COMPLETE "java/lang/Enum" "ordinal" "I" (.int (3 : Int32)) := own_fldInt ev_w_COMPLETE g31
  have Fo_w_FORCED_COMPLETE_ordinal : Fld s s.heap w_FORCED_COMPLETE "java/lang/Enum" "ordinal" "I" (.int (4 : Int32)) := own_fldInt ev_w_FORCED_COMPLETE g33
  have Fo_w_IS_PARENT_ordinal : Fld s s.heap w_IS_PARENT "java/lang/Enum" "ordinal" "I" (.int (6 : Int32)) := own_fldInt ev_w_IS_PARENT g35
  have Fo_w_FAILED_ordinal : Fld s s.heap w_FAILED "java/lang/Enum" "ordinal" "I" (.int (5 : Int32)) := own_fldInt ev_w_FAILED g37
  have Fo_w_SUSPENDED_ordinal : Fld s s.heap w_SUSPENDED "java/lang/Enum" "ordinal" "I" (.int (7 : Int32)) := own_fldInt ev_w_SUSPENDED g39
  have Fo_w_DELETED_ordinal : Fld s s.heap w_DELETED "java/lang/Enum" "ordinal" "I" (.int (9 : Int32)) := own_fldInt ev_w_DELETED g41
  have Fo_w_EXECUTING_ordinal : Fld s s.heap w_EXECUTING "java/lang/Enum" "ordinal" "I" (.int (2 : Int32)) := own_fldInt ev_w_EXECUTING g43
  have Fo_w_CANCELLED_BY_CASE_ordinal : Fld s s.heap w_CANCELLED_BY_CASE "java/lang/Enum" "ordinal" "I" (.int (11 : Int32)) := own_fldInt ev_w_CANCELLED_BY_CASE g45
  have Fo_w_FIRED_ordinal : Fld s s.heap w_FIRED "java/lang/Enum" "ordinal" "I" (.int (1 : Int32)) := own_fldInt ev_w_FIRED g47
  have Fo_w_DEADLOCKED_ordinal : Fld s s.heap w_DEADLOCKED "java/lang/Enum" "ordinal" "I" (.int (8 : Int32)) := own_fldInt ev_w_DEADLOCKED g49
  have Fo_w_WITHDRAWN_ordinal : Fld s s.heap w_WITHDRAWN "java/lang/Enum" "ordinal" "I" (.int (10 : Int32)) := own_fldInt ev_w_WITHDRAWN g51
  have Fo_w_DISCARDED_ordinal : Fld s s.heap w_DISCARDED "java/lang/Enum" "ordinal" "I" (.int (12 : Int32)) := own_fldInt ev_w_DISCARDED g52
  obtain ⟨n, o, h1, h2, h3, _, L, rfl, ⟨rfl, N, -⟩, hq⟩ := rm0 l s _ hw tables_1 i0 w_ENABLED w_FIRED w_EXECUTING w_COMPLETE w_FORCED_COMPLETE w_FAILED w_IS_PARENT w_SUSPENDED w_DEADLOCKED w_DELETED w_WITHDRAWN w_CANCELLED_BY_CASE w_DISCARDED s.heap s.heap.size (Nat.le_refl _) (Old.start s) S_w_ENABLED S_w_FIRED S_w_EXECUTING S_w_COMPLETE S_w_FORCED_COMPLETE S_w_FAILED S_w_IS_PARENT S_w_SUSPENDED S_w_DEADLOCKED S_w_DELETED S_w_WITHDRAWN S_w_CANCELLED_BY_CASE S_w_DISCARDED Ex_w_ENABLED Ex_w_FIRED Ex_w_EXECUTING Ex_w_COMPLETE Ex_w_FORCED_COMPLETE Ex_w_FAILED Ex_w_IS_PARENT Ex_w_SUSPENDED Ex_w_DEADLOCKED Ex_w_DELETED Ex_w_WITHDRAWN Ex_w_CANCELLED_BY_CASE Ex_w_DISCARDED Fo_w_ENABLED_ordinal Fo_w_FIRED_ordinal Fo_w_EXECUTING_ordinal Fo_w_COMPLETE_ordinal Fo_w_FORCED_COMPLETE_ordinal Fo_w_FAILED_ordinal Fo_w_IS_PARENT_ordinal Fo_w_SUSPENDED_ordinal Fo_w_DEADLOCKED_ordinal Fo_w_DELETED_ordinal Fo_w_WITHDRAWN_ordinal Fo_w_CANCELLED_BY_CASE_ordinal Fo_w_DISCARDED_ordinal p e ha hc hk s m _ below hf ((Spec.applies_iff_loose hf).mp happ).1 ⟨rfl, State.Warmed39.refl s, rfl⟩ trivial
  refine ⟨n, _, h1, h2, h3, hpost _ _ _ _ _ _ ⟨Cond.after_iff.mpr rfl, Cond.after_iff.mpr (eq_i res_at (Term.int_eval (1)) rfl), trivial⟩ ⟨hq.1, hq.2.1, (hq.2.2.sift fun y hy => Or.inr (N y hy)).mono (by decide) (by decide)⟩⟩
theorem main_1_1 : Claimed_1_1 := comes_1 fun _ _ _ _ _ _ h hF => ⟨h.1, hF⟩
theorem main_1_2 : Claimed_1_2 := comes_1 fun _ _ _ _ _ _ h hF => ⟨h.2.1, hF⟩
end Jvm.Pilot.@@N@@
namespace Jvm.Pilot.@@N@@
open Jvm Jvm.ClassFile Sem Op Lib Jvm.Free Jvm.Stand Jvm.Pilot.@@N@@.Jvm.D
/-! MADE BY PROGRAM (witnessworld.py) out of the Statement's table words and the real class files: 14 classes; the members and pool entries that the words name. The judged class is class 1, her method 1. -/
namespace start1
open Jvm.ClassFile
def u (s : String) : CpInfo := .utf8 (stringToUtf16 s)
/-- a pool by its gaps: so many unusable entries, then the entry; so many at the end -/
def gap : Nat → List CpInfo → List CpInfo
  | 0, r => r
  | n + 1, r => .unusable :: gap n r
def poolList (es : List (Nat × CpInfo)) (last : Nat) : List CpInfo := es.foldr (fun e r => gap e.1 (e.2 :: r)) (gap last [])
def pool (es : List (Nat × CpInfo)) (last : Nat) : Array CpInfo := ⟨poolList es last⟩
def fileOf (pool : Array CpInfo) (this : Nat) (attrs : Array Attribute := #[]) (ms : Array MethodInfo := #[]) (fl : Nat := 33) (sup : Nat := 0) (ifs : Array Nat := #[]) (fds : Array FieldInfo := #[]) : ClassFile where
  minorVersion := 0
  majorVersion := 65
  constantPool := pool
  accessFlags := fl
  thisClass := this
  superClass := sup
  interfaces := ifs
  fields := fds
  methods := ms
  attributes := attrs
def plain (name : String) (sup : Option ClassId) : Class where
  name := name
  kind := .ordinary
  loader := none
  accessFlags := 33
  super := sup
  interfaces := #[]
  cf := none
  fields := #[]
  methods := #[]
  instanceTypes := #[]
  staticTypes := #[]
  resolved := #[]
  callSites := []
  init := .initialized
  statics := none
  mirror := none

def pool0 : Array CpInfo := pool [(5, u "<init>"), (0, u "()V"), (1, .class_ 10), (1, u "java/lang/Object")] 113

def k0m0 : Method := { name := "<init>", desc := "()V", sig := { parameters := [], returnType := none }, accessFlags := 1, code := none }
/-- java/lang/Object -/
def k0 : Class := { plain "java/lang/Object" none with
  accessFlags := 33
  interfaces := #[]
  cf := some (fileOf pool0 8 #[] #[{ accessFlags := 1, nameIndex := 5, descriptorIndex := 6, attributes := #[] }] 33 0 #[] #[])
  fields := #[]
  methods := #[k0m0]
  instanceTypes := #[]
  staticTypes := #[]
  resolved := Array.replicate 124 none
  statics := none }

def pool1 : Array CpInfo := pool [(2, .class_ 4), (1, u "java/lang/Object"), (0, u "<init>"), (0, u "()V"), (0, .class_ 8), (0, u "com/example/able_hands/ablehands/WorkItemStatus"), (0, .fieldref 7 10), (0, .nameAndType 11 12), (0, u "ENABLED"), (0, u "Lcom/example/able_hands/ablehands/WorkItemStatus;"), (0, .fieldref 7 14), (0, .nameAndType 15 12), (0, u "FIRED"), (0, .fieldref 7 17), (0, .nameAndType 18 12), (0, u "EXECUTING"), (0, .fieldref 7 20), (0, .nameAndType 21 12), (0, u "COMPLETE"), (0, .fieldref 7 23), (0, .nameAndType 24 12), (0, u "FORCED_COMPLETE"), (0, .fieldref 7 26), (0, .nameAndType 27 12), (0, u "FAILED"), (0, .fieldref 7 29), (0, .nameAndType 30 12), (0, u "IS_PARENT"), (0, .fieldref 7 32), (0, .nameAndType 33 12), (0, u "SUSPENDED"), (0, .fieldref 7 35), (0, .nameAndType 36 12), (0, u "DEADLOCKED"), (0, .fieldref 7 38), (0, .nameAndType 39 12), (0, u "DELETED"), (0, .fieldref 7 41), (0, .nameAndType 42 12), (0, u "WITHDRAWN"), (0, .fieldref 7 44), (0, .nameAndType 45 12), (0, u "CANCELLED_BY_CASE"), (0, .fieldref 7 47), (0, .nameAndType 48 12), (0, u "DISCARDED"), (0, .integer 2147483647), (0, .methodref 7 51), (0, .nameAndType 52 53), (0, u "isCompleted"), (0, u "()Z"), (0, .class_ 55), (0, u "com/example/able_hands/ablehands/WorkItemStatusIsCompletedPinLaw"), (2, u "law"), (0, u "(I)Z")] 5

def k1m0 : Method := { name := "<init>", desc := "()V", sig := { parameters := [], returnType := none }, accessFlags := 1, code := none }
def k1c1 : Code := { maxStack := 4, maxLocals := 4, code := code, exceptionTable := #[], attributes := #[] }
def k1m1 : Method := { name := "law", desc := "(I)Z", sig := { parameters := [.int], returnType := some .boolean }, accessFlags := 9, code := some k1c1 }
/-- com/example/able_hands/ablehands/WorkItemStatusIsCompletedPinLaw -/
def k1 : Class := { plain "com/example/able_hands/ablehands/WorkItemStatusIsCompletedPinLaw" (some 0) with
  accessFlags := 49
  interfaces := #[]
  cf := some (fileOf pool1 54 #[] #[{ accessFlags := 1, nameIndex := 5, descriptorIndex := 6, attributes := #[] }, { accessFlags := 9, nameIndex := 58, descriptorIndex := 59, attributes := #[] }] 49 2 #[] #[])
  fields := #[]
  methods := #[k1m0, k1m1]
  instanceTypes := #[]
  staticTypes := #[]
  resolved := Array.replicate 65 none
  statics := none }

def pool2 : Array CpInfo := pool [(1, .class_ 2), (0, u "java/lang/constant/Constable"), (0, .class_ 4), (0, u "java/lang/Object")] 6

/-- java/lang/constant/Constable -/
def k2 : Class := { plain "java/lang/constant/Constable" (some 0) with
  accessFlags := 1537
  interfaces := #[]
  cf := some (fileOf pool2 1 #[] #[] 1537 3 #[] #[])
  fields := #[]
  methods := #[]
  instanceTypes := #[]
  staticTypes := #[]
  resolved := Array.replicate 11 none
  statics := none }

def pool3 : Array CpInfo := pool [(1, .class_ 2), (0, u "java/lang/Comparable"), (0, .class_ 4), (0, u "java/lang/Object")] 7

/-- java/lang/Comparable -/
def k3 : Class := { plain "java/lang/Comparable" (some 0) with
  accessFlags := 1537
  interfaces := #[]
  cf := some (fileOf pool3 1 #[] #[] 1537 3 #[] #[])
  fields := #[]
  methods := #[]
  instanceTypes := #[]
  staticTypes := #[]
  resolved := Array.replicate 12 none
  statics := none }

def pool4 : Array CpInfo := pool [(1, .class_ 2), (0, u "java/io/Serializable"), (0, .class_ 4), (0, u "java/lang/Object")] 2

/-- java/io/Serializable -/
def k4 : Class := { plain "java/io/Serializable" (some 0) with
  accessFlags := 1537
  interfaces := #[]
  cf := some (fileOf pool4 1 #[] #[] 1537 3 #[] #[])
  fields := #[]
  methods := #[]
  instanceTypes := #[]
  staticTypes := #[]
  resolved := Array.replicate 7 none
  statics := none }

def pool5 : Array CpInfo := pool [(2, .class_ 4), (1, u "java/lang/Enum"), (0, u "name"), (0, u "Ljava/lang/String;"), (2, u "ordinal"), (0, u "I"), (1, .class_ 14), (1, u "java/lang/Object"), (4, u "hash"), (86, .class_ 108), (1, u "java/lang/Enum$EnumDesc"), (2, .class_ 112), (0, u "java/lang/constant/Constable"), (0, .class_ 114), (0, u "java/lang/Comparable"), (0, .class_ 116), (0, u "java/io/Serializable")] 87

/-- java/lang/Enum -/
def k5 : Class := { plain "java/lang/Enum" (some 0) with
  accessFlags := 1057
  interfaces := #[2, 3, 4]
  cf := some (fileOf pool5 2 #[.nestMembers #[106]] #[] 1057 12 #[111, 113, 115] #[{ accessFlags := 18, nameIndex := 5, descriptorIndex := 6, attributes := #[] }, { accessFlags := 18, nameIndex := 9, descriptorIndex := 10, attributes := #[] }, { accessFlags := 2, nameIndex := 19, descriptorIndex := 10, attributes := #[] }])
  fields := #[{ name := "name", type := (.object "java/lang/String"), accessFlags := 18, slot := 0, constantValue := 0 }, { name := "ordinal", type := .int, accessFlags := 18, slot := 1, constantValue := 0 }, { name := "hash", type := .int, accessFlags := 2, slot := 2, constantValue := 0 }]
  methods := #[]
  instanceTypes := #[(.object "java/lang/String"), .int, .int]
  staticTypes := #[]
  resolved := Array.replicate 204 none
  statics := none }

def pool6 : Array CpInfo := pool [(2, .class_ 4), (1, u "com/example/able_hands/ablehands/WireNamed"), (50, .class_ 56), (0, u "java/lang/Object")] 41

/-- com/example/able_hands/ablehands/WireNamed -/
def k6 : Class := { plain "com/example/able_hands/ablehands/WireNamed" (some 0) with
  accessFlags := 1536
  interfaces := #[]
  cf := some (fileOf pool6 2 #[] #[] 1536 55 #[] #[])
  fields := #[]
  methods := #[]
  instanceTypes := #[]
  staticTypes := #[]
  resolved := Array.replicate 98 none
  statics := none }

def pool7 : Array CpInfo := pool [(1, .class_ 2), (0, u "com/example/able_hands/ablehands/WorkItemStatus"), (2, u "ENABLED"), (0, u "Lcom/example/able_hands/ablehands/WorkItemStatus;"), (2, u "FIRED"), (2, u "EXECUTING"), (0, .fieldref 1 14), (0, .nameAndType 15 6), (0, u "COMPLETE"), (0, .fieldref 1 17), (0, .nameAndType 18 6), (0, u "FORCED_COMPLETE"), (2, u "FAILED"), (2, u "IS_PARENT"), (2, u "SUSPENDED"), (2, u "DEADLOCKED"), (2, u "DELETED"), (2, u "WITHDRAWN"), (2, u "CANCELLED_BY_CASE"), (2, u "DISCARDED"), (2, u "$VALUES"), (0, u "[Lcom/example/able_hands/ablehands/WorkItemStatus;"), (6, .class_ 55), (1, u "java/lang/Enum"), (8, u "wireName"), (0, u "Ljava/lang/String;"), (10, .class_ 78), (1, u "com/example/able_hands/ablehands/WireNamed"), (5, u "()Z"), (9, u "isCompleted")] 67

def k7c0 : Code := { maxStack := 2, maxLocals := 1, code := prog_85_method_10_code, exceptionTable := #[], attributes := #[] }
def k7m0 : Method := { name := "isCompleted", desc := "()Z", sig := { parameters := [], returnType := some .boolean }, accessFlags := 1, code := some k7c0 }
/-- com/example/able_hands/ablehands/WorkItemStatus -/
def k7 : Class := { plain "com/example/able_hands/ablehands/WorkItemStatus" (some 5) with
  accessFlags := 16433
  interfaces := #[6]
  cf := some (fileOf pool7 1 #[] #[{ accessFlags := 1, nameIndex := 94, descriptorIndex := 84, attributes := #[] }] 16433 53 #[76] #[{ accessFlags := 16409, nameIndex := 5, descriptorIndex := 6, attributes := #[] }, { accessFlags := 16409, nameIndex := 9, descriptorIndex := 6, attributes := #[] }, { accessFlags := 16409, nameIndex := 12, descriptorIndex := 6, attributes := #[] }, { accessFlags := 16409, nameIndex := 15, descriptorIndex := 6, attributes := #[] }, { accessFlags := 16409, nameIndex := 18, descriptorIndex := 6, attributes := #[] }, { accessFlags := 16409, nameIndex := 21, descriptorIndex := 6, attributes := #[] }, { accessFlags := 16409, nameIndex := 24, descriptorIndex := 6, attributes := #[] }, { accessFlags := 16409, nameIndex := 27, descriptorIndex := 6, attributes := #[] }, { accessFlags := 16409, nameIndex := 30, descriptorIndex := 6, attributes := #[] }, { accessFlags := 16409, nameIndex := 33, descriptorIndex := 6, attributes := #[] }, { accessFlags := 16409, nameIndex := 36, descriptorIndex := 6, attributes := #[] }, { accessFlags := 16409, nameIndex := 39, descriptorIndex := 6, attributes := #[] }, { accessFlags := 16409, nameIndex := 42, descriptorIndex := 6, attributes := #[] }, { accessFlags := 18, nameIndex := 64, descriptorIndex := 65, attributes := #[] }, { accessFlags := 4122, nameIndex := 45, descriptorIndex := 46, attributes := #[] }])
  fields := #[{ name := "ENABLED", type := (.object "com/example/able_hands/ablehands/WorkItemStatus"), accessFlags := 16409, slot := 0, constantValue := 0 }, { name := "FIRED", type := (.object "com/example/able_hands/ablehands/WorkItemStatus"), accessFlags := 16409, slot := 1, constantValue := 0 }, { name := "EXECUTING", type := (.object "com/example/able_hands/ablehands/WorkItemStatus"), accessFlags := 16409, slot := 2, constantValue := 0 }, { name := "COMPLETE", type := (.object "com/example/able_hands/ablehands/WorkItemStatus"), accessFlags := 16409, slot := 3, constantValue := 0 }, { name := "FORCED_COMPLETE", type := (.object "com/example/able_hands/ablehands/WorkItemStatus"), accessFlags := 16409, slot := 4, constantValue := 0 }, { name := "FAILED", type := (.object "com/example/able_hands/ablehands/WorkItemStatus"), accessFlags := 16409, slot := 5, constantValue := 0 }, { name := "IS_PARENT", type := (.object "com/example/able_hands/ablehands/WorkItemStatus"), accessFlags := 16409, slot := 6, constantValue := 0 }, { name := "SUSPENDED", type := (.object "com/example/able_hands/ablehands/WorkItemStatus"), accessFlags := 16409, slot := 7, constantValue := 0 }, { name := "DEADLOCKED", type := (.object "com/example/able_hands/ablehands/WorkItemStatus"), accessFlags := 16409, slot := 8, constantValue := 0 }, { name := "DELETED", type := (.object "com/example/able_hands/ablehands/WorkItemStatus"), accessFlags := 16409, slot := 9, constantValue := 0 }, { name := "WITHDRAWN", type := (.object "com/example/able_hands/ablehands/WorkItemStatus"), accessFlags := 16409, slot := 10, constantValue := 0 }, { name := "CANCELLED_BY_CASE", type := (.object "com/example/able_hands/ablehands/WorkItemStatus"), accessFlags := 16409, slot := 11, constantValue := 0 }, { name := "DISCARDED", type := (.object "com/example/able_hands/ablehands/WorkItemStatus"), accessFlags := 16409, slot := 12, constantValue := 0 }, { name := "wireName", type := (.object "java/lang/String"), accessFlags := 18, slot := 3, constantValue := 0 }, { name := "$VALUES", type := (.array (.object "com/example/able_hands/ablehands/WorkItemStatus")), accessFlags := 4122, slot := 13, constantValue := 0 }]
  methods := #[k7m0]
  instanceTypes := #[(.object "java/lang/String"), .int, .int, (.object "java/lang/String")]
  staticTypes := #[(.object "com/example/able_hands/ablehands/WorkItemStatus"), (.object "com/example/able_hands/ablehands/WorkItemStatus"), (.object "com/example/able_hands/ablehands/WorkItemStatus"), (.object "com/example/able_hands/ablehands/WorkItemStatus"), (.object "com/example/able_hands/ablehands/WorkItemStatus"), (.object "com/example/able_hands/ablehands/WorkItemStatus"), (.object "com/example/able_hands/ablehands/WorkItemStatus"), (.object "com/example/able_hands/ablehands/WorkItemStatus"), (.object "com/example/able_hands/ablehands/WorkItemStatus"), (.object "com/example/able_hands/ablehands/WorkItemStatus"), (.object "com/example/able_hands/ablehands/WorkItemStatus"), (.object "com/example/able_hands/ablehands/WorkItemStatus"), (.object "com/example/able_hands/ablehands/WorkItemStatus"), (.array (.object "com/example/able_hands/ablehands/WorkItemStatus"))]
  resolved := Array.replicate 162 none
  statics := some 0 }

def pool8 : Array CpInfo := pool [(1, u "java/lang/Cloneable"), (0, .class_ 1), (0, u "java/lang/Object"), (0, .class_ 3)] 3

/-- java/lang/Cloneable -/
def k8 : Class := { plain "java/lang/Cloneable" (some 0) with
  accessFlags := 1537
  interfaces := #[]
  cf := some (fileOf pool8 2 #[] #[] 1537 4 #[] #[])
  fields := #[]
  methods := #[]
  instanceTypes := #[]
  staticTypes := #[]
  resolved := Array.replicate 8 none
  statics := none }

/-- the primitive byte -/
def k9 : Class := { plain "byte" none with kind := .primitive 'B', accessFlags := 0x411 }
/-- [B -/
def k10 : Class := { plain "[B" (some 0) with kind := .array 9 .byte, interfaces := #[8, 4], accessFlags := 1041 }

/-- the primitive int -/
def k11 : Class := { plain "int" none with kind := .primitive 'I', accessFlags := 0x411 }
/-- [I -/
def k12 : Class := { plain "[I" (some 0) with kind := .array 11 .int, interfaces := #[8, 4], accessFlags := 1041 }

/-- [Lcom/example/able_hands/ablehands/WorkItemStatus; -/
def k13 : Class := { plain "[Lcom/example/able_hands/ablehands/WorkItemStatus;" (some 0) with kind := .array 7 (.object "com/example/able_hands/ablehands/WorkItemStatus"), interfaces := #[8, 4], accessFlags := 1041 }

def heap : Heap := #[{ cls := 7, slots := #[.ref 1, .ref 2, .ref 3, .ref 4, .ref 5, .ref 6, .ref 7, .ref 8, .ref 9, .ref 10, .ref 11, .ref 12, .ref 13, .null], vm := .statics 7 },
  { cls := 7, slots := #[.null, .int 0, .int 0, .null], vm := .none },
  { cls := 7, slots := #[.null, .int 1, .int 0, .null], vm := .none },
  { cls := 7, slots := #[.null, .int 2, .int 0, .null], vm := .none },
  { cls := 7, slots := #[.null, .int 3, .int 0, .null], vm := .none },
  { cls := 7, slots := #[.null, .int 4, .int 0, .null], vm := .none },
  { cls := 7, slots := #[.null, .int 5, .int 0, .null], vm := .none },
  { cls := 7, slots := #[.null, .int 6, .int 0, .null], vm := .none },
  { cls := 7, slots := #[.null, .int 7, .int 0, .null], vm := .none },
  { cls := 7, slots := #[.null, .int 8, .int 0, .null], vm := .none },
  { cls := 7, slots := #[.null, .int 9, .int 0, .null], vm := .none },
  { cls := 7, slots := #[.null, .int 10, .int 0, .null], vm := .none },
  { cls := 7, slots := #[.null, .int 11, .int 0, .null], vm := .none },
  { cls := 7, slots := #[.null, .int 12, .int 0, .null], vm := .none }]
def classes : Array Class := #[k0, k1, k2, k3, k4, k5, k6, k7, k8, k9, k10, k11, k12, k13]
def interned : List (Array UInt16 × Addr) := []
def slotsUsed : Nat := 66
def theMethod : MethodId := ⟨1, 1⟩
def args0 : Array Value := #[.int 5]
def aboutOver (below : List Frame) : State where
  vm := { classes := classes, interned := interned.toArray }
  heap := heap
  slotsUsed := slotsUsed
  threads := #[{ frames := .invoking theMethod args0 :: below }]
def below0 : List Frame := [.native { method := ⟨0, 0⟩, args := #[] }]
def about1 : State := aboutOver below0
def p0 : Program := .bare "" "" ""
def e0 : Env := launch0.env 0 0 0
theorem w_frames : about1.frames = Frame.invoking theMethod args0 :: below0 := rfl
set_option maxRecDepth 65536 in
theorem w_args : argsFit about1.vm theMethod args0 = true := by decide +kernel
set_option maxRecDepth 65536 in
theorem w_heap : heapFits about1 = true := by decide +kernel
set_option maxRecDepth 65536 in
theorem w_runnable : about1.curStatus? = some .runnable := by decide +kernel
set_option maxRecDepth 65536 in
theorem w_alone : about1.alone = true := by decide +kernel
set_option maxRecDepth 65536 in
theorem w_named : about1.methodNamed? x = some theMethod := by decide +kernel
set_option maxRecDepth 65536 in
theorem w_hears : about1.hears theMethod below0 = true := by decide +kernel
set_option maxRecDepth 65536 in
theorem w_ripe : about1.ripe theMethod args0 below0 = true := by decide +kernel
theorem w_running : about1.status = .running := rfl
set_option maxRecDepth 65536 in
theorem w_room : about1.hasRoom e0.platform room_1 = true :=
  launch0.hasRoom_least _ room_1 (by decide +kernel) (by decide +kernel) (by decide +kernel) (by decide +kernel) (by decide +kernel) (by decide +kernel)
theorem allAtoms_all (ts : List Jvm.Cond) (a : Array Jvm.Value) (st : Jvm.State) : (allAtoms ts).before a st = ts.all (fun c => c.before a st) := by
  induction ts with
  | nil => rfl
  | cons c t ih =>
    show (Jvm.Cond.and c (allAtoms t)).before a st = _
    rw [Jvm.Cond.before_and, ih, List.all_cons]
def words1 : List Jvm.Cond := Jvm.Cond.code x code maxLocals ret :: tables_1
/-- a 'code' word, met by the world's own term for the bytes: nothing is compared byte by byte -/
theorem code_word {y : MethodName} {bytes : ByteArray} {mx : Nat} {rt : Option FieldType} {a : Array Value} {s : State} {m : MethodId} {meth : Method} {c : Code} (h1 : s.methodNamed? y = some m) (h2 : s.vm.method? m = some meth) (h3 : meth.code = some c) (h4 : c.code = bytes)
    (h5 : (c.maxLocals == mx && c.exceptionTable.isEmpty && decide (c.maxStack ≤ mostOperands) && decide (meth.sig.returnType = rt) && !meth.locks && decide (parseMethodDescriptor y.desc = some meth.sig)) = true) : (Jvm.Cond.code y bytes mx rt).before a s = true := by
  simp only [Bool.and_eq_true, beq_iff_eq, Bool.not_eq_true', decide_eq_true_eq] at h5
  obtain ⟨⟨⟨⟨⟨g1, g2⟩, g3⟩, g4⟩, g5⟩, g6⟩ := h5
  simp [Cond.before, Cond.holds, Cond.value, h1, h2, h3, h4, g1, g2, g3, g4, g5, g6]
def isCode : Jvm.Cond → Bool
  | .code _ _ _ _ => true
  | _ => false
theorem all_split {L : List Jvm.Cond} {P : Jvm.Cond → Bool} (h1 : L.all (fun c => isCode c || P c) = true) (h2 : ∀ c ∈ L.filter isCode, P c = true) : L.all P = true := by
  refine List.all_eq_true.mpr fun c hc => ?_
  have h := List.all_eq_true.mp h1 c hc
  rcases Bool.eq_false_or_eq_true (isCode c) with hi | hi
  · exact h2 c (List.mem_filter.mpr ⟨hc, hi⟩)
  · simpa [hi] using h
set_option maxRecDepth 65536 in
theorem w_c0 : (Jvm.Cond.code x code maxLocals ret).before args0 about1 = true := code_word (m := ⟨1, 1⟩) (meth := k1m1) (c := k1c1) (by decide +kernel) rfl rfl rfl (by decide +kernel)
set_option maxRecDepth 65536 in
theorem w_c1 : (Jvm.Cond.code ({ cls := "com/example/able_hands/ablehands/WorkItemStatus", name := "isCompleted", desc := "()Z" } : Jvm.MethodName) prog_85_method_10_code (1 : Nat) (Option.some Jvm.ClassFile.FieldType.boolean)).before args0 about1 = true := code_word (m := ⟨7, 0⟩) (meth := k7m0) (c := k7c0) (by decide +kernel) rfl rfl rfl (by decide +kernel)
def codes1 : List Jvm.Cond := [Jvm.Cond.code x code maxLocals ret, Jvm.Cond.code ({ cls := "com/example/able_hands/ablehands/WorkItemStatus", name := "isCompleted", desc := "()Z" } : Jvm.MethodName) prog_85_method_10_code (1 : Nat) (Option.some Jvm.ClassFile.FieldType.boolean)]
set_option maxRecDepth 65536 in
theorem codes_eq : words1.filter isCode = codes1 := rfl
theorem w_codes : ∀ c ∈ words1.filter isCode, c.before args0 about1 = true := by
  rw [codes_eq]
  intro c hc
  simp only [codes1, List.mem_cons, List.not_mem_nil, or_false] at hc
  rcases hc with rfl | rfl
  · exact w_c0
  · exact w_c1
set_option maxRecDepth 65536 in
theorem w_t1 : (words1.take 24).all (fun c => isCode c || c.before args0 about1) = true := by decide +kernel
set_option maxRecDepth 65536 in
theorem w_t2 : (words1.drop 24).all (fun c => isCode c || c.before args0 about1) = true := by decide +kernel
theorem w_tables : (allAtoms (Jvm.Cond.code x code maxLocals ret :: tables_1)).before args0 about1 = true := by
  rw [allAtoms_all]
  show words1.all (fun c => c.before args0 about1) = true
  refine all_split ?_ w_codes
  rw [← List.take_append_drop 24 words1, List.all_append, w_t1, w_t2]
  rfl
set_option maxRecDepth 65536 in
theorem w_case : (Jvm.Cond.and given_1 narrow_1).before args0 about1 = true := by decide +kernel
theorem w_applies : (headSpec (Jvm.Cond.code x code maxLocals ret :: tables_1) room_1).applies x e0.platform about1 = true :=
  (Spec.applies_iff w_frames).mpr ⟨w_running, w_runnable, w_alone, w_named, w_hears, w_ripe, w_room, w_tables⟩
theorem atStart : AtStart classFile x code maxLocals ret World_1 tables_1 room_1 Calls_1 rest_1 Pre_1 launch0 p0 e0 about1 theMethod args0 below0 :=
  ⟨lists_1, trivial, launch0.admits_env _ _ _, launch0.least_env, fairChoices_fair.cas, fairChoices_fair.clock, w_frames, w_args, w_heap, w_applies, trivial, trivial, w_case⟩
end start1
theorem witness_1 : WitnessClaimed_1 := ⟨start1.p0, start1.e0, start1.about1, start1.theMethod, start1.args0, start1.below0, start1.atStart⟩
end Jvm.Pilot.@@N@@
