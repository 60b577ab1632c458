import JvmDerived
import JvmDerived.Pilot.@@N@@Statement
import JvmDerived.Pilot.@@N@@Code
set_option linter.unusedVariables false
set_option linter.unusedSimpArgs false
namespace Jvm.RoadKit
open Sem ClassFile Op Lib Jvm.Stand Jvm.Free Jvm.LawKit
section New
variable {p : Program} {l : Launch} {e : Env} {R : Room} {s : State} {m : MethodId} {args : Array Value} {below : List Frame} {meth : Method} {c : Code} {T : State} {locs : List Loc} {cells slots : Nat}
theorem retI (X : Stand p l e R s m args below meth c T locs cells slots) (hx : p.tables.exec = Jvm.exec) {pc : Nat} {Ls : Array Slot} {z : Int32} {rest : List Value} (hret : meth.sig.returnType = some .int) (hd : decode c.code pc = .ok (.ireturn, 1)) {fs : List Frame}
    (hl : ∀ (f : JFrame) (acts : List Action), f.method = m → f.locked = none → f.entered = [] → (doReturn e (T.setTop f) acts (some (.int z))).1 = T.setFrames fs) : Steps p.tables e below (T.setTop (mkF m pc Ls (.int z :: rest))) (T.setFrames fs) := by
  have hm' : T.vm.method? m = some meth := X.method'
  have hn : narrow .int (.int z) = .int z := rfl
  show Steps p.tables e below (T.setTop { method := m, pc := pc, locals := Ls, stack := _ :: rest, locked := none }) _
  jvm_step X.here [X.here.top, hx, hd, hm', hret, hn]
  first | (intro acts; rw [hl _ acts rfl rfl rfl]) | rw [hl _ _ rfl rfl rfl]
  exact Steps.refl _
theorem own_lremM {g : JFrame} {target : State} (X : Stand p l e R s m args below meth c T locs cells slots) (hx : p.tables.exec = Jvm.exec) (hg : g.method = m) {x y : Int64} {rest : List Value} (hd : decode c.code g.pc = .ok (.lrem, 1)) (hs : g.stack = .long y :: .long x :: rest) (hy : y ≠ 0)
    (hr : Steps p.tables e below (T.setTop { g with pc := g.pc + 1, stack := .long (x % y) :: rest }) target) : Steps p.tables e below (T.setTop g) target := by
  have q : x - x / y * y = x % y := lrem_mod x y
  exact XS.lrem X.here hx hg hd hs hy (by rw [q]; exact hr)
theorem own_selP {Z : State} {a0 : Array Value} {C : String} {n : Nat} {y : MethodName} (hC : y.cls = C) (wi : (Cond.instantiable C n).before a0 Z = true) (wm : (Cond.instanceMethod y).before a0 Z = true) (wp : (Cond.privateMethod y).before a0 Z = true) (hy : y.cls ≠ "java/lang/invoke/MethodHandle" ∧ y.cls ≠ "java/lang/invoke/VarHandle") : (Cond.selects y.cls y y).before a0 Z = true := by
  obtain ⟨c, k, h1, h2, h3, h4, -⟩ := Cond.instantiable_spec wi
  simp only [Bool.or_eq_false_iff] at h4
  subst hC
  exact selects_self_of_private h1 h2 h4.1 (Cond.privateMethod_at wp) wm hy
end New
end Jvm.RoadKit
namespace Jvm.Pilot.@@N@@
open Jvm Jvm.ClassFile Sem Op Lib Jvm.Free Jvm.Stand Jvm.LawKit Jvm.RoadKit Bundle Jvm.Pilot.@@N@@.Jvm.D
theorem own_fldInt {s : State} {args : Array Value} {t : Term} {a : Addr} {C n d : String} {k : Int32} (ev : t.eval args s none [] s = some (.ref a)) (h : (Jvm.Cond.eq (Term.field t C n d) (Term.int k)).value args s none s [] = some true) : Fld s s.heap a C n d (.int k) := by
  obtain ⟨x, y, h1, h2, h3, h4⟩ := cmp_v (Or.inl h)
  have e2 : y = .int k := (Option.some.inj h2).symm
  subst e2
  obtain ⟨z, rfl⟩ := h4
  have e : s.fieldOf? a C n d = some (.int z) := by simpa [Term.eval, ev] using h1
  have q : z = k := by
    simp only [Cond.value, h1, h2] at h; simpa using h
  subst q
  exact Fld.start e
theorem own_rem (x n : Int32) (hn : 0 < n.toInt) : 0 ≤ ((x &&& (2147483647 : Int32)) % n).toInt ∧ ((x &&& (2147483647 : Int32)) % n).toInt < n.toInt := by
  have h := (c_and x 2147483647 (by decide)).1
  have q := (c_irem (x &&& 2147483647) n n.toInt rfl).1 h
  rw [q]; exact ⟨Int.emod_nonneg _ (by omega), Int.emod_lt_of_pos _ hn⟩
theorem own_cases {k : Int32} (h : 0 ≤ k.toInt ∧ k.toInt < 13) : k = 0 ∨ k = 1 ∨ k = 2 ∨ k = 3 ∨ k = 4 ∨ k = 5 ∨ k = 6 ∨ k = 7 ∨ k = 8 ∨ k = 9 ∨ k = 10 ∨ k = 11 ∨ k = 12 := by
  have q : k.toInt = 0 ∨ k.toInt = 1 ∨ k.toInt = 2 ∨ k.toInt = 3 ∨ k.toInt = 4 ∨ k.toInt = 5 ∨ k.toInt = 6 ∨ k.toInt = 7 ∨ k.toInt = 8 ∨ k.toInt = 9 ∨ k.toInt = 10 ∨ k.toInt = 11 ∨ k.toInt = 12 := by omega
  rcases q with q | q | q | q | q | q | q | q | q | q | q | q | q
  · exact Or.inl (Int32.toInt_inj.mp (q.trans (by decide)))
  · exact Or.inr (Or.inl (Int32.toInt_inj.mp (q.trans (by decide))))
  · exact Or.inr (Or.inr (Or.inl (Int32.toInt_inj.mp (q.trans (by decide)))))
  · exact Or.inr (Or.inr (Or.inr (Or.inl (Int32.toInt_inj.mp (q.trans (by decide))))))
  · exact Or.inr (Or.inr (Or.inr (Or.inr (Or.inl (Int32.toInt_inj.mp (q.trans (by decide)))))))
  · exact Or.inr (Or.inr (Or.inr (Or.inr (Or.inr (Or.inl (Int32.toInt_inj.mp (q.trans (by decide))))))))
  · exact Or.inr (Or.inr (Or.inr (Or.inr (Or.inr (Or.inr (Or.inl (Int32.toInt_inj.mp (q.trans (by decide)))))))))
  · exact Or.inr (Or.inr (Or.inr (Or.inr (Or.inr (Or.inr (Or.inr (Or.inl (Int32.toInt_inj.mp (q.trans (by decide))))))))))
  · exact Or.inr (Or.inr (Or.inr (Or.inr (Or.inr (Or.inr (Or.inr (Or.inr (Or.inl (Int32.toInt_inj.mp (q.trans (by decide)))))))))))
  · exact Or.inr (Or.inr (Or.inr (Or.inr (Or.inr (Or.inr (Or.inr (Or.inr (Or.inr (Or.inl (Int32.toInt_inj.mp (q.trans (by decide))))))))))))
  · exact Or.inr (Or.inr (Or.inr (Or.inr (Or.inr (Or.inr (Or.inr (Or.inr (Or.inr (Or.inr (Or.inl (Int32.toInt_inj.mp (q.trans (by decide)))))))))))))
  · exact Or.inr (Or.inr (Or.inr (Or.inr (Or.inr (Or.inr (Or.inr (Or.inr (Or.inr (Or.inr (Or.inr (Or.inl (Int32.toInt_inj.mp (q.trans (by decide))))))))))))))
  · exact Or.inr (Or.inr (Or.inr (Or.inr (Or.inr (Or.inr (Or.inr (Or.inr (Or.inr (Or.inr (Or.inr (Or.inr (Int32.toInt_inj.mp (q.trans (by decide))))))))))))))
def own_pick (k : Int32) (w_ENABLED w_FIRED w_EXECUTING w_COMPLETE w_FORCED_COMPLETE w_FAILED w_IS_PARENT w_SUSPENDED w_DEADLOCKED w_DELETED w_WITHDRAWN w_CANCELLED_BY_CASE w_DISCARDED : Addr) : Addr := if k = (0 : Int32) then w_ENABLED else if k = (1 : Int32) then w_FIRED else if k = (2 : Int32) then w_EXECUTING else if k = (3 : Int32) then w_COMPLETE else if k = (4 : Int32) then w_FORCED_COMPLETE else if k = (5 : Int32) then w_FAILED else if k = (6 : Int32) then w_IS_PARENT else if k = (7 : Int32) then w_SUSPENDED else if k = (8 : Int32) then w_DEADLOCKED else if k = (9 : Int32) then w_DELETED else if k = (10 : Int32) then w_WITHDRAWN else if k = (11 : Int32) then w_CANCELLED_BY_CASE else w_DISCARDED
theorem own_ite {P : Addr → Prop} {c : Prop} [Decidable c] {a b : Addr} (ha : P a) (hb : P b) : P (if c then a else b) := by
  split <;> assumption
theorem own_pick_ind {P : Addr → Prop} {k : Int32} {w_ENABLED w_FIRED w_EXECUTING w_COMPLETE w_FORCED_COMPLETE w_FAILED w_IS_PARENT w_SUSPENDED w_DEADLOCKED w_DELETED w_WITHDRAWN w_CANCELLED_BY_CASE w_DISCARDED : Addr} (h0 : P w_ENABLED) (h1 : P w_FIRED) (h2 : P w_EXECUTING) (h3 : P w_COMPLETE) (h4 : P w_FORCED_COMPLETE) (h5 : P w_FAILED) (h6 : P w_IS_PARENT) (h7 : P w_SUSPENDED) (h8 : P w_DEADLOCKED) (h9 : P w_DELETED) (h10 : P w_WITHDRAWN) (h11 : P w_CANCELLED_BY_CASE) (h12 : P w_DISCARDED) : P (own_pick k w_ENABLED w_FIRED w_EXECUTING w_COMPLETE w_FORCED_COMPLETE w_FAILED w_IS_PARENT w_SUSPENDED w_DEADLOCKED w_DELETED w_WITHDRAWN w_CANCELLED_BY_CASE w_DISCARDED) := own_ite h0 (own_ite h1 (own_ite h2 (own_ite h3 (own_ite h4 (own_ite h5 (own_ite h6 (own_ite h7 (own_ite h8 (own_ite h9 (own_ite h10 (own_ite h11 (h12))))))))))))
def own_q (a w_COMPLETE w_FORCED_COMPLETE : Addr) : Int32 := if a = w_COMPLETE then (1 : Int32) else if a = w_FORCED_COMPLETE then (1 : Int32) else (0 : Int32)
def own_f (a w_COMPLETE w_FORCED_COMPLETE w_DELETED w_FAILED : Addr) : Int32 := if own_q a w_COMPLETE w_FORCED_COMPLETE = (0 : Int32) then (if a = w_DELETED then (1 : Int32) else if a = w_FAILED then (1 : Int32) else (0 : Int32)) else (1 : Int32)
theorem own_law {Z : State} {h : Heap} {k : Int32} {w_ENABLED w_FIRED w_EXECUTING w_COMPLETE w_FORCED_COMPLETE w_FAILED w_IS_PARENT w_SUSPENDED w_DEADLOCKED w_DELETED w_WITHDRAWN w_CANCELLED_BY_CASE w_DISCARDED : Addr} (hk : 0 ≤ k.toInt ∧ k.toInt < 13) (F0 : Fld Z h w_ENABLED "java/lang/Enum" "ordinal" "I" (.int (0 : Int32))) (F1 : Fld Z h w_FIRED "java/lang/Enum" "ordinal" "I" (.int (1 : Int32))) (F2 : Fld Z h w_EXECUTING "java/lang/Enum" "ordinal" "I" (.int (2 : Int32))) (F3 : Fld Z h w_COMPLETE "java/lang/Enum" "ordinal" "I" (.int (3 : Int32))) (F4 : Fld Z h w_FORCED_COMPLETE "java/lang/Enum" "ordinal" "I" (.int (4 : Int32))) (F5 : Fld Z h w_FAILED "java/lang/Enum" "ordinal" "I" (.int (5 : Int32))) (F6 : Fld Z h w_IS_PARENT "java/lang/Enum" "ordinal" "I" (.int (6 : Int32))) (F7 : Fld Z h w_SUSPENDED "java/lang/Enum" "ordinal" "I" (.int (7 : Int32))) (F8 : Fld Z h w_DEADLOCKED "java/lang/Enum" "ordinal" "I" (.int (8 : Int32))) (F9 : Fld Z h w_DELETED "java/lang/Enum" "ordinal" "I" (.int (9 : Int32))) (F10 : Fld Z h w_WITHDRAWN "java/lang/Enum" "ordinal" "I" (.int (10 : Int32))) (F11 : Fld Z h w_CANCELLED_BY_CASE "java/lang/Enum" "ordinal" "I" (.int (11 : Int32))) (F12 : Fld Z h w_DISCARDED "java/lang/Enum" "ordinal" "I" (.int (12 : Int32))) : own_f (own_pick k w_ENABLED w_FIRED w_EXECUTING w_COMPLETE w_FORCED_COMPLETE w_FAILED w_IS_PARENT w_SUSPENDED w_DEADLOCKED w_DELETED w_WITHDRAWN w_CANCELLED_BY_CASE w_DISCARDED) w_COMPLETE w_FORCED_COMPLETE w_DELETED w_FAILED = (if k = (3 : Int32) then (1 : Int32) else (if k = (4 : Int32) then (1 : Int32) else (if k = (5 : Int32) then (1 : Int32) else (if k = (9 : Int32) then (1 : Int32) else (0 : Int32))))) := by
  rcases own_cases hk with rfl | rfl | rfl | rfl | rfl | rfl | rfl | rfl | rfl | rfl | rfl | rfl | rfl
  · have e : own_pick (0 : Int32) w_ENABLED w_FIRED w_EXECUTING w_COMPLETE w_FORCED_COMPLETE w_FAILED w_IS_PARENT w_SUSPENDED w_DEADLOCKED w_DELETED w_WITHDRAWN w_CANCELLED_BY_CASE w_DISCARDED = w_ENABLED := rfl
    have n3 : w_ENABLED ≠ w_COMPLETE := Fld.ne F0 F3 (by simp)
    have n4 : w_ENABLED ≠ w_FORCED_COMPLETE := Fld.ne F0 F4 (by simp)
    have n9 : w_ENABLED ≠ w_DELETED := Fld.ne F0 F9 (by simp)
    have n5 : w_ENABLED ≠ w_FAILED := Fld.ne F0 F5 (by simp)
    rw [e]; simp +decide [own_f, own_q, n3, n4, n9, n5]
  · have e : own_pick (1 : Int32) w_ENABLED w_FIRED w_EXECUTING w_COMPLETE w_FORCED_COMPLETE w_FAILED w_IS_PARENT w_SUSPENDED w_DEADLOCKED w_DELETED w_WITHDRAWN w_CANCELLED_BY_CASE w_DISCARDED = w_FIRED := rfl
    have n3 : w_FIRED ≠ w_COMPLETE := Fld.ne F1 F3 (by simp)
    have n4 : w_FIRED ≠ w_FORCED_COMPLETE := Fld.ne F1 F4 (by simp)
    have n9 : w_FIRED ≠ w_DELETED := Fld.ne F1 F9 (by simp)
    have n5 : w_FIRED ≠ w_FAILED := Fld.ne F1 F5 (by simp)
    rw [e]; simp +decide [own_f, own_q, n3, n4, n9, n5]
  · have e : own_pick (2 : Int32) w_ENABLED w_FIRED w_EXECUTING w_COMPLETE w_FORCED_COMPLETE w_FAILED w_IS_PARENT w_SUSPENDED w_DEADLOCKED w_DELETED w_WITHDRAWN w_CANCELLED_BY_CASE w_DISCARDED = w_EXECUTING := rfl
    have n3 : w_EXECUTING ≠ w_COMPLETE := Fld.ne F2 F3 (by simp)
    have n4 : w_EXECUTING ≠ w_FORCED_COMPLETE := Fld.ne F2 F4 (by simp)
    have n9 : w_EXECUTING ≠ w_DELETED := Fld.ne F2 F9 (by simp)
    have n5 : w_EXECUTING ≠ w_FAILED := Fld.ne F2 F5 (by simp)
    rw [e]; simp +decide [own_f, own_q, n3, n4, n9, n5]
  · have e : own_pick (3 : Int32) w_ENABLED w_FIRED w_EXECUTING w_COMPLETE w_FORCED_COMPLETE w_FAILED w_IS_PARENT w_SUSPENDED w_DEADLOCKED w_DELETED w_WITHDRAWN w_CANCELLED_BY_CASE w_DISCARDED = w_COMPLETE := rfl
    have n4 : w_COMPLETE ≠ w_FORCED_COMPLETE := Fld.ne F3 F4 (by simp)
    have n9 : w_COMPLETE ≠ w_DELETED := Fld.ne F3 F9 (by simp)
    have n5 : w_COMPLETE ≠ w_FAILED := Fld.ne F3 F5 (by simp)
    rw [e]; simp +decide [own_f, own_q, n4, n9, n5]
  · have e : own_pick (4 : Int32) w_ENABLED w_FIRED w_EXECUTING w_COMPLETE w_FORCED_COMPLETE w_FAILED w_IS_PARENT w_SUSPENDED w_DEADLOCKED w_DELETED w_WITHDRAWN w_CANCELLED_BY_CASE w_DISCARDED = w_FORCED_COMPLETE := rfl
    have n3 : w_FORCED_COMPLETE ≠ w_COMPLETE := Fld.ne F4 F3 (by simp)
    have n9 : w_FORCED_COMPLETE ≠ w_DELETED := Fld.ne F4 F9 (by simp)
    have n5 : w_FORCED_COMPLETE ≠ w_FAILED := Fld.ne F4 F5 (by simp)
    rw [e]; simp +decide [own_f, own_q, n3, n9, n5]
  · have e : own_pick (5 : Int32) w_ENABLED w_FIRED w_EXECUTING w_COMPLETE w_FORCED_COMPLETE w_FAILED w_IS_PARENT w_SUSPENDED w_DEADLOCKED w_DELETED w_WITHDRAWN w_CANCELLED_BY_CASE w_DISCARDED = w_FAILED := rfl
    have n3 : w_FAILED ≠ w_COMPLETE := Fld.ne F5 F3 (by simp)
    have n4 : w_FAILED ≠ w_FORCED_COMPLETE := Fld.ne F5 F4 (by simp)
    have n9 : w_FAILED ≠ w_DELETED := Fld.ne F5 F9 (by simp)
    rw [e]; simp +decide [own_f, own_q, n3, n4, n9]
  · have e : own_pick (6 : Int32) w_ENABLED w_FIRED w_EXECUTING w_COMPLETE w_FORCED_COMPLETE w_FAILED w_IS_PARENT w_SUSPENDED w_DEADLOCKED w_DELETED w_WITHDRAWN w_CANCELLED_BY_CASE w_DISCARDED = w_IS_PARENT := rfl
    have n3 : w_IS_PARENT ≠ w_COMPLETE := Fld.ne F6 F3 (by simp)
    have n4 : w_IS_PARENT ≠ w_FORCED_COMPLETE := Fld.ne F6 F4 (by simp)
    have n9 : w_IS_PARENT ≠ w_DELETED := Fld.ne F6 F9 (by simp)
    have n5 : w_IS_PARENT ≠ w_FAILED := Fld.ne F6 F5 (by simp)
    rw [e]; simp +decide [own_f, own_q, n3, n4, n9, n5]
  · have e : own_pick (7 : Int32) w_ENABLED w_FIRED w_EXECUTING w_COMPLETE w_FORCED_COMPLETE w_FAILED w_IS_PARENT w_SUSPENDED w_DEADLOCKED w_DELETED w_WITHDRAWN w_CANCELLED_BY_CASE w_DISCARDED = w_SUSPENDED := rfl
    have n3 : w_SUSPENDED ≠ w_COMPLETE := Fld.ne F7 F3 (by simp)
    have n4 : w_SUSPENDED ≠ w_FORCED_COMPLETE := Fld.ne F7 F4 (by simp)
    have n9 : w_SUSPENDED ≠ w_DELETED := Fld.ne F7 F9 (by simp)
    have n5 : w_SUSPENDED ≠ w_FAILED := Fld.ne F7 F5 (by simp)
    rw [e]; simp +decide [own_f, own_q, n3, n4, n9, n5]
  · have e : own_pick (8 : Int32) w_ENABLED w_FIRED w_EXECUTING w_COMPLETE w_FORCED_COMPLETE w_FAILED w_IS_PARENT w_SUSPENDED w_DEADLOCKED w_DELETED w_WITHDRAWN w_CANCELLED_BY_CASE w_DISCARDED = w_DEADLOCKED := rfl
    have n3 : w_DEADLOCKED ≠ w_COMPLETE := Fld.ne F8 F3 (by simp)
    have n4 : w_DEADLOCKED ≠ w_FORCED_COMPLETE := Fld.ne F8 F4 (by simp)
    have n9 : w_DEADLOCKED ≠ w_DELETED := Fld.ne F8 F9 (by simp)
    have n5 : w_DEADLOCKED ≠ w_FAILED := Fld.ne F8 F5 (by simp)
    rw [e]; simp +decide [own_f, own_q, n3, n4, n9, n5]
  · have e : own_pick (9 : Int32) w_ENABLED w_FIRED w_EXECUTING w_COMPLETE w_FORCED_COMPLETE w_FAILED w_IS_PARENT w_SUSPENDED w_DEADLOCKED w_DELETED w_WITHDRAWN w_CANCELLED_BY_CASE w_DISCARDED = w_DELETED := rfl
    have n3 : w_DELETED ≠ w_COMPLETE := Fld.ne F9 F3 (by simp)
    have n4 : w_DELETED ≠ w_FORCED_COMPLETE := Fld.ne F9 F4 (by simp)
    have n5 : w_DELETED ≠ w_FAILED := Fld.ne F9 F5 (by simp)
    rw [e]; simp +decide [own_f, own_q, n3, n4, n5]
  · have e : own_pick (10 : Int32) w_ENABLED w_FIRED w_EXECUTING w_COMPLETE w_FORCED_COMPLETE w_FAILED w_IS_PARENT w_SUSPENDED w_DEADLOCKED w_DELETED w_WITHDRAWN w_CANCELLED_BY_CASE w_DISCARDED = w_WITHDRAWN := rfl
    have n3 : w_WITHDRAWN ≠ w_COMPLETE := Fld.ne F10 F3 (by simp)
    have n4 : w_WITHDRAWN ≠ w_FORCED_COMPLETE := Fld.ne F10 F4 (by simp)
    have n9 : w_WITHDRAWN ≠ w_DELETED := Fld.ne F10 F9 (by simp)
    have n5 : w_WITHDRAWN ≠ w_FAILED := Fld.ne F10 F5 (by simp)
    rw [e]; simp +decide [own_f, own_q, n3, n4, n9, n5]
  · have e : own_pick (11 : Int32) w_ENABLED w_FIRED w_EXECUTING w_COMPLETE w_FORCED_COMPLETE w_FAILED w_IS_PARENT w_SUSPENDED w_DEADLOCKED w_DELETED w_WITHDRAWN w_CANCELLED_BY_CASE w_DISCARDED = w_CANCELLED_BY_CASE := rfl
    have n3 : w_CANCELLED_BY_CASE ≠ w_COMPLETE := Fld.ne F11 F3 (by simp)
    have n4 : w_CANCELLED_BY_CASE ≠ w_FORCED_COMPLETE := Fld.ne F11 F4 (by simp)
    have n9 : w_CANCELLED_BY_CASE ≠ w_DELETED := Fld.ne F11 F9 (by simp)
    have n5 : w_CANCELLED_BY_CASE ≠ w_FAILED := Fld.ne F11 F5 (by simp)
    rw [e]; simp +decide [own_f, own_q, n3, n4, n9, n5]
  · have e : own_pick (12 : Int32) w_ENABLED w_FIRED w_EXECUTING w_COMPLETE w_FORCED_COMPLETE w_FAILED w_IS_PARENT w_SUSPENDED w_DEADLOCKED w_DELETED w_WITHDRAWN w_CANCELLED_BY_CASE w_DISCARDED = w_DISCARDED := rfl
    have n3 : w_DISCARDED ≠ w_COMPLETE := Fld.ne F12 F3 (by simp)
    have n4 : w_DISCARDED ≠ w_FORCED_COMPLETE := Fld.ne F12 F4 (by simp)
    have n9 : w_DISCARDED ≠ w_DELETED := Fld.ne F12 F9 (by simp)
    have n5 : w_DISCARDED ≠ w_FAILED := Fld.ne F12 F5 (by simp)
    rw [e]; simp +decide [own_f, own_q, n3, n4, n9, n5]

theorem kw0 {Z : State} {a0 : Array Value} (hw : ∀ d ∈ tables_1, d.before a0 Z = true) : (Jvm.Cond.constant "com/example/able_hands/ablehands/WorkItemStatusIsFinishedPinLaw" (7 : Nat) (2147483647 : Int32)).before a0 Z = true := hw _ (List.mem_of_getElem? (i := 0) rfl)
theorem kw1 {Z : State} {a0 : Array Value} (hw : ∀ d ∈ tables_1, d.before a0 Z = true) : (Jvm.Cond.methodLink "com/example/able_hands/ablehands/WorkItemStatusIsFinishedPinLaw" (8 : Nat) ({ cls := "com/example/able_hands/ablehands/WorkItemStatusIsFinishedPinLaw", name := "pick", desc := "(I)Lcom/example/able_hands/ablehands/WorkItemStatus;" } : Jvm.MethodName)).before a0 Z = true := hw _ (List.mem_of_getElem? (i := 1) rfl)
theorem kw2 {Z : State} {a0 : Array Value} (hw : ∀ d ∈ tables_1, d.before a0 Z = true) : (Jvm.Cond.static ({ cls := "com/example/able_hands/ablehands/WorkItemStatusIsFinishedPinLaw", name := "pick", desc := "(I)Lcom/example/able_hands/ablehands/WorkItemStatus;" } : Jvm.MethodName)).before a0 Z = true := hw _ (List.mem_of_getElem? (i := 2) rfl)
theorem kw3 {Z : State} {a0 : Array Value} (hw : ∀ d ∈ tables_1, d.before a0 Z = true) : (Jvm.Cond.initialized "com/example/able_hands/ablehands/WorkItemStatusIsFinishedPinLaw").before a0 Z = true := hw _ (List.mem_of_getElem? (i := 3) rfl)
theorem kw4 {Z : State} {a0 : Array Value} (hw : ∀ d ∈ tables_1, d.before a0 Z = true) : (Jvm.Cond.code ({ cls := "com/example/able_hands/ablehands/WorkItemStatusIsFinishedPinLaw", name := "pick", desc := "(I)Lcom/example/able_hands/ablehands/WorkItemStatus;" } : Jvm.MethodName) method_3_code (1 : Nat) (Option.some (Jvm.ClassFile.FieldType.object "com/example/able_hands/ablehands/WorkItemStatus"))).before a0 Z = true := hw _ (List.mem_of_getElem? (i := 4) rfl)
theorem kw5 {Z : State} {a0 : Array Value} (hw : ∀ d ∈ tables_1, d.before a0 Z = true) : (Jvm.Cond.fieldLink "com/example/able_hands/ablehands/WorkItemStatusIsFinishedPinLaw" (20 : Nat) "com/example/able_hands/ablehands/WorkItemStatus" "ENABLED" "Lcom/example/able_hands/ablehands/WorkItemStatus;").before a0 Z = true := hw _ (List.mem_of_getElem? (i := 5) rfl)
theorem kw6 {Z : State} {a0 : Array Value} (hw : ∀ d ∈ tables_1, d.before a0 Z = true) : (Jvm.Cond.initialized "com/example/able_hands/ablehands/WorkItemStatus").before a0 Z = true := hw _ (List.mem_of_getElem? (i := 6) rfl)
theorem kw7 {Z : State} {a0 : Array Value} (hw : ∀ d ∈ tables_1, d.before a0 Z = true) : (Jvm.Cond.laysStatic "com/example/able_hands/ablehands/WorkItemStatus" "ENABLED" "Lcom/example/able_hands/ablehands/WorkItemStatus;").before a0 Z = true := hw _ (List.mem_of_getElem? (i := 7) rfl)
theorem kw8 {Z : State} {a0 : Array Value} (hw : ∀ d ∈ tables_1, d.before a0 Z = true) : (Jvm.Cond.methodLink "com/example/able_hands/ablehands/WorkItemStatusIsFinishedPinLaw" (14 : Nat) ({ cls := "com/example/able_hands/ablehands/WorkItemStatus", name := "isFinished", desc := "()Z" } : Jvm.MethodName)).before a0 Z = true := hw _ (List.mem_of_getElem? (i := 8) rfl)
theorem kw9 {Z : State} {a0 : Array Value} (hw : ∀ d ∈ tables_1, d.before a0 Z = true) : (Jvm.Cond.declares ({ cls := "com/example/able_hands/ablehands/WorkItemStatus", name := "isFinished", desc := "()Z" } : Jvm.MethodName)).before a0 Z = true := hw _ (List.mem_of_getElem? (i := 9) rfl)
theorem kw10 {Z : State} {a0 : Array Value} (hw : ∀ d ∈ tables_1, d.before a0 Z = true) : (Jvm.Cond.instanceMethod ({ cls := "com/example/able_hands/ablehands/WorkItemStatus", name := "isFinished", desc := "()Z" } : Jvm.MethodName)).before a0 Z = true := hw _ (List.mem_of_getElem? (i := 10) rfl)
theorem kw11 {Z : State} {a0 : Array Value} (hw : ∀ d ∈ tables_1, d.before a0 Z = true) : (Jvm.Cond.selects "com/example/able_hands/ablehands/WorkItemStatus" ({ cls := "com/example/able_hands/ablehands/WorkItemStatus", name := "isFinished", desc := "()Z" } : Jvm.MethodName) ({ cls := "com/example/able_hands/ablehands/WorkItemStatus", name := "isFinished", desc := "()Z" } : Jvm.MethodName)).before a0 Z = true := hw _ (List.mem_of_getElem? (i := 11) rfl)
theorem kw12 {Z : State} {a0 : Array Value} (hw : ∀ d ∈ tables_1, d.before a0 Z = true) : (Jvm.Cond.code ({ cls := "com/example/able_hands/ablehands/WorkItemStatus", name := "isFinished", desc := "()Z" } : Jvm.MethodName) prog_85_method_11_code (1 : Nat) (Option.some Jvm.ClassFile.FieldType.boolean)).before a0 Z = true := hw _ (List.mem_of_getElem? (i := 12) rfl)
theorem kw13 {Z : State} {a0 : Array Value} (hw : ∀ d ∈ tables_1, d.before a0 Z = true) : (Jvm.Cond.methodLink "com/example/able_hands/ablehands/WorkItemStatus" (92 : Nat) ({ cls := "com/example/able_hands/ablehands/WorkItemStatus", name := "isCompleted", desc := "()Z" } : Jvm.MethodName)).before a0 Z = true := hw _ (List.mem_of_getElem? (i := 13) rfl)
theorem kw14 {Z : State} {a0 : Array Value} (hw : ∀ d ∈ tables_1, d.before a0 Z = true) : (Jvm.Cond.declares ({ cls := "com/example/able_hands/ablehands/WorkItemStatus", name := "isCompleted", desc := "()Z" } : Jvm.MethodName)).before a0 Z = true := hw _ (List.mem_of_getElem? (i := 14) rfl)
theorem kw15 {Z : State} {a0 : Array Value} (hw : ∀ d ∈ tables_1, d.before a0 Z = true) : (Jvm.Cond.instanceMethod ({ cls := "com/example/able_hands/ablehands/WorkItemStatus", name := "isCompleted", desc := "()Z" } : Jvm.MethodName)).before a0 Z = true := hw _ (List.mem_of_getElem? (i := 15) rfl)
theorem kw16 {Z : State} {a0 : Array Value} (hw : ∀ d ∈ tables_1, d.before a0 Z = true) : (Jvm.Cond.selects "com/example/able_hands/ablehands/WorkItemStatus" ({ cls := "com/example/able_hands/ablehands/WorkItemStatus", name := "isCompleted", desc := "()Z" } : Jvm.MethodName) ({ cls := "com/example/able_hands/ablehands/WorkItemStatus", name := "isCompleted", desc := "()Z" } : Jvm.MethodName)).before a0 Z = true := hw _ (List.mem_of_getElem? (i := 16) rfl)
theorem kw17 {Z : State} {a0 : Array Value} (hw : ∀ d ∈ tables_1, d.before a0 Z = true) : (Jvm.Cond.code ({ cls := "com/example/able_hands/ablehands/WorkItemStatus", name := "isCompleted", desc := "()Z" } : Jvm.MethodName) prog_85_method_10_code (1 : Nat) (Option.some Jvm.ClassFile.FieldType.boolean)).before a0 Z = true := hw _ (List.mem_of_getElem? (i := 17) rfl)
theorem kw18 {Z : State} {a0 : Array Value} (hw : ∀ d ∈ tables_1, d.before a0 Z = true) : (Jvm.Cond.fieldLink "com/example/able_hands/ablehands/WorkItemStatus" (13 : Nat) "com/example/able_hands/ablehands/WorkItemStatus" "COMPLETE" "Lcom/example/able_hands/ablehands/WorkItemStatus;").before a0 Z = true := hw _ (List.mem_of_getElem? (i := 18) rfl)
theorem kw19 {Z : State} {a0 : Array Value} (hw : ∀ d ∈ tables_1, d.before a0 Z = true) : (Jvm.Cond.laysStatic "com/example/able_hands/ablehands/WorkItemStatus" "COMPLETE" "Lcom/example/able_hands/ablehands/WorkItemStatus;").before a0 Z = true := hw _ (List.mem_of_getElem? (i := 19) rfl)
theorem kw20 {Z : State} {a0 : Array Value} (hw : ∀ d ∈ tables_1, d.before a0 Z = true) : (Jvm.Cond.fieldLink "com/example/able_hands/ablehands/WorkItemStatus" (16 : Nat) "com/example/able_hands/ablehands/WorkItemStatus" "FORCED_COMPLETE" "Lcom/example/able_hands/ablehands/WorkItemStatus;").before a0 Z = true := hw _ (List.mem_of_getElem? (i := 20) rfl)
theorem kw21 {Z : State} {a0 : Array Value} (hw : ∀ d ∈ tables_1, d.before a0 Z = true) : (Jvm.Cond.laysStatic "com/example/able_hands/ablehands/WorkItemStatus" "FORCED_COMPLETE" "Lcom/example/able_hands/ablehands/WorkItemStatus;").before a0 Z = true := hw _ (List.mem_of_getElem? (i := 21) rfl)
theorem kw22 {Z : State} {a0 : Array Value} (hw : ∀ d ∈ tables_1, d.before a0 Z = true) : (Jvm.Cond.fieldLink "com/example/able_hands/ablehands/WorkItemStatus" (31 : Nat) "com/example/able_hands/ablehands/WorkItemStatus" "DELETED" "Lcom/example/able_hands/ablehands/WorkItemStatus;").before a0 Z = true := hw _ (List.mem_of_getElem? (i := 22) rfl)
theorem kw23 {Z : State} {a0 : Array Value} (hw : ∀ d ∈ tables_1, d.before a0 Z = true) : (Jvm.Cond.laysStatic "com/example/able_hands/ablehands/WorkItemStatus" "DELETED" "Lcom/example/able_hands/ablehands/WorkItemStatus;").before a0 Z = true := hw _ (List.mem_of_getElem? (i := 23) rfl)
theorem kw24 {Z : State} {a0 : Array Value} (hw : ∀ d ∈ tables_1, d.before a0 Z = true) : (Jvm.Cond.fieldLink "com/example/able_hands/ablehands/WorkItemStatus" (19 : Nat) "com/example/able_hands/ablehands/WorkItemStatus" "FAILED" "Lcom/example/able_hands/ablehands/WorkItemStatus;").before a0 Z = true := hw _ (List.mem_of_getElem? (i := 24) rfl)
theorem kw25 {Z : State} {a0 : Array Value} (hw : ∀ d ∈ tables_1, d.before a0 Z = true) : (Jvm.Cond.laysStatic "com/example/able_hands/ablehands/WorkItemStatus" "FAILED" "Lcom/example/able_hands/ablehands/WorkItemStatus;").before a0 Z = true := hw _ (List.mem_of_getElem? (i := 25) rfl)
theorem kw26 {Z : State} {a0 : Array Value} (hw : ∀ d ∈ tables_1, d.before a0 Z = true) : (Jvm.Cond.fieldLink "com/example/able_hands/ablehands/WorkItemStatusIsFinishedPinLaw" (30 : Nat) "com/example/able_hands/ablehands/WorkItemStatus" "COMPLETE" "Lcom/example/able_hands/ablehands/WorkItemStatus;").before a0 Z = true := hw _ (List.mem_of_getElem? (i := 26) rfl)
theorem kw27 {Z : State} {a0 : Array Value} (hw : ∀ d ∈ tables_1, d.before a0 Z = true) : (Jvm.Cond.fieldLink "com/example/able_hands/ablehands/WorkItemStatusIsFinishedPinLaw" (39 : Nat) "com/example/able_hands/ablehands/WorkItemStatus" "IS_PARENT" "Lcom/example/able_hands/ablehands/WorkItemStatus;").before a0 Z = true := hw _ (List.mem_of_getElem? (i := 27) rfl)
theorem kw28 {Z : State} {a0 : Array Value} (hw : ∀ d ∈ tables_1, d.before a0 Z = true) : (Jvm.Cond.laysStatic "com/example/able_hands/ablehands/WorkItemStatus" "IS_PARENT" "Lcom/example/able_hands/ablehands/WorkItemStatus;").before a0 Z = true := hw _ (List.mem_of_getElem? (i := 28) rfl)
theorem kw29 {Z : State} {a0 : Array Value} (hw : ∀ d ∈ tables_1, d.before a0 Z = true) : (Jvm.Cond.fieldLink "com/example/able_hands/ablehands/WorkItemStatusIsFinishedPinLaw" (36 : Nat) "com/example/able_hands/ablehands/WorkItemStatus" "FAILED" "Lcom/example/able_hands/ablehands/WorkItemStatus;").before a0 Z = true := hw _ (List.mem_of_getElem? (i := 29) rfl)
theorem kw30 {Z : State} {a0 : Array Value} (hw : ∀ d ∈ tables_1, d.before a0 Z = true) : (Jvm.Cond.fieldLink "com/example/able_hands/ablehands/WorkItemStatusIsFinishedPinLaw" (42 : Nat) "com/example/able_hands/ablehands/WorkItemStatus" "SUSPENDED" "Lcom/example/able_hands/ablehands/WorkItemStatus;").before a0 Z = true := hw _ (List.mem_of_getElem? (i := 30) rfl)
theorem kw31 {Z : State} {a0 : Array Value} (hw : ∀ d ∈ tables_1, d.before a0 Z = true) : (Jvm.Cond.laysStatic "com/example/able_hands/ablehands/WorkItemStatus" "SUSPENDED" "Lcom/example/able_hands/ablehands/WorkItemStatus;").before a0 Z = true := hw _ (List.mem_of_getElem? (i := 31) rfl)
theorem kw32 {Z : State} {a0 : Array Value} (hw : ∀ d ∈ tables_1, d.before a0 Z = true) : (Jvm.Cond.fieldLink "com/example/able_hands/ablehands/WorkItemStatusIsFinishedPinLaw" (48 : Nat) "com/example/able_hands/ablehands/WorkItemStatus" "DELETED" "Lcom/example/able_hands/ablehands/WorkItemStatus;").before a0 Z = true := hw _ (List.mem_of_getElem? (i := 32) rfl)
theorem kw33 {Z : State} {a0 : Array Value} (hw : ∀ d ∈ tables_1, d.before a0 Z = true) : (Jvm.Cond.fieldLink "com/example/able_hands/ablehands/WorkItemStatusIsFinishedPinLaw" (27 : Nat) "com/example/able_hands/ablehands/WorkItemStatus" "EXECUTING" "Lcom/example/able_hands/ablehands/WorkItemStatus;").before a0 Z = true := hw _ (List.mem_of_getElem? (i := 33) rfl)
theorem kw34 {Z : State} {a0 : Array Value} (hw : ∀ d ∈ tables_1, d.before a0 Z = true) : (Jvm.Cond.laysStatic "com/example/able_hands/ablehands/WorkItemStatus" "EXECUTING" "Lcom/example/able_hands/ablehands/WorkItemStatus;").before a0 Z = true := hw _ (List.mem_of_getElem? (i := 34) rfl)
theorem kw35 {Z : State} {a0 : Array Value} (hw : ∀ d ∈ tables_1, d.before a0 Z = true) : (Jvm.Cond.fieldLink "com/example/able_hands/ablehands/WorkItemStatusIsFinishedPinLaw" (54 : Nat) "com/example/able_hands/ablehands/WorkItemStatus" "CANCELLED_BY_CASE" "Lcom/example/able_hands/ablehands/WorkItemStatus;").before a0 Z = true := hw _ (List.mem_of_getElem? (i := 35) rfl)
theorem kw36 {Z : State} {a0 : Array Value} (hw : ∀ d ∈ tables_1, d.before a0 Z = true) : (Jvm.Cond.laysStatic "com/example/able_hands/ablehands/WorkItemStatus" "CANCELLED_BY_CASE" "Lcom/example/able_hands/ablehands/WorkItemStatus;").before a0 Z = true := hw _ (List.mem_of_getElem? (i := 36) rfl)
theorem kw37 {Z : State} {a0 : Array Value} (hw : ∀ d ∈ tables_1, d.before a0 Z = true) : (Jvm.Cond.fieldLink "com/example/able_hands/ablehands/WorkItemStatusIsFinishedPinLaw" (24 : Nat) "com/example/able_hands/ablehands/WorkItemStatus" "FIRED" "Lcom/example/able_hands/ablehands/WorkItemStatus;").before a0 Z = true := hw _ (List.mem_of_getElem? (i := 37) rfl)
theorem kw38 {Z : State} {a0 : Array Value} (hw : ∀ d ∈ tables_1, d.before a0 Z = true) : (Jvm.Cond.laysStatic "com/example/able_hands/ablehands/WorkItemStatus" "FIRED" "Lcom/example/able_hands/ablehands/WorkItemStatus;").before a0 Z = true := hw _ (List.mem_of_getElem? (i := 38) rfl)
theorem kw39 {Z : State} {a0 : Array Value} (hw : ∀ d ∈ tables_1, d.before a0 Z = true) : (Jvm.Cond.fieldLink "com/example/able_hands/ablehands/WorkItemStatusIsFinishedPinLaw" (45 : Nat) "com/example/able_hands/ablehands/WorkItemStatus" "DEADLOCKED" "Lcom/example/able_hands/ablehands/WorkItemStatus;").before a0 Z = true := hw _ (List.mem_of_getElem? (i := 39) rfl)
theorem kw40 {Z : State} {a0 : Array Value} (hw : ∀ d ∈ tables_1, d.before a0 Z = true) : (Jvm.Cond.laysStatic "com/example/able_hands/ablehands/WorkItemStatus" "DEADLOCKED" "Lcom/example/able_hands/ablehands/WorkItemStatus;").before a0 Z = true := hw _ (List.mem_of_getElem? (i := 40) rfl)
theorem kw41 {Z : State} {a0 : Array Value} (hw : ∀ d ∈ tables_1, d.before a0 Z = true) : (Jvm.Cond.fieldLink "com/example/able_hands/ablehands/WorkItemStatusIsFinishedPinLaw" (51 : Nat) "com/example/able_hands/ablehands/WorkItemStatus" "WITHDRAWN" "Lcom/example/able_hands/ablehands/WorkItemStatus;").before a0 Z = true := hw _ (List.mem_of_getElem? (i := 41) rfl)
theorem kw42 {Z : State} {a0 : Array Value} (hw : ∀ d ∈ tables_1, d.before a0 Z = true) : (Jvm.Cond.laysStatic "com/example/able_hands/ablehands/WorkItemStatus" "WITHDRAWN" "Lcom/example/able_hands/ablehands/WorkItemStatus;").before a0 Z = true := hw _ (List.mem_of_getElem? (i := 42) rfl)
theorem kw43 {Z : State} {a0 : Array Value} (hw : ∀ d ∈ tables_1, d.before a0 Z = true) : (Jvm.Cond.fieldLink "com/example/able_hands/ablehands/WorkItemStatusIsFinishedPinLaw" (57 : Nat) "com/example/able_hands/ablehands/WorkItemStatus" "DISCARDED" "Lcom/example/able_hands/ablehands/WorkItemStatus;").before a0 Z = true := hw _ (List.mem_of_getElem? (i := 43) rfl)
theorem kw44 {Z : State} {a0 : Array Value} (hw : ∀ d ∈ tables_1, d.before a0 Z = true) : (Jvm.Cond.laysStatic "com/example/able_hands/ablehands/WorkItemStatus" "DISCARDED" "Lcom/example/able_hands/ablehands/WorkItemStatus;").before a0 Z = true := hw _ (List.mem_of_getElem? (i := 44) rfl)
theorem kw45 {Z : State} {a0 : Array Value} (hw : ∀ d ∈ tables_1, d.before a0 Z = true) : (Jvm.Cond.fieldLink "com/example/able_hands/ablehands/WorkItemStatusIsFinishedPinLaw" (33 : Nat) "com/example/able_hands/ablehands/WorkItemStatus" "FORCED_COMPLETE" "Lcom/example/able_hands/ablehands/WorkItemStatus;").before a0 Z = true := hw _ (List.mem_of_getElem? (i := 45) rfl)
theorem pn_0 : plainName "com/example/able_hands/ablehands/WorkItemStatusIsFinishedPinLaw" = true := by first | (simp [plainName, overriddenIn]; done) | decide +kernel
theorem pn_1 : plainName "com/example/able_hands/ablehands/WorkItemStatus" = true := by first | (simp [plainName, overriddenIn]; done) | decide +kernel
theorem pd_0 : parseMethodDescriptor "()Z" = some ⟨[], some .boolean⟩ := by decide +kernel
theorem pd_1 : parseMethodDescriptor "(I)Lcom/example/able_hands/ablehands/WorkItemStatus;" = some ⟨[.int], some (.object "com/example/able_hands/ablehands/WorkItemStatus")⟩ := by decide +kernel
theorem d1_0 : decode method_3_code 0 = .ok (.iload_n 0, 1) := by decide +kernel
theorem d1_1 : decode method_3_code 1 = .ok (.ifCond .ne 7, 3) := by decide +kernel
theorem d1_4 : decode method_3_code 4 = .ok (.getstatic 20, 3) := by decide +kernel
theorem d1_7 : decode method_3_code 7 = .ok (.areturn, 1) := by decide +kernel
theorem d1_8 : decode method_3_code 8 = .ok (.iload_n 0, 1) := by decide +kernel
theorem d1_9 : decode method_3_code 9 = .ok (.iconst 1, 1) := by decide +kernel
theorem d1_10 : decode method_3_code 10 = .ok (.if_icmp .ne 7, 3) := by decide +kernel
theorem d1_13 : decode method_3_code 13 = .ok (.getstatic 24, 3) := by decide +kernel
theorem d1_16 : decode method_3_code 16 = .ok (.areturn, 1) := by decide +kernel
theorem d1_17 : decode method_3_code 17 = .ok (.iload_n 0, 1) := by decide +kernel
theorem d1_18 : decode method_3_code 18 = .ok (.iconst 2, 1) := by decide +kernel
theorem d1_19 : decode method_3_code 19 = .ok (.if_icmp .ne 7, 3) := by decide +kernel
theorem d1_22 : decode method_3_code 22 = .ok (.getstatic 27, 3) := by decide +kernel
theorem d1_25 : decode method_3_code 25 = .ok (.areturn, 1) := by decide +kernel
theorem d1_26 : decode method_3_code 26 = .ok (.iload_n 0, 1) := by decide +kernel
theorem d1_27 : decode method_3_code 27 = .ok (.iconst 3, 1) := by decide +kernel
theorem d1_28 : decode method_3_code 28 = .ok (.if_icmp .ne 7, 3) := by decide +kernel
theorem d1_31 : decode method_3_code 31 = .ok (.getstatic 30, 3) := by decide +kernel
theorem d1_34 : decode method_3_code 34 = .ok (.areturn, 1) := by decide +kernel
theorem d1_35 : decode method_3_code 35 = .ok (.iload_n 0, 1) := by decide +kernel
theorem d1_36 : decode method_3_code 36 = .ok (.iconst 4, 1) := by decide +kernel
theorem d1_37 : decode method_3_code 37 = .ok (.if_icmp .ne 7, 3) := by decide +kernel
theorem d1_40 : decode method_3_code 40 = .ok (.getstatic 33, 3) := by decide +kernel
theorem d1_43 : decode method_3_code 43 = .ok (.areturn, 1) := by decide +kernel
theorem d1_44 : decode method_3_code 44 = .ok (.iload_n 0, 1) := by decide +kernel
theorem d1_45 : decode method_3_code 45 = .ok (.iconst 5, 1) := by decide +kernel
theorem d1_46 : decode method_3_code 46 = .ok (.if_icmp .ne 7, 3) := by decide +kernel
theorem d1_49 : decode method_3_code 49 = .ok (.getstatic 36, 3) := by decide +kernel
theorem d1_52 : decode method_3_code 52 = .ok (.areturn, 1) := by decide +kernel
theorem d1_53 : decode method_3_code 53 = .ok (.iload_n 0, 1) := by decide +kernel
theorem d1_54 : decode method_3_code 54 = .ok (.bipush 6, 2) := by decide +kernel
theorem d1_56 : decode method_3_code 56 = .ok (.if_icmp .ne 7, 3) := by decide +kernel
theorem d1_59 : decode method_3_code 59 = .ok (.getstatic 39, 3) := by decide +kernel
theorem d1_62 : decode method_3_code 62 = .ok (.areturn, 1) := by decide +kernel
theorem d1_63 : decode method_3_code 63 = .ok (.iload_n 0, 1) := by decide +kernel
theorem d1_64 : decode method_3_code 64 = .ok (.bipush 7, 2) := by decide +kernel
theorem d1_66 : decode method_3_code 66 = .ok (.if_icmp .ne 7, 3) := by decide +kernel
theorem d1_69 : decode method_3_code 69 = .ok (.getstatic 42, 3) := by decide +kernel
theorem d1_72 : decode method_3_code 72 = .ok (.areturn, 1) := by decide +kernel
theorem d1_73 : decode method_3_code 73 = .ok (.iload_n 0, 1) := by decide +kernel
theorem d1_74 : decode method_3_code 74 = .ok (.bipush 8, 2) := by decide +kernel
theorem d1_76 : decode method_3_code 76 = .ok (.if_icmp .ne 7, 3) := by decide +kernel
theorem d1_79 : decode method_3_code 79 = .ok (.getstatic 45, 3) := by decide +kernel
theorem d1_82 : decode method_3_code 82 = .ok (.areturn, 1) := by decide +kernel
theorem d1_83 : decode method_3_code 83 = .ok (.iload_n 0, 1) := by decide +kernel
theorem d1_84 : decode method_3_code 84 = .ok (.bipush 9, 2) := by decide +kernel
theorem d1_86 : decode method_3_code 86 = .ok (.if_icmp .ne 7, 3) := by decide +kernel
theorem d1_89 : decode method_3_code 89 = .ok (.getstatic 48, 3) := by decide +kernel
theorem d1_92 : decode method_3_code 92 = .ok (.areturn, 1) := by decide +kernel
theorem d1_93 : decode method_3_code 93 = .ok (.iload_n 0, 1) := by decide +kernel
theorem d1_94 : decode method_3_code 94 = .ok (.bipush 10, 2) := by decide +kernel
theorem d1_96 : decode method_3_code 96 = .ok (.if_icmp .ne 7, 3) := by decide +kernel
theorem d1_99 : decode method_3_code 99 = .ok (.getstatic 51, 3) := by decide +kernel
theorem d1_102 : decode method_3_code 102 = .ok (.areturn, 1) := by decide +kernel
theorem d1_103 : decode method_3_code 103 = .ok (.iload_n 0, 1) := by decide +kernel
theorem d1_104 : decode method_3_code 104 = .ok (.bipush 11, 2) := by decide +kernel
theorem d1_106 : decode method_3_code 106 = .ok (.if_icmp .ne 7, 3) := by decide +kernel
theorem d1_109 : decode method_3_code 109 = .ok (.getstatic 54, 3) := by decide +kernel
theorem d1_112 : decode method_3_code 112 = .ok (.areturn, 1) := by decide +kernel
theorem d1_113 : decode method_3_code 113 = .ok (.getstatic 57, 3) := by decide +kernel
theorem d1_116 : decode method_3_code 116 = .ok (.areturn, 1) := by decide +kernel
theorem d2_0 : decode prog_85_method_11_code 0 = .ok (.aload_n 0, 1) := by decide +kernel
theorem d2_1 : decode prog_85_method_11_code 1 = .ok (.invokevirtual 92, 3) := by decide +kernel
theorem d2_4 : decode prog_85_method_11_code 4 = .ok (.ifCond .ne 17, 3) := by decide +kernel
theorem d2_7 : decode prog_85_method_11_code 7 = .ok (.aload_n 0, 1) := by decide +kernel
theorem d2_8 : decode prog_85_method_11_code 8 = .ok (.getstatic 31, 3) := by decide +kernel
theorem d2_11 : decode prog_85_method_11_code 11 = .ok (.if_acmp .eq 10, 3) := by decide +kernel
theorem d2_14 : decode prog_85_method_11_code 14 = .ok (.aload_n 0, 1) := by decide +kernel
theorem d2_15 : decode prog_85_method_11_code 15 = .ok (.getstatic 19, 3) := by decide +kernel
theorem d2_18 : decode prog_85_method_11_code 18 = .ok (.if_acmp .ne 7, 3) := by decide +kernel
theorem d2_21 : decode prog_85_method_11_code 21 = .ok (.iconst 1, 1) := by decide +kernel
theorem d2_22 : decode prog_85_method_11_code 22 = .ok (.goto 4, 3) := by decide +kernel
theorem d2_25 : decode prog_85_method_11_code 25 = .ok (.iconst 0, 1) := by decide +kernel
theorem d2_26 : decode prog_85_method_11_code 26 = .ok (.ireturn, 1) := by decide +kernel
theorem d3_0 : decode prog_85_method_10_code 0 = .ok (.aload_n 0, 1) := by decide +kernel
theorem d3_1 : decode prog_85_method_10_code 1 = .ok (.getstatic 13, 3) := by decide +kernel
theorem d3_4 : decode prog_85_method_10_code 4 = .ok (.if_acmp .eq 10, 3) := by decide +kernel
theorem d3_7 : decode prog_85_method_10_code 7 = .ok (.aload_n 0, 1) := by decide +kernel
theorem d3_8 : decode prog_85_method_10_code 8 = .ok (.getstatic 16, 3) := by decide +kernel
theorem d3_11 : decode prog_85_method_10_code 11 = .ok (.if_acmp .ne 7, 3) := by decide +kernel
theorem d3_14 : decode prog_85_method_10_code 14 = .ok (.iconst 1, 1) := by decide +kernel
theorem d3_15 : decode prog_85_method_10_code 15 = .ok (.goto 4, 3) := by decide +kernel
theorem d3_18 : decode prog_85_method_10_code 18 = .ok (.iconst 0, 1) := by decide +kernel
theorem d3_19 : decode prog_85_method_10_code 19 = .ok (.ireturn, 1) := by decide +kernel
theorem ef_rm1 (m : MethodId) (x0 : Int32) : entryFrame m #[(.int x0)] 1 = mkF m 0 #[.val (.int x0)] [] := by first | (simp [entryFrame, mkF, argsToLocals, Value.category]; done) | rfl
def Q_rm1 (Z : State) (p1 : Int32) (w_ENABLED : Addr) (w_FIRED : Addr) (w_EXECUTING : Addr) (w_COMPLETE : Addr) (w_FORCED_COMPLETE : Addr) (w_FAILED : Addr) (w_IS_PARENT : Addr) (w_SUSPENDED : Addr) (w_DEADLOCKED : Addr) (w_DELETED : Addr) (w_WITHDRAWN : Addr) (w_CANCELLED_BY_CASE : Addr) (w_DISCARDED : Addr) (h0 : Heap) (n0 : Nat) (v : Option Value) (h : Heap) (L : List Loc) : Prop := v = some (.ref (own_pick p1 w_ENABLED w_FIRED w_EXECUTING w_COMPLETE w_FORCED_COMPLETE w_FAILED w_IS_PARENT w_SUSPENDED w_DEADLOCKED w_DELETED w_WITHDRAWN w_CANCELLED_BY_CASE w_DISCARDED)) ∧ Fr n0 L ∧ h = h0
set_option maxRecDepth 65536 in
set_option maxHeartbeats 40000000 in
theorem rm1 (l : Launch) (Z : State) (a0 : Array Value) (hw : ∀ d ∈ tables_1, d.before a0 Z = true) (ws : List Jvm.Cond) (p1 : Int32) (w_ENABLED : Addr) (w_FIRED : Addr) (w_EXECUTING : Addr) (w_COMPLETE : Addr) (w_FORCED_COMPLETE : Addr) (w_FAILED : Addr) (w_IS_PARENT : Addr) (w_SUSPENDED : Addr) (w_DEADLOCKED : Addr) (w_DELETED : Addr) (w_WITHDRAWN : Addr) (w_CANCELLED_BY_CASE : Addr) (w_DISCARDED : Addr) (h0 : Heap) (n0 : Nat) (Z0 : n0 ≤ h0.size) (P0 : Old Z n0 h0) (P1 : Sta Z Z.heap "com/example/able_hands/ablehands/WorkItemStatus" "ENABLED" "Lcom/example/able_hands/ablehands/WorkItemStatus;" (.ref w_ENABLED)) (P2 : Sta Z Z.heap "com/example/able_hands/ablehands/WorkItemStatus" "FIRED" "Lcom/example/able_hands/ablehands/WorkItemStatus;" (.ref w_FIRED)) (P3 : Sta Z Z.heap "com/example/able_hands/ablehands/WorkItemStatus" "EXECUTING" "Lcom/example/able_hands/ablehands/WorkItemStatus;" (.ref w_EXECUTING)) (P4 : Sta Z Z.heap "com/example/able_hands/ablehands/WorkItemStatus" "COMPLETE" "Lcom/example/able_hands/ablehands/WorkItemStatus;" (.ref w_COMPLETE)) (P5 : Sta Z Z.heap "com/example/able_hands/ablehands/WorkItemStatus" "FORCED_COMPLETE" "Lcom/example/able_hands/ablehands/WorkItemStatus;" (.ref w_FORCED_COMPLETE)) (P6 : Sta Z Z.heap "com/example/able_hands/ablehands/WorkItemStatus" "FAILED" "Lcom/example/able_hands/ablehands/WorkItemStatus;" (.ref w_FAILED)) (P7 : Sta Z Z.heap "com/example/able_hands/ablehands/WorkItemStatus" "IS_PARENT" "Lcom/example/able_hands/ablehands/WorkItemStatus;" (.ref w_IS_PARENT)) (P8 : Sta Z Z.heap "com/example/able_hands/ablehands/WorkItemStatus" "SUSPENDED" "Lcom/example/able_hands/ablehands/WorkItemStatus;" (.ref w_SUSPENDED)) (P9 : Sta Z Z.heap "com/example/able_hands/ablehands/WorkItemStatus" "DEADLOCKED" "Lcom/example/able_hands/ablehands/WorkItemStatus;" (.ref w_DEADLOCKED)) (P10 : Sta Z Z.heap "com/example/able_hands/ablehands/WorkItemStatus" "DELETED" "Lcom/example/able_hands/ablehands/WorkItemStatus;" (.ref w_DELETED)) (P11 : Sta Z Z.heap "com/example/able_hands/ablehands/WorkItemStatus" "WITHDRAWN" "Lcom/example/able_hands/ablehands/WorkItemStatus;" (.ref w_WITHDRAWN)) (P12 : Sta Z Z.heap "com/example/able_hands/ablehands/WorkItemStatus" "CANCELLED_BY_CASE" "Lcom/example/able_hands/ablehands/WorkItemStatus;" (.ref w_CANCELLED_BY_CASE)) (P13 : Sta Z Z.heap "com/example/able_hands/ablehands/WorkItemStatus" "DISCARDED" "Lcom/example/able_hands/ablehands/WorkItemStatus;" (.ref w_DISCARDED)) :
    MetFree l (⟨"com/example/able_hands/ablehands/WorkItemStatusIsFinishedPinLaw", "pick", "(I)Lcom/example/able_hands/ablehands/WorkItemStatus;"⟩ : MethodName) (head1 (Jvm.Cond.code (⟨"com/example/able_hands/ablehands/WorkItemStatusIsFinishedPinLaw", "pick", "(I)Lcom/example/able_hands/ablehands/WorkItemStatus;"⟩ : MethodName) method_3_code 1 (some (.object "com/example/able_hands/ablehands/WorkItemStatus")) :: ws) ({ frames := 0, cells := 0, slots := 0, locals := 0 } : Room)) (fun a U => a = #[(.int p1)] ∧ Z.Warmed39 U.vm ∧ U.heap = h0) (fun _ _ _ _ _ => True) (fun _ U o U' => ∃ v L, o = .returned v ∧ Q_rm1 Z p1 w_ENABLED w_FIRED w_EXECUTING w_COMPLETE w_FORCED_COMPLETE w_FAILED w_IS_PARENT w_SUSPENDED w_DEADLOCKED w_DELETED w_WITHDRAWN w_CANCELLED_BY_CASE w_DISCARDED h0 n0 v U'.heap L ∧ FrameEnd U o U' L ({ frames := 0, cells := 0, slots := 0, locals := 0 } : Room).cells ({ frames := 0, cells := 0, slots := 0, locals := 0 } : Room).slots) := by
  refine MetFree.of_bodySF (plainFor_of_name pn_0) hisR ?_
  intro p e s m args below meth c s₁ Bd hml0 hP hK
  obtain ⟨rfl, hZ, hh⟩ := hP
  have hx := Bd.exec
  have hby := Bd.bytes
  have hml : c.maxLocals = 1 := hml0
  have hown : s.vm.findClass "com/example/able_hands/ablehands/WorkItemStatusIsFinishedPinLaw" = some m.cls := findClass_of_methodNamed Bd.named
  have hnm := (name_of_methodNamed Bd.named Bd.method).1
  have X0 : Stand p l e ({ frames := 0, cells := 0, slots := 0, locals := 0 } : Room) s m #[(.int p1)] below meth c s₁ [] 0 0 := Stand.of_body Bd
  have e0 : s₁.heap = h0 := by rw [← hh, Bd.state]; rfl
  have N0 := Fr.nil n0
  have KR : Keep h0 h0 [] := Keep.refl h0 _
  have pre0 : ∀ t, Steps p.tables e below (s₁.setTop (mkF m 0 #[.val (.int p1)] [])) t → Steps p.tables e below (s₁.setTop (entryFrame m #[(.int p1)] 1)) t := fun t k => castTop (ef_rm1 m (p1)) k
  have pre1 : ∀ t, Steps p.tables e below (s₁.setTop (mkF m 1 #[.val (.int p1)] [(.int p1)])) t → Steps p.tables e below (s₁.setTop (entryFrame m #[(.int p1)] 1)) t := fun t k => pre0 t (by
    show Steps p.tables e below (s₁.setTop (mkF m 0 #[.val (.int p1)] [])) _
    refine XS.iloadN X0.here hx rfl (hb hby d1_0) rfl ?_
    show Steps p.tables e below (s₁.setTop (mkF m 1 #[.val (.int p1)] [(.int p1)])) _
    exact k)
  by_cases hc2 : p1 = (0 : Int32)
  · skip
    obtain ⟨T3, X3, e3, st3⟩ := getS2 X0 hx hZ hown (host := "") (Or.inl (kw5 hw)) Via.refl e0 (Sta.ext P0.2 P1) (g := (mkF m 4 #[.val (.int p1)] [])) rfl (hb hby d1_4)
    obtain ⟨fs, hr, hrun, hended, hW, hsame⟩ := X3.leave (v := some (.ref w_ENABLED)) (fun h => by rw [Bd.returns] at h; cases h)
    refine ⟨_, _, pre1 _ ?_, hrun, hended, _, _, rfl, ?_, ⟨_, rfl⟩, hW, hsame.mono (by decide) (by decide)⟩
    · skip
      refine XS.ifNo X0.here hx rfl (hb hby d1_1) rfl ((if0 _ _).trans (teq hc2).2) ?_
      show Steps p.tables e below (s₁.setTop (mkF m 4 #[.val (.int p1)] [])) _
      refine st3 _ ?_
      show Steps p.tables e below (T3.setTop (mkF m 7 #[.val (.int p1)] [(.ref w_ENABLED)])) _
      jvm_step X3.here [X3.here.top, hx, (hb hby d1_7), X3.method', Bd.returns, Value.isRef, FieldType.isReference]
      first | (intro acts; rw [hr _ acts rfl rfl rfl]) | rw [hr _ _ rfl rfl rfl]
      exact Steps.refl _
    · show Q_rm1 Z p1 w_ENABLED w_FIRED w_EXECUTING w_COMPLETE w_FORCED_COMPLETE w_FAILED w_IS_PARENT w_SUSPENDED w_DEADLOCKED w_DELETED w_WITHDRAWN w_CANCELLED_BY_CASE w_DISCARDED h0 n0 _ T3.heap _
      rw [e3]
      exact ⟨(by unfold own_pick; rw [if_pos hc2]), N0, rfl⟩
  · skip
    have pre5 : ∀ t, Steps p.tables e below (s₁.setTop (mkF m 10 #[.val (.int p1)] [(.int (1 : Int32)), (.int p1)])) t → Steps p.tables e below (s₁.setTop (entryFrame m #[(.int p1)] 1)) t := fun t k => pre1 t (by
      refine XS.ifYes X0.here hx rfl (pc0 := 1) (pc' := 8) rfl (hb hby d1_1) rfl ((if0 _ _).trans (feq hc2).2) (by decide) (by decide) ?_
      show Steps p.tables e below (s₁.setTop (mkF m 8 #[.val (.int p1)] [])) _
      refine XS.iloadN X0.here hx rfl (hb hby d1_8) rfl ?_
      show Steps p.tables e below (s₁.setTop (mkF m 9 #[.val (.int p1)] [(.int p1)])) _
      refine XS.iconst X0.here hx rfl (hb hby d1_9) ?_
      show Steps p.tables e below (s₁.setTop (mkF m 10 #[.val (.int p1)] [(.int (1 : Int32)), (.int p1)])) _
      exact k)
    by_cases hc6 : p1 = (1 : Int32)
    · skip
      obtain ⟨T7, X7, e7, st7⟩ := getS2 X0 hx hZ hown (host := "") (Or.inl (kw37 hw)) Via.refl e0 (Sta.ext P0.2 P2) (g := (mkF m 13 #[.val (.int p1)] [])) rfl (hb hby d1_13)
      obtain ⟨fs, hr, hrun, hended, hW, hsame⟩ := X7.leave (v := some (.ref w_FIRED)) (fun h => by rw [Bd.returns] at h; cases h)
      refine ⟨_, _, pre5 _ ?_, hrun, hended, _, _, rfl, ?_, ⟨_, rfl⟩, hW, hsame.mono (by decide) (by decide)⟩
      · skip
        refine XS.icmpNo X0.here hx rfl (hb hby d1_10) rfl (teq hc6).2 ?_
        show Steps p.tables e below (s₁.setTop (mkF m 13 #[.val (.int p1)] [])) _
        refine st7 _ ?_
        show Steps p.tables e below (T7.setTop (mkF m 16 #[.val (.int p1)] [(.ref w_FIRED)])) _
        jvm_step X7.here [X7.here.top, hx, (hb hby d1_16), X7.method', Bd.returns, Value.isRef, FieldType.isReference]
        first | (intro acts; rw [hr _ acts rfl rfl rfl]) | rw [hr _ _ rfl rfl rfl]
        exact Steps.refl _
      · show Q_rm1 Z p1 w_ENABLED w_FIRED w_EXECUTING w_COMPLETE w_FORCED_COMPLETE w_FAILED w_IS_PARENT w_SUSPENDED w_DEADLOCKED w_DELETED w_WITHDRAWN w_CANCELLED_BY_CASE w_DISCARDED h0 n0 _ T7.heap _
        rw [e7]
        exact ⟨(by unfold own_pick; rw [if_neg hc2, if_pos hc6]), N0, rfl⟩
    · skip
      have pre9 : ∀ t, Steps p.tables e below (s₁.setTop (mkF m 19 #[.val (.int p1)] [(.int (2 : Int32)), (.int p1)])) t → Steps p.tables e below (s₁.setTop (entryFrame m #[(.int p1)] 1)) t := fun t k => pre5 t (by
        refine XS.icmpYes X0.here hx rfl (pc0 := 10) (pc' := 17) rfl (hb hby d1_10) rfl (feq hc6).2 (by decide) (by decide) ?_
        show Steps p.tables e below (s₁.setTop (mkF m 17 #[.val (.int p1)] [])) _
        refine XS.iloadN X0.here hx rfl (hb hby d1_17) rfl ?_
        show Steps p.tables e below (s₁.setTop (mkF m 18 #[.val (.int p1)] [(.int p1)])) _
        refine XS.iconst X0.here hx rfl (hb hby d1_18) ?_
        show Steps p.tables e below (s₁.setTop (mkF m 19 #[.val (.int p1)] [(.int (2 : Int32)), (.int p1)])) _
        exact k)
      by_cases hc10 : p1 = (2 : Int32)
      · skip
        obtain ⟨T11, X11, e11, st11⟩ := getS2 X0 hx hZ hown (host := "") (Or.inl (kw33 hw)) Via.refl e0 (Sta.ext P0.2 P3) (g := (mkF m 22 #[.val (.int p1)] [])) rfl (hb hby d1_22)
        obtain ⟨fs, hr, hrun, hended, hW, hsame⟩ := X11.leave (v := some (.ref w_EXECUTING)) (fun h => by rw [Bd.returns] at h; cases h)
        refine ⟨_, _, pre9 _ ?_, hrun, hended, _, _, rfl, ?_, ⟨_, rfl⟩, hW, hsame.mono (by decide) (by decide)⟩
        · skip
          refine XS.icmpNo X0.here hx rfl (hb hby d1_19) rfl (teq hc10).2 ?_
          show Steps p.tables e below (s₁.setTop (mkF m 22 #[.val (.int p1)] [])) _
          refine st11 _ ?_
          show Steps p.tables e below (T11.setTop (mkF m 25 #[.val (.int p1)] [(.ref w_EXECUTING)])) _
          jvm_step X11.here [X11.here.top, hx, (hb hby d1_25), X11.method', Bd.returns, Value.isRef, FieldType.isReference]
          first | (intro acts; rw [hr _ acts rfl rfl rfl]) | rw [hr _ _ rfl rfl rfl]
          exact Steps.refl _
        · show Q_rm1 Z p1 w_ENABLED w_FIRED w_EXECUTING w_COMPLETE w_FORCED_COMPLETE w_FAILED w_IS_PARENT w_SUSPENDED w_DEADLOCKED w_DELETED w_WITHDRAWN w_CANCELLED_BY_CASE w_DISCARDED h0 n0 _ T11.heap _
          rw [e11]
          exact ⟨(by unfold own_pick; rw [if_neg hc2, if_neg hc6, if_pos hc10]), N0, rfl⟩
      · skip
        have pre13 : ∀ t, Steps p.tables e below (s₁.setTop (mkF m 28 #[.val (.int p1)] [(.int (3 : Int32)), (.int p1)])) t → Steps p.tables e below (s₁.setTop (entryFrame m #[(.int p1)] 1)) t := fun t k => pre9 t (by
          refine XS.icmpYes X0.here hx rfl (pc0 := 19) (pc' := 26) rfl (hb hby d1_19) rfl (feq hc10).2 (by decide) (by decide) ?_
          show Steps p.tables e below (s₁.setTop (mkF m 26 #[.val (.int p1)] [])) _
          refine XS.iloadN X0.here hx rfl (hb hby d1_26) rfl ?_
          show Steps p.tables e below (s₁.setTop (mkF m 27 #[.val (.int p1)] [(.int p1)])) _
          refine XS.iconst X0.here hx rfl (hb hby d1_27) ?_
          show Steps p.tables e below (s₁.setTop (mkF m 28 #[.val (.int p1)] [(.int (3 : Int32)), (.int p1)])) _
          exact k)
        by_cases hc14 : p1 = (3 : Int32)
        · skip
          obtain ⟨T15, X15, e15, st15⟩ := getS2 X0 hx hZ hown (host := "") (Or.inl (kw26 hw)) Via.refl e0 (Sta.ext P0.2 P4) (g := (mkF m 31 #[.val (.int p1)] [])) rfl (hb hby d1_31)
          obtain ⟨fs, hr, hrun, hended, hW, hsame⟩ := X15.leave (v := some (.ref w_COMPLETE)) (fun h => by rw [Bd.returns] at h; cases h)
          refine ⟨_, _, pre13 _ ?_, hrun, hended, _, _, rfl, ?_, ⟨_, rfl⟩, hW, hsame.mono (by decide) (by decide)⟩
          · skip
            refine XS.icmpNo X0.here hx rfl (hb hby d1_28) rfl (teq hc14).2 ?_
            show Steps p.tables e below (s₁.setTop (mkF m 31 #[.val (.int p1)] [])) _
            refine st15 _ ?_
            show Steps p.tables e below (T15.setTop (mkF m 34 #[.val (.int p1)] [(.ref w_COMPLETE)])) _
            jvm_step X15.here [X15.here.top, hx, (hb hby d1_34), X15.method', Bd.returns, Value.isRef, FieldType.isReference]
            first | (intro acts; rw [hr _ acts rfl rfl rfl]) | rw [hr _ _ rfl rfl rfl]
            exact Steps.refl _
          · show Q_rm1 Z p1 w_ENABLED w_FIRED w_EXECUTING w_COMPLETE w_FORCED_COMPLETE w_FAILED w_IS_PARENT w_SUSPENDED w_DEADLOCKED w_DELETED w_WITHDRAWN w_CANCELLED_BY_CASE w_DISCARDED h0 n0 _ T15.heap _
            rw [e15]
            exact ⟨(by unfold own_pick; rw [if_neg hc2, if_neg hc6, if_neg hc10, if_pos hc14]), N0, rfl⟩
        · skip
          have pre17 : ∀ t, Steps p.tables e below (s₁.setTop (mkF m 37 #[.val (.int p1)] [(.int (4 : Int32)), (.int p1)])) t → Steps p.tables e below (s₁.setTop (entryFrame m #[(.int p1)] 1)) t := fun t k => pre13 t (by
            refine XS.icmpYes X0.here hx rfl (pc0 := 28) (pc' := 35) rfl (hb hby d1_28) rfl (feq hc14).2 (by decide) (by decide) ?_
            show Steps p.tables e below (s₁.setTop (mkF m 35 #[.val (.int p1)] [])) _
            refine XS.iloadN X0.here hx rfl (hb hby d1_35) rfl ?_
            show Steps p.tables e below (s₁.setTop (mkF m 36 #[.val (.int p1)] [(.int p1)])) _
            refine XS.iconst X0.here hx rfl (hb hby d1_36) ?_
            show Steps p.tables e below (s₁.setTop (mkF m 37 #[.val (.int p1)] [(.int (4 : Int32)), (.int p1)])) _
            exact k)
          by_cases hc18 : p1 = (4 : Int32)
          · skip
            obtain ⟨T19, X19, e19, st19⟩ := getS2 X0 hx hZ hown (host := "") (Or.inl (kw45 hw)) Via.refl e0 (Sta.ext P0.2 P5) (g := (mkF m 40 #[.val (.int p1)] [])) rfl (hb hby d1_40)
            obtain ⟨fs, hr, hrun, hended, hW, hsame⟩ := X19.leave (v := some (.ref w_FORCED_COMPLETE)) (fun h => by rw [Bd.returns] at h; cases h)
            refine ⟨_, _, pre17 _ ?_, hrun, hended, _, _, rfl, ?_, ⟨_, rfl⟩, hW, hsame.mono (by decide) (by decide)⟩
            · skip
              refine XS.icmpNo X0.here hx rfl (hb hby d1_37) rfl (teq hc18).2 ?_
              show Steps p.tables e below (s₁.setTop (mkF m 40 #[.val (.int p1)] [])) _
              refine st19 _ ?_
              show Steps p.tables e below (T19.setTop (mkF m 43 #[.val (.int p1)] [(.ref w_FORCED_COMPLETE)])) _
              jvm_step X19.here [X19.here.top, hx, (hb hby d1_43), X19.method', Bd.returns, Value.isRef, FieldType.isReference]
              first | (intro acts; rw [hr _ acts rfl rfl rfl]) | rw [hr _ _ rfl rfl rfl]
              exact Steps.refl _
            · show Q_rm1 Z p1 w_ENABLED w_FIRED w_EXECUTING w_COMPLETE w_FORCED_COMPLETE w_FAILED w_IS_PARENT w_SUSPENDED w_DEADLOCKED w_DELETED w_WITHDRAWN w_CANCELLED_BY_CASE w_DISCARDED h0 n0 _ T19.heap _
              rw [e19]
              exact ⟨(by unfold own_pick; rw [if_neg hc2, if_neg hc6, if_neg hc10, if_neg hc14, if_pos hc18]), N0, rfl⟩
          · skip
            have pre21 : ∀ t, Steps p.tables e below (s₁.setTop (mkF m 46 #[.val (.int p1)] [(.int (5 : Int32)), (.int p1)])) t → Steps p.tables e below (s₁.setTop (entryFrame m #[(.int p1)] 1)) t := fun t k => pre17 t (by
              refine XS.icmpYes X0.here hx rfl (pc0 := 37) (pc' := 44) rfl (hb hby d1_37) rfl (feq hc18).2 (by decide) (by decide) ?_
              show Steps p.tables e below (s₁.setTop (mkF m 44 #[.val (.int p1)] [])) _
              refine XS.iloadN X0.here hx rfl (hb hby d1_44) rfl ?_
              show Steps p.tables e below (s₁.setTop (mkF m 45 #[.val (.int p1)] [(.int p1)])) _
              refine XS.iconst X0.here hx rfl (hb hby d1_45) ?_
              show Steps p.tables e below (s₁.setTop (mkF m 46 #[.val (.int p1)] [(.int (5 : Int32)), (.int p1)])) _
              exact k)
            by_cases hc22 : p1 = (5 : Int32)
            · skip
              obtain ⟨T23, X23, e23, st23⟩ := getS2 X0 hx hZ hown (host := "") (Or.inl (kw29 hw)) Via.refl e0 (Sta.ext P0.2 P6) (g := (mkF m 49 #[.val (.int p1)] [])) rfl (hb hby d1_49)
              obtain ⟨fs, hr, hrun, hended, hW, hsame⟩ := X23.leave (v := some (.ref w_FAILED)) (fun h => by rw [Bd.returns] at h; cases h)
              refine ⟨_, _, pre21 _ ?_, hrun, hended, _, _, rfl, ?_, ⟨_, rfl⟩, hW, hsame.mono (by decide) (by decide)⟩
              · skip
                refine XS.icmpNo X0.here hx rfl (hb hby d1_46) rfl (teq hc22).2 ?_
                show Steps p.tables e below (s₁.setTop (mkF m 49 #[.val (.int p1)] [])) _
                refine st23 _ ?_
                show Steps p.tables e below (T23.setTop (mkF m 52 #[.val (.int p1)] [(.ref w_FAILED)])) _
                jvm_step X23.here [X23.here.top, hx, (hb hby d1_52), X23.method', Bd.returns, Value.isRef, FieldType.isReference]
                first | (intro acts; rw [hr _ acts rfl rfl rfl]) | rw [hr _ _ rfl rfl rfl]
                exact Steps.refl _
              · show Q_rm1 Z p1 w_ENABLED w_FIRED w_EXECUTING w_COMPLETE w_FORCED_COMPLETE w_FAILED w_IS_PARENT w_SUSPENDED w_DEADLOCKED w_DELETED w_WITHDRAWN w_CANCELLED_BY_CASE w_DISCARDED h0 n0 _ T23.heap _
                rw [e23]
                exact ⟨(by unfold own_pick; rw [if_neg hc2, if_neg hc6, if_neg hc10, if_neg hc14, if_neg hc18, if_pos hc22]), N0, rfl⟩
            · skip
              have pre25 : ∀ t, Steps p.tables e below (s₁.setTop (mkF m 56 #[.val (.int p1)] [(.int (6 : Int32)), (.int p1)])) t → Steps p.tables e below (s₁.setTop (entryFrame m #[(.int p1)] 1)) t := fun t k => pre21 t (by
                refine XS.icmpYes X0.here hx rfl (pc0 := 46) (pc' := 53) rfl (hb hby d1_46) rfl (feq hc22).2 (by decide) (by decide) ?_
                show Steps p.tables e below (s₁.setTop (mkF m 53 #[.val (.int p1)] [])) _
                refine XS.iloadN X0.here hx rfl (hb hby d1_53) rfl ?_
                show Steps p.tables e below (s₁.setTop (mkF m 54 #[.val (.int p1)] [(.int p1)])) _
                refine XS.bipush X0.here hx rfl (hb hby d1_54) ?_
                show Steps p.tables e below (s₁.setTop (mkF m 56 #[.val (.int p1)] [(.int (6 : Int32)), (.int p1)])) _
                exact k)
              by_cases hc26 : p1 = (6 : Int32)
              · skip
                obtain ⟨T27, X27, e27, st27⟩ := getS2 X0 hx hZ hown (host := "") (Or.inl (kw27 hw)) Via.refl e0 (Sta.ext P0.2 P7) (g := (mkF m 59 #[.val (.int p1)] [])) rfl (hb hby d1_59)
                obtain ⟨fs, hr, hrun, hended, hW, hsame⟩ := X27.leave (v := some (.ref w_IS_PARENT)) (fun h => by rw [Bd.returns] at h; cases h)
                refine ⟨_, _, pre25 _ ?_, hrun, hended, _, _, rfl, ?_, ⟨_, rfl⟩, hW, hsame.mono (by decide) (by decide)⟩
                · skip
                  refine XS.icmpNo X0.here hx rfl (hb hby d1_56) rfl (teq hc26).2 ?_
                  show Steps p.tables e below (s₁.setTop (mkF m 59 #[.val (.int p1)] [])) _
                  refine st27 _ ?_
                  show Steps p.tables e below (T27.setTop (mkF m 62 #[.val (.int p1)] [(.ref w_IS_PARENT)])) _
                  jvm_step X27.here [X27.here.top, hx, (hb hby d1_62), X27.method', Bd.returns, Value.isRef, FieldType.isReference]
                  first | (intro acts; rw [hr _ acts rfl rfl rfl]) | rw [hr _ _ rfl rfl rfl]
                  exact Steps.refl _
                · show Q_rm1 Z p1 w_ENABLED w_FIRED w_EXECUTING w_COMPLETE w_FORCED_COMPLETE w_FAILED w_IS_PARENT w_SUSPENDED w_DEADLOCKED w_DELETED w_WITHDRAWN w_CANCELLED_BY_CASE w_DISCARDED h0 n0 _ T27.heap _
                  rw [e27]
                  exact ⟨(by unfold own_pick; rw [if_neg hc2, if_neg hc6, if_neg hc10, if_neg hc14, if_neg hc18, if_neg hc22, if_pos hc26]), N0, rfl⟩
              · skip
                have pre29 : ∀ t, Steps p.tables e below (s₁.setTop (mkF m 66 #[.val (.int p1)] [(.int (7 : Int32)), (.int p1)])) t → Steps p.tables e below (s₁.setTop (entryFrame m #[(.int p1)] 1)) t := fun t k => pre25 t (by
                  refine XS.icmpYes X0.here hx rfl (pc0 := 56) (pc' := 63) rfl (hb hby d1_56) rfl (feq hc26).2 (by decide) (by decide) ?_
                  show Steps p.tables e below (s₁.setTop (mkF m 63 #[.val (.int p1)] [])) _
                  refine XS.iloadN X0.here hx rfl (hb hby d1_63) rfl ?_
                  show Steps p.tables e below (s₁.setTop (mkF m 64 #[.val (.int p1)] [(.int p1)])) _
                  refine XS.bipush X0.here hx rfl (hb hby d1_64) ?_
                  show Steps p.tables e below (s₁.setTop (mkF m 66 #[.val (.int p1)] [(.int (7 : Int32)), (.int p1)])) _
                  exact k)
                by_cases hc30 : p1 = (7 : Int32)
                · skip
                  obtain ⟨T31, X31, e31, st31⟩ := getS2 X0 hx hZ hown (host := "") (Or.inl (kw30 hw)) Via.refl e0 (Sta.ext P0.2 P8) (g := (mkF m 69 #[.val (.int p1)] [])) rfl (hb hby d1_69)
                  obtain ⟨fs, hr, hrun, hended, hW, hsame⟩ := X31.leave (v := some (.ref w_SUSPENDED)) (fun h => by rw [Bd.returns] at h; cases h)
                  refine ⟨_, _, pre29 _ ?_, hrun, hended, _, _, rfl, ?_, ⟨_, rfl⟩, hW, hsame.mono (by decide) (by decide)⟩
                  · skip
                    refine XS.icmpNo X0.here hx rfl (hb hby d1_66) rfl (teq hc30).2 ?_
                    show Steps p.tables e below (s₁.setTop (mkF m 69 #[.val (.int p1)] [])) _
                    refine st31 _ ?_
                    show Steps p.tables e below (T31.setTop (mkF m 72 #[.val (.int p1)] [(.ref w_SUSPENDED)])) _
                    jvm_step X31.here [X31.here.top, hx, (hb hby d1_72), X31.method', Bd.returns, Value.isRef, FieldType.isReference]
                    first | (intro acts; rw [hr _ acts rfl rfl rfl]) | rw [hr _ _ rfl rfl rfl]
                    exact Steps.refl _
                  · show Q_rm1 Z p1 w_ENABLED w_FIRED w_EXECUTING w_COMPLETE w_FORCED_COMPLETE w_FAILED w_IS_PARENT w_SUSPENDED w_DEADLOCKED w_DELETED w_WITHDRAWN w_CANCELLED_BY_CASE w_DISCARDED h0 n0 _ T31.heap _
                    rw [e31]
                    exact ⟨(by unfold own_pick; rw [if_neg hc2, if_neg hc6, if_neg hc10, if_neg hc14, if_neg hc18, if_neg hc22, if_neg hc26, if_pos hc30]), N0, rfl⟩
                · skip
                  have pre33 : ∀ t, Steps p.tables e below (s₁.setTop (mkF m 76 #[.val (.int p1)] [(.int (8 : Int32)), (.int p1)])) t → Steps p.tables e below (s₁.setTop (entryFrame m #[(.int p1)] 1)) t := fun t k => pre29 t (by
                    refine XS.icmpYes X0.here hx rfl (pc0 := 66) (pc' := 73) rfl (hb hby d1_66) rfl (feq hc30).2 (by decide) (by decide) ?_
                    show Steps p.tables e below (s₁.setTop (mkF m 73 #[.val (.int p1)] [])) _
                    refine XS.iloadN X0.here hx rfl (hb hby d1_73) rfl ?_
                    show Steps p.tables e below (s₁.setTop (mkF m 74 #[.val (.int p1)] [(.int p1)])) _
                    refine XS.bipush X0.here hx rfl (hb hby d1_74) ?_
                    show Steps p.tables e below (s₁.setTop (mkF m 76 #[.val (.int p1)] [(.int (8 : Int32)), (.int p1)])) _
                    exact k)
                  by_cases hc34 : p1 = (8 : Int32)
                  · skip
                    obtain ⟨T35, X35, e35, st35⟩ := getS2 X0 hx hZ hown (host := "") (Or.inl (kw39 hw)) Via.refl e0 (Sta.ext P0.2 P9) (g := (mkF m 79 #[.val (.int p1)] [])) rfl (hb hby d1_79)
                    obtain ⟨fs, hr, hrun, hended, hW, hsame⟩ := X35.leave (v := some (.ref w_DEADLOCKED)) (fun h => by rw [Bd.returns] at h; cases h)
                    refine ⟨_, _, pre33 _ ?_, hrun, hended, _, _, rfl, ?_, ⟨_, rfl⟩, hW, hsame.mono (by decide) (by decide)⟩
                    · skip
                      refine XS.icmpNo X0.here hx rfl (hb hby d1_76) rfl (teq hc34).2 ?_
                      show Steps p.tables e below (s₁.setTop (mkF m 79 #[.val (.int p1)] [])) _
                      refine st35 _ ?_
                      show Steps p.tables e below (T35.setTop (mkF m 82 #[.val (.int p1)] [(.ref w_DEADLOCKED)])) _
                      jvm_step X35.here [X35.here.top, hx, (hb hby d1_82), X35.method', Bd.returns, Value.isRef, FieldType.isReference]
                      first | (intro acts; rw [hr _ acts rfl rfl rfl]) | rw [hr _ _ rfl rfl rfl]
                      exact Steps.refl _
                    · show Q_rm1 Z p1 w_ENABLED w_FIRED w_EXECUTING w_COMPLETE w_FORCED_COMPLETE w_FAILED w_IS_PARENT w_SUSPENDED w_DEADLOCKED w_DELETED w_WITHDRAWN w_CANCELLED_BY_CASE w_DISCARDED h0 n0 _ T35.heap _
                      rw [e35]
                      exact ⟨(by unfold own_pick; rw [if_neg hc2, if_neg hc6, if_neg hc10, if_neg hc14, if_neg hc18, if_neg hc22, if_neg hc26, if_neg hc30, if_pos hc34]), N0, rfl⟩
                  · skip
                    have pre37 : ∀ t, Steps p.tables e below (s₁.setTop (mkF m 86 #[.val (.int p1)] [(.int (9 : Int32)), (.int p1)])) t → Steps p.tables e below (s₁.setTop (entryFrame m #[(.int p1)] 1)) t := fun t k => pre33 t (by
                      refine XS.icmpYes X0.here hx rfl (pc0 := 76) (pc' := 83) rfl (hb hby d1_76) rfl (feq hc34).2 (by decide) (by decide) ?_
                      show Steps p.tables e below (s₁.setTop (mkF m 83 #[.val (.int p1)] [])) _
                      refine XS.iloadN X0.here hx rfl (hb hby d1_83) rfl ?_
                      show Steps p.tables e below (s₁.setTop (mkF m 84 #[.val (.int p1)] [(.int p1)])) _
                      refine XS.bipush X0.here hx rfl (hb hby d1_84) ?_
                      show Steps p.tables e below (s₁.setTop (mkF m 86 #[.val (.int p1)] [(.int (9 : Int32)), (.int p1)])) _
                      exact k)
                    by_cases hc38 : p1 = (9 : Int32)
                    · skip
                      obtain ⟨T39, X39, e39, st39⟩ := getS2 X0 hx hZ hown (host := "") (Or.inl (kw32 hw)) Via.refl e0 (Sta.ext P0.2 P10) (g := (mkF m 89 #[.val (.int p1)] [])) rfl (hb hby d1_89)
                      obtain ⟨fs, hr, hrun, hended, hW, hsame⟩ := X39.leave (v := some (.ref w_DELETED)) (fun h => by rw [Bd.returns] at h; cases h)
                      refine ⟨_, _, pre37 _ ?_, hrun, hended, _, _, rfl, ?_, ⟨_, rfl⟩, hW, hsame.mono (by decide) (by decide)⟩
                      · skip
                        refine XS.icmpNo X0.here hx rfl (hb hby d1_86) rfl (teq hc38).2 ?_
                        show Steps p.tables e below (s₁.setTop (mkF m 89 #[.val (.int p1)] [])) _
                        refine st39 _ ?_
                        show Steps p.tables e below (T39.setTop (mkF m 92 #[.val (.int p1)] [(.ref w_DELETED)])) _
                        jvm_step X39.here [X39.here.top, hx, (hb hby d1_92), X39.method', Bd.returns, Value.isRef, FieldType.isReference]
                        first | (intro acts; rw [hr _ acts rfl rfl rfl]) | rw [hr _ _ rfl rfl rfl]
                        exact Steps.refl _
                      · show Q_rm1 Z p1 w_ENABLED w_FIRED w_EXECUTING w_COMPLETE w_FORCED_COMPLETE w_FAILED w_IS_PARENT w_SUSPENDED w_DEADLOCKED w_DELETED w_WITHDRAWN w_CANCELLED_BY_CASE w_DISCARDED h0 n0 _ T39.heap _
                        rw [e39]
                        exact ⟨(by unfold own_pick; rw [if_neg hc2, if_neg hc6, if_neg hc10, if_neg hc14, if_neg hc18, if_neg hc22, if_neg hc26, if_neg hc30, if_neg hc34, if_pos hc38]), N0, rfl⟩
                    · skip
                      have pre41 : ∀ t, Steps p.tables e below (s₁.setTop (mkF m 96 #[.val (.int p1)] [(.int (10 : Int32)), (.int p1)])) t → Steps p.tables e below (s₁.setTop (entryFrame m #[(.int p1)] 1)) t := fun t k => pre37 t (by
                        refine XS.icmpYes X0.here hx rfl (pc0 := 86) (pc' := 93) rfl (hb hby d1_86) rfl (feq hc38).2 (by decide) (by decide) ?_
                        show Steps p.tables e below (s₁.setTop (mkF m 93 #[.val (.int p1)] [])) _
                        refine XS.iloadN X0.here hx rfl (hb hby d1_93) rfl ?_
                        show Steps p.tables e below (s₁.setTop (mkF m 94 #[.val (.int p1)] [(.int p1)])) _
                        refine XS.bipush X0.here hx rfl (hb hby d1_94) ?_
                        show Steps p.tables e below (s₁.setTop (mkF m 96 #[.val (.int p1)] [(.int (10 : Int32)), (.int p1)])) _
                        exact k)
                      by_cases hc42 : p1 = (10 : Int32)
                      · skip
                        obtain ⟨T43, X43, e43, st43⟩ := getS2 X0 hx hZ hown (host := "") (Or.inl (kw41 hw)) Via.refl e0 (Sta.ext P0.2 P11) (g := (mkF m 99 #[.val (.int p1)] [])) rfl (hb hby d1_99)
                        obtain ⟨fs, hr, hrun, hended, hW, hsame⟩ := X43.leave (v := some (.ref w_WITHDRAWN)) (fun h => by rw [Bd.returns] at h; cases h)
                        refine ⟨_, _, pre41 _ ?_, hrun, hended, _, _, rfl, ?_, ⟨_, rfl⟩, hW, hsame.mono (by decide) (by decide)⟩
                        · skip
                          refine XS.icmpNo X0.here hx rfl (hb hby d1_96) rfl (teq hc42).2 ?_
                          show Steps p.tables e below (s₁.setTop (mkF m 99 #[.val (.int p1)] [])) _
                          refine st43 _ ?_
                          show Steps p.tables e below (T43.setTop (mkF m 102 #[.val (.int p1)] [(.ref w_WITHDRAWN)])) _
                          jvm_step X43.here [X43.here.top, hx, (hb hby d1_102), X43.method', Bd.returns, Value.isRef, FieldType.isReference]
                          first | (intro acts; rw [hr _ acts rfl rfl rfl]) | rw [hr _ _ rfl rfl rfl]
                          exact Steps.refl _
                        · show Q_rm1 Z p1 w_ENABLED w_FIRED w_EXECUTING w_COMPLETE w_FORCED_COMPLETE w_FAILED w_IS_PARENT w_SUSPENDED w_DEADLOCKED w_DELETED w_WITHDRAWN w_CANCELLED_BY_CASE w_DISCARDED h0 n0 _ T43.heap _
                          rw [e43]
                          exact ⟨(by unfold own_pick; rw [if_neg hc2, if_neg hc6, if_neg hc10, if_neg hc14, if_neg hc18, if_neg hc22, if_neg hc26, if_neg hc30, if_neg hc34, if_neg hc38, if_pos hc42]), N0, rfl⟩
                      · skip
                        have pre45 : ∀ t, Steps p.tables e below (s₁.setTop (mkF m 106 #[.val (.int p1)] [(.int (11 : Int32)), (.int p1)])) t → Steps p.tables e below (s₁.setTop (entryFrame m #[(.int p1)] 1)) t := fun t k => pre41 t (by
                          refine XS.icmpYes X0.here hx rfl (pc0 := 96) (pc' := 103) rfl (hb hby d1_96) rfl (feq hc42).2 (by decide) (by decide) ?_
                          show Steps p.tables e below (s₁.setTop (mkF m 103 #[.val (.int p1)] [])) _
                          refine XS.iloadN X0.here hx rfl (hb hby d1_103) rfl ?_
                          show Steps p.tables e below (s₁.setTop (mkF m 104 #[.val (.int p1)] [(.int p1)])) _
                          refine XS.bipush X0.here hx rfl (hb hby d1_104) ?_
                          show Steps p.tables e below (s₁.setTop (mkF m 106 #[.val (.int p1)] [(.int (11 : Int32)), (.int p1)])) _
                          exact k)
                        by_cases hc46 : p1 = (11 : Int32)
                        · skip
                          obtain ⟨T47, X47, e47, st47⟩ := getS2 X0 hx hZ hown (host := "") (Or.inl (kw35 hw)) Via.refl e0 (Sta.ext P0.2 P12) (g := (mkF m 109 #[.val (.int p1)] [])) rfl (hb hby d1_109)
                          obtain ⟨fs, hr, hrun, hended, hW, hsame⟩ := X47.leave (v := some (.ref w_CANCELLED_BY_CASE)) (fun h => by rw [Bd.returns] at h; cases h)
                          refine ⟨_, _, pre45 _ ?_, hrun, hended, _, _, rfl, ?_, ⟨_, rfl⟩, hW, hsame.mono (by decide) (by decide)⟩
                          · skip
                            refine XS.icmpNo X0.here hx rfl (hb hby d1_106) rfl (teq hc46).2 ?_
                            show Steps p.tables e below (s₁.setTop (mkF m 109 #[.val (.int p1)] [])) _
                            refine st47 _ ?_
                            show Steps p.tables e below (T47.setTop (mkF m 112 #[.val (.int p1)] [(.ref w_CANCELLED_BY_CASE)])) _
                            jvm_step X47.here [X47.here.top, hx, (hb hby d1_112), X47.method', Bd.returns, Value.isRef, FieldType.isReference]
                            first | (intro acts; rw [hr _ acts rfl rfl rfl]) | rw [hr _ _ rfl rfl rfl]
                            exact Steps.refl _
                          · show Q_rm1 Z p1 w_ENABLED w_FIRED w_EXECUTING w_COMPLETE w_FORCED_COMPLETE w_FAILED w_IS_PARENT w_SUSPENDED w_DEADLOCKED w_DELETED w_WITHDRAWN w_CANCELLED_BY_CASE w_DISCARDED h0 n0 _ T47.heap _
                            rw [e47]
                            exact ⟨(by unfold own_pick; rw [if_neg hc2, if_neg hc6, if_neg hc10, if_neg hc14, if_neg hc18, if_neg hc22, if_neg hc26, if_neg hc30, if_neg hc34, if_neg hc38, if_neg hc42, if_pos hc46]), N0, rfl⟩
                        · skip
                          obtain ⟨T49, X49, e49, st49⟩ := getS2 X0 hx hZ hown (host := "") (Or.inl (kw43 hw)) Via.refl e0 (Sta.ext P0.2 P13) (g := (mkF m 113 #[.val (.int p1)] [])) rfl (hb hby d1_113)
                          obtain ⟨fs, hr, hrun, hended, hW, hsame⟩ := X49.leave (v := some (.ref w_DISCARDED)) (fun h => by rw [Bd.returns] at h; cases h)
                          refine ⟨_, _, pre45 _ ?_, hrun, hended, _, _, rfl, ?_, ⟨_, rfl⟩, hW, hsame.mono (by decide) (by decide)⟩
                          · skip
                            refine XS.icmpYes X0.here hx rfl (pc0 := 106) (pc' := 113) rfl (hb hby d1_106) rfl (feq hc46).2 (by decide) (by decide) ?_
                            show Steps p.tables e below (s₁.setTop (mkF m 113 #[.val (.int p1)] [])) _
                            refine st49 _ ?_
                            show Steps p.tables e below (T49.setTop (mkF m 116 #[.val (.int p1)] [(.ref w_DISCARDED)])) _
                            jvm_step X49.here [X49.here.top, hx, (hb hby d1_116), X49.method', Bd.returns, Value.isRef, FieldType.isReference]
                            first | (intro acts; rw [hr _ acts rfl rfl rfl]) | rw [hr _ _ rfl rfl rfl]
                            exact Steps.refl _
                          · show Q_rm1 Z p1 w_ENABLED w_FIRED w_EXECUTING w_COMPLETE w_FORCED_COMPLETE w_FAILED w_IS_PARENT w_SUSPENDED w_DEADLOCKED w_DELETED w_WITHDRAWN w_CANCELLED_BY_CASE w_DISCARDED h0 n0 _ T49.heap _
                            rw [e49]
                            exact ⟨(by unfold own_pick; rw [if_neg hc2, if_neg hc6, if_neg hc10, if_neg hc14, if_neg hc18, if_neg hc22, if_neg hc26, if_neg hc30, if_neg hc34, if_neg hc38, if_neg hc42, if_neg hc46]), N0, rfl⟩
theorem ef_rm3 (m : MethodId) (x0 : Addr) : entryFrame m #[(.ref x0)] 1 = mkF m 0 #[.val (.ref x0)] [] := by first | (simp [entryFrame, mkF, argsToLocals, Value.category]; done) | rfl
def Q_rm3 (Z : State) (a1 : Addr) (w_COMPLETE : Addr) (w_FORCED_COMPLETE : Addr) (h0 : Heap) (n0 : Nat) (v : Option Value) (h : Heap) (L : List Loc) : Prop := v = some (.int (own_q a1 w_COMPLETE w_FORCED_COMPLETE)) ∧ Fr n0 L ∧ h = h0
set_option maxRecDepth 65536 in
set_option maxHeartbeats 40000000 in
theorem rm3 (l : Launch) (Z : State) (a0 : Array Value) (hw : ∀ d ∈ tables_1, d.before a0 Z = true) (ws : List Jvm.Cond) (a1 : Addr) (w_COMPLETE : Addr) (w_FORCED_COMPLETE : Addr) (h0 : Heap) (n0 : Nat) (Z0 : n0 ≤ h0.size) (P0 : Old Z n0 h0) (P1 : Sta Z Z.heap "com/example/able_hands/ablehands/WorkItemStatus" "COMPLETE" "Lcom/example/able_hands/ablehands/WorkItemStatus;" (.ref w_COMPLETE)) (P2 : Sta Z Z.heap "com/example/able_hands/ablehands/WorkItemStatus" "FORCED_COMPLETE" "Lcom/example/able_hands/ablehands/WorkItemStatus;" (.ref w_FORCED_COMPLETE)) :
    MetFree l (⟨"com/example/able_hands/ablehands/WorkItemStatus", "isCompleted", "()Z"⟩ : MethodName) (head1 (Jvm.Cond.code (⟨"com/example/able_hands/ablehands/WorkItemStatus", "isCompleted", "()Z"⟩ : MethodName) prog_85_method_10_code 1 (some .boolean) :: ws) ({ frames := 0, cells := 0, slots := 0, locals := 0 } : Room)) (fun a U => a = #[(.ref a1)] ∧ Z.Warmed39 U.vm ∧ U.heap = h0) (fun _ _ _ _ _ => True) (fun _ U o U' => ∃ v L, o = .returned v ∧ Q_rm3 Z a1 w_COMPLETE w_FORCED_COMPLETE h0 n0 v U'.heap L ∧ FrameEnd U o U' L ({ frames := 0, cells := 0, slots := 0, locals := 0 } : Room).cells ({ frames := 0, cells := 0, slots := 0, locals := 0 } : Room).slots) := by
  refine MetFree.of_bodySF (plainFor_of_name pn_1) hisR ?_
  intro p e s m args below meth c s₁ Bd hml0 hP hK
  obtain ⟨rfl, hZ, hh⟩ := hP
  have hx := Bd.exec
  have hby := Bd.bytes
  have hml : c.maxLocals = 1 := hml0
  have hown : s.vm.findClass "com/example/able_hands/ablehands/WorkItemStatus" = some m.cls := findClass_of_methodNamed Bd.named
  have hnm := (name_of_methodNamed Bd.named Bd.method).1
  have X0 : Stand p l e ({ frames := 0, cells := 0, slots := 0, locals := 0 } : Room) s m #[(.ref a1)] below meth c s₁ [] 0 0 := Stand.of_body Bd
  have e0 : s₁.heap = h0 := by rw [← hh, Bd.state]; rfl
  have N0 := Fr.nil n0
  have KR : Keep h0 h0 [] := Keep.refl h0 _
  have pre0 : ∀ t, Steps p.tables e below (s₁.setTop (mkF m 0 #[.val (.ref a1)] [])) t → Steps p.tables e below (s₁.setTop (entryFrame m #[(.ref a1)] 1)) t := fun t k => castTop (ef_rm3 m (a1)) k
  obtain ⟨T1, X1, e1, st1⟩ := getS2 X0 hx hZ hown (host := "") (Or.inl (kw18 hw)) Via.refl e0 (Sta.ext P0.2 P1) (g := (mkF m 1 #[.val (.ref a1)] [(.ref a1)])) rfl (hb hby d3_1)
  have pre2 : ∀ t, Steps p.tables e below (T1.setTop (mkF m 4 #[.val (.ref a1)] [(.ref w_COMPLETE), (.ref a1)])) t → Steps p.tables e below (s₁.setTop (entryFrame m #[(.ref a1)] 1)) t := fun t k => pre0 t (by
    show Steps p.tables e below (s₁.setTop (mkF m 0 #[.val (.ref a1)] [])) _
    refine XS.aloadN X0.here hx rfl (hb hby d3_0) rfl rfl ?_
    show Steps p.tables e below (s₁.setTop (mkF m 1 #[.val (.ref a1)] [(.ref a1)])) _
    refine st1 _ ?_
    show Steps p.tables e below (T1.setTop (mkF m 4 #[.val (.ref a1)] [(.ref w_COMPLETE), (.ref a1)])) _
    exact k)
  by_cases hc3 : a1 = w_COMPLETE
  · skip
    obtain ⟨fs, hr, hrun, hended, hW, hsame⟩ := X1.leave (v := some (.int (1 : Int32))) (fun h => by rw [Bd.returns] at h; cases h)
    refine ⟨_, _, pre2 _ ?_, hrun, hended, _, _, rfl, ?_, ⟨_, rfl⟩, hW, hsame.mono (by decide) (by decide)⟩
    · skip
      refine Jvm.RoadKit.acmp (g := (mkF m 4 #[.val (.ref a1)] [(.ref w_COMPLETE), (.ref a1)])) X1 hx rfl rfl rfl (pc0 := 4) (pc' := 14) (same := true) rfl (hb hby d3_4) rfl (decide_eq_true (congrArg Value.ref hc3)) (by decide) (by decide) ?_
      show Steps p.tables e below (T1.setTop (mkF m 14 #[.val (.ref a1)] [])) _
      refine XS.iconst X1.here hx rfl (hb hby d3_14) ?_
      show Steps p.tables e below (T1.setTop (mkF m 15 #[.val (.ref a1)] [(.int (1 : Int32))])) _
      refine XS.goto X1.here hx rfl (pc0 := 15) (pc' := 19) rfl (hb hby d3_15) (by decide) (by decide) ?_
      show Steps p.tables e below (T1.setTop (mkF m 19 #[.val (.ref a1)] [(.int (1 : Int32))])) _
      exact retN X1 hx (t := .boolean) Bd.returns (by simp) (hb hby d3_19) hr
    · show Q_rm3 Z a1 w_COMPLETE w_FORCED_COMPLETE h0 n0 _ T1.heap _
      rw [e1]
      exact ⟨(by unfold own_q; rw [if_pos hc3]), N0, rfl⟩
  · skip
    obtain ⟨T5, X5, e5, st5⟩ := getS2 X1 hx hZ hown (host := "") (Or.inl (kw20 hw)) Via.refl e1 (Sta.ext P0.2 P2) (g := (mkF m 8 #[.val (.ref a1)] [(.ref a1)])) rfl (hb hby d3_8)
    have pre6 : ∀ t, Steps p.tables e below (T5.setTop (mkF m 11 #[.val (.ref a1)] [(.ref w_FORCED_COMPLETE), (.ref a1)])) t → Steps p.tables e below (s₁.setTop (entryFrame m #[(.ref a1)] 1)) t := fun t k => pre2 t (by
      refine Jvm.RoadKit.acmp (g := (mkF m 4 #[.val (.ref a1)] [(.ref w_COMPLETE), (.ref a1)])) X1 hx rfl rfl rfl (pc0 := 4) (pc' := 7) (same := false) rfl (hb hby d3_4) rfl (decide_eq_false fun q => hc3 (Value.ref.inj q)) (by decide) (by decide) ?_
      show Steps p.tables e below (T1.setTop (mkF m 7 #[.val (.ref a1)] [])) _
      refine XS.aloadN X1.here hx rfl (hb hby d3_7) rfl rfl ?_
      show Steps p.tables e below (T1.setTop (mkF m 8 #[.val (.ref a1)] [(.ref a1)])) _
      refine st5 _ ?_
      show Steps p.tables e below (T5.setTop (mkF m 11 #[.val (.ref a1)] [(.ref w_FORCED_COMPLETE), (.ref a1)])) _
      exact k)
    by_cases hc7 : a1 = w_FORCED_COMPLETE
    · skip
      obtain ⟨fs, hr, hrun, hended, hW, hsame⟩ := X5.leave (v := some (.int (1 : Int32))) (fun h => by rw [Bd.returns] at h; cases h)
      refine ⟨_, _, pre6 _ ?_, hrun, hended, _, _, rfl, ?_, ⟨_, rfl⟩, hW, hsame.mono (by decide) (by decide)⟩
      · skip
        refine Jvm.RoadKit.acmp (g := (mkF m 11 #[.val (.ref a1)] [(.ref w_FORCED_COMPLETE), (.ref a1)])) X5 hx rfl rfl rfl (pc0 := 11) (pc' := 14) (same := true) rfl (hb hby d3_11) rfl (decide_eq_true (congrArg Value.ref hc7)) (by decide) (by decide) ?_
        show Steps p.tables e below (T5.setTop (mkF m 14 #[.val (.ref a1)] [])) _
        refine XS.iconst X5.here hx rfl (hb hby d3_14) ?_
        show Steps p.tables e below (T5.setTop (mkF m 15 #[.val (.ref a1)] [(.int (1 : Int32))])) _
        refine XS.goto X5.here hx rfl (pc0 := 15) (pc' := 19) rfl (hb hby d3_15) (by decide) (by decide) ?_
        show Steps p.tables e below (T5.setTop (mkF m 19 #[.val (.ref a1)] [(.int (1 : Int32))])) _
        exact retN X5 hx (t := .boolean) Bd.returns (by simp) (hb hby d3_19) hr
      · show Q_rm3 Z a1 w_COMPLETE w_FORCED_COMPLETE h0 n0 _ T5.heap _
        rw [e5]
        exact ⟨(by unfold own_q; rw [if_neg hc3, if_pos hc7]), N0, rfl⟩
    · skip
      obtain ⟨fs, hr, hrun, hended, hW, hsame⟩ := X5.leave (v := some (.int (0 : Int32))) (fun h => by rw [Bd.returns] at h; cases h)
      refine ⟨_, _, pre6 _ ?_, hrun, hended, _, _, rfl, ?_, ⟨_, rfl⟩, hW, hsame.mono (by decide) (by decide)⟩
      · skip
        refine Jvm.RoadKit.acmp (g := (mkF m 11 #[.val (.ref a1)] [(.ref w_FORCED_COMPLETE), (.ref a1)])) X5 hx rfl rfl rfl (pc0 := 11) (pc' := 18) (same := false) rfl (hb hby d3_11) rfl (decide_eq_false fun q => hc7 (Value.ref.inj q)) (by decide) (by decide) ?_
        show Steps p.tables e below (T5.setTop (mkF m 18 #[.val (.ref a1)] [])) _
        refine XS.iconst X5.here hx rfl (hb hby d3_18) ?_
        show Steps p.tables e below (T5.setTop (mkF m 19 #[.val (.ref a1)] [(.int (0 : Int32))])) _
        exact retN X5 hx (t := .boolean) Bd.returns (by simp) (hb hby d3_19) hr
      · show Q_rm3 Z a1 w_COMPLETE w_FORCED_COMPLETE h0 n0 _ T5.heap _
        rw [e5]
        exact ⟨(by unfold own_q; rw [if_neg hc3, if_neg hc7]), N0, rfl⟩
theorem ef_rm2 (m : MethodId) (x0 : Addr) : entryFrame m #[(.ref x0)] 1 = mkF m 0 #[.val (.ref x0)] [] := by first | (simp [entryFrame, mkF, argsToLocals, Value.category]; done) | rfl
def Q_rm2 (Z : State) (a1 : Addr) (w_COMPLETE : Addr) (w_FORCED_COMPLETE : Addr) (w_DELETED : Addr) (w_FAILED : Addr) (h0 : Heap) (n0 : Nat) (v : Option Value) (h : Heap) (L : List Loc) : Prop := v = some (.int (own_f a1 w_COMPLETE w_FORCED_COMPLETE w_DELETED w_FAILED)) ∧ Fr n0 L ∧ h = h0
set_option maxRecDepth 65536 in
set_option maxHeartbeats 40000000 in
theorem rm2 (l : Launch) (Z : State) (a0 : Array Value) (hw : ∀ d ∈ tables_1, d.before a0 Z = true) (ws : List Jvm.Cond) (a1 : Addr) (w_COMPLETE : Addr) (w_FORCED_COMPLETE : Addr) (w_DELETED : Addr) (w_FAILED : Addr) (h0 : Heap) (n0 : Nat) (Z0 : n0 ≤ h0.size) (P0 : Old Z n0 h0) (P1 : Sta Z Z.heap "com/example/able_hands/ablehands/WorkItemStatus" "COMPLETE" "Lcom/example/able_hands/ablehands/WorkItemStatus;" (.ref w_COMPLETE)) (P2 : Sta Z Z.heap "com/example/able_hands/ablehands/WorkItemStatus" "FORCED_COMPLETE" "Lcom/example/able_hands/ablehands/WorkItemStatus;" (.ref w_FORCED_COMPLETE)) (P3 : Sta Z Z.heap "com/example/able_hands/ablehands/WorkItemStatus" "DELETED" "Lcom/example/able_hands/ablehands/WorkItemStatus;" (.ref w_DELETED)) (P4 : Sta Z Z.heap "com/example/able_hands/ablehands/WorkItemStatus" "FAILED" "Lcom/example/able_hands/ablehands/WorkItemStatus;" (.ref w_FAILED)) (P5 : Exa Z h0 a1 "com/example/able_hands/ablehands/WorkItemStatus") :
    MetFree l (⟨"com/example/able_hands/ablehands/WorkItemStatus", "isFinished", "()Z"⟩ : MethodName) (head1 (Jvm.Cond.code (⟨"com/example/able_hands/ablehands/WorkItemStatus", "isFinished", "()Z"⟩ : MethodName) prog_85_method_11_code 1 (some .boolean) :: ws) ({ frames := 1, cells := 0, slots := 0, locals := 12 } : Room)) (fun a U => a = #[(.ref a1)] ∧ Z.Warmed39 U.vm ∧ U.heap = h0) (fun _ _ _ _ _ => True) (fun _ U o U' => ∃ v L, o = .returned v ∧ Q_rm2 Z a1 w_COMPLETE w_FORCED_COMPLETE w_DELETED w_FAILED h0 n0 v U'.heap L ∧ FrameEnd U o U' L ({ frames := 1, cells := 0, slots := 0, locals := 12 } : Room).cells ({ frames := 1, cells := 0, slots := 0, locals := 12 } : Room).slots) := by
  refine MetFree.of_bodySF (plainFor_of_name pn_1) hisR ?_
  intro p e s m args below meth c s₁ Bd hml0 hP hK
  obtain ⟨rfl, hZ, hh⟩ := hP
  have hx := Bd.exec
  have hby := Bd.bytes
  have hml : c.maxLocals = 1 := hml0
  have hown : s.vm.findClass "com/example/able_hands/ablehands/WorkItemStatus" = some m.cls := findClass_of_methodNamed Bd.named
  have hnm := (name_of_methodNamed Bd.named Bd.method).1
  have X0 : Stand p l e ({ frames := 1, cells := 0, slots := 0, locals := 12 } : Room) s m #[(.ref a1)] below meth c s₁ [] 0 0 := Stand.of_body Bd
  have e0 : s₁.heap = h0 := by rw [← hh, Bd.state]; rfl
  have N0 := Fr.nil n0
  have KR : Keep h0 h0 [] := Keep.refl h0 _
  have pre0 : ∀ t, Steps p.tables e below (s₁.setTop (mkF m 0 #[.val (.ref a1)] [])) t → Steps p.tables e below (s₁.setTop (entryFrame m #[(.ref a1)] 1)) t := fun t k => castTop (ef_rm2 m (a1)) k
  obtain ⟨cq1, kq1, q1a, q1b, q1c⟩ := isOf hZ e0 P5
  obtain ⟨_, _, ⟨T1, L1, k1, n1⟩, -, X1, ⟨Lc1, hQ1, l1, y1, z1⟩, st1⟩ := X0.virtualBack hx (y := (⟨"com/example/able_hands/ablehands/WorkItemStatus", "isCompleted", "()Z"⟩ : MethodName)) (z := (⟨"com/example/able_hands/ablehands/WorkItemStatus", "isCompleted", "()Z"⟩ : MethodName)) hown (mvT hZ (kw13 hw)) (mvT hZ (kw14 hw)) (notFace_of_selects (args := #[]) (mvT hZ (kw16 hw))) (mvT hZ (kw16 hw)) (mvT hZ (kw15 hw)) (by decide) (backOf (W := 0) (rm3 l Z a0 hw [] a1 w_COMPLETE w_FORCED_COMPLETE h0 n0 Z0 P0 P1 P2) hZ (kw17 hw) (kw6 hw) (by decide) (by decide)) q1a q1c (g := (mkF m 1 #[.val (.ref a1)] [(.ref a1)])) rfl (by rw [hml]; rfl) (Steps.refl _) (argsL := []) (rest := []) (lenOf pd_0 rfl) rfl (by show 2 * 0 + _ ≤ _; exact Nat.le_of_eq rfl) (hb hby d2_1) (fun _ _ => ⟨rfl, e0, (by decide : 0 + 0 ≤ _), (by decide : 0 + 0 ≤ _)⟩)
  dsimp only [Pt.U, Pt.locs, Pt.cells, Pt.slots] at X1 l1 y1 z1 st1 hQ1
  subst l1 y1 z1
  obtain ⟨rfl, N1q, e1⟩ := hQ1
  have N1 := Fr.app N0 N1q
  have pre2 : ∀ t, Steps p.tables e below (T1.setTop (mkF m 4 #[.val (.ref a1)] [(.int (own_q a1 w_COMPLETE w_FORCED_COMPLETE))])) t → Steps p.tables e below (s₁.setTop (entryFrame m #[(.ref a1)] 1)) t := fun t k => pre0 t (by
    show Steps p.tables e below (s₁.setTop (mkF m 0 #[.val (.ref a1)] [])) _
    refine XS.aloadN X0.here hx rfl (hb hby d2_0) rfl rfl ?_
    show Steps p.tables e below (s₁.setTop (mkF m 1 #[.val (.ref a1)] [(.ref a1)])) _
    refine st1.trans ?_
    show Steps p.tables e below (T1.setTop (mkF m 4 #[.val (.ref a1)] [(.int (own_q a1 w_COMPLETE w_FORCED_COMPLETE))])) _
    exact k)
  by_cases hc3 : (own_q a1 w_COMPLETE w_FORCED_COMPLETE) = (0 : Int32)
  · skip
    obtain ⟨T4, X4, e4, st4⟩ := getS2 X1 hx hZ hown (host := "") (Or.inl (kw22 hw)) Via.refl e1 (Sta.ext P0.2 P3) (g := (mkF m 8 #[.val (.ref a1)] [(.ref a1)])) rfl (hb hby d2_8)
    have pre5 : ∀ t, Steps p.tables e below (T4.setTop (mkF m 11 #[.val (.ref a1)] [(.ref w_DELETED), (.ref a1)])) t → Steps p.tables e below (s₁.setTop (entryFrame m #[(.ref a1)] 1)) t := fun t k => pre2 t (by
      refine XS.ifNo X1.here hx rfl (hb hby d2_4) rfl ((if0 _ _).trans (teq hc3).2) ?_
      show Steps p.tables e below (T1.setTop (mkF m 7 #[.val (.ref a1)] [])) _
      refine XS.aloadN X1.here hx rfl (hb hby d2_7) rfl rfl ?_
      show Steps p.tables e below (T1.setTop (mkF m 8 #[.val (.ref a1)] [(.ref a1)])) _
      refine st4 _ ?_
      show Steps p.tables e below (T4.setTop (mkF m 11 #[.val (.ref a1)] [(.ref w_DELETED), (.ref a1)])) _
      exact k)
    by_cases hc6 : a1 = w_DELETED
    · skip
      obtain ⟨fs, hr, hrun, hended, hW, hsame⟩ := X4.leave (v := some (.int (1 : Int32))) (fun h => by rw [Bd.returns] at h; cases h)
      refine ⟨_, _, pre5 _ ?_, hrun, hended, _, _, rfl, ?_, ⟨_, rfl⟩, hW, hsame.mono (by decide) (by decide)⟩
      · skip
        refine Jvm.RoadKit.acmp (g := (mkF m 11 #[.val (.ref a1)] [(.ref w_DELETED), (.ref a1)])) X4 hx rfl rfl rfl (pc0 := 11) (pc' := 21) (same := true) rfl (hb hby d2_11) rfl (decide_eq_true (congrArg Value.ref hc6)) (by decide) (by decide) ?_
        show Steps p.tables e below (T4.setTop (mkF m 21 #[.val (.ref a1)] [])) _
        refine XS.iconst X4.here hx rfl (hb hby d2_21) ?_
        show Steps p.tables e below (T4.setTop (mkF m 22 #[.val (.ref a1)] [(.int (1 : Int32))])) _
        refine XS.goto X4.here hx rfl (pc0 := 22) (pc' := 26) rfl (hb hby d2_22) (by decide) (by decide) ?_
        show Steps p.tables e below (T4.setTop (mkF m 26 #[.val (.ref a1)] [(.int (1 : Int32))])) _
        exact retN X4 hx (t := .boolean) Bd.returns (by simp) (hb hby d2_26) hr
      · show Q_rm2 Z a1 w_COMPLETE w_FORCED_COMPLETE w_DELETED w_FAILED h0 n0 _ T4.heap _
        rw [e4]
        exact ⟨(by unfold own_f; rw [if_pos hc3, if_pos hc6]), N1, rfl⟩
    · skip
      obtain ⟨T8, X8, e8, st8⟩ := getS2 X4 hx hZ hown (host := "") (Or.inl (kw24 hw)) Via.refl e4 (Sta.ext P0.2 P4) (g := (mkF m 15 #[.val (.ref a1)] [(.ref a1)])) rfl (hb hby d2_15)
      have pre9 : ∀ t, Steps p.tables e below (T8.setTop (mkF m 18 #[.val (.ref a1)] [(.ref w_FAILED), (.ref a1)])) t → Steps p.tables e below (s₁.setTop (entryFrame m #[(.ref a1)] 1)) t := fun t k => pre5 t (by
        refine Jvm.RoadKit.acmp (g := (mkF m 11 #[.val (.ref a1)] [(.ref w_DELETED), (.ref a1)])) X4 hx rfl rfl rfl (pc0 := 11) (pc' := 14) (same := false) rfl (hb hby d2_11) rfl (decide_eq_false fun q => hc6 (Value.ref.inj q)) (by decide) (by decide) ?_
        show Steps p.tables e below (T4.setTop (mkF m 14 #[.val (.ref a1)] [])) _
        refine XS.aloadN X4.here hx rfl (hb hby d2_14) rfl rfl ?_
        show Steps p.tables e below (T4.setTop (mkF m 15 #[.val (.ref a1)] [(.ref a1)])) _
        refine st8 _ ?_
        show Steps p.tables e below (T8.setTop (mkF m 18 #[.val (.ref a1)] [(.ref w_FAILED), (.ref a1)])) _
        exact k)
      by_cases hc10 : a1 = w_FAILED
      · skip
        obtain ⟨fs, hr, hrun, hended, hW, hsame⟩ := X8.leave (v := some (.int (1 : Int32))) (fun h => by rw [Bd.returns] at h; cases h)
        refine ⟨_, _, pre9 _ ?_, hrun, hended, _, _, rfl, ?_, ⟨_, rfl⟩, hW, hsame.mono (by decide) (by decide)⟩
        · skip
          refine Jvm.RoadKit.acmp (g := (mkF m 18 #[.val (.ref a1)] [(.ref w_FAILED), (.ref a1)])) X8 hx rfl rfl rfl (pc0 := 18) (pc' := 21) (same := true) rfl (hb hby d2_18) rfl (decide_eq_true (congrArg Value.ref hc10)) (by decide) (by decide) ?_
          show Steps p.tables e below (T8.setTop (mkF m 21 #[.val (.ref a1)] [])) _
          refine XS.iconst X8.here hx rfl (hb hby d2_21) ?_
          show Steps p.tables e below (T8.setTop (mkF m 22 #[.val (.ref a1)] [(.int (1 : Int32))])) _
          refine XS.goto X8.here hx rfl (pc0 := 22) (pc' := 26) rfl (hb hby d2_22) (by decide) (by decide) ?_
          show Steps p.tables e below (T8.setTop (mkF m 26 #[.val (.ref a1)] [(.int (1 : Int32))])) _
          exact retN X8 hx (t := .boolean) Bd.returns (by simp) (hb hby d2_26) hr
        · show Q_rm2 Z a1 w_COMPLETE w_FORCED_COMPLETE w_DELETED w_FAILED h0 n0 _ T8.heap _
          rw [e8]
          exact ⟨(by unfold own_f; rw [if_pos hc3, if_neg hc6, if_pos hc10]), N1, rfl⟩
      · skip
        obtain ⟨fs, hr, hrun, hended, hW, hsame⟩ := X8.leave (v := some (.int (0 : Int32))) (fun h => by rw [Bd.returns] at h; cases h)
        refine ⟨_, _, pre9 _ ?_, hrun, hended, _, _, rfl, ?_, ⟨_, rfl⟩, hW, hsame.mono (by decide) (by decide)⟩
        · skip
          refine Jvm.RoadKit.acmp (g := (mkF m 18 #[.val (.ref a1)] [(.ref w_FAILED), (.ref a1)])) X8 hx rfl rfl rfl (pc0 := 18) (pc' := 25) (same := false) rfl (hb hby d2_18) rfl (decide_eq_false fun q => hc10 (Value.ref.inj q)) (by decide) (by decide) ?_
          show Steps p.tables e below (T8.setTop (mkF m 25 #[.val (.ref a1)] [])) _
          refine XS.iconst X8.here hx rfl (hb hby d2_25) ?_
          show Steps p.tables e below (T8.setTop (mkF m 26 #[.val (.ref a1)] [(.int (0 : Int32))])) _
          exact retN X8 hx (t := .boolean) Bd.returns (by simp) (hb hby d2_26) hr
        · show Q_rm2 Z a1 w_COMPLETE w_FORCED_COMPLETE w_DELETED w_FAILED h0 n0 _ T8.heap _
          rw [e8]
          exact ⟨(by unfold own_f; rw [if_pos hc3, if_neg hc6, if_neg hc10]), N1, rfl⟩
  · skip
    obtain ⟨fs, hr, hrun, hended, hW, hsame⟩ := X1.leave (v := some (.int (1 : Int32))) (fun h => by rw [Bd.returns] at h; cases h)
    refine ⟨_, _, pre2 _ ?_, hrun, hended, _, _, rfl, ?_, ⟨_, rfl⟩, hW, hsame.mono (by decide) (by decide)⟩
    · skip
      refine XS.ifYes X1.here hx rfl (pc0 := 4) (pc' := 21) rfl (hb hby d2_4) rfl ((if0 _ _).trans (feq hc3).2) (by decide) (by decide) ?_
      show Steps p.tables e below (T1.setTop (mkF m 21 #[.val (.ref a1)] [])) _
      refine XS.iconst X1.here hx rfl (hb hby d2_21) ?_
      show Steps p.tables e below (T1.setTop (mkF m 22 #[.val (.ref a1)] [(.int (1 : Int32))])) _
      refine XS.goto X1.here hx rfl (pc0 := 22) (pc' := 26) rfl (hb hby d2_22) (by decide) (by decide) ?_
      show Steps p.tables e below (T1.setTop (mkF m 26 #[.val (.ref a1)] [(.int (1 : Int32))])) _
      exact retN X1 hx (t := .boolean) Bd.returns (by simp) (hb hby d2_26) hr
    · show Q_rm2 Z a1 w_COMPLETE w_FORCED_COMPLETE w_DELETED w_FAILED h0 n0 _ T1.heap _
      rw [e1]
      exact ⟨(by unfold own_f; rw [if_neg hc3]), N1, rfl⟩
theorem ef_rm0 (m : MethodId) (x0 : Int32) : entryFrame m #[(.int x0)] maxLocals = mkF m 0 #[.val (.int x0), .unset, .unset, .unset] [] := by first | (simp [entryFrame, mkF, argsToLocals, Value.category, maxLocals]; done) | rfl
def Q_rm0 (Z : State) (p1 : Int32) (w_ENABLED : Addr) (w_FIRED : Addr) (w_EXECUTING : Addr) (w_COMPLETE : Addr) (w_FORCED_COMPLETE : Addr) (w_FAILED : Addr) (w_IS_PARENT : Addr) (w_SUSPENDED : Addr) (w_DEADLOCKED : Addr) (w_DELETED : Addr) (w_WITHDRAWN : Addr) (w_CANCELLED_BY_CASE : Addr) (w_DISCARDED : Addr) (h0 : Heap) (n0 : Nat) (v : Option Value) (h : Heap) (L : List Loc) : Prop := v = some (.int (1 : Int32)) ∧ Fr n0 L ∧ h = h0
set_option maxRecDepth 65536 in
set_option maxHeartbeats 40000000 in
theorem rm0 (l : Launch) (Z : State) (a0 : Array Value) (hw : ∀ d ∈ tables_1, d.before a0 Z = true) (ws : List Jvm.Cond) (p1 : Int32) (w_ENABLED : Addr) (w_FIRED : Addr) (w_EXECUTING : Addr) (w_COMPLETE : Addr) (w_FORCED_COMPLETE : Addr) (w_FAILED : Addr) (w_IS_PARENT : Addr) (w_SUSPENDED : Addr) (w_DEADLOCKED : Addr) (w_DELETED : Addr) (w_WITHDRAWN : Addr) (w_CANCELLED_BY_CASE : Addr) (w_DISCARDED : Addr) (h0 : Heap) (n0 : Nat) (Z0 : n0 ≤ h0.size) (P0 : Old Z n0 h0) (P1 : Sta Z Z.heap "com/example/able_hands/ablehands/WorkItemStatus" "ENABLED" "Lcom/example/able_hands/ablehands/WorkItemStatus;" (.ref w_ENABLED)) (P2 : Sta Z Z.heap "com/example/able_hands/ablehands/WorkItemStatus" "FIRED" "Lcom/example/able_hands/ablehands/WorkItemStatus;" (.ref w_FIRED)) (P3 : Sta Z Z.heap "com/example/able_hands/ablehands/WorkItemStatus" "EXECUTING" "Lcom/example/able_hands/ablehands/WorkItemStatus;" (.ref w_EXECUTING)) (P4 : Sta Z Z.heap "com/example/able_hands/ablehands/WorkItemStatus" "COMPLETE" "Lcom/example/able_hands/ablehands/WorkItemStatus;" (.ref w_COMPLETE)) (P5 : Sta Z Z.heap "com/example/able_hands/ablehands/WorkItemStatus" "FORCED_COMPLETE" "Lcom/example/able_hands/ablehands/WorkItemStatus;" (.ref w_FORCED_COMPLETE)) (P6 : Sta Z Z.heap "com/example/able_hands/ablehands/WorkItemStatus" "FAILED" "Lcom/example/able_hands/ablehands/WorkItemStatus;" (.ref w_FAILED)) (P7 : Sta Z Z.heap "com/example/able_hands/ablehands/WorkItemStatus" "IS_PARENT" "Lcom/example/able_hands/ablehands/WorkItemStatus;" (.ref w_IS_PARENT)) (P8 : Sta Z Z.heap "com/example/able_hands/ablehands/WorkItemStatus" "SUSPENDED" "Lcom/example/able_hands/ablehands/WorkItemStatus;" (.ref w_SUSPENDED)) (P9 : Sta Z Z.heap "com/example/able_hands/ablehands/WorkItemStatus" "DEADLOCKED" "Lcom/example/able_hands/ablehands/WorkItemStatus;" (.ref w_DEADLOCKED)) (P10 : Sta Z Z.heap "com/example/able_hands/ablehands/WorkItemStatus" "DELETED" "Lcom/example/able_hands/ablehands/WorkItemStatus;" (.ref w_DELETED)) (P11 : Sta Z Z.heap "com/example/able_hands/ablehands/WorkItemStatus" "WITHDRAWN" "Lcom/example/able_hands/ablehands/WorkItemStatus;" (.ref w_WITHDRAWN)) (P12 : Sta Z Z.heap "com/example/able_hands/ablehands/WorkItemStatus" "CANCELLED_BY_CASE" "Lcom/example/able_hands/ablehands/WorkItemStatus;" (.ref w_CANCELLED_BY_CASE)) (P13 : Sta Z Z.heap "com/example/able_hands/ablehands/WorkItemStatus" "DISCARDED" "Lcom/example/able_hands/ablehands/WorkItemStatus;" (.ref w_DISCARDED)) (P14 : Exa Z h0 w_ENABLED "com/example/able_hands/ablehands/WorkItemStatus") (P15 : Exa Z h0 w_FIRED "com/example/able_hands/ablehands/WorkItemStatus") (P16 : Exa Z h0 w_EXECUTING "com/example/able_hands/ablehands/WorkItemStatus") (P17 : Exa Z h0 w_COMPLETE "com/example/able_hands/ablehands/WorkItemStatus") (P18 : Exa Z h0 w_FORCED_COMPLETE "com/example/able_hands/ablehands/WorkItemStatus") (P19 : Exa Z h0 w_FAILED "com/example/able_hands/ablehands/WorkItemStatus") (P20 : Exa Z h0 w_IS_PARENT "com/example/able_hands/ablehands/WorkItemStatus") (P21 : Exa Z h0 w_SUSPENDED "com/example/able_hands/ablehands/WorkItemStatus") (P22 : Exa Z h0 w_DEADLOCKED "com/example/able_hands/ablehands/WorkItemStatus") (P23 : Exa Z h0 w_DELETED "com/example/able_hands/ablehands/WorkItemStatus") (P24 : Exa Z h0 w_WITHDRAWN "com/example/able_hands/ablehands/WorkItemStatus") (P25 : Exa Z h0 w_CANCELLED_BY_CASE "com/example/able_hands/ablehands/WorkItemStatus") (P26 : Exa Z h0 w_DISCARDED "com/example/able_hands/ablehands/WorkItemStatus") (P27 : Fld Z h0 w_ENABLED "java/lang/Enum" "ordinal" "I" (.int (0 : Int32))) (P28 : Fld Z h0 w_FIRED "java/lang/Enum" "ordinal" "I" (.int (1 : Int32))) (P29 : Fld Z h0 w_EXECUTING "java/lang/Enum" "ordinal" "I" (.int (2 : Int32))) (P30 : Fld Z h0 w_COMPLETE "java/lang/Enum" "ordinal" "I" (.int (3 : Int32))) (P31 : Fld Z h0 w_FORCED_COMPLETE "java/lang/Enum" "ordinal" "I" (.int (4 : Int32))) (P32 : Fld Z h0 w_FAILED "java/lang/Enum" "ordinal" "I" (.int (5 : Int32))) (P33 : Fld Z h0 w_IS_PARENT "java/lang/Enum" "ordinal" "I" (.int (6 : Int32))) (P34 : Fld Z h0 w_SUSPENDED "java/lang/Enum" "ordinal" "I" (.int (7 : Int32))) (P35 : Fld Z h0 w_DEADLOCKED "java/lang/Enum" "ordinal" "I" (.int (8 : Int32))) (P36 : Fld Z h0 w_DELETED "java/lang/Enum" "ordinal" "I" (.int (9 : Int32))) (P37 : Fld Z h0 w_WITHDRAWN "java/lang/Enum" "ordinal" "I" (.int (10 : Int32))) (P38 : Fld Z h0 w_CANCELLED_BY_CASE "java/lang/Enum" "ordinal" "I" (.int (11 : Int32))) (P39 : Fld Z h0 w_DISCARDED "java/lang/Enum" "ordinal" "I" (.int (12 : Int32))) :
    MetFree l x (head1 (Jvm.Cond.code x code maxLocals ret :: ws) room_1) (fun a U => a = #[(.int p1)] ∧ Z.Warmed39 U.vm ∧ U.heap = h0) (fun _ _ _ _ _ => True) (fun _ U o U' => ∃ v L, o = .returned v ∧ Q_rm0 Z p1 w_ENABLED w_FIRED w_EXECUTING w_COMPLETE w_FORCED_COMPLETE w_FAILED w_IS_PARENT w_SUSPENDED w_DEADLOCKED w_DELETED w_WITHDRAWN w_CANCELLED_BY_CASE w_DISCARDED h0 n0 v U'.heap L ∧ FrameEnd U o U' L room_1.cells room_1.slots) := by
  refine MetFree.of_bodySF (plainFor_of_name pn_0) hisR ?_
  intro p e s m args below meth c s₁ Bd hml0 hP hK
  obtain ⟨rfl, hZ, hh⟩ := hP
  have hx := Bd.exec
  have hby := Bd.bytes
  have hml : c.maxLocals = 4 := hml0
  have hown : s.vm.findClass "com/example/able_hands/ablehands/WorkItemStatusIsFinishedPinLaw" = some m.cls := findClass_of_methodNamed Bd.named
  have hnm := (name_of_methodNamed Bd.named Bd.method).1
  have X0 : Stand p l e room_1 s m #[(.int p1)] below meth c s₁ [] 0 0 := Stand.of_body Bd
  have e0 : s₁.heap = h0 := by rw [← hh, Bd.state]; rfl
  have N0 := Fr.nil n0
  have KR : Keep h0 h0 [] := Keep.refl h0 _
  have pre0 : ∀ t, Steps p.tables e below (s₁.setTop (mkF m 0 #[.val (.int p1), .unset, .unset, .unset] [])) t → Steps p.tables e below (s₁.setTop (entryFrame m #[(.int p1)] maxLocals)) t := fun t k => castTop (ef_rm0 m (p1)) k
  obtain ⟨_, _, ⟨T1, L1, k1, n1⟩, -, X1, ⟨Lc1, hQ1, l1, y1, z1⟩, st1⟩ := Jvm.LawKit.callS X0 hx (y := (⟨"com/example/able_hands/ablehands/WorkItemStatusIsFinishedPinLaw", "pick", "(I)Lcom/example/able_hands/ablehands/WorkItemStatus;"⟩ : MethodName)) hown (mvT hZ (kw1 hw)) (mvT hZ (kw2 hw)) (mvT hZ (kw3 hw)) (mvT hZ (kw4 hw)) (by decide) (backOf (W := 0) (rm1 l Z a0 hw [] ((p1 &&& (2147483647 : Int32)) % (13 : Int32)) w_ENABLED w_FIRED w_EXECUTING w_COMPLETE w_FORCED_COMPLETE w_FAILED w_IS_PARENT w_SUSPENDED w_DEADLOCKED w_DELETED w_WITHDRAWN w_CANCELLED_BY_CASE w_DISCARDED h0 n0 Z0 P0 P1 P2 P3 P4 P5 P6 P7 P8 P9 P10 P11 P12 P13) hZ (kw4 hw) (kw3 hw) (by decide) (by decide)) (g := (mkF m 9 #[.val (.int p1), .val (.int ((p1 &&& (2147483647 : Int32)) % (13 : Int32))), .unset, .unset] [(.int ((p1 &&& (2147483647 : Int32)) % (13 : Int32)))])) rfl (by rw [hml]; rfl) (argsL := [(.int ((p1 &&& (2147483647 : Int32)) % (13 : Int32)))]) (rest := []) (lenOf pd_1 rfl) rfl (by show 2 * 0 + _ ≤ _; exact Nat.le_of_eq rfl) (hb hby at_9) (fun _ _ => ⟨rfl, e0, (by decide : 0 + 0 ≤ _), (by decide : 0 + 0 ≤ _)⟩)
  dsimp only [Pt.U, Pt.locs, Pt.cells, Pt.slots] at X1 l1 y1 z1 st1 hQ1
  subst l1 y1 z1
  obtain ⟨rfl, N1q, e1⟩ := hQ1
  have N1 := Fr.app N0 N1q
  have Ep : Exa Z h0 (own_pick ((p1 &&& (2147483647 : Int32)) % (13 : Int32)) w_ENABLED w_FIRED w_EXECUTING w_COMPLETE w_FORCED_COMPLETE w_FAILED w_IS_PARENT w_SUSPENDED w_DEADLOCKED w_DELETED w_WITHDRAWN w_CANCELLED_BY_CASE w_DISCARDED) "com/example/able_hands/ablehands/WorkItemStatus" := own_pick_ind (P := fun z => Exa Z h0 z "com/example/able_hands/ablehands/WorkItemStatus") P14 P15 P16 P17 P18 P19 P20 P21 P22 P23 P24 P25 P26
  have pre2 : ∀ t, Steps p.tables e below (T1.setTop (mkF m 15 #[.val (.int p1), .val (.int ((p1 &&& (2147483647 : Int32)) % (13 : Int32))), .val (.ref (own_pick ((p1 &&& (2147483647 : Int32)) % (13 : Int32)) w_ENABLED w_FIRED w_EXECUTING w_COMPLETE w_FORCED_COMPLETE w_FAILED w_IS_PARENT w_SUSPENDED w_DEADLOCKED w_DELETED w_WITHDRAWN w_CANCELLED_BY_CASE w_DISCARDED)), .unset] [(.int (3 : Int32)), (.int ((p1 &&& (2147483647 : Int32)) % (13 : Int32)))])) t → Steps p.tables e below (s₁.setTop (entryFrame m #[(.int p1)] maxLocals)) t := fun t k => pre0 t (by
    show Steps p.tables e below (s₁.setTop (mkF m 0 #[.val (.int p1), .unset, .unset, .unset] [])) _
    refine XS.iloadN X0.here hx rfl (hb hby at_0) rfl ?_
    show Steps p.tables e below (s₁.setTop (mkF m 1 #[.val (.int p1), .unset, .unset, .unset] [(.int p1)])) _
    refine X0.ldcInt hx hown (mvT hZ (kw0 hw)) (g := (mkF m 1 #[.val (.int p1), .unset, .unset, .unset] [(.int p1)])) rfl (hb hby at_1) _ ?_
    show Steps p.tables e below (s₁.setTop (mkF m 3 #[.val (.int p1), .unset, .unset, .unset] [(.int (2147483647 : Int32)), (.int p1)])) _
    refine XS.iand X0.here hx rfl (hb hby at_3) rfl ?_
    show Steps p.tables e below (s₁.setTop (mkF m 4 #[.val (.int p1), .unset, .unset, .unset] [(.int (p1 &&& (2147483647 : Int32)))])) _
    refine XS.bipush X0.here hx rfl (hb hby at_4) ?_
    show Steps p.tables e below (s₁.setTop (mkF m 6 #[.val (.int p1), .unset, .unset, .unset] [(.int (13 : Int32)), (.int (p1 &&& (2147483647 : Int32)))])) _
    refine iremM X0 hx rfl (hb hby at_6) rfl (by decide) ?_
    show Steps p.tables e below (s₁.setTop (mkF m 7 #[.val (.int p1), .unset, .unset, .unset] [(.int ((p1 &&& (2147483647 : Int32)) % (13 : Int32)))])) _
    refine XS.istoreN X0.here hx rfl (hb hby at_7) rfl (l' := #[.val (.int p1), .val (.int ((p1 &&& (2147483647 : Int32)) % (13 : Int32))), .unset, .unset]) rfl ?_
    show Steps p.tables e below (s₁.setTop (mkF m 8 #[.val (.int p1), .val (.int ((p1 &&& (2147483647 : Int32)) % (13 : Int32))), .unset, .unset] [])) _
    refine XS.iloadN X0.here hx rfl (hb hby at_8) rfl ?_
    show Steps p.tables e below (s₁.setTop (mkF m 9 #[.val (.int p1), .val (.int ((p1 &&& (2147483647 : Int32)) % (13 : Int32))), .unset, .unset] [(.int ((p1 &&& (2147483647 : Int32)) % (13 : Int32)))])) _
    refine st1 _ ?_
    show Steps p.tables e below (T1.setTop (mkF m 12 #[.val (.int p1), .val (.int ((p1 &&& (2147483647 : Int32)) % (13 : Int32))), .unset, .unset] [(.ref (own_pick ((p1 &&& (2147483647 : Int32)) % (13 : Int32)) w_ENABLED w_FIRED w_EXECUTING w_COMPLETE w_FORCED_COMPLETE w_FAILED w_IS_PARENT w_SUSPENDED w_DEADLOCKED w_DELETED w_WITHDRAWN w_CANCELLED_BY_CASE w_DISCARDED))])) _
    refine XS.astoreN X1.here hx rfl (hb hby at_12) rfl rfl (l' := #[.val (.int p1), .val (.int ((p1 &&& (2147483647 : Int32)) % (13 : Int32))), .val (.ref (own_pick ((p1 &&& (2147483647 : Int32)) % (13 : Int32)) w_ENABLED w_FIRED w_EXECUTING w_COMPLETE w_FORCED_COMPLETE w_FAILED w_IS_PARENT w_SUSPENDED w_DEADLOCKED w_DELETED w_WITHDRAWN w_CANCELLED_BY_CASE w_DISCARDED)), .unset]) rfl ?_
    show Steps p.tables e below (T1.setTop (mkF m 13 #[.val (.int p1), .val (.int ((p1 &&& (2147483647 : Int32)) % (13 : Int32))), .val (.ref (own_pick ((p1 &&& (2147483647 : Int32)) % (13 : Int32)) w_ENABLED w_FIRED w_EXECUTING w_COMPLETE w_FORCED_COMPLETE w_FAILED w_IS_PARENT w_SUSPENDED w_DEADLOCKED w_DELETED w_WITHDRAWN w_CANCELLED_BY_CASE w_DISCARDED)), .unset] [])) _
    refine XS.iloadN X1.here hx rfl (hb hby at_13) rfl ?_
    show Steps p.tables e below (T1.setTop (mkF m 14 #[.val (.int p1), .val (.int ((p1 &&& (2147483647 : Int32)) % (13 : Int32))), .val (.ref (own_pick ((p1 &&& (2147483647 : Int32)) % (13 : Int32)) w_ENABLED w_FIRED w_EXECUTING w_COMPLETE w_FORCED_COMPLETE w_FAILED w_IS_PARENT w_SUSPENDED w_DEADLOCKED w_DELETED w_WITHDRAWN w_CANCELLED_BY_CASE w_DISCARDED)), .unset] [(.int ((p1 &&& (2147483647 : Int32)) % (13 : Int32)))])) _
    refine XS.iconst X1.here hx rfl (hb hby at_14) ?_
    show Steps p.tables e below (T1.setTop (mkF m 15 #[.val (.int p1), .val (.int ((p1 &&& (2147483647 : Int32)) % (13 : Int32))), .val (.ref (own_pick ((p1 &&& (2147483647 : Int32)) % (13 : Int32)) w_ENABLED w_FIRED w_EXECUTING w_COMPLETE w_FORCED_COMPLETE w_FAILED w_IS_PARENT w_SUSPENDED w_DEADLOCKED w_DELETED w_WITHDRAWN w_CANCELLED_BY_CASE w_DISCARDED)), .unset] [(.int (3 : Int32)), (.int ((p1 &&& (2147483647 : Int32)) % (13 : Int32)))])) _
    exact k)
  have pre7 : ∀ t, Steps p.tables e below (T1.setTop (mkF m 39 #[.val (.int p1), .val (.int ((p1 &&& (2147483647 : Int32)) % (13 : Int32))), .val (.ref (own_pick ((p1 &&& (2147483647 : Int32)) % (13 : Int32)) w_ENABLED w_FIRED w_EXECUTING w_COMPLETE w_FORCED_COMPLETE w_FAILED w_IS_PARENT w_SUSPENDED w_DEADLOCKED w_DELETED w_WITHDRAWN w_CANCELLED_BY_CASE w_DISCARDED)), .unset] [(.int (if ((p1 &&& (2147483647 : Int32)) % (13 : Int32)) = (3 : Int32) then (1 : Int32) else (if ((p1 &&& (2147483647 : Int32)) % (13 : Int32)) = (4 : Int32) then (1 : Int32) else (if ((p1 &&& (2147483647 : Int32)) % (13 : Int32)) = (5 : Int32) then (1 : Int32) else (if ((p1 &&& (2147483647 : Int32)) % (13 : Int32)) = (9 : Int32) then (1 : Int32) else (0 : Int32))))))])) t → Steps p.tables e below (s₁.setTop (entryFrame m #[(.int p1)] maxLocals)) t := fun t k => pre2 t (by
    by_cases hc3 : ((p1 &&& (2147483647 : Int32)) % (13 : Int32)) = (3 : Int32)
    · skip
      refine XS.icmpYes X1.here hx rfl (pc0 := 15) (pc' := 34) rfl (hb hby at_15) rfl (teq hc3).1 (by decide) (by decide) ?_
      show Steps p.tables e below (T1.setTop (mkF m 34 #[.val (.int p1), .val (.int ((p1 &&& (2147483647 : Int32)) % (13 : Int32))), .val (.ref (own_pick ((p1 &&& (2147483647 : Int32)) % (13 : Int32)) w_ENABLED w_FIRED w_EXECUTING w_COMPLETE w_FORCED_COMPLETE w_FAILED w_IS_PARENT w_SUSPENDED w_DEADLOCKED w_DELETED w_WITHDRAWN w_CANCELLED_BY_CASE w_DISCARDED)), .unset] [])) _
      refine XS.iconst X1.here hx rfl (hb hby at_34) ?_
      show Steps p.tables e below (T1.setTop (mkF m 35 #[.val (.int p1), .val (.int ((p1 &&& (2147483647 : Int32)) % (13 : Int32))), .val (.ref (own_pick ((p1 &&& (2147483647 : Int32)) % (13 : Int32)) w_ENABLED w_FIRED w_EXECUTING w_COMPLETE w_FORCED_COMPLETE w_FAILED w_IS_PARENT w_SUSPENDED w_DEADLOCKED w_DELETED w_WITHDRAWN w_CANCELLED_BY_CASE w_DISCARDED)), .unset] [(.int (1 : Int32))])) _
      refine XS.goto X1.here hx rfl (pc0 := 35) (pc' := 39) rfl (hb hby at_35) (by decide) (by decide) ?_
      show Steps p.tables e below (T1.setTop (mkF m 39 #[.val (.int p1), .val (.int ((p1 &&& (2147483647 : Int32)) % (13 : Int32))), .val (.ref (own_pick ((p1 &&& (2147483647 : Int32)) % (13 : Int32)) w_ENABLED w_FIRED w_EXECUTING w_COMPLETE w_FORCED_COMPLETE w_FAILED w_IS_PARENT w_SUSPENDED w_DEADLOCKED w_DELETED w_WITHDRAWN w_CANCELLED_BY_CASE w_DISCARDED)), .unset] [(.int (1 : Int32))])) _
      simp only [if_pos hc3] at k; exact k
    · skip
      refine XS.icmpNo X1.here hx rfl (hb hby at_15) rfl (feq hc3).1 ?_
      show Steps p.tables e below (T1.setTop (mkF m 18 #[.val (.int p1), .val (.int ((p1 &&& (2147483647 : Int32)) % (13 : Int32))), .val (.ref (own_pick ((p1 &&& (2147483647 : Int32)) % (13 : Int32)) w_ENABLED w_FIRED w_EXECUTING w_COMPLETE w_FORCED_COMPLETE w_FAILED w_IS_PARENT w_SUSPENDED w_DEADLOCKED w_DELETED w_WITHDRAWN w_CANCELLED_BY_CASE w_DISCARDED)), .unset] [])) _
      refine XS.iloadN X1.here hx rfl (hb hby at_18) rfl ?_
      show Steps p.tables e below (T1.setTop (mkF m 19 #[.val (.int p1), .val (.int ((p1 &&& (2147483647 : Int32)) % (13 : Int32))), .val (.ref (own_pick ((p1 &&& (2147483647 : Int32)) % (13 : Int32)) w_ENABLED w_FIRED w_EXECUTING w_COMPLETE w_FORCED_COMPLETE w_FAILED w_IS_PARENT w_SUSPENDED w_DEADLOCKED w_DELETED w_WITHDRAWN w_CANCELLED_BY_CASE w_DISCARDED)), .unset] [(.int ((p1 &&& (2147483647 : Int32)) % (13 : Int32)))])) _
      refine XS.iconst X1.here hx rfl (hb hby at_19) ?_
      show Steps p.tables e below (T1.setTop (mkF m 20 #[.val (.int p1), .val (.int ((p1 &&& (2147483647 : Int32)) % (13 : Int32))), .val (.ref (own_pick ((p1 &&& (2147483647 : Int32)) % (13 : Int32)) w_ENABLED w_FIRED w_EXECUTING w_COMPLETE w_FORCED_COMPLETE w_FAILED w_IS_PARENT w_SUSPENDED w_DEADLOCKED w_DELETED w_WITHDRAWN w_CANCELLED_BY_CASE w_DISCARDED)), .unset] [(.int (4 : Int32)), (.int ((p1 &&& (2147483647 : Int32)) % (13 : Int32)))])) _
      by_cases hc4 : ((p1 &&& (2147483647 : Int32)) % (13 : Int32)) = (4 : Int32)
      · skip
        refine XS.icmpYes X1.here hx rfl (pc0 := 20) (pc' := 34) rfl (hb hby at_20) rfl (teq hc4).1 (by decide) (by decide) ?_
        show Steps p.tables e below (T1.setTop (mkF m 34 #[.val (.int p1), .val (.int ((p1 &&& (2147483647 : Int32)) % (13 : Int32))), .val (.ref (own_pick ((p1 &&& (2147483647 : Int32)) % (13 : Int32)) w_ENABLED w_FIRED w_EXECUTING w_COMPLETE w_FORCED_COMPLETE w_FAILED w_IS_PARENT w_SUSPENDED w_DEADLOCKED w_DELETED w_WITHDRAWN w_CANCELLED_BY_CASE w_DISCARDED)), .unset] [])) _
        refine XS.iconst X1.here hx rfl (hb hby at_34) ?_
        show Steps p.tables e below (T1.setTop (mkF m 35 #[.val (.int p1), .val (.int ((p1 &&& (2147483647 : Int32)) % (13 : Int32))), .val (.ref (own_pick ((p1 &&& (2147483647 : Int32)) % (13 : Int32)) w_ENABLED w_FIRED w_EXECUTING w_COMPLETE w_FORCED_COMPLETE w_FAILED w_IS_PARENT w_SUSPENDED w_DEADLOCKED w_DELETED w_WITHDRAWN w_CANCELLED_BY_CASE w_DISCARDED)), .unset] [(.int (1 : Int32))])) _
        refine XS.goto X1.here hx rfl (pc0 := 35) (pc' := 39) rfl (hb hby at_35) (by decide) (by decide) ?_
        show Steps p.tables e below (T1.setTop (mkF m 39 #[.val (.int p1), .val (.int ((p1 &&& (2147483647 : Int32)) % (13 : Int32))), .val (.ref (own_pick ((p1 &&& (2147483647 : Int32)) % (13 : Int32)) w_ENABLED w_FIRED w_EXECUTING w_COMPLETE w_FORCED_COMPLETE w_FAILED w_IS_PARENT w_SUSPENDED w_DEADLOCKED w_DELETED w_WITHDRAWN w_CANCELLED_BY_CASE w_DISCARDED)), .unset] [(.int (1 : Int32))])) _
        simp only [if_neg hc3, if_pos hc4] at k; exact k
      · skip
        refine XS.icmpNo X1.here hx rfl (hb hby at_20) rfl (feq hc4).1 ?_
        show Steps p.tables e below (T1.setTop (mkF m 23 #[.val (.int p1), .val (.int ((p1 &&& (2147483647 : Int32)) % (13 : Int32))), .val (.ref (own_pick ((p1 &&& (2147483647 : Int32)) % (13 : Int32)) w_ENABLED w_FIRED w_EXECUTING w_COMPLETE w_FORCED_COMPLETE w_FAILED w_IS_PARENT w_SUSPENDED w_DEADLOCKED w_DELETED w_WITHDRAWN w_CANCELLED_BY_CASE w_DISCARDED)), .unset] [])) _
        refine XS.iloadN X1.here hx rfl (hb hby at_23) rfl ?_
        show Steps p.tables e below (T1.setTop (mkF m 24 #[.val (.int p1), .val (.int ((p1 &&& (2147483647 : Int32)) % (13 : Int32))), .val (.ref (own_pick ((p1 &&& (2147483647 : Int32)) % (13 : Int32)) w_ENABLED w_FIRED w_EXECUTING w_COMPLETE w_FORCED_COMPLETE w_FAILED w_IS_PARENT w_SUSPENDED w_DEADLOCKED w_DELETED w_WITHDRAWN w_CANCELLED_BY_CASE w_DISCARDED)), .unset] [(.int ((p1 &&& (2147483647 : Int32)) % (13 : Int32)))])) _
        refine XS.iconst X1.here hx rfl (hb hby at_24) ?_
        show Steps p.tables e below (T1.setTop (mkF m 25 #[.val (.int p1), .val (.int ((p1 &&& (2147483647 : Int32)) % (13 : Int32))), .val (.ref (own_pick ((p1 &&& (2147483647 : Int32)) % (13 : Int32)) w_ENABLED w_FIRED w_EXECUTING w_COMPLETE w_FORCED_COMPLETE w_FAILED w_IS_PARENT w_SUSPENDED w_DEADLOCKED w_DELETED w_WITHDRAWN w_CANCELLED_BY_CASE w_DISCARDED)), .unset] [(.int (5 : Int32)), (.int ((p1 &&& (2147483647 : Int32)) % (13 : Int32)))])) _
        by_cases hc5 : ((p1 &&& (2147483647 : Int32)) % (13 : Int32)) = (5 : Int32)
        · skip
          refine XS.icmpYes X1.here hx rfl (pc0 := 25) (pc' := 34) rfl (hb hby at_25) rfl (teq hc5).1 (by decide) (by decide) ?_
          show Steps p.tables e below (T1.setTop (mkF m 34 #[.val (.int p1), .val (.int ((p1 &&& (2147483647 : Int32)) % (13 : Int32))), .val (.ref (own_pick ((p1 &&& (2147483647 : Int32)) % (13 : Int32)) w_ENABLED w_FIRED w_EXECUTING w_COMPLETE w_FORCED_COMPLETE w_FAILED w_IS_PARENT w_SUSPENDED w_DEADLOCKED w_DELETED w_WITHDRAWN w_CANCELLED_BY_CASE w_DISCARDED)), .unset] [])) _
          refine XS.iconst X1.here hx rfl (hb hby at_34) ?_
          show Steps p.tables e below (T1.setTop (mkF m 35 #[.val (.int p1), .val (.int ((p1 &&& (2147483647 : Int32)) % (13 : Int32))), .val (.ref (own_pick ((p1 &&& (2147483647 : Int32)) % (13 : Int32)) w_ENABLED w_FIRED w_EXECUTING w_COMPLETE w_FORCED_COMPLETE w_FAILED w_IS_PARENT w_SUSPENDED w_DEADLOCKED w_DELETED w_WITHDRAWN w_CANCELLED_BY_CASE w_DISCARDED)), .unset] [(.int (1 : Int32))])) _
          refine XS.goto X1.here hx rfl (pc0 := 35) (pc' := 39) rfl (hb hby at_35) (by decide) (by decide) ?_
          show Steps p.tables e below (T1.setTop (mkF m 39 #[.val (.int p1), .val (.int ((p1 &&& (2147483647 : Int32)) % (13 : Int32))), .val (.ref (own_pick ((p1 &&& (2147483647 : Int32)) % (13 : Int32)) w_ENABLED w_FIRED w_EXECUTING w_COMPLETE w_FORCED_COMPLETE w_FAILED w_IS_PARENT w_SUSPENDED w_DEADLOCKED w_DELETED w_WITHDRAWN w_CANCELLED_BY_CASE w_DISCARDED)), .unset] [(.int (1 : Int32))])) _
          simp only [if_neg hc3, if_neg hc4, if_pos hc5] at k; exact k
        · skip
          refine XS.icmpNo X1.here hx rfl (hb hby at_25) rfl (feq hc5).1 ?_
          show Steps p.tables e below (T1.setTop (mkF m 28 #[.val (.int p1), .val (.int ((p1 &&& (2147483647 : Int32)) % (13 : Int32))), .val (.ref (own_pick ((p1 &&& (2147483647 : Int32)) % (13 : Int32)) w_ENABLED w_FIRED w_EXECUTING w_COMPLETE w_FORCED_COMPLETE w_FAILED w_IS_PARENT w_SUSPENDED w_DEADLOCKED w_DELETED w_WITHDRAWN w_CANCELLED_BY_CASE w_DISCARDED)), .unset] [])) _
          refine XS.iloadN X1.here hx rfl (hb hby at_28) rfl ?_
          show Steps p.tables e below (T1.setTop (mkF m 29 #[.val (.int p1), .val (.int ((p1 &&& (2147483647 : Int32)) % (13 : Int32))), .val (.ref (own_pick ((p1 &&& (2147483647 : Int32)) % (13 : Int32)) w_ENABLED w_FIRED w_EXECUTING w_COMPLETE w_FORCED_COMPLETE w_FAILED w_IS_PARENT w_SUSPENDED w_DEADLOCKED w_DELETED w_WITHDRAWN w_CANCELLED_BY_CASE w_DISCARDED)), .unset] [(.int ((p1 &&& (2147483647 : Int32)) % (13 : Int32)))])) _
          refine XS.bipush X1.here hx rfl (hb hby at_29) ?_
          show Steps p.tables e below (T1.setTop (mkF m 31 #[.val (.int p1), .val (.int ((p1 &&& (2147483647 : Int32)) % (13 : Int32))), .val (.ref (own_pick ((p1 &&& (2147483647 : Int32)) % (13 : Int32)) w_ENABLED w_FIRED w_EXECUTING w_COMPLETE w_FORCED_COMPLETE w_FAILED w_IS_PARENT w_SUSPENDED w_DEADLOCKED w_DELETED w_WITHDRAWN w_CANCELLED_BY_CASE w_DISCARDED)), .unset] [(.int (9 : Int32)), (.int ((p1 &&& (2147483647 : Int32)) % (13 : Int32)))])) _
          by_cases hc6 : ((p1 &&& (2147483647 : Int32)) % (13 : Int32)) = (9 : Int32)
          · skip
            refine XS.icmpNo X1.here hx rfl (hb hby at_31) rfl (teq hc6).2 ?_
            show Steps p.tables e below (T1.setTop (mkF m 34 #[.val (.int p1), .val (.int ((p1 &&& (2147483647 : Int32)) % (13 : Int32))), .val (.ref (own_pick ((p1 &&& (2147483647 : Int32)) % (13 : Int32)) w_ENABLED w_FIRED w_EXECUTING w_COMPLETE w_FORCED_COMPLETE w_FAILED w_IS_PARENT w_SUSPENDED w_DEADLOCKED w_DELETED w_WITHDRAWN w_CANCELLED_BY_CASE w_DISCARDED)), .unset] [])) _
            refine XS.iconst X1.here hx rfl (hb hby at_34) ?_
            show Steps p.tables e below (T1.setTop (mkF m 35 #[.val (.int p1), .val (.int ((p1 &&& (2147483647 : Int32)) % (13 : Int32))), .val (.ref (own_pick ((p1 &&& (2147483647 : Int32)) % (13 : Int32)) w_ENABLED w_FIRED w_EXECUTING w_COMPLETE w_FORCED_COMPLETE w_FAILED w_IS_PARENT w_SUSPENDED w_DEADLOCKED w_DELETED w_WITHDRAWN w_CANCELLED_BY_CASE w_DISCARDED)), .unset] [(.int (1 : Int32))])) _
            refine XS.goto X1.here hx rfl (pc0 := 35) (pc' := 39) rfl (hb hby at_35) (by decide) (by decide) ?_
            show Steps p.tables e below (T1.setTop (mkF m 39 #[.val (.int p1), .val (.int ((p1 &&& (2147483647 : Int32)) % (13 : Int32))), .val (.ref (own_pick ((p1 &&& (2147483647 : Int32)) % (13 : Int32)) w_ENABLED w_FIRED w_EXECUTING w_COMPLETE w_FORCED_COMPLETE w_FAILED w_IS_PARENT w_SUSPENDED w_DEADLOCKED w_DELETED w_WITHDRAWN w_CANCELLED_BY_CASE w_DISCARDED)), .unset] [(.int (1 : Int32))])) _
            simp only [if_neg hc3, if_neg hc4, if_neg hc5, if_pos hc6] at k; exact k
          · skip
            refine XS.icmpYes X1.here hx rfl (pc0 := 31) (pc' := 38) rfl (hb hby at_31) rfl (feq hc6).2 (by decide) (by decide) ?_
            show Steps p.tables e below (T1.setTop (mkF m 38 #[.val (.int p1), .val (.int ((p1 &&& (2147483647 : Int32)) % (13 : Int32))), .val (.ref (own_pick ((p1 &&& (2147483647 : Int32)) % (13 : Int32)) w_ENABLED w_FIRED w_EXECUTING w_COMPLETE w_FORCED_COMPLETE w_FAILED w_IS_PARENT w_SUSPENDED w_DEADLOCKED w_DELETED w_WITHDRAWN w_CANCELLED_BY_CASE w_DISCARDED)), .unset] [])) _
            refine XS.iconst X1.here hx rfl (hb hby at_38) ?_
            show Steps p.tables e below (T1.setTop (mkF m 39 #[.val (.int p1), .val (.int ((p1 &&& (2147483647 : Int32)) % (13 : Int32))), .val (.ref (own_pick ((p1 &&& (2147483647 : Int32)) % (13 : Int32)) w_ENABLED w_FIRED w_EXECUTING w_COMPLETE w_FORCED_COMPLETE w_FAILED w_IS_PARENT w_SUSPENDED w_DEADLOCKED w_DELETED w_WITHDRAWN w_CANCELLED_BY_CASE w_DISCARDED)), .unset] [(.int (0 : Int32))])) _
            simp only [if_neg hc3, if_neg hc4, if_neg hc5, if_neg hc6] at k; exact k)
  obtain ⟨cq8, kq8, q8a, q8b, q8c⟩ := isOf hZ e1 Ep
  obtain ⟨_, _, ⟨T8, L8, k8, n8⟩, -, X8, ⟨Lc8, hQ8, l8, y8, z8⟩, st8⟩ := X1.virtualBack hx (y := (⟨"com/example/able_hands/ablehands/WorkItemStatus", "isFinished", "()Z"⟩ : MethodName)) (z := (⟨"com/example/able_hands/ablehands/WorkItemStatus", "isFinished", "()Z"⟩ : MethodName)) hown (mvT hZ (kw8 hw)) (mvT hZ (kw9 hw)) (notFace_of_selects (args := #[]) (mvT hZ (kw11 hw))) (mvT hZ (kw11 hw)) (mvT hZ (kw10 hw)) (by decide) (backOf (W := 0) (rm2 l Z a0 hw [] (own_pick ((p1 &&& (2147483647 : Int32)) % (13 : Int32)) w_ENABLED w_FIRED w_EXECUTING w_COMPLETE w_FORCED_COMPLETE w_FAILED w_IS_PARENT w_SUSPENDED w_DEADLOCKED w_DELETED w_WITHDRAWN w_CANCELLED_BY_CASE w_DISCARDED) w_COMPLETE w_FORCED_COMPLETE w_DELETED w_FAILED h0 n0 Z0 P0 P4 P5 P10 P6 Ep) hZ (kw12 hw) (kw6 hw) (by decide) (by decide)) q8a q8c (g := (mkF m 41 #[.val (.int p1), .val (.int ((p1 &&& (2147483647 : Int32)) % (13 : Int32))), .val (.ref (own_pick ((p1 &&& (2147483647 : Int32)) % (13 : Int32)) w_ENABLED w_FIRED w_EXECUTING w_COMPLETE w_FORCED_COMPLETE w_FAILED w_IS_PARENT w_SUSPENDED w_DEADLOCKED w_DELETED w_WITHDRAWN w_CANCELLED_BY_CASE w_DISCARDED)), .val (.int (if ((p1 &&& (2147483647 : Int32)) % (13 : Int32)) = (3 : Int32) then (1 : Int32) else (if ((p1 &&& (2147483647 : Int32)) % (13 : Int32)) = (4 : Int32) then (1 : Int32) else (if ((p1 &&& (2147483647 : Int32)) % (13 : Int32)) = (5 : Int32) then (1 : Int32) else (if ((p1 &&& (2147483647 : Int32)) % (13 : Int32)) = (9 : Int32) then (1 : Int32) else (0 : Int32))))))] [(.ref (own_pick ((p1 &&& (2147483647 : Int32)) % (13 : Int32)) w_ENABLED w_FIRED w_EXECUTING w_COMPLETE w_FORCED_COMPLETE w_FAILED w_IS_PARENT w_SUSPENDED w_DEADLOCKED w_DELETED w_WITHDRAWN w_CANCELLED_BY_CASE w_DISCARDED))])) rfl (by rw [hml]; rfl) (Steps.refl _) (argsL := []) (rest := []) (lenOf pd_0 rfl) rfl (by show 2 * 0 + _ ≤ _; exact Nat.le_of_eq rfl) (hb hby at_41) (fun _ _ => ⟨rfl, e1, (by decide : 0 + 0 ≤ _), (by decide : 0 + 0 ≤ _)⟩)
  dsimp only [Pt.U, Pt.locs, Pt.cells, Pt.slots] at X8 l8 y8 z8 st8 hQ8
  subst l8 y8 z8
  obtain ⟨rfl, N8q, e8⟩ := hQ8
  have N8 := Fr.app N1 N8q
  obtain ⟨fs, hr, hrun, hended, hW, hsame⟩ := X8.leave (v := some (.int (1 : Int32))) (fun h => by rw [Bd.returns] at h; cases h)
  refine ⟨_, _, pre7 _ ?_, hrun, hended, _, _, rfl, ?_, ⟨_, rfl⟩, hW, hsame.mono (by decide) (by decide)⟩
  · skip
    show Steps p.tables e below (T1.setTop (mkF m 39 #[.val (.int p1), .val (.int ((p1 &&& (2147483647 : Int32)) % (13 : Int32))), .val (.ref (own_pick ((p1 &&& (2147483647 : Int32)) % (13 : Int32)) w_ENABLED w_FIRED w_EXECUTING w_COMPLETE w_FORCED_COMPLETE w_FAILED w_IS_PARENT w_SUSPENDED w_DEADLOCKED w_DELETED w_WITHDRAWN w_CANCELLED_BY_CASE w_DISCARDED)), .unset] [(.int (if ((p1 &&& (2147483647 : Int32)) % (13 : Int32)) = (3 : Int32) then (1 : Int32) else (if ((p1 &&& (2147483647 : Int32)) % (13 : Int32)) = (4 : Int32) then (1 : Int32) else (if ((p1 &&& (2147483647 : Int32)) % (13 : Int32)) = (5 : Int32) then (1 : Int32) else (if ((p1 &&& (2147483647 : Int32)) % (13 : Int32)) = (9 : Int32) then (1 : Int32) else (0 : Int32))))))])) _
    refine XS.istoreN X1.here hx rfl (hb hby at_39) rfl (l' := #[.val (.int p1), .val (.int ((p1 &&& (2147483647 : Int32)) % (13 : Int32))), .val (.ref (own_pick ((p1 &&& (2147483647 : Int32)) % (13 : Int32)) w_ENABLED w_FIRED w_EXECUTING w_COMPLETE w_FORCED_COMPLETE w_FAILED w_IS_PARENT w_SUSPENDED w_DEADLOCKED w_DELETED w_WITHDRAWN w_CANCELLED_BY_CASE w_DISCARDED)), .val (.int (if ((p1 &&& (2147483647 : Int32)) % (13 : Int32)) = (3 : Int32) then (1 : Int32) else (if ((p1 &&& (2147483647 : Int32)) % (13 : Int32)) = (4 : Int32) then (1 : Int32) else (if ((p1 &&& (2147483647 : Int32)) % (13 : Int32)) = (5 : Int32) then (1 : Int32) else (if ((p1 &&& (2147483647 : Int32)) % (13 : Int32)) = (9 : Int32) then (1 : Int32) else (0 : Int32))))))]) rfl ?_
    show Steps p.tables e below (T1.setTop (mkF m 40 #[.val (.int p1), .val (.int ((p1 &&& (2147483647 : Int32)) % (13 : Int32))), .val (.ref (own_pick ((p1 &&& (2147483647 : Int32)) % (13 : Int32)) w_ENABLED w_FIRED w_EXECUTING w_COMPLETE w_FORCED_COMPLETE w_FAILED w_IS_PARENT w_SUSPENDED w_DEADLOCKED w_DELETED w_WITHDRAWN w_CANCELLED_BY_CASE w_DISCARDED)), .val (.int (if ((p1 &&& (2147483647 : Int32)) % (13 : Int32)) = (3 : Int32) then (1 : Int32) else (if ((p1 &&& (2147483647 : Int32)) % (13 : Int32)) = (4 : Int32) then (1 : Int32) else (if ((p1 &&& (2147483647 : Int32)) % (13 : Int32)) = (5 : Int32) then (1 : Int32) else (if ((p1 &&& (2147483647 : Int32)) % (13 : Int32)) = (9 : Int32) then (1 : Int32) else (0 : Int32))))))] [])) _
    refine XS.aloadN X1.here hx rfl (hb hby at_40) rfl rfl ?_
    show Steps p.tables e below (T1.setTop (mkF m 41 #[.val (.int p1), .val (.int ((p1 &&& (2147483647 : Int32)) % (13 : Int32))), .val (.ref (own_pick ((p1 &&& (2147483647 : Int32)) % (13 : Int32)) w_ENABLED w_FIRED w_EXECUTING w_COMPLETE w_FORCED_COMPLETE w_FAILED w_IS_PARENT w_SUSPENDED w_DEADLOCKED w_DELETED w_WITHDRAWN w_CANCELLED_BY_CASE w_DISCARDED)), .val (.int (if ((p1 &&& (2147483647 : Int32)) % (13 : Int32)) = (3 : Int32) then (1 : Int32) else (if ((p1 &&& (2147483647 : Int32)) % (13 : Int32)) = (4 : Int32) then (1 : Int32) else (if ((p1 &&& (2147483647 : Int32)) % (13 : Int32)) = (5 : Int32) then (1 : Int32) else (if ((p1 &&& (2147483647 : Int32)) % (13 : Int32)) = (9 : Int32) then (1 : Int32) else (0 : Int32))))))] [(.ref (own_pick ((p1 &&& (2147483647 : Int32)) % (13 : Int32)) w_ENABLED w_FIRED w_EXECUTING w_COMPLETE w_FORCED_COMPLETE w_FAILED w_IS_PARENT w_SUSPENDED w_DEADLOCKED w_DELETED w_WITHDRAWN w_CANCELLED_BY_CASE w_DISCARDED))])) _
    refine st8.trans ?_
    show Steps p.tables e below (T8.setTop (mkF m 44 #[.val (.int p1), .val (.int ((p1 &&& (2147483647 : Int32)) % (13 : Int32))), .val (.ref (own_pick ((p1 &&& (2147483647 : Int32)) % (13 : Int32)) w_ENABLED w_FIRED w_EXECUTING w_COMPLETE w_FORCED_COMPLETE w_FAILED w_IS_PARENT w_SUSPENDED w_DEADLOCKED w_DELETED w_WITHDRAWN w_CANCELLED_BY_CASE w_DISCARDED)), .val (.int (if ((p1 &&& (2147483647 : Int32)) % (13 : Int32)) = (3 : Int32) then (1 : Int32) else (if ((p1 &&& (2147483647 : Int32)) % (13 : Int32)) = (4 : Int32) then (1 : Int32) else (if ((p1 &&& (2147483647 : Int32)) % (13 : Int32)) = (5 : Int32) then (1 : Int32) else (if ((p1 &&& (2147483647 : Int32)) % (13 : Int32)) = (9 : Int32) then (1 : Int32) else (0 : Int32))))))] [(.int (own_f (own_pick ((p1 &&& (2147483647 : Int32)) % (13 : Int32)) w_ENABLED w_FIRED w_EXECUTING w_COMPLETE w_FORCED_COMPLETE w_FAILED w_IS_PARENT w_SUSPENDED w_DEADLOCKED w_DELETED w_WITHDRAWN w_CANCELLED_BY_CASE w_DISCARDED) w_COMPLETE w_FORCED_COMPLETE w_DELETED w_FAILED))])) _
    refine XS.iloadN X8.here hx rfl (hb hby at_44) rfl ?_
    show Steps p.tables e below (T8.setTop (mkF m 45 #[.val (.int p1), .val (.int ((p1 &&& (2147483647 : Int32)) % (13 : Int32))), .val (.ref (own_pick ((p1 &&& (2147483647 : Int32)) % (13 : Int32)) w_ENABLED w_FIRED w_EXECUTING w_COMPLETE w_FORCED_COMPLETE w_FAILED w_IS_PARENT w_SUSPENDED w_DEADLOCKED w_DELETED w_WITHDRAWN w_CANCELLED_BY_CASE w_DISCARDED)), .val (.int (if ((p1 &&& (2147483647 : Int32)) % (13 : Int32)) = (3 : Int32) then (1 : Int32) else (if ((p1 &&& (2147483647 : Int32)) % (13 : Int32)) = (4 : Int32) then (1 : Int32) else (if ((p1 &&& (2147483647 : Int32)) % (13 : Int32)) = (5 : Int32) then (1 : Int32) else (if ((p1 &&& (2147483647 : Int32)) % (13 : Int32)) = (9 : Int32) then (1 : Int32) else (0 : Int32))))))] [(.int (if ((p1 &&& (2147483647 : Int32)) % (13 : Int32)) = (3 : Int32) then (1 : Int32) else (if ((p1 &&& (2147483647 : Int32)) % (13 : Int32)) = (4 : Int32) then (1 : Int32) else (if ((p1 &&& (2147483647 : Int32)) % (13 : Int32)) = (5 : Int32) then (1 : Int32) else (if ((p1 &&& (2147483647 : Int32)) % (13 : Int32)) = (9 : Int32) then (1 : Int32) else (0 : Int32)))))), (.int (own_f (own_pick ((p1 &&& (2147483647 : Int32)) % (13 : Int32)) w_ENABLED w_FIRED w_EXECUTING w_COMPLETE w_FORCED_COMPLETE w_FAILED w_IS_PARENT w_SUSPENDED w_DEADLOCKED w_DELETED w_WITHDRAWN w_CANCELLED_BY_CASE w_DISCARDED) w_COMPLETE w_FORCED_COMPLETE w_DELETED w_FAILED))])) _
    refine XS.icmpNo X8.here hx rfl (hb hby at_45) rfl (teq (own_law (own_rem p1 13 (by decide)) P27 P28 P29 P30 P31 P32 P33 P34 P35 P36 P37 P38 P39)).2 ?_
    show Steps p.tables e below (T8.setTop (mkF m 48 #[.val (.int p1), .val (.int ((p1 &&& (2147483647 : Int32)) % (13 : Int32))), .val (.ref (own_pick ((p1 &&& (2147483647 : Int32)) % (13 : Int32)) w_ENABLED w_FIRED w_EXECUTING w_COMPLETE w_FORCED_COMPLETE w_FAILED w_IS_PARENT w_SUSPENDED w_DEADLOCKED w_DELETED w_WITHDRAWN w_CANCELLED_BY_CASE w_DISCARDED)), .val (.int (if ((p1 &&& (2147483647 : Int32)) % (13 : Int32)) = (3 : Int32) then (1 : Int32) else (if ((p1 &&& (2147483647 : Int32)) % (13 : Int32)) = (4 : Int32) then (1 : Int32) else (if ((p1 &&& (2147483647 : Int32)) % (13 : Int32)) = (5 : Int32) then (1 : Int32) else (if ((p1 &&& (2147483647 : Int32)) % (13 : Int32)) = (9 : Int32) then (1 : Int32) else (0 : Int32))))))] [])) _
    refine XS.iconst X8.here hx rfl (hb hby at_48) ?_
    show Steps p.tables e below (T8.setTop (mkF m 49 #[.val (.int p1), .val (.int ((p1 &&& (2147483647 : Int32)) % (13 : Int32))), .val (.ref (own_pick ((p1 &&& (2147483647 : Int32)) % (13 : Int32)) w_ENABLED w_FIRED w_EXECUTING w_COMPLETE w_FORCED_COMPLETE w_FAILED w_IS_PARENT w_SUSPENDED w_DEADLOCKED w_DELETED w_WITHDRAWN w_CANCELLED_BY_CASE w_DISCARDED)), .val (.int (if ((p1 &&& (2147483647 : Int32)) % (13 : Int32)) = (3 : Int32) then (1 : Int32) else (if ((p1 &&& (2147483647 : Int32)) % (13 : Int32)) = (4 : Int32) then (1 : Int32) else (if ((p1 &&& (2147483647 : Int32)) % (13 : Int32)) = (5 : Int32) then (1 : Int32) else (if ((p1 &&& (2147483647 : Int32)) % (13 : Int32)) = (9 : Int32) then (1 : Int32) else (0 : Int32))))))] [(.int (1 : Int32))])) _
    refine XS.goto X8.here hx rfl (pc0 := 49) (pc' := 53) rfl (hb hby at_49) (by decide) (by decide) ?_
    show Steps p.tables e below (T8.setTop (mkF m 53 #[.val (.int p1), .val (.int ((p1 &&& (2147483647 : Int32)) % (13 : Int32))), .val (.ref (own_pick ((p1 &&& (2147483647 : Int32)) % (13 : Int32)) w_ENABLED w_FIRED w_EXECUTING w_COMPLETE w_FORCED_COMPLETE w_FAILED w_IS_PARENT w_SUSPENDED w_DEADLOCKED w_DELETED w_WITHDRAWN w_CANCELLED_BY_CASE w_DISCARDED)), .val (.int (if ((p1 &&& (2147483647 : Int32)) % (13 : Int32)) = (3 : Int32) then (1 : Int32) else (if ((p1 &&& (2147483647 : Int32)) % (13 : Int32)) = (4 : Int32) then (1 : Int32) else (if ((p1 &&& (2147483647 : Int32)) % (13 : Int32)) = (5 : Int32) then (1 : Int32) else (if ((p1 &&& (2147483647 : Int32)) % (13 : Int32)) = (9 : Int32) then (1 : Int32) else (0 : Int32))))))] [(.int (1 : Int32))])) _
    exact retN X8 hx (t := .boolean) Bd.returns (by simp) (hb hby at_53) hr
  · show Q_rm0 Z p1 w_ENABLED w_FIRED w_EXECUTING w_COMPLETE w_FORCED_COMPLETE w_FAILED w_IS_PARENT w_SUSPENDED w_DEADLOCKED w_DELETED w_WITHDRAWN w_CANCELLED_BY_CASE w_DISCARDED h0 n0 _ T8.heap _
    rw [e8]
    exact ⟨rfl, N8, rfl⟩
set_option maxRecDepth 65536 in
set_option maxHeartbeats 40000000 in
theorem comes_1 {Post : Tables → Env → Array Value → State → Outcome → State → Prop} (hpost : ∀ tb e args s v u, (limb_1_1.after args s (.returned v) u = true ∧ limb_1_2.after args s (.returned v) u = true ∧ True) → FrameEnd s (.returned v) u (Jvm.fieldLocs frame_1_writes args s ++ Jvm.arrayLocs frame_1_arrays args s ++ Jvm.staticLocs frame_1_statics s) 0 0 → Post tb e args s (.returned v) u) :
    ArmFor flags0 classFile x code maxLocals ret World_1 tables_1 room_1 Calls_1 rest_1 Pre_1 Post := by
  intro l hfl _ _ p e ha hc hk s m args below hf hA hF happ hP
  obtain ⟨hcalls, hrest, hpre⟩ := hP
  obtain ⟨-, -, -, hnamed, -, -, -, hat⟩ := (Spec.applies_iff hf).mp happ
  obtain ⟨hg, hn⟩ := and_e (Cond.before_iff.mp (show (Jvm.Cond.and given_1 narrow_1).before args s = true from hpre))
  obtain ⟨g1, g2⟩ := and_e hg
  obtain ⟨g3, g4⟩ := and_e hn
  obtain ⟨g5, g6⟩ := and_e g4
  obtain ⟨g7, g8⟩ := and_e g6
  obtain ⟨g9, g10⟩ := and_e g8
  obtain ⟨g11, g12⟩ := and_e g10
  obtain ⟨g13, g14⟩ := and_e g12
  obtain ⟨g15, g16⟩ := and_e g14
  obtain ⟨g17, g18⟩ := and_e g16
  obtain ⟨g19, g20⟩ := and_e g18
  obtain ⟨g21, g22⟩ := and_e g20
  obtain ⟨g23, g24⟩ := and_e g22
  obtain ⟨g25, g26⟩ := and_e g24
  obtain ⟨g27, g28⟩ := and_e g26
  obtain ⟨g29, g30⟩ := and_e g28
  obtain ⟨g31, g32⟩ := and_e g30
  obtain ⟨g33, g34⟩ := and_e g32
  obtain ⟨g35, g36⟩ := and_e g34
  obtain ⟨g37, g38⟩ := and_e g36
  obtain ⟨g39, g40⟩ := and_e g38
  obtain ⟨g41, g42⟩ := and_e g40
  obtain ⟨g43, g44⟩ := and_e g42
  obtain ⟨g45, g46⟩ := and_e g44
  obtain ⟨g47, g48⟩ := and_e g46
  obtain ⟨g49, g50⟩ := and_e g48
  obtain ⟨g51, g52⟩ := and_e g50
  obtain ⟨w0, rfl⟩ : ∃ w0 : Value, args = #[w0] := by
    have hs : args.size = 1 := by simpa [Cond.value, given_1] using g1
    obtain ⟨L⟩ := args
    match L, hs with
    | [w0], _ => exact ⟨w0, rfl⟩
  have hw0 := fun d (hd : d ∈ tables_1) => atoms_spec (ws := Jvm.Cond.code x code maxLocals ret :: tables_1) hat d (List.mem_cons_of_mem _ hd)
  have hfit : Fit s := fun {y c} hc i hi => by
    obtain ⟨ha, rfl⟩ := Array.getElem?_eq_some_iff.mp hc
    have q := List.all_eq_true.mp ((Array.all_eq_true_iff_forall_mem.mp hF) _ (Array.getElem_mem ha)) i (List.mem_range.mpr hi)
    simpa [Array.getElem?_eq_getElem hi] using q
  have hw := hw0
  obtain ⟨i0, ei0⟩ := is_v g2
  obtain rfl : w0 = (.int i0) := Option.some.inj ei0
  obtain ⟨w_ENABLED, ev_w_ENABLED⟩ := exa_v g3
  have S_w_ENABLED := Sta.start ev_w_ENABLED (Or.inr ⟨(kw6 hw), (kw7 hw)⟩)
  have Ex_w_ENABLED : Exa s s.heap w_ENABLED "com/example/able_hands/ablehands/WorkItemStatus" := Exa.start ev_w_ENABLED g3
  obtain ⟨w_COMPLETE, ev_w_COMPLETE⟩ := exa_v g5
  have S_w_COMPLETE := Sta.start ev_w_COMPLETE (Or.inr ⟨(kw6 hw), (kw19 hw)⟩)
  have Ex_w_COMPLETE : Exa s s.heap w_COMPLETE "com/example/able_hands/ablehands/WorkItemStatus" := Exa.start ev_w_COMPLETE g5
  obtain ⟨w_FORCED_COMPLETE, ev_w_FORCED_COMPLETE⟩ := exa_v g11
  have S_w_FORCED_COMPLETE := Sta.start ev_w_FORCED_COMPLETE (Or.inr ⟨(kw6 hw), (kw21 hw)⟩)
  have Ex_w_FORCED_COMPLETE : Exa s s.heap w_FORCED_COMPLETE "com/example/able_hands/ablehands/WorkItemStatus" := Exa.start ev_w_FORCED_COMPLETE g11
  obtain ⟨w_DELETED, ev_w_DELETED⟩ := exa_v g15
  have S_w_DELETED := Sta.start ev_w_DELETED (Or.inr ⟨(kw6 hw), (kw23 hw)⟩)
  have Ex_w_DELETED : Exa s s.heap w_DELETED "com/example/able_hands/ablehands/WorkItemStatus" := Exa.start ev_w_DELETED g15
  obtain ⟨w_FAILED, ev_w_FAILED⟩ := exa_v g19
  have S_w_FAILED := Sta.start ev_w_FAILED (Or.inr ⟨(kw6 hw), (kw25 hw)⟩)
  have Ex_w_FAILED : Exa s s.heap w_FAILED "com/example/able_hands/ablehands/WorkItemStatus" := Exa.start ev_w_FAILED g19
  obtain ⟨w_IS_PARENT, ev_w_IS_PARENT⟩ := exa_v g23
  have S_w_IS_PARENT := Sta.start ev_w_IS_PARENT (Or.inr ⟨(kw6 hw), (kw28 hw)⟩)
  have Ex_w_IS_PARENT : Exa s s.heap w_IS_PARENT "com/example/able_hands/ablehands/WorkItemStatus" := Exa.start ev_w_IS_PARENT g23
  obtain ⟨w_SUSPENDED, ev_w_SUSPENDED⟩ := exa_v g27
  have S_w_SUSPENDED := Sta.start ev_w_SUSPENDED (Or.inr ⟨(kw6 hw), (kw31 hw)⟩)
  have Ex_w_SUSPENDED : Exa s s.heap w_SUSPENDED "com/example/able_hands/ablehands/WorkItemStatus" := Exa.start ev_w_SUSPENDED g27
  obtain ⟨w_EXECUTING, ev_w_EXECUTING⟩ := exa_v g31
  have S_w_EXECUTING := Sta.start ev_w_EXECUTING (Or.inr ⟨(kw6 hw), (kw34 hw)⟩)
  have Ex_w_EXECUTING : Exa s s.heap w_EXECUTING "com/example/able_hands/ablehands/WorkItemStatus" := Exa.start ev_w_EXECUTING g31
  obtain ⟨w_CANCELLED_BY_CASE, ev_w_CANCELLED_BY_CASE⟩ := exa_v g35
  have S_w_CANCELLED_BY_CASE := Sta.start ev_w_CANCELLED_BY_CASE (Or.inr ⟨(kw6 hw), (kw36 hw)⟩)
  have Ex_w_CANCELLED_BY_CASE : Exa s s.heap w_CANCELLED_BY_CASE "com/example/able_hands/ablehands/WorkItemStatus" := Exa.start ev_w_CANCELLED_BY_CASE g35
  obtain ⟨w_FIRED, ev_w_FIRED⟩ := exa_v g39
  have S_w_FIRED := Sta.start ev_w_FIRED (Or.inr ⟨(kw6 hw), (kw38 hw)⟩)
  have Ex_w_FIRED : Exa s s.heap w_FIRED "com/example/able_hands/ablehands/WorkItemStatus" := Exa.start ev_w_FIRED g39
  obtain ⟨w_DEADLOCKED, ev_w_DEADLOCKED⟩ := exa_v g43
  have S_w_DEADLOCKED := Sta.start ev_w_DEADLOCKED (Or.inr ⟨(kw6 hw), (kw40 hw)⟩)
  have Ex_w_DEADLOCKED : Exa s s.heap w_DEADLOCKED "com/example/able_hands/ablehands/WorkItemStatus" := Exa.start ev_w_DEADLOCKED g43
  obtain ⟨w_WITHDRAWN, ev_w_WITHDRAWN⟩ := exa_v g47
  have S_w_WITHDRAWN := Sta.start ev_w_WITHDRAWN (Or.inr ⟨(kw6 hw), (kw42 hw)⟩)
  have Ex_w_WITHDRAWN : Exa s s.heap w_WITHDRAWN "com/example/able_hands/ablehands/WorkItemStatus" := Exa.start ev_w_WITHDRAWN g47
  obtain ⟨w_DISCARDED, ev_w_DISCARDED⟩ := exa_v g51
  have S_w_DISCARDED := Sta.start ev_w_DISCARDED (Or.inr ⟨(kw6 hw), (kw44 hw)⟩)
  have Ex_w_DISCARDED : Exa s s.heap w_DISCARDED "com/example/able_hands/ablehands/WorkItemStatus" := Exa.start ev_w_DISCARDED g51
  have Fo_w_ENABLED_ordinal : Fld s s.heap w_ENABLED "java/lang/Enum" "ordinal" "I" (.int (0 : Int32)) := own_fldInt ev_w_ENABLED g7
  have Fo_w_COMPLETE_ordinal : Fld s s.heap w_COMPLETE "java/lang/Enum" "ordinal" "I" (.int (3 : Int32)) := own_fldInt ev_w_COMPLETE g9
  have Fo_w_FORCED_COMPLETE_ordinal : Fld s s.heap w_FORCED_COMPLETE "java/lang/Enum" "ordinal" "I" (.int (4 : Int32)) := own_fldInt ev_w_FORCED_COMPLETE g13
  have Fo_w_DELETED_ordinal : Fld s s.heap w_DELETED "java/lang/Enum" "ordinal" "I" (.int (9 : Int32)) := own_fldInt ev_w_DELETED g17
  have Fo_w_FAILED_ordinal : Fld s s.heap w_FAILED "java/lang/Enum" "ordinal" "I" (.int (5 : Int32)) := own_fldInt ev_w_FAILED g21
  have Fo_w_IS_PARENT_ordinal : Fld s s.heap w_IS_PARENT "java/lang/Enum" "ordinal" "I" (.int (6 : Int32)) := own_fldInt ev_w_IS_PARENT g25
  have Fo_w_SUSPENDED_ordinal : Fld s s.heap w_SUSPENDED "java/lang/Enum" "ordinal" "I" (.int (7 : Int32)) := own_fldInt ev_w_SUSPENDED g29
  have Fo_w_EXECUTING_ordinal : Fld s s.heap w_EXECUTING "java/lang/Enum" "ordinal" "I" (.int (2 : Int32)) := own_fldInt ev_w_EXECUTING g33
  have Fo_w_CANCELLED_BY_CASE_ordinal : Fld s s.heap w_CANCELLED_BY_CASE "java/lang/Enum" "ordinal" "I" (.int (11 : Int32)) := own_fldInt ev_w_CANCELLED_BY_CASE g37
  have Fo_w_FIRED_ordinal : Fld s s.heap w_FIRED "java/lang/Enum" "ordinal" "I" (.int (1 : Int32)) := own_fldInt ev_w_FIRED g41
  have Fo_w_DEADLOCKED_ordinal : Fld s s.heap w_DEADLOCKED "java/lang/Enum" "ordinal" "I" (.int (8 : Int32)) := own_fldInt ev_w_DEADLOCKED g45
  have Fo_w_WITHDRAWN_ordinal : Fld s s.heap w_WITHDRAWN "java/lang/Enum" "ordinal" "I" (.int (10 : Int32)) := own_fldInt ev_w_WITHDRAWN g49
  have Fo_w_DISCARDED_ordinal : Fld s s.heap w_DISCARDED "java/lang/Enum" "ordinal" "I" (.int (12 : Int32)) := own_fldInt ev_w_DISCARDED g52
  obtain ⟨n, o, h1, h2, h3, _, L, rfl, ⟨rfl, N, -⟩, hq⟩ := rm0 l s _ hw tables_1 i0 w_ENABLED w_FIRED w_EXECUTING w_COMPLETE w_FORCED_COMPLETE w_FAILED w_IS_PARENT w_SUSPENDED w_DEADLOCKED w_DELETED w_WITHDRAWN w_CANCELLED_BY_CASE w_DISCARDED s.heap s.heap.size (Nat.le_refl _) (Old.start s) S_w_ENABLED S_w_FIRED S_w_EXECUTING S_w_COMPLETE S_w_FORCED_COMPLETE S_w_FAILED S_w_IS_PARENT S_w_SUSPENDED S_w_DEADLOCKED S_w_DELETED S_w_WITHDRAWN S_w_CANCELLED_BY_CASE S_w_DISCARDED Ex_w_ENABLED Ex_w_FIRED Ex_w_EXECUTING Ex_w_COMPLETE Ex_w_FORCED_COMPLETE Ex_w_FAILED Ex_w_IS_PARENT Ex_w_SUSPENDED Ex_w_DEADLOCKED Ex_w_DELETED Ex_w_WITHDRAWN Ex_w_CANCELLED_BY_CASE Ex_w_DISCARDED Fo_w_ENABLED_ordinal Fo_w_FIRED_ordinal Fo_w_EXECUTING_ordinal Fo_w_COMPLETE_ordinal Fo_w_FORCED_COMPLETE_ordinal Fo_w_FAILED_ordinal Fo_w_IS_PARENT_ordinal Fo_w_SUSPENDED_ordinal Fo_w_DEADLOCKED_ordinal Fo_w_DELETED_ordinal Fo_w_WITHDRAWN_ordinal Fo_w_CANCELLED_BY_CASE_ordinal Fo_w_DISCARDED_ordinal p e ha hc hk s m _ below hf ((Spec.applies_iff_loose hf).mp happ).1 ⟨rfl, State.Warmed39.refl s, rfl⟩ trivial
  refine ⟨n, _, h1, h2, h3, hpost _ _ _ _ _ _ ⟨Cond.after_iff.mpr rfl, Cond.after_iff.mpr (eq_i res_at (Term.int_eval (1)) rfl), trivial⟩ ⟨hq.1, hq.2.1, (hq.2.2.sift fun y hy => Or.inr (N y hy)).mono (by decide) (by decide)⟩⟩
theorem main_1_1 : Claimed_1_1 := comes_1 fun _ _ _ _ _ _ h hF => ⟨h.1, hF⟩
theorem main_1_2 : Claimed_1_2 := comes_1 fun _ _ _ _ _ _ h hF => ⟨h.2.1, hF⟩
end Jvm.Pilot.@@N@@
namespace Jvm.Pilot.@@N@@
open Jvm Jvm.ClassFile Sem Op Lib Jvm.Free Jvm.Stand Jvm.Pilot.@@N@@.Jvm.D
/-! MADE BY PROGRAM (witnessworld.py) out of the Statement's table words and the real class files: 13 classes; the members and pool entries that the words name. The judged class is class 1, her method 1. -/
namespace start1
open Jvm.ClassFile
def u (s : String) : CpInfo := .utf8 (stringToUtf16 s)
/-- a pool by its gaps: so many unusable entries, then the entry; so many at the end -/
def gap : Nat → List CpInfo → List CpInfo
  | 0, r => r
  | n + 1, r => .unusable :: gap n r
def poolList (es : List (Nat × CpInfo)) (last : Nat) : List CpInfo := es.foldr (fun e r => gap e.1 (e.2 :: r)) (gap last [])
def pool (es : List (Nat × CpInfo)) (last : Nat) : Array CpInfo := ⟨poolList es last⟩
def fileOf (pool : Array CpInfo) (this : Nat) (attrs : Array Attribute := #[]) (ms : Array MethodInfo := #[]) (fl : Nat := 33) (sup : Nat := 0) (ifs : Array Nat := #[]) (fds : Array FieldInfo := #[]) : ClassFile where
  minorVersion := 0
  majorVersion := 65
  constantPool := pool
  accessFlags := fl
  thisClass := this
  superClass := sup
  interfaces := ifs
  fields := fds
  methods := ms
  attributes := attrs
def plain (name : String) (sup : Option ClassId) : Class where
  name := name
  kind := .ordinary
  loader := none
  accessFlags := 33
  super := sup
  interfaces := #[]
  cf := none
  fields := #[]
  methods := #[]
  instanceTypes := #[]
  staticTypes := #[]
  resolved := #[]
  callSites := []
  init := .initialized
  statics := none
  mirror := none

def pool0 : Array CpInfo := pool [(5, u "<init>"), (0, u "()V"), (1, .class_ 10), (1, u "java/lang/Object")] 113

def k0m0 : Method := { name := "<init>", desc := "()V", sig := { parameters := [], returnType := none }, accessFlags := 1, code := none }
/-- java/lang/Object -/
def k0 : Class := { plain "java/lang/Object" none with
  accessFlags := 33
  interfaces := #[]
  cf := some (fileOf pool0 8 #[] #[{ accessFlags := 1, nameIndex := 5, descriptorIndex := 6, attributes := #[] }] 33 0 #[] #[])
  fields := #[]
  methods := #[k0m0]
  instanceTypes := #[]
  staticTypes := #[]
  resolved := Array.replicate 124 none
  statics := none }

def pool1 : Array CpInfo := pool [(2, .class_ 4), (1, u "java/lang/Object"), (0, u "<init>"), (0, u "()V"), (0, .integer 2147483647), (0, .methodref 9 10), (0, .class_ 11), (0, .nameAndType 12 13), (0, u "com/example/able_hands/ablehands/WorkItemStatusIsFinishedPinLaw"), (0, u "pick"), (0, u "(I)Lcom/example/able_hands/ablehands/WorkItemStatus;"), (0, .methodref 15 16), (0, .class_ 17), (0, .nameAndType 18 19), (0, u "com/example/able_hands/ablehands/WorkItemStatus"), (0, u "isFinished"), (0, u "()Z"), (0, .fieldref 15 21), (0, .nameAndType 22 23), (0, u "ENABLED"), (0, u "Lcom/example/able_hands/ablehands/WorkItemStatus;"), (0, .fieldref 15 25), (0, .nameAndType 26 23), (0, u "FIRED"), (0, .fieldref 15 28), (0, .nameAndType 29 23), (0, u "EXECUTING"), (0, .fieldref 15 31), (0, .nameAndType 32 23), (0, u "COMPLETE"), (0, .fieldref 15 34), (0, .nameAndType 35 23), (0, u "FORCED_COMPLETE"), (0, .fieldref 15 37), (0, .nameAndType 38 23), (0, u "FAILED"), (0, .fieldref 15 40), (0, .nameAndType 41 23), (0, u "IS_PARENT"), (0, .fieldref 15 43), (0, .nameAndType 44 23), (0, u "SUSPENDED"), (0, .fieldref 15 46), (0, .nameAndType 47 23), (0, u "DEADLOCKED"), (0, .fieldref 15 49), (0, .nameAndType 50 23), (0, u "DELETED"), (0, .fieldref 15 52), (0, .nameAndType 53 23), (0, u "WITHDRAWN"), (0, .fieldref 15 55), (0, .nameAndType 56 23), (0, u "CANCELLED_BY_CASE"), (0, .fieldref 15 58), (0, .nameAndType 59 23), (0, u "DISCARDED"), (2, u "law"), (0, u "(I)Z")] 3

def k1m0 : Method := { name := "<init>", desc := "()V", sig := { parameters := [], returnType := none }, accessFlags := 1, code := none }
def k1c1 : Code := { maxStack := 2, maxLocals := 4, code := code, exceptionTable := #[], attributes := #[] }
def k1m1 : Method := { name := "law", desc := "(I)Z", sig := { parameters := [.int], returnType := some .boolean }, accessFlags := 9, code := some k1c1 }
def k1c2 : Code := { maxStack := 2, maxLocals := 1, code := method_3_code, exceptionTable := #[], attributes := #[] }
def k1m2 : Method := { name := "pick", desc := "(I)Lcom/example/able_hands/ablehands/WorkItemStatus;", sig := { parameters := [.int], returnType := some (.object "com/example/able_hands/ablehands/WorkItemStatus") }, accessFlags := 10, code := some k1c2 }
/-- com/example/able_hands/ablehands/WorkItemStatusIsFinishedPinLaw -/
def k1 : Class := { plain "com/example/able_hands/ablehands/WorkItemStatusIsFinishedPinLaw" (some 0) with
  accessFlags := 49
  interfaces := #[]
  cf := some (fileOf pool1 9 #[] #[{ accessFlags := 1, nameIndex := 5, descriptorIndex := 6, attributes := #[] }, { accessFlags := 9, nameIndex := 62, descriptorIndex := 63, attributes := #[] }, { accessFlags := 10, nameIndex := 12, descriptorIndex := 13, attributes := #[] }] 49 2 #[] #[])
  fields := #[]
  methods := #[k1m0, k1m1, k1m2]
  instanceTypes := #[]
  staticTypes := #[]
  resolved := Array.replicate 67 none
  statics := none }

def pool2 : Array CpInfo := pool [(1, .class_ 2), (0, u "java/lang/constant/Constable"), (0, .class_ 4), (0, u "java/lang/Object")] 6

/-- java/lang/constant/Constable -/
def k2 : Class := { plain "java/lang/constant/Constable" (some 0) with
  accessFlags := 1537
  interfaces := #[]
  cf := some (fileOf pool2 1 #[] #[] 1537 3 #[] #[])
  fields := #[]
  methods := #[]
  instanceTypes := #[]
  staticTypes := #[]
  resolved := Array.replicate 11 none
  statics := none }

def pool3 : Array CpInfo := pool [(1, .class_ 2), (0, u "java/lang/Comparable"), (0, .class_ 4), (0, u "java/lang/Object")] 7

/-- java/lang/Comparable -/
def k3 : Class := { plain "java/lang/Comparable" (some 0) with
  accessFlags := 1537
  interfaces := #[]
  cf := some (fileOf pool3 1 #[] #[] 1537 3 #[] #[])
  fields := #[]
  methods := #[]
  instanceTypes := #[]
  staticTypes := #[]
  resolved := Array.replicate 12 none
  statics := none }

def pool4 : Array CpInfo := pool [(1, .class_ 2), (0, u "java/io/Serializable"), (0, .class_ 4), (0, u "java/lang/Object")] 2

/-- java/io/Serializable -/
def k4 : Class := { plain "java/io/Serializable" (some 0) with
  accessFlags := 1537
  interfaces := #[]
  cf := some (fileOf pool4 1 #[] #[] 1537 3 #[] #[])
  fields := #[]
  methods := #[]
  instanceTypes := #[]
  staticTypes := #[]
  resolved := Array.replicate 7 none
  statics := none }

def pool5 : Array CpInfo := pool [(2, .class_ 4), (1, u "java/lang/Enum"), (0, u "name"), (0, u "Ljava/lang/String;"), (2, u "ordinal"), (0, u "I"), (1, .class_ 14), (1, u "java/lang/Object"), (4, u "hash"), (86, .class_ 108), (1, u "java/lang/Enum$EnumDesc"), (2, .class_ 112), (0, u "java/lang/constant/Constable"), (0, .class_ 114), (0, u "java/lang/Comparable"), (0, .class_ 116), (0, u "java/io/Serializable")] 87

/-- java/lang/Enum -/
def k5 : Class := { plain "java/lang/Enum" (some 0) with
  accessFlags := 1057
  interfaces := #[2, 3, 4]
  cf := some (fileOf pool5 2 #[.nestMembers #[106]] #[] 1057 12 #[111, 113, 115] #[{ accessFlags := 18, nameIndex := 5, descriptorIndex := 6, attributes := #[] }, { accessFlags := 18, nameIndex := 9, descriptorIndex := 10, attributes := #[] }, { accessFlags := 2, nameIndex := 19, descriptorIndex := 10, attributes := #[] }])
  fields := #[{ name := "name", type := (.object "java/lang/String"), accessFlags := 18, slot := 0, constantValue := 0 }, { name := "ordinal", type := .int, accessFlags := 18, slot := 1, constantValue := 0 }, { name := "hash", type := .int, accessFlags := 2, slot := 2, constantValue := 0 }]
  methods := #[]
  instanceTypes := #[(.object "java/lang/String"), .int, .int]
  staticTypes := #[]
  resolved := Array.replicate 204 none
  statics := none }

def pool6 : Array CpInfo := pool [(2, .class_ 4), (1, u "com/example/able_hands/ablehands/WireNamed"), (50, .class_ 56), (0, u "java/lang/Object")] 41

/-- com/example/able_hands/ablehands/WireNamed -/
def k6 : Class := { plain "com/example/able_hands/ablehands/WireNamed" (some 0) with
  accessFlags := 1536
  interfaces := #[]
  cf := some (fileOf pool6 2 #[] #[] 1536 55 #[] #[])
  fields := #[]
  methods := #[]
  instanceTypes := #[]
  staticTypes := #[]
  resolved := Array.replicate 98 none
  statics := none }

def pool7 : Array CpInfo := pool [(1, .class_ 2), (0, u "com/example/able_hands/ablehands/WorkItemStatus"), (2, u "ENABLED"), (0, u "Lcom/example/able_hands/ablehands/WorkItemStatus;"), (2, u "FIRED"), (2, u "EXECUTING"), (0, .fieldref 1 14), (0, .nameAndType 15 6), (0, u "COMPLETE"), (0, .fieldref 1 17), (0, .nameAndType 18 6), (0, u "FORCED_COMPLETE"), (0, .fieldref 1 20), (0, .nameAndType 21 6), (0, u "FAILED"), (2, u "IS_PARENT"), (2, u "SUSPENDED"), (2, u "DEADLOCKED"), (0, .fieldref 1 32), (0, .nameAndType 33 6), (0, u "DELETED"), (2, u "WITHDRAWN"), (2, u "CANCELLED_BY_CASE"), (2, u "DISCARDED"), (2, u "$VALUES"), (0, u "[Lcom/example/able_hands/ablehands/WorkItemStatus;"), (6, .class_ 55), (1, u "java/lang/Enum"), (8, u "wireName"), (0, u "Ljava/lang/String;"), (10, .class_ 78), (1, u "com/example/able_hands/ablehands/WireNamed"), (5, u "()Z"), (7, .methodref 1 93), (0, .nameAndType 94 84), (0, u "isCompleted"), (61, u "isFinished")] 5

def k7c0 : Code := { maxStack := 2, maxLocals := 1, code := prog_85_method_10_code, exceptionTable := #[], attributes := #[] }
def k7m0 : Method := { name := "isCompleted", desc := "()Z", sig := { parameters := [], returnType := some .boolean }, accessFlags := 1, code := some k7c0 }
def k7c1 : Code := { maxStack := 2, maxLocals := 1, code := prog_85_method_11_code, exceptionTable := #[], attributes := #[] }
def k7m1 : Method := { name := "isFinished", desc := "()Z", sig := { parameters := [], returnType := some .boolean }, accessFlags := 1, code := some k7c1 }
/-- com/example/able_hands/ablehands/WorkItemStatus -/
def k7 : Class := { plain "com/example/able_hands/ablehands/WorkItemStatus" (some 5) with
  accessFlags := 16433
  interfaces := #[6]
  cf := some (fileOf pool7 1 #[] #[{ accessFlags := 1, nameIndex := 94, descriptorIndex := 84, attributes := #[] }, { accessFlags := 1, nameIndex := 156, descriptorIndex := 84, attributes := #[] }] 16433 53 #[76] #[{ accessFlags := 16409, nameIndex := 5, descriptorIndex := 6, attributes := #[] }, { accessFlags := 16409, nameIndex := 9, descriptorIndex := 6, attributes := #[] }, { accessFlags := 16409, nameIndex := 12, descriptorIndex := 6, attributes := #[] }, { accessFlags := 16409, nameIndex := 15, descriptorIndex := 6, attributes := #[] }, { accessFlags := 16409, nameIndex := 18, descriptorIndex := 6, attributes := #[] }, { accessFlags := 16409, nameIndex := 21, descriptorIndex := 6, attributes := #[] }, { accessFlags := 16409, nameIndex := 24, descriptorIndex := 6, attributes := #[] }, { accessFlags := 16409, nameIndex := 27, descriptorIndex := 6, attributes := #[] }, { accessFlags := 16409, nameIndex := 30, descriptorIndex := 6, attributes := #[] }, { accessFlags := 16409, nameIndex := 33, descriptorIndex := 6, attributes := #[] }, { accessFlags := 16409, nameIndex := 36, descriptorIndex := 6, attributes := #[] }, { accessFlags := 16409, nameIndex := 39, descriptorIndex := 6, attributes := #[] }, { accessFlags := 16409, nameIndex := 42, descriptorIndex := 6, attributes := #[] }, { accessFlags := 18, nameIndex := 64, descriptorIndex := 65, attributes := #[] }, { accessFlags := 4122, nameIndex := 45, descriptorIndex := 46, attributes := #[] }])
  fields := #[{ name := "ENABLED", type := (.object "com/example/able_hands/ablehands/WorkItemStatus"), accessFlags := 16409, slot := 0, constantValue := 0 }, { name := "FIRED", type := (.object "com/example/able_hands/ablehands/WorkItemStatus"), accessFlags := 16409, slot := 1, constantValue := 0 }, { name := "EXECUTING", type := (.object "com/example/able_hands/ablehands/WorkItemStatus"), accessFlags := 16409, slot := 2, constantValue := 0 }, { name := "COMPLETE", type := (.object "com/example/able_hands/ablehands/WorkItemStatus"), accessFlags := 16409, slot := 3, constantValue := 0 }, { name := "FORCED_COMPLETE", type := (.object "com/example/able_hands/ablehands/WorkItemStatus"), accessFlags := 16409, slot := 4, constantValue := 0 }, { name := "FAILED", type := (.object "com/example/able_hands/ablehands/WorkItemStatus"), accessFlags := 16409, slot := 5, constantValue := 0 }, { name := "IS_PARENT", type := (.object "com/example/able_hands/ablehands/WorkItemStatus"), accessFlags := 16409, slot := 6, constantValue := 0 }, { name := "SUSPENDED", type := (.object "com/example/able_hands/ablehands/WorkItemStatus"), accessFlags := 16409, slot := 7, constantValue := 0 }, { name := "DEADLOCKED", type := (.object "com/example/able_hands/ablehands/WorkItemStatus"), accessFlags := 16409, slot := 8, constantValue := 0 }, { name := "DELETED", type := (.object "com/example/able_hands/ablehands/WorkItemStatus"), accessFlags := 16409, slot := 9, constantValue := 0 }, { name := "WITHDRAWN", type := (.object "com/example/able_hands/ablehands/WorkItemStatus"), accessFlags := 16409, slot := 10, constantValue := 0 }, { name := "CANCELLED_BY_CASE", type := (.object "com/example/able_hands/ablehands/WorkItemStatus"), accessFlags := 16409, slot := 11, constantValue := 0 }, { name := "DISCARDED", type := (.object "com/example/able_hands/ablehands/WorkItemStatus"), accessFlags := 16409, slot := 12, constantValue := 0 }, { name := "wireName", type := (.object "java/lang/String"), accessFlags := 18, slot := 3, constantValue := 0 }, { name := "$VALUES", type := (.array (.object "com/example/able_hands/ablehands/WorkItemStatus")), accessFlags := 4122, slot := 13, constantValue := 0 }]
  methods := #[k7m0, k7m1]
  instanceTypes := #[(.object "java/lang/String"), .int, .int, (.object "java/lang/String")]
  staticTypes := #[(.object "com/example/able_hands/ablehands/WorkItemStatus"), (.object "com/example/able_hands/ablehands/WorkItemStatus"), (.object "com/example/able_hands/ablehands/WorkItemStatus"), (.object "com/example/able_hands/ablehands/WorkItemStatus"), (.object "com/example/able_hands/ablehands/WorkItemStatus"), (.object "com/example/able_hands/ablehands/WorkItemStatus"), (.object "com/example/able_hands/ablehands/WorkItemStatus"), (.object "com/example/able_hands/ablehands/WorkItemStatus"), (.object "com/example/able_hands/ablehands/WorkItemStatus"), (.object "com/example/able_hands/ablehands/WorkItemStatus"), (.object "com/example/able_hands/ablehands/WorkItemStatus"), (.object "com/example/able_hands/ablehands/WorkItemStatus"), (.object "com/example/able_hands/ablehands/WorkItemStatus"), (.array (.object "com/example/able_hands/ablehands/WorkItemStatus"))]
  resolved := Array.replicate 162 none
  statics := some 0 }

def pool8 : Array CpInfo := pool [(1, u "java/lang/Cloneable"), (0, .class_ 1), (0, u "java/lang/Object"), (0, .class_ 3)] 3

/-- java/lang/Cloneable -/
def k8 : Class := { plain "java/lang/Cloneable" (some 0) with
  accessFlags := 1537
  interfaces := #[]
  cf := some (fileOf pool8 2 #[] #[] 1537 4 #[] #[])
  fields := #[]
  methods := #[]
  instanceTypes := #[]
  staticTypes := #[]
  resolved := Array.replicate 8 none
  statics := none }

/-- the primitive byte -/
def k9 : Class := { plain "byte" none with kind := .primitive 'B', accessFlags := 0x411 }
/-- [B -/
def k10 : Class := { plain "[B" (some 0) with kind := .array 9 .byte, interfaces := #[8, 4], accessFlags := 1041 }

/-- the primitive int -/
def k11 : Class := { plain "int" none with kind := .primitive 'I', accessFlags := 0x411 }
/-- [I -/
def k12 : Class := { plain "[I" (some 0) with kind := .array 11 .int, interfaces := #[8, 4], accessFlags := 1041 }

def heap : Heap := #[{ cls := 7, slots := #[.ref 1, .ref 2, .ref 3, .ref 4, .ref 5, .ref 6, .ref 7, .ref 8, .ref 9, .ref 10, .ref 11, .ref 12, .ref 13, .null], vm := .statics 7 },
  { cls := 7, slots := #[.null, .int 0, .int 0, .null], vm := .none },
  { cls := 7, slots := #[.null, .int 1, .int 0, .null], vm := .none },
  { cls := 7, slots := #[.null, .int 2, .int 0, .null], vm := .none },
  { cls := 7, slots := #[.null, .int 3, .int 0, .null], vm := .none },
  { cls := 7, slots := #[.null, .int 4, .int 0, .null], vm := .none },
  { cls := 7, slots := #[.null, .int 5, .int 0, .null], vm := .none },
  { cls := 7, slots := #[.null, .int 6, .int 0, .null], vm := .none },
  { cls := 7, slots := #[.null, .int 7, .int 0, .null], vm := .none },
  { cls := 7, slots := #[.null, .int 8, .int 0, .null], vm := .none },
  { cls := 7, slots := #[.null, .int 9, .int 0, .null], vm := .none },
  { cls := 7, slots := #[.null, .int 10, .int 0, .null], vm := .none },
  { cls := 7, slots := #[.null, .int 11, .int 0, .null], vm := .none },
  { cls := 7, slots := #[.null, .int 12, .int 0, .null], vm := .none }]
def classes : Array Class := #[k0, k1, k2, k3, k4, k5, k6, k7, k8, k9, k10, k11, k12]
def interned : List (Array UInt16 × Addr) := []
def slotsUsed : Nat := 66
def theMethod : MethodId := ⟨1, 1⟩
def args0 : Array Value := #[.int 5]
def aboutOver (below : List Frame) : State where
  vm := { classes := classes, interned := interned.toArray }
  heap := heap
  slotsUsed := slotsUsed
  threads := #[{ frames := .invoking theMethod args0 :: below }]
def below0 : List Frame := [.native { method := ⟨0, 0⟩, args := #[] }]
def about1 : State := aboutOver below0
def p0 : Program := .bare "" "" ""
def e0 : Env := launch0.env 0 0 0
theorem w_frames : about1.frames = Frame.invoking theMethod args0 :: below0 := rfl
set_option maxRecDepth 65536 in
theorem w_args : argsFit about1.vm theMethod args0 = true := by decide +kernel
set_option maxRecDepth 65536 in
theorem w_heap : heapFits about1 = true := by decide +kernel
set_option maxRecDepth 65536 in
theorem w_runnable : about1.curStatus? = some .runnable := by decide +kernel
set_option maxRecDepth 65536 in
theorem w_alone : about1.alone = true := by decide +kernel
set_option maxRecDepth 65536 in
theorem w_named : about1.methodNamed? x = some theMethod := by decide +kernel
set_option maxRecDepth 65536 in
theorem w_hears : about1.hears theMethod below0 = true := by decide +kernel
set_option maxRecDepth 65536 in
theorem w_ripe : about1.ripe theMethod args0 below0 = true := by decide +kernel
theorem w_running : about1.status = .running := rfl
set_option maxRecDepth 65536 in
theorem w_room : about1.hasRoom e0.platform room_1 = true :=
  launch0.hasRoom_least _ room_1 (by decide +kernel) (by decide +kernel) (by decide +kernel) (by decide +kernel) (by decide +kernel) (by decide +kernel)
theorem allAtoms_all (ts : List Jvm.Cond) (a : Array Jvm.Value) (st : Jvm.State) : (allAtoms ts).before a st = ts.all (fun c => c.before a st) := by
  induction ts with
  | nil => rfl
  | cons c t ih =>
    show (Jvm.Cond.and c (allAtoms t)).before a st = _
    rw [Jvm.Cond.before_and, ih, List.all_cons]
def words1 : List Jvm.Cond := Jvm.Cond.code x code maxLocals ret :: tables_1
/-- a 'code' word, met by the world's own term for the bytes: nothing is compared byte by byte -/
theorem code_word {y : MethodName} {bytes : ByteArray} {mx : Nat} {rt : Option FieldType} {a : Array Value} {s : State} {m : MethodId} {meth : Method} {c : Code} (h1 : s.methodNamed? y = some m) (h2 : s.vm.method? m = some meth) (h3 : meth.code = some c) (h4 : c.code = bytes)
    (h5 : (c.maxLocals == mx && c.exceptionTable.isEmpty && decide (c.maxStack ≤ mostOperands) && decide (meth.sig.returnType = rt) && !meth.locks && decide (parseMethodDescriptor y.desc = some meth.sig)) = true) : (Jvm.Cond.code y bytes mx rt).before a s = true := by
  simp only [Bool.and_eq_true, beq_iff_eq, Bool.not_eq_true', decide_eq_true_eq] at h5
  obtain ⟨⟨⟨⟨⟨g1, g2⟩, g3⟩, g4⟩, g5⟩, g6⟩ := h5
  simp [Cond.before, Cond.holds, Cond.value, h1, h2, h3, h4, g1, g2, g3, g4, g5, g6]
def isCode : Jvm.Cond → Bool
  | .code _ _ _ _ => true
  | _ => false
theorem all_split {L : List Jvm.Cond} {P : Jvm.Cond → Bool} (h1 : L.all (fun c => isCode c || P c) = true) (h2 : ∀ c ∈ L.filter isCode, P c = true) : L.all P = true := by
  refine List.all_eq_true.mpr fun c hc => ?_
  have h := List.all_eq_true.mp h1 c hc
  rcases Bool.eq_false_or_eq_true (isCode c) with hi | hi
  · exact h2 c (List.mem_filter.mpr ⟨hc, hi⟩)
  · simpa [hi] using h
set_option maxRecDepth 65536 in
theorem w_c0 : (Jvm.Cond.code x code maxLocals ret).before args0 about1 = true := code_word (m := ⟨1, 1⟩) (meth := k1m1) (c := k1c1) (by decide +kernel) rfl rfl rfl (by decide +kernel)
set_option maxRecDepth 65536 in
theorem w_c1 : (Jvm.Cond.code ({ cls := "com/example/able_hands/ablehands/WorkItemStatusIsFinishedPinLaw", name := "pick", desc := "(I)Lcom/example/able_hands/ablehands/WorkItemStatus;" } : Jvm.MethodName) method_3_code (1 : Nat) (Option.some (Jvm.ClassFile.FieldType.object "com/example/able_hands/ablehands/WorkItemStatus"))).before args0 about1 = true := code_word (m := ⟨1, 2⟩) (meth := k1m2) (c := k1c2) (by decide +kernel) rfl rfl rfl (by decide +kernel)
set_option maxRecDepth 65536 in
theorem w_c2 : (Jvm.Cond.code ({ cls := "com/example/able_hands/ablehands/WorkItemStatus", name := "isFinished", desc := "()Z" } : Jvm.MethodName) prog_85_method_11_code (1 : Nat) (Option.some Jvm.ClassFile.FieldType.boolean)).before args0 about1 = true := code_word (m := ⟨7, 1⟩) (meth := k7m1) (c := k7c1) (by decide +kernel) rfl rfl rfl (by decide +kernel)
set_option maxRecDepth 65536 in
theorem w_c3 : (Jvm.Cond.code ({ cls := "com/example/able_hands/ablehands/WorkItemStatus", name := "isCompleted", desc := "()Z" } : Jvm.MethodName) prog_85_method_10_code (1 : Nat) (Option.some Jvm.ClassFile.FieldType.boolean)).before args0 about1 = true := code_word (m := ⟨7, 0⟩) (meth := k7m0) (c := k7c0) (by decide +kernel) rfl rfl rfl (by decide +kernel)
def codes1 : List Jvm.Cond := [Jvm.Cond.code x code maxLocals ret, Jvm.Cond.code ({ cls := "com/example/able_hands/ablehands/WorkItemStatusIsFinishedPinLaw", name := "pick", desc := "(I)Lcom/example/able_hands/ablehands/WorkItemStatus;" } : Jvm.MethodName) method_3_code (1 : Nat) (Option.some (Jvm.ClassFile.FieldType.object "com/example/able_hands/ablehands/WorkItemStatus")), Jvm.Cond.code ({ cls := "com/example/able_hands/ablehands/WorkItemStatus", name := "isFinished", desc := "()Z" } : Jvm.MethodName) prog_85_method_11_code (1 : Nat) (Option.some Jvm.ClassFile.FieldType.boolean), Jvm.Cond.code ({ cls := "com/example/able_hands/ablehands/WorkItemStatus", name := "isCompleted", desc := "()Z" } : Jvm.MethodName) prog_85_method_10_code (1 : Nat) (Option.some Jvm.ClassFile.FieldType.boolean)]
set_option maxRecDepth 65536 in
theorem codes_eq : words1.filter isCode = codes1 := rfl
theorem w_codes : ∀ c ∈ words1.filter isCode, c.before args0 about1 = true := by
  rw [codes_eq]
  intro c hc
  simp only [codes1, List.mem_cons, List.not_mem_nil, or_false] at hc
  rcases hc with rfl | rfl | rfl | rfl
  · exact w_c0
  · exact w_c1
  · exact w_c2
  · exact w_c3
set_option maxRecDepth 65536 in
theorem w_t1 : (words1.take 24).all (fun c => isCode c || c.before args0 about1) = true := by decide +kernel
set_option maxRecDepth 65536 in
theorem w_t2 : (words1.drop 24).all (fun c => isCode c || c.before args0 about1) = true := by decide +kernel
theorem w_tables : (allAtoms (Jvm.Cond.code x code maxLocals ret :: tables_1)).before args0 about1 = true := by
  rw [allAtoms_all]
  show words1.all (fun c => c.before args0 about1) = true
  refine all_split ?_ w_codes
  rw [← List.take_append_drop 24 words1, List.all_append, w_t1, w_t2]
  rfl
set_option maxRecDepth 65536 in
theorem w_case : (Jvm.Cond.and given_1 narrow_1).before args0 about1 = true := by decide +kernel
theorem w_applies : (headSpec (Jvm.Cond.code x code maxLocals ret :: tables_1) room_1).applies x e0.platform about1 = true :=
  (Spec.applies_iff w_frames).mpr ⟨w_running, w_runnable, w_alone, w_named, w_hears, w_ripe, w_room, w_tables⟩
theorem atStart : AtStart classFile x code maxLocals ret World_1 tables_1 room_1 Calls_1 rest_1 Pre_1 launch0 p0 e0 about1 theMethod args0 below0 :=
  ⟨lists_1, trivial, launch0.admits_env _ _ _, launch0.least_env, fairChoices_fair.cas, fairChoices_fair.clock, w_frames, w_args, w_heap, w_applies, trivial, trivial, w_case⟩
end start1
theorem witness_1 : WitnessClaimed_1 := ⟨start1.p0, start1.e0, start1.about1, start1.theMethod, start1.args0, start1.below0, start1.atStart⟩
end Jvm.Pilot.@@N@@
