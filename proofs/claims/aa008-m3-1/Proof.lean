import JvmDerived
import JvmDerived.Pilot.@@N@@Statement
import JvmDerived.Pilot.@@N@@Code
set_option linter.unusedVariables false
set_option linter.unusedSimpArgs false
namespace Jvm.RoadKit
open Sem ClassFile Op Lib Jvm.Stand Jvm.Free Jvm.LawKit
section New
variable {p : Program} {l : Launch} {e : Env} {R : Room} {s : State} {m : MethodId} {args : Array Value} {below : List Frame} {meth : Method} {c : Code} {T : State} {locs : List Loc} {cells slots : Nat}
theorem retI (X : Stand p l e R s m args below meth c T locs cells slots) (hx : p.tables.exec = Jvm.exec) {pc : Nat} {Ls : Array Slot} {z : Int32} {rest : List Value} (hret : meth.sig.returnType = some .int) (hd : decode c.code pc = .ok (.ireturn, 1)) {fs : List Frame}
    (hl : ∀ (f : JFrame) (acts : List Action), f.method = m → f.locked = none → f.entered = [] → (doReturn e (T.setTop f) acts (some (.int z))).1 = T.setFrames fs) : Steps p.tables e below (T.setTop (mkF m pc Ls (.int z :: rest))) (T.setFrames fs) := by
  have hm' : T.vm.method? m = some meth := X.method'
  have hn : narrow .int (.int z) = .int z := rfl
  show Steps p.tables e below (T.setTop { method := m, pc := pc, locals := Ls, stack := _ :: rest, locked := none }) _
  jvm_step X.here [X.here.top, hx, hd, hm', hret, hn]
  first | (intro acts; rw [hl _ acts rfl rfl rfl]) | rw [hl _ _ rfl rfl rfl]
  exact Steps.refl _
theorem own_lremM {g : JFrame} {target : State} (X : Stand p l e R s m args below meth c T locs cells slots) (hx : p.tables.exec = Jvm.exec) (hg : g.method = m) {x y : Int64} {rest : List Value} (hd : decode c.code g.pc = .ok (.lrem, 1)) (hs : g.stack = .long y :: .long x :: rest) (hy : y ≠ 0)
    (hr : Steps p.tables e below (T.setTop { g with pc := g.pc + 1, stack := .long (x % y) :: rest }) target) : Steps p.tables e below (T.setTop g) target := by
  have q : x - x / y * y = x % y := lrem_mod x y
  exact XS.lrem X.here hx hg hd hs hy (by rw [q]; exact hr)
theorem own_selP {Z : State} {a0 : Array Value} {C : String} {n : Nat} {y : MethodName} (hC : y.cls = C) (wi : (Cond.instantiable C n).before a0 Z = true) (wm : (Cond.instanceMethod y).before a0 Z = true) (wp : (Cond.privateMethod y).before a0 Z = true) (hy : y.cls ≠ "java/lang/invoke/MethodHandle" ∧ y.cls ≠ "java/lang/invoke/VarHandle") : (Cond.selects y.cls y y).before a0 Z = true := by
  obtain ⟨c, k, h1, h2, h3, h4, -⟩ := Cond.instantiable_spec wi
  simp only [Bool.or_eq_false_iff] at h4
  subst hC
  exact selects_self_of_private h1 h2 h4.1 (Cond.privateMethod_at wp) wm hy
end New
end Jvm.RoadKit
namespace Jvm.Pilot.@@N@@
open Jvm Jvm.ClassFile Sem Op Lib Jvm.Free Jvm.Stand Jvm.LawKit Jvm.RoadKit Bundle Jvm.Pilot.@@N@@.Jvm.D
theorem own_fldInt {s : State} {args : Array Value} {t : Term} {a : Addr} {C n d : String} {k : Int32} (ev : t.eval args s none [] s = some (.ref a)) (h : (Jvm.Cond.eq (Term.field t C n d) (Term.int k)).value args s none s [] = some true) : Fld s s.heap a C n d (.int k) := by
  obtain ⟨x, y, h1, h2, h3, h4⟩ := cmp_v (Or.inl h)
  have e2 : y = .int k := (Option.some.inj h2).symm
  subst e2
  obtain ⟨z, rfl⟩ := h4
  have e : s.fieldOf? a C n d = some (.int z) := by simpa [Term.eval, ev] using h1
  have q : z = k := by
    simp only [Cond.value, h1, h2] at h; simpa using h
  subst q
  exact Fld.start e
theorem own_rem (x n : Int32) (hn : 0 < n.toInt) : 0 ≤ ((x &&& (2147483647 : Int32)) % n).toInt ∧ ((x &&& (2147483647 : Int32)) % n).toInt < n.toInt := by
  have h := (c_and x 2147483647 (by decide)).1
  have q := (c_irem (x &&& 2147483647) n n.toInt rfl).1 h
  rw [q]; exact ⟨Int.emod_nonneg _ (by omega), Int.emod_lt_of_pos _ hn⟩
theorem own_cases {k : Int32} (h : 0 ≤ k.toInt ∧ k.toInt < 22) : k = 0 ∨ k = 1 ∨ k = 2 ∨ k = 3 ∨ k = 4 ∨ k = 5 ∨ k = 6 ∨ k = 7 ∨ k = 8 ∨ k = 9 ∨ k = 10 ∨ k = 11 ∨ k = 12 ∨ k = 13 ∨ k = 14 ∨ k = 15 ∨ k = 16 ∨ k = 17 ∨ k = 18 ∨ k = 19 ∨ k = 20 ∨ k = 21 := by
  have q : k.toInt = 0 ∨ k.toInt = 1 ∨ k.toInt = 2 ∨ k.toInt = 3 ∨ k.toInt = 4 ∨ k.toInt = 5 ∨ k.toInt = 6 ∨ k.toInt = 7 ∨ k.toInt = 8 ∨ k.toInt = 9 ∨ k.toInt = 10 ∨ k.toInt = 11 ∨ k.toInt = 12 ∨ k.toInt = 13 ∨ k.toInt = 14 ∨ k.toInt = 15 ∨ k.toInt = 16 ∨ k.toInt = 17 ∨ k.toInt = 18 ∨ k.toInt = 19 ∨ k.toInt = 20 ∨ k.toInt = 21 := by omega
  rcases q with q | q | q | q | q | q | q | q | q | q | q | q | q | q | q | q | q | q | q | q | q | q
  · exact Or.inl (Int32.toInt_inj.mp (q.trans (by decide)))
  · exact Or.inr (Or.inl (Int32.toInt_inj.mp (q.trans (by decide))))
  · exact Or.inr (Or.inr (Or.inl (Int32.toInt_inj.mp (q.trans (by decide)))))
  · exact Or.inr (Or.inr (Or.inr (Or.inl (Int32.toInt_inj.mp (q.trans (by decide))))))
  · exact Or.inr (Or.inr (Or.inr (Or.inr (Or.inl (Int32.toInt_inj.mp (q.trans (by decide)))))))
  · exact Or.inr (Or.inr (Or.inr (Or.inr (Or.inr (Or.inl (Int32.toInt_inj.mp (q.trans (by decide))))))))
  · exact Or.inr (Or.inr (Or.inr (Or.inr (Or.inr (Or.inr (Or.inl (Int32.toInt_inj.mp (q.trans (by decide)))))))))
  · exact Or.inr (Or.inr (Or.inr (Or.inr (Or.inr (Or.inr (Or.inr (Or.inl (Int32.toInt_inj.mp (q.trans (by decide))))))))))
  · exact Or.inr (Or.inr (Or.inr (Or.inr (Or.inr (Or.inr (Or.inr (Or.inr (Or.inl (Int32.toInt_inj.mp (q.trans (by decide)))))))))))
  · exact Or.inr (Or.inr (Or.inr (Or.inr (Or.inr (Or.inr (Or.inr (Or.inr (Or.inr (Or.inl (Int32.toInt_inj.mp (q.trans (by decide))))))))))))
  · exact Or.inr (Or.inr (Or.inr (Or.inr (Or.inr (Or.inr (Or.inr (Or.inr (Or.inr (Or.inr (Or.inl (Int32.toInt_inj.mp (q.trans (by decide)))))))))))))
  · exact Or.inr (Or.inr (Or.inr (Or.inr (Or.inr (Or.inr (Or.inr (Or.inr (Or.inr (Or.inr (Or.inr (Or.inl (Int32.toInt_inj.mp (q.trans (by decide))))))))))))))
  · exact Or.inr (Or.inr (Or.inr (Or.inr (Or.inr (Or.inr (Or.inr (Or.inr (Or.inr (Or.inr (Or.inr (Or.inr (Or.inl (Int32.toInt_inj.mp (q.trans (by decide)))))))))))))))
  · exact Or.inr (Or.inr (Or.inr (Or.inr (Or.inr (Or.inr (Or.inr (Or.inr (Or.inr (Or.inr (Or.inr (Or.inr (Or.inr (Or.inl (Int32.toInt_inj.mp (q.trans (by decide))))))))))))))))
  · exact Or.inr (Or.inr (Or.inr (Or.inr (Or.inr (Or.inr (Or.inr (Or.inr (Or.inr (Or.inr (Or.inr (Or.inr (Or.inr (Or.inr (Or.inl (Int32.toInt_inj.mp (q.trans (by decide)))))))))))))))))
  · exact Or.inr (Or.inr (Or.inr (Or.inr (Or.inr (Or.inr (Or.inr (Or.inr (Or.inr (Or.inr (Or.inr (Or.inr (Or.inr (Or.inr (Or.inr (Or.inl (Int32.toInt_inj.mp (q.trans (by decide))))))))))))))))))
  · exact Or.inr (Or.inr (Or.inr (Or.inr (Or.inr (Or.inr (Or.inr (Or.inr (Or.inr (Or.inr (Or.inr (Or.inr (Or.inr (Or.inr (Or.inr (Or.inr (Or.inl (Int32.toInt_inj.mp (q.trans (by decide)))))))))))))))))))
  · exact Or.inr (Or.inr (Or.inr (Or.inr (Or.inr (Or.inr (Or.inr (Or.inr (Or.inr (Or.inr (Or.inr (Or.inr (Or.inr (Or.inr (Or.inr (Or.inr (Or.inr (Or.inl (Int32.toInt_inj.mp (q.trans (by decide))))))))))))))))))))
  · exact Or.inr (Or.inr (Or.inr (Or.inr (Or.inr (Or.inr (Or.inr (Or.inr (Or.inr (Or.inr (Or.inr (Or.inr (Or.inr (Or.inr (Or.inr (Or.inr (Or.inr (Or.inr (Or.inl (Int32.toInt_inj.mp (q.trans (by decide)))))))))))))))))))))
  · exact Or.inr (Or.inr (Or.inr (Or.inr (Or.inr (Or.inr (Or.inr (Or.inr (Or.inr (Or.inr (Or.inr (Or.inr (Or.inr (Or.inr (Or.inr (Or.inr (Or.inr (Or.inr (Or.inr (Or.inl (Int32.toInt_inj.mp (q.trans (by decide))))))))))))))))))))))
  · exact Or.inr (Or.inr (Or.inr (Or.inr (Or.inr (Or.inr (Or.inr (Or.inr (Or.inr (Or.inr (Or.inr (Or.inr (Or.inr (Or.inr (Or.inr (Or.inr (Or.inr (Or.inr (Or.inr (Or.inr (Or.inl (Int32.toInt_inj.mp (q.trans (by decide)))))))))))))))))))))))
  · exact Or.inr (Or.inr (Or.inr (Or.inr (Or.inr (Or.inr (Or.inr (Or.inr (Or.inr (Or.inr (Or.inr (Or.inr (Or.inr (Or.inr (Or.inr (Or.inr (Or.inr (Or.inr (Or.inr (Or.inr (Or.inr (Int32.toInt_inj.mp (q.trans (by decide)))))))))))))))))))))))
def own_pick (k : Int32) (w_EQUALS w_NOT_EQUALS w_GREATER_THAN w_LESS_THAN w_GREATER_THAN_OR_EQUAL w_LESS_THAN_OR_EQUAL w_BETWEEN w_NOT_BETWEEN w_IN w_NOT_IN w_STARTING_WITH w_NOT_STARTING_WITH w_ENDING_WITH w_NOT_ENDING_WITH w_CONTAINING w_NOT_CONTAINING w_LIKE w_NOT_LIKE w_IS_NULL w_IS_NOT_NULL w_TRUE w_FALSE : Addr) : Addr := if k = (0 : Int32) then w_EQUALS else if k = (1 : Int32) then w_NOT_EQUALS else if k = (2 : Int32) then w_GREATER_THAN else if k = (3 : Int32) then w_LESS_THAN else if k = (4 : Int32) then w_GREATER_THAN_OR_EQUAL else if k = (5 : Int32) then w_LESS_THAN_OR_EQUAL else if k = (6 : Int32) then w_BETWEEN else if k = (7 : Int32) then w_NOT_BETWEEN else if k = (8 : Int32) then w_IN else if k = (9 : Int32) then w_NOT_IN else if k = (10 : Int32) then w_STARTING_WITH else if k = (11 : Int32) then w_NOT_STARTING_WITH else if k = (12 : Int32) then w_ENDING_WITH else if k = (13 : Int32) then w_NOT_ENDING_WITH else if k = (14 : Int32) then w_CONTAINING else if k = (15 : Int32) then w_NOT_CONTAINING else if k = (16 : Int32) then w_LIKE else if k = (17 : Int32) then w_NOT_LIKE else if k = (18 : Int32) then w_IS_NULL else if k = (19 : Int32) then w_IS_NOT_NULL else if k = (20 : Int32) then w_TRUE else w_FALSE
theorem own_ite {P : Addr → Prop} {c : Prop} [Decidable c] {a b : Addr} (ha : P a) (hb : P b) : P (if c then a else b) := by
  split <;> assumption
theorem own_pick_ind {P : Addr → Prop} {k : Int32} {w_EQUALS w_NOT_EQUALS w_GREATER_THAN w_LESS_THAN w_GREATER_THAN_OR_EQUAL w_LESS_THAN_OR_EQUAL w_BETWEEN w_NOT_BETWEEN w_IN w_NOT_IN w_STARTING_WITH w_NOT_STARTING_WITH w_ENDING_WITH w_NOT_ENDING_WITH w_CONTAINING w_NOT_CONTAINING w_LIKE w_NOT_LIKE w_IS_NULL w_IS_NOT_NULL w_TRUE w_FALSE : Addr} (h0 : P w_EQUALS) (h1 : P w_NOT_EQUALS) (h2 : P w_GREATER_THAN) (h3 : P w_LESS_THAN) (h4 : P w_GREATER_THAN_OR_EQUAL) (h5 : P w_LESS_THAN_OR_EQUAL) (h6 : P w_BETWEEN) (h7 : P w_NOT_BETWEEN) (h8 : P w_IN) (h9 : P w_NOT_IN) (h10 : P w_STARTING_WITH) (h11 : P w_NOT_STARTING_WITH) (h12 : P w_ENDING_WITH) (h13 : P w_NOT_ENDING_WITH) (h14 : P w_CONTAINING) (h15 : P w_NOT_CONTAINING) (h16 : P w_LIKE) (h17 : P w_NOT_LIKE) (h18 : P w_IS_NULL) (h19 : P w_IS_NOT_NULL) (h20 : P w_TRUE) (h21 : P w_FALSE) : P (own_pick k w_EQUALS w_NOT_EQUALS w_GREATER_THAN w_LESS_THAN w_GREATER_THAN_OR_EQUAL w_LESS_THAN_OR_EQUAL w_BETWEEN w_NOT_BETWEEN w_IN w_NOT_IN w_STARTING_WITH w_NOT_STARTING_WITH w_ENDING_WITH w_NOT_ENDING_WITH w_CONTAINING w_NOT_CONTAINING w_LIKE w_NOT_LIKE w_IS_NULL w_IS_NOT_NULL w_TRUE w_FALSE) := own_ite h0 (own_ite h1 (own_ite h2 (own_ite h3 (own_ite h4 (own_ite h5 (own_ite h6 (own_ite h7 (own_ite h8 (own_ite h9 (own_ite h10 (own_ite h11 (own_ite h12 (own_ite h13 (own_ite h14 (own_ite h15 (own_ite h16 (own_ite h17 (own_ite h18 (own_ite h19 (own_ite h20 (h21)))))))))))))))))))))
def own_q (a w_TRUE w_FALSE : Addr) : Int32 := if a = w_TRUE then (1 : Int32) else if a = w_FALSE then (1 : Int32) else (0 : Int32)
theorem own_law {Z : State} {h : Heap} {k : Int32} {w_EQUALS w_NOT_EQUALS w_GREATER_THAN w_LESS_THAN w_GREATER_THAN_OR_EQUAL w_LESS_THAN_OR_EQUAL w_BETWEEN w_NOT_BETWEEN w_IN w_NOT_IN w_STARTING_WITH w_NOT_STARTING_WITH w_ENDING_WITH w_NOT_ENDING_WITH w_CONTAINING w_NOT_CONTAINING w_LIKE w_NOT_LIKE w_IS_NULL w_IS_NOT_NULL w_TRUE w_FALSE : Addr} (hk : 0 ≤ k.toInt ∧ k.toInt < 22) (F0 : Fld Z h w_EQUALS "java/lang/Enum" "ordinal" "I" (.int (0 : Int32))) (F1 : Fld Z h w_NOT_EQUALS "java/lang/Enum" "ordinal" "I" (.int (1 : Int32))) (F2 : Fld Z h w_GREATER_THAN "java/lang/Enum" "ordinal" "I" (.int (2 : Int32))) (F3 : Fld Z h w_LESS_THAN "java/lang/Enum" "ordinal" "I" (.int (3 : Int32))) (F4 : Fld Z h w_GREATER_THAN_OR_EQUAL "java/lang/Enum" "ordinal" "I" (.int (4 : Int32))) (F5 : Fld Z h w_LESS_THAN_OR_EQUAL "java/lang/Enum" "ordinal" "I" (.int (5 : Int32))) (F6 : Fld Z h w_BETWEEN "java/lang/Enum" "ordinal" "I" (.int (6 : Int32))) (F7 : Fld Z h w_NOT_BETWEEN "java/lang/Enum" "ordinal" "I" (.int (7 : Int32))) (F8 : Fld Z h w_IN "java/lang/Enum" "ordinal" "I" (.int (8 : Int32))) (F9 : Fld Z h w_NOT_IN "java/lang/Enum" "ordinal" "I" (.int (9 : Int32))) (F10 : Fld Z h w_STARTING_WITH "java/lang/Enum" "ordinal" "I" (.int (10 : Int32))) (F11 : Fld Z h w_NOT_STARTING_WITH "java/lang/Enum" "ordinal" "I" (.int (11 : Int32))) (F12 : Fld Z h w_ENDING_WITH "java/lang/Enum" "ordinal" "I" (.int (12 : Int32))) (F13 : Fld Z h w_NOT_ENDING_WITH "java/lang/Enum" "ordinal" "I" (.int (13 : Int32))) (F14 : Fld Z h w_CONTAINING "java/lang/Enum" "ordinal" "I" (.int (14 : Int32))) (F15 : Fld Z h w_NOT_CONTAINING "java/lang/Enum" "ordinal" "I" (.int (15 : Int32))) (F16 : Fld Z h w_LIKE "java/lang/Enum" "ordinal" "I" (.int (16 : Int32))) (F17 : Fld Z h w_NOT_LIKE "java/lang/Enum" "ordinal" "I" (.int (17 : Int32))) (F18 : Fld Z h w_IS_NULL "java/lang/Enum" "ordinal" "I" (.int (18 : Int32))) (F19 : Fld Z h w_IS_NOT_NULL "java/lang/Enum" "ordinal" "I" (.int (19 : Int32))) (F20 : Fld Z h w_TRUE "java/lang/Enum" "ordinal" "I" (.int (20 : Int32))) (F21 : Fld Z h w_FALSE "java/lang/Enum" "ordinal" "I" (.int (21 : Int32))) : own_q (own_pick k w_EQUALS w_NOT_EQUALS w_GREATER_THAN w_LESS_THAN w_GREATER_THAN_OR_EQUAL w_LESS_THAN_OR_EQUAL w_BETWEEN w_NOT_BETWEEN w_IN w_NOT_IN w_STARTING_WITH w_NOT_STARTING_WITH w_ENDING_WITH w_NOT_ENDING_WITH w_CONTAINING w_NOT_CONTAINING w_LIKE w_NOT_LIKE w_IS_NULL w_IS_NOT_NULL w_TRUE w_FALSE) w_TRUE w_FALSE = (if k = (20 : Int32) then (1 : Int32) else (if k = (21 : Int32) then (1 : Int32) else (0 : Int32))) := by
  rcases own_cases hk with rfl | rfl | rfl | rfl | rfl | rfl | rfl | rfl | rfl | rfl | rfl | rfl | rfl | rfl | rfl | rfl | rfl | rfl | rfl | rfl | rfl | rfl
  · have e : own_pick (0 : Int32) w_EQUALS w_NOT_EQUALS w_GREATER_THAN w_LESS_THAN w_GREATER_THAN_OR_EQUAL w_LESS_THAN_OR_EQUAL w_BETWEEN w_NOT_BETWEEN w_IN w_NOT_IN w_STARTING_WITH w_NOT_STARTING_WITH w_ENDING_WITH w_NOT_ENDING_WITH w_CONTAINING w_NOT_CONTAINING w_LIKE w_NOT_LIKE w_IS_NULL w_IS_NOT_NULL w_TRUE w_FALSE = w_EQUALS := rfl
    have n20 : w_EQUALS ≠ w_TRUE := Fld.ne F0 F20 (by simp)
    have n21 : w_EQUALS ≠ w_FALSE := Fld.ne F0 F21 (by simp)
    rw [e]; simp +decide [own_q, n20, n21]
  · have e : own_pick (1 : Int32) w_EQUALS w_NOT_EQUALS w_GREATER_THAN w_LESS_THAN w_GREATER_THAN_OR_EQUAL w_LESS_THAN_OR_EQUAL w_BETWEEN w_NOT_BETWEEN w_IN w_NOT_IN w_STARTING_WITH w_NOT_STARTING_WITH w_ENDING_WITH w_NOT_ENDING_WITH w_CONTAINING w_NOT_CONTAINING w_LIKE w_NOT_LIKE w_IS_NULL w_IS_NOT_NULL w_TRUE w_FALSE = w_NOT_EQUALS := rfl
    have n20 : w_NOT_EQUALS ≠ w_TRUE := Fld.ne F1 F20 (by simp)
    have n21 : w_NOT_EQUALS ≠ w_FALSE := Fld.ne F1 F21 (by simp)
    rw [e]; simp +decide [own_q, n20, n21]
  · have e : own_pick (2 : Int32) w_EQUALS w_NOT_EQUALS w_GREATER_THAN w_LESS_THAN w_GREATER_THAN_OR_EQUAL w_LESS_THAN_OR_EQUAL w_BETWEEN w_NOT_BETWEEN w_IN w_NOT_IN w_STARTING_WITH w_NOT_STARTING_WITH w_ENDING_WITH w_NOT_ENDING_WITH w_CONTAINING w_NOT_CONTAINING w_LIKE w_NOT_LIKE w_IS_NULL w_IS_NOT_NULL w_TRUE w_FALSE = w_GREATER_THAN := rfl
    have n20 : w_GREATER_THAN ≠ w_TRUE := Fld.ne F2 F20 (by simp)
    have n21 : w_GREATER_THAN ≠ w_FALSE := Fld.ne F2 F21 (by simp)
    rw [e]; simp +decide [own_q, n20, n21]
  · have e : own_pick (3 : Int32) w_EQUALS w_NOT_EQUALS w_GREATER_THAN w_LESS_THAN w_GREATER_THAN_OR_EQUAL w_LESS_THAN_OR_EQUAL w_BETWEEN w_NOT_BETWEEN w_IN w_NOT_IN w_STARTING_WITH w_NOT_STARTING_WITH w_ENDING_WITH w_NOT_ENDING_WITH w_CONTAINING w_NOT_CONTAINING w_LIKE w_NOT_LIKE w_IS_NULL w_IS_NOT_NULL w_TRUE w_FALSE = w_LESS_THAN := rfl
    have n20 : w_LESS_THAN ≠ w_TRUE := Fld.ne F3 F20 (by simp)
    have n21 : w_LESS_THAN ≠ w_FALSE := Fld.ne F3 F21 (by simp)
    rw [e]; simp +decide [own_q, n20, n21]
  · have e : own_pick (4 : Int32) w_EQUALS w_NOT_EQUALS w_GREATER_THAN w_LESS_THAN w_GREATER_THAN_OR_EQUAL w_LESS_THAN_OR_EQUAL w_BETWEEN w_NOT_BETWEEN w_IN w_NOT_IN w_STARTING_WITH w_NOT_STARTING_WITH w_ENDING_WITH w_NOT_ENDING_WITH w_CONTAINING w_NOT_CONTAINING w_LIKE w_NOT_LIKE w_IS_NULL w_IS_NOT_NULL w_TRUE w_FALSE = w_GREATER_THAN_OR_EQUAL := rfl
    have n20 : w_GREATER_THAN_OR_EQUAL ≠ w_TRUE := Fld.ne F4 F20 (by simp)
    have n21 : w_GREATER_THAN_OR_EQUAL ≠ w_FALSE := Fld.ne F4 F21 (by simp)
    rw [e]; simp +decide [own_q, n20, n21]
  · have e : own_pick (5 : Int32) w_EQUALS w_NOT_EQUALS w_GREATER_THAN w_LESS_THAN w_GREATER_THAN_OR_EQUAL w_LESS_THAN_OR_EQUAL w_BETWEEN w_NOT_BETWEEN w_IN w_NOT_IN w_STARTING_WITH w_NOT_STARTING_WITH w_ENDING_WITH w_NOT_ENDING_WITH w_CONTAINING w_NOT_CONTAINING w_LIKE w_NOT_LIKE w_IS_NULL w_IS_NOT_NULL w_TRUE w_FALSE = w_LESS_THAN_OR_EQUAL := rfl
    have n20 : w_LESS_THAN_OR_EQUAL ≠ w_TRUE := Fld.ne F5 F20 (by simp)
    have n21 : w_LESS_THAN_OR_EQUAL ≠ w_FALSE := Fld.ne F5 F21 (by simp)
    rw [e]; simp +decide [own_q, n20, n21]
  · have e : own_pick (6 : Int32) w_EQUALS w_NOT_EQUALS w_GREATER_THAN w_LESS_THAN w_GREATER_THAN_OR_EQUAL w_LESS_THAN_OR_EQUAL w_BETWEEN w_NOT_BETWEEN w_IN w_NOT_IN w_STARTING_WITH w_NOT_STARTING_WITH w_ENDING_WITH w_NOT_ENDING_WITH w_CONTAINING w_NOT_CONTAINING w_LIKE w_NOT_LIKE w_IS_NULL w_IS_NOT_NULL w_TRUE w_FALSE = w_BETWEEN := rfl
    have n20 : w_BETWEEN ≠ w_TRUE := Fld.ne F6 F20 (by simp)
    have n21 : w_BETWEEN ≠ w_FALSE := Fld.ne F6 F21 (by simp)
    rw [e]; simp +decide [own_q, n20, n21]
  · have e : own_pick (7 : Int32) w_EQUALS w_NOT_EQUALS w_GREATER_THAN w_LESS_THAN w_GREATER_THAN_OR_EQUAL w_LESS_THAN_OR_EQUAL w_BETWEEN w_NOT_BETWEEN w_IN w_NOT_IN w_STARTING_WITH w_NOT_STARTING_WITH w_ENDING_WITH w_NOT_ENDING_WITH w_CONTAINING w_NOT_CONTAINING w_LIKE w_NOT_LIKE w_IS_NULL w_IS_NOT_NULL w_TRUE w_FALSE = w_NOT_BETWEEN := rfl
    have n20 : w_NOT_BETWEEN ≠ w_TRUE := Fld.ne F7 F20 (by simp)
    have n21 : w_NOT_BETWEEN ≠ w_FALSE := Fld.ne F7 F21 (by simp)
    rw [e]; simp +decide [own_q, n20, n21]
  · have e : own_pick (8 : Int32) w_EQUALS w_NOT_EQUALS w_GREATER_THAN w_LESS_THAN w_GREATER_THAN_OR_EQUAL w_LESS_THAN_OR_EQUAL w_BETWEEN w_NOT_BETWEEN w_IN w_NOT_IN w_STARTING_WITH w_NOT_STARTING_WITH w_ENDING_WITH w_NOT_ENDING_WITH w_CONTAINING w_NOT_CONTAINING w_LIKE w_NOT_LIKE w_IS_NULL w_IS_NOT_NULL w_TRUE w_FALSE = w_IN := rfl
    have n20 : w_IN ≠ w_TRUE := Fld.ne F8 F20 (by simp)
    have n21 : w_IN ≠ w_FALSE := Fld.ne F8 F21 (by simp)
    rw [e]; simp +decide [own_q, n20, n21]
  · have e : own_pick (9 : Int32) w_EQUALS w_NOT_EQUALS w_GREATER_THAN w_LESS_THAN w_GREATER_THAN_OR_EQUAL w_LESS_THAN_OR_EQUAL w_BETWEEN w_NOT_BETWEEN w_IN w_NOT_IN w_STARTING_WITH w_NOT_STARTING_WITH w_ENDING_WITH w_NOT_ENDING_WITH w_CONTAINING w_NOT_CONTAINING w_LIKE w_NOT_LIKE w_IS_NULL w_IS_NOT_NULL w_TRUE w_FALSE = w_NOT_IN := rfl
    have n20 : w_NOT_IN ≠ w_TRUE := Fld.ne F9 F20 (by simp)
    have n21 : w_NOT_IN ≠ w_FALSE := Fld.ne F9 F21 (by simp)
    rw [e]; simp +decide [own_q, n20, n21]
  · have e : own_pick (10 : Int32) w_EQUALS w_NOT_EQUALS w_GREATER_THAN w_LESS_THAN w_GREATER_THAN_OR_EQUAL w_LESS_THAN_OR_EQUAL w_BETWEEN w_NOT_BETWEEN w_IN w_NOT_IN w_STARTING_WITH w_NOT_STARTING_WITH w_ENDING_WITH w_NOT_ENDING_WITH w_CONTAINING w_NOT_CONTAINING w_LIKE w_NOT_LIKE w_IS_NULL w_IS_NOT_NULL w_TRUE w_FALSE = w_STARTING_WITH := rfl
    have n20 : w_STARTING_WITH ≠ w_TRUE := Fld.ne F10 F20 (by simp)
    have n21 : w_STARTING_WITH ≠ w_FALSE := Fld.ne F10 F21 (by simp)
    rw [e]; simp +decide [own_q, n20, n21]
  · have e : own_pick (11 : Int32) w_EQUALS w_NOT_EQUALS w_GREATER_THAN w_LESS_THAN w_GREATER_THAN_OR_EQUAL w_LESS_THAN_OR_EQUAL w_BETWEEN w_NOT_BETWEEN w_IN w_NOT_IN w_STARTING_WITH w_NOT_STARTING_WITH w_ENDING_WITH w_NOT_ENDING_WITH w_CONTAINING w_NOT_CONTAINING w_LIKE w_NOT_LIKE w_IS_NULL w_IS_NOT_NULL w_TRUE w_FALSE = w_NOT_STARTING_WITH := rfl
    have n20 : w_NOT_STARTING_WITH ≠ w_TRUE := Fld.ne F11 F20 (by simp)
    have n21 : w_NOT_STARTING_WITH ≠ w_FALSE := Fld.ne F11 F21 (by simp)
    rw [e]; simp +decide [own_q, n20, n21]
  · have e : own_pick (12 : Int32) w_EQUALS w_NOT_EQUALS w_GREATER_THAN w_LESS_THAN w_GREATER_THAN_OR_EQUAL w_LESS_THAN_OR_EQUAL w_BETWEEN w_NOT_BETWEEN w_IN w_NOT_IN w_STARTING_WITH w_NOT_STARTING_WITH w_ENDING_WITH w_NOT_ENDING_WITH w_CONTAINING w_NOT_CONTAINING w_LIKE w_NOT_LIKE w_IS_NULL w_IS_NOT_NULL w_TRUE w_FALSE = w_ENDING_WITH := rfl
    have n20 : w_ENDING_WITH ≠ w_TRUE := Fld.ne F12 F20 (by simp)
    have n21 : w_ENDING_WITH ≠ w_FALSE := Fld.ne F12 F21 (by simp)
    rw [e]; simp +decide [own_q, n20, n21]
  · have e : own_pick (13 : Int32) w_EQUALS w_NOT_EQUALS w_GREATER_THAN w_LESS_THAN w_GREATER_THAN_OR_EQUAL w_LESS_THAN_OR_EQUAL w_BETWEEN w_NOT_BETWEEN w_IN w_NOT_IN w_STARTING_WITH w_NOT_STARTING_WITH w_ENDING_WITH w_NOT_ENDING_WITH w_CONTAINING w_NOT_CONTAINING w_LIKE w_NOT_LIKE w_IS_NULL w_IS_NOT_NULL w_TRUE w_FALSE = w_NOT_ENDING_WITH := rfl
    have n20 : w_NOT_ENDING_WITH ≠ w_TRUE := Fld.ne F13 F20 (by simp)
    have n21 : w_NOT_ENDING_WITH ≠ w_FALSE := Fld.ne F13 F21 (by simp)
    rw [e]; simp +decide [own_q, n20, n21]
  · have e : own_pick (14 : Int32) w_EQUALS w_NOT_EQUALS w_GREATER_THAN w_LESS_THAN w_GREATER_THAN_OR_EQUAL w_LESS_THAN_OR_EQUAL w_BETWEEN w_NOT_BETWEEN w_IN w_NOT_IN w_STARTING_WITH w_NOT_STARTING_WITH w_ENDING_WITH w_NOT_ENDING_WITH w_CONTAINING w_NOT_CONTAINING w_LIKE w_NOT_LIKE w_IS_NULL w_IS_NOT_NULL w_TRUE w_FALSE = w_CONTAINING := rfl
    have n20 : w_CONTAINING ≠ w_TRUE := Fld.ne F14 F20 (by simp)
    have n21 : w_CONTAINING ≠ w_FALSE := Fld.ne F14 F21 (by simp)
    rw [e]; simp +decide [own_q, n20, n21]
  · have e : own_pick (15 : Int32) w_EQUALS w_NOT_EQUALS w_GREATER_THAN w_LESS_THAN w_GREATER_THAN_OR_EQUAL w_LESS_THAN_OR_EQUAL w_BETWEEN w_NOT_BETWEEN w_IN w_NOT_IN w_STARTING_WITH w_NOT_STARTING_WITH w_ENDING_WITH w_NOT_ENDING_WITH w_CONTAINING w_NOT_CONTAINING w_LIKE w_NOT_LIKE w_IS_NULL w_IS_NOT_NULL w_TRUE w_FALSE = w_NOT_CONTAINING := rfl
    have n20 : w_NOT_CONTAINING ≠ w_TRUE := Fld.ne F15 F20 (by simp)
    have n21 : w_NOT_CONTAINING ≠ w_FALSE := Fld.ne F15 F21 (by simp)
    rw [e]; simp +decide [own_q, n20, n21]
  · have e : own_pick (16 : Int32) w_EQUALS w_NOT_EQUALS w_GREATER_THAN w_LESS_THAN w_GREATER_THAN_OR_EQUAL w_LESS_THAN_OR_EQUAL w_BETWEEN w_NOT_BETWEEN w_IN w_NOT_IN w_STARTING_WITH w_NOT_STARTING_WITH w_ENDING_WITH w_NOT_ENDING_WITH w_CONTAINING w_NOT_CONTAINING w_LIKE w_NOT_LIKE w_IS_NULL w_IS_NOT_NULL w_TRUE w_FALSE = w_LIKE := rfl
    have n20 : w_LIKE ≠ w_TRUE := Fld.ne F16 F20 (by simp)
    have n21 : w_LIKE ≠ w_FALSE := Fld.ne F16 F21 (by simp)
    rw [e]; simp +decide [own_q, n20, n21]
  · have e : own_pick (17 : Int32) w_EQUALS w_NOT_EQUALS w_GREATER_THAN w_LESS_THAN w_GREATER_THAN_OR_EQUAL w_LESS_THAN_OR_EQUAL w_BETWEEN w_NOT_BETWEEN w_IN w_NOT_IN w_STARTING_WITH w_NOT_STARTING_WITH w_ENDING_WITH w_NOT_ENDING_WITH w_CONTAINING w_NOT_CONTAINING w_LIKE w_NOT_LIKE w_IS_NULL w_IS_NOT_NULL w_TRUE w_FALSE = w_NOT_LIKE := rfl
    have n20 : w_NOT_LIKE ≠ w_TRUE := Fld.ne F17 F20 (by simp)
    have n21 : w_NOT_LIKE ≠ w_FALSE := Fld.ne F17 F21 (by simp)
    rw [e]; simp +decide [own_q, n20, n21]
  · have e : own_pick (18 : Int32) w_EQUALS w_NOT_EQUALS w_GREATER_THAN w_LESS_THAN w_GREATER_THAN_OR_EQUAL w_LESS_THAN_OR_EQUAL w_BETWEEN w_NOT_BETWEEN w_IN w_NOT_IN w_STARTING_WITH w_NOT_STARTING_WITH w_ENDING_WITH w_NOT_ENDING_WITH w_CONTAINING w_NOT_CONTAINING w_LIKE w_NOT_LIKE w_IS_NULL w_IS_NOT_NULL w_TRUE w_FALSE = w_IS_NULL := rfl
    have n20 : w_IS_NULL ≠ w_TRUE := Fld.ne F18 F20 (by simp)
    have n21 : w_IS_NULL ≠ w_FALSE := Fld.ne F18 F21 (by simp)
    rw [e]; simp +decide [own_q, n20, n21]
  · have e : own_pick (19 : Int32) w_EQUALS w_NOT_EQUALS w_GREATER_THAN w_LESS_THAN w_GREATER_THAN_OR_EQUAL w_LESS_THAN_OR_EQUAL w_BETWEEN w_NOT_BETWEEN w_IN w_NOT_IN w_STARTING_WITH w_NOT_STARTING_WITH w_ENDING_WITH w_NOT_ENDING_WITH w_CONTAINING w_NOT_CONTAINING w_LIKE w_NOT_LIKE w_IS_NULL w_IS_NOT_NULL w_TRUE w_FALSE = w_IS_NOT_NULL := rfl
    have n20 : w_IS_NOT_NULL ≠ w_TRUE := Fld.ne F19 F20 (by simp)
    have n21 : w_IS_NOT_NULL ≠ w_FALSE := Fld.ne F19 F21 (by simp)
    rw [e]; simp +decide [own_q, n20, n21]
  · have e : own_pick (20 : Int32) w_EQUALS w_NOT_EQUALS w_GREATER_THAN w_LESS_THAN w_GREATER_THAN_OR_EQUAL w_LESS_THAN_OR_EQUAL w_BETWEEN w_NOT_BETWEEN w_IN w_NOT_IN w_STARTING_WITH w_NOT_STARTING_WITH w_ENDING_WITH w_NOT_ENDING_WITH w_CONTAINING w_NOT_CONTAINING w_LIKE w_NOT_LIKE w_IS_NULL w_IS_NOT_NULL w_TRUE w_FALSE = w_TRUE := rfl
    have n21 : w_TRUE ≠ w_FALSE := Fld.ne F20 F21 (by simp)
    rw [e]; simp +decide [own_q, n21]
  · have e : own_pick (21 : Int32) w_EQUALS w_NOT_EQUALS w_GREATER_THAN w_LESS_THAN w_GREATER_THAN_OR_EQUAL w_LESS_THAN_OR_EQUAL w_BETWEEN w_NOT_BETWEEN w_IN w_NOT_IN w_STARTING_WITH w_NOT_STARTING_WITH w_ENDING_WITH w_NOT_ENDING_WITH w_CONTAINING w_NOT_CONTAINING w_LIKE w_NOT_LIKE w_IS_NULL w_IS_NOT_NULL w_TRUE w_FALSE = w_FALSE := rfl
    have n20 : w_FALSE ≠ w_TRUE := Fld.ne F21 F20 (by simp)
    rw [e]; simp +decide [own_q, n20]

theorem kw0 {Z : State} {a0 : Array Value} (hw : ∀ d ∈ tables_1, d.before a0 Z = true) : (Jvm.Cond.constant "com/example/libfinder/libfinder/query/internal/OperatorTestsTruthPinLaw" (76 : Nat) (2147483647 : Int32)).before a0 Z = true := hw _ (List.mem_of_getElem? (i := 0) rfl)
theorem kw1 {Z : State} {a0 : Array Value} (hw : ∀ d ∈ tables_1, d.before a0 Z = true) : (Jvm.Cond.methodLink "com/example/libfinder/libfinder/query/internal/OperatorTestsTruthPinLaw" (77 : Nat) ({ cls := "com/example/libfinder/libfinder/query/internal/OperatorTestsTruthPinLaw", name := "pick", desc := "(I)Lcom/example/libfinder/libfinder/query/internal/Query$Operator;" } : Jvm.MethodName)).before a0 Z = true := hw _ (List.mem_of_getElem? (i := 1) rfl)
theorem kw2 {Z : State} {a0 : Array Value} (hw : ∀ d ∈ tables_1, d.before a0 Z = true) : (Jvm.Cond.static ({ cls := "com/example/libfinder/libfinder/query/internal/OperatorTestsTruthPinLaw", name := "pick", desc := "(I)Lcom/example/libfinder/libfinder/query/internal/Query$Operator;" } : Jvm.MethodName)).before a0 Z = true := hw _ (List.mem_of_getElem? (i := 2) rfl)
theorem kw3 {Z : State} {a0 : Array Value} (hw : ∀ d ∈ tables_1, d.before a0 Z = true) : (Jvm.Cond.initialized "com/example/libfinder/libfinder/query/internal/OperatorTestsTruthPinLaw").before a0 Z = true := hw _ (List.mem_of_getElem? (i := 3) rfl)
theorem kw4 {Z : State} {a0 : Array Value} (hw : ∀ d ∈ tables_1, d.before a0 Z = true) : (Jvm.Cond.code ({ cls := "com/example/libfinder/libfinder/query/internal/OperatorTestsTruthPinLaw", name := "pick", desc := "(I)Lcom/example/libfinder/libfinder/query/internal/Query$Operator;" } : Jvm.MethodName) method_2_code (1 : Nat) (Option.some (Jvm.ClassFile.FieldType.object "com/example/libfinder/libfinder/query/internal/Query$Operator"))).before a0 Z = true := hw _ (List.mem_of_getElem? (i := 4) rfl)
theorem kw5 {Z : State} {a0 : Array Value} (hw : ∀ d ∈ tables_1, d.before a0 Z = true) : (Jvm.Cond.fieldLink "com/example/libfinder/libfinder/query/internal/OperatorTestsTruthPinLaw" (7 : Nat) "com/example/libfinder/libfinder/query/internal/Query$Operator" "EQUALS" "Lcom/example/libfinder/libfinder/query/internal/Query$Operator;").before a0 Z = true := hw _ (List.mem_of_getElem? (i := 5) rfl)
theorem kw6 {Z : State} {a0 : Array Value} (hw : ∀ d ∈ tables_1, d.before a0 Z = true) : (Jvm.Cond.initialized "com/example/libfinder/libfinder/query/internal/Query$Operator").before a0 Z = true := hw _ (List.mem_of_getElem? (i := 6) rfl)
theorem kw7 {Z : State} {a0 : Array Value} (hw : ∀ d ∈ tables_1, d.before a0 Z = true) : (Jvm.Cond.laysStatic "com/example/libfinder/libfinder/query/internal/Query$Operator" "EQUALS" "Lcom/example/libfinder/libfinder/query/internal/Query$Operator;").before a0 Z = true := hw _ (List.mem_of_getElem? (i := 7) rfl)
theorem kw8 {Z : State} {a0 : Array Value} (hw : ∀ d ∈ tables_1, d.before a0 Z = true) : (Jvm.Cond.methodLink "com/example/libfinder/libfinder/query/internal/OperatorTestsTruthPinLaw" (83 : Nat) ({ cls := "com/example/libfinder/libfinder/query/internal/Query$Operator", name := "testsTruth", desc := "()Z" } : Jvm.MethodName)).before a0 Z = true := hw _ (List.mem_of_getElem? (i := 8) rfl)
theorem kw9 {Z : State} {a0 : Array Value} (hw : ∀ d ∈ tables_1, d.before a0 Z = true) : (Jvm.Cond.declares ({ cls := "com/example/libfinder/libfinder/query/internal/Query$Operator", name := "testsTruth", desc := "()Z" } : Jvm.MethodName)).before a0 Z = true := hw _ (List.mem_of_getElem? (i := 9) rfl)
theorem kw10 {Z : State} {a0 : Array Value} (hw : ∀ d ∈ tables_1, d.before a0 Z = true) : (Jvm.Cond.instanceMethod ({ cls := "com/example/libfinder/libfinder/query/internal/Query$Operator", name := "testsTruth", desc := "()Z" } : Jvm.MethodName)).before a0 Z = true := hw _ (List.mem_of_getElem? (i := 10) rfl)
theorem kw11 {Z : State} {a0 : Array Value} (hw : ∀ d ∈ tables_1, d.before a0 Z = true) : (Jvm.Cond.selects "com/example/libfinder/libfinder/query/internal/Query$Operator" ({ cls := "com/example/libfinder/libfinder/query/internal/Query$Operator", name := "testsTruth", desc := "()Z" } : Jvm.MethodName) ({ cls := "com/example/libfinder/libfinder/query/internal/Query$Operator", name := "testsTruth", desc := "()Z" } : Jvm.MethodName)).before a0 Z = true := hw _ (List.mem_of_getElem? (i := 11) rfl)
theorem kw12 {Z : State} {a0 : Array Value} (hw : ∀ d ∈ tables_1, d.before a0 Z = true) : (Jvm.Cond.code ({ cls := "com/example/libfinder/libfinder/query/internal/Query$Operator", name := "testsTruth", desc := "()Z" } : Jvm.MethodName) prog_85_method_8_code (1 : Nat) (Option.some Jvm.ClassFile.FieldType.boolean)).before a0 Z = true := hw _ (List.mem_of_getElem? (i := 12) rfl)
theorem kw13 {Z : State} {a0 : Array Value} (hw : ∀ d ∈ tables_1, d.before a0 Z = true) : (Jvm.Cond.fieldLink "com/example/libfinder/libfinder/query/internal/Query$Operator" (64 : Nat) "com/example/libfinder/libfinder/query/internal/Query$Operator" "TRUE" "Lcom/example/libfinder/libfinder/query/internal/Query$Operator;").before a0 Z = true := hw _ (List.mem_of_getElem? (i := 13) rfl)
theorem kw14 {Z : State} {a0 : Array Value} (hw : ∀ d ∈ tables_1, d.before a0 Z = true) : (Jvm.Cond.laysStatic "com/example/libfinder/libfinder/query/internal/Query$Operator" "TRUE" "Lcom/example/libfinder/libfinder/query/internal/Query$Operator;").before a0 Z = true := hw _ (List.mem_of_getElem? (i := 14) rfl)
theorem kw15 {Z : State} {a0 : Array Value} (hw : ∀ d ∈ tables_1, d.before a0 Z = true) : (Jvm.Cond.fieldLink "com/example/libfinder/libfinder/query/internal/Query$Operator" (67 : Nat) "com/example/libfinder/libfinder/query/internal/Query$Operator" "FALSE" "Lcom/example/libfinder/libfinder/query/internal/Query$Operator;").before a0 Z = true := hw _ (List.mem_of_getElem? (i := 15) rfl)
theorem kw16 {Z : State} {a0 : Array Value} (hw : ∀ d ∈ tables_1, d.before a0 Z = true) : (Jvm.Cond.laysStatic "com/example/libfinder/libfinder/query/internal/Query$Operator" "FALSE" "Lcom/example/libfinder/libfinder/query/internal/Query$Operator;").before a0 Z = true := hw _ (List.mem_of_getElem? (i := 16) rfl)
theorem kw17 {Z : State} {a0 : Array Value} (hw : ∀ d ∈ tables_1, d.before a0 Z = true) : (Jvm.Cond.fieldLink "com/example/libfinder/libfinder/query/internal/OperatorTestsTruthPinLaw" (19 : Nat) "com/example/libfinder/libfinder/query/internal/Query$Operator" "LESS_THAN" "Lcom/example/libfinder/libfinder/query/internal/Query$Operator;").before a0 Z = true := hw _ (List.mem_of_getElem? (i := 17) rfl)
theorem kw18 {Z : State} {a0 : Array Value} (hw : ∀ d ∈ tables_1, d.before a0 Z = true) : (Jvm.Cond.laysStatic "com/example/libfinder/libfinder/query/internal/Query$Operator" "LESS_THAN" "Lcom/example/libfinder/libfinder/query/internal/Query$Operator;").before a0 Z = true := hw _ (List.mem_of_getElem? (i := 18) rfl)
theorem kw19 {Z : State} {a0 : Array Value} (hw : ∀ d ∈ tables_1, d.before a0 Z = true) : (Jvm.Cond.fieldLink "com/example/libfinder/libfinder/query/internal/OperatorTestsTruthPinLaw" (31 : Nat) "com/example/libfinder/libfinder/query/internal/Query$Operator" "NOT_BETWEEN" "Lcom/example/libfinder/libfinder/query/internal/Query$Operator;").before a0 Z = true := hw _ (List.mem_of_getElem? (i := 19) rfl)
theorem kw20 {Z : State} {a0 : Array Value} (hw : ∀ d ∈ tables_1, d.before a0 Z = true) : (Jvm.Cond.laysStatic "com/example/libfinder/libfinder/query/internal/Query$Operator" "NOT_BETWEEN" "Lcom/example/libfinder/libfinder/query/internal/Query$Operator;").before a0 Z = true := hw _ (List.mem_of_getElem? (i := 20) rfl)
theorem kw21 {Z : State} {a0 : Array Value} (hw : ∀ d ∈ tables_1, d.before a0 Z = true) : (Jvm.Cond.fieldLink "com/example/libfinder/libfinder/query/internal/OperatorTestsTruthPinLaw" (34 : Nat) "com/example/libfinder/libfinder/query/internal/Query$Operator" "IN" "Lcom/example/libfinder/libfinder/query/internal/Query$Operator;").before a0 Z = true := hw _ (List.mem_of_getElem? (i := 21) rfl)
theorem kw22 {Z : State} {a0 : Array Value} (hw : ∀ d ∈ tables_1, d.before a0 Z = true) : (Jvm.Cond.laysStatic "com/example/libfinder/libfinder/query/internal/Query$Operator" "IN" "Lcom/example/libfinder/libfinder/query/internal/Query$Operator;").before a0 Z = true := hw _ (List.mem_of_getElem? (i := 22) rfl)
theorem kw23 {Z : State} {a0 : Array Value} (hw : ∀ d ∈ tables_1, d.before a0 Z = true) : (Jvm.Cond.fieldLink "com/example/libfinder/libfinder/query/internal/OperatorTestsTruthPinLaw" (16 : Nat) "com/example/libfinder/libfinder/query/internal/Query$Operator" "GREATER_THAN" "Lcom/example/libfinder/libfinder/query/internal/Query$Operator;").before a0 Z = true := hw _ (List.mem_of_getElem? (i := 23) rfl)
theorem kw24 {Z : State} {a0 : Array Value} (hw : ∀ d ∈ tables_1, d.before a0 Z = true) : (Jvm.Cond.laysStatic "com/example/libfinder/libfinder/query/internal/Query$Operator" "GREATER_THAN" "Lcom/example/libfinder/libfinder/query/internal/Query$Operator;").before a0 Z = true := hw _ (List.mem_of_getElem? (i := 24) rfl)
theorem kw25 {Z : State} {a0 : Array Value} (hw : ∀ d ∈ tables_1, d.before a0 Z = true) : (Jvm.Cond.fieldLink "com/example/libfinder/libfinder/query/internal/OperatorTestsTruthPinLaw" (43 : Nat) "com/example/libfinder/libfinder/query/internal/Query$Operator" "NOT_STARTING_WITH" "Lcom/example/libfinder/libfinder/query/internal/Query$Operator;").before a0 Z = true := hw _ (List.mem_of_getElem? (i := 25) rfl)
theorem kw26 {Z : State} {a0 : Array Value} (hw : ∀ d ∈ tables_1, d.before a0 Z = true) : (Jvm.Cond.laysStatic "com/example/libfinder/libfinder/query/internal/Query$Operator" "NOT_STARTING_WITH" "Lcom/example/libfinder/libfinder/query/internal/Query$Operator;").before a0 Z = true := hw _ (List.mem_of_getElem? (i := 26) rfl)
theorem kw27 {Z : State} {a0 : Array Value} (hw : ∀ d ∈ tables_1, d.before a0 Z = true) : (Jvm.Cond.fieldLink "com/example/libfinder/libfinder/query/internal/OperatorTestsTruthPinLaw" (40 : Nat) "com/example/libfinder/libfinder/query/internal/Query$Operator" "STARTING_WITH" "Lcom/example/libfinder/libfinder/query/internal/Query$Operator;").before a0 Z = true := hw _ (List.mem_of_getElem? (i := 27) rfl)
theorem kw28 {Z : State} {a0 : Array Value} (hw : ∀ d ∈ tables_1, d.before a0 Z = true) : (Jvm.Cond.laysStatic "com/example/libfinder/libfinder/query/internal/Query$Operator" "STARTING_WITH" "Lcom/example/libfinder/libfinder/query/internal/Query$Operator;").before a0 Z = true := hw _ (List.mem_of_getElem? (i := 28) rfl)
theorem kw29 {Z : State} {a0 : Array Value} (hw : ∀ d ∈ tables_1, d.before a0 Z = true) : (Jvm.Cond.fieldLink "com/example/libfinder/libfinder/query/internal/OperatorTestsTruthPinLaw" (13 : Nat) "com/example/libfinder/libfinder/query/internal/Query$Operator" "NOT_EQUALS" "Lcom/example/libfinder/libfinder/query/internal/Query$Operator;").before a0 Z = true := hw _ (List.mem_of_getElem? (i := 29) rfl)
theorem kw30 {Z : State} {a0 : Array Value} (hw : ∀ d ∈ tables_1, d.before a0 Z = true) : (Jvm.Cond.laysStatic "com/example/libfinder/libfinder/query/internal/Query$Operator" "NOT_EQUALS" "Lcom/example/libfinder/libfinder/query/internal/Query$Operator;").before a0 Z = true := hw _ (List.mem_of_getElem? (i := 30) rfl)
theorem kw31 {Z : State} {a0 : Array Value} (hw : ∀ d ∈ tables_1, d.before a0 Z = true) : (Jvm.Cond.fieldLink "com/example/libfinder/libfinder/query/internal/OperatorTestsTruthPinLaw" (37 : Nat) "com/example/libfinder/libfinder/query/internal/Query$Operator" "NOT_IN" "Lcom/example/libfinder/libfinder/query/internal/Query$Operator;").before a0 Z = true := hw _ (List.mem_of_getElem? (i := 31) rfl)
theorem kw32 {Z : State} {a0 : Array Value} (hw : ∀ d ∈ tables_1, d.before a0 Z = true) : (Jvm.Cond.laysStatic "com/example/libfinder/libfinder/query/internal/Query$Operator" "NOT_IN" "Lcom/example/libfinder/libfinder/query/internal/Query$Operator;").before a0 Z = true := hw _ (List.mem_of_getElem? (i := 32) rfl)
theorem kw33 {Z : State} {a0 : Array Value} (hw : ∀ d ∈ tables_1, d.before a0 Z = true) : (Jvm.Cond.fieldLink "com/example/libfinder/libfinder/query/internal/OperatorTestsTruthPinLaw" (25 : Nat) "com/example/libfinder/libfinder/query/internal/Query$Operator" "LESS_THAN_OR_EQUAL" "Lcom/example/libfinder/libfinder/query/internal/Query$Operator;").before a0 Z = true := hw _ (List.mem_of_getElem? (i := 33) rfl)
theorem kw34 {Z : State} {a0 : Array Value} (hw : ∀ d ∈ tables_1, d.before a0 Z = true) : (Jvm.Cond.laysStatic "com/example/libfinder/libfinder/query/internal/Query$Operator" "LESS_THAN_OR_EQUAL" "Lcom/example/libfinder/libfinder/query/internal/Query$Operator;").before a0 Z = true := hw _ (List.mem_of_getElem? (i := 34) rfl)
theorem kw35 {Z : State} {a0 : Array Value} (hw : ∀ d ∈ tables_1, d.before a0 Z = true) : (Jvm.Cond.fieldLink "com/example/libfinder/libfinder/query/internal/OperatorTestsTruthPinLaw" (58 : Nat) "com/example/libfinder/libfinder/query/internal/Query$Operator" "LIKE" "Lcom/example/libfinder/libfinder/query/internal/Query$Operator;").before a0 Z = true := hw _ (List.mem_of_getElem? (i := 35) rfl)
theorem kw36 {Z : State} {a0 : Array Value} (hw : ∀ d ∈ tables_1, d.before a0 Z = true) : (Jvm.Cond.laysStatic "com/example/libfinder/libfinder/query/internal/Query$Operator" "LIKE" "Lcom/example/libfinder/libfinder/query/internal/Query$Operator;").before a0 Z = true := hw _ (List.mem_of_getElem? (i := 36) rfl)
theorem kw37 {Z : State} {a0 : Array Value} (hw : ∀ d ∈ tables_1, d.before a0 Z = true) : (Jvm.Cond.fieldLink "com/example/libfinder/libfinder/query/internal/OperatorTestsTruthPinLaw" (28 : Nat) "com/example/libfinder/libfinder/query/internal/Query$Operator" "BETWEEN" "Lcom/example/libfinder/libfinder/query/internal/Query$Operator;").before a0 Z = true := hw _ (List.mem_of_getElem? (i := 37) rfl)
theorem kw38 {Z : State} {a0 : Array Value} (hw : ∀ d ∈ tables_1, d.before a0 Z = true) : (Jvm.Cond.laysStatic "com/example/libfinder/libfinder/query/internal/Query$Operator" "BETWEEN" "Lcom/example/libfinder/libfinder/query/internal/Query$Operator;").before a0 Z = true := hw _ (List.mem_of_getElem? (i := 38) rfl)
theorem kw39 {Z : State} {a0 : Array Value} (hw : ∀ d ∈ tables_1, d.before a0 Z = true) : (Jvm.Cond.fieldLink "com/example/libfinder/libfinder/query/internal/OperatorTestsTruthPinLaw" (67 : Nat) "com/example/libfinder/libfinder/query/internal/Query$Operator" "IS_NOT_NULL" "Lcom/example/libfinder/libfinder/query/internal/Query$Operator;").before a0 Z = true := hw _ (List.mem_of_getElem? (i := 39) rfl)
theorem kw40 {Z : State} {a0 : Array Value} (hw : ∀ d ∈ tables_1, d.before a0 Z = true) : (Jvm.Cond.laysStatic "com/example/libfinder/libfinder/query/internal/Query$Operator" "IS_NOT_NULL" "Lcom/example/libfinder/libfinder/query/internal/Query$Operator;").before a0 Z = true := hw _ (List.mem_of_getElem? (i := 40) rfl)
theorem kw41 {Z : State} {a0 : Array Value} (hw : ∀ d ∈ tables_1, d.before a0 Z = true) : (Jvm.Cond.fieldLink "com/example/libfinder/libfinder/query/internal/OperatorTestsTruthPinLaw" (64 : Nat) "com/example/libfinder/libfinder/query/internal/Query$Operator" "IS_NULL" "Lcom/example/libfinder/libfinder/query/internal/Query$Operator;").before a0 Z = true := hw _ (List.mem_of_getElem? (i := 41) rfl)
theorem kw42 {Z : State} {a0 : Array Value} (hw : ∀ d ∈ tables_1, d.before a0 Z = true) : (Jvm.Cond.laysStatic "com/example/libfinder/libfinder/query/internal/Query$Operator" "IS_NULL" "Lcom/example/libfinder/libfinder/query/internal/Query$Operator;").before a0 Z = true := hw _ (List.mem_of_getElem? (i := 42) rfl)
theorem kw43 {Z : State} {a0 : Array Value} (hw : ∀ d ∈ tables_1, d.before a0 Z = true) : (Jvm.Cond.fieldLink "com/example/libfinder/libfinder/query/internal/OperatorTestsTruthPinLaw" (55 : Nat) "com/example/libfinder/libfinder/query/internal/Query$Operator" "NOT_CONTAINING" "Lcom/example/libfinder/libfinder/query/internal/Query$Operator;").before a0 Z = true := hw _ (List.mem_of_getElem? (i := 43) rfl)
theorem kw44 {Z : State} {a0 : Array Value} (hw : ∀ d ∈ tables_1, d.before a0 Z = true) : (Jvm.Cond.laysStatic "com/example/libfinder/libfinder/query/internal/Query$Operator" "NOT_CONTAINING" "Lcom/example/libfinder/libfinder/query/internal/Query$Operator;").before a0 Z = true := hw _ (List.mem_of_getElem? (i := 44) rfl)
theorem kw45 {Z : State} {a0 : Array Value} (hw : ∀ d ∈ tables_1, d.before a0 Z = true) : (Jvm.Cond.fieldLink "com/example/libfinder/libfinder/query/internal/OperatorTestsTruthPinLaw" (22 : Nat) "com/example/libfinder/libfinder/query/internal/Query$Operator" "GREATER_THAN_OR_EQUAL" "Lcom/example/libfinder/libfinder/query/internal/Query$Operator;").before a0 Z = true := hw _ (List.mem_of_getElem? (i := 45) rfl)
theorem kw46 {Z : State} {a0 : Array Value} (hw : ∀ d ∈ tables_1, d.before a0 Z = true) : (Jvm.Cond.laysStatic "com/example/libfinder/libfinder/query/internal/Query$Operator" "GREATER_THAN_OR_EQUAL" "Lcom/example/libfinder/libfinder/query/internal/Query$Operator;").before a0 Z = true := hw _ (List.mem_of_getElem? (i := 46) rfl)
theorem kw47 {Z : State} {a0 : Array Value} (hw : ∀ d ∈ tables_1, d.before a0 Z = true) : (Jvm.Cond.fieldLink "com/example/libfinder/libfinder/query/internal/OperatorTestsTruthPinLaw" (73 : Nat) "com/example/libfinder/libfinder/query/internal/Query$Operator" "FALSE" "Lcom/example/libfinder/libfinder/query/internal/Query$Operator;").before a0 Z = true := hw _ (List.mem_of_getElem? (i := 47) rfl)
theorem kw48 {Z : State} {a0 : Array Value} (hw : ∀ d ∈ tables_1, d.before a0 Z = true) : (Jvm.Cond.fieldLink "com/example/libfinder/libfinder/query/internal/OperatorTestsTruthPinLaw" (52 : Nat) "com/example/libfinder/libfinder/query/internal/Query$Operator" "CONTAINING" "Lcom/example/libfinder/libfinder/query/internal/Query$Operator;").before a0 Z = true := hw _ (List.mem_of_getElem? (i := 48) rfl)
theorem kw49 {Z : State} {a0 : Array Value} (hw : ∀ d ∈ tables_1, d.before a0 Z = true) : (Jvm.Cond.laysStatic "com/example/libfinder/libfinder/query/internal/Query$Operator" "CONTAINING" "Lcom/example/libfinder/libfinder/query/internal/Query$Operator;").before a0 Z = true := hw _ (List.mem_of_getElem? (i := 49) rfl)
theorem kw50 {Z : State} {a0 : Array Value} (hw : ∀ d ∈ tables_1, d.before a0 Z = true) : (Jvm.Cond.fieldLink "com/example/libfinder/libfinder/query/internal/OperatorTestsTruthPinLaw" (46 : Nat) "com/example/libfinder/libfinder/query/internal/Query$Operator" "ENDING_WITH" "Lcom/example/libfinder/libfinder/query/internal/Query$Operator;").before a0 Z = true := hw _ (List.mem_of_getElem? (i := 50) rfl)
theorem kw51 {Z : State} {a0 : Array Value} (hw : ∀ d ∈ tables_1, d.before a0 Z = true) : (Jvm.Cond.laysStatic "com/example/libfinder/libfinder/query/internal/Query$Operator" "ENDING_WITH" "Lcom/example/libfinder/libfinder/query/internal/Query$Operator;").before a0 Z = true := hw _ (List.mem_of_getElem? (i := 51) rfl)
theorem kw52 {Z : State} {a0 : Array Value} (hw : ∀ d ∈ tables_1, d.before a0 Z = true) : (Jvm.Cond.fieldLink "com/example/libfinder/libfinder/query/internal/OperatorTestsTruthPinLaw" (49 : Nat) "com/example/libfinder/libfinder/query/internal/Query$Operator" "NOT_ENDING_WITH" "Lcom/example/libfinder/libfinder/query/internal/Query$Operator;").before a0 Z = true := hw _ (List.mem_of_getElem? (i := 52) rfl)
theorem kw53 {Z : State} {a0 : Array Value} (hw : ∀ d ∈ tables_1, d.before a0 Z = true) : (Jvm.Cond.laysStatic "com/example/libfinder/libfinder/query/internal/Query$Operator" "NOT_ENDING_WITH" "Lcom/example/libfinder/libfinder/query/internal/Query$Operator;").before a0 Z = true := hw _ (List.mem_of_getElem? (i := 53) rfl)
theorem kw54 {Z : State} {a0 : Array Value} (hw : ∀ d ∈ tables_1, d.before a0 Z = true) : (Jvm.Cond.fieldLink "com/example/libfinder/libfinder/query/internal/OperatorTestsTruthPinLaw" (61 : Nat) "com/example/libfinder/libfinder/query/internal/Query$Operator" "NOT_LIKE" "Lcom/example/libfinder/libfinder/query/internal/Query$Operator;").before a0 Z = true := hw _ (List.mem_of_getElem? (i := 54) rfl)
theorem kw55 {Z : State} {a0 : Array Value} (hw : ∀ d ∈ tables_1, d.before a0 Z = true) : (Jvm.Cond.laysStatic "com/example/libfinder/libfinder/query/internal/Query$Operator" "NOT_LIKE" "Lcom/example/libfinder/libfinder/query/internal/Query$Operator;").before a0 Z = true := hw _ (List.mem_of_getElem? (i := 55) rfl)
theorem kw56 {Z : State} {a0 : Array Value} (hw : ∀ d ∈ tables_1, d.before a0 Z = true) : (Jvm.Cond.fieldLink "com/example/libfinder/libfinder/query/internal/OperatorTestsTruthPinLaw" (70 : Nat) "com/example/libfinder/libfinder/query/internal/Query$Operator" "TRUE" "Lcom/example/libfinder/libfinder/query/internal/Query$Operator;").before a0 Z = true := hw _ (List.mem_of_getElem? (i := 56) rfl)
theorem pn_0 : plainName "com/example/libfinder/libfinder/query/internal/OperatorTestsTruthPinLaw" = true := by first | (simp [plainName, overriddenIn]; done) | decide +kernel
theorem pn_1 : plainName "com/example/libfinder/libfinder/query/internal/Query$Operator" = true := by first | (simp [plainName, overriddenIn]; done) | decide +kernel
theorem pd_0 : parseMethodDescriptor "(I)Lcom/example/libfinder/libfinder/query/internal/Query$Operator;" = some ⟨[.int], some (.object "com/example/libfinder/libfinder/query/internal/Query$Operator")⟩ := by decide +kernel
theorem pd_1 : parseMethodDescriptor "()Z" = some ⟨[], some .boolean⟩ := by decide +kernel
theorem d1_0 : decode method_2_code 0 = .ok (.iload_n 0, 1) := by decide +kernel
theorem d1_1 : decode method_2_code 1 = .ok (.ifCond .ne 7, 3) := by decide +kernel
theorem d1_4 : decode method_2_code 4 = .ok (.getstatic 7, 3) := by decide +kernel
theorem d1_7 : decode method_2_code 7 = .ok (.areturn, 1) := by decide +kernel
theorem d1_8 : decode method_2_code 8 = .ok (.iload_n 0, 1) := by decide +kernel
theorem d1_9 : decode method_2_code 9 = .ok (.iconst 1, 1) := by decide +kernel
theorem d1_10 : decode method_2_code 10 = .ok (.if_icmp .ne 7, 3) := by decide +kernel
theorem d1_13 : decode method_2_code 13 = .ok (.getstatic 13, 3) := by decide +kernel
theorem d1_16 : decode method_2_code 16 = .ok (.areturn, 1) := by decide +kernel
theorem d1_17 : decode method_2_code 17 = .ok (.iload_n 0, 1) := by decide +kernel
theorem d1_18 : decode method_2_code 18 = .ok (.iconst 2, 1) := by decide +kernel
theorem d1_19 : decode method_2_code 19 = .ok (.if_icmp .ne 7, 3) := by decide +kernel
theorem d1_22 : decode method_2_code 22 = .ok (.getstatic 16, 3) := by decide +kernel
theorem d1_25 : decode method_2_code 25 = .ok (.areturn, 1) := by decide +kernel
theorem d1_26 : decode method_2_code 26 = .ok (.iload_n 0, 1) := by decide +kernel
theorem d1_27 : decode method_2_code 27 = .ok (.iconst 3, 1) := by decide +kernel
theorem d1_28 : decode method_2_code 28 = .ok (.if_icmp .ne 7, 3) := by decide +kernel
theorem d1_31 : decode method_2_code 31 = .ok (.getstatic 19, 3) := by decide +kernel
theorem d1_34 : decode method_2_code 34 = .ok (.areturn, 1) := by decide +kernel
theorem d1_35 : decode method_2_code 35 = .ok (.iload_n 0, 1) := by decide +kernel
theorem d1_36 : decode method_2_code 36 = .ok (.iconst 4, 1) := by decide +kernel
theorem d1_37 : decode method_2_code 37 = .ok (.if_icmp .ne 7, 3) := by decide +kernel
theorem d1_40 : decode method_2_code 40 = .ok (.getstatic 22, 3) := by decide +kernel
theorem d1_43 : decode method_2_code 43 = .ok (.areturn, 1) := by decide +kernel
theorem d1_44 : decode method_2_code 44 = .ok (.iload_n 0, 1) := by decide +kernel
theorem d1_45 : decode method_2_code 45 = .ok (.iconst 5, 1) := by decide +kernel
theorem d1_46 : decode method_2_code 46 = .ok (.if_icmp .ne 7, 3) := by decide +kernel
theorem d1_49 : decode method_2_code 49 = .ok (.getstatic 25, 3) := by decide +kernel
theorem d1_52 : decode method_2_code 52 = .ok (.areturn, 1) := by decide +kernel
theorem d1_53 : decode method_2_code 53 = .ok (.iload_n 0, 1) := by decide +kernel
theorem d1_54 : decode method_2_code 54 = .ok (.bipush 6, 2) := by decide +kernel
theorem d1_56 : decode method_2_code 56 = .ok (.if_icmp .ne 7, 3) := by decide +kernel
theorem d1_59 : decode method_2_code 59 = .ok (.getstatic 28, 3) := by decide +kernel
theorem d1_62 : decode method_2_code 62 = .ok (.areturn, 1) := by decide +kernel
theorem d1_63 : decode method_2_code 63 = .ok (.iload_n 0, 1) := by decide +kernel
theorem d1_64 : decode method_2_code 64 = .ok (.bipush 7, 2) := by decide +kernel
theorem d1_66 : decode method_2_code 66 = .ok (.if_icmp .ne 7, 3) := by decide +kernel
theorem d1_69 : decode method_2_code 69 = .ok (.getstatic 31, 3) := by decide +kernel
theorem d1_72 : decode method_2_code 72 = .ok (.areturn, 1) := by decide +kernel
theorem d1_73 : decode method_2_code 73 = .ok (.iload_n 0, 1) := by decide +kernel
theorem d1_74 : decode method_2_code 74 = .ok (.bipush 8, 2) := by decide +kernel
theorem d1_76 : decode method_2_code 76 = .ok (.if_icmp .ne 7, 3) := by decide +kernel
theorem d1_79 : decode method_2_code 79 = .ok (.getstatic 34, 3) := by decide +kernel
theorem d1_82 : decode method_2_code 82 = .ok (.areturn, 1) := by decide +kernel
theorem d1_83 : decode method_2_code 83 = .ok (.iload_n 0, 1) := by decide +kernel
theorem d1_84 : decode method_2_code 84 = .ok (.bipush 9, 2) := by decide +kernel
theorem d1_86 : decode method_2_code 86 = .ok (.if_icmp .ne 7, 3) := by decide +kernel
theorem d1_89 : decode method_2_code 89 = .ok (.getstatic 37, 3) := by decide +kernel
theorem d1_92 : decode method_2_code 92 = .ok (.areturn, 1) := by decide +kernel
theorem d1_93 : decode method_2_code 93 = .ok (.iload_n 0, 1) := by decide +kernel
theorem d1_94 : decode method_2_code 94 = .ok (.bipush 10, 2) := by decide +kernel
theorem d1_96 : decode method_2_code 96 = .ok (.if_icmp .ne 7, 3) := by decide +kernel
theorem d1_99 : decode method_2_code 99 = .ok (.getstatic 40, 3) := by decide +kernel
theorem d1_102 : decode method_2_code 102 = .ok (.areturn, 1) := by decide +kernel
theorem d1_103 : decode method_2_code 103 = .ok (.iload_n 0, 1) := by decide +kernel
theorem d1_104 : decode method_2_code 104 = .ok (.bipush 11, 2) := by decide +kernel
theorem d1_106 : decode method_2_code 106 = .ok (.if_icmp .ne 7, 3) := by decide +kernel
theorem d1_109 : decode method_2_code 109 = .ok (.getstatic 43, 3) := by decide +kernel
theorem d1_112 : decode method_2_code 112 = .ok (.areturn, 1) := by decide +kernel
theorem d1_113 : decode method_2_code 113 = .ok (.iload_n 0, 1) := by decide +kernel
theorem d1_114 : decode method_2_code 114 = .ok (.bipush 12, 2) := by decide +kernel
theorem d1_116 : decode method_2_code 116 = .ok (.if_icmp .ne 7, 3) := by decide +kernel
theorem d1_119 : decode method_2_code 119 = .ok (.getstatic 46, 3) := by decide +kernel
theorem d1_122 : decode method_2_code 122 = .ok (.areturn, 1) := by decide +kernel
theorem d1_123 : decode method_2_code 123 = .ok (.iload_n 0, 1) := by decide +kernel
theorem d1_124 : decode method_2_code 124 = .ok (.bipush 13, 2) := by decide +kernel
theorem d1_126 : decode method_2_code 126 = .ok (.if_icmp .ne 7, 3) := by decide +kernel
theorem d1_129 : decode method_2_code 129 = .ok (.getstatic 49, 3) := by decide +kernel
theorem d1_132 : decode method_2_code 132 = .ok (.areturn, 1) := by decide +kernel
theorem d1_133 : decode method_2_code 133 = .ok (.iload_n 0, 1) := by decide +kernel
theorem d1_134 : decode method_2_code 134 = .ok (.bipush 14, 2) := by decide +kernel
theorem d1_136 : decode method_2_code 136 = .ok (.if_icmp .ne 7, 3) := by decide +kernel
theorem d1_139 : decode method_2_code 139 = .ok (.getstatic 52, 3) := by decide +kernel
theorem d1_142 : decode method_2_code 142 = .ok (.areturn, 1) := by decide +kernel
theorem d1_143 : decode method_2_code 143 = .ok (.iload_n 0, 1) := by decide +kernel
theorem d1_144 : decode method_2_code 144 = .ok (.bipush 15, 2) := by decide +kernel
theorem d1_146 : decode method_2_code 146 = .ok (.if_icmp .ne 7, 3) := by decide +kernel
theorem d1_149 : decode method_2_code 149 = .ok (.getstatic 55, 3) := by decide +kernel
theorem d1_152 : decode method_2_code 152 = .ok (.areturn, 1) := by decide +kernel
theorem d1_153 : decode method_2_code 153 = .ok (.iload_n 0, 1) := by decide +kernel
theorem d1_154 : decode method_2_code 154 = .ok (.bipush 16, 2) := by decide +kernel
theorem d1_156 : decode method_2_code 156 = .ok (.if_icmp .ne 7, 3) := by decide +kernel
theorem d1_159 : decode method_2_code 159 = .ok (.getstatic 58, 3) := by decide +kernel
theorem d1_162 : decode method_2_code 162 = .ok (.areturn, 1) := by decide +kernel
theorem d1_163 : decode method_2_code 163 = .ok (.iload_n 0, 1) := by decide +kernel
theorem d1_164 : decode method_2_code 164 = .ok (.bipush 17, 2) := by decide +kernel
theorem d1_166 : decode method_2_code 166 = .ok (.if_icmp .ne 7, 3) := by decide +kernel
theorem d1_169 : decode method_2_code 169 = .ok (.getstatic 61, 3) := by decide +kernel
theorem d1_172 : decode method_2_code 172 = .ok (.areturn, 1) := by decide +kernel
theorem d1_173 : decode method_2_code 173 = .ok (.iload_n 0, 1) := by decide +kernel
theorem d1_174 : decode method_2_code 174 = .ok (.bipush 18, 2) := by decide +kernel
theorem d1_176 : decode method_2_code 176 = .ok (.if_icmp .ne 7, 3) := by decide +kernel
theorem d1_179 : decode method_2_code 179 = .ok (.getstatic 64, 3) := by decide +kernel
theorem d1_182 : decode method_2_code 182 = .ok (.areturn, 1) := by decide +kernel
theorem d1_183 : decode method_2_code 183 = .ok (.iload_n 0, 1) := by decide +kernel
theorem d1_184 : decode method_2_code 184 = .ok (.bipush 19, 2) := by decide +kernel
theorem d1_186 : decode method_2_code 186 = .ok (.if_icmp .ne 7, 3) := by decide +kernel
theorem d1_189 : decode method_2_code 189 = .ok (.getstatic 67, 3) := by decide +kernel
theorem d1_192 : decode method_2_code 192 = .ok (.areturn, 1) := by decide +kernel
theorem d1_193 : decode method_2_code 193 = .ok (.iload_n 0, 1) := by decide +kernel
theorem d1_194 : decode method_2_code 194 = .ok (.bipush 20, 2) := by decide +kernel
theorem d1_196 : decode method_2_code 196 = .ok (.if_icmp .ne 7, 3) := by decide +kernel
theorem d1_199 : decode method_2_code 199 = .ok (.getstatic 70, 3) := by decide +kernel
theorem d1_202 : decode method_2_code 202 = .ok (.areturn, 1) := by decide +kernel
theorem d1_203 : decode method_2_code 203 = .ok (.getstatic 73, 3) := by decide +kernel
theorem d1_206 : decode method_2_code 206 = .ok (.areturn, 1) := by decide +kernel
theorem d2_0 : decode prog_85_method_8_code 0 = .ok (.aload_n 0, 1) := by decide +kernel
theorem d2_1 : decode prog_85_method_8_code 1 = .ok (.getstatic 64, 3) := by decide +kernel
theorem d2_4 : decode prog_85_method_8_code 4 = .ok (.if_acmp .eq 10, 3) := by decide +kernel
theorem d2_7 : decode prog_85_method_8_code 7 = .ok (.aload_n 0, 1) := by decide +kernel
theorem d2_8 : decode prog_85_method_8_code 8 = .ok (.getstatic 67, 3) := by decide +kernel
theorem d2_11 : decode prog_85_method_8_code 11 = .ok (.if_acmp .ne 7, 3) := by decide +kernel
theorem d2_14 : decode prog_85_method_8_code 14 = .ok (.iconst 1, 1) := by decide +kernel
theorem d2_15 : decode prog_85_method_8_code 15 = .ok (.goto 4, 3) := by decide +kernel
theorem d2_18 : decode prog_85_method_8_code 18 = .ok (.iconst 0, 1) := by decide +kernel
theorem d2_19 : decode prog_85_method_8_code 19 = .ok (.ireturn, 1) := by decide +kernel
theorem ef_rm1 (m : MethodId) (x0 : Int32) : entryFrame m #[(.int x0)] 1 = mkF m 0 #[.val (.int x0)] [] := by first | (simp [entryFrame, mkF, argsToLocals, Value.category]; done) | rfl
def Q_rm1 (Z : State) (p1 : Int32) (w_EQUALS : Addr) (w_NOT_EQUALS : Addr) (w_GREATER_THAN : Addr) (w_LESS_THAN : Addr) (w_GREATER_THAN_OR_EQUAL : Addr) (w_LESS_THAN_OR_EQUAL : Addr) (w_BETWEEN : Addr) (w_NOT_BETWEEN : Addr) (w_IN : Addr) (w_NOT_IN : Addr) (w_STARTING_WITH : Addr) (w_NOT_STARTING_WITH : Addr) (w_ENDING_WITH : Addr) (w_NOT_ENDING_WITH : Addr) (w_CONTAINING : Addr) (w_NOT_CONTAINING : Addr) (w_LIKE : Addr) (w_NOT_LIKE : Addr) (w_IS_NULL : Addr) (w_IS_NOT_NULL : Addr) (w_TRUE : Addr) (w_FALSE : Addr) (h0 : Heap) (n0 : Nat) (v : Option Value) (h : Heap) (L : List Loc) : Prop := v = some (.ref (own_pick p1 w_EQUALS w_NOT_EQUALS w_GREATER_THAN w_LESS_THAN w_GREATER_THAN_OR_EQUAL w_LESS_THAN_OR_EQUAL w_BETWEEN w_NOT_BETWEEN w_IN w_NOT_IN w_STARTING_WITH w_NOT_STARTING_WITH w_ENDING_WITH w_NOT_ENDING_WITH w_CONTAINING w_NOT_CONTAINING w_LIKE w_NOT_LIKE w_IS_NULL w_IS_NOT_NULL w_TRUE w_FALSE)) ∧ Fr n0 L ∧ h = h0
set_option maxRecDepth 65536 in
set_option maxHeartbeats 40000000 in
theorem rm1 (l : Launch) (Z : State) (a0 : Array Value) (hw : ∀ d ∈ tables_1, d.before a0 Z = true) (ws : List Jvm.Cond) (p1 : Int32) (w_EQUALS : Addr) (w_NOT_EQUALS : Addr) (w_GREATER_THAN : Addr) (w_LESS_THAN : Addr) (w_GREATER_THAN_OR_EQUAL : Addr) (w_LESS_THAN_OR_EQUAL : Addr) (w_BETWEEN : Addr) (w_NOT_BETWEEN : Addr) (w_IN : Addr) (w_NOT_IN : Addr) (w_STARTING_WITH : Addr) (w_NOT_STARTING_WITH : Addr) (w_ENDING_WITH : Addr) (w_NOT_ENDING_WITH : Addr) (w_CONTAINING : Addr) (w_NOT_CONTAINING : Addr) (w_LIKE : Addr) (w_NOT_LIKE : Addr) (w_IS_NULL : Addr) (w_IS_NOT_NULL : Addr) (w_TRUE : Addr) (w_FALSE : Addr) (h0 : Heap) (n0 : Nat) (Z0 : n0 ≤ h0.size) (P0 : Old Z n0 h0) (P1 : Sta Z Z.heap "com/example/libfinder/libfinder/query/internal/Query$Operator" "EQUALS" "Lcom/example/libfinder/libfinder/query/internal/Query$Operator;" (.ref w_EQUALS)) (P2 : Sta Z Z.heap "com/example/libfinder/libfinder/query/internal/Query$Operator" "NOT_EQUALS" "Lcom/example/libfinder/libfinder/query/internal/Query$Operator;" (.ref w_NOT_EQUALS)) (P3 : Sta Z Z.heap "com/example/libfinder/libfinder/query/internal/Query$Operator" "GREATER_THAN" "Lcom/example/libfinder/libfinder/query/internal/Query$Operator;" (.ref w_GREATER_THAN)) (P4 : Sta Z Z.heap "com/example/libfinder/libfinder/query/internal/Query$Operator" "LESS_THAN" "Lcom/example/libfinder/libfinder/query/internal/Query$Operator;" (.ref w_LESS_THAN)) (P5 : Sta Z Z.heap "com/example/libfinder/libfinder/query/internal/Query$Operator" "GREATER_THAN_OR_EQUAL" "Lcom/example/libfinder/libfinder/query/internal/Query$Operator;" (.ref w_GREATER_THAN_OR_EQUAL)) (P6 : Sta Z Z.heap "com/example/libfinder/libfinder/query/internal/Query$Operator" "LESS_THAN_OR_EQUAL" "Lcom/example/libfinder/libfinder/query/internal/Query$Operator;" (.ref w_LESS_THAN_OR_EQUAL)) (P7 : Sta Z Z.heap "com/example/libfinder/libfinder/query/internal/Query$Operator" "BETWEEN" "Lcom/example/libfinder/libfinder/query/internal/Query$Operator;" (.ref w_BETWEEN)) (P8 : Sta Z Z.heap "com/example/libfinder/libfinder/query/internal/Query$Operator" "NOT_BETWEEN" "Lcom/example/libfinder/libfinder/query/internal/Query$Operator;" (.ref w_NOT_BETWEEN)) (P9 : Sta Z Z.heap "com/example/libfinder/libfinder/query/internal/Query$Operator" "IN" "Lcom/example/libfinder/libfinder/query/internal/Query$Operator;" (.ref w_IN)) (P10 : Sta Z Z.heap "com/example/libfinder/libfinder/query/internal/Query$Operator" "NOT_IN" "Lcom/example/libfinder/libfinder/query/internal/Query$Operator;" (.ref w_NOT_IN)) (P11 : Sta Z Z.heap "com/example/libfinder/libfinder/query/internal/Query$Operator" "STARTING_WITH" "Lcom/example/libfinder/libfinder/query/internal/Query$Operator;" (.ref w_STARTING_WITH)) (P12 : Sta Z Z.heap "com/example/libfinder/libfinder/query/internal/Query$Operator" "NOT_STARTING_WITH" "Lcom/example/libfinder/libfinder/query/internal/Query$Operator;" (.ref w_NOT_STARTING_WITH)) (P13 : Sta Z Z.heap "com/example/libfinder/libfinder/query/internal/Query$Operator" "ENDING_WITH" "Lcom/example/libfinder/libfinder/query/internal/Query$Operator;" (.ref w_ENDING_WITH)) (P14 : Sta Z Z.heap "com/example/libfinder/libfinder/query/internal/Query$Operator" "NOT_ENDING_WITH" "Lcom/example/libfinder/libfinder/query/internal/Query$Operator;" (.ref w_NOT_ENDING_WITH)) (P15 : Sta Z Z.heap "com/example/libfinder/libfinder/query/internal/Query$Operator" "CONTAINING" "Lcom/example/libfinder/libfinder/query/internal/Query$Operator;" (.ref w_CONTAINING)) (P16 : Sta Z Z.heap "com/example/libfinder/libfinder/query/internal/Query$Operator" "NOT_CONTAINING" "Lcom/example/libfinder/libfinder/query/internal/Query$Operator;" (.ref w_NOT_CONTAINING)) (P17 : Sta Z Z.heap "com/example/libfinder/libfinder/query/internal/Query$Operator" "LIKE" "Lcom/example/libfinder/libfinder/query/internal/Query$Operator;" (.ref w_LIKE)) (P18 : Sta Z Z.heap "com/example/libfinder/libfinder/query/internal/Query$Operator" "NOT_LIKE" "Lcom/example/libfinder/libfinder/query/internal/Query$Operator;" (.ref w_NOT_LIKE)) (P19 : Sta Z Z.heap "com/example/libfinder/libfinder/query/internal/Query$Operator" "IS_NULL" "Lcom/example/libfinder/libfinder/query/internal/Query$Operator;" (.ref w_IS_NULL)) (P20 : Sta Z Z.heap "com/example/libfinder/libfinder/query/internal/Query$Operator" "IS_NOT_NULL" "Lcom/example/libfinder/libfinder/query/internal/Query$Operator;" (.ref w_IS_NOT_NULL)) (P21 : Sta Z Z.heap "com/example/libfinder/libfinder/query/internal/Query$Operator" "TRUE" "Lcom/example/libfinder/libfinder/query/internal/Query$Operator;" (.ref w_TRUE)) (P22 : Sta Z Z.heap "com/example/libfinder/libfinder/query/internal/Query$Operator" "FALSE" "Lcom/example/libfinder/libfinder/query/internal/Query$Operator;" (.ref w_FALSE)) :
    MetFree l (⟨"com/example/libfinder/libfinder/query/internal/OperatorTestsTruthPinLaw", "pick", "(I)Lcom/example/libfinder/libfinder/query/internal/Query$Operator;"⟩ : MethodName) (head1 (Jvm.Cond.code (⟨"com/example/libfinder/libfinder/query/internal/OperatorTestsTruthPinLaw", "pick", "(I)Lcom/example/libfinder/libfinder/query/internal/Query$Operator;"⟩ : MethodName) method_2_code 1 (some (.object "com/example/libfinder/libfinder/query/internal/Query$Operator")) :: ws) ({ frames := 0, cells := 0, slots := 0, locals := 0 } : Room)) (fun a U => a = #[(.int p1)] ∧ Z.Warmed39 U.vm ∧ U.heap = h0) (fun _ _ _ _ _ => True) (fun _ U o U' => ∃ v L, o = .returned v ∧ Q_rm1 Z p1 w_EQUALS w_NOT_EQUALS w_GREATER_THAN w_LESS_THAN w_GREATER_THAN_OR_EQUAL w_LESS_THAN_OR_EQUAL w_BETWEEN w_NOT_BETWEEN w_IN w_NOT_IN w_STARTING_WITH w_NOT_STARTING_WITH w_ENDING_WITH w_NOT_ENDING_WITH w_CONTAINING w_NOT_CONTAINING w_LIKE w_NOT_LIKE w_IS_NULL w_IS_NOT_NULL w_TRUE w_FALSE h0 n0 v U'.heap L ∧ FrameEnd U o U' L ({ frames := 0, cells := 0, slots := 0, locals := 0 } : Room).cells ({ frames := 0, cells := 0, slots := 0, locals := 0 } : Room).slots) := by
  refine MetFree.of_bodySF (plainFor_of_name pn_0) hisR ?_
  intro p e s m args below meth c s₁ Bd hml0 hP hK
  obtain ⟨rfl, hZ, hh⟩ := hP
  have hx := Bd.exec
  have hby := Bd.bytes
  have hml : c.maxLocals = 1 := hml0
  have hown : s.vm.findClass "com/example/libfinder/libfinder/query/internal/OperatorTestsTruthPinLaw" = some m.cls := findClass_of_methodNamed Bd.named
  have hnm := (name_of_methodNamed Bd.named Bd.method).1
  have X0 : Stand p l e ({ frames := 0, cells := 0, slots := 0, locals := 0 } : Room) s m #[(.int p1)] below meth c s₁ [] 0 0 := Stand.of_body Bd
  have e0 : s₁.heap = h0 := by rw [← hh, Bd.state]; rfl
  have N0 := Fr.nil n0
  have KR : Keep h0 h0 [] := Keep.refl h0 _
  have pre0 : ∀ t, Steps p.tables e below (s₁.setTop (mkF m 0 #[.val (.int p1)] [])) t → Steps p.tables e below (s₁.setTop (entryFrame m #[(.int p1)] 1)) t := fun t k => castTop (ef_rm1 m (p1)) k
  have pre1 : ∀ t, Steps p.tables e below (s₁.setTop (mkF m 1 #[.val (.int p1)] [(.int p1)])) t → Steps p.tables e below (s₁.setTop (entryFrame m #[(.int p1)] 1)) t := fun t k => pre0 t (by
    show Steps p.tables e below (s₁.setTop (mkF m 0 #[.val (.int p1)] [])) _
    refine XS.iloadN X0.here hx rfl (hb hby d1_0) rfl ?_
    show Steps p.tables e below (s₁.setTop (mkF m 1 #[.val (.int p1)] [(.int p1)])) _
    exact k)
  by_cases hc2 : p1 = (0 : Int32)
  · skip
    obtain ⟨T3, X3, e3, st3⟩ := getS2 X0 hx hZ hown (host := "") (Or.inl (kw5 hw)) Via.refl e0 (Sta.ext P0.2 P1) (g := (mkF m 4 #[.val (.int p1)] [])) rfl (hb hby d1_4)
    obtain ⟨fs, hr, hrun, hended, hW, hsame⟩ := X3.leave (v := some (.ref w_EQUALS)) (fun h => by rw [Bd.returns] at h; cases h)
    refine ⟨_, _, pre1 _ ?_, hrun, hended, _, _, rfl, ?_, ⟨_, rfl⟩, hW, hsame.mono (by decide) (by decide)⟩
    · skip
      refine XS.ifNo X0.here hx rfl (hb hby d1_1) rfl ((if0 _ _).trans (teq hc2).2) ?_
      show Steps p.tables e below (s₁.setTop (mkF m 4 #[.val (.int p1)] [])) _
      refine st3 _ ?_
      show Steps p.tables e below (T3.setTop (mkF m 7 #[.val (.int p1)] [(.ref w_EQUALS)])) _
      jvm_step X3.here [X3.here.top, hx, (hb hby d1_7), X3.method', Bd.returns, Value.isRef, FieldType.isReference]
      first | (intro acts; rw [hr _ acts rfl rfl rfl]) | rw [hr _ _ rfl rfl rfl]
      exact Steps.refl _
    · show Q_rm1 Z p1 w_EQUALS w_NOT_EQUALS w_GREATER_THAN w_LESS_THAN w_GREATER_THAN_OR_EQUAL w_LESS_THAN_OR_EQUAL w_BETWEEN w_NOT_BETWEEN w_IN w_NOT_IN w_STARTING_WITH w_NOT_STARTING_WITH w_ENDING_WITH w_NOT_ENDING_WITH w_CONTAINING w_NOT_CONTAINING w_LIKE w_NOT_LIKE w_IS_NULL w_IS_NOT_NULL w_TRUE w_FALSE h0 n0 _ T3.heap _
      rw [e3]
      exact ⟨(by unfold own_pick; rw [if_pos hc2]), N0, rfl⟩
  · skip
    have pre5 : ∀ t, Steps p.tables e below (s₁.setTop (mkF m 10 #[.val (.int p1)] [(.int (1 : Int32)), (.int p1)])) t → Steps p.tables e below (s₁.setTop (entryFrame m #[(.int p1)] 1)) t := fun t k => pre1 t (by
      refine XS.ifYes X0.here hx rfl (pc0 := 1) (pc' := 8) rfl (hb hby d1_1) rfl ((if0 _ _).trans (feq hc2).2) (by decide) (by decide) ?_
      show Steps p.tables e below (s₁.setTop (mkF m 8 #[.val (.int p1)] [])) _
      refine XS.iloadN X0.here hx rfl (hb hby d1_8) rfl ?_
      show Steps p.tables e below (s₁.setTop (mkF m 9 #[.val (.int p1)] [(.int p1)])) _
      refine XS.iconst X0.here hx rfl (hb hby d1_9) ?_
      show Steps p.tables e below (s₁.setTop (mkF m 10 #[.val (.int p1)] [(.int (1 : Int32)), (.int p1)])) _
      exact k)
    by_cases hc6 : p1 = (1 : Int32)
    · skip
      obtain ⟨T7, X7, e7, st7⟩ := getS2 X0 hx hZ hown (host := "") (Or.inl (kw29 hw)) Via.refl e0 (Sta.ext P0.2 P2) (g := (mkF m 13 #[.val (.int p1)] [])) rfl (hb hby d1_13)
      obtain ⟨fs, hr, hrun, hended, hW, hsame⟩ := X7.leave (v := some (.ref w_NOT_EQUALS)) (fun h => by rw [Bd.returns] at h; cases h)
      refine ⟨_, _, pre5 _ ?_, hrun, hended, _, _, rfl, ?_, ⟨_, rfl⟩, hW, hsame.mono (by decide) (by decide)⟩
      · skip
        refine XS.icmpNo X0.here hx rfl (hb hby d1_10) rfl (teq hc6).2 ?_
        show Steps p.tables e below (s₁.setTop (mkF m 13 #[.val (.int p1)] [])) _
        refine st7 _ ?_
        show Steps p.tables e below (T7.setTop (mkF m 16 #[.val (.int p1)] [(.ref w_NOT_EQUALS)])) _
        jvm_step X7.here [X7.here.top, hx, (hb hby d1_16), X7.method', Bd.returns, Value.isRef, FieldType.isReference]
        first | (intro acts; rw [hr _ acts rfl rfl rfl]) | rw [hr _ _ rfl rfl rfl]
        exact Steps.refl _
      · show Q_rm1 Z p1 w_EQUALS w_NOT_EQUALS w_GREATER_THAN w_LESS_THAN w_GREATER_THAN_OR_EQUAL w_LESS_THAN_OR_EQUAL w_BETWEEN w_NOT_BETWEEN w_IN w_NOT_IN w_STARTING_WITH w_NOT_STARTING_WITH w_ENDING_WITH w_NOT_ENDING_WITH w_CONTAINING w_NOT_CONTAINING w_LIKE w_NOT_LIKE w_IS_NULL w_IS_NOT_NULL w_TRUE w_FALSE h0 n0 _ T7.heap _
        rw [e7]
        exact ⟨(by unfold own_pick; rw [if_neg hc2, if_pos hc6]), N0, rfl⟩
    · skip
      have pre9 : ∀ t, Steps p.tables e below (s₁.setTop (mkF m 19 #[.val (.int p1)] [(.int (2 : Int32)), (.int p1)])) t → Steps p.tables e below (s₁.setTop (entryFrame m #[(.int p1)] 1)) t := fun t k => pre5 t (by
        refine XS.icmpYes X0.here hx rfl (pc0 := 10) (pc' := 17) rfl (hb hby d1_10) rfl (feq hc6).2 (by decide) (by decide) ?_
        show Steps p.tables e below (s₁.setTop (mkF m 17 #[.val (.int p1)] [])) _
        refine XS.iloadN X0.here hx rfl (hb hby d1_17) rfl ?_
        show Steps p.tables e below (s₁.setTop (mkF m 18 #[.val (.int p1)] [(.int p1)])) _
        refine XS.iconst X0.here hx rfl (hb hby d1_18) ?_
        show Steps p.tables e below (s₁.setTop (mkF m 19 #[.val (.int p1)] [(.int (2 : Int32)), (.int p1)])) _
        exact k)
      by_cases hc10 : p1 = (2 : Int32)
      · skip
        obtain ⟨T11, X11, e11, st11⟩ := getS2 X0 hx hZ hown (host := "") (Or.inl (kw23 hw)) Via.refl e0 (Sta.ext P0.2 P3) (g := (mkF m 22 #[.val (.int p1)] [])) rfl (hb hby d1_22)
        obtain ⟨fs, hr, hrun, hended, hW, hsame⟩ := X11.leave (v := some (.ref w_GREATER_THAN)) (fun h => by rw [Bd.returns] at h; cases h)
        refine ⟨_, _, pre9 _ ?_, hrun, hended, _, _, rfl, ?_, ⟨_, rfl⟩, hW, hsame.mono (by decide) (by decide)⟩
        · skip
          refine XS.icmpNo X0.here hx rfl (hb hby d1_19) rfl (teq hc10).2 ?_
          show Steps p.tables e below (s₁.setTop (mkF m 22 #[.val (.int p1)] [])) _
          refine st11 _ ?_
          show Steps p.tables e below (T11.setTop (mkF m 25 #[.val (.int p1)] [(.ref w_GREATER_THAN)])) _
          jvm_step X11.here [X11.here.top, hx, (hb hby d1_25), X11.method', Bd.returns, Value.isRef, FieldType.isReference]
          first | (intro acts; rw [hr _ acts rfl rfl rfl]) | rw [hr _ _ rfl rfl rfl]
          exact Steps.refl _
        · show Q_rm1 Z p1 w_EQUALS w_NOT_EQUALS w_GREATER_THAN w_LESS_THAN w_GREATER_THAN_OR_EQUAL w_LESS_THAN_OR_EQUAL w_BETWEEN w_NOT_BETWEEN w_IN w_NOT_IN w_STARTING_WITH w_NOT_STARTING_WITH w_ENDING_WITH w_NOT_ENDING_WITH w_CONTAINING w_NOT_CONTAINING w_LIKE w_NOT_LIKE w_IS_NULL w_IS_NOT_NULL w_TRUE w_FALSE h0 n0 _ T11.heap _
          rw [e11]
          exact ⟨(by unfold own_pick; rw [if_neg hc2, if_neg hc6, if_pos hc10]), N0, rfl⟩
      · skip
        have pre13 : ∀ t, Steps p.tables e below (s₁.setTop (mkF m 28 #[.val (.int p1)] [(.int (3 : Int32)), (.int p1)])) t → Steps p.tables e below (s₁.setTop (entryFrame m #[(.int p1)] 1)) t := fun t k => pre9 t (by
          refine XS.icmpYes X0.here hx rfl (pc0 := 19) (pc' := 26) rfl (hb hby d1_19) rfl (feq hc10).2 (by decide) (by decide) ?_
          show Steps p.tables e below (s₁.setTop (mkF m 26 #[.val (.int p1)] [])) _
          refine XS.iloadN X0.here hx rfl (hb hby d1_26) rfl ?_
          show Steps p.tables e below (s₁.setTop (mkF m 27 #[.val (.int p1)] [(.int p1)])) _
          refine XS.iconst X0.here hx rfl (hb hby d1_27) ?_
          show Steps p.tables e below (s₁.setTop (mkF m 28 #[.val (.int p1)] [(.int (3 : Int32)), (.int p1)])) _
          exact k)
        by_cases hc14 : p1 = (3 : Int32)
        · skip
          obtain ⟨T15, X15, e15, st15⟩ := getS2 X0 hx hZ hown (host := "") (Or.inl (kw17 hw)) Via.refl e0 (Sta.ext P0.2 P4) (g := (mkF m 31 #[.val (.int p1)] [])) rfl (hb hby d1_31)
          obtain ⟨fs, hr, hrun, hended, hW, hsame⟩ := X15.leave (v := some (.ref w_LESS_THAN)) (fun h => by rw [Bd.returns] at h; cases h)
          refine ⟨_, _, pre13 _ ?_, hrun, hended, _, _, rfl, ?_, ⟨_, rfl⟩, hW, hsame.mono (by decide) (by decide)⟩
          · skip
            refine XS.icmpNo X0.here hx rfl (hb hby d1_28) rfl (teq hc14).2 ?_
            show Steps p.tables e below (s₁.setTop (mkF m 31 #[.val (.int p1)] [])) _
            refine st15 _ ?_
            show Steps p.tables e below (T15.setTop (mkF m 34 #[.val (.int p1)] [(.ref w_LESS_THAN)])) _
            jvm_step X15.here [X15.here.top, hx, (hb hby d1_34), X15.method', Bd.returns, Value.isRef, FieldType.isReference]
            first | (intro acts; rw [hr _ acts rfl rfl rfl]) | rw [hr _ _ rfl rfl rfl]
            exact Steps.refl _
          · show Q_rm1 Z p1 w_EQUALS w_NOT_EQUALS w_GREATER_THAN w_LESS_THAN w_GREATER_THAN_OR_EQUAL w_LESS_THAN_OR_EQUAL w_BETWEEN w_NOT_BETWEEN w_IN w_NOT_IN w_STARTING_WITH w_NOT_STARTING_WITH w_ENDING_WITH w_NOT_ENDING_WITH w_CONTAINING w_NOT_CONTAINING w_LIKE w_NOT_LIKE w_IS_NULL w_IS_NOT_NULL w_TRUE w_FALSE h0 n0 _ T15.heap _
            rw [e15]
            exact ⟨(by unfold own_pick; rw [if_neg hc2, if_neg hc6, if_neg hc10, if_pos hc14]), N0, rfl⟩
        · skip
          have pre17 : ∀ t, Steps p.tables e below (s₁.setTop (mkF m 37 #[.val (.int p1)] [(.int (4 : Int32)), (.int p1)])) t → Steps p.tables e below (s₁.setTop (entryFrame m #[(.int p1)] 1)) t := fun t k => pre13 t (by
            refine XS.icmpYes X0.here hx rfl (pc0 := 28) (pc' := 35) rfl (hb hby d1_28) rfl (feq hc14).2 (by decide) (by decide) ?_
            show Steps p.tables e below (s₁.setTop (mkF m 35 #[.val (.int p1)] [])) _
            refine XS.iloadN X0.here hx rfl (hb hby d1_35) rfl ?_
            show Steps p.tables e below (s₁.setTop (mkF m 36 #[.val (.int p1)] [(.int p1)])) _
            refine XS.iconst X0.here hx rfl (hb hby d1_36) ?_
            show Steps p.tables e below (s₁.setTop (mkF m 37 #[.val (.int p1)] [(.int (4 : Int32)), (.int p1)])) _
            exact k)
          by_cases hc18 : p1 = (4 : Int32)
          · skip
            obtain ⟨T19, X19, e19, st19⟩ := getS2 X0 hx hZ hown (host := "") (Or.inl (kw45 hw)) Via.refl e0 (Sta.ext P0.2 P5) (g := (mkF m 40 #[.val (.int p1)] [])) rfl (hb hby d1_40)
            obtain ⟨fs, hr, hrun, hended, hW, hsame⟩ := X19.leave (v := some (.ref w_GREATER_THAN_OR_EQUAL)) (fun h => by rw [Bd.returns] at h; cases h)
            refine ⟨_, _, pre17 _ ?_, hrun, hended, _, _, rfl, ?_, ⟨_, rfl⟩, hW, hsame.mono (by decide) (by decide)⟩
            · skip
              refine XS.icmpNo X0.here hx rfl (hb hby d1_37) rfl (teq hc18).2 ?_
              show Steps p.tables e below (s₁.setTop (mkF m 40 #[.val (.int p1)] [])) _
              refine st19 _ ?_
              show Steps p.tables e below (T19.setTop (mkF m 43 #[.val (.int p1)] [(.ref w_GREATER_THAN_OR_EQUAL)])) _
              jvm_step X19.here [X19.here.top, hx, (hb hby d1_43), X19.method', Bd.returns, Value.isRef, FieldType.isReference]
              first | (intro acts; rw [hr _ acts rfl rfl rfl]) | rw [hr _ _ rfl rfl rfl]
              exact Steps.refl _
            · show Q_rm1 Z p1 w_EQUALS w_NOT_EQUALS w_GREATER_THAN w_LESS_THAN w_GREATER_THAN_OR_EQUAL w_LESS_THAN_OR_EQUAL w_BETWEEN w_NOT_BETWEEN w_IN w_NOT_IN w_STARTING_WITH w_NOT_STARTING_WITH w_ENDING_WITH w_NOT_ENDING_WITH w_CONTAINING w_NOT_CONTAINING w_LIKE w_NOT_LIKE w_IS_NULL w_IS_NOT_NULL w_TRUE w_FALSE h0 n0 _ T19.heap _
              rw [e19]
              exact ⟨(by unfold own_pick; rw [if_neg hc2, if_neg hc6, if_neg hc10, if_neg hc14, if_pos hc18]), N0, rfl⟩
          · skip
            have pre21 : ∀ t, Steps p.tables e below (s₁.setTop (mkF m 46 #[.val (.int p1)] [(.int (5 : Int32)), (.int p1)])) t → Steps p.tables e below (s₁.setTop (entryFrame m #[(.int p1)] 1)) t := fun t k => pre17 t (by
              refine XS.icmpYes X0.here hx rfl (pc0 := 37) (pc' := 44) rfl (hb hby d1_37) rfl (feq hc18).2 (by decide) (by decide) ?_
              show Steps p.tables e below (s₁.setTop (mkF m 44 #[.val (.int p1)] [])) _
              refine XS.iloadN X0.here hx rfl (hb hby d1_44) rfl ?_
              show Steps p.tables e below (s₁.setTop (mkF m 45 #[.val (.int p1)] [(.int p1)])) _
              refine XS.iconst X0.here hx rfl (hb hby d1_45) ?_
              show Steps p.tables e below (s₁.setTop (mkF m 46 #[.val (.int p1)] [(.int (5 : Int32)), (.int p1)])) _
              exact k)
            by_cases hc22 : p1 = (5 : Int32)
            · skip
              obtain ⟨T23, X23, e23, st23⟩ := getS2 X0 hx hZ hown (host := "") (Or.inl (kw33 hw)) Via.refl e0 (Sta.ext P0.2 P6) (g := (mkF m 49 #[.val (.int p1)] [])) rfl (hb hby d1_49)
              obtain ⟨fs, hr, hrun, hended, hW, hsame⟩ := X23.leave (v := some (.ref w_LESS_THAN_OR_EQUAL)) (fun h => by rw [Bd.returns] at h; cases h)
              refine ⟨_, _, pre21 _ ?_, hrun, hended, _, _, rfl, ?_, ⟨_, rfl⟩, hW, hsame.mono (by decide) (by decide)⟩
              · skip
                refine XS.icmpNo X0.here hx rfl (hb hby d1_46) rfl (teq hc22).2 ?_
                show Steps p.tables e below (s₁.setTop (mkF m 49 #[.val (.int p1)] [])) _
                refine st23 _ ?_
                show Steps p.tables e below (T23.setTop (mkF m 52 #[.val (.int p1)] [(.ref w_LESS_THAN_OR_EQUAL)])) _
                jvm_step X23.here [X23.here.top, hx, (hb hby d1_52), X23.method', Bd.returns, Value.isRef, FieldType.isReference]
                first | (intro acts; rw [hr _ acts rfl rfl rfl]) | rw [hr _ _ rfl rfl rfl]
                exact Steps.refl _
              · show Q_rm1 Z p1 w_EQUALS w_NOT_EQUALS w_GREATER_THAN w_LESS_THAN w_GREATER_THAN_OR_EQUAL w_LESS_THAN_OR_EQUAL w_BETWEEN w_NOT_BETWEEN w_IN w_NOT_IN w_STARTING_WITH w_NOT_STARTING_WITH w_ENDING_WITH w_NOT_ENDING_WITH w_CONTAINING w_NOT_CONTAINING w_LIKE w_NOT_LIKE w_IS_NULL w_IS_NOT_NULL w_TRUE w_FALSE h0 n0 _ T23.heap _
                rw [e23]
                exact ⟨(by unfold own_pick; rw [if_neg hc2, if_neg hc6, if_neg hc10, if_neg hc14, if_neg hc18, if_pos hc22]), N0, rfl⟩
            · skip
              have pre25 : ∀ t, Steps p.tables e below (s₁.setTop (mkF m 56 #[.val (.int p1)] [(.int (6 : Int32)), (.int p1)])) t → Steps p.tables e below (s₁.setTop (entryFrame m #[(.int p1)] 1)) t := fun t k => pre21 t (by
                refine XS.icmpYes X0.here hx rfl (pc0 := 46) (pc' := 53) rfl (hb hby d1_46) rfl (feq hc22).2 (by decide) (by decide) ?_
                show Steps p.tables e below (s₁.setTop (mkF m 53 #[.val (.int p1)] [])) _
                refine XS.iloadN X0.here hx rfl (hb hby d1_53) rfl ?_
                show Steps p.tables e below (s₁.setTop (mkF m 54 #[.val (.int p1)] [(.int p1)])) _
                refine XS.bipush X0.here hx rfl (hb hby d1_54) ?_
                show Steps p.tables e below (s₁.setTop (mkF m 56 #[.val (.int p1)] [(.int (6 : Int32)), (.int p1)])) _
                exact k)
              by_cases hc26 : p1 = (6 : Int32)
              · skip
                obtain ⟨T27, X27, e27, st27⟩ := getS2 X0 hx hZ hown (host := "") (Or.inl (kw37 hw)) Via.refl e0 (Sta.ext P0.2 P7) (g := (mkF m 59 #[.val (.int p1)] [])) rfl (hb hby d1_59)
                obtain ⟨fs, hr, hrun, hended, hW, hsame⟩ := X27.leave (v := some (.ref w_BETWEEN)) (fun h => by rw [Bd.returns] at h; cases h)
                refine ⟨_, _, pre25 _ ?_, hrun, hended, _, _, rfl, ?_, ⟨_, rfl⟩, hW, hsame.mono (by decide) (by decide)⟩
                · skip
                  refine XS.icmpNo X0.here hx rfl (hb hby d1_56) rfl (teq hc26).2 ?_
                  show Steps p.tables e below (s₁.setTop (mkF m 59 #[.val (.int p1)] [])) _
                  refine st27 _ ?_
                  show Steps p.tables e below (T27.setTop (mkF m 62 #[.val (.int p1)] [(.ref w_BETWEEN)])) _
                  jvm_step X27.here [X27.here.top, hx, (hb hby d1_62), X27.method', Bd.returns, Value.isRef, FieldType.isReference]
                  first | (intro acts; rw [hr _ acts rfl rfl rfl]) | rw [hr _ _ rfl rfl rfl]
                  exact Steps.refl _
                · show Q_rm1 Z p1 w_EQUALS w_NOT_EQUALS w_GREATER_THAN w_LESS_THAN w_GREATER_THAN_OR_EQUAL w_LESS_THAN_OR_EQUAL w_BETWEEN w_NOT_BETWEEN w_IN w_NOT_IN w_STARTING_WITH w_NOT_STARTING_WITH w_ENDING_WITH w_NOT_ENDING_WITH w_CONTAINING w_NOT_CONTAINING w_LIKE w_NOT_LIKE w_IS_NULL w_IS_NOT_NULL w_TRUE w_FALSE h0 n0 _ T27.heap _
                  rw [e27]
                  exact ⟨(by unfold own_pick; rw [if_neg hc2, if_neg hc6, if_neg hc10, if_neg hc14, if_neg hc18, if_neg hc22, if_pos hc26]), N0, rfl⟩
              · skip
                have pre29 : ∀ t, Steps p.tables e below (s₁.setTop (mkF m 66 #[.val (.int p1)] [(.int (7 : Int32)), (.int p1)])) t → Steps p.tables e below (s₁.setTop (entryFrame m #[(.int p1)] 1)) t := fun t k => pre25 t (by
                  refine XS.icmpYes X0.here hx rfl (pc0 := 56) (pc' := 63) rfl (hb hby d1_56) rfl (feq hc26).2 (by decide) (by decide) ?_
                  show Steps p.tables e below (s₁.setTop (mkF m 63 #[.val (.int p1)] [])) _
                  refine XS.iloadN X0.here hx rfl (hb hby d1_63) rfl ?_
                  show Steps p.tables e below (s₁.setTop (mkF m 64 #[.val (.int p1)] [(.int p1)])) _
                  refine XS.bipush X0.here hx rfl (hb hby d1_64) ?_
                  show Steps p.tables e below (s₁.setTop (mkF m 66 #[.val (.int p1)] [(.int (7 : Int32)), (.int p1)])) _
                  exact k)
                by_cases hc30 : p1 = (7 : Int32)
                · skip
                  obtain ⟨T31, X31, e31, st31⟩ := getS2 X0 hx hZ hown (host := "") (Or.inl (kw19 hw)) Via.refl e0 (Sta.ext P0.2 P8) (g := (mkF m 69 #[.val (.int p1)] [])) rfl (hb hby d1_69)
                  obtain ⟨fs, hr, hrun, hended, hW, hsame⟩ := X31.leave (v := some (.ref w_NOT_BETWEEN)) (fun h => by rw [Bd.returns] at h; cases h)
                  refine ⟨_, _, pre29 _ ?_, hrun, hended, _, _, rfl, ?_, ⟨_, rfl⟩, hW, hsame.mono (by decide) (by decide)⟩
                  · skip
                    refine XS.icmpNo X0.here hx rfl (hb hby d1_66) rfl (teq hc30).2 ?_
                    show Steps p.tables e below (s₁.setTop (mkF m 69 #[.val (.int p1)] [])) _
                    refine st31 _ ?_
                    show Steps p.tables e below (T31.setTop (mkF m 72 #[.val (.int p1)] [(.ref w_NOT_BETWEEN)])) _
                    jvm_step X31.here [X31.here.top, hx, (hb hby d1_72), X31.method', Bd.returns, Value.isRef, FieldType.isReference]
                    first | (intro acts; rw [hr _ acts rfl rfl rfl]) | rw [hr _ _ rfl rfl rfl]
                    exact Steps.refl _
                  · show Q_rm1 Z p1 w_EQUALS w_NOT_EQUALS w_GREATER_THAN w_LESS_THAN w_GREATER_THAN_OR_EQUAL w_LESS_THAN_OR_EQUAL w_BETWEEN w_NOT_BETWEEN w_IN w_NOT_IN w_STARTING_WITH w_NOT_STARTING_WITH w_ENDING_WITH w_NOT_ENDING_WITH w_CONTAINING w_NOT_CONTAINING w_LIKE w_NOT_LIKE w_IS_NULL w_IS_NOT_NULL w_TRUE w_FALSE h0 n0 _ T31.heap _
                    rw [e31]
                    exact ⟨(by unfold own_pick; rw [if_neg hc2, if_neg hc6, if_neg hc10, if_neg hc14, if_neg hc18, if_neg hc22, if_neg hc26, if_pos hc30]), N0, rfl⟩
                · skip
                  have pre33 : ∀ t, Steps p.tables e below (s₁.setTop (mkF m 76 #[.val (.int p1)] [(.int (8 : Int32)), (.int p1)])) t → Steps p.tables e below (s₁.setTop (entryFrame m #[(.int p1)] 1)) t := fun t k => pre29 t (by
                    refine XS.icmpYes X0.here hx rfl (pc0 := 66) (pc' := 73) rfl (hb hby d1_66) rfl (feq hc30).2 (by decide) (by decide) ?_
                    show Steps p.tables e below (s₁.setTop (mkF m 73 #[.val (.int p1)] [])) _
                    refine XS.iloadN X0.here hx rfl (hb hby d1_73) rfl ?_
                    show Steps p.tables e below (s₁.setTop (mkF m 74 #[.val (.int p1)] [(.int p1)])) _
                    refine XS.bipush X0.here hx rfl (hb hby d1_74) ?_
                    show Steps p.tables e below (s₁.setTop (mkF m 76 #[.val (.int p1)] [(.int (8 : Int32)), (.int p1)])) _
                    exact k)
                  by_cases hc34 : p1 = (8 : Int32)
                  · skip
                    obtain ⟨T35, X35, e35, st35⟩ := getS2 X0 hx hZ hown (host := "") (Or.inl (kw21 hw)) Via.refl e0 (Sta.ext P0.2 P9) (g := (mkF m 79 #[.val (.int p1)] [])) rfl (hb hby d1_79)
                    obtain ⟨fs, hr, hrun, hended, hW, hsame⟩ := X35.leave (v := some (.ref w_IN)) (fun h => by rw [Bd.returns] at h; cases h)
                    refine ⟨_, _, pre33 _ ?_, hrun, hended, _, _, rfl, ?_, ⟨_, rfl⟩, hW, hsame.mono (by decide) (by decide)⟩
                    · skip
                      refine XS.icmpNo X0.here hx rfl (hb hby d1_76) rfl (teq hc34).2 ?_
                      show Steps p.tables e below (s₁.setTop (mkF m 79 #[.val (.int p1)] [])) _
                      refine st35 _ ?_
                      show Steps p.tables e below (T35.setTop (mkF m 82 #[.val (.int p1)] [(.ref w_IN)])) _
                      jvm_step X35.here [X35.here.top, hx, (hb hby d1_82), X35.method', Bd.returns, Value.isRef, FieldType.isReference]
                      first | (intro acts; rw [hr _ acts rfl rfl rfl]) | rw [hr _ _ rfl rfl rfl]
                      exact Steps.refl _
                    · show Q_rm1 Z p1 w_EQUALS w_NOT_EQUALS w_GREATER_THAN w_LESS_THAN w_GREATER_THAN_OR_EQUAL w_LESS_THAN_OR_EQUAL w_BETWEEN w_NOT_BETWEEN w_IN w_NOT_IN w_STARTING_WITH w_NOT_STARTING_WITH w_ENDING_WITH w_NOT_ENDING_WITH w_CONTAINING w_NOT_CONTAINING w_LIKE w_NOT_LIKE w_IS_NULL w_IS_NOT_NULL w_TRUE w_FALSE h0 n0 _ T35.heap _
                      rw [e35]
                      exact ⟨(by unfold own_pick; rw [if_neg hc2, if_neg hc6, if_neg hc10, if_neg hc14, if_neg hc18, if_neg hc22, if_neg hc26, if_neg hc30, if_pos hc34]), N0, rfl⟩
                  · skip
                    have pre37 : ∀ t, Steps p.tables e below (s₁.setTop (mkF m 86 #[.val (.int p1)] [(.int (9 : Int32)), (.int p1)])) t → Steps p.tables e below (s₁.setTop (entryFrame m #[(.int p1)] 1)) t := fun t k => pre33 t (by
                      refine XS.icmpYes X0.here hx rfl (pc0 := 76) (pc' := 83) rfl (hb hby d1_76) rfl (feq hc34).2 (by decide) (by decide) ?_
                      show Steps p.tables e below (s₁.setTop (mkF m 83 #[.val (.int p1)] [])) _
                      refine XS.iloadN X0.here hx rfl (hb hby d1_83) rfl ?_
                      show Steps p.tables e below (s₁.setTop (mkF m 84 #[.val (.int p1)] [(.int p1)])) _
                      refine XS.bipush X0.here hx rfl (hb hby d1_84) ?_
                      show Steps p.tables e below (s₁.setTop (mkF m 86 #[.val (.int p1)] [(.int (9 : Int32)), (.int p1)])) _
                      exact k)
                    by_cases hc38 : p1 = (9 : Int32)
                    · skip
                      obtain ⟨T39, X39, e39, st39⟩ := getS2 X0 hx hZ hown (host := "") (Or.inl (kw31 hw)) Via.refl e0 (Sta.ext P0.2 P10) (g := (mkF m 89 #[.val (.int p1)] [])) rfl (hb hby d1_89)
                      obtain ⟨fs, hr, hrun, hended, hW, hsame⟩ := X39.leave (v := some (.ref w_NOT_IN)) (fun h => by rw [Bd.returns] at h; cases h)
                      refine ⟨_, _, pre37 _ ?_, hrun, hended, _, _, rfl, ?_, ⟨_, rfl⟩, hW, hsame.mono (by decide) (by decide)⟩
                      · skip
                        refine XS.icmpNo X0.here hx rfl (hb hby d1_86) rfl (teq hc38).2 ?_
                        show Steps p.tables e below (s₁.setTop (mkF m 89 #[.val (.int p1)] [])) _
                        refine st39 _ ?_
                        show Steps p.tables e below (T39.setTop (mkF m 92 #[.val (.int p1)] [(.ref w_NOT_IN)])) _
                        jvm_step X39.here [X39.here.top, hx, (hb hby d1_92), X39.method', Bd.returns, Value.isRef, FieldType.isReference]
                        first | (intro acts; rw [hr _ acts rfl rfl rfl]) | rw [hr _ _ rfl rfl rfl]
                        exact Steps.refl _
                      · show Q_rm1 Z p1 w_EQUALS w_NOT_EQUALS w_GREATER_THAN w_LESS_THAN w_GREATER_THAN_OR_EQUAL w_LESS_THAN_OR_EQUAL w_BETWEEN w_NOT_BETWEEN w_IN w_NOT_IN w_STARTING_WITH w_NOT_STARTING_WITH w_ENDING_WITH w_NOT_ENDING_WITH w_CONTAINING w_NOT_CONTAINING w_LIKE w_NOT_LIKE w_IS_NULL w_IS_NOT_NULL w_TRUE w_FALSE h0 n0 _ T39.heap _
                        rw [e39]
                        exact ⟨(by unfold own_pick; rw [if_neg hc2, if_neg hc6, if_neg hc10, if_neg hc14, if_neg hc18, if_neg hc22, if_neg hc26, if_neg hc30, if_neg hc34, if_pos hc38]), N0, rfl⟩
                    · skip
                      have pre41 : ∀ t, Steps p.tables e below (s₁.setTop (mkF m 96 #[.val (.int p1)] [(.int (10 : Int32)), (.int p1)])) t → Steps p.tables e below (s₁.setTop (entryFrame m #[(.int p1)] 1)) t := fun t k => pre37 t (by
                        refine XS.icmpYes X0.here hx rfl (pc0 := 86) (pc' := 93) rfl (hb hby d1_86) rfl (feq hc38).2 (by decide) (by decide) ?_
                        show Steps p.tables e below (s₁.setTop (mkF m 93 #[.val (.int p1)] [])) _
                        refine XS.iloadN X0.here hx rfl (hb hby d1_93) rfl ?_
                        show Steps p.tables e below (s₁.setTop (mkF m 94 #[.val (.int p1)] [(.int p1)])) _
                        refine XS.bipush X0.here hx rfl (hb hby d1_94) ?_
                        show Steps p.tables e below (s₁.setTop (mkF m 96 #[.val (.int p1)] [(.int (10 : Int32)), (.int p1)])) _
                        exact k)
                      by_cases hc42 : p1 = (10 : Int32)
                      · skip
                        obtain ⟨T43, X43, e43, st43⟩ := getS2 X0 hx hZ hown (host := "") (Or.inl (kw27 hw)) Via.refl e0 (Sta.ext P0.2 P11) (g := (mkF m 99 #[.val (.int p1)] [])) rfl (hb hby d1_99)
                        obtain ⟨fs, hr, hrun, hended, hW, hsame⟩ := X43.leave (v := some (.ref w_STARTING_WITH)) (fun h => by rw [Bd.returns] at h; cases h)
                        refine ⟨_, _, pre41 _ ?_, hrun, hended, _, _, rfl, ?_, ⟨_, rfl⟩, hW, hsame.mono (by decide) (by decide)⟩
                        · skip
                          refine XS.icmpNo X0.here hx rfl (hb hby d1_96) rfl (teq hc42).2 ?_
                          show Steps p.tables e below (s₁.setTop (mkF m 99 #[.val (.int p1)] [])) _
                          refine st43 _ ?_
                          show Steps p.tables e below (T43.setTop (mkF m 102 #[.val (.int p1)] [(.ref w_STARTING_WITH)])) _
                          jvm_step X43.here [X43.here.top, hx, (hb hby d1_102), X43.method', Bd.returns, Value.isRef, FieldType.isReference]
                          first | (intro acts; rw [hr _ acts rfl rfl rfl]) | rw [hr _ _ rfl rfl rfl]
                          exact Steps.refl _
                        · show Q_rm1 Z p1 w_EQUALS w_NOT_EQUALS w_GREATER_THAN w_LESS_THAN w_GREATER_THAN_OR_EQUAL w_LESS_THAN_OR_EQUAL w_BETWEEN w_NOT_BETWEEN w_IN w_NOT_IN w_STARTING_WITH w_NOT_STARTING_WITH w_ENDING_WITH w_NOT_ENDING_WITH w_CONTAINING w_NOT_CONTAINING w_LIKE w_NOT_LIKE w_IS_NULL w_IS_NOT_NULL w_TRUE w_FALSE h0 n0 _ T43.heap _
                          rw [e43]
                          exact ⟨(by unfold own_pick; rw [if_neg hc2, if_neg hc6, if_neg hc10, if_neg hc14, if_neg hc18, if_neg hc22, if_neg hc26, if_neg hc30, if_neg hc34, if_neg hc38, if_pos hc42]), N0, rfl⟩
                      · skip
                        have pre45 : ∀ t, Steps p.tables e below (s₁.setTop (mkF m 106 #[.val (.int p1)] [(.int (11 : Int32)), (.int p1)])) t → Steps p.tables e below (s₁.setTop (entryFrame m #[(.int p1)] 1)) t := fun t k => pre41 t (by
                          refine XS.icmpYes X0.here hx rfl (pc0 := 96) (pc' := 103) rfl (hb hby d1_96) rfl (feq hc42).2 (by decide) (by decide) ?_
                          show Steps p.tables e below (s₁.setTop (mkF m 103 #[.val (.int p1)] [])) _
                          refine XS.iloadN X0.here hx rfl (hb hby d1_103) rfl ?_
                          show Steps p.tables e below (s₁.setTop (mkF m 104 #[.val (.int p1)] [(.int p1)])) _
                          refine XS.bipush X0.here hx rfl (hb hby d1_104) ?_
                          show Steps p.tables e below (s₁.setTop (mkF m 106 #[.val (.int p1)] [(.int (11 : Int32)), (.int p1)])) _
                          exact k)
                        by_cases hc46 : p1 = (11 : Int32)
                        · skip
                          obtain ⟨T47, X47, e47, st47⟩ := getS2 X0 hx hZ hown (host := "") (Or.inl (kw25 hw)) Via.refl e0 (Sta.ext P0.2 P12) (g := (mkF m 109 #[.val (.int p1)] [])) rfl (hb hby d1_109)
                          obtain ⟨fs, hr, hrun, hended, hW, hsame⟩ := X47.leave (v := some (.ref w_NOT_STARTING_WITH)) (fun h => by rw [Bd.returns] at h; cases h)
                          refine ⟨_, _, pre45 _ ?_, hrun, hended, _, _, rfl, ?_, ⟨_, rfl⟩, hW, hsame.mono (by decide) (by decide)⟩
                          · skip
                            refine XS.icmpNo X0.here hx rfl (hb hby d1_106) rfl (teq hc46).2 ?_
                            show Steps p.tables e below (s₁.setTop (mkF m 109 #[.val (.int p1)] [])) _
                            refine st47 _ ?_
                            show Steps p.tables e below (T47.setTop (mkF m 112 #[.val (.int p1)] [(.ref w_NOT_STARTING_WITH)])) _
                            jvm_step X47.here [X47.here.top, hx, (hb hby d1_112), X47.method', Bd.returns, Value.isRef, FieldType.isReference]
                            first | (intro acts; rw [hr _ acts rfl rfl rfl]) | rw [hr _ _ rfl rfl rfl]
                            exact Steps.refl _
                          · show Q_rm1 Z p1 w_EQUALS w_NOT_EQUALS w_GREATER_THAN w_LESS_THAN w_GREATER_THAN_OR_EQUAL w_LESS_THAN_OR_EQUAL w_BETWEEN w_NOT_BETWEEN w_IN w_NOT_IN w_STARTING_WITH w_NOT_STARTING_WITH w_ENDING_WITH w_NOT_ENDING_WITH w_CONTAINING w_NOT_CONTAINING w_LIKE w_NOT_LIKE w_IS_NULL w_IS_NOT_NULL w_TRUE w_FALSE h0 n0 _ T47.heap _
                            rw [e47]
                            exact ⟨(by unfold own_pick; rw [if_neg hc2, if_neg hc6, if_neg hc10, if_neg hc14, if_neg hc18, if_neg hc22, if_neg hc26, if_neg hc30, if_neg hc34, if_neg hc38, if_neg hc42, if_pos hc46]), N0, rfl⟩
                        · skip
                          have pre49 : ∀ t, Steps p.tables e below (s₁.setTop (mkF m 116 #[.val (.int p1)] [(.int (12 : Int32)), (.int p1)])) t → Steps p.tables e below (s₁.setTop (entryFrame m #[(.int p1)] 1)) t := fun t k => pre45 t (by
                            refine XS.icmpYes X0.here hx rfl (pc0 := 106) (pc' := 113) rfl (hb hby d1_106) rfl (feq hc46).2 (by decide) (by decide) ?_
                            show Steps p.tables e below (s₁.setTop (mkF m 113 #[.val (.int p1)] [])) _
                            refine XS.iloadN X0.here hx rfl (hb hby d1_113) rfl ?_
                            show Steps p.tables e below (s₁.setTop (mkF m 114 #[.val (.int p1)] [(.int p1)])) _
                            refine XS.bipush X0.here hx rfl (hb hby d1_114) ?_
                            show Steps p.tables e below (s₁.setTop (mkF m 116 #[.val (.int p1)] [(.int (12 : Int32)), (.int p1)])) _
                            exact k)
                          by_cases hc50 : p1 = (12 : Int32)
                          · skip
                            obtain ⟨T51, X51, e51, st51⟩ := getS2 X0 hx hZ hown (host := "") (Or.inl (kw50 hw)) Via.refl e0 (Sta.ext P0.2 P13) (g := (mkF m 119 #[.val (.int p1)] [])) rfl (hb hby d1_119)
                            obtain ⟨fs, hr, hrun, hended, hW, hsame⟩ := X51.leave (v := some (.ref w_ENDING_WITH)) (fun h => by rw [Bd.returns] at h; cases h)
                            refine ⟨_, _, pre49 _ ?_, hrun, hended, _, _, rfl, ?_, ⟨_, rfl⟩, hW, hsame.mono (by decide) (by decide)⟩
                            · skip
                              refine XS.icmpNo X0.here hx rfl (hb hby d1_116) rfl (teq hc50).2 ?_
                              show Steps p.tables e below (s₁.setTop (mkF m 119 #[.val (.int p1)] [])) _
                              refine st51 _ ?_
                              show Steps p.tables e below (T51.setTop (mkF m 122 #[.val (.int p1)] [(.ref w_ENDING_WITH)])) _
                              jvm_step X51.here [X51.here.top, hx, (hb hby d1_122), X51.method', Bd.returns, Value.isRef, FieldType.isReference]
                              first | (intro acts; rw [hr _ acts rfl rfl rfl]) | rw [hr _ _ rfl rfl rfl]
                              exact Steps.refl _
                            · show Q_rm1 Z p1 w_EQUALS w_NOT_EQUALS w_GREATER_THAN w_LESS_THAN w_GREATER_THAN_OR_EQUAL w_LESS_THAN_OR_EQUAL w_BETWEEN w_NOT_BETWEEN w_IN w_NOT_IN w_STARTING_WITH w_NOT_STARTING_WITH w_ENDING_WITH w_NOT_ENDING_WITH w_CONTAINING w_NOT_CONTAINING w_LIKE w_NOT_LIKE w_IS_NULL w_IS_NOT_NULL w_TRUE w_FALSE h0 n0 _ T51.heap _
                              rw [e51]
                              exact ⟨(by unfold own_pick; rw [if_neg hc2, if_neg hc6, if_neg hc10, if_neg hc14, if_neg hc18, if_neg hc22, if_neg hc26, if_neg hc30, if_neg hc34, if_neg hc38, if_neg hc42, if_neg hc46, if_pos hc50]), N0, rfl⟩
                          · skip
                            have pre53 : ∀ t, Steps p.tables e below (s₁.setTop (mkF m 126 #[.val (.int p1)] [(.int (13 : Int32)), (.int p1)])) t → Steps p.tables e below (s₁.setTop (entryFrame m #[(.int p1)] 1)) t := fun t k => pre49 t (by
                              refine XS.icmpYes X0.here hx rfl (pc0 := 116) (pc' := 123) rfl (hb hby d1_116) rfl (feq hc50).2 (by decide) (by decide) ?_
                              show Steps p.tables e below (s₁.setTop (mkF m 123 #[.val (.int p1)] [])) _
                              refine XS.iloadN X0.here hx rfl (hb hby d1_123) rfl ?_
                              show Steps p.tables e below (s₁.setTop (mkF m 124 #[.val (.int p1)] [(.int p1)])) _
                              refine XS.bipush X0.here hx rfl (hb hby d1_124) ?_
                              show Steps p.tables e below (s₁.setTop (mkF m 126 #[.val (.int p1)] [(.int (13 : Int32)), (.int p1)])) _
                              exact k)
                            by_cases hc54 : p1 = (13 : Int32)
                            · skip
                              obtain ⟨T55, X55, e55, st55⟩ := getS2 X0 hx hZ hown (host := "") (Or.inl (kw52 hw)) Via.refl e0 (Sta.ext P0.2 P14) (g := (mkF m 129 #[.val (.int p1)] [])) rfl (hb hby d1_129)
                              obtain ⟨fs, hr, hrun, hended, hW, hsame⟩ := X55.leave (v := some (.ref w_NOT_ENDING_WITH)) (fun h => by rw [Bd.returns] at h; cases h)
                              refine ⟨_, _, pre53 _ ?_, hrun, hended, _, _, rfl, ?_, ⟨_, rfl⟩, hW, hsame.mono (by decide) (by decide)⟩
                              · skip
                                refine XS.icmpNo X0.here hx rfl (hb hby d1_126) rfl (teq hc54).2 ?_
                                show Steps p.tables e below (s₁.setTop (mkF m 129 #[.val (.int p1)] [])) _
                                refine st55 _ ?_
                                show Steps p.tables e below (T55.setTop (mkF m 132 #[.val (.int p1)] [(.ref w_NOT_ENDING_WITH)])) _
                                jvm_step X55.here [X55.here.top, hx, (hb hby d1_132), X55.method', Bd.returns, Value.isRef, FieldType.isReference]
                                first | (intro acts; rw [hr _ acts rfl rfl rfl]) | rw [hr _ _ rfl rfl rfl]
                                exact Steps.refl _
                              · show Q_rm1 Z p1 w_EQUALS w_NOT_EQUALS w_GREATER_THAN w_LESS_THAN w_GREATER_THAN_OR_EQUAL w_LESS_THAN_OR_EQUAL w_BETWEEN w_NOT_BETWEEN w_IN w_NOT_IN w_STARTING_WITH w_NOT_STARTING_WITH w_ENDING_WITH w_NOT_ENDING_WITH w_CONTAINING w_NOT_CONTAINING w_LIKE w_NOT_LIKE w_IS_NULL w_IS_NOT_NULL w_TRUE w_FALSE h0 n0 _ T55.heap _
                                rw [e55]
                                exact ⟨(by unfold own_pick; rw [if_neg hc2, if_neg hc6, if_neg hc10, if_neg hc14, if_neg hc18, if_neg hc22, if_neg hc26, if_neg hc30, if_neg hc34, if_neg hc38, if_neg hc42, if_neg hc46, if_neg hc50, if_pos hc54]), N0, rfl⟩
                            · skip
                              have pre57 : ∀ t, Steps p.tables e below (s₁.setTop (mkF m 136 #[.val (.int p1)] [(.int (14 : Int32)), (.int p1)])) t → Steps p.tables e below (s₁.setTop (entryFrame m #[(.int p1)] 1)) t := fun t k => pre53 t (by
                                refine XS.icmpYes X0.here hx rfl (pc0 := 126) (pc' := 133) rfl (hb hby d1_126) rfl (feq hc54).2 (by decide) (by decide) ?_
                                show Steps p.tables e below (s₁.setTop (mkF m 133 #[.val (.int p1)] [])) _
                                refine XS.iloadN X0.here hx rfl (hb hby d1_133) rfl ?_
                                show Steps p.tables e below (s₁.setTop (mkF m 134 #[.val (.int p1)] [(.int p1)])) _
                                refine XS.bipush X0.here hx rfl (hb hby d1_134) ?_
                                show Steps p.tables e below (s₁.setTop (mkF m 136 #[.val (.int p1)] [(.int (14 : Int32)), (.int p1)])) _
                                exact k)
                              by_cases hc58 : p1 = (14 : Int32)
                              · skip
                                obtain ⟨T59, X59, e59, st59⟩ := getS2 X0 hx hZ hown (host := "") (Or.inl (kw48 hw)) Via.refl e0 (Sta.ext P0.2 P15) (g := (mkF m 139 #[.val (.int p1)] [])) rfl (hb hby d1_139)
                                obtain ⟨fs, hr, hrun, hended, hW, hsame⟩ := X59.leave (v := some (.ref w_CONTAINING)) (fun h => by rw [Bd.returns] at h; cases h)
                                refine ⟨_, _, pre57 _ ?_, hrun, hended, _, _, rfl, ?_, ⟨_, rfl⟩, hW, hsame.mono (by decide) (by decide)⟩
                                · skip
                                  refine XS.icmpNo X0.here hx rfl (hb hby d1_136) rfl (teq hc58).2 ?_
                                  show Steps p.tables e below (s₁.setTop (mkF m 139 #[.val (.int p1)] [])) _
                                  refine st59 _ ?_
                                  show Steps p.tables e below (T59.setTop (mkF m 142 #[.val (.int p1)] [(.ref w_CONTAINING)])) _
                                  jvm_step X59.here [X59.here.top, hx, (hb hby d1_142), X59.method', Bd.returns, Value.isRef, FieldType.isReference]
                                  first | (intro acts; rw [hr _ acts rfl rfl rfl]) | rw [hr _ _ rfl rfl rfl]
                                  exact Steps.refl _
                                · show Q_rm1 Z p1 w_EQUALS w_NOT_EQUALS w_GREATER_THAN w_LESS_THAN w_GREATER_THAN_OR_EQUAL w_LESS_THAN_OR_EQUAL w_BETWEEN w_NOT_BETWEEN w_IN w_NOT_IN w_STARTING_WITH w_NOT_STARTING_WITH w_ENDING_WITH w_NOT_ENDING_WITH w_CONTAINING w_NOT_CONTAINING w_LIKE w_NOT_LIKE w_IS_NULL w_IS_NOT_NULL w_TRUE w_FALSE h0 n0 _ T59.heap _
                                  rw [e59]
                                  exact ⟨(by unfold own_pick; rw [if_neg hc2, if_neg hc6, if_neg hc10, if_neg hc14, if_neg hc18, if_neg hc22, if_neg hc26, if_neg hc30, if_neg hc34, if_neg hc38, if_neg hc42, if_neg hc46, if_neg hc50, if_neg hc54, if_pos hc58]), N0, rfl⟩
                              · skip
                                have pre61 : ∀ t, Steps p.tables e below (s₁.setTop (mkF m 146 #[.val (.int p1)] [(.int (15 : Int32)), (.int p1)])) t → Steps p.tables e below (s₁.setTop (entryFrame m #[(.int p1)] 1)) t := fun t k => pre57 t (by
                                  refine XS.icmpYes X0.here hx rfl (pc0 := 136) (pc' := 143) rfl (hb hby d1_136) rfl (feq hc58).2 (by decide) (by decide) ?_
                                  show Steps p.tables e below (s₁.setTop (mkF m 143 #[.val (.int p1)] [])) _
                                  refine XS.iloadN X0.here hx rfl (hb hby d1_143) rfl ?_
                                  show Steps p.tables e below (s₁.setTop (mkF m 144 #[.val (.int p1)] [(.int p1)])) _
                                  refine XS.bipush X0.here hx rfl (hb hby d1_144) ?_
                                  show Steps p.tables e below (s₁.setTop (mkF m 146 #[.val (.int p1)] [(.int (15 : Int32)), (.int p1)])) _
                                  exact k)
                                by_cases hc62 : p1 = (15 : Int32)
                                · skip
                                  obtain ⟨T63, X63, e63, st63⟩ := getS2 X0 hx hZ hown (host := "") (Or.inl (kw43 hw)) Via.refl e0 (Sta.ext P0.2 P16) (g := (mkF m 149 #[.val (.int p1)] [])) rfl (hb hby d1_149)
                                  obtain ⟨fs, hr, hrun, hended, hW, hsame⟩ := X63.leave (v := some (.ref w_NOT_CONTAINING)) (fun h => by rw [Bd.returns] at h; cases h)
                                  refine ⟨_, _, pre61 _ ?_, hrun, hended, _, _, rfl, ?_, ⟨_, rfl⟩, hW, hsame.mono (by decide) (by decide)⟩
                                  · skip
                                    refine XS.icmpNo X0.here hx rfl (hb hby d1_146) rfl (teq hc62).2 ?_
                                    show Steps p.tables e below (s₁.setTop (mkF m 149 #[.val (.int p1)] [])) _
                                    refine st63 _ ?_
                                    show Steps p.tables e below (T63.setTop (mkF m 152 #[.val (.int p1)] [(.ref w_NOT_CONTAINING)])) _
                                    jvm_step X63.here [X63.here.top, hx, (hb hby d1_152), X63.method', Bd.returns, Value.isRef, FieldType.isReference]
                                    first | (intro acts; rw [hr _ acts rfl rfl rfl]) | rw [hr _ _ rfl rfl rfl]
                                    exact Steps.refl _
                                  · show Q_rm1 Z p1 w_EQUALS w_NOT_EQUALS w_GREATER_THAN w_LESS_THAN w_GREATER_THAN_OR_EQUAL w_LESS_THAN_OR_EQUAL w_BETWEEN w_NOT_BETWEEN w_IN w_NOT_IN w_STARTING_WITH w_NOT_STARTING_WITH w_ENDING_WITH w_NOT_ENDING_WITH w_CONTAINING w_NOT_CONTAINING w_LIKE w_NOT_LIKE w_IS_NULL w_IS_NOT_NULL w_TRUE w_FALSE h0 n0 _ T63.heap _
                                    rw [e63]
                                    exact ⟨(by unfold own_pick; rw [if_neg hc2, if_neg hc6, if_neg hc10, if_neg hc14, if_neg hc18, if_neg hc22, if_neg hc26, if_neg hc30, if_neg hc34, if_neg hc38, if_neg hc42, if_neg hc46, if_neg hc50, if_neg hc54, if_neg hc58, if_pos hc62]), N0, rfl⟩
                                · skip
                                  have pre65 : ∀ t, Steps p.tables e below (s₁.setTop (mkF m 156 #[.val (.int p1)] [(.int (16 : Int32)), (.int p1)])) t → Steps p.tables e below (s₁.setTop (entryFrame m #[(.int p1)] 1)) t := fun t k => pre61 t (by
                                    refine XS.icmpYes X0.here hx rfl (pc0 := 146) (pc' := 153) rfl (hb hby d1_146) rfl (feq hc62).2 (by decide) (by decide) ?_
                                    show Steps p.tables e below (s₁.setTop (mkF m 153 #[.val (.int p1)] [])) _
                                    refine XS.iloadN X0.here hx rfl (hb hby d1_153) rfl ?_
                                    show Steps p.tables e below (s₁.setTop (mkF m 154 #[.val (.int p1)] [(.int p1)])) _
                                    refine XS.bipush X0.here hx rfl (hb hby d1_154) ?_
                                    show Steps p.tables e below (s₁.setTop (mkF m 156 #[.val (.int p1)] [(.int (16 : Int32)), (.int p1)])) _
                                    exact k)
                                  by_cases hc66 : p1 = (16 : Int32)
                                  · skip
                                    obtain ⟨T67, X67, e67, st67⟩ := getS2 X0 hx hZ hown (host := "") (Or.inl (kw35 hw)) Via.refl e0 (Sta.ext P0.2 P17) (g := (mkF m 159 #[.val (.int p1)] [])) rfl (hb hby d1_159)
                                    obtain ⟨fs, hr, hrun, hended, hW, hsame⟩ := X67.leave (v := some (.ref w_LIKE)) (fun h => by rw [Bd.returns] at h; cases h)
                                    refine ⟨_, _, pre65 _ ?_, hrun, hended, _, _, rfl, ?_, ⟨_, rfl⟩, hW, hsame.mono (by decide) (by decide)⟩
                                    · skip
                                      refine XS.icmpNo X0.here hx rfl (hb hby d1_156) rfl (teq hc66).2 ?_
                                      show Steps p.tables e below (s₁.setTop (mkF m 159 #[.val (.int p1)] [])) _
                                      refine st67 _ ?_
                                      show Steps p.tables e below (T67.setTop (mkF m 162 #[.val (.int p1)] [(.ref w_LIKE)])) _
                                      jvm_step X67.here [X67.here.top, hx, (hb hby d1_162), X67.method', Bd.returns, Value.isRef, FieldType.isReference]
                                      first | (intro acts; rw [hr _ acts rfl rfl rfl]) | rw [hr _ _ rfl rfl rfl]
                                      exact Steps.refl _
                                    · show Q_rm1 Z p1 w_EQUALS w_NOT_EQUALS w_GREATER_THAN w_LESS_THAN w_GREATER_THAN_OR_EQUAL w_LESS_THAN_OR_EQUAL w_BETWEEN w_NOT_BETWEEN w_IN w_NOT_IN w_STARTING_WITH w_NOT_STARTING_WITH w_ENDING_WITH w_NOT_ENDING_WITH w_CONTAINING w_NOT_CONTAINING w_LIKE w_NOT_LIKE w_IS_NULL w_IS_NOT_NULL w_TRUE w_FALSE h0 n0 _ T67.heap _
                                      rw [e67]
                                      exact ⟨(by unfold own_pick; rw [if_neg hc2, if_neg hc6, if_neg hc10, if_neg hc14, if_neg hc18, if_neg hc22, if_neg hc26, if_neg hc30, if_neg hc34, if_neg hc38, if_neg hc42, if_neg hc46, if_neg hc50, if_neg hc54, if_neg hc58, if_neg hc62, if_pos hc66]), N0, rfl⟩
                                  · skip
                                    have pre69 : ∀ t, Steps p.tables e below (s₁.setTop (mkF m 166 #[.val (.int p1)] [(.int (17 : Int32)), (.int p1)])) t → Steps p.tables e below (s₁.setTop (entryFrame m #[(.int p1)] 1)) t := fun t k => pre65 t (by
                                      refine XS.icmpYes X0.here hx rfl (pc0 := 156) (pc' := 163) rfl (hb hby d1_156) rfl (feq hc66).2 (by decide) (by decide) ?_
                                      show Steps p.tables e below (s₁.setTop (mkF m 163 #[.val (.int p1)] [])) _
                                      refine XS.iloadN X0.here hx rfl (hb hby d1_163) rfl ?_
                                      show Steps p.tables e below (s₁.setTop (mkF m 164 #[.val (.int p1)] [(.int p1)])) _
                                      refine XS.bipush X0.here hx rfl (hb hby d1_164) ?_
                                      show Steps p.tables e below (s₁.setTop (mkF m 166 #[.val (.int p1)] [(.int (17 : Int32)), (.int p1)])) _
                                      exact k)
                                    by_cases hc70 : p1 = (17 : Int32)
                                    · skip
                                      obtain ⟨T71, X71, e71, st71⟩ := getS2 X0 hx hZ hown (host := "") (Or.inl (kw54 hw)) Via.refl e0 (Sta.ext P0.2 P18) (g := (mkF m 169 #[.val (.int p1)] [])) rfl (hb hby d1_169)
                                      obtain ⟨fs, hr, hrun, hended, hW, hsame⟩ := X71.leave (v := some (.ref w_NOT_LIKE)) (fun h => by rw [Bd.returns] at h; cases h)
                                      refine ⟨_, _, pre69 _ ?_, hrun, hended, _, _, rfl, ?_, ⟨_, rfl⟩, hW, hsame.mono (by decide) (by decide)⟩
                                      · skip
                                        refine XS.icmpNo X0.here hx rfl (hb hby d1_166) rfl (teq hc70).2 ?_
                                        show Steps p.tables e below (s₁.setTop (mkF m 169 #[.val (.int p1)] [])) _
                                        refine st71 _ ?_
                                        show Steps p.tables e below (T71.setTop (mkF m 172 #[.val (.int p1)] [(.ref w_NOT_LIKE)])) _
                                        jvm_step X71.here [X71.here.top, hx, (hb hby d1_172), X71.method', Bd.returns, Value.isRef, FieldType.isReference]
                                        first | (intro acts; rw [hr _ acts rfl rfl rfl]) | rw [hr _ _ rfl rfl rfl]
                                        exact Steps.refl _
                                      · show Q_rm1 Z p1 w_EQUALS w_NOT_EQUALS w_GREATER_THAN w_LESS_THAN w_GREATER_THAN_OR_EQUAL w_LESS_THAN_OR_EQUAL w_BETWEEN w_NOT_BETWEEN w_IN w_NOT_IN w_STARTING_WITH w_NOT_STARTING_WITH w_ENDING_WITH w_NOT_ENDING_WITH w_CONTAINING w_NOT_CONTAINING w_LIKE w_NOT_LIKE w_IS_NULL w_IS_NOT_NULL w_TRUE w_FALSE h0 n0 _ T71.heap _
                                        rw [e71]
                                        exact ⟨(by unfold own_pick; rw [if_neg hc2, if_neg hc6, if_neg hc10, if_neg hc14, if_neg hc18, if_neg hc22, if_neg hc26, if_neg hc30, if_neg hc34, if_neg hc38, if_neg hc42, if_neg hc46, if_neg hc50, if_neg hc54, if_neg hc58, if_neg hc62, if_neg hc66, if_pos hc70]), N0, rfl⟩
                                    · skip
                                      have pre73 : ∀ t, Steps p.tables e below (s₁.setTop (mkF m 176 #[.val (.int p1)] [(.int (18 : Int32)), (.int p1)])) t → Steps p.tables e below (s₁.setTop (entryFrame m #[(.int p1)] 1)) t := fun t k => pre69 t (by
                                        refine XS.icmpYes X0.here hx rfl (pc0 := 166) (pc' := 173) rfl (hb hby d1_166) rfl (feq hc70).2 (by decide) (by decide) ?_
                                        show Steps p.tables e below (s₁.setTop (mkF m 173 #[.val (.int p1)] [])) _
                                        refine XS.iloadN X0.here hx rfl (hb hby d1_173) rfl ?_
                                        show Steps p.tables e below (s₁.setTop (mkF m 174 #[.val (.int p1)] [(.int p1)])) _
                                        refine XS.bipush X0.here hx rfl (hb hby d1_174) ?_
                                        show Steps p.tables e below (s₁.setTop (mkF m 176 #[.val (.int p1)] [(.int (18 : Int32)), (.int p1)])) _
                                        exact k)
                                      by_cases hc74 : p1 = (18 : Int32)
                                      · skip
                                        obtain ⟨T75, X75, e75, st75⟩ := getS2 X0 hx hZ hown (host := "") (Or.inl (kw41 hw)) Via.refl e0 (Sta.ext P0.2 P19) (g := (mkF m 179 #[.val (.int p1)] [])) rfl (hb hby d1_179)
                                        obtain ⟨fs, hr, hrun, hended, hW, hsame⟩ := X75.leave (v := some (.ref w_IS_NULL)) (fun h => by rw [Bd.returns] at h; cases h)
                                        refine ⟨_, _, pre73 _ ?_, hrun, hended, _, _, rfl, ?_, ⟨_, rfl⟩, hW, hsame.mono (by decide) (by decide)⟩
                                        · skip
                                          refine XS.icmpNo X0.here hx rfl (hb hby d1_176) rfl (teq hc74).2 ?_
                                          show Steps p.tables e below (s₁.setTop (mkF m 179 #[.val (.int p1)] [])) _
                                          refine st75 _ ?_
                                          show Steps p.tables e below (T75.setTop (mkF m 182 #[.val (.int p1)] [(.ref w_IS_NULL)])) _
                                          jvm_step X75.here [X75.here.top, hx, (hb hby d1_182), X75.method', Bd.returns, Value.isRef, FieldType.isReference]
                                          first | (intro acts; rw [hr _ acts rfl rfl rfl]) | rw [hr _ _ rfl rfl rfl]
                                          exact Steps.refl _
                                        · show Q_rm1 Z p1 w_EQUALS w_NOT_EQUALS w_GREATER_THAN w_LESS_THAN w_GREATER_THAN_OR_EQUAL w_LESS_THAN_OR_EQUAL w_BETWEEN w_NOT_BETWEEN w_IN w_NOT_IN w_STARTING_WITH w_NOT_STARTING_WITH w_ENDING_WITH w_NOT_ENDING_WITH w_CONTAINING w_NOT_CONTAINING w_LIKE w_NOT_LIKE w_IS_NULL w_IS_NOT_NULL w_TRUE w_FALSE h0 n0 _ T75.heap _
                                          rw [e75]
                                          exact ⟨(by unfold own_pick; rw [if_neg hc2, if_neg hc6, if_neg hc10, if_neg hc14, if_neg hc18, if_neg hc22, if_neg hc26, if_neg hc30, if_neg hc34, if_neg hc38, if_neg hc42, if_neg hc46, if_neg hc50, if_neg hc54, if_neg hc58, if_neg hc62, if_neg hc66, if_neg hc70, if_pos hc74]), N0, rfl⟩
                                      · skip
                                        have pre77 : ∀ t, Steps p.tables e below (s₁.setTop (mkF m 186 #[.val (.int p1)] [(.int (19 : Int32)), (.int p1)])) t → Steps p.tables e below (s₁.setTop (entryFrame m #[(.int p1)] 1)) t := fun t k => pre73 t (by
                                          refine XS.icmpYes X0.here hx rfl (pc0 := 176) (pc' := 183) rfl (hb hby d1_176) rfl (feq hc74).2 (by decide) (by decide) ?_
                                          show Steps p.tables e below (s₁.setTop (mkF m 183 #[.val (.int p1)] [])) _
                                          refine XS.iloadN X0.here hx rfl (hb hby d1_183) rfl ?_
                                          show Steps p.tables e below (s₁.setTop (mkF m 184 #[.val (.int p1)] [(.int p1)])) _
                                          refine XS.bipush X0.here hx rfl (hb hby d1_184) ?_
                                          show Steps p.tables e below (s₁.setTop (mkF m 186 #[.val (.int p1)] [(.int (19 : Int32)), (.int p1)])) _
                                          exact k)
                                        by_cases hc78 : p1 = (19 : Int32)
                                        · skip
                                          obtain ⟨T79, X79, e79, st79⟩ := getS2 X0 hx hZ hown (host := "") (Or.inl (kw39 hw)) Via.refl e0 (Sta.ext P0.2 P20) (g := (mkF m 189 #[.val (.int p1)] [])) rfl (hb hby d1_189)
                                          obtain ⟨fs, hr, hrun, hended, hW, hsame⟩ := X79.leave (v := some (.ref w_IS_NOT_NULL)) (fun h => by rw [Bd.returns] at h; cases h)
                                          refine ⟨_, _, pre77 _ ?_, hrun, hended, _, _, rfl, ?_, ⟨_, rfl⟩, hW, hsame.mono (by decide) (by decide)⟩
                                          · skip
                                            refine XS.icmpNo X0.here hx rfl (hb hby d1_186) rfl (teq hc78).2 ?_
                                            show Steps p.tables e below (s₁.setTop (mkF m 189 #[.val (.int p1)] [])) _
                                            refine st79 _ ?_
                                            show Steps p.tables e below (T79.setTop (mkF m 192 #[.val (.int p1)] [(.ref w_IS_NOT_NULL)])) _
                                            jvm_step X79.here [X79.here.top, hx, (hb hby d1_192), X79.method', Bd.returns, Value.isRef, FieldType.isReference]
                                            first | (intro acts; rw [hr _ acts rfl rfl rfl]) | rw [hr _ _ rfl rfl rfl]
                                            exact Steps.refl _
                                          · show Q_rm1 Z p1 w_EQUALS w_NOT_EQUALS w_GREATER_THAN w_LESS_THAN w_GREATER_THAN_OR_EQUAL w_LESS_THAN_OR_EQUAL w_BETWEEN w_NOT_BETWEEN w_IN w_NOT_IN w_STARTING_WITH w_NOT_STARTING_WITH w_ENDING_WITH w_NOT_ENDING_WITH w_CONTAINING w_NOT_CONTAINING w_LIKE w_NOT_LIKE w_IS_NULL w_IS_NOT_NULL w_TRUE w_FALSE h0 n0 _ T79.heap _
                                            rw [e79]
                                            exact ⟨(by unfold own_pick; rw [if_neg hc2, if_neg hc6, if_neg hc10, if_neg hc14, if_neg hc18, if_neg hc22, if_neg hc26, if_neg hc30, if_neg hc34, if_neg hc38, if_neg hc42, if_neg hc46, if_neg hc50, if_neg hc54, if_neg hc58, if_neg hc62, if_neg hc66, if_neg hc70, if_neg hc74, if_pos hc78]), N0, rfl⟩
                                        · skip
                                          have pre81 : ∀ t, Steps p.tables e below (s₁.setTop (mkF m 196 #[.val (.int p1)] [(.int (20 : Int32)), (.int p1)])) t → Steps p.tables e below (s₁.setTop (entryFrame m #[(.int p1)] 1)) t := fun t k => pre77 t (by
                                            refine XS.icmpYes X0.here hx rfl (pc0 := 186) (pc' := 193) rfl (hb hby d1_186) rfl (feq hc78).2 (by decide) (by decide) ?_
                                            show Steps p.tables e below (s₁.setTop (mkF m 193 #[.val (.int p1)] [])) _
                                            refine XS.iloadN X0.here hx rfl (hb hby d1_193) rfl ?_
                                            show Steps p.tables e below (s₁.setTop (mkF m 194 #[.val (.int p1)] [(.int p1)])) _
                                            refine XS.bipush X0.here hx rfl (hb hby d1_194) ?_
                                            show Steps p.tables e below (s₁.setTop (mkF m 196 #[.val (.int p1)] [(.int (20 : Int32)), (.int p1)])) _
                                            exact k)
                                          by_cases hc82 : p1 = (20 : Int32)
                                          · skip
                                            obtain ⟨T83, X83, e83, st83⟩ := getS2 X0 hx hZ hown (host := "") (Or.inl (kw56 hw)) Via.refl e0 (Sta.ext P0.2 P21) (g := (mkF m 199 #[.val (.int p1)] [])) rfl (hb hby d1_199)
                                            obtain ⟨fs, hr, hrun, hended, hW, hsame⟩ := X83.leave (v := some (.ref w_TRUE)) (fun h => by rw [Bd.returns] at h; cases h)
                                            refine ⟨_, _, pre81 _ ?_, hrun, hended, _, _, rfl, ?_, ⟨_, rfl⟩, hW, hsame.mono (by decide) (by decide)⟩
                                            · skip
                                              refine XS.icmpNo X0.here hx rfl (hb hby d1_196) rfl (teq hc82).2 ?_
                                              show Steps p.tables e below (s₁.setTop (mkF m 199 #[.val (.int p1)] [])) _
                                              refine st83 _ ?_
                                              show Steps p.tables e below (T83.setTop (mkF m 202 #[.val (.int p1)] [(.ref w_TRUE)])) _
                                              jvm_step X83.here [X83.here.top, hx, (hb hby d1_202), X83.method', Bd.returns, Value.isRef, FieldType.isReference]
                                              first | (intro acts; rw [hr _ acts rfl rfl rfl]) | rw [hr _ _ rfl rfl rfl]
                                              exact Steps.refl _
                                            · show Q_rm1 Z p1 w_EQUALS w_NOT_EQUALS w_GREATER_THAN w_LESS_THAN w_GREATER_THAN_OR_EQUAL w_LESS_THAN_OR_EQUAL w_BETWEEN w_NOT_BETWEEN w_IN w_NOT_IN w_STARTING_WITH w_NOT_STARTING_WITH w_ENDING_WITH w_NOT_ENDING_WITH w_CONTAINING w_NOT_CONTAINING w_LIKE w_NOT_LIKE w_IS_NULL w_IS_NOT_NULL w_TRUE w_FALSE h0 n0 _ T83.heap _
                                              rw [e83]
                                              exact ⟨(by unfold own_pick; rw [if_neg hc2, if_neg hc6, if_neg hc10, if_neg hc14, if_neg hc18, if_neg hc22, if_neg hc26, if_neg hc30, if_neg hc34, if_neg hc38, if_neg hc42, if_neg hc46, if_neg hc50, if_neg hc54, if_neg hc58, if_neg hc62, if_neg hc66, if_neg hc70, if_neg hc74, if_neg hc78, if_pos hc82]), N0, rfl⟩
                                          · skip
                                            obtain ⟨T85, X85, e85, st85⟩ := getS2 X0 hx hZ hown (host := "") (Or.inl (kw47 hw)) Via.refl e0 (Sta.ext P0.2 P22) (g := (mkF m 203 #[.val (.int p1)] [])) rfl (hb hby d1_203)
                                            obtain ⟨fs, hr, hrun, hended, hW, hsame⟩ := X85.leave (v := some (.ref w_FALSE)) (fun h => by rw [Bd.returns] at h; cases h)
                                            refine ⟨_, _, pre81 _ ?_, hrun, hended, _, _, rfl, ?_, ⟨_, rfl⟩, hW, hsame.mono (by decide) (by decide)⟩
                                            · skip
                                              refine XS.icmpYes X0.here hx rfl (pc0 := 196) (pc' := 203) rfl (hb hby d1_196) rfl (feq hc82).2 (by decide) (by decide) ?_
                                              show Steps p.tables e below (s₁.setTop (mkF m 203 #[.val (.int p1)] [])) _
                                              refine st85 _ ?_
                                              show Steps p.tables e below (T85.setTop (mkF m 206 #[.val (.int p1)] [(.ref w_FALSE)])) _
                                              jvm_step X85.here [X85.here.top, hx, (hb hby d1_206), X85.method', Bd.returns, Value.isRef, FieldType.isReference]
                                              first | (intro acts; rw [hr _ acts rfl rfl rfl]) | rw [hr _ _ rfl rfl rfl]
                                              exact Steps.refl _
                                            · show Q_rm1 Z p1 w_EQUALS w_NOT_EQUALS w_GREATER_THAN w_LESS_THAN w_GREATER_THAN_OR_EQUAL w_LESS_THAN_OR_EQUAL w_BETWEEN w_NOT_BETWEEN w_IN w_NOT_IN w_STARTING_WITH w_NOT_STARTING_WITH w_ENDING_WITH w_NOT_ENDING_WITH w_CONTAINING w_NOT_CONTAINING w_LIKE w_NOT_LIKE w_IS_NULL w_IS_NOT_NULL w_TRUE w_FALSE h0 n0 _ T85.heap _
                                              rw [e85]
                                              exact ⟨(by unfold own_pick; rw [if_neg hc2, if_neg hc6, if_neg hc10, if_neg hc14, if_neg hc18, if_neg hc22, if_neg hc26, if_neg hc30, if_neg hc34, if_neg hc38, if_neg hc42, if_neg hc46, if_neg hc50, if_neg hc54, if_neg hc58, if_neg hc62, if_neg hc66, if_neg hc70, if_neg hc74, if_neg hc78, if_neg hc82]), N0, rfl⟩
theorem ef_rm2 (m : MethodId) (x0 : Addr) : entryFrame m #[(.ref x0)] 1 = mkF m 0 #[.val (.ref x0)] [] := by first | (simp [entryFrame, mkF, argsToLocals, Value.category]; done) | rfl
def Q_rm2 (Z : State) (a1 : Addr) (w_TRUE : Addr) (w_FALSE : Addr) (h0 : Heap) (n0 : Nat) (v : Option Value) (h : Heap) (L : List Loc) : Prop := v = some (.int (own_q a1 w_TRUE w_FALSE)) ∧ Fr n0 L ∧ h = h0
set_option maxRecDepth 65536 in
set_option maxHeartbeats 40000000 in
theorem rm2 (l : Launch) (Z : State) (a0 : Array Value) (hw : ∀ d ∈ tables_1, d.before a0 Z = true) (ws : List Jvm.Cond) (a1 : Addr) (w_TRUE : Addr) (w_FALSE : Addr) (h0 : Heap) (n0 : Nat) (Z0 : n0 ≤ h0.size) (P0 : Old Z n0 h0) (P1 : Sta Z Z.heap "com/example/libfinder/libfinder/query/internal/Query$Operator" "TRUE" "Lcom/example/libfinder/libfinder/query/internal/Query$Operator;" (.ref w_TRUE)) (P2 : Sta Z Z.heap "com/example/libfinder/libfinder/query/internal/Query$Operator" "FALSE" "Lcom/example/libfinder/libfinder/query/internal/Query$Operator;" (.ref w_FALSE)) :
    MetFree l (⟨"com/example/libfinder/libfinder/query/internal/Query$Operator", "testsTruth", "()Z"⟩ : MethodName) (head1 (Jvm.Cond.code (⟨"com/example/libfinder/libfinder/query/internal/Query$Operator", "testsTruth", "()Z"⟩ : MethodName) prog_85_method_8_code 1 (some .boolean) :: ws) ({ frames := 0, cells := 0, slots := 0, locals := 0 } : Room)) (fun a U => a = #[(.ref a1)] ∧ Z.Warmed39 U.vm ∧ U.heap = h0) (fun _ _ _ _ _ => True) (fun _ U o U' => ∃ v L, o = .returned v ∧ Q_rm2 Z a1 w_TRUE w_FALSE h0 n0 v U'.heap L ∧ FrameEnd U o U' L ({ frames := 0, cells := 0, slots := 0, locals := 0 } : Room).cells ({ frames := 0, cells := 0, slots := 0, locals := 0 } : Room).slots) := by
  refine MetFree.of_bodySF (plainFor_of_name pn_1) hisR ?_
  intro p e s m args below meth c s₁ Bd hml0 hP hK
  obtain ⟨rfl, hZ, hh⟩ := hP
  have hx := Bd.exec
  have hby := Bd.bytes
  have hml : c.maxLocals = 1 := hml0
  have hown : s.vm.findClass "com/example/libfinder/libfinder/query/internal/Query$Operator" = some m.cls := findClass_of_methodNamed Bd.named
  have hnm := (name_of_methodNamed Bd.named Bd.method).1
  have X0 : Stand p l e ({ frames := 0, cells := 0, slots := 0, locals := 0 } : Room) s m #[(.ref a1)] below meth c s₁ [] 0 0 := Stand.of_body Bd
  have e0 : s₁.heap = h0 := by rw [← hh, Bd.state]; rfl
  have N0 := Fr.nil n0
  have KR : Keep h0 h0 [] := Keep.refl h0 _
  have pre0 : ∀ t, Steps p.tables e below (s₁.setTop (mkF m 0 #[.val (.ref a1)] [])) t → Steps p.tables e below (s₁.setTop (entryFrame m #[(.ref a1)] 1)) t := fun t k => castTop (ef_rm2 m (a1)) k
  obtain ⟨T1, X1, e1, st1⟩ := getS2 X0 hx hZ hown (host := "") (Or.inl (kw13 hw)) Via.refl e0 (Sta.ext P0.2 P1) (g := (mkF m 1 #[.val (.ref a1)] [(.ref a1)])) rfl (hb hby d2_1)
  have pre2 : ∀ t, Steps p.tables e below (T1.setTop (mkF m 4 #[.val (.ref a1)] [(.ref w_TRUE), (.ref a1)])) t → Steps p.tables e below (s₁.setTop (entryFrame m #[(.ref a1)] 1)) t := fun t k => pre0 t (by
    show Steps p.tables e below (s₁.setTop (mkF m 0 #[.val (.ref a1)] [])) _
    refine XS.aloadN X0.here hx rfl (hb hby d2_0) rfl rfl ?_
    show Steps p.tables e below (s₁.setTop (mkF m 1 #[.val (.ref a1)] [(.ref a1)])) _
    refine st1 _ ?_
    show Steps p.tables e below (T1.setTop (mkF m 4 #[.val (.ref a1)] [(.ref w_TRUE), (.ref a1)])) _
    exact k)
  by_cases hc3 : a1 = w_TRUE
  · skip
    obtain ⟨fs, hr, hrun, hended, hW, hsame⟩ := X1.leave (v := some (.int (1 : Int32))) (fun h => by rw [Bd.returns] at h; cases h)
    refine ⟨_, _, pre2 _ ?_, hrun, hended, _, _, rfl, ?_, ⟨_, rfl⟩, hW, hsame.mono (by decide) (by decide)⟩
    · skip
      refine Jvm.RoadKit.acmp (g := (mkF m 4 #[.val (.ref a1)] [(.ref w_TRUE), (.ref a1)])) X1 hx rfl rfl rfl (pc0 := 4) (pc' := 14) (same := true) rfl (hb hby d2_4) rfl (decide_eq_true (congrArg Value.ref hc3)) (by decide) (by decide) ?_
      show Steps p.tables e below (T1.setTop (mkF m 14 #[.val (.ref a1)] [])) _
      refine XS.iconst X1.here hx rfl (hb hby d2_14) ?_
      show Steps p.tables e below (T1.setTop (mkF m 15 #[.val (.ref a1)] [(.int (1 : Int32))])) _
      refine XS.goto X1.here hx rfl (pc0 := 15) (pc' := 19) rfl (hb hby d2_15) (by decide) (by decide) ?_
      show Steps p.tables e below (T1.setTop (mkF m 19 #[.val (.ref a1)] [(.int (1 : Int32))])) _
      exact retN X1 hx (t := .boolean) Bd.returns (by simp) (hb hby d2_19) hr
    · show Q_rm2 Z a1 w_TRUE w_FALSE h0 n0 _ T1.heap _
      rw [e1]
      exact ⟨(by unfold own_q; rw [if_pos hc3]), N0, rfl⟩
  · skip
    obtain ⟨T5, X5, e5, st5⟩ := getS2 X1 hx hZ hown (host := "") (Or.inl (kw15 hw)) Via.refl e1 (Sta.ext P0.2 P2) (g := (mkF m 8 #[.val (.ref a1)] [(.ref a1)])) rfl (hb hby d2_8)
    have pre6 : ∀ t, Steps p.tables e below (T5.setTop (mkF m 11 #[.val (.ref a1)] [(.ref w_FALSE), (.ref a1)])) t → Steps p.tables e below (s₁.setTop (entryFrame m #[(.ref a1)] 1)) t := fun t k => pre2 t (by
      refine Jvm.RoadKit.acmp (g := (mkF m 4 #[.val (.ref a1)] [(.ref w_TRUE), (.ref a1)])) X1 hx rfl rfl rfl (pc0 := 4) (pc' := 7) (same := false) rfl (hb hby d2_4) rfl (decide_eq_false fun q => hc3 (Value.ref.inj q)) (by decide) (by decide) ?_
      show Steps p.tables e below (T1.setTop (mkF m 7 #[.val (.ref a1)] [])) _
      refine XS.aloadN X1.here hx rfl (hb hby d2_7) rfl rfl ?_
      show Steps p.tables e below (T1.setTop (mkF m 8 #[.val (.ref a1)] [(.ref a1)])) _
      refine st5 _ ?_
      show Steps p.tables e below (T5.setTop (mkF m 11 #[.val (.ref a1)] [(.ref w_FALSE), (.ref a1)])) _
      exact k)
    by_cases hc7 : a1 = w_FALSE
    · skip
      obtain ⟨fs, hr, hrun, hended, hW, hsame⟩ := X5.leave (v := some (.int (1 : Int32))) (fun h => by rw [Bd.returns] at h; cases h)
      refine ⟨_, _, pre6 _ ?_, hrun, hended, _, _, rfl, ?_, ⟨_, rfl⟩, hW, hsame.mono (by decide) (by decide)⟩
      · skip
        refine Jvm.RoadKit.acmp (g := (mkF m 11 #[.val (.ref a1)] [(.ref w_FALSE), (.ref a1)])) X5 hx rfl rfl rfl (pc0 := 11) (pc' := 14) (same := true) rfl (hb hby d2_11) rfl (decide_eq_true (congrArg Value.ref hc7)) (by decide) (by decide) ?_
        show Steps p.tables e below (T5.setTop (mkF m 14 #[.val (.ref a1)] [])) _
        refine XS.iconst X5.here hx rfl (hb hby d2_14) ?_
        show Steps p.tables e below (T5.setTop (mkF m 15 #[.val (.ref a1)] [(.int (1 : Int32))])) _
        refine XS.goto X5.here hx rfl (pc0 := 15) (pc' := 19) rfl (hb hby d2_15) (by decide) (by decide) ?_
        show Steps p.tables e below (T5.setTop (mkF m 19 #[.val (.ref a1)] [(.int (1 : Int32))])) _
        exact retN X5 hx (t := .boolean) Bd.returns (by simp) (hb hby d2_19) hr
      · show Q_rm2 Z a1 w_TRUE w_FALSE h0 n0 _ T5.heap _
        rw [e5]
        exact ⟨(by unfold own_q; rw [if_neg hc3, if_pos hc7]), N0, rfl⟩
    · skip
      obtain ⟨fs, hr, hrun, hended, hW, hsame⟩ := X5.leave (v := some (.int (0 : Int32))) (fun h => by rw [Bd.returns] at h; cases h)
      refine ⟨_, _, pre6 _ ?_, hrun, hended, _, _, rfl, ?_, ⟨_, rfl⟩, hW, hsame.mono (by decide) (by decide)⟩
      · skip
        refine Jvm.RoadKit.acmp (g := (mkF m 11 #[.val (.ref a1)] [(.ref w_FALSE), (.ref a1)])) X5 hx rfl rfl rfl (pc0 := 11) (pc' := 18) (same := false) rfl (hb hby d2_11) rfl (decide_eq_false fun q => hc7 (Value.ref.inj q)) (by decide) (by decide) ?_
        show Steps p.tables e below (T5.setTop (mkF m 18 #[.val (.ref a1)] [])) _
        refine XS.iconst X5.here hx rfl (hb hby d2_18) ?_
        show Steps p.tables e below (T5.setTop (mkF m 19 #[.val (.ref a1)] [(.int (0 : Int32))])) _
        exact retN X5 hx (t := .boolean) Bd.returns (by simp) (hb hby d2_19) hr
      · show Q_rm2 Z a1 w_TRUE w_FALSE h0 n0 _ T5.heap _
        rw [e5]
        exact ⟨(by unfold own_q; rw [if_neg hc3, if_neg hc7]), N0, rfl⟩
theorem ef_rm0 (m : MethodId) (x0 : Int32) : entryFrame m #[(.int x0)] maxLocals = mkF m 0 #[.val (.int x0), .unset, .unset, .unset] [] := by first | (simp [entryFrame, mkF, argsToLocals, Value.category, maxLocals]; done) | rfl
def Q_rm0 (Z : State) (p1 : Int32) (w_EQUALS : Addr) (w_NOT_EQUALS : Addr) (w_GREATER_THAN : Addr) (w_LESS_THAN : Addr) (w_GREATER_THAN_OR_EQUAL : Addr) (w_LESS_THAN_OR_EQUAL : Addr) (w_BETWEEN : Addr) (w_NOT_BETWEEN : Addr) (w_IN : Addr) (w_NOT_IN : Addr) (w_STARTING_WITH : Addr) (w_NOT_STARTING_WITH : Addr) (w_ENDING_WITH : Addr) (w_NOT_ENDING_WITH : Addr) (w_CONTAINING : Addr) (w_NOT_CONTAINING : Addr) (w_LIKE : Addr) (w_NOT_LIKE : Addr) (w_IS_NULL : Addr) (w_IS_NOT_NULL : Addr) (w_TRUE : Addr) (w_FALSE : Addr) (h0 : Heap) (n0 : Nat) (v : Option Value) (h : Heap) (L : List Loc) : Prop := v = some (.int (1 : Int32)) ∧ Fr n0 L ∧ h = h0
set_option maxRecDepth 65536 in
set_option maxHeartbeats 40000000 in
theorem rm0 (l : Launch) (Z : State) (a0 : Array Value) (hw : ∀ d ∈ tables_1, d.before a0 Z = true) (ws : List Jvm.Cond) (p1 : Int32) (w_EQUALS : Addr) (w_NOT_EQUALS : Addr) (w_GREATER_THAN : Addr) (w_LESS_THAN : Addr) (w_GREATER_THAN_OR_EQUAL : Addr) (w_LESS_THAN_OR_EQUAL : Addr) (w_BETWEEN : Addr) (w_NOT_BETWEEN : Addr) (w_IN : Addr) (w_NOT_IN : Addr) (w_STARTING_WITH : Addr) (w_NOT_STARTING_WITH : Addr) (w_ENDING_WITH : Addr) (w_NOT_ENDING_WITH : Addr) (w_CONTAINING : Addr) (w_NOT_CONTAINING : Addr) (w_LIKE : Addr) (w_NOT_LIKE : Addr) (w_IS_NULL : Addr) (w_IS_NOT_NULL : Addr) (w_TRUE : Addr) (w_FALSE : Addr) (h0 : Heap) (n0 : Nat) (Z0 : n0 ≤ h0.size) (P0 : Old Z n0 h0) (P1 : Sta Z Z.heap "com/example/libfinder/libfinder/query/internal/Query$Operator" "EQUALS" "Lcom/example/libfinder/libfinder/query/internal/Query$Operator;" (.ref w_EQUALS)) (P2 : Sta Z Z.heap "com/example/libfinder/libfinder/query/internal/Query$Operator" "NOT_EQUALS" "Lcom/example/libfinder/libfinder/query/internal/Query$Operator;" (.ref w_NOT_EQUALS)) (P3 : Sta Z Z.heap "com/example/libfinder/libfinder/query/internal/Query$Operator" "GREATER_THAN" "Lcom/example/libfinder/libfinder/query/internal/Query$Operator;" (.ref w_GREATER_THAN)) (P4 : Sta Z Z.heap "com/example/libfinder/libfinder/query/internal/Query$Operator" "LESS_THAN" "Lcom/example/libfinder/libfinder/query/internal/Query$Operator;" (.ref w_LESS_THAN)) (P5 : Sta Z Z.heap "com/example/libfinder/libfinder/query/internal/Query$Operator" "GREATER_THAN_OR_EQUAL" "Lcom/example/libfinder/libfinder/query/internal/Query$Operator;" (.ref w_GREATER_THAN_OR_EQUAL)) (P6 : Sta Z Z.heap "com/example/libfinder/libfinder/query/internal/Query$Operator" "LESS_THAN_OR_EQUAL" "Lcom/example/libfinder/libfinder/query/internal/Query$Operator;" (.ref w_LESS_THAN_OR_EQUAL)) (P7 : Sta Z Z.heap "com/example/libfinder/libfinder/query/internal/Query$Operator" "BETWEEN" "Lcom/example/libfinder/libfinder/query/internal/Query$Operator;" (.ref w_BETWEEN)) (P8 : Sta Z Z.heap "com/example/libfinder/libfinder/query/internal/Query$Operator" "NOT_BETWEEN" "Lcom/example/libfinder/libfinder/query/internal/Query$Operator;" (.ref w_NOT_BETWEEN)) (P9 : Sta Z Z.heap "com/example/libfinder/libfinder/query/internal/Query$Operator" "IN" "Lcom/example/libfinder/libfinder/query/internal/Query$Operator;" (.ref w_IN)) (P10 : Sta Z Z.heap "com/example/libfinder/libfinder/query/internal/Query$Operator" "NOT_IN" "Lcom/example/libfinder/libfinder/query/internal/Query$Operator;" (.ref w_NOT_IN)) (P11 : Sta Z Z.heap "com/example/libfinder/libfinder/query/internal/Query$Operator" "STARTING_WITH" "Lcom/example/libfinder/libfinder/query/internal/Query$Operator;" (.ref w_STARTING_WITH)) (P12 : Sta Z Z.heap "com/example/libfinder/libfinder/query/internal/Query$Operator" "NOT_STARTING_WITH" "Lcom/example/libfinder/libfinder/query/internal/Query$Operator;" (.ref w_NOT_STARTING_WITH)) (P13 : Sta Z Z.heap "com/example/libfinder/libfinder/query/internal/Query$Operator" "ENDING_WITH" "Lcom/example/libfinder/libfinder/query/internal/Query$Operator;" (.ref w_ENDING_WITH)) (P14 : Sta Z Z.heap "com/example/libfinder/libfinder/query/internal/Query$Operator" "NOT_ENDING_WITH" "Lcom/example/libfinder/libfinder/query/internal/Query$Operator;" (.ref w_NOT_ENDING_WITH)) (P15 : Sta Z Z.heap "com/example/libfinder/libfinder/query/internal/Query$Operator" "CONTAINING" "Lcom/example/libfinder/libfinder/query/internal/Query$Operator;" (.ref w_CONTAINING)) (P16 : Sta Z Z.heap "com/example/libfinder/libfinder/query/internal/Query$Operator" "NOT_CONTAINING" "Lcom/example/libfinder/libfinder/query/internal/Query$Operator;" (.ref w_NOT_CONTAINING)) (P17 : Sta Z Z.heap "com/example/libfinder/libfinder/query/internal/Query$Operator" "LIKE" "Lcom/example/libfinder/libfinder/query/internal/Query$Operator;" (.ref w_LIKE)) (P18 : Sta Z Z.heap "com/example/libfinder/libfinder/query/internal/Query$Operator" "NOT_LIKE" "Lcom/example/libfinder/libfinder/query/internal/Query$Operator;" (.ref w_NOT_LIKE)) (P19 : Sta Z Z.heap "com/example/libfinder/libfinder/query/internal/Query$Operator" "IS_NULL" "Lcom/example/libfinder/libfinder/query/internal/Query$Operator;" (.ref w_IS_NULL)) (P20 : Sta Z Z.heap "com/example/libfinder/libfinder/query/internal/Query$Operator" "IS_NOT_NULL" "Lcom/example/libfinder/libfinder/query/internal/Query$Operator;" (.ref w_IS_NOT_NULL)) (P21 : Sta Z Z.heap "com/example/libfinder/libfinder/query/internal/Query$Operator" "TRUE" "Lcom/example/libfinder/libfinder/query/internal/Query$Operator;" (.ref w_TRUE)) (P22 : Sta Z Z.heap "com/example/libfinder/libfinder/query/internal/Query$Operator" "FALSE" "Lcom/example/libfinder/libfinder/query/internal/Query$Operator;" (.ref w_FALSE)) (P23 : Exa Z h0 w_EQUALS "com/example/libfinder/libfinder/query/internal/Query$Operator") (P24 : Exa Z h0 w_NOT_EQUALS "com/example/libfinder/libfinder/query/internal/Query$Operator") (P25 : Exa Z h0 w_GREATER_THAN "com/example/libfinder/libfinder/query/internal/Query$Operator") (P26 : Exa Z h0 w_LESS_THAN "com/example/libfinder/libfinder/query/internal/Query$Operator") (P27 : Exa Z h0 w_GREATER_THAN_OR_EQUAL "com/example/libfinder/libfinder/query/internal/Query$Operator") (P28 : Exa Z h0 w_LESS_THAN_OR_EQUAL "com/example/libfinder/libfinder/query/internal/Query$Operator") (P29 : Exa Z h0 w_BETWEEN "com/example/libfinder/libfinder/query/internal/Query$Operator") (P30 : Exa Z h0 w_NOT_BETWEEN "com/example/libfinder/libfinder/query/internal/Query$Operator") (P31 : Exa Z h0 w_IN "com/example/libfinder/libfinder/query/internal/Query$Operator") (P32 : Exa Z h0 w_NOT_IN "com/example/libfinder/libfinder/query/internal/Query$Operator") (P33 : Exa Z h0 w_STARTING_WITH "com/example/libfinder/libfinder/query/internal/Query$Operator") (P34 : Exa Z h0 w_NOT_STARTING_WITH "com/example/libfinder/libfinder/query/internal/Query$Operator") (P35 : Exa Z h0 w_ENDING_WITH "com/example/libfinder/libfinder/query/internal/Query$Operator") (P36 : Exa Z h0 w_NOT_ENDING_WITH "com/example/libfinder/libfinder/query/internal/Query$Operator") (P37 : Exa Z h0 w_CONTAINING "com/example/libfinder/libfinder/query/internal/Query$Operator") (P38 : Exa Z h0 w_NOT_CONTAINING "com/example/libfinder/libfinder/query/internal/Query$Operator") (P39 : Exa Z h0 w_LIKE "com/example/libfinder/libfinder/query/internal/Query$Operator") (P40 : Exa Z h0 w_NOT_LIKE "com/example/libfinder/libfinder/query/internal/Query$Operator") (P41 : Exa Z h0 w_IS_NULL "com/example/libfinder/libfinder/query/internal/Query$Operator") (P42 : Exa Z h0 w_IS_NOT_NULL "com/example/libfinder/libfinder/query/internal/Query$Operator") (P43 : Exa Z h0 w_TRUE "com/example/libfinder/libfinder/query/internal/Query$Operator") (P44 : Exa Z h0 w_FALSE "com/example/libfinder/libfinder/query/internal/Query$Operator") (P45 : Fld Z h0 w_EQUALS "java/lang/Enum" "ordinal" "I" (.int (0 : Int32))) (P46 : Fld Z h0 w_NOT_EQUALS "java/lang/Enum" "ordinal" "I" (.int (1 : Int32))) (P47 : Fld Z h0 w_GREATER_THAN "java/lang/Enum" "ordinal" "I" (.int (2 : Int32))) (P48 : Fld Z h0 w_LESS_THAN "java/lang/Enum" "ordinal" "I" (.int (3 : Int32))) (P49 : Fld Z h0 w_GREATER_THAN_OR_EQUAL "java/lang/Enum" "ordinal" "I" (.int (4 : Int32))) (P50 : Fld Z h0 w_LESS_THAN_OR_EQUAL "java/lang/Enum" "ordinal" "I" (.int (5 : Int32))) (P51 : Fld Z h0 w_BETWEEN "java/lang/Enum" "ordinal" "I" (.int (6 : Int32))) (P52 : Fld Z h0 w_NOT_BETWEEN "java/lang/Enum" "ordinal" "I" (.int (7 : Int32))) (P53 : Fld Z h0 w_IN "java/lang/Enum" "ordinal" "I" (.int (8 : Int32))) (P54 : Fld Z h0 w_NOT_IN "java/lang/Enum" "ordinal" "I" (.int (9 : Int32))) (P55 : Fld Z h0 w_STARTING_WITH "java/lang/Enum" "ordinal" "I" (.int (10 : Int32))) (P56 : Fld Z h0 w_NOT_STARTING_WITH "java/lang/Enum" "ordinal" "I" (.int (11 : Int32))) (P57 : Fld Z h0 w_ENDING_WITH "java/lang/Enum" "ordinal" "I" (.int (12 : Int32))) (P58 : Fld Z h0 w_NOT_ENDING_WITH "java/lang/Enum" "ordinal" "I" (.int (13 : Int32))) (P59 : Fld Z h0 w_CONTAINING "java/lang/Enum" "ordinal" "I" (.int (14 : Int32))) (P60 : Fld Z h0 w_NOT_CONTAINING "java/lang/Enum" "ordinal" "I" (.int (15 : Int32))) (P61 : Fld Z h0 w_LIKE "java/lang/Enum" "ordinal" "I" (.int (16 : Int32))) (P62 : Fld Z h0 w_NOT_LIKE "java/lang/Enum" "ordinal" "I" (.int (17 : Int32))) (P63 : Fld Z h0 w_IS_NULL "java/lang/Enum" "ordinal" "I" (.int (18 : Int32))) (P64 : Fld Z h0 w_IS_NOT_NULL "java/lang/Enum" "ordinal" "I" (.int (19 : Int32))) (P65 : Fld Z h0 w_TRUE "java/lang/Enum" "ordinal" "I" (.int (20 : Int32))) (P66 : Fld Z h0 w_FALSE "java/lang/Enum" "ordinal" "I" (.int (21 : Int32))) :
    MetFree l x (head1 (Jvm.Cond.code x code maxLocals ret :: ws) room_1) (fun a U => a = #[(.int p1)] ∧ Z.Warmed39 U.vm ∧ U.heap = h0) (fun _ _ _ _ _ => True) (fun _ U o U' => ∃ v L, o = .returned v ∧ Q_rm0 Z p1 w_EQUALS w_NOT_EQUALS w_GREATER_THAN w_LESS_THAN w_GREATER_THAN_OR_EQUAL w_LESS_THAN_OR_EQUAL w_BETWEEN w_NOT_BETWEEN w_IN w_NOT_IN w_STARTING_WITH w_NOT_STARTING_WITH w_ENDING_WITH w_NOT_ENDING_WITH w_CONTAINING w_NOT_CONTAINING w_LIKE w_NOT_LIKE w_IS_NULL w_IS_NOT_NULL w_TRUE w_FALSE h0 n0 v U'.heap L ∧ FrameEnd U o U' L room_1.cells room_1.slots) := by
  refine MetFree.of_bodySF (plainFor_of_name pn_0) hisR ?_
  intro p e s m args below meth c s₁ Bd hml0 hP hK
  obtain ⟨rfl, hZ, hh⟩ := hP
  have hx := Bd.exec
  have hby := Bd.bytes
  have hml : c.maxLocals = 4 := hml0
  have hown : s.vm.findClass "com/example/libfinder/libfinder/query/internal/OperatorTestsTruthPinLaw" = some m.cls := findClass_of_methodNamed Bd.named
  have hnm := (name_of_methodNamed Bd.named Bd.method).1
  have X0 : Stand p l e room_1 s m #[(.int p1)] below meth c s₁ [] 0 0 := Stand.of_body Bd
  have e0 : s₁.heap = h0 := by rw [← hh, Bd.state]; rfl
  have N0 := Fr.nil n0
  have KR : Keep h0 h0 [] := Keep.refl h0 _
  have pre0 : ∀ t, Steps p.tables e below (s₁.setTop (mkF m 0 #[.val (.int p1), .unset, .unset, .unset] [])) t → Steps p.tables e below (s₁.setTop (entryFrame m #[(.int p1)] maxLocals)) t := fun t k => castTop (ef_rm0 m (p1)) k
  obtain ⟨_, _, ⟨T1, L1, k1, n1⟩, -, X1, ⟨Lc1, hQ1, l1, y1, z1⟩, st1⟩ := Jvm.LawKit.callS X0 hx (y := (⟨"com/example/libfinder/libfinder/query/internal/OperatorTestsTruthPinLaw", "pick", "(I)Lcom/example/libfinder/libfinder/query/internal/Query$Operator;"⟩ : MethodName)) hown (mvT hZ (kw1 hw)) (mvT hZ (kw2 hw)) (mvT hZ (kw3 hw)) (mvT hZ (kw4 hw)) (by decide) (backOf (W := 0) (rm1 l Z a0 hw [] ((p1 &&& (2147483647 : Int32)) % (22 : Int32)) w_EQUALS w_NOT_EQUALS w_GREATER_THAN w_LESS_THAN w_GREATER_THAN_OR_EQUAL w_LESS_THAN_OR_EQUAL w_BETWEEN w_NOT_BETWEEN w_IN w_NOT_IN w_STARTING_WITH w_NOT_STARTING_WITH w_ENDING_WITH w_NOT_ENDING_WITH w_CONTAINING w_NOT_CONTAINING w_LIKE w_NOT_LIKE w_IS_NULL w_IS_NOT_NULL w_TRUE w_FALSE h0 n0 Z0 P0 P1 P2 P3 P4 P5 P6 P7 P8 P9 P10 P11 P12 P13 P14 P15 P16 P17 P18 P19 P20 P21 P22) hZ (kw4 hw) (kw3 hw) (by decide) (by decide)) (g := (mkF m 9 #[.val (.int p1), .val (.int ((p1 &&& (2147483647 : Int32)) % (22 : Int32))), .unset, .unset] [(.int ((p1 &&& (2147483647 : Int32)) % (22 : Int32)))])) rfl (by rw [hml]; rfl) (argsL := [(.int ((p1 &&& (2147483647 : Int32)) % (22 : Int32)))]) (rest := []) (lenOf pd_0 rfl) rfl (by show 2 * 0 + _ ≤ _; exact Nat.le_of_eq rfl) (hb hby at_9) (fun _ _ => ⟨rfl, e0, (by decide : 0 + 0 ≤ _), (by decide : 0 + 0 ≤ _)⟩)
  dsimp only [Pt.U, Pt.locs, Pt.cells, Pt.slots] at X1 l1 y1 z1 st1 hQ1
  subst l1 y1 z1
  obtain ⟨rfl, N1q, e1⟩ := hQ1
  have N1 := Fr.app N0 N1q
  have Ep : Exa Z h0 (own_pick ((p1 &&& (2147483647 : Int32)) % (22 : Int32)) w_EQUALS w_NOT_EQUALS w_GREATER_THAN w_LESS_THAN w_GREATER_THAN_OR_EQUAL w_LESS_THAN_OR_EQUAL w_BETWEEN w_NOT_BETWEEN w_IN w_NOT_IN w_STARTING_WITH w_NOT_STARTING_WITH w_ENDING_WITH w_NOT_ENDING_WITH w_CONTAINING w_NOT_CONTAINING w_LIKE w_NOT_LIKE w_IS_NULL w_IS_NOT_NULL w_TRUE w_FALSE) "com/example/libfinder/libfinder/query/internal/Query$Operator" := own_pick_ind (P := fun z => Exa Z h0 z "com/example/libfinder/libfinder/query/internal/Query$Operator") P23 P24 P25 P26 P27 P28 P29 P30 P31 P32 P33 P34 P35 P36 P37 P38 P39 P40 P41 P42 P43 P44
  have pre2 : ∀ t, Steps p.tables e below (T1.setTop (mkF m 16 #[.val (.int p1), .val (.int ((p1 &&& (2147483647 : Int32)) % (22 : Int32))), .val (.ref (own_pick ((p1 &&& (2147483647 : Int32)) % (22 : Int32)) w_EQUALS w_NOT_EQUALS w_GREATER_THAN w_LESS_THAN w_GREATER_THAN_OR_EQUAL w_LESS_THAN_OR_EQUAL w_BETWEEN w_NOT_BETWEEN w_IN w_NOT_IN w_STARTING_WITH w_NOT_STARTING_WITH w_ENDING_WITH w_NOT_ENDING_WITH w_CONTAINING w_NOT_CONTAINING w_LIKE w_NOT_LIKE w_IS_NULL w_IS_NOT_NULL w_TRUE w_FALSE)), .unset] [(.int (20 : Int32)), (.int ((p1 &&& (2147483647 : Int32)) % (22 : Int32)))])) t → Steps p.tables e below (s₁.setTop (entryFrame m #[(.int p1)] maxLocals)) t := fun t k => pre0 t (by
    show Steps p.tables e below (s₁.setTop (mkF m 0 #[.val (.int p1), .unset, .unset, .unset] [])) _
    refine XS.iloadN X0.here hx rfl (hb hby at_0) rfl ?_
    show Steps p.tables e below (s₁.setTop (mkF m 1 #[.val (.int p1), .unset, .unset, .unset] [(.int p1)])) _
    refine X0.ldcInt hx hown (mvT hZ (kw0 hw)) (g := (mkF m 1 #[.val (.int p1), .unset, .unset, .unset] [(.int p1)])) rfl (hb hby at_1) _ ?_
    show Steps p.tables e below (s₁.setTop (mkF m 3 #[.val (.int p1), .unset, .unset, .unset] [(.int (2147483647 : Int32)), (.int p1)])) _
    refine XS.iand X0.here hx rfl (hb hby at_3) rfl ?_
    show Steps p.tables e below (s₁.setTop (mkF m 4 #[.val (.int p1), .unset, .unset, .unset] [(.int (p1 &&& (2147483647 : Int32)))])) _
    refine XS.bipush X0.here hx rfl (hb hby at_4) ?_
    show Steps p.tables e below (s₁.setTop (mkF m 6 #[.val (.int p1), .unset, .unset, .unset] [(.int (22 : Int32)), (.int (p1 &&& (2147483647 : Int32)))])) _
    refine iremM X0 hx rfl (hb hby at_6) rfl (by decide) ?_
    show Steps p.tables e below (s₁.setTop (mkF m 7 #[.val (.int p1), .unset, .unset, .unset] [(.int ((p1 &&& (2147483647 : Int32)) % (22 : Int32)))])) _
    refine XS.istoreN X0.here hx rfl (hb hby at_7) rfl (l' := #[.val (.int p1), .val (.int ((p1 &&& (2147483647 : Int32)) % (22 : Int32))), .unset, .unset]) rfl ?_
    show Steps p.tables e below (s₁.setTop (mkF m 8 #[.val (.int p1), .val (.int ((p1 &&& (2147483647 : Int32)) % (22 : Int32))), .unset, .unset] [])) _
    refine XS.iloadN X0.here hx rfl (hb hby at_8) rfl ?_
    show Steps p.tables e below (s₁.setTop (mkF m 9 #[.val (.int p1), .val (.int ((p1 &&& (2147483647 : Int32)) % (22 : Int32))), .unset, .unset] [(.int ((p1 &&& (2147483647 : Int32)) % (22 : Int32)))])) _
    refine st1 _ ?_
    show Steps p.tables e below (T1.setTop (mkF m 12 #[.val (.int p1), .val (.int ((p1 &&& (2147483647 : Int32)) % (22 : Int32))), .unset, .unset] [(.ref (own_pick ((p1 &&& (2147483647 : Int32)) % (22 : Int32)) w_EQUALS w_NOT_EQUALS w_GREATER_THAN w_LESS_THAN w_GREATER_THAN_OR_EQUAL w_LESS_THAN_OR_EQUAL w_BETWEEN w_NOT_BETWEEN w_IN w_NOT_IN w_STARTING_WITH w_NOT_STARTING_WITH w_ENDING_WITH w_NOT_ENDING_WITH w_CONTAINING w_NOT_CONTAINING w_LIKE w_NOT_LIKE w_IS_NULL w_IS_NOT_NULL w_TRUE w_FALSE))])) _
    refine XS.astoreN X1.here hx rfl (hb hby at_12) rfl rfl (l' := #[.val (.int p1), .val (.int ((p1 &&& (2147483647 : Int32)) % (22 : Int32))), .val (.ref (own_pick ((p1 &&& (2147483647 : Int32)) % (22 : Int32)) w_EQUALS w_NOT_EQUALS w_GREATER_THAN w_LESS_THAN w_GREATER_THAN_OR_EQUAL w_LESS_THAN_OR_EQUAL w_BETWEEN w_NOT_BETWEEN w_IN w_NOT_IN w_STARTING_WITH w_NOT_STARTING_WITH w_ENDING_WITH w_NOT_ENDING_WITH w_CONTAINING w_NOT_CONTAINING w_LIKE w_NOT_LIKE w_IS_NULL w_IS_NOT_NULL w_TRUE w_FALSE)), .unset]) rfl ?_
    show Steps p.tables e below (T1.setTop (mkF m 13 #[.val (.int p1), .val (.int ((p1 &&& (2147483647 : Int32)) % (22 : Int32))), .val (.ref (own_pick ((p1 &&& (2147483647 : Int32)) % (22 : Int32)) w_EQUALS w_NOT_EQUALS w_GREATER_THAN w_LESS_THAN w_GREATER_THAN_OR_EQUAL w_LESS_THAN_OR_EQUAL w_BETWEEN w_NOT_BETWEEN w_IN w_NOT_IN w_STARTING_WITH w_NOT_STARTING_WITH w_ENDING_WITH w_NOT_ENDING_WITH w_CONTAINING w_NOT_CONTAINING w_LIKE w_NOT_LIKE w_IS_NULL w_IS_NOT_NULL w_TRUE w_FALSE)), .unset] [])) _
    refine XS.iloadN X1.here hx rfl (hb hby at_13) rfl ?_
    show Steps p.tables e below (T1.setTop (mkF m 14 #[.val (.int p1), .val (.int ((p1 &&& (2147483647 : Int32)) % (22 : Int32))), .val (.ref (own_pick ((p1 &&& (2147483647 : Int32)) % (22 : Int32)) w_EQUALS w_NOT_EQUALS w_GREATER_THAN w_LESS_THAN w_GREATER_THAN_OR_EQUAL w_LESS_THAN_OR_EQUAL w_BETWEEN w_NOT_BETWEEN w_IN w_NOT_IN w_STARTING_WITH w_NOT_STARTING_WITH w_ENDING_WITH w_NOT_ENDING_WITH w_CONTAINING w_NOT_CONTAINING w_LIKE w_NOT_LIKE w_IS_NULL w_IS_NOT_NULL w_TRUE w_FALSE)), .unset] [(.int ((p1 &&& (2147483647 : Int32)) % (22 : Int32)))])) _
    refine XS.bipush X1.here hx rfl (hb hby at_14) ?_
    show Steps p.tables e below (T1.setTop (mkF m 16 #[.val (.int p1), .val (.int ((p1 &&& (2147483647 : Int32)) % (22 : Int32))), .val (.ref (own_pick ((p1 &&& (2147483647 : Int32)) % (22 : Int32)) w_EQUALS w_NOT_EQUALS w_GREATER_THAN w_LESS_THAN w_GREATER_THAN_OR_EQUAL w_LESS_THAN_OR_EQUAL w_BETWEEN w_NOT_BETWEEN w_IN w_NOT_IN w_STARTING_WITH w_NOT_STARTING_WITH w_ENDING_WITH w_NOT_ENDING_WITH w_CONTAINING w_NOT_CONTAINING w_LIKE w_NOT_LIKE w_IS_NULL w_IS_NOT_NULL w_TRUE w_FALSE)), .unset] [(.int (20 : Int32)), (.int ((p1 &&& (2147483647 : Int32)) % (22 : Int32)))])) _
    exact k)
  have pre5 : ∀ t, Steps p.tables e below (T1.setTop (mkF m 30 #[.val (.int p1), .val (.int ((p1 &&& (2147483647 : Int32)) % (22 : Int32))), .val (.ref (own_pick ((p1 &&& (2147483647 : Int32)) % (22 : Int32)) w_EQUALS w_NOT_EQUALS w_GREATER_THAN w_LESS_THAN w_GREATER_THAN_OR_EQUAL w_LESS_THAN_OR_EQUAL w_BETWEEN w_NOT_BETWEEN w_IN w_NOT_IN w_STARTING_WITH w_NOT_STARTING_WITH w_ENDING_WITH w_NOT_ENDING_WITH w_CONTAINING w_NOT_CONTAINING w_LIKE w_NOT_LIKE w_IS_NULL w_IS_NOT_NULL w_TRUE w_FALSE)), .unset] [(.int (if ((p1 &&& (2147483647 : Int32)) % (22 : Int32)) = (20 : Int32) then (1 : Int32) else (if ((p1 &&& (2147483647 : Int32)) % (22 : Int32)) = (21 : Int32) then (1 : Int32) else (0 : Int32))))])) t → Steps p.tables e below (s₁.setTop (entryFrame m #[(.int p1)] maxLocals)) t := fun t k => pre2 t (by
    by_cases hc3 : ((p1 &&& (2147483647 : Int32)) % (22 : Int32)) = (20 : Int32)
    · skip
      refine XS.icmpYes X1.here hx rfl (pc0 := 16) (pc' := 25) rfl (hb hby at_16) rfl (teq hc3).1 (by decide) (by decide) ?_
      show Steps p.tables e below (T1.setTop (mkF m 25 #[.val (.int p1), .val (.int ((p1 &&& (2147483647 : Int32)) % (22 : Int32))), .val (.ref (own_pick ((p1 &&& (2147483647 : Int32)) % (22 : Int32)) w_EQUALS w_NOT_EQUALS w_GREATER_THAN w_LESS_THAN w_GREATER_THAN_OR_EQUAL w_LESS_THAN_OR_EQUAL w_BETWEEN w_NOT_BETWEEN w_IN w_NOT_IN w_STARTING_WITH w_NOT_STARTING_WITH w_ENDING_WITH w_NOT_ENDING_WITH w_CONTAINING w_NOT_CONTAINING w_LIKE w_NOT_LIKE w_IS_NULL w_IS_NOT_NULL w_TRUE w_FALSE)), .unset] [])) _
      refine XS.iconst X1.here hx rfl (hb hby at_25) ?_
      show Steps p.tables e below (T1.setTop (mkF m 26 #[.val (.int p1), .val (.int ((p1 &&& (2147483647 : Int32)) % (22 : Int32))), .val (.ref (own_pick ((p1 &&& (2147483647 : Int32)) % (22 : Int32)) w_EQUALS w_NOT_EQUALS w_GREATER_THAN w_LESS_THAN w_GREATER_THAN_OR_EQUAL w_LESS_THAN_OR_EQUAL w_BETWEEN w_NOT_BETWEEN w_IN w_NOT_IN w_STARTING_WITH w_NOT_STARTING_WITH w_ENDING_WITH w_NOT_ENDING_WITH w_CONTAINING w_NOT_CONTAINING w_LIKE w_NOT_LIKE w_IS_NULL w_IS_NOT_NULL w_TRUE w_FALSE)), .unset] [(.int (1 : Int32))])) _
      refine XS.goto X1.here hx rfl (pc0 := 26) (pc' := 30) rfl (hb hby at_26) (by decide) (by decide) ?_
      show Steps p.tables e below (T1.setTop (mkF m 30 #[.val (.int p1), .val (.int ((p1 &&& (2147483647 : Int32)) % (22 : Int32))), .val (.ref (own_pick ((p1 &&& (2147483647 : Int32)) % (22 : Int32)) w_EQUALS w_NOT_EQUALS w_GREATER_THAN w_LESS_THAN w_GREATER_THAN_OR_EQUAL w_LESS_THAN_OR_EQUAL w_BETWEEN w_NOT_BETWEEN w_IN w_NOT_IN w_STARTING_WITH w_NOT_STARTING_WITH w_ENDING_WITH w_NOT_ENDING_WITH w_CONTAINING w_NOT_CONTAINING w_LIKE w_NOT_LIKE w_IS_NULL w_IS_NOT_NULL w_TRUE w_FALSE)), .unset] [(.int (1 : Int32))])) _
      simp only [if_pos hc3] at k; exact k
    · skip
      refine XS.icmpNo X1.here hx rfl (hb hby at_16) rfl (feq hc3).1 ?_
      show Steps p.tables e below (T1.setTop (mkF m 19 #[.val (.int p1), .val (.int ((p1 &&& (2147483647 : Int32)) % (22 : Int32))), .val (.ref (own_pick ((p1 &&& (2147483647 : Int32)) % (22 : Int32)) w_EQUALS w_NOT_EQUALS w_GREATER_THAN w_LESS_THAN w_GREATER_THAN_OR_EQUAL w_LESS_THAN_OR_EQUAL w_BETWEEN w_NOT_BETWEEN w_IN w_NOT_IN w_STARTING_WITH w_NOT_STARTING_WITH w_ENDING_WITH w_NOT_ENDING_WITH w_CONTAINING w_NOT_CONTAINING w_LIKE w_NOT_LIKE w_IS_NULL w_IS_NOT_NULL w_TRUE w_FALSE)), .unset] [])) _
      refine XS.iloadN X1.here hx rfl (hb hby at_19) rfl ?_
      show Steps p.tables e below (T1.setTop (mkF m 20 #[.val (.int p1), .val (.int ((p1 &&& (2147483647 : Int32)) % (22 : Int32))), .val (.ref (own_pick ((p1 &&& (2147483647 : Int32)) % (22 : Int32)) w_EQUALS w_NOT_EQUALS w_GREATER_THAN w_LESS_THAN w_GREATER_THAN_OR_EQUAL w_LESS_THAN_OR_EQUAL w_BETWEEN w_NOT_BETWEEN w_IN w_NOT_IN w_STARTING_WITH w_NOT_STARTING_WITH w_ENDING_WITH w_NOT_ENDING_WITH w_CONTAINING w_NOT_CONTAINING w_LIKE w_NOT_LIKE w_IS_NULL w_IS_NOT_NULL w_TRUE w_FALSE)), .unset] [(.int ((p1 &&& (2147483647 : Int32)) % (22 : Int32)))])) _
      refine XS.bipush X1.here hx rfl (hb hby at_20) ?_
      show Steps p.tables e below (T1.setTop (mkF m 22 #[.val (.int p1), .val (.int ((p1 &&& (2147483647 : Int32)) % (22 : Int32))), .val (.ref (own_pick ((p1 &&& (2147483647 : Int32)) % (22 : Int32)) w_EQUALS w_NOT_EQUALS w_GREATER_THAN w_LESS_THAN w_GREATER_THAN_OR_EQUAL w_LESS_THAN_OR_EQUAL w_BETWEEN w_NOT_BETWEEN w_IN w_NOT_IN w_STARTING_WITH w_NOT_STARTING_WITH w_ENDING_WITH w_NOT_ENDING_WITH w_CONTAINING w_NOT_CONTAINING w_LIKE w_NOT_LIKE w_IS_NULL w_IS_NOT_NULL w_TRUE w_FALSE)), .unset] [(.int (21 : Int32)), (.int ((p1 &&& (2147483647 : Int32)) % (22 : Int32)))])) _
      by_cases hc4 : ((p1 &&& (2147483647 : Int32)) % (22 : Int32)) = (21 : Int32)
      · skip
        refine XS.icmpNo X1.here hx rfl (hb hby at_22) rfl (teq hc4).2 ?_
        show Steps p.tables e below (T1.setTop (mkF m 25 #[.val (.int p1), .val (.int ((p1 &&& (2147483647 : Int32)) % (22 : Int32))), .val (.ref (own_pick ((p1 &&& (2147483647 : Int32)) % (22 : Int32)) w_EQUALS w_NOT_EQUALS w_GREATER_THAN w_LESS_THAN w_GREATER_THAN_OR_EQUAL w_LESS_THAN_OR_EQUAL w_BETWEEN w_NOT_BETWEEN w_IN w_NOT_IN w_STARTING_WITH w_NOT_STARTING_WITH w_ENDING_WITH w_NOT_ENDING_WITH w_CONTAINING w_NOT_CONTAINING w_LIKE w_NOT_LIKE w_IS_NULL w_IS_NOT_NULL w_TRUE w_FALSE)), .unset] [])) _
        refine XS.iconst X1.here hx rfl (hb hby at_25) ?_
        show Steps p.tables e below (T1.setTop (mkF m 26 #[.val (.int p1), .val (.int ((p1 &&& (2147483647 : Int32)) % (22 : Int32))), .val (.ref (own_pick ((p1 &&& (2147483647 : Int32)) % (22 : Int32)) w_EQUALS w_NOT_EQUALS w_GREATER_THAN w_LESS_THAN w_GREATER_THAN_OR_EQUAL w_LESS_THAN_OR_EQUAL w_BETWEEN w_NOT_BETWEEN w_IN w_NOT_IN w_STARTING_WITH w_NOT_STARTING_WITH w_ENDING_WITH w_NOT_ENDING_WITH w_CONTAINING w_NOT_CONTAINING w_LIKE w_NOT_LIKE w_IS_NULL w_IS_NOT_NULL w_TRUE w_FALSE)), .unset] [(.int (1 : Int32))])) _
        refine XS.goto X1.here hx rfl (pc0 := 26) (pc' := 30) rfl (hb hby at_26) (by decide) (by decide) ?_
        show Steps p.tables e below (T1.setTop (mkF m 30 #[.val (.int p1), .val (.int ((p1 &&& (2147483647 : Int32)) % (22 : Int32))), .val (.ref (own_pick ((p1 &&& (2147483647 : Int32)) % (22 : Int32)) w_EQUALS w_NOT_EQUALS w_GREATER_THAN w_LESS_THAN w_GREATER_THAN_OR_EQUAL w_LESS_THAN_OR_EQUAL w_BETWEEN w_NOT_BETWEEN w_IN w_NOT_IN w_STARTING_WITH w_NOT_STARTING_WITH w_ENDING_WITH w_NOT_ENDING_WITH w_CONTAINING w_NOT_CONTAINING w_LIKE w_NOT_LIKE w_IS_NULL w_IS_NOT_NULL w_TRUE w_FALSE)), .unset] [(.int (1 : Int32))])) _
        simp only [if_neg hc3, if_pos hc4] at k; exact k
      · skip
        refine XS.icmpYes X1.here hx rfl (pc0 := 22) (pc' := 29) rfl (hb hby at_22) rfl (feq hc4).2 (by decide) (by decide) ?_
        show Steps p.tables e below (T1.setTop (mkF m 29 #[.val (.int p1), .val (.int ((p1 &&& (2147483647 : Int32)) % (22 : Int32))), .val (.ref (own_pick ((p1 &&& (2147483647 : Int32)) % (22 : Int32)) w_EQUALS w_NOT_EQUALS w_GREATER_THAN w_LESS_THAN w_GREATER_THAN_OR_EQUAL w_LESS_THAN_OR_EQUAL w_BETWEEN w_NOT_BETWEEN w_IN w_NOT_IN w_STARTING_WITH w_NOT_STARTING_WITH w_ENDING_WITH w_NOT_ENDING_WITH w_CONTAINING w_NOT_CONTAINING w_LIKE w_NOT_LIKE w_IS_NULL w_IS_NOT_NULL w_TRUE w_FALSE)), .unset] [])) _
        refine XS.iconst X1.here hx rfl (hb hby at_29) ?_
        show Steps p.tables e below (T1.setTop (mkF m 30 #[.val (.int p1), .val (.int ((p1 &&& (2147483647 : Int32)) % (22 : Int32))), .val (.ref (own_pick ((p1 &&& (2147483647 : Int32)) % (22 : Int32)) w_EQUALS w_NOT_EQUALS w_GREATER_THAN w_LESS_THAN w_GREATER_THAN_OR_EQUAL w_LESS_THAN_OR_EQUAL w_BETWEEN w_NOT_BETWEEN w_IN w_NOT_IN w_STARTING_WITH w_NOT_STARTING_WITH w_ENDING_WITH w_NOT_ENDING_WITH w_CONTAINING w_NOT_CONTAINING w_LIKE w_NOT_LIKE w_IS_NULL w_IS_NOT_NULL w_TRUE w_FALSE)), .unset] [(.int (0 : Int32))])) _
        simp only [if_neg hc3, if_neg hc4] at k; exact k)
  obtain ⟨cq6, kq6, q6a, q6b, q6c⟩ := isOf hZ e1 Ep
  obtain ⟨_, _, ⟨T6, L6, k6, n6⟩, -, X6, ⟨Lc6, hQ6, l6, y6, z6⟩, st6⟩ := X1.virtualBack hx (y := (⟨"com/example/libfinder/libfinder/query/internal/Query$Operator", "testsTruth", "()Z"⟩ : MethodName)) (z := (⟨"com/example/libfinder/libfinder/query/internal/Query$Operator", "testsTruth", "()Z"⟩ : MethodName)) hown (mvT hZ (kw8 hw)) (mvT hZ (kw9 hw)) (notFace_of_selects (args := #[]) (mvT hZ (kw11 hw))) (mvT hZ (kw11 hw)) (mvT hZ (kw10 hw)) (by decide) (backOf (W := 0) (rm2 l Z a0 hw [] (own_pick ((p1 &&& (2147483647 : Int32)) % (22 : Int32)) w_EQUALS w_NOT_EQUALS w_GREATER_THAN w_LESS_THAN w_GREATER_THAN_OR_EQUAL w_LESS_THAN_OR_EQUAL w_BETWEEN w_NOT_BETWEEN w_IN w_NOT_IN w_STARTING_WITH w_NOT_STARTING_WITH w_ENDING_WITH w_NOT_ENDING_WITH w_CONTAINING w_NOT_CONTAINING w_LIKE w_NOT_LIKE w_IS_NULL w_IS_NOT_NULL w_TRUE w_FALSE) w_TRUE w_FALSE h0 n0 Z0 P0 P21 P22) hZ (kw12 hw) (kw6 hw) (by decide) (by decide)) q6a q6c (g := (mkF m 32 #[.val (.int p1), .val (.int ((p1 &&& (2147483647 : Int32)) % (22 : Int32))), .val (.ref (own_pick ((p1 &&& (2147483647 : Int32)) % (22 : Int32)) w_EQUALS w_NOT_EQUALS w_GREATER_THAN w_LESS_THAN w_GREATER_THAN_OR_EQUAL w_LESS_THAN_OR_EQUAL w_BETWEEN w_NOT_BETWEEN w_IN w_NOT_IN w_STARTING_WITH w_NOT_STARTING_WITH w_ENDING_WITH w_NOT_ENDING_WITH w_CONTAINING w_NOT_CONTAINING w_LIKE w_NOT_LIKE w_IS_NULL w_IS_NOT_NULL w_TRUE w_FALSE)), .val (.int (if ((p1 &&& (2147483647 : Int32)) % (22 : Int32)) = (20 : Int32) then (1 : Int32) else (if ((p1 &&& (2147483647 : Int32)) % (22 : Int32)) = (21 : Int32) then (1 : Int32) else (0 : Int32))))] [(.ref (own_pick ((p1 &&& (2147483647 : Int32)) % (22 : Int32)) w_EQUALS w_NOT_EQUALS w_GREATER_THAN w_LESS_THAN w_GREATER_THAN_OR_EQUAL w_LESS_THAN_OR_EQUAL w_BETWEEN w_NOT_BETWEEN w_IN w_NOT_IN w_STARTING_WITH w_NOT_STARTING_WITH w_ENDING_WITH w_NOT_ENDING_WITH w_CONTAINING w_NOT_CONTAINING w_LIKE w_NOT_LIKE w_IS_NULL w_IS_NOT_NULL w_TRUE w_FALSE))])) rfl (by rw [hml]; rfl) (Steps.refl _) (argsL := []) (rest := []) (lenOf pd_1 rfl) rfl (by show 2 * 0 + _ ≤ _; exact Nat.le_of_eq rfl) (hb hby at_32) (fun _ _ => ⟨rfl, e1, (by decide : 0 + 0 ≤ _), (by decide : 0 + 0 ≤ _)⟩)
  dsimp only [Pt.U, Pt.locs, Pt.cells, Pt.slots] at X6 l6 y6 z6 st6 hQ6
  subst l6 y6 z6
  obtain ⟨rfl, N6q, e6⟩ := hQ6
  have N6 := Fr.app N1 N6q
  obtain ⟨fs, hr, hrun, hended, hW, hsame⟩ := X6.leave (v := some (.int (1 : Int32))) (fun h => by rw [Bd.returns] at h; cases h)
  refine ⟨_, _, pre5 _ ?_, hrun, hended, _, _, rfl, ?_, ⟨_, rfl⟩, hW, hsame.mono (by decide) (by decide)⟩
  · skip
    show Steps p.tables e below (T1.setTop (mkF m 30 #[.val (.int p1), .val (.int ((p1 &&& (2147483647 : Int32)) % (22 : Int32))), .val (.ref (own_pick ((p1 &&& (2147483647 : Int32)) % (22 : Int32)) w_EQUALS w_NOT_EQUALS w_GREATER_THAN w_LESS_THAN w_GREATER_THAN_OR_EQUAL w_LESS_THAN_OR_EQUAL w_BETWEEN w_NOT_BETWEEN w_IN w_NOT_IN w_STARTING_WITH w_NOT_STARTING_WITH w_ENDING_WITH w_NOT_ENDING_WITH w_CONTAINING w_NOT_CONTAINING w_LIKE w_NOT_LIKE w_IS_NULL w_IS_NOT_NULL w_TRUE w_FALSE)), .unset] [(.int (if ((p1 &&& (2147483647 : Int32)) % (22 : Int32)) = (20 : Int32) then (1 : Int32) else (if ((p1 &&& (2147483647 : Int32)) % (22 : Int32)) = (21 : Int32) then (1 : Int32) else (0 : Int32))))])) _
    refine XS.istoreN X1.here hx rfl (hb hby at_30) rfl (l' := #[.val (.int p1), .val (.int ((p1 &&& (2147483647 : Int32)) % (22 : Int32))), .val (.ref (own_pick ((p1 &&& (2147483647 : Int32)) % (22 : Int32)) w_EQUALS w_NOT_EQUALS w_GREATER_THAN w_LESS_THAN w_GREATER_THAN_OR_EQUAL w_LESS_THAN_OR_EQUAL w_BETWEEN w_NOT_BETWEEN w_IN w_NOT_IN w_STARTING_WITH w_NOT_STARTING_WITH w_ENDING_WITH w_NOT_ENDING_WITH w_CONTAINING w_NOT_CONTAINING w_LIKE w_NOT_LIKE w_IS_NULL w_IS_NOT_NULL w_TRUE w_FALSE)), .val (.int (if ((p1 &&& (2147483647 : Int32)) % (22 : Int32)) = (20 : Int32) then (1 : Int32) else (if ((p1 &&& (2147483647 : Int32)) % (22 : Int32)) = (21 : Int32) then (1 : Int32) else (0 : Int32))))]) rfl ?_
    show Steps p.tables e below (T1.setTop (mkF m 31 #[.val (.int p1), .val (.int ((p1 &&& (2147483647 : Int32)) % (22 : Int32))), .val (.ref (own_pick ((p1 &&& (2147483647 : Int32)) % (22 : Int32)) w_EQUALS w_NOT_EQUALS w_GREATER_THAN w_LESS_THAN w_GREATER_THAN_OR_EQUAL w_LESS_THAN_OR_EQUAL w_BETWEEN w_NOT_BETWEEN w_IN w_NOT_IN w_STARTING_WITH w_NOT_STARTING_WITH w_ENDING_WITH w_NOT_ENDING_WITH w_CONTAINING w_NOT_CONTAINING w_LIKE w_NOT_LIKE w_IS_NULL w_IS_NOT_NULL w_TRUE w_FALSE)), .val (.int (if ((p1 &&& (2147483647 : Int32)) % (22 : Int32)) = (20 : Int32) then (1 : Int32) else (if ((p1 &&& (2147483647 : Int32)) % (22 : Int32)) = (21 : Int32) then (1 : Int32) else (0 : Int32))))] [])) _
    refine XS.aloadN X1.here hx rfl (hb hby at_31) rfl rfl ?_
    show Steps p.tables e below (T1.setTop (mkF m 32 #[.val (.int p1), .val (.int ((p1 &&& (2147483647 : Int32)) % (22 : Int32))), .val (.ref (own_pick ((p1 &&& (2147483647 : Int32)) % (22 : Int32)) w_EQUALS w_NOT_EQUALS w_GREATER_THAN w_LESS_THAN w_GREATER_THAN_OR_EQUAL w_LESS_THAN_OR_EQUAL w_BETWEEN w_NOT_BETWEEN w_IN w_NOT_IN w_STARTING_WITH w_NOT_STARTING_WITH w_ENDING_WITH w_NOT_ENDING_WITH w_CONTAINING w_NOT_CONTAINING w_LIKE w_NOT_LIKE w_IS_NULL w_IS_NOT_NULL w_TRUE w_FALSE)), .val (.int (if ((p1 &&& (2147483647 : Int32)) % (22 : Int32)) = (20 : Int32) then (1 : Int32) else (if ((p1 &&& (2147483647 : Int32)) % (22 : Int32)) = (21 : Int32) then (1 : Int32) else (0 : Int32))))] [(.ref (own_pick ((p1 &&& (2147483647 : Int32)) % (22 : Int32)) w_EQUALS w_NOT_EQUALS w_GREATER_THAN w_LESS_THAN w_GREATER_THAN_OR_EQUAL w_LESS_THAN_OR_EQUAL w_BETWEEN w_NOT_BETWEEN w_IN w_NOT_IN w_STARTING_WITH w_NOT_STARTING_WITH w_ENDING_WITH w_NOT_ENDING_WITH w_CONTAINING w_NOT_CONTAINING w_LIKE w_NOT_LIKE w_IS_NULL w_IS_NOT_NULL w_TRUE w_FALSE))])) _
    refine st6.trans ?_
    show Steps p.tables e below (T6.setTop (mkF m 35 #[.val (.int p1), .val (.int ((p1 &&& (2147483647 : Int32)) % (22 : Int32))), .val (.ref (own_pick ((p1 &&& (2147483647 : Int32)) % (22 : Int32)) w_EQUALS w_NOT_EQUALS w_GREATER_THAN w_LESS_THAN w_GREATER_THAN_OR_EQUAL w_LESS_THAN_OR_EQUAL w_BETWEEN w_NOT_BETWEEN w_IN w_NOT_IN w_STARTING_WITH w_NOT_STARTING_WITH w_ENDING_WITH w_NOT_ENDING_WITH w_CONTAINING w_NOT_CONTAINING w_LIKE w_NOT_LIKE w_IS_NULL w_IS_NOT_NULL w_TRUE w_FALSE)), .val (.int (if ((p1 &&& (2147483647 : Int32)) % (22 : Int32)) = (20 : Int32) then (1 : Int32) else (if ((p1 &&& (2147483647 : Int32)) % (22 : Int32)) = (21 : Int32) then (1 : Int32) else (0 : Int32))))] [(.int (own_q (own_pick ((p1 &&& (2147483647 : Int32)) % (22 : Int32)) w_EQUALS w_NOT_EQUALS w_GREATER_THAN w_LESS_THAN w_GREATER_THAN_OR_EQUAL w_LESS_THAN_OR_EQUAL w_BETWEEN w_NOT_BETWEEN w_IN w_NOT_IN w_STARTING_WITH w_NOT_STARTING_WITH w_ENDING_WITH w_NOT_ENDING_WITH w_CONTAINING w_NOT_CONTAINING w_LIKE w_NOT_LIKE w_IS_NULL w_IS_NOT_NULL w_TRUE w_FALSE) w_TRUE w_FALSE))])) _
    refine XS.iloadN X6.here hx rfl (hb hby at_35) rfl ?_
    show Steps p.tables e below (T6.setTop (mkF m 36 #[.val (.int p1), .val (.int ((p1 &&& (2147483647 : Int32)) % (22 : Int32))), .val (.ref (own_pick ((p1 &&& (2147483647 : Int32)) % (22 : Int32)) w_EQUALS w_NOT_EQUALS w_GREATER_THAN w_LESS_THAN w_GREATER_THAN_OR_EQUAL w_LESS_THAN_OR_EQUAL w_BETWEEN w_NOT_BETWEEN w_IN w_NOT_IN w_STARTING_WITH w_NOT_STARTING_WITH w_ENDING_WITH w_NOT_ENDING_WITH w_CONTAINING w_NOT_CONTAINING w_LIKE w_NOT_LIKE w_IS_NULL w_IS_NOT_NULL w_TRUE w_FALSE)), .val (.int (if ((p1 &&& (2147483647 : Int32)) % (22 : Int32)) = (20 : Int32) then (1 : Int32) else (if ((p1 &&& (2147483647 : Int32)) % (22 : Int32)) = (21 : Int32) then (1 : Int32) else (0 : Int32))))] [(.int (if ((p1 &&& (2147483647 : Int32)) % (22 : Int32)) = (20 : Int32) then (1 : Int32) else (if ((p1 &&& (2147483647 : Int32)) % (22 : Int32)) = (21 : Int32) then (1 : Int32) else (0 : Int32)))), (.int (own_q (own_pick ((p1 &&& (2147483647 : Int32)) % (22 : Int32)) w_EQUALS w_NOT_EQUALS w_GREATER_THAN w_LESS_THAN w_GREATER_THAN_OR_EQUAL w_LESS_THAN_OR_EQUAL w_BETWEEN w_NOT_BETWEEN w_IN w_NOT_IN w_STARTING_WITH w_NOT_STARTING_WITH w_ENDING_WITH w_NOT_ENDING_WITH w_CONTAINING w_NOT_CONTAINING w_LIKE w_NOT_LIKE w_IS_NULL w_IS_NOT_NULL w_TRUE w_FALSE) w_TRUE w_FALSE))])) _
    refine XS.icmpNo X6.here hx rfl (hb hby at_36) rfl (teq (own_law (own_rem p1 22 (by decide)) P45 P46 P47 P48 P49 P50 P51 P52 P53 P54 P55 P56 P57 P58 P59 P60 P61 P62 P63 P64 P65 P66)).2 ?_
    show Steps p.tables e below (T6.setTop (mkF m 39 #[.val (.int p1), .val (.int ((p1 &&& (2147483647 : Int32)) % (22 : Int32))), .val (.ref (own_pick ((p1 &&& (2147483647 : Int32)) % (22 : Int32)) w_EQUALS w_NOT_EQUALS w_GREATER_THAN w_LESS_THAN w_GREATER_THAN_OR_EQUAL w_LESS_THAN_OR_EQUAL w_BETWEEN w_NOT_BETWEEN w_IN w_NOT_IN w_STARTING_WITH w_NOT_STARTING_WITH w_ENDING_WITH w_NOT_ENDING_WITH w_CONTAINING w_NOT_CONTAINING w_LIKE w_NOT_LIKE w_IS_NULL w_IS_NOT_NULL w_TRUE w_FALSE)), .val (.int (if ((p1 &&& (2147483647 : Int32)) % (22 : Int32)) = (20 : Int32) then (1 : Int32) else (if ((p1 &&& (2147483647 : Int32)) % (22 : Int32)) = (21 : Int32) then (1 : Int32) else (0 : Int32))))] [])) _
    refine XS.iconst X6.here hx rfl (hb hby at_39) ?_
    show Steps p.tables e below (T6.setTop (mkF m 40 #[.val (.int p1), .val (.int ((p1 &&& (2147483647 : Int32)) % (22 : Int32))), .val (.ref (own_pick ((p1 &&& (2147483647 : Int32)) % (22 : Int32)) w_EQUALS w_NOT_EQUALS w_GREATER_THAN w_LESS_THAN w_GREATER_THAN_OR_EQUAL w_LESS_THAN_OR_EQUAL w_BETWEEN w_NOT_BETWEEN w_IN w_NOT_IN w_STARTING_WITH w_NOT_STARTING_WITH w_ENDING_WITH w_NOT_ENDING_WITH w_CONTAINING w_NOT_CONTAINING w_LIKE w_NOT_LIKE w_IS_NULL w_IS_NOT_NULL w_TRUE w_FALSE)), .val (.int (if ((p1 &&& (2147483647 : Int32)) % (22 : Int32)) = (20 : Int32) then (1 : Int32) else (if ((p1 &&& (2147483647 : Int32)) % (22 : Int32)) = (21 : Int32) then (1 : Int32) else (0 : Int32))))] [(.int (1 : Int32))])) _
    refine XS.goto X6.here hx rfl (pc0 := 40) (pc' := 44) rfl (hb hby at_40) (by decide) (by decide) ?_
    show Steps p.tables e below (T6.setTop (mkF m 44 #[.val (.int p1), .val (.int ((p1 &&& (2147483647 : Int32)) % (22 : Int32))), .val (.ref (own_pick ((p1 &&& (2147483647 : Int32)) % (22 : Int32)) w_EQUALS w_NOT_EQUALS w_GREATER_THAN w_LESS_THAN w_GREATER_THAN_OR_EQUAL w_LESS_THAN_OR_EQUAL w_BETWEEN w_NOT_BETWEEN w_IN w_NOT_IN w_STARTING_WITH w_NOT_STARTING_WITH w_ENDING_WITH w_NOT_ENDING_WITH w_CONTAINING w_NOT_CONTAINING w_LIKE w_NOT_LIKE w_IS_NULL w_IS_NOT_NULL w_TRUE w_FALSE)), .val (.int (if ((p1 &&& (2147483647 : Int32)) % (22 : Int32)) = (20 : Int32) then (1 : Int32) else (if ((p1 &&& (2147483647 : Int32)) % (22 : Int32)) = (21 : Int32) then (1 : Int32) else (0 : Int32))))] [(.int (1 : Int32))])) _
    exact retN X6 hx (t := .boolean) Bd.returns (by simp) (hb hby at_44) hr
  · show Q_rm0 Z p1 w_EQUALS w_NOT_EQUALS w_GREATER_THAN w_LESS_THAN w_GREATER_THAN_OR_EQUAL w_LESS_THAN_OR_EQUAL w_BETWEEN w_NOT_BETWEEN w_IN w_NOT_IN w_STARTING_WITH w_NOT_STARTING_WITH w_ENDING_WITH w_NOT_ENDING_WITH w_CONTAINING w_NOT_CONTAINING w_LIKE w_NOT_LIKE w_IS_NULL w_IS_NOT_NULL w_TRUE w_FALSE h0 n0 _ T6.heap _
    rw [e6]
    exact ⟨rfl, N6, rfl⟩
set_option maxRecDepth 65536 in
set_option maxHeartbeats 40000000 in
theorem comes_1 {Post : Tables → Env → Array Value → State → Outcome → State → Prop} (hpost : ∀ tb e args s v u, (limb_1_1.after args s (.returned v) u = true ∧ limb_1_2.after args s (.returned v) u = true ∧ True) → FrameEnd s (.returned v) u (Jvm.fieldLocs frame_1_writes args s ++ Jvm.arrayLocs frame_1_arrays args s ++ Jvm.staticLocs frame_1_statics s) 0 0 → Post tb e args s (.returned v) u) :
    ArmFor flags0 classFile x code maxLocals ret World_1 tables_1 room_1 Calls_1 rest_1 Pre_1 Post := by
  intro l hfl _ _ p e ha hc hk s m args below hf hA hF happ hP
  obtain ⟨hcalls, hrest, hpre⟩ := hP
  obtain ⟨-, -, -, hnamed, -, -, -, hat⟩ := (Spec.applies_iff hf).mp happ
  obtain ⟨hg, hn⟩ := and_e (Cond.before_iff.mp (show (Jvm.Cond.and given_1 narrow_1).before args s = true from hpre))
  obtain ⟨g1, g2⟩ := and_e hg
  obtain ⟨g3, g4⟩ := and_e hn
  obtain ⟨g5, g6⟩ := and_e g4
  obtain ⟨g7, g8⟩ := and_e g6
  obtain ⟨g9, g10⟩ := and_e g8
  obtain ⟨g11, g12⟩ := and_e g10
  obtain ⟨g13, g14⟩ := and_e g12
  obtain ⟨g15, g16⟩ := and_e g14
  obtain ⟨g17, g18⟩ := and_e g16
  obtain ⟨g19, g20⟩ := and_e g18
  obtain ⟨g21, g22⟩ := and_e g20
  obtain ⟨g23, g24⟩ := and_e g22
  obtain ⟨g25, g26⟩ := and_e g24
  obtain ⟨g27, g28⟩ := and_e g26
  obtain ⟨g29, g30⟩ := and_e g28
  obtain ⟨g31, g32⟩ := and_e g30
  obtain ⟨g33, g34⟩ := and_e g32
  obtain ⟨g35, g36⟩ := and_e g34
  obtain ⟨g37, g38⟩ := and_e g36
  obtain ⟨g39, g40⟩ := and_e g38
  obtain ⟨g41, g42⟩ := and_e g40
  obtain ⟨g43, g44⟩ := and_e g42
  obtain ⟨g45, g46⟩ := and_e g44
  obtain ⟨g47, g48⟩ := and_e g46
  obtain ⟨g49, g50⟩ := and_e g48
  obtain ⟨g51, g52⟩ := and_e g50
  obtain ⟨g53, g54⟩ := and_e g52
  obtain ⟨g55, g56⟩ := and_e g54
  obtain ⟨g57, g58⟩ := and_e g56
  obtain ⟨g59, g60⟩ := and_e g58
  obtain ⟨g61, g62⟩ := and_e g60
  obtain ⟨g63, g64⟩ := and_e g62
  obtain ⟨g65, g66⟩ := and_e g64
  obtain ⟨g67, g68⟩ := and_e g66
  obtain ⟨g69, g70⟩ := and_e g68
  obtain ⟨g71, g72⟩ := and_e g70
  obtain ⟨g73, g74⟩ := and_e g72
  obtain ⟨g75, g76⟩ := and_e g74
  obtain ⟨g77, g78⟩ := and_e g76
  obtain ⟨g79, g80⟩ := and_e g78
  obtain ⟨g81, g82⟩ := and_e g80
  obtain ⟨g83, g84⟩ := and_e g82
  obtain ⟨g85, g86⟩ := and_e g84
  obtain ⟨g87, g88⟩ := and_e g86
  obtain ⟨w0, rfl⟩ : ∃ w0 : Value, args = #[w0] := by
    have hs : args.size = 1 := by simpa [Cond.value, given_1] using g1
    obtain ⟨L⟩ := args
    match L, hs with
    | [w0], _ => exact ⟨w0, rfl⟩
  have hw0 := fun d (hd : d ∈ tables_1) => atoms_spec (ws := Jvm.Cond.code x code maxLocals ret :: tables_1) hat d (List.mem_cons_of_mem _ hd)
  have hfit : Fit s := fun {y c} hc i hi => by
    obtain ⟨ha, rfl⟩ := Array.getElem?_eq_some_iff.mp hc
    have q := List.all_eq_true.mp ((Array.all_eq_true_iff_forall_mem.mp hF) _ (Array.getElem_mem ha)) i (List.mem_range.mpr hi)
    simpa [Array.getElem?_eq_getElem hi] using q
  have hw := hw0
  obtain ⟨i0, ei0⟩ := is_v g2
  obtain rfl : w0 = (.int i0) := Option.some.inj ei0
  obtain ⟨w_EQUALS, ev_w_EQUALS⟩ := exa_v g3
  have S_w_EQUALS := Sta.start ev_w_EQUALS (Or.inr ⟨(kw6 hw), (kw7 hw)⟩)
  have Ex_w_EQUALS : Exa s s.heap w_EQUALS "com/example/libfinder/libfinder/query/internal/Query$Operator" := Exa.start ev_w_EQUALS g3
  obtain ⟨w_TRUE, ev_w_TRUE⟩ := exa_v g5
  have S_w_TRUE := Sta.start ev_w_TRUE (Or.inr ⟨(kw6 hw), (kw14 hw)⟩)
  have Ex_w_TRUE : Exa s s.heap w_TRUE "com/example/libfinder/libfinder/query/internal/Query$Operator" := Exa.start ev_w_TRUE g5
  obtain ⟨w_FALSE, ev_w_FALSE⟩ := exa_v g11
  have S_w_FALSE := Sta.start ev_w_FALSE (Or.inr ⟨(kw6 hw), (kw16 hw)⟩)
  have Ex_w_FALSE : Exa s s.heap w_FALSE "com/example/libfinder/libfinder/query/internal/Query$Operator" := Exa.start ev_w_FALSE g11
  obtain ⟨w_LESS_THAN, ev_w_LESS_THAN⟩ := exa_v g15
  have S_w_LESS_THAN := Sta.start ev_w_LESS_THAN (Or.inr ⟨(kw6 hw), (kw18 hw)⟩)
  have Ex_w_LESS_THAN : Exa s s.heap w_LESS_THAN "com/example/libfinder/libfinder/query/internal/Query$Operator" := Exa.start ev_w_LESS_THAN g15
  obtain ⟨w_NOT_BETWEEN, ev_w_NOT_BETWEEN⟩ := exa_v g19
  have S_w_NOT_BETWEEN := Sta.start ev_w_NOT_BETWEEN (Or.inr ⟨(kw6 hw), (kw20 hw)⟩)
  have Ex_w_NOT_BETWEEN : Exa s s.heap w_NOT_BETWEEN "com/example/libfinder/libfinder/query/internal/Query$Operator" := Exa.start ev_w_NOT_BETWEEN g19
  obtain ⟨w_IN, ev_w_IN⟩ := exa_v g23
  have S_w_IN := Sta.start ev_w_IN (Or.inr ⟨(kw6 hw), (kw22 hw)⟩)
  have Ex_w_IN : Exa s s.heap w_IN "com/example/libfinder/libfinder/query/internal/Query$Operator" := Exa.start ev_w_IN g23
  obtain ⟨w_GREATER_THAN, ev_w_GREATER_THAN⟩ := exa_v g27
  have S_w_GREATER_THAN := Sta.start ev_w_GREATER_THAN (Or.inr ⟨(kw6 hw), (kw24 hw)⟩)
  have Ex_w_GREATER_THAN : Exa s s.heap w_GREATER_THAN "com/example/libfinder/libfinder/query/internal/Query$Operator" := Exa.start ev_w_GREATER_THAN g27
  obtain ⟨w_NOT_STARTING_WITH, ev_w_NOT_STARTING_WITH⟩ := exa_v g31
  have S_w_NOT_STARTING_WITH := Sta.start ev_w_NOT_STARTING_WITH (Or.inr ⟨(kw6 hw), (kw26 hw)⟩)
  have Ex_w_NOT_STARTING_WITH : Exa s s.heap w_NOT_STARTING_WITH "com/example/libfinder/libfinder/query/internal/Query$Operator" := Exa.start ev_w_NOT_STARTING_WITH g31
  obtain ⟨w_STARTING_WITH, ev_w_STARTING_WITH⟩ := exa_v g35
  have S_w_STARTING_WITH := Sta.start ev_w_STARTING_WITH (Or.inr ⟨(kw6 hw), (kw28 hw)⟩)
  have Ex_w_STARTING_WITH : Exa s s.heap w_STARTING_WITH "com/example/libfinder/libfinder/query/internal/Query$Operator" := Exa.start ev_w_STARTING_WITH g35
  obtain ⟨w_NOT_EQUALS, ev_w_NOT_EQUALS⟩ := exa_v g39
  have S_w_NOT_EQUALS := Sta.start ev_w_NOT_EQUALS (Or.inr ⟨(kw6 hw), (kw30 hw)⟩)
  have Ex_w_NOT_EQUALS : Exa s s.heap w_NOT_EQUALS "com/example/libfinder/libfinder/query/internal/Query$Operator" := Exa.start ev_w_NOT_EQUALS g39
  obtain ⟨w_NOT_IN, ev_w_NOT_IN⟩ := exa_v g43
  have S_w_NOT_IN := Sta.start ev_w_NOT_IN (Or.inr ⟨(kw6 hw), (kw32 hw)⟩)
  have Ex_w_NOT_IN : Exa s s.heap w_NOT_IN "com/example/libfinder/libfinder/query/internal/Query$Operator" := Exa.start ev_w_NOT_IN g43
  obtain ⟨w_LESS_THAN_OR_EQUAL, ev_w_LESS_THAN_OR_EQUAL⟩ := exa_v g47
  have S_w_LESS_THAN_OR_EQUAL := Sta.start ev_w_LESS_THAN_OR_EQUAL (Or.inr ⟨(kw6 hw), (kw34 hw)⟩)
  have Ex_w_LESS_THAN_OR_EQUAL : Exa s s.heap w_LESS_THAN_OR_EQUAL "com/example/libfinder/libfinder/query/internal/Query$Operator" := Exa.start ev_w_LESS_THAN_OR_EQUAL g47
  obtain ⟨w_LIKE, ev_w_LIKE⟩ := exa_v g51
  have S_w_LIKE := Sta.start ev_w_LIKE (Or.inr ⟨(kw6 hw), (kw36 hw)⟩)
  have Ex_w_LIKE : Exa s s.heap w_LIKE "com/example/libfinder/libfinder/query/internal/Query$Operator" := Exa.start ev_w_LIKE g51
  obtain ⟨w_BETWEEN, ev_w_BETWEEN⟩ := exa_v g55
  have S_w_BETWEEN := Sta.start ev_w_BETWEEN (Or.inr ⟨(kw6 hw), (kw38 hw)⟩)
  have Ex_w_BETWEEN : Exa s s.heap w_BETWEEN "com/example/libfinder/libfinder/query/internal/Query$Operator" := Exa.start ev_w_BETWEEN g55
  obtain ⟨w_IS_NOT_NULL, ev_w_IS_NOT_NULL⟩ := exa_v g59
  have S_w_IS_NOT_NULL := Sta.start ev_w_IS_NOT_NULL (Or.inr ⟨(kw6 hw), (kw40 hw)⟩)
  have Ex_w_IS_NOT_NULL : Exa s s.heap w_IS_NOT_NULL "com/example/libfinder/libfinder/query/internal/Query$Operator" := Exa.start ev_w_IS_NOT_NULL g59
  obtain ⟨w_IS_NULL, ev_w_IS_NULL⟩ := exa_v g63
  have S_w_IS_NULL := Sta.start ev_w_IS_NULL (Or.inr ⟨(kw6 hw), (kw42 hw)⟩)
  have Ex_w_IS_NULL : Exa s s.heap w_IS_NULL "com/example/libfinder/libfinder/query/internal/Query$Operator" := Exa.start ev_w_IS_NULL g63
  obtain ⟨w_NOT_CONTAINING, ev_w_NOT_CONTAINING⟩ := exa_v g67
  have S_w_NOT_CONTAINING := Sta.start ev_w_NOT_CONTAINING (Or.inr ⟨(kw6 hw), (kw44 hw)⟩)
  have Ex_w_NOT_CONTAINING : Exa s s.heap w_NOT_CONTAINING "com/example/libfinder/libfinder/query/internal/Query$Operator" := Exa.start ev_w_NOT_CONTAINING g67
  obtain ⟨w_GREATER_THAN_OR_EQUAL, ev_w_GREATER_THAN_OR_EQUAL⟩ := exa_v g71
  have S_w_GREATER_THAN_OR_EQUAL := Sta.start ev_w_GREATER_THAN_OR_EQUAL (Or.inr ⟨(kw6 hw), (kw46 hw)⟩)
  have Ex_w_GREATER_THAN_OR_EQUAL : Exa s s.heap w_GREATER_THAN_OR_EQUAL "com/example/libfinder/libfinder/query/internal/Query$Operator" := Exa.start ev_w_GREATER_THAN_OR_EQUAL g71
  obtain ⟨w_CONTAINING, ev_w_CONTAINING⟩ := exa_v g75
  have S_w_CONTAINING := Sta.start ev_w_CONTAINING (Or.inr ⟨(kw6 hw), (kw49 hw)⟩)
  have Ex_w_CONTAINING : Exa s s.heap w_CONTAINING "com/example/libfinder/libfinder/query/internal/Query$Operator" := Exa.start ev_w_CONTAINING g75
  obtain ⟨w_ENDING_WITH, ev_w_ENDING_WITH⟩ := exa_v g79
  have S_w_ENDING_WITH := Sta.start ev_w_ENDING_WITH (Or.inr ⟨(kw6 hw), (kw51 hw)⟩)
  have Ex_w_ENDING_WITH : Exa s s.heap w_ENDING_WITH "com/example/libfinder/libfinder/query/internal/Query$Operator" := Exa.start ev_w_ENDING_WITH g79
  obtain ⟨w_NOT_ENDING_WITH, ev_w_NOT_ENDING_WITH⟩ := exa_v g83
  have S_w_NOT_ENDING_WITH := Sta.start ev_w_NOT_ENDING_WITH (Or.inr ⟨(kw6 hw), (kw53 hw)⟩)
  have Ex_w_NOT_ENDING_WITH : Exa s s.heap w_NOT_ENDING_WITH "com/example/libfinder/libfinder/query/internal/Query$Operator" := Exa.start ev_w_NOT_ENDING_WITH g83
  obtain ⟨w_NOT_LIKE, ev_w_NOT_LIKE⟩ := exa_v g87
  have S_w_NOT_LIKE := Sta.start ev_w_NOT_LIKE (Or.inr ⟨(kw6 hw), (kw55 hw)⟩)
  have Ex_w_NOT_LIKE : Exa s s.heap w_NOT_LIKE "com/example/libfinder/libfinder/query/internal/Query$Operator" := Exa.start ev_w_NOT_LIKE g87
  have Fo_w_EQUALS_ordinal : Fld s s.heap w_EQUALS "java/lang/Enum" "ordinal" "I" (.int (0 : Int32)) := own_fldInt ev_w_EQUALS g7
  have Fo_w_TRUE_ordinal : Fld s s.heap w_TRUE "java/lang/Enum" "ordinal" "I" (.int (20 : Int32)) := own_fldInt ev_w_TRUE g9
  have Fo_w_FALSE_ordinal : Fld s s.heap w_FALSE "java/lang/Enum" "ordinal" "I" (.int (21 : Int32)) := own_fldInt ev_w_FALSE g13
  have Fo_w_LESS_THAN_ordinal : Fld s s.heap w_LESS_THAN "java/lang/Enum" "ordinal" "I" (.int (3 : Int32)) := own_fldInt ev_w_LESS_THAN g17
  have Fo_w_NOT_BETWEEN_ordinal : Fld s s.heap w_NOT_BETWEEN "java/lang/Enum" "ordinal" "I" (.int (7 : Int32)) := own_fldInt ev_w_NOT_BETWEEN g21
  have Fo_w_IN_ordinal : Fld s s.heap w_IN "java/lang/Enum" "ordinal" "I" (.int (8 : Int32)) := own_fldInt ev_w_IN g25
  have Fo_w_GREATER_THAN_ordinal : Fld s s.heap w_GREATER_THAN "java/lang/Enum" "ordinal" "I" (.int (2 : Int32)) := own_fldInt ev_w_GREATER_THAN g29
  have Fo_w_NOT_STARTING_WITH_ordinal : Fld s s.heap w_NOT_STARTING_WITH "java/lang/Enum" "ordinal" "I" (.int (11 : Int32)) := own_fldInt ev_w_NOT_STARTING_WITH g33
  have Fo_w_STARTING_WITH_ordinal : Fld s s.heap w_STARTING_WITH "java/lang/Enum" "ordinal" "I" (.int (10 : Int32)) := own_fldInt ev_w_STARTING_WITH g37
  have Fo_w_NOT_EQUALS_ordinal : Fld s s.heap w_NOT_EQUALS "java/lang/Enum" "ordinal" "I" (.int (1 : Int32)) := own_fldInt ev_w_NOT_EQUALS g41
  have Fo_w_NOT_IN_ordinal : Fld s s.heap w_NOT_IN "java/lang/Enum" "ordinal" "I" (.int (9 : Int32)) := own_fldInt ev_w_NOT_IN g45
  have Fo_w_LESS_THAN_OR_EQUAL_ordinal : Fld s s.heap w_LESS_THAN_OR_EQUAL "java/lang/Enum" "ordinal" "I" (.int (5 : Int32)) := own_fldInt ev_w_LESS_THAN_OR_EQUAL g49
  have Fo_w_LIKE_ordinal : Fld s s.heap w_LIKE "java/lang/Enum" "ordinal" "I" (.int (16 : Int32)) := own_fldInt ev_w_LIKE g53
  have Fo_w_BETWEEN_ordinal : Fld s s.heap w_BETWEEN "java/lang/Enum" "ordinal" "I" (.int (6 : Int32)) := own_fldInt ev_w_BETWEEN g57
  have Fo_w_IS_NOT_NULL_ordinal : Fld s s.heap w_IS_NOT_NULL "java/lang/Enum" "ordinal" "I" (.int (19 : Int32)) := own_fldInt ev_w_IS_NOT_NULL g61
  have Fo_w_IS_NULL_ordinal : Fld s s.heap w_IS_NULL "java/lang/Enum" "ordinal" "I" (.int (18 : Int32)) := own_fldInt ev_w_IS_NULL g65
  have Fo_w_NOT_CONTAINING_ordinal : Fld s s.heap w_NOT_CONTAINING "java/lang/Enum" "ordinal" "I" (.int (15 : Int32)) := own_fldInt ev_w_NOT_CONTAINING g69
  have Fo_w_GREATER_THAN_OR_EQUAL_ordinal : Fld s s.heap w_GREATER_THAN_OR_EQUAL "java/lang/Enum" "ordinal" "I" (.int (4 : Int32)) := own_fldInt ev_w_GREATER_THAN_OR_EQUAL g73
  have Fo_w_CONTAINING_ordinal : Fld s s.heap w_CONTAINING "java/lang/Enum" "ordinal" "I" (.int (14 : Int32)) := own_fldInt ev_w_CONTAINING g77
  have Fo_w_ENDING_WITH_ordinal : Fld s s.heap w_ENDING_WITH "java/lang/Enum" "ordinal" "I" (.int (12 : Int32)) := own_fldInt ev_w_ENDING_WITH g81
  have Fo_w_NOT_ENDING_WITH_ordinal : Fld s s.heap w_NOT_ENDING_WITH "java/lang/Enum" "ordinal" "I" (.int (13 : Int32)) := own_fldInt ev_w_NOT_ENDING_WITH g85
  have Fo_w_NOT_LIKE_ordinal : Fld s s.heap w_NOT_LIKE "java/lang/Enum" "ordinal" "I" (.int (17 : Int32)) := own_fldInt ev_w_NOT_LIKE g88
  obtain ⟨n, o, h1, h2, h3, _, L, rfl, ⟨rfl, N, -⟩, hq⟩ := rm0 l s _ hw tables_1 i0 w_EQUALS w_NOT_EQUALS w_GREATER_THAN w_LESS_THAN w_GREATER_THAN_OR_EQUAL w_LESS_THAN_OR_EQUAL w_BETWEEN w_NOT_BETWEEN w_IN w_NOT_IN w_STARTING_WITH w_NOT_STARTING_WITH w_ENDING_WITH w_NOT_ENDING_WITH w_CONTAINING w_NOT_CONTAINING w_LIKE w_NOT_LIKE w_IS_NULL w_IS_NOT_NULL w_TRUE w_FALSE s.heap s.heap.size (Nat.le_refl _) (Old.start s) S_w_EQUALS S_w_NOT_EQUALS S_w_GREATER_THAN S_w_LESS_THAN S_w_GREATER_THAN_OR_EQUAL S_w_LESS_THAN_OR_EQUAL S_w_BETWEEN S_w_NOT_BETWEEN S_w_IN S_w_NOT_IN S_w_STARTING_WITH S_w_NOT_STARTING_WITH S_w_ENDING_WITH S_w_NOT_ENDING_WITH S_w_CONTAINING S_w_NOT_CONTAINING S_w_LIKE S_w_NOT_LIKE S_w_IS_NULL S_w_IS_NOT_NULL S_w_TRUE S_w_FALSE Ex_w_EQUALS Ex_w_NOT_EQUALS Ex_w_GREATER_THAN Ex_w_LESS_THAN Ex_w_GREATER_THAN_OR_EQUAL Ex_w_LESS_THAN_OR_EQUAL Ex_w_BETWEEN Ex_w_NOT_BETWEEN Ex_w_IN Ex_w_NOT_IN Ex_w_STARTING_WITH Ex_w_NOT_STARTING_WITH Ex_w_ENDING_WITH Ex_w_NOT_ENDING_WITH Ex_w_CONTAINING Ex_w_NOT_CONTAINING Ex_w_LIKE Ex_w_NOT_LIKE Ex_w_IS_NULL Ex_w_IS_NOT_NULL Ex_w_TRUE Ex_w_FALSE Fo_w_EQUALS_ordinal Fo_w_NOT_EQUALS_ordinal Fo_w_GREATER_THAN_ordinal Fo_w_LESS_THAN_ordinal Fo_w_GREATER_THAN_OR_EQUAL_ordinal Fo_w_LESS_THAN_OR_EQUAL_ordinal Fo_w_BETWEEN_ordinal Fo_w_NOT_BETWEEN_ordinal Fo_w_IN_ordinal Fo_w_NOT_IN_ordinal Fo_w_STARTING_WITH_ordinal Fo_w_NOT_STARTING_WITH_ordinal Fo_w_ENDING_WITH_ordinal Fo_w_NOT_ENDING_WITH_ordinal Fo_w_CONTAINING_ordinal Fo_w_NOT_CONTAINING_ordinal Fo_w_LIKE_ordinal Fo_w_NOT_LIKE_ordinal Fo_w_IS_NULL_ordinal Fo_w_IS_NOT_NULL_ordinal Fo_w_TRUE_ordinal Fo_w_FALSE_ordinal p e ha hc hk s m _ below hf ((Spec.applies_iff_loose hf).mp happ).1 ⟨rfl, State.Warmed39.refl s, rfl⟩ trivial
  refine ⟨n, _, h1, h2, h3, hpost _ _ _ _ _ _ ⟨Cond.after_iff.mpr rfl, Cond.after_iff.mpr (eq_i res_at (Term.int_eval (1)) rfl), trivial⟩ ⟨hq.1, hq.2.1, (hq.2.2.sift fun y hy => Or.inr (N y hy)).mono (by decide) (by decide)⟩⟩
theorem main_1_1 : Claimed_1_1 := comes_1 fun _ _ _ _ _ _ h hF => ⟨h.1, hF⟩
theorem main_1_2 : Claimed_1_2 := comes_1 fun _ _ _ _ _ _ h hF => ⟨h.2.1, hF⟩
end Jvm.Pilot.@@N@@
namespace Jvm.Pilot.@@N@@
open Jvm Jvm.ClassFile Sem Op Lib Jvm.Free Jvm.Stand Jvm.Pilot.@@N@@.Jvm.D
/-! MADE BY PROGRAM (witnessworld.py) out of the Statement's table words and the real class files: 12 classes; the members and pool entries that the words name. The judged class is class 1, her method 2. -/
namespace start1
open Jvm.ClassFile
def u (s : String) : CpInfo := .utf8 (stringToUtf16 s)
/-- a pool by its gaps: so many unusable entries, then the entry; so many at the end -/
def gap : Nat → List CpInfo → List CpInfo
  | 0, r => r
  | n + 1, r => .unusable :: gap n r
def poolList (es : List (Nat × CpInfo)) (last : Nat) : List CpInfo := es.foldr (fun e r => gap e.1 (e.2 :: r)) (gap last [])
def pool (es : List (Nat × CpInfo)) (last : Nat) : Array CpInfo := ⟨poolList es last⟩
def fileOf (pool : Array CpInfo) (this : Nat) (attrs : Array Attribute := #[]) (ms : Array MethodInfo := #[]) (fl : Nat := 33) (sup : Nat := 0) (ifs : Array Nat := #[]) (fds : Array FieldInfo := #[]) : ClassFile where
  minorVersion := 0
  majorVersion := 65
  constantPool := pool
  accessFlags := fl
  thisClass := this
  superClass := sup
  interfaces := ifs
  fields := fds
  methods := ms
  attributes := attrs
def plain (name : String) (sup : Option ClassId) : Class where
  name := name
  kind := .ordinary
  loader := none
  accessFlags := 33
  super := sup
  interfaces := #[]
  cf := none
  fields := #[]
  methods := #[]
  instanceTypes := #[]
  staticTypes := #[]
  resolved := #[]
  callSites := []
  init := .initialized
  statics := none
  mirror := none

def pool0 : Array CpInfo := pool [(5, u "<init>"), (0, u "()V"), (1, .class_ 10), (1, u "java/lang/Object")] 113

def k0m0 : Method := { name := "<init>", desc := "()V", sig := { parameters := [], returnType := none }, accessFlags := 1, code := none }
/-- java/lang/Object -/
def k0 : Class := { plain "java/lang/Object" none with
  accessFlags := 33
  interfaces := #[]
  cf := some (fileOf pool0 8 #[] #[{ accessFlags := 1, nameIndex := 5, descriptorIndex := 6, attributes := #[] }] 33 0 #[] #[])
  fields := #[]
  methods := #[k0m0]
  instanceTypes := #[]
  staticTypes := #[]
  resolved := Array.replicate 124 none
  statics := none }

def pool1 : Array CpInfo := pool [(2, .class_ 4), (1, u "java/lang/Object"), (0, u "<init>"), (0, u "()V"), (0, .fieldref 8 9), (0, .class_ 10), (0, .nameAndType 11 12), (0, u "com/example/libfinder/libfinder/query/internal/Query$Operator"), (0, u "EQUALS"), (0, u "Lcom/example/libfinder/libfinder/query/internal/Query$Operator;"), (0, .fieldref 8 14), (0, .nameAndType 15 12), (0, u "NOT_EQUALS"), (0, .fieldref 8 17), (0, .nameAndType 18 12), (0, u "GREATER_THAN"), (0, .fieldref 8 20), (0, .nameAndType 21 12), (0, u "LESS_THAN"), (0, .fieldref 8 23), (0, .nameAndType 24 12), (0, u "GREATER_THAN_OR_EQUAL"), (0, .fieldref 8 26), (0, .nameAndType 27 12), (0, u "LESS_THAN_OR_EQUAL"), (0, .fieldref 8 29), (0, .nameAndType 30 12), (0, u "BETWEEN"), (0, .fieldref 8 32), (0, .nameAndType 33 12), (0, u "NOT_BETWEEN"), (0, .fieldref 8 35), (0, .nameAndType 36 12), (0, u "IN"), (0, .fieldref 8 38), (0, .nameAndType 39 12), (0, u "NOT_IN"), (0, .fieldref 8 41), (0, .nameAndType 42 12), (0, u "STARTING_WITH"), (0, .fieldref 8 44), (0, .nameAndType 45 12), (0, u "NOT_STARTING_WITH"), (0, .fieldref 8 47), (0, .nameAndType 48 12), (0, u "ENDING_WITH"), (0, .fieldref 8 50), (0, .nameAndType 51 12), (0, u "NOT_ENDING_WITH"), (0, .fieldref 8 53), (0, .nameAndType 54 12), (0, u "CONTAINING"), (0, .fieldref 8 56), (0, .nameAndType 57 12), (0, u "NOT_CONTAINING"), (0, .fieldref 8 59), (0, .nameAndType 60 12), (0, u "LIKE"), (0, .fieldref 8 62), (0, .nameAndType 63 12), (0, u "NOT_LIKE"), (0, .fieldref 8 65), (0, .nameAndType 66 12), (0, u "IS_NULL"), (0, .fieldref 8 68), (0, .nameAndType 69 12), (0, u "IS_NOT_NULL"), (0, .fieldref 8 71), (0, .nameAndType 72 12), (0, u "TRUE"), (0, .fieldref 8 74), (0, .nameAndType 75 12), (0, u "FALSE"), (0, .integer 2147483647), (0, .methodref 78 79), (0, .class_ 80), (0, .nameAndType 81 82), (0, u "com/example/libfinder/libfinder/query/internal/OperatorTestsTruthPinLaw"), (0, u "pick"), (0, u "(I)Lcom/example/libfinder/libfinder/query/internal/Query$Operator;"), (0, .methodref 8 84), (0, .nameAndType 85 86), (0, u "testsTruth"), (0, u "()Z"), (3, u "law"), (0, u "(I)Z")] 6

def k1m0 : Method := { name := "<init>", desc := "()V", sig := { parameters := [], returnType := none }, accessFlags := 2, code := none }
def k1c1 : Code := { maxStack := 2, maxLocals := 1, code := method_2_code, exceptionTable := #[], attributes := #[] }
def k1m1 : Method := { name := "pick", desc := "(I)Lcom/example/libfinder/libfinder/query/internal/Query$Operator;", sig := { parameters := [.int], returnType := some (.object "com/example/libfinder/libfinder/query/internal/Query$Operator") }, accessFlags := 10, code := some k1c1 }
def k1c2 : Code := { maxStack := 2, maxLocals := 4, code := code, exceptionTable := #[], attributes := #[] }
def k1m2 : Method := { name := "law", desc := "(I)Z", sig := { parameters := [.int], returnType := some .boolean }, accessFlags := 9, code := some k1c2 }
/-- com/example/libfinder/libfinder/query/internal/OperatorTestsTruthPinLaw -/
def k1 : Class := { plain "com/example/libfinder/libfinder/query/internal/OperatorTestsTruthPinLaw" (some 0) with
  accessFlags := 49
  interfaces := #[]
  cf := some (fileOf pool1 78 #[] #[{ accessFlags := 2, nameIndex := 5, descriptorIndex := 6, attributes := #[] }, { accessFlags := 10, nameIndex := 81, descriptorIndex := 82, attributes := #[] }, { accessFlags := 9, nameIndex := 90, descriptorIndex := 91, attributes := #[] }] 49 2 #[] #[])
  fields := #[]
  methods := #[k1m0, k1m1, k1m2]
  instanceTypes := #[]
  staticTypes := #[]
  resolved := Array.replicate 98 none
  statics := none }

def pool2 : Array CpInfo := pool [(1, .class_ 2), (0, u "java/lang/constant/Constable"), (0, .class_ 4), (0, u "java/lang/Object")] 6

/-- java/lang/constant/Constable -/
def k2 : Class := { plain "java/lang/constant/Constable" (some 0) with
  accessFlags := 1537
  interfaces := #[]
  cf := some (fileOf pool2 1 #[] #[] 1537 3 #[] #[])
  fields := #[]
  methods := #[]
  instanceTypes := #[]
  staticTypes := #[]
  resolved := Array.replicate 11 none
  statics := none }

def pool3 : Array CpInfo := pool [(1, .class_ 2), (0, u "java/lang/Comparable"), (0, .class_ 4), (0, u "java/lang/Object")] 7

/-- java/lang/Comparable -/
def k3 : Class := { plain "java/lang/Comparable" (some 0) with
  accessFlags := 1537
  interfaces := #[]
  cf := some (fileOf pool3 1 #[] #[] 1537 3 #[] #[])
  fields := #[]
  methods := #[]
  instanceTypes := #[]
  staticTypes := #[]
  resolved := Array.replicate 12 none
  statics := none }

def pool4 : Array CpInfo := pool [(1, .class_ 2), (0, u "java/io/Serializable"), (0, .class_ 4), (0, u "java/lang/Object")] 2

/-- java/io/Serializable -/
def k4 : Class := { plain "java/io/Serializable" (some 0) with
  accessFlags := 1537
  interfaces := #[]
  cf := some (fileOf pool4 1 #[] #[] 1537 3 #[] #[])
  fields := #[]
  methods := #[]
  instanceTypes := #[]
  staticTypes := #[]
  resolved := Array.replicate 7 none
  statics := none }

def pool5 : Array CpInfo := pool [(2, .class_ 4), (1, u "java/lang/Enum"), (0, u "name"), (0, u "Ljava/lang/String;"), (2, u "ordinal"), (0, u "I"), (1, .class_ 14), (1, u "java/lang/Object"), (4, u "hash"), (86, .class_ 108), (1, u "java/lang/Enum$EnumDesc"), (2, .class_ 112), (0, u "java/lang/constant/Constable"), (0, .class_ 114), (0, u "java/lang/Comparable"), (0, .class_ 116), (0, u "java/io/Serializable")] 87

/-- java/lang/Enum -/
def k5 : Class := { plain "java/lang/Enum" (some 0) with
  accessFlags := 1057
  interfaces := #[2, 3, 4]
  cf := some (fileOf pool5 2 #[.nestMembers #[106]] #[] 1057 12 #[111, 113, 115] #[{ accessFlags := 18, nameIndex := 5, descriptorIndex := 6, attributes := #[] }, { accessFlags := 18, nameIndex := 9, descriptorIndex := 10, attributes := #[] }, { accessFlags := 2, nameIndex := 19, descriptorIndex := 10, attributes := #[] }])
  fields := #[{ name := "name", type := (.object "java/lang/String"), accessFlags := 18, slot := 0, constantValue := 0 }, { name := "ordinal", type := .int, accessFlags := 18, slot := 1, constantValue := 0 }, { name := "hash", type := .int, accessFlags := 2, slot := 2, constantValue := 0 }]
  methods := #[]
  instanceTypes := #[(.object "java/lang/String"), .int, .int]
  staticTypes := #[]
  resolved := Array.replicate 204 none
  statics := none }

def pool6 : Array CpInfo := pool [(1, .class_ 2), (0, u "com/example/libfinder/libfinder/query/internal/Query$Operator"), (2, u "EQUALS"), (0, u "Lcom/example/libfinder/libfinder/query/internal/Query$Operator;"), (2, u "NOT_EQUALS"), (2, u "GREATER_THAN"), (2, u "LESS_THAN"), (2, u "GREATER_THAN_OR_EQUAL"), (2, u "LESS_THAN_OR_EQUAL"), (2, u "BETWEEN"), (2, u "NOT_BETWEEN"), (2, u "IN"), (2, u "NOT_IN"), (2, u "STARTING_WITH"), (2, u "NOT_STARTING_WITH"), (2, u "ENDING_WITH"), (2, u "NOT_ENDING_WITH"), (2, u "CONTAINING"), (2, u "NOT_CONTAINING"), (2, u "LIKE"), (2, u "NOT_LIKE"), (2, u "IS_NULL"), (2, u "IS_NOT_NULL"), (0, .fieldref 1 65), (0, .nameAndType 66 6), (0, u "TRUE"), (0, .fieldref 1 68), (0, .nameAndType 69 6), (0, u "FALSE"), (2, u "$VALUES"), (0, u "[Lcom/example/libfinder/libfinder/query/internal/Query$Operator;"), (6, .class_ 82), (1, u "java/lang/Enum"), (11, u "arguments"), (0, u "I"), (2, u "matchesText"), (0, u "Z"), (46, u "()Z"), (2, u "testsTruth"), (8, .class_ 159), (0, u "com/example/libfinder/libfinder/query/internal/Query")] 2

def k6c0 : Code := { maxStack := 2, maxLocals := 1, code := prog_85_method_8_code, exceptionTable := #[], attributes := #[] }
def k6m0 : Method := { name := "testsTruth", desc := "()Z", sig := { parameters := [], returnType := some .boolean }, accessFlags := 1, code := some k6c0 }
/-- com/example/libfinder/libfinder/query/internal/Query$Operator -/
def k6 : Class := { plain "com/example/libfinder/libfinder/query/internal/Query$Operator" (some 5) with
  accessFlags := 16433
  interfaces := #[]
  cf := some (fileOf pool6 1 #[.nestHost 158] #[{ accessFlags := 1, nameIndex := 149, descriptorIndex := 146, attributes := #[] }] 16433 80 #[] #[{ accessFlags := 16409, nameIndex := 5, descriptorIndex := 6, attributes := #[] }, { accessFlags := 16409, nameIndex := 9, descriptorIndex := 6, attributes := #[] }, { accessFlags := 16409, nameIndex := 12, descriptorIndex := 6, attributes := #[] }, { accessFlags := 16409, nameIndex := 15, descriptorIndex := 6, attributes := #[] }, { accessFlags := 16409, nameIndex := 18, descriptorIndex := 6, attributes := #[] }, { accessFlags := 16409, nameIndex := 21, descriptorIndex := 6, attributes := #[] }, { accessFlags := 16409, nameIndex := 24, descriptorIndex := 6, attributes := #[] }, { accessFlags := 16409, nameIndex := 27, descriptorIndex := 6, attributes := #[] }, { accessFlags := 16409, nameIndex := 30, descriptorIndex := 6, attributes := #[] }, { accessFlags := 16409, nameIndex := 33, descriptorIndex := 6, attributes := #[] }, { accessFlags := 16409, nameIndex := 36, descriptorIndex := 6, attributes := #[] }, { accessFlags := 16409, nameIndex := 39, descriptorIndex := 6, attributes := #[] }, { accessFlags := 16409, nameIndex := 42, descriptorIndex := 6, attributes := #[] }, { accessFlags := 16409, nameIndex := 45, descriptorIndex := 6, attributes := #[] }, { accessFlags := 16409, nameIndex := 48, descriptorIndex := 6, attributes := #[] }, { accessFlags := 16409, nameIndex := 51, descriptorIndex := 6, attributes := #[] }, { accessFlags := 16409, nameIndex := 54, descriptorIndex := 6, attributes := #[] }, { accessFlags := 16409, nameIndex := 57, descriptorIndex := 6, attributes := #[] }, { accessFlags := 16409, nameIndex := 60, descriptorIndex := 6, attributes := #[] }, { accessFlags := 16409, nameIndex := 63, descriptorIndex := 6, attributes := #[] }, { accessFlags := 16409, nameIndex := 66, descriptorIndex := 6, attributes := #[] }, { accessFlags := 16409, nameIndex := 69, descriptorIndex := 6, attributes := #[] }, { accessFlags := 18, nameIndex := 94, descriptorIndex := 95, attributes := #[] }, { accessFlags := 18, nameIndex := 98, descriptorIndex := 99, attributes := #[] }, { accessFlags := 4122, nameIndex := 72, descriptorIndex := 73, attributes := #[] }])
  fields := #[{ name := "EQUALS", type := (.object "com/example/libfinder/libfinder/query/internal/Query$Operator"), accessFlags := 16409, slot := 0, constantValue := 0 }, { name := "NOT_EQUALS", type := (.object "com/example/libfinder/libfinder/query/internal/Query$Operator"), accessFlags := 16409, slot := 1, constantValue := 0 }, { name := "GREATER_THAN", type := (.object "com/example/libfinder/libfinder/query/internal/Query$Operator"), accessFlags := 16409, slot := 2, constantValue := 0 }, { name := "LESS_THAN", type := (.object "com/example/libfinder/libfinder/query/internal/Query$Operator"), accessFlags := 16409, slot := 3, constantValue := 0 }, { name := "GREATER_THAN_OR_EQUAL", type := (.object "com/example/libfinder/libfinder/query/internal/Query$Operator"), accessFlags := 16409, slot := 4, constantValue := 0 }, { name := "LESS_THAN_OR_EQUAL", type := (.object "com/example/libfinder/libfinder/query/internal/Query$Operator"), accessFlags := 16409, slot := 5, constantValue := 0 }, { name := "BETWEEN", type := (.object "com/example/libfinder/libfinder/query/internal/Query$Operator"), accessFlags := 16409, slot := 6, constantValue := 0 }, { name := "NOT_BETWEEN", type := (.object "com/example/libfinder/libfinder/query/internal/Query$Operator"), accessFlags := 16409, slot := 7, constantValue := 0 }, { name := "IN", type := (.object "com/example/libfinder/libfinder/query/internal/Query$Operator"), accessFlags := 16409, slot := 8, constantValue := 0 }, { name := "NOT_IN", type := (.object "com/example/libfinder/libfinder/query/internal/Query$Operator"), accessFlags := 16409, slot := 9, constantValue := 0 }, { name := "STARTING_WITH", type := (.object "com/example/libfinder/libfinder/query/internal/Query$Operator"), accessFlags := 16409, slot := 10, constantValue := 0 }, { name := "NOT_STARTING_WITH", type := (.object "com/example/libfinder/libfinder/query/internal/Query$Operator"), accessFlags := 16409, slot := 11, constantValue := 0 }, { name := "ENDING_WITH", type := (.object "com/example/libfinder/libfinder/query/internal/Query$Operator"), accessFlags := 16409, slot := 12, constantValue := 0 }, { name := "NOT_ENDING_WITH", type := (.object "com/example/libfinder/libfinder/query/internal/Query$Operator"), accessFlags := 16409, slot := 13, constantValue := 0 }, { name := "CONTAINING", type := (.object "com/example/libfinder/libfinder/query/internal/Query$Operator"), accessFlags := 16409, slot := 14, constantValue := 0 }, { name := "NOT_CONTAINING", type := (.object "com/example/libfinder/libfinder/query/internal/Query$Operator"), accessFlags := 16409, slot := 15, constantValue := 0 }, { name := "LIKE", type := (.object "com/example/libfinder/libfinder/query/internal/Query$Operator"), accessFlags := 16409, slot := 16, constantValue := 0 }, { name := "NOT_LIKE", type := (.object "com/example/libfinder/libfinder/query/internal/Query$Operator"), accessFlags := 16409, slot := 17, constantValue := 0 }, { name := "IS_NULL", type := (.object "com/example/libfinder/libfinder/query/internal/Query$Operator"), accessFlags := 16409, slot := 18, constantValue := 0 }, { name := "IS_NOT_NULL", type := (.object "com/example/libfinder/libfinder/query/internal/Query$Operator"), accessFlags := 16409, slot := 19, constantValue := 0 }, { name := "TRUE", type := (.object "com/example/libfinder/libfinder/query/internal/Query$Operator"), accessFlags := 16409, slot := 20, constantValue := 0 }, { name := "FALSE", type := (.object "com/example/libfinder/libfinder/query/internal/Query$Operator"), accessFlags := 16409, slot := 21, constantValue := 0 }, { name := "arguments", type := .int, accessFlags := 18, slot := 3, constantValue := 0 }, { name := "matchesText", type := .boolean, accessFlags := 18, slot := 4, constantValue := 0 }, { name := "$VALUES", type := (.array (.object "com/example/libfinder/libfinder/query/internal/Query$Operator")), accessFlags := 4122, slot := 22, constantValue := 0 }]
  methods := #[k6m0]
  instanceTypes := #[(.object "java/lang/String"), .int, .int, .int, .boolean]
  staticTypes := #[(.object "com/example/libfinder/libfinder/query/internal/Query$Operator"), (.object "com/example/libfinder/libfinder/query/internal/Query$Operator"), (.object "com/example/libfinder/libfinder/query/internal/Query$Operator"), (.object "com/example/libfinder/libfinder/query/internal/Query$Operator"), (.object "com/example/libfinder/libfinder/query/internal/Query$Operator"), (.object "com/example/libfinder/libfinder/query/internal/Query$Operator"), (.object "com/example/libfinder/libfinder/query/internal/Query$Operator"), (.object "com/example/libfinder/libfinder/query/internal/Query$Operator"), (.object "com/example/libfinder/libfinder/query/internal/Query$Operator"), (.object "com/example/libfinder/libfinder/query/internal/Query$Operator"), (.object "com/example/libfinder/libfinder/query/internal/Query$Operator"), (.object "com/example/libfinder/libfinder/query/internal/Query$Operator"), (.object "com/example/libfinder/libfinder/query/internal/Query$Operator"), (.object "com/example/libfinder/libfinder/query/internal/Query$Operator"), (.object "com/example/libfinder/libfinder/query/internal/Query$Operator"), (.object "com/example/libfinder/libfinder/query/internal/Query$Operator"), (.object "com/example/libfinder/libfinder/query/internal/Query$Operator"), (.object "com/example/libfinder/libfinder/query/internal/Query$Operator"), (.object "com/example/libfinder/libfinder/query/internal/Query$Operator"), (.object "com/example/libfinder/libfinder/query/internal/Query$Operator"), (.object "com/example/libfinder/libfinder/query/internal/Query$Operator"), (.object "com/example/libfinder/libfinder/query/internal/Query$Operator"), (.array (.object "com/example/libfinder/libfinder/query/internal/Query$Operator"))]
  resolved := Array.replicate 162 none
  statics := some 0 }

def pool7 : Array CpInfo := pool [(1, u "java/lang/Cloneable"), (0, .class_ 1), (0, u "java/lang/Object"), (0, .class_ 3)] 3

/-- java/lang/Cloneable -/
def k7 : Class := { plain "java/lang/Cloneable" (some 0) with
  accessFlags := 1537
  interfaces := #[]
  cf := some (fileOf pool7 2 #[] #[] 1537 4 #[] #[])
  fields := #[]
  methods := #[]
  instanceTypes := #[]
  staticTypes := #[]
  resolved := Array.replicate 8 none
  statics := none }

/-- the primitive byte -/
def k8 : Class := { plain "byte" none with kind := .primitive 'B', accessFlags := 0x411 }
/-- [B -/
def k9 : Class := { plain "[B" (some 0) with kind := .array 8 .byte, interfaces := #[7, 4], accessFlags := 1041 }

/-- the primitive int -/
def k10 : Class := { plain "int" none with kind := .primitive 'I', accessFlags := 0x411 }
/-- [I -/
def k11 : Class := { plain "[I" (some 0) with kind := .array 10 .int, interfaces := #[7, 4], accessFlags := 1041 }

def heap : Heap := #[{ cls := 6, slots := #[.ref 1, .ref 2, .ref 3, .ref 4, .ref 5, .ref 6, .ref 7, .ref 8, .ref 9, .ref 10, .ref 11, .ref 12, .ref 13, .ref 14, .ref 15, .ref 16, .ref 17, .ref 18, .ref 19, .ref 20, .ref 21, .ref 22, .null], vm := .statics 6 },
  { cls := 6, slots := #[.null, .int 0, .int 0, .int 1, .int 0], vm := .none },
  { cls := 6, slots := #[.null, .int 1, .int 0, .int 1, .int 0], vm := .none },
  { cls := 6, slots := #[.null, .int 2, .int 0, .int 1, .int 0], vm := .none },
  { cls := 6, slots := #[.null, .int 3, .int 0, .int 1, .int 0], vm := .none },
  { cls := 6, slots := #[.null, .int 4, .int 0, .int 1, .int 0], vm := .none },
  { cls := 6, slots := #[.null, .int 5, .int 0, .int 1, .int 0], vm := .none },
  { cls := 6, slots := #[.null, .int 6, .int 0, .int 2, .int 0], vm := .none },
  { cls := 6, slots := #[.null, .int 7, .int 0, .int 2, .int 0], vm := .none },
  { cls := 6, slots := #[.null, .int 8, .int 0, .int 1, .int 0], vm := .none },
  { cls := 6, slots := #[.null, .int 9, .int 0, .int 1, .int 0], vm := .none },
  { cls := 6, slots := #[.null, .int 10, .int 0, .int 1, .int 1], vm := .none },
  { cls := 6, slots := #[.null, .int 11, .int 0, .int 1, .int 1], vm := .none },
  { cls := 6, slots := #[.null, .int 12, .int 0, .int 1, .int 1], vm := .none },
  { cls := 6, slots := #[.null, .int 13, .int 0, .int 1, .int 1], vm := .none },
  { cls := 6, slots := #[.null, .int 14, .int 0, .int 1, .int 1], vm := .none },
  { cls := 6, slots := #[.null, .int 15, .int 0, .int 1, .int 1], vm := .none },
  { cls := 6, slots := #[.null, .int 16, .int 0, .int 1, .int 1], vm := .none },
  { cls := 6, slots := #[.null, .int 17, .int 0, .int 1, .int 1], vm := .none },
  { cls := 6, slots := #[.null, .int 18, .int 0, .int 0, .int 0], vm := .none },
  { cls := 6, slots := #[.null, .int 19, .int 0, .int 0, .int 0], vm := .none },
  { cls := 6, slots := #[.null, .int 20, .int 0, .int 0, .int 0], vm := .none },
  { cls := 6, slots := #[.null, .int 21, .int 0, .int 0, .int 0], vm := .none }]
def classes : Array Class := #[k0, k1, k2, k3, k4, k5, k6, k7, k8, k9, k10, k11]
def interned : List (Array UInt16 × Addr) := []
def slotsUsed : Nat := 133
def theMethod : MethodId := ⟨1, 2⟩
def args0 : Array Value := #[.int 5]
def aboutOver (below : List Frame) : State where
  vm := { classes := classes, interned := interned.toArray }
  heap := heap
  slotsUsed := slotsUsed
  threads := #[{ frames := .invoking theMethod args0 :: below }]
def below0 : List Frame := [.native { method := ⟨0, 0⟩, args := #[] }]
def about1 : State := aboutOver below0
def p0 : Program := .bare "" "" ""
def e0 : Env := launch0.env 0 0 0
theorem w_frames : about1.frames = Frame.invoking theMethod args0 :: below0 := rfl
set_option maxRecDepth 65536 in
theorem w_args : argsFit about1.vm theMethod args0 = true := by decide +kernel
set_option maxRecDepth 65536 in
theorem w_heap : heapFits about1 = true := by decide +kernel
set_option maxRecDepth 65536 in
theorem w_runnable : about1.curStatus? = some .runnable := by decide +kernel
set_option maxRecDepth 65536 in
theorem w_alone : about1.alone = true := by decide +kernel
set_option maxRecDepth 65536 in
theorem w_named : about1.methodNamed? x = some theMethod := by decide +kernel
set_option maxRecDepth 65536 in
theorem w_hears : about1.hears theMethod below0 = true := by decide +kernel
set_option maxRecDepth 65536 in
theorem w_ripe : about1.ripe theMethod args0 below0 = true := by decide +kernel
theorem w_running : about1.status = .running := rfl
set_option maxRecDepth 65536 in
theorem w_room : about1.hasRoom e0.platform room_1 = true :=
  launch0.hasRoom_least _ room_1 (by decide +kernel) (by decide +kernel) (by decide +kernel) (by decide +kernel) (by decide +kernel) (by decide +kernel)
theorem allAtoms_all (ts : List Jvm.Cond) (a : Array Jvm.Value) (st : Jvm.State) : (allAtoms ts).before a st = ts.all (fun c => c.before a st) := by
  induction ts with
  | nil => rfl
  | cons c t ih =>
    show (Jvm.Cond.and c (allAtoms t)).before a st = _
    rw [Jvm.Cond.before_and, ih, List.all_cons]
def words1 : List Jvm.Cond := Jvm.Cond.code x code maxLocals ret :: tables_1
/-- a 'code' word, met by the world's own term for the bytes: nothing is compared byte by byte -/
theorem code_word {y : MethodName} {bytes : ByteArray} {mx : Nat} {rt : Option FieldType} {a : Array Value} {s : State} {m : MethodId} {meth : Method} {c : Code} (h1 : s.methodNamed? y = some m) (h2 : s.vm.method? m = some meth) (h3 : meth.code = some c) (h4 : c.code = bytes)
    (h5 : (c.maxLocals == mx && c.exceptionTable.isEmpty && decide (c.maxStack ≤ mostOperands) && decide (meth.sig.returnType = rt) && !meth.locks && decide (parseMethodDescriptor y.desc = some meth.sig)) = true) : (Jvm.Cond.code y bytes mx rt).before a s = true := by
  simp only [Bool.and_eq_true, beq_iff_eq, Bool.not_eq_true', decide_eq_true_eq] at h5
  obtain ⟨⟨⟨⟨⟨g1, g2⟩, g3⟩, g4⟩, g5⟩, g6⟩ := h5
  simp [Cond.before, Cond.holds, Cond.value, h1, h2, h3, h4, g1, g2, g3, g4, g5, g6]
def isCode : Jvm.Cond → Bool
  | .code _ _ _ _ => true
  | _ => false
theorem all_split {L : List Jvm.Cond} {P : Jvm.Cond → Bool} (h1 : L.all (fun c => isCode c || P c) = true) (h2 : ∀ c ∈ L.filter isCode, P c = true) : L.all P = true := by
  refine List.all_eq_true.mpr fun c hc => ?_
  have h := List.all_eq_true.mp h1 c hc
  rcases Bool.eq_false_or_eq_true (isCode c) with hi | hi
  · exact h2 c (List.mem_filter.mpr ⟨hc, hi⟩)
  · simpa [hi] using h
set_option maxRecDepth 65536 in
theorem w_c0 : (Jvm.Cond.code x code maxLocals ret).before args0 about1 = true := code_word (m := ⟨1, 2⟩) (meth := k1m2) (c := k1c2) (by decide +kernel) rfl rfl rfl (by decide +kernel)
set_option maxRecDepth 65536 in
theorem w_c1 : (Jvm.Cond.code ({ cls := "com/example/libfinder/libfinder/query/internal/OperatorTestsTruthPinLaw", name := "pick", desc := "(I)Lcom/example/libfinder/libfinder/query/internal/Query$Operator;" } : Jvm.MethodName) method_2_code (1 : Nat) (Option.some (Jvm.ClassFile.FieldType.object "com/example/libfinder/libfinder/query/internal/Query$Operator"))).before args0 about1 = true := code_word (m := ⟨1, 1⟩) (meth := k1m1) (c := k1c1) (by decide +kernel) rfl rfl rfl (by decide +kernel)
set_option maxRecDepth 65536 in
theorem w_c2 : (Jvm.Cond.code ({ cls := "com/example/libfinder/libfinder/query/internal/Query$Operator", name := "testsTruth", desc := "()Z" } : Jvm.MethodName) prog_85_method_8_code (1 : Nat) (Option.some Jvm.ClassFile.FieldType.boolean)).before args0 about1 = true := code_word (m := ⟨6, 0⟩) (meth := k6m0) (c := k6c0) (by decide +kernel) rfl rfl rfl (by decide +kernel)
def codes1 : List Jvm.Cond := [Jvm.Cond.code x code maxLocals ret, Jvm.Cond.code ({ cls := "com/example/libfinder/libfinder/query/internal/OperatorTestsTruthPinLaw", name := "pick", desc := "(I)Lcom/example/libfinder/libfinder/query/internal/Query$Operator;" } : Jvm.MethodName) method_2_code (1 : Nat) (Option.some (Jvm.ClassFile.FieldType.object "com/example/libfinder/libfinder/query/internal/Query$Operator")), Jvm.Cond.code ({ cls := "com/example/libfinder/libfinder/query/internal/Query$Operator", name := "testsTruth", desc := "()Z" } : Jvm.MethodName) prog_85_method_8_code (1 : Nat) (Option.some Jvm.ClassFile.FieldType.boolean)]
set_option maxRecDepth 65536 in
theorem codes_eq : words1.filter isCode = codes1 := rfl
theorem w_codes : ∀ c ∈ words1.filter isCode, c.before args0 about1 = true := by
  rw [codes_eq]
  intro c hc
  simp only [codes1, List.mem_cons, List.not_mem_nil, or_false] at hc
  rcases hc with rfl | rfl | rfl
  · exact w_c0
  · exact w_c1
  · exact w_c2
set_option maxRecDepth 65536 in
theorem w_t1 : (words1.take 24).all (fun c => isCode c || c.before args0 about1) = true := by decide +kernel
set_option maxRecDepth 65536 in
theorem w_t2 : ((words1.drop 24).take 24).all (fun c => isCode c || c.before args0 about1) = true := by decide +kernel
set_option maxRecDepth 65536 in
theorem w_t3 : ((words1.drop 24).drop 24).all (fun c => isCode c || c.before args0 about1) = true := by decide +kernel
theorem w_tables : (allAtoms (Jvm.Cond.code x code maxLocals ret :: tables_1)).before args0 about1 = true := by
  rw [allAtoms_all]
  show words1.all (fun c => c.before args0 about1) = true
  refine all_split ?_ w_codes
  rw [← List.take_append_drop 24 words1, List.all_append, w_t1, ← List.take_append_drop 24 (words1.drop 24), List.all_append, w_t2, w_t3]
  rfl
set_option maxRecDepth 65536 in
theorem w_case : (Jvm.Cond.and given_1 narrow_1).before args0 about1 = true := by decide +kernel
theorem w_applies : (headSpec (Jvm.Cond.code x code maxLocals ret :: tables_1) room_1).applies x e0.platform about1 = true :=
  (Spec.applies_iff w_frames).mpr ⟨w_running, w_runnable, w_alone, w_named, w_hears, w_ripe, w_room, w_tables⟩
theorem atStart : AtStart classFile x code maxLocals ret World_1 tables_1 room_1 Calls_1 rest_1 Pre_1 launch0 p0 e0 about1 theMethod args0 below0 :=
  ⟨lists_1, trivial, launch0.admits_env _ _ _, launch0.least_env, fairChoices_fair.cas, fairChoices_fair.clock, w_frames, w_args, w_heap, w_applies, trivial, trivial, w_case⟩
end start1
theorem witness_1 : WitnessClaimed_1 := ⟨start1.p0, start1.e0, start1.about1, start1.theMethod, start1.args0, start1.below0, start1.atStart⟩
end Jvm.Pilot.@@N@@
