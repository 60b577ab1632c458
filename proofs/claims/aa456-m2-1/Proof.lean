import JvmDerived
import JvmDerived.Pilot.@@N@@Statement
import JvmDerived.Pilot.@@N@@Code
set_option linter.unusedVariables false
set_option linter.unusedSimpArgs false
namespace Jvm.RoadKit
open Sem ClassFile Op Lib Jvm.Stand Jvm.Free Jvm.LawKit
section New
variable {p : Program} {l : Launch} {e : Env} {R : Room} {s : State} {m : MethodId} {args : Array Value} {below : List Frame} {meth : Method} {c : Code} {T : State} {locs : List Loc} {cells slots : Nat}
theorem retI (X : Stand p l e R s m args below meth c T locs cells slots) (hx : p.tables.exec = Jvm.exec) {pc : Nat} {Ls : Array Slot} {z : Int32} {rest : List Value} (hret : meth.sig.returnType = some .int) (hd : decode c.code pc = .ok (.ireturn, 1)) {fs : List Frame}
    (hl : ∀ (f : JFrame) (acts : List Action), f.method = m → f.locked = none → f.entered = [] → (doReturn e (T.setTop f) acts (some (.int z))).1 = T.setFrames fs) : Steps p.tables e below (T.setTop (mkF m pc Ls (.int z :: rest))) (T.setFrames fs) := by
  have hm' : T.vm.method? m = some meth := X.method'
  have hn : narrow .int (.int z) = .int z := rfl
  show Steps p.tables e below (T.setTop { method := m, pc := pc, locals := Ls, stack := _ :: rest, locked := none }) _
  jvm_step X.here [X.here.top, hx, hd, hm', hret, hn]
  first | (intro acts; rw [hl _ acts rfl rfl rfl]) | rw [hl _ _ rfl rfl rfl]
  exact Steps.refl _
theorem own_lremM {g : JFrame} {target : State} (X : Stand p l e R s m args below meth c T locs cells slots) (hx : p.tables.exec = Jvm.exec) (hg : g.method = m) {x y : Int64} {rest : List Value} (hd : decode c.code g.pc = .ok (.lrem, 1)) (hs : g.stack = .long y :: .long x :: rest) (hy : y ≠ 0)
    (hr : Steps p.tables e below (T.setTop { g with pc := g.pc + 1, stack := .long (x % y) :: rest }) target) : Steps p.tables e below (T.setTop g) target := by
  have q : x - x / y * y = x % y := lrem_mod x y
  exact XS.lrem X.here hx hg hd hs hy (by rw [q]; exact hr)
theorem own_selP {Z : State} {a0 : Array Value} {C : String} {n : Nat} {y : MethodName} (hC : y.cls = C) (wi : (Cond.instantiable C n).before a0 Z = true) (wm : (Cond.instanceMethod y).before a0 Z = true) (wp : (Cond.privateMethod y).before a0 Z = true) (hy : y.cls ≠ "java/lang/invoke/MethodHandle" ∧ y.cls ≠ "java/lang/invoke/VarHandle") : (Cond.selects y.cls y y).before a0 Z = true := by
  obtain ⟨c, k, h1, h2, h3, h4, -⟩ := Cond.instantiable_spec wi
  simp only [Bool.or_eq_false_iff] at h4
  subst hC
  exact selects_self_of_private h1 h2 h4.1 (Cond.privateMethod_at wp) wm hy
end New
end Jvm.RoadKit
namespace Jvm.Pilot.@@N@@
open Jvm Jvm.ClassFile Sem Op Lib Jvm.Free Jvm.Stand Jvm.LawKit Jvm.RoadKit Bundle Jvm.Pilot.@@N@@.Jvm.D
def own_tab : List Jvm.Cond := tables_1 ++ jdkStatics_1
theorem own_len {s : State} {args : Array Value} {t : Term} {a : Addr} {c : Cell} {ty : FieldType} {n : Int32} (ev : t.eval args s none [] s = some (.ref a)) (A : Arr s s.heap a c ty) (h : (Jvm.Cond.eq (Term.length t) (Term.int n)).value args s none s [] = some true) : c.slots.size < 2 ^ 31 ∧ c.slots.size.toInt32 = n := by
  obtain ⟨x, y, h1, h2, h3, h4⟩ := cmp_v (Or.inl h)
  have e2 : y = .int n := (Option.some.inj h2).symm
  subst e2
  obtain ⟨z, rfl⟩ := h4
  have q : z = n := by
    simp only [Cond.value, h1, h2] at h; simpa using h
  subst q
  have hat : s.arrayAt? a = some c := A.fin (Vm.Alike.refl _)
  simp only [Term.eval, ev, hat, Option.bind_eq_bind, Option.bind_some] at h1
  split at h1
  · rename_i g3
    exact ⟨g3, Value.int.inj (Option.some.inj h1)⟩
  · cases h1
theorem own_size {c : Cell} {n : Int32} (h : c.slots.size < 2 ^ 31 ∧ c.slots.size.toInt32 = n) : (c.slots.size : Int) = n.toInt := by
  rw [← h.2]; exact (Int32.toInt_ofNat_of_lt h.1).symm
theorem own_len0 {s : State} {args : Array Value} {t : Term} {a : Addr} {c : Cell} {ty : FieldType} (hf : Fit s) (ev : t.eval args s none [] s = some (.ref a)) (A : Arr s s.heap a c ty) (h : (Jvm.Cond.eq (Term.length t) (Term.int (0 : Int32))).value args s none s [] = some true) : Arv s s.heap a c.cls ty (0 : Int32) [] (defaultValue ty) := by
  have q := own_len ev A h
  have hz : c.slots.size = 0 := by
    have e := own_size q
    have k0 : (0 : Int32).toInt = 0 := by decide
    omega
  exact Arv.start hf A q.1 q.2 (by decide) rfl trivial
def own_is (xs : List Int32) : List Value := xs.map Value.int
theorem own_is_getD (xs : List Int32) (i : Nat) : (own_is xs).getD i (.int 0) = .int (xs.getD i 0) := by
  simp only [own_is, List.getD_eq_getElem?_getD, List.getElem?_map]
  cases xs[i]? <;> rfl
def own_b (b0 b1 b2 b3 i : Int32) : Int32 := [b0, b1, b2, b3].getD i.toNatClampNeg 0
def own_isNl (nn b0 b1 b2 b3 i : Int32) : Int32 := if i < (0 : Int32) then (0 : Int32) else if i < nn then (if own_b b0 b1 b2 b3 i = (10 : Int32) then (1 : Int32) else (0 : Int32)) else (0 : Int32)
def own_isStart (nn b0 b1 b2 b3 i : Int32) : Int32 := if i < (0 : Int32) then (0 : Int32) else if i < nn then (if i = (0 : Int32) then (1 : Int32) else if own_b b0 b1 b2 b3 (i - (1 : Int32)) = (10 : Int32) then (1 : Int32) else (0 : Int32)) else (0 : Int32)
def own_ink (b0 b1 b2 b3 i s e : Int32) : Int32 := if i < s then (0 : Int32) else if i < e then (if own_b b0 b1 b2 b3 i = (32 : Int32) then (0 : Int32) else if own_b b0 b1 b2 b3 i = (9 : Int32) then (0 : Int32) else if own_b b0 b1 b2 b3 i = (13 : Int32) then (0 : Int32) else if own_b b0 b1 b2 b3 i = (10 : Int32) then (0 : Int32) else (1 : Int32)) else (0 : Int32)
def own_hasInk (b0 b1 b2 b3 s e : Int32) : Int32 := if own_ink b0 b1 b2 b3 (0 : Int32) s e = (0 : Int32) then (if own_ink b0 b1 b2 b3 (1 : Int32) s e = (0 : Int32) then (if own_ink b0 b1 b2 b3 (2 : Int32) s e = (0 : Int32) then (if own_ink b0 b1 b2 b3 (3 : Int32) s e = (0 : Int32) then (0 : Int32) else (1 : Int32)) else (1 : Int32)) else (1 : Int32)) else (1 : Int32)
theorem own_pm {i nn : Int32} (h1 : ¬ i < (0 : Int32)) (h2 : i < nn) (h3 : ¬ i = (0 : Int32)) : ¬ (i - (1 : Int32)) < 0 ∧ (i - (1 : Int32)) < nn := by
  have e := c_isub i 1
  have r := rng32 i
  have r2 := rng32 (i - 1)
  have k0 : (0 : Int32).toInt = 0 := by decide
  have k1 : (1 : Int32).toInt = 1 := by decide
  rw [← Int32.toInt_inj] at h3
  rw [Int32.lt_iff_toInt_lt] at h1 h2
  rw [Int32.lt_iff_toInt_lt, Int32.lt_iff_toInt_lt]
  omega
theorem own_le {i s e nn : Int32} (h0 : ¬ s < (0 : Int32)) (h1 : ¬ nn < e) (h2 : ¬ i < s) (h3 : i < e) : ¬ i < 0 ∧ i < nn := by
  have k0 : (0 : Int32).toInt = 0 := by decide
  rw [Int32.lt_iff_toInt_lt] at h0 h1 h2 h3
  rw [Int32.lt_iff_toInt_lt, Int32.lt_iff_toInt_lt]
  omega
def own_end (nn b0 b1 b2 b3 s : Int32) : Int32 :=
  let e3 : Int32 := (if (3 : Int32) < s then nn else (if (own_isNl nn b0 b1 b2 b3 (3 : Int32)) = (0 : Int32) then nn else (3 : Int32)))
  let e2 : Int32 := (if (2 : Int32) < s then e3 else (if (own_isNl nn b0 b1 b2 b3 (2 : Int32)) = (0 : Int32) then e3 else (2 : Int32)))
  let e1 : Int32 := (if (1 : Int32) < s then e2 else (if (own_isNl nn b0 b1 b2 b3 (1 : Int32)) = (0 : Int32) then e2 else (1 : Int32)))
  let e0 : Int32 := (if (0 : Int32) < s then e1 else (if (own_isNl nn b0 b1 b2 b3 (0 : Int32)) = (0 : Int32) then e1 else (0 : Int32)))
  e0
def own_nb (nn b0 b1 b2 b3 s : Int32) : Int32 :=
  let c0 : Int32 := (if (0 : Int32) < s then (if (own_isNl nn b0 b1 b2 b3 (0 : Int32)) = (0 : Int32) then (0 : Int32) else (1 : Int32)) else (0 : Int32))
  let c1 : Int32 := (if (1 : Int32) < s then (if (own_isNl nn b0 b1 b2 b3 (1 : Int32)) = (0 : Int32) then c0 else (c0 + (1 : Int32))) else c0)
  let c2 : Int32 := (if (2 : Int32) < s then (if (own_isNl nn b0 b1 b2 b3 (2 : Int32)) = (0 : Int32) then c1 else (c1 + (1 : Int32))) else c1)
  let c3 : Int32 := (if (3 : Int32) < s then (if (own_isNl nn b0 b1 b2 b3 (3 : Int32)) = (0 : Int32) then c2 else (c2 + (1 : Int32))) else c2)
  c3
theorem own_isNl_lt {nn b0 b1 b2 b3 i : Int32} (h : ¬ own_isNl nn b0 b1 b2 b3 i = (0 : Int32)) : ¬ nn < i := by
  unfold own_isNl at h
  by_cases h1 : i < (0 : Int32)
  · rw [if_pos h1] at h; exact absurd rfl h
  · rw [if_neg h1] at h
    by_cases h2 : i < nn
    · intro q
      rw [Int32.lt_iff_toInt_lt] at h2 q; omega
    · rw [if_neg h2] at h; exact absurd rfl h
theorem own_step {nn e s i v : Int32} (he : ¬ nn < e) (hi : ¬ v = (0 : Int32) → ¬ nn < i) : ¬ nn < (if i < s then e else (if v = (0 : Int32) then e else i)) := by
  by_cases h1 : i < s
  · rw [if_pos h1]; exact he
  · rw [if_neg h1]
    by_cases h2 : v = (0 : Int32)
    · rw [if_pos h2]; exact he
    · rw [if_neg h2]; exact hi h2
theorem own_end_le (nn b0 b1 b2 b3 s : Int32) : ¬ nn < own_end nn b0 b1 b2 b3 s := by
  have h : ¬ nn < nn := by rw [Int32.lt_iff_toInt_lt]; omega
  exact own_step (own_step (own_step (own_step h own_isNl_lt) own_isNl_lt) own_isNl_lt) own_isNl_lt
theorem own_isStart_nn {nn b0 b1 b2 b3 s : Int32} (h : ¬ own_isStart nn b0 b1 b2 b3 s = (0 : Int32)) : ¬ s < (0 : Int32) := by
  intro q
  unfold own_isStart at h
  rw [if_pos q] at h; exact absurd rfl h
def own_good (nn b0 b1 b2 b3 s : Int32) : Int32 := if (own_isStart nn b0 b1 b2 b3 s) = (0 : Int32) then (0 : Int32) else if (own_hasInk b0 b1 b2 b3 s (own_end nn b0 b1 b2 b3 s)) = (0 : Int32) then (0 : Int32) else (1 : Int32)
def own_ws (b : Int32) : Prop := b = (32 : Int32) ∨ b = (9 : Int32) ∨ b = (13 : Int32)
instance (b : Int32) : Decidable (own_ws b) := inferInstanceAs (Decidable (_ ∨ _))
theorem own_ws3 {b : Int32} (h : own_ws b) (h1 : ¬ b = (32 : Int32)) (h2 : ¬ b = (9 : Int32)) : b = (13 : Int32) := h.elim (fun q => absurd q h1) (fun q => q.elim (fun r => absurd r h2) id)
theorem own_wsn1 {b : Int32} (h : ¬ own_ws b) : ¬ b = (32 : Int32) := fun q => h (Or.inl q)
theorem own_wsn2 {b : Int32} (h : ¬ own_ws b) : ¬ b = (9 : Int32) := fun q => h (Or.inr (Or.inl q))
theorem own_wsn3 {b : Int32} (h : ¬ own_ws b) : ¬ b = (13 : Int32) := fun q => h (Or.inr (Or.inr q))
theorem own_lt1 {i j nn : Int32} (h : i < nn) (k : j.toInt ≤ i.toInt + 1) : ¬ nn < j := by
  rw [Int32.lt_iff_toInt_lt] at h ⊢; omega
theorem own_ge4 {i nn : Int32} (hn : 0 ≤ nn.toInt ∧ nn.toInt ≤ 4) (k : 4 ≤ i.toInt) : ¬ i < nn := by
  rw [Int32.lt_iff_toInt_lt]; omega
theorem own_ge4e {i nn e : Int32} (hn : 0 ≤ nn.toInt ∧ nn.toInt ≤ 4) (he : ¬ nn < e) (k : 4 ≤ i.toInt) : ¬ i < e := by
  rw [Int32.lt_iff_toInt_lt] at he ⊢; omega
theorem own_mono {i j nn : Int32} (h : ¬ i < nn) (k : i.toInt ≤ j.toInt) : ¬ j < nn := by
  rw [Int32.lt_iff_toInt_lt] at h ⊢; omega
abbrev OwnL := List (Int32 × Int32 × Int32)
def own_sz (L : OwnL) : Int32 := Int32.ofNat L.length
def own_tn (L : OwnL) (j : Int32) : Int32 := (L.getD j.toNatClampNeg (0, 0, 0)).1
def own_to (L : OwnL) (j : Int32) : Int32 := (L.getD j.toNatClampNeg (0, 0, 0)).2.1
def own_tl (L : OwnL) (j : Int32) : Int32 := (L.getD j.toNatClampNeg (0, 0, 0)).2.2
def own_lines (Z : State) (h : Heap) (rl : Addr) (L : OwnL) : Prop := ∀ j : Int32, ¬ j < (0 : Int32) → j < own_sz L → ∃ (ed x : Addr) (k : ClassId) (vs : List Value), Fld Z h rl "java/util/ArrayList" "elementData" "[Ljava/lang/Object;" (.ref ed) ∧ Arv Z h ed k (.object "java/lang/Object") (10 : Int32) vs .null ∧ j < (10 : Int32) ∧ vs.getD j.toNatClampNeg .null = .ref x ∧ Exa Z h x "com/example/rank_keeper/rankkeeper/BodyLines$Line" ∧ Fld Z h x "com/example/rank_keeper/rankkeeper/BodyLines$Line" "number" "I" (.int (own_tn L j)) ∧ Fld Z h x "com/example/rank_keeper/rankkeeper/BodyLines$Line" "offset" "I" (.int (own_to L j)) ∧ Fld Z h x "com/example/rank_keeper/rankkeeper/BodyLines$Line" "length" "I" (.int (own_tl L j))
theorem own_lines0 {Z : State} {h : Heap} {rl : Addr} : own_lines Z h rl [] := fun j h0 h1 => absurd h1 (own_mono (i := (0 : Int32)) (by decide) (by
  rw [Int32.lt_iff_toInt_lt] at h0
  have k0 : (0 : Int32).toInt = 0 := by decide
  omega))
theorem own_j1 {j m : Int32} (hm : m.toInt = 1) (h0 : ¬ j < (0 : Int32)) (h1 : j < m) : j = (0 : Int32) := by
  rw [Int32.lt_iff_toInt_lt] at h0 h1
  have k0 : (0 : Int32).toInt = 0 := by decide
  exact Int32.toInt_inj.mp (by omega)
theorem own_j2 {j m : Int32} (hm : m.toInt = 2) (h0 : ¬ j < (0 : Int32)) (h1 : j < m) : j = (0 : Int32) ∨ j = (1 : Int32) := by
  rw [Int32.lt_iff_toInt_lt] at h0 h1
  have k0 : (0 : Int32).toInt = 0 := by decide
  have k1 : (1 : Int32).toInt = 1 := by decide
  have q : j.toInt = 0 ∨ j.toInt = 1 := by omega
  rcases q with q | q
  · exact Or.inl (Int32.toInt_inj.mp (by omega))
  · exact Or.inr (Int32.toInt_inj.mp (by omega))
theorem own_lines1 {Z : State} {h : Heap} {rl ed x0 : Addr} {k : ClassId} {n0 o0 l0 : Int32} (Fe : Fld Z h rl "java/util/ArrayList" "elementData" "[Ljava/lang/Object;" (.ref ed)) (Ve : Arv Z h ed k (.object "java/lang/Object") (10 : Int32) [(.ref x0), .null, .null, .null, .null, .null, .null, .null, .null, .null] .null) (E0 : Exa Z h x0 "com/example/rank_keeper/rankkeeper/BodyLines$Line") (N0 : Fld Z h x0 "com/example/rank_keeper/rankkeeper/BodyLines$Line" "number" "I" (.int n0)) (O0 : Fld Z h x0 "com/example/rank_keeper/rankkeeper/BodyLines$Line" "offset" "I" (.int o0)) (L0 : Fld Z h x0 "com/example/rank_keeper/rankkeeper/BodyLines$Line" "length" "I" (.int l0)) : own_lines Z h rl [(n0, o0, l0)] := fun j h0 h1 => by
  obtain rfl := own_j1 (m := own_sz [(n0, o0, l0)]) rfl h0 h1
  exact ⟨ed, x0, k, _, Fe, Ve, by decide, rfl, E0, N0, O0, L0⟩
theorem own_lines2 {Z : State} {h : Heap} {rl ed x0 x1 : Addr} {k : ClassId} {n0 o0 l0 n1 o1 l1 : Int32} (Fe : Fld Z h rl "java/util/ArrayList" "elementData" "[Ljava/lang/Object;" (.ref ed)) (Ve : Arv Z h ed k (.object "java/lang/Object") (10 : Int32) [(.ref x0), (.ref x1), .null, .null, .null, .null, .null, .null, .null, .null] .null) (E0 : Exa Z h x0 "com/example/rank_keeper/rankkeeper/BodyLines$Line") (N0 : Fld Z h x0 "com/example/rank_keeper/rankkeeper/BodyLines$Line" "number" "I" (.int n0)) (O0 : Fld Z h x0 "com/example/rank_keeper/rankkeeper/BodyLines$Line" "offset" "I" (.int o0)) (L0 : Fld Z h x0 "com/example/rank_keeper/rankkeeper/BodyLines$Line" "length" "I" (.int l0)) (E1 : Exa Z h x1 "com/example/rank_keeper/rankkeeper/BodyLines$Line") (N1 : Fld Z h x1 "com/example/rank_keeper/rankkeeper/BodyLines$Line" "number" "I" (.int n1)) (O1 : Fld Z h x1 "com/example/rank_keeper/rankkeeper/BodyLines$Line" "offset" "I" (.int o1)) (L1 : Fld Z h x1 "com/example/rank_keeper/rankkeeper/BodyLines$Line" "length" "I" (.int l1)) : own_lines Z h rl [(n0, o0, l0), (n1, o1, l1)] := fun j h0 h1 => by
  rcases own_j2 (m := own_sz [(n0, o0, l0), (n1, o1, l1)]) rfl h0 h1 with rfl | rfl
  · exact ⟨ed, x0, k, _, Fe, Ve, by decide, rfl, E0, N0, O0, L0⟩
  · exact ⟨ed, x1, k, _, Fe, Ve, by decide, rfl, E1, N1, O1, L1⟩
def own_at (nn b0 b1 b2 b3 : Int32) (L : OwnL) (j p : Int32) : Int32 := if p = (-2 : Int32) then (-2 : Int32) else if j < own_sz L then (if p < own_to L j then (if own_good nn b0 b1 b2 b3 (own_to L j) = (1 : Int32) then (if own_tl L j = (own_end nn b0 b1 b2 b3 (own_to L j) - own_to L j) then (if own_tn L j = ((1 : Int32) + own_nb nn b0 b1 b2 b3 (own_to L j)) then own_to L j else (-2 : Int32)) else (-2 : Int32)) else (-2 : Int32)) else (-2 : Int32)) else p
def own_bl_0 (b0 b1 b2 b3 p2 : Int32) : Int32 := if (0 : Int32) < p2 then (if own_ws (own_b b0 b1 b2 b3 (0 : Int32)) then (if (1 : Int32) < p2 then (if own_ws (own_b b0 b1 b2 b3 (1 : Int32)) then (if (2 : Int32) < p2 then (if own_ws (own_b b0 b1 b2 b3 (2 : Int32)) then (if (3 : Int32) < p2 then (if own_ws (own_b b0 b1 b2 b3 (3 : Int32)) then ((1 : Int32)) else (0 : Int32)) else (1 : Int32)) else (0 : Int32)) else (1 : Int32)) else (0 : Int32)) else (1 : Int32)) else (0 : Int32)) else (1 : Int32)
theorem own_bls0 (b0 b1 b2 b3 : Int32) : ¬ (own_bl_0 b0 b1 b2 b3 (0 : Int32)) = (0 : Int32) := by unfold own_bl_0; rw [if_neg (by decide)]; decide
def own_bl_3 (b0 b1 b2 b3 p2 : Int32) : Int32 := if (3 : Int32) < p2 then (if own_ws (own_b b0 b1 b2 b3 (3 : Int32)) then ((1 : Int32)) else (0 : Int32)) else (1 : Int32)
theorem own_bls3 (b0 b1 b2 b3 : Int32) : ¬ (own_bl_3 b0 b1 b2 b3 (3 : Int32)) = (0 : Int32) := by unfold own_bl_3; rw [if_neg (by decide)]; decide
def own_bl_2 (b0 b1 b2 b3 p2 : Int32) : Int32 := if (2 : Int32) < p2 then (if own_ws (own_b b0 b1 b2 b3 (2 : Int32)) then (if (3 : Int32) < p2 then (if own_ws (own_b b0 b1 b2 b3 (3 : Int32)) then ((1 : Int32)) else (0 : Int32)) else (1 : Int32)) else (0 : Int32)) else (1 : Int32)
theorem own_bls2 (b0 b1 b2 b3 : Int32) : ¬ (own_bl_2 b0 b1 b2 b3 (2 : Int32)) = (0 : Int32) := by unfold own_bl_2; rw [if_neg (by decide)]; decide
def own_bl_1 (b0 b1 b2 b3 p2 : Int32) : Int32 := if (1 : Int32) < p2 then (if own_ws (own_b b0 b1 b2 b3 (1 : Int32)) then (if (2 : Int32) < p2 then (if own_ws (own_b b0 b1 b2 b3 (2 : Int32)) then (if (3 : Int32) < p2 then (if own_ws (own_b b0 b1 b2 b3 (3 : Int32)) then ((1 : Int32)) else (0 : Int32)) else (1 : Int32)) else (0 : Int32)) else (1 : Int32)) else (0 : Int32)) else (1 : Int32)
theorem own_bls1 (b0 b1 b2 b3 : Int32) : ¬ (own_bl_1 b0 b1 b2 b3 (1 : Int32)) = (0 : Int32) := by unfold own_bl_1; rw [if_neg (by decide)]; decide
def own_split (nn b0 b1 b2 b3 : Int32) : OwnL := if (0 : Int32) < nn then (if (0 : Int32) < nn ∧ ¬ (own_b b0 b1 b2 b3 (0 : Int32)) = (10 : Int32) then (if (1 : Int32) < nn ∧ ¬ (own_b b0 b1 b2 b3 (1 : Int32)) = (10 : Int32) then (if (2 : Int32) < nn ∧ ¬ (own_b b0 b1 b2 b3 (2 : Int32)) = (10 : Int32) then (if (3 : Int32) < nn ∧ ¬ (own_b b0 b1 b2 b3 (3 : Int32)) = (10 : Int32) then (if (own_bl_0 b0 b1 b2 b3 (4 : Int32)) = (0 : Int32) then ([((1 : Int32), (0 : Int32), (4 : Int32))]) else ([])) else (if (own_bl_0 b0 b1 b2 b3 (3 : Int32)) = (0 : Int32) then ([((1 : Int32), (0 : Int32), (3 : Int32))]) else ([]))) else (if (own_bl_0 b0 b1 b2 b3 (2 : Int32)) = (0 : Int32) then (if (3 : Int32) < nn then (if (3 : Int32) < nn ∧ ¬ (own_b b0 b1 b2 b3 (3 : Int32)) = (10 : Int32) then (if (own_bl_3 b0 b1 b2 b3 (4 : Int32)) = (0 : Int32) then ([((1 : Int32), (0 : Int32), (2 : Int32)), ((2 : Int32), (3 : Int32), (1 : Int32))]) else ([((1 : Int32), (0 : Int32), (2 : Int32))])) else ([((1 : Int32), (0 : Int32), (2 : Int32))])) else ([((1 : Int32), (0 : Int32), (2 : Int32))])) else (if (3 : Int32) < nn then (if (3 : Int32) < nn ∧ ¬ (own_b b0 b1 b2 b3 (3 : Int32)) = (10 : Int32) then (if (own_bl_3 b0 b1 b2 b3 (4 : Int32)) = (0 : Int32) then ([((2 : Int32), (3 : Int32), (1 : Int32))]) else ([])) else ([])) else ([])))) else (if (own_bl_0 b0 b1 b2 b3 (1 : Int32)) = (0 : Int32) then (if (2 : Int32) < nn then (if (2 : Int32) < nn ∧ ¬ (own_b b0 b1 b2 b3 (2 : Int32)) = (10 : Int32) then (if (3 : Int32) < nn ∧ ¬ (own_b b0 b1 b2 b3 (3 : Int32)) = (10 : Int32) then (if (own_bl_2 b0 b1 b2 b3 (4 : Int32)) = (0 : Int32) then ([((1 : Int32), (0 : Int32), (1 : Int32)), ((2 : Int32), (2 : Int32), (2 : Int32))]) else ([((1 : Int32), (0 : Int32), (1 : Int32))])) else (if (own_bl_2 b0 b1 b2 b3 (3 : Int32)) = (0 : Int32) then ([((1 : Int32), (0 : Int32), (1 : Int32)), ((2 : Int32), (2 : Int32), (1 : Int32))]) else ([((1 : Int32), (0 : Int32), (1 : Int32))]))) else (if (3 : Int32) < nn then (if (3 : Int32) < nn ∧ ¬ (own_b b0 b1 b2 b3 (3 : Int32)) = (10 : Int32) then (if (own_bl_3 b0 b1 b2 b3 (4 : Int32)) = (0 : Int32) then ([((1 : Int32), (0 : Int32), (1 : Int32)), ((3 : Int32), (3 : Int32), (1 : Int32))]) else ([((1 : Int32), (0 : Int32), (1 : Int32))])) else ([((1 : Int32), (0 : Int32), (1 : Int32))])) else ([((1 : Int32), (0 : Int32), (1 : Int32))]))) else ([((1 : Int32), (0 : Int32), (1 : Int32))])) else (if (2 : Int32) < nn then (if (2 : Int32) < nn ∧ ¬ (own_b b0 b1 b2 b3 (2 : Int32)) = (10 : Int32) then (if (3 : Int32) < nn ∧ ¬ (own_b b0 b1 b2 b3 (3 : Int32)) = (10 : Int32) then (if (own_bl_2 b0 b1 b2 b3 (4 : Int32)) = (0 : Int32) then ([((2 : Int32), (2 : Int32), (2 : Int32))]) else ([])) else (if (own_bl_2 b0 b1 b2 b3 (3 : Int32)) = (0 : Int32) then ([((2 : Int32), (2 : Int32), (1 : Int32))]) else ([]))) else (if (3 : Int32) < nn then (if (3 : Int32) < nn ∧ ¬ (own_b b0 b1 b2 b3 (3 : Int32)) = (10 : Int32) then (if (own_bl_3 b0 b1 b2 b3 (4 : Int32)) = (0 : Int32) then ([((3 : Int32), (3 : Int32), (1 : Int32))]) else ([])) else ([])) else ([]))) else ([])))) else (if (1 : Int32) < nn then (if (1 : Int32) < nn ∧ ¬ (own_b b0 b1 b2 b3 (1 : Int32)) = (10 : Int32) then (if (2 : Int32) < nn ∧ ¬ (own_b b0 b1 b2 b3 (2 : Int32)) = (10 : Int32) then (if (3 : Int32) < nn ∧ ¬ (own_b b0 b1 b2 b3 (3 : Int32)) = (10 : Int32) then (if (own_bl_1 b0 b1 b2 b3 (4 : Int32)) = (0 : Int32) then ([((2 : Int32), (1 : Int32), (3 : Int32))]) else ([])) else (if (own_bl_1 b0 b1 b2 b3 (3 : Int32)) = (0 : Int32) then ([((2 : Int32), (1 : Int32), (2 : Int32))]) else ([]))) else (if (own_bl_1 b0 b1 b2 b3 (2 : Int32)) = (0 : Int32) then (if (3 : Int32) < nn then (if (3 : Int32) < nn ∧ ¬ (own_b b0 b1 b2 b3 (3 : Int32)) = (10 : Int32) then (if (own_bl_3 b0 b1 b2 b3 (4 : Int32)) = (0 : Int32) then ([((2 : Int32), (1 : Int32), (1 : Int32)), ((3 : Int32), (3 : Int32), (1 : Int32))]) else ([((2 : Int32), (1 : Int32), (1 : Int32))])) else ([((2 : Int32), (1 : Int32), (1 : Int32))])) else ([((2 : Int32), (1 : Int32), (1 : Int32))])) else (if (3 : Int32) < nn then (if (3 : Int32) < nn ∧ ¬ (own_b b0 b1 b2 b3 (3 : Int32)) = (10 : Int32) then (if (own_bl_3 b0 b1 b2 b3 (4 : Int32)) = (0 : Int32) then ([((3 : Int32), (3 : Int32), (1 : Int32))]) else ([])) else ([])) else ([])))) else (if (2 : Int32) < nn then (if (2 : Int32) < nn ∧ ¬ (own_b b0 b1 b2 b3 (2 : Int32)) = (10 : Int32) then (if (3 : Int32) < nn ∧ ¬ (own_b b0 b1 b2 b3 (3 : Int32)) = (10 : Int32) then (if (own_bl_2 b0 b1 b2 b3 (4 : Int32)) = (0 : Int32) then ([((3 : Int32), (2 : Int32), (2 : Int32))]) else ([])) else (if (own_bl_2 b0 b1 b2 b3 (3 : Int32)) = (0 : Int32) then ([((3 : Int32), (2 : Int32), (1 : Int32))]) else ([]))) else (if (3 : Int32) < nn then (if (3 : Int32) < nn ∧ ¬ (own_b b0 b1 b2 b3 (3 : Int32)) = (10 : Int32) then (if (own_bl_3 b0 b1 b2 b3 (4 : Int32)) = (0 : Int32) then ([((4 : Int32), (3 : Int32), (1 : Int32))]) else ([])) else ([])) else ([]))) else ([]))) else ([]))) else ([])
theorem own_n7 (x : Int32) : 0 ≤ ((x &&& (7 : Int32)) % (5 : Int32)).toInt ∧ ((x &&& (7 : Int32)) % (5 : Int32)).toInt ≤ 4 := by
  have h := (c_and x 7 (by decide)).1
  have q := (c_irem (x &&& 7) 5 5 (by decide)).1 h
  rw [q]; exact ⟨Int.emod_nonneg _ (by omega), by have := Int.emod_lt_of_pos (x &&& 7).toInt (b := 5) (by omega); omega⟩
theorem own_nneg {nn : Int32} (hn : 0 ≤ nn.toInt ∧ nn.toInt ≤ 4) : ¬ nn < 0 := by
  have k0 : (0 : Int32).toInt = 0 := by decide
  rw [Int32.lt_iff_toInt_lt]; omega
theorem own_ncap {nn : Int32} (hn : 0 ≤ nn.toInt ∧ nn.toInt ≤ 4) : nn.toNatClampNeg ≤ 4 := by
  show nn.toInt.toNat ≤ 4
  omega
def own_r (b : Int32) : Int32 := if b = (10 : Int32) then (10 : Int32) else if own_ws b then (32 : Int32) else (65 : Int32)
theorem own_r10 (b : Int32) : (own_r b = (10 : Int32)) = (b = (10 : Int32)) := by
  unfold own_r
  by_cases h : b = (10 : Int32)
  · rw [if_pos h]; simp [h]
  · rw [if_neg h]
    by_cases h2 : own_ws b
    · rw [if_pos h2]; simp [h]
    · rw [if_neg h2]; simp [h]
theorem own_rws (b : Int32) : (own_ws (own_r b)) = (own_ws b) := by
  unfold own_r
  by_cases h : b = (10 : Int32)
  · rw [if_pos h, h]
  · rw [if_neg h]
    by_cases h2 : own_ws b
    · rw [if_pos h2]; exact propext ⟨fun _ => h2, fun _ => by decide⟩
    · rw [if_neg h2]; exact propext ⟨fun q => absurd q (by decide), fun q => absurd q h2⟩
theorem own_bR (b0 b1 b2 b3 i : Int32) (hi : i.toNatClampNeg < 4) : own_b (own_r b0) (own_r b1) (own_r b2) (own_r b3) i = own_r (own_b b0 b1 b2 b3 i) := by
  unfold own_b
  generalize i.toNatClampNeg = k at hi
  match k, hi with
  | 0, _ => rfl
  | 1, _ => rfl
  | 2, _ => rfl
  | 3, _ => rfl
theorem own_b10 (b0 b1 b2 b3 i : Int32) : (own_b (own_r b0) (own_r b1) (own_r b2) (own_r b3) i = (10 : Int32)) = (own_b b0 b1 b2 b3 i = (10 : Int32)) := by
  by_cases hi : i.toNatClampNeg < 4
  · rw [own_bR _ _ _ _ _ hi, own_r10]
  · have e : ∀ x0 x1 x2 x3 : Int32, own_b x0 x1 x2 x3 i = 0 := fun x0 x1 x2 x3 => by
      unfold own_b
      rw [List.getD_eq_getElem?_getD, List.getElem?_eq_none (by simpa using hi)]; rfl
    rw [e, e]
def own_g (b : Int32) : Int32 := if b = (32 : Int32) then (0 : Int32) else if b = (9 : Int32) then (0 : Int32) else if b = (13 : Int32) then (0 : Int32) else if b = (10 : Int32) then (0 : Int32) else (1 : Int32)
theorem own_gR (b : Int32) : own_g (own_r b) = own_g b := by
  unfold own_r
  by_cases h : b = (10 : Int32)
  · rw [if_pos h, h]
  · rw [if_neg h]
    by_cases h2 : own_ws b
    · rw [if_pos h2]
      rcases h2 with q | q | q <;> rw [q] <;> decide
    · rw [if_neg h2]
      unfold own_g
      rw [if_neg (own_wsn1 h2), if_neg (own_wsn2 h2), if_neg (own_wsn3 h2), if_neg h]
      decide
theorem own_bws (b0 b1 b2 b3 i : Int32) (hi : i.toNatClampNeg < 4) : (own_ws (own_b (own_r b0) (own_r b1) (own_r b2) (own_r b3) i)) = (own_ws (own_b b0 b1 b2 b3 i)) := by
  rw [own_bR _ _ _ _ _ hi, own_rws]
theorem own_isNlR (nn b0 b1 b2 b3 i : Int32) : own_isNl nn (own_r b0) (own_r b1) (own_r b2) (own_r b3) i = own_isNl nn b0 b1 b2 b3 i := by
  unfold own_isNl; simp only [own_b10]
theorem own_isStartR (nn b0 b1 b2 b3 i : Int32) : own_isStart nn (own_r b0) (own_r b1) (own_r b2) (own_r b3) i = own_isStart nn b0 b1 b2 b3 i := by
  unfold own_isStart; simp only [own_b10]
theorem own_inkR (b0 b1 b2 b3 i s e : Int32) (hi : i.toNatClampNeg < 4) : own_ink (own_r b0) (own_r b1) (own_r b2) (own_r b3) i s e = own_ink b0 b1 b2 b3 i s e := by
  have k : ∀ x0 x1 x2 x3 : Int32, own_ink x0 x1 x2 x3 i s e = if i < s then (0 : Int32) else if i < e then own_g (own_b x0 x1 x2 x3 i) else (0 : Int32) := fun _ _ _ _ => rfl
  rw [k, k, own_bR _ _ _ _ _ hi, own_gR]
theorem own_hasInkR (b0 b1 b2 b3 s e : Int32) : own_hasInk (own_r b0) (own_r b1) (own_r b2) (own_r b3) s e = own_hasInk b0 b1 b2 b3 s e := by
  unfold own_hasInk
  rw [own_inkR _ _ _ _ 0 _ _ (by decide), own_inkR _ _ _ _ 1 _ _ (by decide), own_inkR _ _ _ _ 2 _ _ (by decide), own_inkR _ _ _ _ 3 _ _ (by decide)]
theorem own_endR (nn b0 b1 b2 b3 s : Int32) : own_end nn (own_r b0) (own_r b1) (own_r b2) (own_r b3) s = own_end nn b0 b1 b2 b3 s := by
  unfold own_end; simp only [own_isNlR]
theorem own_nbR (nn b0 b1 b2 b3 s : Int32) : own_nb nn (own_r b0) (own_r b1) (own_r b2) (own_r b3) s = own_nb nn b0 b1 b2 b3 s := by
  unfold own_nb; simp only [own_isNlR]
theorem own_goodR (nn b0 b1 b2 b3 s : Int32) : own_good nn (own_r b0) (own_r b1) (own_r b2) (own_r b3) s = own_good nn b0 b1 b2 b3 s := by
  unfold own_good; simp only [own_isStartR, own_hasInkR, own_endR]
theorem own_atR (nn b0 b1 b2 b3 : Int32) (L : OwnL) (j p : Int32) : own_at nn (own_r b0) (own_r b1) (own_r b2) (own_r b3) L j p = own_at nn b0 b1 b2 b3 L j p := by
  unfold own_at; simp only [own_goodR, own_endR, own_nbR]
theorem own_bl_0R (b0 b1 b2 b3 p2 : Int32) : own_bl_0 (own_r b0) (own_r b1) (own_r b2) (own_r b3) p2 = own_bl_0 b0 b1 b2 b3 p2 := by
  unfold own_bl_0; simp only [own_bws _ _ _ _ 0 (by decide), own_bws _ _ _ _ 1 (by decide), own_bws _ _ _ _ 2 (by decide), own_bws _ _ _ _ 3 (by decide)]
theorem own_bl_1R (b0 b1 b2 b3 p2 : Int32) : own_bl_1 (own_r b0) (own_r b1) (own_r b2) (own_r b3) p2 = own_bl_1 b0 b1 b2 b3 p2 := by
  unfold own_bl_1; simp only [own_bws _ _ _ _ 1 (by decide), own_bws _ _ _ _ 2 (by decide), own_bws _ _ _ _ 3 (by decide)]
theorem own_bl_2R (b0 b1 b2 b3 p2 : Int32) : own_bl_2 (own_r b0) (own_r b1) (own_r b2) (own_r b3) p2 = own_bl_2 b0 b1 b2 b3 p2 := by
  unfold own_bl_2; simp only [own_bws _ _ _ _ 2 (by decide), own_bws _ _ _ _ 3 (by decide)]
theorem own_bl_3R (b0 b1 b2 b3 p2 : Int32) : own_bl_3 (own_r b0) (own_r b1) (own_r b2) (own_r b3) p2 = own_bl_3 b0 b1 b2 b3 p2 := by
  unfold own_bl_3; simp only [own_bws _ _ _ _ 3 (by decide)]
theorem own_splitR (nn b0 b1 b2 b3 : Int32) : own_split nn (own_r b0) (own_r b1) (own_r b2) (own_r b3) = own_split nn b0 b1 b2 b3 := by
  unfold own_split; simp only [own_b10, own_bl_0R, own_bl_1R, own_bl_2R, own_bl_3R]
def own_okA (nn b0 b1 b2 b3 : Int32) : Bool := own_sz (own_split nn b0 b1 b2 b3) == (((own_good nn b0 b1 b2 b3 (0 : Int32) + own_good nn b0 b1 b2 b3 (1 : Int32)) + own_good nn b0 b1 b2 b3 (2 : Int32)) + own_good nn b0 b1 b2 b3 (3 : Int32))
def own_okB (nn b0 b1 b2 b3 : Int32) : Bool := !(own_at nn b0 b1 b2 b3 (own_split nn b0 b1 b2 b3) (3 : Int32) (own_at nn b0 b1 b2 b3 (own_split nn b0 b1 b2 b3) (2 : Int32) (own_at nn b0 b1 b2 b3 (own_split nn b0 b1 b2 b3) (1 : Int32) (own_at nn b0 b1 b2 b3 (own_split nn b0 b1 b2 b3) (0 : Int32) (-1 : Int32)))) == (-2 : Int32))
def own_cs : List Int32 := [10, 32, 65]
theorem own_all : ([0, 1, 2, 3, 4] : List Int32).all (fun nn => own_cs.all fun b0 => own_cs.all fun b1 => own_cs.all fun b2 => own_cs.all fun b3 => own_okA nn b0 b1 b2 b3 && own_okB nn b0 b1 b2 b3) = true := by decide +kernel
theorem own_r_mem (b : Int32) : own_r b ∈ own_cs := by
  unfold own_r own_cs
  split
  · simp
  · split <;> simp
theorem own_n_mem {nn : Int32} (hn : 0 ≤ nn.toInt ∧ nn.toInt ≤ 4) : nn ∈ ([0, 1, 2, 3, 4] : List Int32) := by
  have q : nn.toInt = 0 ∨ nn.toInt = 1 ∨ nn.toInt = 2 ∨ nn.toInt = 3 ∨ nn.toInt = 4 := by omega
  have g : ∀ k : Int32, nn.toInt = k.toInt → nn = k := fun k h => Int32.toInt_inj.mp h
  rcases q with q | q | q | q | q
  · rw [g 0 q]; decide
  · rw [g 1 q]; decide
  · rw [g 2 q]; decide
  · rw [g 3 q]; decide
  · rw [g 4 q]; decide
theorem own_ok {nn : Int32} (hn : 0 ≤ nn.toInt ∧ nn.toInt ≤ 4) (b0 b1 b2 b3 : Int32) : own_okA nn (own_r b0) (own_r b1) (own_r b2) (own_r b3) = true ∧ own_okB nn (own_r b0) (own_r b1) (own_r b2) (own_r b3) = true := by
  have h := List.all_eq_true.mp own_all nn (own_n_mem hn)
  have h := List.all_eq_true.mp h _ (own_r_mem b0)
  have h := List.all_eq_true.mp h _ (own_r_mem b1)
  have h := List.all_eq_true.mp h _ (own_r_mem b2)
  have h := List.all_eq_true.mp h _ (own_r_mem b3)
  exact Bool.and_eq_true_iff.mp h
theorem own_lawA {nn b0 b1 b2 b3 : Int32} (hn : 0 ≤ nn.toInt ∧ nn.toInt ≤ 4) : own_sz (own_split nn b0 b1 b2 b3) = (((own_good nn b0 b1 b2 b3 (0 : Int32) + own_good nn b0 b1 b2 b3 (1 : Int32)) + own_good nn b0 b1 b2 b3 (2 : Int32)) + own_good nn b0 b1 b2 b3 (3 : Int32)) := by
  have h := (own_ok hn b0 b1 b2 b3).1
  unfold own_okA at h
  simp only [own_splitR, own_goodR] at h
  exact eq_of_beq h
theorem own_lawB {nn b0 b1 b2 b3 : Int32} (hn : 0 ≤ nn.toInt ∧ nn.toInt ≤ 4) : ¬ own_at nn b0 b1 b2 b3 (own_split nn b0 b1 b2 b3) (3 : Int32) (own_at nn b0 b1 b2 b3 (own_split nn b0 b1 b2 b3) (2 : Int32) (own_at nn b0 b1 b2 b3 (own_split nn b0 b1 b2 b3) (1 : Int32) (own_at nn b0 b1 b2 b3 (own_split nn b0 b1 b2 b3) (0 : Int32) (-1 : Int32)))) = (-2 : Int32) := by
  have h := (own_ok hn b0 b1 b2 b3).2
  unfold own_okB at h
  simp only [own_splitR, own_atR] at h
  intro q
  rw [q] at h
  exact absurd h (by decide)

abbrev OwnHw (Z : State) (a0 : Array Value) : Prop := ∀ d ∈ own_tab, d.before a0 Z = true
section OwnKw
variable {Z : State} {a0 : Array Value}
theorem kw0 (hw : OwnHw Z a0) : (Jvm.Cond.arrayClass Jvm.ClassFile.FieldType.byte).before a0 Z = true := hw _ (List.mem_of_getElem? (i := 0) rfl)
theorem kw1 (hw : OwnHw Z a0) : (Jvm.Cond.methodLink "com/example/rank_keeper/rankkeeper/BodyLinesSplitPinLaw" (13 : Nat) ({ cls := "com/example/rank_keeper/rankkeeper/BodyLines", name := "split", desc := "([B)Ljava/util/List;" } : Jvm.MethodName)).before a0 Z = true := hw _ (List.mem_of_getElem? (i := 1) rfl)
theorem kw2 (hw : OwnHw Z a0) : (Jvm.Cond.static ({ cls := "com/example/rank_keeper/rankkeeper/BodyLines", name := "split", desc := "([B)Ljava/util/List;" } : Jvm.MethodName)).before a0 Z = true := hw _ (List.mem_of_getElem? (i := 2) rfl)
theorem kw3 (hw : OwnHw Z a0) : (Jvm.Cond.initialized "com/example/rank_keeper/rankkeeper/BodyLines").before a0 Z = true := hw _ (List.mem_of_getElem? (i := 3) rfl)
theorem kw4 (hw : OwnHw Z a0) : (Jvm.Cond.code ({ cls := "com/example/rank_keeper/rankkeeper/BodyLines", name := "split", desc := "([B)Ljava/util/List;" } : Jvm.MethodName) prog_2_method_2_code (5 : Nat) (Option.some (Jvm.ClassFile.FieldType.object "java/util/List"))).before a0 Z = true := hw _ (List.mem_of_getElem? (i := 4) rfl)
theorem kw5 (hw : OwnHw Z a0) : (Jvm.Cond.stringLink "com/example/rank_keeper/rankkeeper/BodyLines" (7 : Nat) "body").before a0 Z = true := hw _ (List.mem_of_getElem? (i := 5) rfl)
theorem kw6 (hw : OwnHw Z a0) : (Jvm.Cond.initialized "java/lang/String").before a0 Z = true := hw _ (List.mem_of_getElem? (i := 6) rfl)
theorem kw7 (hw : OwnHw Z a0) : (Jvm.Cond.instantiable "java/lang/String" (4 : Nat)).before a0 Z = true := hw _ (List.mem_of_getElem? (i := 7) rfl)
theorem kw8 (hw : OwnHw Z a0) : (Jvm.Cond.laysFinal "java/lang/String" "java/lang/String" "value" "[B").before a0 Z = true := hw _ (List.mem_of_getElem? (i := 8) rfl)
theorem kw9 (hw : OwnHw Z a0) : (Jvm.Cond.laysFinal "java/lang/String" "java/lang/String" "coder" "B").before a0 Z = true := hw _ (List.mem_of_getElem? (i := 9) rfl)
theorem kw10 (hw : OwnHw Z a0) : (Jvm.Cond.soleField "java/lang/String" "value").before a0 Z = true := hw _ (List.mem_of_getElem? (i := 10) rfl)
theorem kw11 (hw : OwnHw Z a0) : (Jvm.Cond.soleField "java/lang/String" "coder").before a0 Z = true := hw _ (List.mem_of_getElem? (i := 11) rfl)
theorem kw12 (hw : OwnHw Z a0) : (Jvm.Cond.methodLink "com/example/rank_keeper/rankkeeper/BodyLines" (9 : Nat) ({ cls := "java/util/Objects", name := "requireNonNull", desc := "(Ljava/lang/Object;Ljava/lang/String;)Ljava/lang/Object;" } : Jvm.MethodName)).before a0 Z = true := hw _ (List.mem_of_getElem? (i := 12) rfl)
theorem kw13 (hw : OwnHw Z a0) : (Jvm.Cond.static ({ cls := "java/util/Objects", name := "requireNonNull", desc := "(Ljava/lang/Object;Ljava/lang/String;)Ljava/lang/Object;" } : Jvm.MethodName)).before a0 Z = true := hw _ (List.mem_of_getElem? (i := 13) rfl)
theorem kw14 (hw : OwnHw Z a0) : (Jvm.Cond.initialized "java/util/Objects").before a0 Z = true := hw _ (List.mem_of_getElem? (i := 14) rfl)
theorem kw15 (hw : OwnHw Z a0) : (Jvm.Cond.code ({ cls := "java/util/Objects", name := "requireNonNull", desc := "(Ljava/lang/Object;Ljava/lang/String;)Ljava/lang/Object;" } : Jvm.MethodName) jdk_31_method_11_code (2 : Nat) (Option.some (Jvm.ClassFile.FieldType.object "java/lang/Object"))).before a0 Z = true := hw _ (List.mem_of_getElem? (i := 15) rfl)
theorem kw16 (hw : OwnHw Z a0) : (Jvm.Cond.classLink "com/example/rank_keeper/rankkeeper/BodyLines" (15 : Nat) "java/util/ArrayList").before a0 Z = true := hw _ (List.mem_of_getElem? (i := 16) rfl)
theorem kw17 (hw : OwnHw Z a0) : (Jvm.Cond.instantiable "java/util/ArrayList" (3 : Nat)).before a0 Z = true := hw _ (List.mem_of_getElem? (i := 17) rfl)
theorem kw18 (hw : OwnHw Z a0) : (Jvm.Cond.initialized "java/util/ArrayList").before a0 Z = true := hw _ (List.mem_of_getElem? (i := 18) rfl)
theorem kw19 (hw : OwnHw Z a0) : (Jvm.Cond.methodLink "com/example/rank_keeper/rankkeeper/BodyLines" (17 : Nat) ({ cls := "java/util/ArrayList", name := "<init>", desc := "()V" } : Jvm.MethodName)).before a0 Z = true := hw _ (List.mem_of_getElem? (i := 19) rfl)
theorem kw20 (hw : OwnHw Z a0) : (Jvm.Cond.instanceMethod ({ cls := "java/util/ArrayList", name := "<init>", desc := "()V" } : Jvm.MethodName)).before a0 Z = true := hw _ (List.mem_of_getElem? (i := 20) rfl)
theorem kw21 (hw : OwnHw Z a0) : (Jvm.Cond.code ({ cls := "java/util/ArrayList", name := "<init>", desc := "()V" } : Jvm.MethodName) jdk_38_method_2_code (1 : Nat) (Option.none : Option Jvm.ClassFile.FieldType)).before a0 Z = true := hw _ (List.mem_of_getElem? (i := 21) rfl)
theorem kw22 (hw : OwnHw Z a0) : (Jvm.Cond.methodLink "java/util/ArrayList" (1 : Nat) ({ cls := "java/util/AbstractList", name := "<init>", desc := "()V" } : Jvm.MethodName)).before a0 Z = true := hw _ (List.mem_of_getElem? (i := 22) rfl)
theorem kw23 (hw : OwnHw Z a0) : (Jvm.Cond.instanceMethod ({ cls := "java/util/AbstractList", name := "<init>", desc := "()V" } : Jvm.MethodName)).before a0 Z = true := hw _ (List.mem_of_getElem? (i := 23) rfl)
theorem kw26 (hw : OwnHw Z a0) : (Jvm.Cond.initialized "java/util/AbstractList").before a0 Z = true := hw _ (List.mem_of_getElem? (i := 26) rfl)
theorem kw27 (hw : OwnHw Z a0) : (Jvm.Cond.code ({ cls := "java/util/AbstractList", name := "<init>", desc := "()V" } : Jvm.MethodName) jdk_39_method_1_code (1 : Nat) (Option.none : Option Jvm.ClassFile.FieldType)).before a0 Z = true := hw _ (List.mem_of_getElem? (i := 27) rfl)
theorem kw28 (hw : OwnHw Z a0) : (Jvm.Cond.methodLink "java/util/AbstractList" (1 : Nat) ({ cls := "java/util/AbstractCollection", name := "<init>", desc := "()V" } : Jvm.MethodName)).before a0 Z = true := hw _ (List.mem_of_getElem? (i := 28) rfl)
theorem kw29 (hw : OwnHw Z a0) : (Jvm.Cond.instanceMethod ({ cls := "java/util/AbstractCollection", name := "<init>", desc := "()V" } : Jvm.MethodName)).before a0 Z = true := hw _ (List.mem_of_getElem? (i := 29) rfl)
theorem kw32 (hw : OwnHw Z a0) : (Jvm.Cond.initialized "java/util/AbstractCollection").before a0 Z = true := hw _ (List.mem_of_getElem? (i := 32) rfl)
theorem kw33 (hw : OwnHw Z a0) : (Jvm.Cond.code ({ cls := "java/util/AbstractCollection", name := "<init>", desc := "()V" } : Jvm.MethodName) jdk_22_method_1_code (1 : Nat) (Option.none : Option Jvm.ClassFile.FieldType)).before a0 Z = true := hw _ (List.mem_of_getElem? (i := 33) rfl)
theorem kw34 (hw : OwnHw Z a0) : (Jvm.Cond.methodLink "java/util/AbstractCollection" (1 : Nat) ({ cls := "java/lang/Object", name := "<init>", desc := "()V" } : Jvm.MethodName)).before a0 Z = true := hw _ (List.mem_of_getElem? (i := 34) rfl)
theorem kw35 (hw : OwnHw Z a0) : (Jvm.Cond.instanceMethod ({ cls := "java/lang/Object", name := "<init>", desc := "()V" } : Jvm.MethodName)).before a0 Z = true := hw _ (List.mem_of_getElem? (i := 35) rfl)
theorem kw36 (hw : OwnHw Z a0) : (Jvm.Cond.code ({ cls := "java/lang/Object", name := "<init>", desc := "()V" } : Jvm.MethodName) object_method_1_code (1 : Nat) (Option.none : Option Jvm.ClassFile.FieldType)).before a0 Z = true := hw _ (List.mem_of_getElem? (i := 36) rfl)
theorem kw37 (hw : OwnHw Z a0) : (Jvm.Cond.fieldLink "java/util/AbstractList" (7 : Nat) "java/util/AbstractList" "modCount" "I").before a0 Z = true := hw _ (List.mem_of_getElem? (i := 37) rfl)
theorem kw38 (hw : OwnHw Z a0) : (Jvm.Cond.lays "java/util/ArrayList" "java/util/AbstractList" "modCount" "I").before a0 Z = true := hw _ (List.mem_of_getElem? (i := 38) rfl)
theorem kw39 (hw : OwnHw Z a0) : (Jvm.Cond.fieldLink "java/util/ArrayList" (39 : Nat) "java/util/ArrayList" "DEFAULTCAPACITY_EMPTY_ELEMENTDATA" "[Ljava/lang/Object;").before a0 Z = true := hw _ (List.mem_of_getElem? (i := 39) rfl)
theorem kw40 (hw : OwnHw Z a0) : (Jvm.Cond.fieldLink "java/util/ArrayList" (9 : Nat) "java/util/ArrayList" "elementData" "[Ljava/lang/Object;").before a0 Z = true := hw _ (List.mem_of_getElem? (i := 40) rfl)
theorem kw41 (hw : OwnHw Z a0) : (Jvm.Cond.lays "java/util/ArrayList" "java/util/ArrayList" "elementData" "[Ljava/lang/Object;").before a0 Z = true := hw _ (List.mem_of_getElem? (i := 41) rfl)
theorem kw42 (hw : OwnHw Z a0) : (Jvm.Cond.methodLink "com/example/rank_keeper/rankkeeper/BodyLinesSplitPinLaw" (19 : Nat) ({ cls := "com/example/rank_keeper/rankkeeper/BodyLinesSplitPinLaw", name := "good", desc := "([BI)I" } : Jvm.MethodName)).before a0 Z = true := hw _ (List.mem_of_getElem? (i := 42) rfl)
theorem kw43 (hw : OwnHw Z a0) : (Jvm.Cond.static ({ cls := "com/example/rank_keeper/rankkeeper/BodyLinesSplitPinLaw", name := "good", desc := "([BI)I" } : Jvm.MethodName)).before a0 Z = true := hw _ (List.mem_of_getElem? (i := 43) rfl)
theorem kw44 (hw : OwnHw Z a0) : (Jvm.Cond.initialized "com/example/rank_keeper/rankkeeper/BodyLinesSplitPinLaw").before a0 Z = true := hw _ (List.mem_of_getElem? (i := 44) rfl)
theorem kw45 (hw : OwnHw Z a0) : (Jvm.Cond.code ({ cls := "com/example/rank_keeper/rankkeeper/BodyLinesSplitPinLaw", name := "good", desc := "([BI)I" } : Jvm.MethodName) method_10_code (2 : Nat) (Option.some Jvm.ClassFile.FieldType.int)).before a0 Z = true := hw _ (List.mem_of_getElem? (i := 45) rfl)
theorem kw46 (hw : OwnHw Z a0) : (Jvm.Cond.methodLink "com/example/rank_keeper/rankkeeper/BodyLinesSplitPinLaw" (41 : Nat) ({ cls := "com/example/rank_keeper/rankkeeper/BodyLinesSplitPinLaw", name := "isStart", desc := "([BI)Z" } : Jvm.MethodName)).before a0 Z = true := hw _ (List.mem_of_getElem? (i := 46) rfl)
theorem kw47 (hw : OwnHw Z a0) : (Jvm.Cond.static ({ cls := "com/example/rank_keeper/rankkeeper/BodyLinesSplitPinLaw", name := "isStart", desc := "([BI)Z" } : Jvm.MethodName)).before a0 Z = true := hw _ (List.mem_of_getElem? (i := 47) rfl)
theorem kw48 (hw : OwnHw Z a0) : (Jvm.Cond.code ({ cls := "com/example/rank_keeper/rankkeeper/BodyLinesSplitPinLaw", name := "isStart", desc := "([BI)Z" } : Jvm.MethodName) method_5_code (2 : Nat) (Option.some Jvm.ClassFile.FieldType.boolean)).before a0 Z = true := hw _ (List.mem_of_getElem? (i := 48) rfl)
theorem kw49 (hw : OwnHw Z a0) : (Jvm.Cond.methodLink "com/example/rank_keeper/rankkeeper/BodyLinesSplitPinLaw" (23 : Nat) ({ cls := "java/util/List", name := "size", desc := "()I" } : Jvm.MethodName)).before a0 Z = true := hw _ (List.mem_of_getElem? (i := 49) rfl)
theorem kw50 (hw : OwnHw Z a0) : (Jvm.Cond.declares ({ cls := "java/util/List", name := "size", desc := "()I" } : Jvm.MethodName)).before a0 Z = true := hw _ (List.mem_of_getElem? (i := 50) rfl)
theorem kw51 (hw : OwnHw Z a0) : (Jvm.Cond.interfaceMethod "java/util/List" "java/util/List" "size" "()I").before a0 Z = true := hw _ (List.mem_of_getElem? (i := 51) rfl)
theorem kw52 (hw : OwnHw Z a0) : (Jvm.Cond.selects "java/util/ArrayList" ({ cls := "java/util/List", name := "size", desc := "()I" } : Jvm.MethodName) ({ cls := "java/util/ArrayList", name := "size", desc := "()I" } : Jvm.MethodName)).before a0 Z = true := hw _ (List.mem_of_getElem? (i := 52) rfl)
theorem kw53 (hw : OwnHw Z a0) : (Jvm.Cond.instanceMethod ({ cls := "java/util/ArrayList", name := "size", desc := "()I" } : Jvm.MethodName)).before a0 Z = true := hw _ (List.mem_of_getElem? (i := 53) rfl)
theorem kw54 (hw : OwnHw Z a0) : (Jvm.Cond.publicMethod ({ cls := "java/util/ArrayList", name := "size", desc := "()I" } : Jvm.MethodName)).before a0 Z = true := hw _ (List.mem_of_getElem? (i := 54) rfl)
theorem kw55 (hw : OwnHw Z a0) : (Jvm.Cond.unhidden "java/util/ArrayList" "size" "()I").before a0 Z = true := hw _ (List.mem_of_getElem? (i := 55) rfl)
theorem kw56 (hw : OwnHw Z a0) : (Jvm.Cond.castable "java/util/ArrayList" "java/util/List").before a0 Z = true := hw _ (List.mem_of_getElem? (i := 56) rfl)
theorem kw57 (hw : OwnHw Z a0) : (Jvm.Cond.code ({ cls := "java/util/ArrayList", name := "size", desc := "()I" } : Jvm.MethodName) jdk_38_method_8_code (1 : Nat) (Option.some Jvm.ClassFile.FieldType.int)).before a0 Z = true := hw _ (List.mem_of_getElem? (i := 57) rfl)
theorem kw58 (hw : OwnHw Z a0) : (Jvm.Cond.fieldLink "java/util/ArrayList" (48 : Nat) "java/util/ArrayList" "size" "I").before a0 Z = true := hw _ (List.mem_of_getElem? (i := 58) rfl)
theorem kw59 (hw : OwnHw Z a0) : (Jvm.Cond.lays "java/util/ArrayList" "java/util/ArrayList" "size" "I").before a0 Z = true := hw _ (List.mem_of_getElem? (i := 59) rfl)
theorem kw60 (hw : OwnHw Z a0) : (Jvm.Cond.methodLink "com/example/rank_keeper/rankkeeper/BodyLinesSplitPinLaw" (29 : Nat) ({ cls := "com/example/rank_keeper/rankkeeper/BodyLinesSplitPinLaw", name := "at", desc := "(Ljava/util/List;I[BI)I" } : Jvm.MethodName)).before a0 Z = true := hw _ (List.mem_of_getElem? (i := 60) rfl)
theorem kw61 (hw : OwnHw Z a0) : (Jvm.Cond.static ({ cls := "com/example/rank_keeper/rankkeeper/BodyLinesSplitPinLaw", name := "at", desc := "(Ljava/util/List;I[BI)I" } : Jvm.MethodName)).before a0 Z = true := hw _ (List.mem_of_getElem? (i := 61) rfl)
theorem kw62 (hw : OwnHw Z a0) : (Jvm.Cond.code ({ cls := "com/example/rank_keeper/rankkeeper/BodyLinesSplitPinLaw", name := "at", desc := "(Ljava/util/List;I[BI)I" } : Jvm.MethodName) method_11_code (6 : Nat) (Option.some Jvm.ClassFile.FieldType.int)).before a0 Z = true := hw _ (List.mem_of_getElem? (i := 62) rfl)
theorem kw63 (hw : OwnHw Z a0) : (Jvm.Cond.methodLink "com/example/rank_keeper/rankkeeper/BodyLinesSplitPinLaw" (7 : Nat) ({ cls := "com/example/rank_keeper/rankkeeper/BodyLinesSplitPinLaw", name := "pick", desc := "(III)B" } : Jvm.MethodName)).before a0 Z = true := hw _ (List.mem_of_getElem? (i := 63) rfl)
theorem kw64 (hw : OwnHw Z a0) : (Jvm.Cond.static ({ cls := "com/example/rank_keeper/rankkeeper/BodyLinesSplitPinLaw", name := "pick", desc := "(III)B" } : Jvm.MethodName)).before a0 Z = true := hw _ (List.mem_of_getElem? (i := 64) rfl)
theorem kw65 (hw : OwnHw Z a0) : (Jvm.Cond.code ({ cls := "com/example/rank_keeper/rankkeeper/BodyLinesSplitPinLaw", name := "pick", desc := "(III)B" } : Jvm.MethodName) method_3_code (4 : Nat) (Option.some Jvm.ClassFile.FieldType.byte)).before a0 Z = true := hw _ (List.mem_of_getElem? (i := 65) rfl)
theorem kw66 (hw : OwnHw Z a0) : (Jvm.Cond.methodLink "com/example/rank_keeper/rankkeeper/BodyLines" (18 : Nat) ({ cls := "com/example/rank_keeper/rankkeeper/BodyLines", name := "isBlank", desc := "([BII)Z" } : Jvm.MethodName)).before a0 Z = true := hw _ (List.mem_of_getElem? (i := 66) rfl)
theorem kw67 (hw : OwnHw Z a0) : (Jvm.Cond.static ({ cls := "com/example/rank_keeper/rankkeeper/BodyLines", name := "isBlank", desc := "([BII)Z" } : Jvm.MethodName)).before a0 Z = true := hw _ (List.mem_of_getElem? (i := 67) rfl)
theorem kw68 (hw : OwnHw Z a0) : (Jvm.Cond.code ({ cls := "com/example/rank_keeper/rankkeeper/BodyLines", name := "isBlank", desc := "([BII)Z" } : Jvm.MethodName) prog_2_method_3_code (5 : Nat) (Option.some Jvm.ClassFile.FieldType.boolean)).before a0 Z = true := hw _ (List.mem_of_getElem? (i := 68) rfl)
theorem kw69 (hw : OwnHw Z a0) : (Jvm.Cond.classLink "com/example/rank_keeper/rankkeeper/BodyLines" (24 : Nat) "com/example/rank_keeper/rankkeeper/BodyLines$Line").before a0 Z = true := hw _ (List.mem_of_getElem? (i := 69) rfl)
theorem kw70 (hw : OwnHw Z a0) : (Jvm.Cond.instantiable "com/example/rank_keeper/rankkeeper/BodyLines$Line" (3 : Nat)).before a0 Z = true := hw _ (List.mem_of_getElem? (i := 70) rfl)
theorem kw71 (hw : OwnHw Z a0) : (Jvm.Cond.initialized "com/example/rank_keeper/rankkeeper/BodyLines$Line").before a0 Z = true := hw _ (List.mem_of_getElem? (i := 71) rfl)
theorem kw72 (hw : OwnHw Z a0) : (Jvm.Cond.methodLink "com/example/rank_keeper/rankkeeper/BodyLines" (26 : Nat) ({ cls := "com/example/rank_keeper/rankkeeper/BodyLines$Line", name := "<init>", desc := "(III)V" } : Jvm.MethodName)).before a0 Z = true := hw _ (List.mem_of_getElem? (i := 72) rfl)
theorem kw73 (hw : OwnHw Z a0) : (Jvm.Cond.instanceMethod ({ cls := "com/example/rank_keeper/rankkeeper/BodyLines$Line", name := "<init>", desc := "(III)V" } : Jvm.MethodName)).before a0 Z = true := hw _ (List.mem_of_getElem? (i := 73) rfl)
theorem kw74 (hw : OwnHw Z a0) : (Jvm.Cond.code ({ cls := "com/example/rank_keeper/rankkeeper/BodyLines$Line", name := "<init>", desc := "(III)V" } : Jvm.MethodName) prog_3_method_1_code (4 : Nat) (Option.none : Option Jvm.ClassFile.FieldType)).before a0 Z = true := hw _ (List.mem_of_getElem? (i := 74) rfl)
theorem kw75 (hw : OwnHw Z a0) : (Jvm.Cond.methodLink "com/example/rank_keeper/rankkeeper/BodyLines$Line" (1 : Nat) ({ cls := "java/lang/Record", name := "<init>", desc := "()V" } : Jvm.MethodName)).before a0 Z = true := hw _ (List.mem_of_getElem? (i := 75) rfl)
theorem kw76 (hw : OwnHw Z a0) : (Jvm.Cond.instanceMethod ({ cls := "java/lang/Record", name := "<init>", desc := "()V" } : Jvm.MethodName)).before a0 Z = true := hw _ (List.mem_of_getElem? (i := 76) rfl)
theorem kw78 (hw : OwnHw Z a0) : (Jvm.Cond.initialized "java/lang/Record").before a0 Z = true := hw _ (List.mem_of_getElem? (i := 78) rfl)
theorem kw79 (hw : OwnHw Z a0) : (Jvm.Cond.code ({ cls := "java/lang/Record", name := "<init>", desc := "()V" } : Jvm.MethodName) jdk_30_method_1_code (1 : Nat) (Option.none : Option Jvm.ClassFile.FieldType)).before a0 Z = true := hw _ (List.mem_of_getElem? (i := 79) rfl)
theorem kw80 (hw : OwnHw Z a0) : (Jvm.Cond.methodLink "java/lang/Record" (1 : Nat) ({ cls := "java/lang/Object", name := "<init>", desc := "()V" } : Jvm.MethodName)).before a0 Z = true := hw _ (List.mem_of_getElem? (i := 80) rfl)
theorem kw81 (hw : OwnHw Z a0) : (Jvm.Cond.fieldLink "com/example/rank_keeper/rankkeeper/BodyLines$Line" (7 : Nat) "com/example/rank_keeper/rankkeeper/BodyLines$Line" "number" "I").before a0 Z = true := hw _ (List.mem_of_getElem? (i := 81) rfl)
theorem kw82 (hw : OwnHw Z a0) : (Jvm.Cond.laysFinal "com/example/rank_keeper/rankkeeper/BodyLines$Line" "com/example/rank_keeper/rankkeeper/BodyLines$Line" "number" "I").before a0 Z = true := hw _ (List.mem_of_getElem? (i := 82) rfl)
theorem kw83 (hw : OwnHw Z a0) : (Jvm.Cond.fieldLink "com/example/rank_keeper/rankkeeper/BodyLines$Line" (13 : Nat) "com/example/rank_keeper/rankkeeper/BodyLines$Line" "offset" "I").before a0 Z = true := hw _ (List.mem_of_getElem? (i := 83) rfl)
theorem kw84 (hw : OwnHw Z a0) : (Jvm.Cond.laysFinal "com/example/rank_keeper/rankkeeper/BodyLines$Line" "com/example/rank_keeper/rankkeeper/BodyLines$Line" "offset" "I").before a0 Z = true := hw _ (List.mem_of_getElem? (i := 84) rfl)
theorem kw85 (hw : OwnHw Z a0) : (Jvm.Cond.fieldLink "com/example/rank_keeper/rankkeeper/BodyLines$Line" (16 : Nat) "com/example/rank_keeper/rankkeeper/BodyLines$Line" "length" "I").before a0 Z = true := hw _ (List.mem_of_getElem? (i := 85) rfl)
theorem kw86 (hw : OwnHw Z a0) : (Jvm.Cond.laysFinal "com/example/rank_keeper/rankkeeper/BodyLines$Line" "com/example/rank_keeper/rankkeeper/BodyLines$Line" "length" "I").before a0 Z = true := hw _ (List.mem_of_getElem? (i := 86) rfl)
theorem kw87 (hw : OwnHw Z a0) : (Jvm.Cond.methodLink "com/example/rank_keeper/rankkeeper/BodyLines" (29 : Nat) ({ cls := "java/util/List", name := "add", desc := "(Ljava/lang/Object;)Z" } : Jvm.MethodName)).before a0 Z = true := hw _ (List.mem_of_getElem? (i := 87) rfl)
theorem kw88 (hw : OwnHw Z a0) : (Jvm.Cond.declares ({ cls := "java/util/List", name := "add", desc := "(Ljava/lang/Object;)Z" } : Jvm.MethodName)).before a0 Z = true := hw _ (List.mem_of_getElem? (i := 88) rfl)
theorem kw89 (hw : OwnHw Z a0) : (Jvm.Cond.interfaceMethod "java/util/List" "java/util/List" "add" "(Ljava/lang/Object;)Z").before a0 Z = true := hw _ (List.mem_of_getElem? (i := 89) rfl)
theorem kw90 (hw : OwnHw Z a0) : (Jvm.Cond.selects "java/util/ArrayList" ({ cls := "java/util/List", name := "add", desc := "(Ljava/lang/Object;)Z" } : Jvm.MethodName) ({ cls := "java/util/ArrayList", name := "add", desc := "(Ljava/lang/Object;)Z" } : Jvm.MethodName)).before a0 Z = true := hw _ (List.mem_of_getElem? (i := 90) rfl)
theorem kw91 (hw : OwnHw Z a0) : (Jvm.Cond.instanceMethod ({ cls := "java/util/ArrayList", name := "add", desc := "(Ljava/lang/Object;)Z" } : Jvm.MethodName)).before a0 Z = true := hw _ (List.mem_of_getElem? (i := 91) rfl)
theorem kw92 (hw : OwnHw Z a0) : (Jvm.Cond.publicMethod ({ cls := "java/util/ArrayList", name := "add", desc := "(Ljava/lang/Object;)Z" } : Jvm.MethodName)).before a0 Z = true := hw _ (List.mem_of_getElem? (i := 92) rfl)
theorem kw93 (hw : OwnHw Z a0) : (Jvm.Cond.unhidden "java/util/ArrayList" "add" "(Ljava/lang/Object;)Z").before a0 Z = true := hw _ (List.mem_of_getElem? (i := 93) rfl)
theorem kw94 (hw : OwnHw Z a0) : (Jvm.Cond.code ({ cls := "java/util/ArrayList", name := "add", desc := "(Ljava/lang/Object;)Z" } : Jvm.MethodName) jdk_38_method_25_code (2 : Nat) (Option.some Jvm.ClassFile.FieldType.boolean)).before a0 Z = true := hw _ (List.mem_of_getElem? (i := 94) rfl)
theorem kw95 (hw : OwnHw Z a0) : (Jvm.Cond.fieldLink "java/util/ArrayList" (63 : Nat) "java/util/ArrayList" "modCount" "I").before a0 Z = true := hw _ (List.mem_of_getElem? (i := 95) rfl)
theorem kw96 (hw : OwnHw Z a0) : (Jvm.Cond.sameField "java/util/ArrayList" "java/util/AbstractList" "modCount" "I").before a0 Z = true := hw _ (List.mem_of_getElem? (i := 96) rfl)
theorem kw97 (hw : OwnHw Z a0) : (Jvm.Cond.methodLink "java/util/ArrayList" (131 : Nat) ({ cls := "java/util/ArrayList", name := "add", desc := "(Ljava/lang/Object;[Ljava/lang/Object;I)V" } : Jvm.MethodName)).before a0 Z = true := hw _ (List.mem_of_getElem? (i := 97) rfl)
theorem kw98 (hw : OwnHw Z a0) : (Jvm.Cond.instanceMethod ({ cls := "java/util/ArrayList", name := "add", desc := "(Ljava/lang/Object;[Ljava/lang/Object;I)V" } : Jvm.MethodName)).before a0 Z = true := hw _ (List.mem_of_getElem? (i := 98) rfl)
theorem kw99 (hw : OwnHw Z a0) : (Jvm.Cond.privateMethod ({ cls := "java/util/ArrayList", name := "add", desc := "(Ljava/lang/Object;[Ljava/lang/Object;I)V" } : Jvm.MethodName)).before a0 Z = true := hw _ (List.mem_of_getElem? (i := 99) rfl)
theorem kw101 (hw : OwnHw Z a0) : (Jvm.Cond.code ({ cls := "java/util/ArrayList", name := "add", desc := "(Ljava/lang/Object;[Ljava/lang/Object;I)V" } : Jvm.MethodName) jdk_38_method_24_code (4 : Nat) (Option.none : Option Jvm.ClassFile.FieldType)).before a0 Z = true := hw _ (List.mem_of_getElem? (i := 101) rfl)
theorem kw102 (hw : OwnHw Z a0) : (Jvm.Cond.methodLink "java/util/ArrayList" (129 : Nat) ({ cls := "java/util/ArrayList", name := "grow", desc := "()[Ljava/lang/Object;" } : Jvm.MethodName)).before a0 Z = true := hw _ (List.mem_of_getElem? (i := 102) rfl)
theorem kw103 (hw : OwnHw Z a0) : (Jvm.Cond.instanceMethod ({ cls := "java/util/ArrayList", name := "grow", desc := "()[Ljava/lang/Object;" } : Jvm.MethodName)).before a0 Z = true := hw _ (List.mem_of_getElem? (i := 103) rfl)
theorem kw104 (hw : OwnHw Z a0) : (Jvm.Cond.privateMethod ({ cls := "java/util/ArrayList", name := "grow", desc := "()[Ljava/lang/Object;" } : Jvm.MethodName)).before a0 Z = true := hw _ (List.mem_of_getElem? (i := 104) rfl)
theorem kw106 (hw : OwnHw Z a0) : (Jvm.Cond.code ({ cls := "java/util/ArrayList", name := "grow", desc := "()[Ljava/lang/Object;" } : Jvm.MethodName) jdk_38_method_7_code (1 : Nat) (Option.some (Jvm.ClassFile.FieldType.array (Jvm.ClassFile.FieldType.object "java/lang/Object")))).before a0 Z = true := hw _ (List.mem_of_getElem? (i := 106) rfl)
theorem kw107 (hw : OwnHw Z a0) : (Jvm.Cond.methodLink "java/util/ArrayList" (69 : Nat) ({ cls := "java/util/ArrayList", name := "grow", desc := "(I)[Ljava/lang/Object;" } : Jvm.MethodName)).before a0 Z = true := hw _ (List.mem_of_getElem? (i := 107) rfl)
theorem kw108 (hw : OwnHw Z a0) : (Jvm.Cond.instanceMethod ({ cls := "java/util/ArrayList", name := "grow", desc := "(I)[Ljava/lang/Object;" } : Jvm.MethodName)).before a0 Z = true := hw _ (List.mem_of_getElem? (i := 108) rfl)
theorem kw109 (hw : OwnHw Z a0) : (Jvm.Cond.privateMethod ({ cls := "java/util/ArrayList", name := "grow", desc := "(I)[Ljava/lang/Object;" } : Jvm.MethodName)).before a0 Z = true := hw _ (List.mem_of_getElem? (i := 109) rfl)
theorem kw111 (hw : OwnHw Z a0) : (Jvm.Cond.code ({ cls := "java/util/ArrayList", name := "grow", desc := "(I)[Ljava/lang/Object;" } : Jvm.MethodName) jdk_38_method_6_code (4 : Nat) (Option.some (Jvm.ClassFile.FieldType.array (Jvm.ClassFile.FieldType.object "java/lang/Object")))).before a0 Z = true := hw _ (List.mem_of_getElem? (i := 111) rfl)
theorem kw112 (hw : OwnHw Z a0) : (Jvm.Cond.methodLink "java/util/ArrayList" (79 : Nat) ({ cls := "java/lang/Math", name := "max", desc := "(II)I" } : Jvm.MethodName)).before a0 Z = true := hw _ (List.mem_of_getElem? (i := 112) rfl)
theorem kw113 (hw : OwnHw Z a0) : (Jvm.Cond.static ({ cls := "java/lang/Math", name := "max", desc := "(II)I" } : Jvm.MethodName)).before a0 Z = true := hw _ (List.mem_of_getElem? (i := 113) rfl)
theorem kw114 (hw : OwnHw Z a0) : (Jvm.Cond.initialized "java/lang/Math").before a0 Z = true := hw _ (List.mem_of_getElem? (i := 114) rfl)
theorem kw115 (hw : OwnHw Z a0) : (Jvm.Cond.code ({ cls := "java/lang/Math", name := "max", desc := "(II)I" } : Jvm.MethodName) jdk_29_method_65_code (2 : Nat) (Option.some Jvm.ClassFile.FieldType.int)).before a0 Z = true := hw _ (List.mem_of_getElem? (i := 115) rfl)
theorem kw116 (hw : OwnHw Z a0) : (Jvm.Cond.classLink "java/util/ArrayList" (7 : Nat) "java/lang/Object").before a0 Z = true := hw _ (List.mem_of_getElem? (i := 116) rfl)
theorem kw117 (hw : OwnHw Z a0) : (Jvm.Cond.arrayOver (Jvm.ClassFile.FieldType.object "java/lang/Object")).before a0 Z = true := hw _ (List.mem_of_getElem? (i := 117) rfl)
theorem kw118 (hw : OwnHw Z a0) : (Jvm.Cond.castable "com/example/rank_keeper/rankkeeper/BodyLines$Line" "java/lang/Object").before a0 Z = true := hw _ (List.mem_of_getElem? (i := 118) rfl)
theorem kw119 (hw : OwnHw Z a0) : (Jvm.Cond.methodLink "com/example/rank_keeper/rankkeeper/BodyLinesSplitPinLaw" (44 : Nat) ({ cls := "com/example/rank_keeper/rankkeeper/BodyLinesSplitPinLaw", name := "endFrom", desc := "([BI)I" } : Jvm.MethodName)).before a0 Z = true := hw _ (List.mem_of_getElem? (i := 119) rfl)
theorem kw120 (hw : OwnHw Z a0) : (Jvm.Cond.static ({ cls := "com/example/rank_keeper/rankkeeper/BodyLinesSplitPinLaw", name := "endFrom", desc := "([BI)I" } : Jvm.MethodName)).before a0 Z = true := hw _ (List.mem_of_getElem? (i := 120) rfl)
theorem kw121 (hw : OwnHw Z a0) : (Jvm.Cond.code ({ cls := "com/example/rank_keeper/rankkeeper/BodyLinesSplitPinLaw", name := "endFrom", desc := "([BI)I" } : Jvm.MethodName) method_6_code (3 : Nat) (Option.some Jvm.ClassFile.FieldType.int)).before a0 Z = true := hw _ (List.mem_of_getElem? (i := 121) rfl)
theorem kw122 (hw : OwnHw Z a0) : (Jvm.Cond.methodLink "com/example/rank_keeper/rankkeeper/BodyLinesSplitPinLaw" (33 : Nat) ({ cls := "com/example/rank_keeper/rankkeeper/BodyLinesSplitPinLaw", name := "isNl", desc := "([BI)Z" } : Jvm.MethodName)).before a0 Z = true := hw _ (List.mem_of_getElem? (i := 122) rfl)
theorem kw123 (hw : OwnHw Z a0) : (Jvm.Cond.static ({ cls := "com/example/rank_keeper/rankkeeper/BodyLinesSplitPinLaw", name := "isNl", desc := "([BI)Z" } : Jvm.MethodName)).before a0 Z = true := hw _ (List.mem_of_getElem? (i := 123) rfl)
theorem kw124 (hw : OwnHw Z a0) : (Jvm.Cond.code ({ cls := "com/example/rank_keeper/rankkeeper/BodyLinesSplitPinLaw", name := "isNl", desc := "([BI)Z" } : Jvm.MethodName) method_4_code (2 : Nat) (Option.some Jvm.ClassFile.FieldType.boolean)).before a0 Z = true := hw _ (List.mem_of_getElem? (i := 124) rfl)
theorem kw125 (hw : OwnHw Z a0) : (Jvm.Cond.methodLink "com/example/rank_keeper/rankkeeper/BodyLinesSplitPinLaw" (47 : Nat) ({ cls := "com/example/rank_keeper/rankkeeper/BodyLinesSplitPinLaw", name := "hasInk", desc := "([BII)Z" } : Jvm.MethodName)).before a0 Z = true := hw _ (List.mem_of_getElem? (i := 125) rfl)
theorem kw126 (hw : OwnHw Z a0) : (Jvm.Cond.static ({ cls := "com/example/rank_keeper/rankkeeper/BodyLinesSplitPinLaw", name := "hasInk", desc := "([BII)Z" } : Jvm.MethodName)).before a0 Z = true := hw _ (List.mem_of_getElem? (i := 126) rfl)
theorem kw127 (hw : OwnHw Z a0) : (Jvm.Cond.code ({ cls := "com/example/rank_keeper/rankkeeper/BodyLinesSplitPinLaw", name := "hasInk", desc := "([BII)Z" } : Jvm.MethodName) method_8_code (3 : Nat) (Option.some Jvm.ClassFile.FieldType.boolean)).before a0 Z = true := hw _ (List.mem_of_getElem? (i := 127) rfl)
theorem kw128 (hw : OwnHw Z a0) : (Jvm.Cond.methodLink "com/example/rank_keeper/rankkeeper/BodyLinesSplitPinLaw" (37 : Nat) ({ cls := "com/example/rank_keeper/rankkeeper/BodyLinesSplitPinLaw", name := "inkAt", desc := "([BIII)Z" } : Jvm.MethodName)).before a0 Z = true := hw _ (List.mem_of_getElem? (i := 128) rfl)
theorem kw129 (hw : OwnHw Z a0) : (Jvm.Cond.static ({ cls := "com/example/rank_keeper/rankkeeper/BodyLinesSplitPinLaw", name := "inkAt", desc := "([BIII)Z" } : Jvm.MethodName)).before a0 Z = true := hw _ (List.mem_of_getElem? (i := 129) rfl)
theorem kw130 (hw : OwnHw Z a0) : (Jvm.Cond.code ({ cls := "com/example/rank_keeper/rankkeeper/BodyLinesSplitPinLaw", name := "inkAt", desc := "([BIII)Z" } : Jvm.MethodName) method_7_code (4 : Nat) (Option.some Jvm.ClassFile.FieldType.boolean)).before a0 Z = true := hw _ (List.mem_of_getElem? (i := 130) rfl)
theorem kw131 (hw : OwnHw Z a0) : (Jvm.Cond.methodLink "com/example/rank_keeper/rankkeeper/BodyLinesSplitPinLaw" (51 : Nat) ({ cls := "java/util/List", name := "get", desc := "(I)Ljava/lang/Object;" } : Jvm.MethodName)).before a0 Z = true := hw _ (List.mem_of_getElem? (i := 131) rfl)
theorem kw132 (hw : OwnHw Z a0) : (Jvm.Cond.declares ({ cls := "java/util/List", name := "get", desc := "(I)Ljava/lang/Object;" } : Jvm.MethodName)).before a0 Z = true := hw _ (List.mem_of_getElem? (i := 132) rfl)
theorem kw133 (hw : OwnHw Z a0) : (Jvm.Cond.interfaceMethod "java/util/List" "java/util/List" "get" "(I)Ljava/lang/Object;").before a0 Z = true := hw _ (List.mem_of_getElem? (i := 133) rfl)
theorem kw134 (hw : OwnHw Z a0) : (Jvm.Cond.selects "java/util/ArrayList" ({ cls := "java/util/List", name := "get", desc := "(I)Ljava/lang/Object;" } : Jvm.MethodName) ({ cls := "java/util/ArrayList", name := "get", desc := "(I)Ljava/lang/Object;" } : Jvm.MethodName)).before a0 Z = true := hw _ (List.mem_of_getElem? (i := 134) rfl)
theorem kw135 (hw : OwnHw Z a0) : (Jvm.Cond.instanceMethod ({ cls := "java/util/ArrayList", name := "get", desc := "(I)Ljava/lang/Object;" } : Jvm.MethodName)).before a0 Z = true := hw _ (List.mem_of_getElem? (i := 135) rfl)
theorem kw136 (hw : OwnHw Z a0) : (Jvm.Cond.publicMethod ({ cls := "java/util/ArrayList", name := "get", desc := "(I)Ljava/lang/Object;" } : Jvm.MethodName)).before a0 Z = true := hw _ (List.mem_of_getElem? (i := 136) rfl)
theorem kw137 (hw : OwnHw Z a0) : (Jvm.Cond.unhidden "java/util/ArrayList" "get" "(I)Ljava/lang/Object;").before a0 Z = true := hw _ (List.mem_of_getElem? (i := 137) rfl)
theorem kw138 (hw : OwnHw Z a0) : (Jvm.Cond.code ({ cls := "java/util/ArrayList", name := "get", desc := "(I)Ljava/lang/Object;" } : Jvm.MethodName) jdk_38_method_20_code (2 : Nat) (Option.some (Jvm.ClassFile.FieldType.object "java/lang/Object"))).before a0 Z = true := hw _ (List.mem_of_getElem? (i := 138) rfl)
theorem kw139 (hw : OwnHw Z a0) : (Jvm.Cond.methodLink "java/util/ArrayList" (118 : Nat) ({ cls := "java/util/Objects", name := "checkIndex", desc := "(II)I" } : Jvm.MethodName)).before a0 Z = true := hw _ (List.mem_of_getElem? (i := 139) rfl)
theorem kw140 (hw : OwnHw Z a0) : (Jvm.Cond.static ({ cls := "java/util/Objects", name := "checkIndex", desc := "(II)I" } : Jvm.MethodName)).before a0 Z = true := hw _ (List.mem_of_getElem? (i := 140) rfl)
theorem kw141 (hw : OwnHw Z a0) : (Jvm.Cond.code ({ cls := "java/util/Objects", name := "checkIndex", desc := "(II)I" } : Jvm.MethodName) jdk_31_method_17_code (2 : Nat) (Option.some Jvm.ClassFile.FieldType.int)).before a0 Z = true := hw _ (List.mem_of_getElem? (i := 141) rfl)
theorem kw142 (hw : OwnHw Z a0) : (Jvm.Cond.methodLink "java/util/Objects" (105 : Nat) ({ cls := "jdk/internal/util/Preconditions", name := "checkIndex", desc := "(IILjava/util/function/BiFunction;)I" } : Jvm.MethodName)).before a0 Z = true := hw _ (List.mem_of_getElem? (i := 142) rfl)
theorem kw143 (hw : OwnHw Z a0) : (Jvm.Cond.static ({ cls := "jdk/internal/util/Preconditions", name := "checkIndex", desc := "(IILjava/util/function/BiFunction;)I" } : Jvm.MethodName)).before a0 Z = true := hw _ (List.mem_of_getElem? (i := 143) rfl)
theorem kw144 (hw : OwnHw Z a0) : (Jvm.Cond.initialized "jdk/internal/util/Preconditions").before a0 Z = true := hw _ (List.mem_of_getElem? (i := 144) rfl)
theorem kw145 (hw : OwnHw Z a0) : (Jvm.Cond.code ({ cls := "jdk/internal/util/Preconditions", name := "checkIndex", desc := "(IILjava/util/function/BiFunction;)I" } : Jvm.MethodName) jdk_41_method_11_code (3 : Nat) (Option.some Jvm.ClassFile.FieldType.int)).before a0 Z = true := hw _ (List.mem_of_getElem? (i := 145) rfl)
theorem kw146 (hw : OwnHw Z a0) : (Jvm.Cond.methodLink "java/util/ArrayList" (123 : Nat) ({ cls := "java/util/ArrayList", name := "elementData", desc := "(I)Ljava/lang/Object;" } : Jvm.MethodName)).before a0 Z = true := hw _ (List.mem_of_getElem? (i := 146) rfl)
theorem kw147 (hw : OwnHw Z a0) : (Jvm.Cond.declares ({ cls := "java/util/ArrayList", name := "elementData", desc := "(I)Ljava/lang/Object;" } : Jvm.MethodName)).before a0 Z = true := hw _ (List.mem_of_getElem? (i := 147) rfl)
theorem kw148 (hw : OwnHw Z a0) : (Jvm.Cond.instanceMethod ({ cls := "java/util/ArrayList", name := "elementData", desc := "(I)Ljava/lang/Object;" } : Jvm.MethodName)).before a0 Z = true := hw _ (List.mem_of_getElem? (i := 148) rfl)
theorem kw149 (hw : OwnHw Z a0) : (Jvm.Cond.selects "java/util/ArrayList" ({ cls := "java/util/ArrayList", name := "elementData", desc := "(I)Ljava/lang/Object;" } : Jvm.MethodName) ({ cls := "java/util/ArrayList", name := "elementData", desc := "(I)Ljava/lang/Object;" } : Jvm.MethodName)).before a0 Z = true := hw _ (List.mem_of_getElem? (i := 149) rfl)
theorem kw150 (hw : OwnHw Z a0) : (Jvm.Cond.code ({ cls := "java/util/ArrayList", name := "elementData", desc := "(I)Ljava/lang/Object;" } : Jvm.MethodName) jdk_38_method_18_code (2 : Nat) (Option.some (Jvm.ClassFile.FieldType.object "java/lang/Object"))).before a0 Z = true := hw _ (List.mem_of_getElem? (i := 150) rfl)
theorem kw151 (hw : OwnHw Z a0) : (Jvm.Cond.classLink "com/example/rank_keeper/rankkeeper/BodyLinesSplitPinLaw" (55 : Nat) "com/example/rank_keeper/rankkeeper/BodyLines$Line").before a0 Z = true := hw _ (List.mem_of_getElem? (i := 151) rfl)
theorem kw153 (hw : OwnHw Z a0) : (Jvm.Cond.methodLink "com/example/rank_keeper/rankkeeper/BodyLinesSplitPinLaw" (57 : Nat) ({ cls := "com/example/rank_keeper/rankkeeper/BodyLines$Line", name := "offset", desc := "()I" } : Jvm.MethodName)).before a0 Z = true := hw _ (List.mem_of_getElem? (i := 153) rfl)
theorem kw154 (hw : OwnHw Z a0) : (Jvm.Cond.declares ({ cls := "com/example/rank_keeper/rankkeeper/BodyLines$Line", name := "offset", desc := "()I" } : Jvm.MethodName)).before a0 Z = true := hw _ (List.mem_of_getElem? (i := 154) rfl)
theorem kw155 (hw : OwnHw Z a0) : (Jvm.Cond.instanceMethod ({ cls := "com/example/rank_keeper/rankkeeper/BodyLines$Line", name := "offset", desc := "()I" } : Jvm.MethodName)).before a0 Z = true := hw _ (List.mem_of_getElem? (i := 155) rfl)
theorem kw156 (hw : OwnHw Z a0) : (Jvm.Cond.selects "com/example/rank_keeper/rankkeeper/BodyLines$Line" ({ cls := "com/example/rank_keeper/rankkeeper/BodyLines$Line", name := "offset", desc := "()I" } : Jvm.MethodName) ({ cls := "com/example/rank_keeper/rankkeeper/BodyLines$Line", name := "offset", desc := "()I" } : Jvm.MethodName)).before a0 Z = true := hw _ (List.mem_of_getElem? (i := 156) rfl)
theorem kw157 (hw : OwnHw Z a0) : (Jvm.Cond.code ({ cls := "com/example/rank_keeper/rankkeeper/BodyLines$Line", name := "offset", desc := "()I" } : Jvm.MethodName) prog_3_method_6_code (1 : Nat) (Option.some Jvm.ClassFile.FieldType.int)).before a0 Z = true := hw _ (List.mem_of_getElem? (i := 157) rfl)
theorem kw158 (hw : OwnHw Z a0) : (Jvm.Cond.methodLink "com/example/rank_keeper/rankkeeper/BodyLinesSplitPinLaw" (60 : Nat) ({ cls := "com/example/rank_keeper/rankkeeper/BodyLines$Line", name := "length", desc := "()I" } : Jvm.MethodName)).before a0 Z = true := hw _ (List.mem_of_getElem? (i := 158) rfl)
theorem kw159 (hw : OwnHw Z a0) : (Jvm.Cond.declares ({ cls := "com/example/rank_keeper/rankkeeper/BodyLines$Line", name := "length", desc := "()I" } : Jvm.MethodName)).before a0 Z = true := hw _ (List.mem_of_getElem? (i := 159) rfl)
theorem kw160 (hw : OwnHw Z a0) : (Jvm.Cond.instanceMethod ({ cls := "com/example/rank_keeper/rankkeeper/BodyLines$Line", name := "length", desc := "()I" } : Jvm.MethodName)).before a0 Z = true := hw _ (List.mem_of_getElem? (i := 160) rfl)
theorem kw161 (hw : OwnHw Z a0) : (Jvm.Cond.selects "com/example/rank_keeper/rankkeeper/BodyLines$Line" ({ cls := "com/example/rank_keeper/rankkeeper/BodyLines$Line", name := "length", desc := "()I" } : Jvm.MethodName) ({ cls := "com/example/rank_keeper/rankkeeper/BodyLines$Line", name := "length", desc := "()I" } : Jvm.MethodName)).before a0 Z = true := hw _ (List.mem_of_getElem? (i := 161) rfl)
theorem kw162 (hw : OwnHw Z a0) : (Jvm.Cond.code ({ cls := "com/example/rank_keeper/rankkeeper/BodyLines$Line", name := "length", desc := "()I" } : Jvm.MethodName) prog_3_method_7_code (1 : Nat) (Option.some Jvm.ClassFile.FieldType.int)).before a0 Z = true := hw _ (List.mem_of_getElem? (i := 162) rfl)
theorem kw163 (hw : OwnHw Z a0) : (Jvm.Cond.methodLink "com/example/rank_keeper/rankkeeper/BodyLinesSplitPinLaw" (63 : Nat) ({ cls := "com/example/rank_keeper/rankkeeper/BodyLines$Line", name := "number", desc := "()I" } : Jvm.MethodName)).before a0 Z = true := hw _ (List.mem_of_getElem? (i := 163) rfl)
theorem kw164 (hw : OwnHw Z a0) : (Jvm.Cond.declares ({ cls := "com/example/rank_keeper/rankkeeper/BodyLines$Line", name := "number", desc := "()I" } : Jvm.MethodName)).before a0 Z = true := hw _ (List.mem_of_getElem? (i := 164) rfl)
theorem kw165 (hw : OwnHw Z a0) : (Jvm.Cond.instanceMethod ({ cls := "com/example/rank_keeper/rankkeeper/BodyLines$Line", name := "number", desc := "()I" } : Jvm.MethodName)).before a0 Z = true := hw _ (List.mem_of_getElem? (i := 165) rfl)
theorem kw166 (hw : OwnHw Z a0) : (Jvm.Cond.selects "com/example/rank_keeper/rankkeeper/BodyLines$Line" ({ cls := "com/example/rank_keeper/rankkeeper/BodyLines$Line", name := "number", desc := "()I" } : Jvm.MethodName) ({ cls := "com/example/rank_keeper/rankkeeper/BodyLines$Line", name := "number", desc := "()I" } : Jvm.MethodName)).before a0 Z = true := hw _ (List.mem_of_getElem? (i := 166) rfl)
theorem kw167 (hw : OwnHw Z a0) : (Jvm.Cond.code ({ cls := "com/example/rank_keeper/rankkeeper/BodyLines$Line", name := "number", desc := "()I" } : Jvm.MethodName) prog_3_method_5_code (1 : Nat) (Option.some Jvm.ClassFile.FieldType.int)).before a0 Z = true := hw _ (List.mem_of_getElem? (i := 167) rfl)
theorem kw168 (hw : OwnHw Z a0) : (Jvm.Cond.methodLink "com/example/rank_keeper/rankkeeper/BodyLinesSplitPinLaw" (66 : Nat) ({ cls := "com/example/rank_keeper/rankkeeper/BodyLinesSplitPinLaw", name := "nlBefore", desc := "([BI)I" } : Jvm.MethodName)).before a0 Z = true := hw _ (List.mem_of_getElem? (i := 168) rfl)
theorem kw169 (hw : OwnHw Z a0) : (Jvm.Cond.static ({ cls := "com/example/rank_keeper/rankkeeper/BodyLinesSplitPinLaw", name := "nlBefore", desc := "([BI)I" } : Jvm.MethodName)).before a0 Z = true := hw _ (List.mem_of_getElem? (i := 169) rfl)
theorem kw170 (hw : OwnHw Z a0) : (Jvm.Cond.code ({ cls := "com/example/rank_keeper/rankkeeper/BodyLinesSplitPinLaw", name := "nlBefore", desc := "([BI)I" } : Jvm.MethodName) method_9_code (3 : Nat) (Option.some Jvm.ClassFile.FieldType.int)).before a0 Z = true := hw _ (List.mem_of_getElem? (i := 170) rfl)
theorem kw172 (hw : OwnHw Z a0) : (Jvm.Cond.initializedFor "java/util/ArrayList" "EMPTY_ELEMENTDATA" "[Ljava/lang/Object;").before a0 Z = true := hw _ (List.mem_of_getElem? (i := 172) rfl)
theorem kw173 (hw : OwnHw Z a0) : (Jvm.Cond.laysStatic "java/util/ArrayList" "DEFAULTCAPACITY_EMPTY_ELEMENTDATA" "[Ljava/lang/Object;").before a0 Z = true := hw _ (List.mem_of_getElem? (i := 173) rfl)
end OwnKw
theorem pn_0 : plainName "com/example/rank_keeper/rankkeeper/BodyLinesSplitPinLaw" = true := by first | (simp [plainName, overriddenIn]; done) | decide +kernel
theorem pn_1 : plainName "java/util/AbstractCollection" = true := by first | (simp [plainName, overriddenIn]; done) | decide +kernel
theorem pn_2 : plainName "java/util/AbstractList" = true := by first | (simp [plainName, overriddenIn]; done) | decide +kernel
theorem pn_3 : plainName "java/util/ArrayList" = true := by first | (simp [plainName, overriddenIn]; done) | decide +kernel
theorem pn_4 : plainName "java/lang/Record" = true := by first | (simp [plainName, overriddenIn]; done) | decide +kernel
theorem pn_5 : plainName "com/example/rank_keeper/rankkeeper/BodyLines$Line" = true := by first | (simp [plainName, overriddenIn]; done) | decide +kernel
theorem pn_6 : plainName "java/util/Objects" = true := by first | (simp [plainName, overriddenIn]; done) | decide +kernel
theorem pn_7 : plainName "jdk/internal/util/Preconditions" = true := by first | (simp [plainName, overriddenIn]; done) | decide +kernel
theorem pn_8 : plainName "com/example/rank_keeper/rankkeeper/BodyLines" = true := by first | (simp [plainName, overriddenIn]; done) | decide +kernel
theorem pd_0 : parseMethodDescriptor "([BIII)Z" = some ⟨[(.array .byte), .int, .int, .int], some .boolean⟩ := by decide +kernel
theorem pd_1 : parseMethodDescriptor "([BI)Z" = some ⟨[(.array .byte), .int], some .boolean⟩ := by decide +kernel
theorem pd_2 : parseMethodDescriptor "([BI)I" = some ⟨[(.array .byte), .int], some .int⟩ := by decide +kernel
theorem pd_3 : parseMethodDescriptor "([BII)Z" = some ⟨[(.array .byte), .int, .int], some .boolean⟩ := by decide +kernel
theorem pd_4 : parseMethodDescriptor "()V" = some ⟨[], none⟩ := by decide +kernel
theorem pd_5 : parseMethodDescriptor "(IILjava/util/function/BiFunction;)I" = some ⟨[.int, .int, (.object "java/util/function/BiFunction")], some .int⟩ := by decide +kernel
theorem pd_6 : parseMethodDescriptor "(II)I" = some ⟨[.int, .int], some .int⟩ := by decide +kernel
theorem pd_7 : parseMethodDescriptor "(I)[Ljava/lang/Object;" = some ⟨[.int], some (.array (.object "java/lang/Object"))⟩ := by decide +kernel
theorem pd_8 : parseMethodDescriptor "()[Ljava/lang/Object;" = some ⟨[], some (.array (.object "java/lang/Object"))⟩ := by decide +kernel
theorem pd_9 : parseMethodDescriptor "(Ljava/lang/Object;[Ljava/lang/Object;I)V" = some ⟨[(.object "java/lang/Object"), (.array (.object "java/lang/Object")), .int], none⟩ := by decide +kernel
theorem pd_10 : parseMethodDescriptor "(I)Ljava/lang/Object;" = some ⟨[.int], some (.object "java/lang/Object")⟩ := by decide +kernel
theorem pd_11 : parseMethodDescriptor "()I" = some ⟨[], some .int⟩ := by decide +kernel
theorem pd_12 : parseMethodDescriptor "(Ljava/lang/Object;Ljava/lang/String;)Ljava/lang/Object;" = some ⟨[(.object "java/lang/Object"), (.object "java/lang/String")], some (.object "java/lang/Object")⟩ := by decide +kernel
theorem pd_13 : parseMethodDescriptor "(III)V" = some ⟨[.int, .int, .int], none⟩ := by decide +kernel
theorem pd_14 : parseMethodDescriptor "(Ljava/lang/Object;)Z" = some ⟨[(.object "java/lang/Object")], some .boolean⟩ := by decide +kernel
theorem pd_15 : parseMethodDescriptor "(III)B" = some ⟨[.int, .int, .int], some .byte⟩ := by decide +kernel
theorem pd_16 : parseMethodDescriptor "([B)Ljava/util/List;" = some ⟨[(.array .byte)], some (.object "java/util/List")⟩ := by decide +kernel
theorem pd_17 : parseMethodDescriptor "(Ljava/util/List;I[BI)I" = some ⟨[(.object "java/util/List"), .int, (.array .byte), .int], some .int⟩ := by decide +kernel
theorem d1_0 : decode prog_2_method_2_code 0 = .ok (.aload_n 0, 1) := by decide +kernel
theorem d1_1 : decode prog_2_method_2_code 1 = .ok (.ldc 7, 2) := by decide +kernel
theorem d1_3 : decode prog_2_method_2_code 3 = .ok (.invokestatic 9, 3) := by decide +kernel
theorem d1_6 : decode prog_2_method_2_code 6 = .ok (.pop, 1) := by decide +kernel
theorem d1_7 : decode prog_2_method_2_code 7 = .ok (.new 15, 3) := by decide +kernel
theorem d1_10 : decode prog_2_method_2_code 10 = .ok (.dup, 1) := by decide +kernel
theorem d1_11 : decode prog_2_method_2_code 11 = .ok (.invokespecial 17, 3) := by decide +kernel
theorem d1_14 : decode prog_2_method_2_code 14 = .ok (.astore_n 1, 1) := by decide +kernel
theorem d1_15 : decode prog_2_method_2_code 15 = .ok (.iconst 0, 1) := by decide +kernel
theorem d1_16 : decode prog_2_method_2_code 16 = .ok (.istore_n 2, 1) := by decide +kernel
theorem d1_17 : decode prog_2_method_2_code 17 = .ok (.iconst 0, 1) := by decide +kernel
theorem d1_18 : decode prog_2_method_2_code 18 = .ok (.istore_n 3, 1) := by decide +kernel
theorem d1_19 : decode prog_2_method_2_code 19 = .ok (.iload_n 3, 1) := by decide +kernel
theorem d1_20 : decode prog_2_method_2_code 20 = .ok (.aload_n 0, 1) := by decide +kernel
theorem d1_21 : decode prog_2_method_2_code 21 = .ok (.arraylength, 1) := by decide +kernel
theorem d1_22 : decode prog_2_method_2_code 22 = .ok (.if_icmp .ge 69, 3) := by decide +kernel
theorem d1_25 : decode prog_2_method_2_code 25 = .ok (.iinc 2 1, 3) := by decide +kernel
theorem d1_28 : decode prog_2_method_2_code 28 = .ok (.iload_n 3, 1) := by decide +kernel
theorem d1_29 : decode prog_2_method_2_code 29 = .ok (.istore 4, 2) := by decide +kernel
theorem d1_31 : decode prog_2_method_2_code 31 = .ok (.iload 4, 2) := by decide +kernel
theorem d1_33 : decode prog_2_method_2_code 33 = .ok (.aload_n 0, 1) := by decide +kernel
theorem d1_34 : decode prog_2_method_2_code 34 = .ok (.arraylength, 1) := by decide +kernel
theorem d1_35 : decode prog_2_method_2_code 35 = .ok (.if_icmp .ge 18, 3) := by decide +kernel
theorem d1_38 : decode prog_2_method_2_code 38 = .ok (.aload_n 0, 1) := by decide +kernel
theorem d1_39 : decode prog_2_method_2_code 39 = .ok (.iload 4, 2) := by decide +kernel
theorem d1_41 : decode prog_2_method_2_code 41 = .ok (.baload, 1) := by decide +kernel
theorem d1_42 : decode prog_2_method_2_code 42 = .ok (.bipush 10, 2) := by decide +kernel
theorem d1_44 : decode prog_2_method_2_code 44 = .ok (.if_icmp .eq 9, 3) := by decide +kernel
theorem d1_47 : decode prog_2_method_2_code 47 = .ok (.iinc 4 1, 3) := by decide +kernel
theorem d1_50 : decode prog_2_method_2_code 50 = .ok (.goto (-19), 3) := by decide +kernel
theorem d1_53 : decode prog_2_method_2_code 53 = .ok (.aload_n 0, 1) := by decide +kernel
theorem d1_54 : decode prog_2_method_2_code 54 = .ok (.iload_n 3, 1) := by decide +kernel
theorem d1_55 : decode prog_2_method_2_code 55 = .ok (.iload 4, 2) := by decide +kernel
theorem d1_57 : decode prog_2_method_2_code 57 = .ok (.invokestatic 18, 3) := by decide +kernel
theorem d1_60 : decode prog_2_method_2_code 60 = .ok (.ifCond .ne 23, 3) := by decide +kernel
theorem d1_63 : decode prog_2_method_2_code 63 = .ok (.aload_n 1, 1) := by decide +kernel
theorem d1_64 : decode prog_2_method_2_code 64 = .ok (.new 24, 3) := by decide +kernel
theorem d1_67 : decode prog_2_method_2_code 67 = .ok (.dup, 1) := by decide +kernel
theorem d1_68 : decode prog_2_method_2_code 68 = .ok (.iload_n 2, 1) := by decide +kernel
theorem d1_69 : decode prog_2_method_2_code 69 = .ok (.iload_n 3, 1) := by decide +kernel
theorem d1_70 : decode prog_2_method_2_code 70 = .ok (.iload 4, 2) := by decide +kernel
theorem d1_72 : decode prog_2_method_2_code 72 = .ok (.iload_n 3, 1) := by decide +kernel
theorem d1_73 : decode prog_2_method_2_code 73 = .ok (.isub, 1) := by decide +kernel
theorem d1_74 : decode prog_2_method_2_code 74 = .ok (.invokespecial 26, 3) := by decide +kernel
theorem d1_77 : decode prog_2_method_2_code 77 = .ok (.invokeinterface 29 2, 5) := by decide +kernel
theorem d1_82 : decode prog_2_method_2_code 82 = .ok (.pop, 1) := by decide +kernel
theorem d1_83 : decode prog_2_method_2_code 83 = .ok (.iload 4, 2) := by decide +kernel
theorem d1_85 : decode prog_2_method_2_code 85 = .ok (.iconst 1, 1) := by decide +kernel
theorem d1_86 : decode prog_2_method_2_code 86 = .ok (.iadd, 1) := by decide +kernel
theorem d1_87 : decode prog_2_method_2_code 87 = .ok (.istore_n 3, 1) := by decide +kernel
theorem d1_88 : decode prog_2_method_2_code 88 = .ok (.goto (-69), 3) := by decide +kernel
theorem d1_91 : decode prog_2_method_2_code 91 = .ok (.aload_n 1, 1) := by decide +kernel
theorem d1_92 : decode prog_2_method_2_code 92 = .ok (.areturn, 1) := by decide +kernel
theorem d2_0 : decode jdk_31_method_11_code 0 = .ok (.aload_n 0, 1) := by decide +kernel
theorem d2_1 : decode jdk_31_method_11_code 1 = .ok (.ifnonnull 12, 3) := by decide +kernel
theorem d2_13 : decode jdk_31_method_11_code 13 = .ok (.aload_n 0, 1) := by decide +kernel
theorem d2_14 : decode jdk_31_method_11_code 14 = .ok (.areturn, 1) := by decide +kernel
theorem d3_0 : decode jdk_38_method_2_code 0 = .ok (.aload_n 0, 1) := by decide +kernel
theorem d3_1 : decode jdk_38_method_2_code 1 = .ok (.invokespecial 1, 3) := by decide +kernel
theorem d3_4 : decode jdk_38_method_2_code 4 = .ok (.aload_n 0, 1) := by decide +kernel
theorem d3_5 : decode jdk_38_method_2_code 5 = .ok (.getstatic 39, 3) := by decide +kernel
theorem d3_8 : decode jdk_38_method_2_code 8 = .ok (.putfield 9, 3) := by decide +kernel
theorem d3_11 : decode jdk_38_method_2_code 11 = .ok (.return_, 1) := by decide +kernel
theorem d4_0 : decode jdk_39_method_1_code 0 = .ok (.aload_n 0, 1) := by decide +kernel
theorem d4_1 : decode jdk_39_method_1_code 1 = .ok (.invokespecial 1, 3) := by decide +kernel
theorem d4_4 : decode jdk_39_method_1_code 4 = .ok (.aload_n 0, 1) := by decide +kernel
theorem d4_5 : decode jdk_39_method_1_code 5 = .ok (.iconst 0, 1) := by decide +kernel
theorem d4_6 : decode jdk_39_method_1_code 6 = .ok (.putfield 7, 3) := by decide +kernel
theorem d4_9 : decode jdk_39_method_1_code 9 = .ok (.return_, 1) := by decide +kernel
theorem d5_0 : decode jdk_22_method_1_code 0 = .ok (.aload_n 0, 1) := by decide +kernel
theorem d5_1 : decode jdk_22_method_1_code 1 = .ok (.invokespecial 1, 3) := by decide +kernel
theorem d5_4 : decode jdk_22_method_1_code 4 = .ok (.return_, 1) := by decide +kernel
theorem d7_0 : decode method_10_code 0 = .ok (.aload_n 0, 1) := by decide +kernel
theorem d7_1 : decode method_10_code 1 = .ok (.iload_n 1, 1) := by decide +kernel
theorem d7_2 : decode method_10_code 2 = .ok (.invokestatic 41, 3) := by decide +kernel
theorem d7_5 : decode method_10_code 5 = .ok (.ifCond .eq 20, 3) := by decide +kernel
theorem d7_8 : decode method_10_code 8 = .ok (.aload_n 0, 1) := by decide +kernel
theorem d7_9 : decode method_10_code 9 = .ok (.iload_n 1, 1) := by decide +kernel
theorem d7_10 : decode method_10_code 10 = .ok (.aload_n 0, 1) := by decide +kernel
theorem d7_11 : decode method_10_code 11 = .ok (.iload_n 1, 1) := by decide +kernel
theorem d7_12 : decode method_10_code 12 = .ok (.invokestatic 44, 3) := by decide +kernel
theorem d7_15 : decode method_10_code 15 = .ok (.invokestatic 47, 3) := by decide +kernel
theorem d7_18 : decode method_10_code 18 = .ok (.ifCond .eq 7, 3) := by decide +kernel
theorem d7_21 : decode method_10_code 21 = .ok (.iconst 1, 1) := by decide +kernel
theorem d7_22 : decode method_10_code 22 = .ok (.goto 4, 3) := by decide +kernel
theorem d7_25 : decode method_10_code 25 = .ok (.iconst 0, 1) := by decide +kernel
theorem d7_26 : decode method_10_code 26 = .ok (.ireturn, 1) := by decide +kernel
theorem d8_0 : decode method_5_code 0 = .ok (.iload_n 1, 1) := by decide +kernel
theorem d8_1 : decode method_5_code 1 = .ok (.ifCond .lt 27, 3) := by decide +kernel
theorem d8_4 : decode method_5_code 4 = .ok (.iload_n 1, 1) := by decide +kernel
theorem d8_5 : decode method_5_code 5 = .ok (.aload_n 0, 1) := by decide +kernel
theorem d8_6 : decode method_5_code 6 = .ok (.arraylength, 1) := by decide +kernel
theorem d8_7 : decode method_5_code 7 = .ok (.if_icmp .ge 21, 3) := by decide +kernel
theorem d8_10 : decode method_5_code 10 = .ok (.iload_n 1, 1) := by decide +kernel
theorem d8_11 : decode method_5_code 11 = .ok (.ifCond .eq 13, 3) := by decide +kernel
theorem d8_14 : decode method_5_code 14 = .ok (.aload_n 0, 1) := by decide +kernel
theorem d8_15 : decode method_5_code 15 = .ok (.iload_n 1, 1) := by decide +kernel
theorem d8_16 : decode method_5_code 16 = .ok (.iconst 1, 1) := by decide +kernel
theorem d8_17 : decode method_5_code 17 = .ok (.isub, 1) := by decide +kernel
theorem d8_18 : decode method_5_code 18 = .ok (.baload, 1) := by decide +kernel
theorem d8_19 : decode method_5_code 19 = .ok (.bipush 10, 2) := by decide +kernel
theorem d8_21 : decode method_5_code 21 = .ok (.if_icmp .ne 7, 3) := by decide +kernel
theorem d8_24 : decode method_5_code 24 = .ok (.iconst 1, 1) := by decide +kernel
theorem d8_25 : decode method_5_code 25 = .ok (.goto 4, 3) := by decide +kernel
theorem d8_28 : decode method_5_code 28 = .ok (.iconst 0, 1) := by decide +kernel
theorem d8_29 : decode method_5_code 29 = .ok (.ireturn, 1) := by decide +kernel
theorem d9_0 : decode jdk_38_method_8_code 0 = .ok (.aload_n 0, 1) := by decide +kernel
theorem d9_1 : decode jdk_38_method_8_code 1 = .ok (.getfield 48, 3) := by decide +kernel
theorem d9_4 : decode jdk_38_method_8_code 4 = .ok (.ireturn, 1) := by decide +kernel
theorem d10_0 : decode method_11_code 0 = .ok (.iload_n 3, 1) := by decide +kernel
theorem d10_1 : decode method_11_code 1 = .ok (.bipush (-2), 2) := by decide +kernel
theorem d10_3 : decode method_11_code 3 = .ok (.if_icmp .ne 6, 3) := by decide +kernel
theorem d10_6 : decode method_11_code 6 = .ok (.bipush (-2), 2) := by decide +kernel
theorem d10_8 : decode method_11_code 8 = .ok (.ireturn, 1) := by decide +kernel
theorem d10_9 : decode method_11_code 9 = .ok (.iload_n 1, 1) := by decide +kernel
theorem d10_10 : decode method_11_code 10 = .ok (.aload_n 0, 1) := by decide +kernel
theorem d10_11 : decode method_11_code 11 = .ok (.invokeinterface 23 1, 5) := by decide +kernel
theorem d10_16 : decode method_11_code 16 = .ok (.if_icmp .lt 5, 3) := by decide +kernel
theorem d10_19 : decode method_11_code 19 = .ok (.iload_n 3, 1) := by decide +kernel
theorem d10_20 : decode method_11_code 20 = .ok (.ireturn, 1) := by decide +kernel
theorem d10_21 : decode method_11_code 21 = .ok (.aload_n 0, 1) := by decide +kernel
theorem d10_22 : decode method_11_code 22 = .ok (.iload_n 1, 1) := by decide +kernel
theorem d10_23 : decode method_11_code 23 = .ok (.invokeinterface 51 2, 5) := by decide +kernel
theorem d10_28 : decode method_11_code 28 = .ok (.checkcast 55, 3) := by decide +kernel
theorem d10_31 : decode method_11_code 31 = .ok (.astore 4, 2) := by decide +kernel
theorem d10_33 : decode method_11_code 33 = .ok (.aload 4, 2) := by decide +kernel
theorem d10_35 : decode method_11_code 35 = .ok (.invokevirtual 57, 3) := by decide +kernel
theorem d10_38 : decode method_11_code 38 = .ok (.istore 5, 2) := by decide +kernel
theorem d10_40 : decode method_11_code 40 = .ok (.iload 5, 2) := by decide +kernel
theorem d10_42 : decode method_11_code 42 = .ok (.iload_n 3, 1) := by decide +kernel
theorem d10_43 : decode method_11_code 43 = .ok (.if_icmp .le 13, 3) := by decide +kernel
theorem d10_46 : decode method_11_code 46 = .ok (.aload_n 2, 1) := by decide +kernel
theorem d10_47 : decode method_11_code 47 = .ok (.iload 5, 2) := by decide +kernel
theorem d10_49 : decode method_11_code 49 = .ok (.invokestatic 19, 3) := by decide +kernel
theorem d10_52 : decode method_11_code 52 = .ok (.iconst 1, 1) := by decide +kernel
theorem d10_53 : decode method_11_code 53 = .ok (.if_icmp .eq 6, 3) := by decide +kernel
theorem d10_56 : decode method_11_code 56 = .ok (.bipush (-2), 2) := by decide +kernel
theorem d10_58 : decode method_11_code 58 = .ok (.ireturn, 1) := by decide +kernel
theorem d10_59 : decode method_11_code 59 = .ok (.aload 4, 2) := by decide +kernel
theorem d10_61 : decode method_11_code 61 = .ok (.invokevirtual 60, 3) := by decide +kernel
theorem d10_64 : decode method_11_code 64 = .ok (.aload_n 2, 1) := by decide +kernel
theorem d10_65 : decode method_11_code 65 = .ok (.iload 5, 2) := by decide +kernel
theorem d10_67 : decode method_11_code 67 = .ok (.invokestatic 44, 3) := by decide +kernel
theorem d10_70 : decode method_11_code 70 = .ok (.iload 5, 2) := by decide +kernel
theorem d10_72 : decode method_11_code 72 = .ok (.isub, 1) := by decide +kernel
theorem d10_73 : decode method_11_code 73 = .ok (.if_icmp .eq 6, 3) := by decide +kernel
theorem d10_76 : decode method_11_code 76 = .ok (.bipush (-2), 2) := by decide +kernel
theorem d10_78 : decode method_11_code 78 = .ok (.ireturn, 1) := by decide +kernel
theorem d10_79 : decode method_11_code 79 = .ok (.aload 4, 2) := by decide +kernel
theorem d10_81 : decode method_11_code 81 = .ok (.invokevirtual 63, 3) := by decide +kernel
theorem d10_84 : decode method_11_code 84 = .ok (.iconst 1, 1) := by decide +kernel
theorem d10_85 : decode method_11_code 85 = .ok (.aload_n 2, 1) := by decide +kernel
theorem d10_86 : decode method_11_code 86 = .ok (.iload 5, 2) := by decide +kernel
theorem d10_88 : decode method_11_code 88 = .ok (.invokestatic 66, 3) := by decide +kernel
theorem d10_91 : decode method_11_code 91 = .ok (.iadd, 1) := by decide +kernel
theorem d10_92 : decode method_11_code 92 = .ok (.if_icmp .eq 6, 3) := by decide +kernel
theorem d10_95 : decode method_11_code 95 = .ok (.bipush (-2), 2) := by decide +kernel
theorem d10_97 : decode method_11_code 97 = .ok (.ireturn, 1) := by decide +kernel
theorem d10_98 : decode method_11_code 98 = .ok (.iload 5, 2) := by decide +kernel
theorem d10_100 : decode method_11_code 100 = .ok (.ireturn, 1) := by decide +kernel
theorem d11_0 : decode method_3_code 0 = .ok (.iload_n 0, 1) := by decide +kernel
theorem d11_1 : decode method_3_code 1 = .ok (.iconst 3, 1) := by decide +kernel
theorem d11_2 : decode method_3_code 2 = .ok (.iload_n 2, 1) := by decide +kernel
theorem d11_3 : decode method_3_code 3 = .ok (.imul, 1) := by decide +kernel
theorem d11_4 : decode method_3_code 4 = .ok (.iushr, 1) := by decide +kernel
theorem d11_5 : decode method_3_code 5 = .ok (.bipush 7, 2) := by decide +kernel
theorem d11_7 : decode method_3_code 7 = .ok (.iand, 1) := by decide +kernel
theorem d11_8 : decode method_3_code 8 = .ok (.istore_n 3, 1) := by decide +kernel
theorem d11_9 : decode method_3_code 9 = .ok (.iload_n 3, 1) := by decide +kernel
theorem d11_10 : decode method_3_code 10 = .ok (.ifCond .ne 6, 3) := by decide +kernel
theorem d11_13 : decode method_3_code 13 = .ok (.bipush 10, 2) := by decide +kernel
theorem d11_15 : decode method_3_code 15 = .ok (.ireturn, 1) := by decide +kernel
theorem d11_16 : decode method_3_code 16 = .ok (.iload_n 3, 1) := by decide +kernel
theorem d11_17 : decode method_3_code 17 = .ok (.iconst 1, 1) := by decide +kernel
theorem d11_18 : decode method_3_code 18 = .ok (.if_icmp .ne 6, 3) := by decide +kernel
theorem d11_21 : decode method_3_code 21 = .ok (.bipush 32, 2) := by decide +kernel
theorem d11_23 : decode method_3_code 23 = .ok (.ireturn, 1) := by decide +kernel
theorem d11_24 : decode method_3_code 24 = .ok (.iload_n 3, 1) := by decide +kernel
theorem d11_25 : decode method_3_code 25 = .ok (.iconst 2, 1) := by decide +kernel
theorem d11_26 : decode method_3_code 26 = .ok (.if_icmp .ne 6, 3) := by decide +kernel
theorem d11_29 : decode method_3_code 29 = .ok (.bipush 9, 2) := by decide +kernel
theorem d11_31 : decode method_3_code 31 = .ok (.ireturn, 1) := by decide +kernel
theorem d11_32 : decode method_3_code 32 = .ok (.iload_n 3, 1) := by decide +kernel
theorem d11_33 : decode method_3_code 33 = .ok (.iconst 3, 1) := by decide +kernel
theorem d11_34 : decode method_3_code 34 = .ok (.if_icmp .ne 6, 3) := by decide +kernel
theorem d11_37 : decode method_3_code 37 = .ok (.bipush 13, 2) := by decide +kernel
theorem d11_39 : decode method_3_code 39 = .ok (.ireturn, 1) := by decide +kernel
theorem d11_40 : decode method_3_code 40 = .ok (.iload_n 1, 1) := by decide +kernel
theorem d11_41 : decode method_3_code 41 = .ok (.bipush 8, 2) := by decide +kernel
theorem d11_43 : decode method_3_code 43 = .ok (.iload_n 2, 1) := by decide +kernel
theorem d11_44 : decode method_3_code 44 = .ok (.imul, 1) := by decide +kernel
theorem d11_45 : decode method_3_code 45 = .ok (.iushr, 1) := by decide +kernel
theorem d11_46 : decode method_3_code 46 = .ok (.i2b, 1) := by decide +kernel
theorem d11_47 : decode method_3_code 47 = .ok (.ireturn, 1) := by decide +kernel
theorem d12_0 : decode prog_2_method_3_code 0 = .ok (.iload_n 1, 1) := by decide +kernel
theorem d12_1 : decode prog_2_method_3_code 1 = .ok (.istore_n 3, 1) := by decide +kernel
theorem d12_2 : decode prog_2_method_3_code 2 = .ok (.iload_n 3, 1) := by decide +kernel
theorem d12_3 : decode prog_2_method_3_code 3 = .ok (.iload_n 2, 1) := by decide +kernel
theorem d12_4 : decode prog_2_method_3_code 4 = .ok (.if_icmp .ge 37, 3) := by decide +kernel
theorem d12_7 : decode prog_2_method_3_code 7 = .ok (.aload_n 0, 1) := by decide +kernel
theorem d12_8 : decode prog_2_method_3_code 8 = .ok (.iload_n 3, 1) := by decide +kernel
theorem d12_9 : decode prog_2_method_3_code 9 = .ok (.baload, 1) := by decide +kernel
theorem d12_10 : decode prog_2_method_3_code 10 = .ok (.istore 4, 2) := by decide +kernel
theorem d12_12 : decode prog_2_method_3_code 12 = .ok (.iload 4, 2) := by decide +kernel
theorem d12_14 : decode prog_2_method_3_code 14 = .ok (.bipush 32, 2) := by decide +kernel
theorem d12_16 : decode prog_2_method_3_code 16 = .ok (.if_icmp .eq 19, 3) := by decide +kernel
theorem d12_19 : decode prog_2_method_3_code 19 = .ok (.iload 4, 2) := by decide +kernel
theorem d12_21 : decode prog_2_method_3_code 21 = .ok (.bipush 9, 2) := by decide +kernel
theorem d12_23 : decode prog_2_method_3_code 23 = .ok (.if_icmp .eq 12, 3) := by decide +kernel
theorem d12_26 : decode prog_2_method_3_code 26 = .ok (.iload 4, 2) := by decide +kernel
theorem d12_28 : decode prog_2_method_3_code 28 = .ok (.bipush 13, 2) := by decide +kernel
theorem d12_30 : decode prog_2_method_3_code 30 = .ok (.if_icmp .eq 5, 3) := by decide +kernel
theorem d12_33 : decode prog_2_method_3_code 33 = .ok (.iconst 0, 1) := by decide +kernel
theorem d12_34 : decode prog_2_method_3_code 34 = .ok (.ireturn, 1) := by decide +kernel
theorem d12_35 : decode prog_2_method_3_code 35 = .ok (.iinc 3 1, 3) := by decide +kernel
theorem d12_38 : decode prog_2_method_3_code 38 = .ok (.goto (-36), 3) := by decide +kernel
theorem d12_41 : decode prog_2_method_3_code 41 = .ok (.iconst 1, 1) := by decide +kernel
theorem d12_42 : decode prog_2_method_3_code 42 = .ok (.ireturn, 1) := by decide +kernel
theorem d13_0 : decode prog_3_method_1_code 0 = .ok (.aload_n 0, 1) := by decide +kernel
theorem d13_1 : decode prog_3_method_1_code 1 = .ok (.invokespecial 1, 3) := by decide +kernel
theorem d13_4 : decode prog_3_method_1_code 4 = .ok (.aload_n 0, 1) := by decide +kernel
theorem d13_5 : decode prog_3_method_1_code 5 = .ok (.iload_n 1, 1) := by decide +kernel
theorem d13_6 : decode prog_3_method_1_code 6 = .ok (.putfield 7, 3) := by decide +kernel
theorem d13_9 : decode prog_3_method_1_code 9 = .ok (.aload_n 0, 1) := by decide +kernel
theorem d13_10 : decode prog_3_method_1_code 10 = .ok (.iload_n 2, 1) := by decide +kernel
theorem d13_11 : decode prog_3_method_1_code 11 = .ok (.putfield 13, 3) := by decide +kernel
theorem d13_14 : decode prog_3_method_1_code 14 = .ok (.aload_n 0, 1) := by decide +kernel
theorem d13_15 : decode prog_3_method_1_code 15 = .ok (.iload_n 3, 1) := by decide +kernel
theorem d13_16 : decode prog_3_method_1_code 16 = .ok (.putfield 16, 3) := by decide +kernel
theorem d13_19 : decode prog_3_method_1_code 19 = .ok (.return_, 1) := by decide +kernel
theorem d14_0 : decode jdk_30_method_1_code 0 = .ok (.aload_n 0, 1) := by decide +kernel
theorem d14_1 : decode jdk_30_method_1_code 1 = .ok (.invokespecial 1, 3) := by decide +kernel
theorem d14_4 : decode jdk_30_method_1_code 4 = .ok (.return_, 1) := by decide +kernel
theorem d15_0 : decode jdk_38_method_25_code 0 = .ok (.aload_n 0, 1) := by decide +kernel
theorem d15_1 : decode jdk_38_method_25_code 1 = .ok (.dup, 1) := by decide +kernel
theorem d15_2 : decode jdk_38_method_25_code 2 = .ok (.getfield 63, 3) := by decide +kernel
theorem d15_5 : decode jdk_38_method_25_code 5 = .ok (.iconst 1, 1) := by decide +kernel
theorem d15_6 : decode jdk_38_method_25_code 6 = .ok (.iadd, 1) := by decide +kernel
theorem d15_7 : decode jdk_38_method_25_code 7 = .ok (.putfield 63, 3) := by decide +kernel
theorem d15_10 : decode jdk_38_method_25_code 10 = .ok (.aload_n 0, 1) := by decide +kernel
theorem d15_11 : decode jdk_38_method_25_code 11 = .ok (.aload_n 1, 1) := by decide +kernel
theorem d15_12 : decode jdk_38_method_25_code 12 = .ok (.aload_n 0, 1) := by decide +kernel
theorem d15_13 : decode jdk_38_method_25_code 13 = .ok (.getfield 9, 3) := by decide +kernel
theorem d15_16 : decode jdk_38_method_25_code 16 = .ok (.aload_n 0, 1) := by decide +kernel
theorem d15_17 : decode jdk_38_method_25_code 17 = .ok (.getfield 48, 3) := by decide +kernel
theorem d15_20 : decode jdk_38_method_25_code 20 = .ok (.invokevirtual 131, 3) := by decide +kernel
theorem d15_23 : decode jdk_38_method_25_code 23 = .ok (.iconst 1, 1) := by decide +kernel
theorem d15_24 : decode jdk_38_method_25_code 24 = .ok (.ireturn, 1) := by decide +kernel
theorem d16_0 : decode jdk_38_method_24_code 0 = .ok (.iload_n 3, 1) := by decide +kernel
theorem d16_1 : decode jdk_38_method_24_code 1 = .ok (.aload_n 2, 1) := by decide +kernel
theorem d16_2 : decode jdk_38_method_24_code 2 = .ok (.arraylength, 1) := by decide +kernel
theorem d16_3 : decode jdk_38_method_24_code 3 = .ok (.if_icmp .ne 8, 3) := by decide +kernel
theorem d16_6 : decode jdk_38_method_24_code 6 = .ok (.aload_n 0, 1) := by decide +kernel
theorem d16_7 : decode jdk_38_method_24_code 7 = .ok (.invokevirtual 129, 3) := by decide +kernel
theorem d16_10 : decode jdk_38_method_24_code 10 = .ok (.astore_n 2, 1) := by decide +kernel
theorem d16_11 : decode jdk_38_method_24_code 11 = .ok (.aload_n 2, 1) := by decide +kernel
theorem d16_12 : decode jdk_38_method_24_code 12 = .ok (.iload_n 3, 1) := by decide +kernel
theorem d16_13 : decode jdk_38_method_24_code 13 = .ok (.aload_n 1, 1) := by decide +kernel
theorem d16_14 : decode jdk_38_method_24_code 14 = .ok (.aastore, 1) := by decide +kernel
theorem d16_15 : decode jdk_38_method_24_code 15 = .ok (.aload_n 0, 1) := by decide +kernel
theorem d16_16 : decode jdk_38_method_24_code 16 = .ok (.iload_n 3, 1) := by decide +kernel
theorem d16_17 : decode jdk_38_method_24_code 17 = .ok (.iconst 1, 1) := by decide +kernel
theorem d16_18 : decode jdk_38_method_24_code 18 = .ok (.iadd, 1) := by decide +kernel
theorem d16_19 : decode jdk_38_method_24_code 19 = .ok (.putfield 48, 3) := by decide +kernel
theorem d16_22 : decode jdk_38_method_24_code 22 = .ok (.return_, 1) := by decide +kernel
theorem d17_0 : decode jdk_38_method_7_code 0 = .ok (.aload_n 0, 1) := by decide +kernel
theorem d17_1 : decode jdk_38_method_7_code 1 = .ok (.aload_n 0, 1) := by decide +kernel
theorem d17_2 : decode jdk_38_method_7_code 2 = .ok (.getfield 48, 3) := by decide +kernel
theorem d17_5 : decode jdk_38_method_7_code 5 = .ok (.iconst 1, 1) := by decide +kernel
theorem d17_6 : decode jdk_38_method_7_code 6 = .ok (.iadd, 1) := by decide +kernel
theorem d17_7 : decode jdk_38_method_7_code 7 = .ok (.invokevirtual 69, 3) := by decide +kernel
theorem d17_10 : decode jdk_38_method_7_code 10 = .ok (.areturn, 1) := by decide +kernel
theorem d18_0 : decode jdk_38_method_6_code 0 = .ok (.aload_n 0, 1) := by decide +kernel
theorem d18_1 : decode jdk_38_method_6_code 1 = .ok (.getfield 9, 3) := by decide +kernel
theorem d18_4 : decode jdk_38_method_6_code 4 = .ok (.arraylength, 1) := by decide +kernel
theorem d18_5 : decode jdk_38_method_6_code 5 = .ok (.istore_n 2, 1) := by decide +kernel
theorem d18_6 : decode jdk_38_method_6_code 6 = .ok (.iload_n 2, 1) := by decide +kernel
theorem d18_7 : decode jdk_38_method_6_code 7 = .ok (.ifCond .gt 13, 3) := by decide +kernel
theorem d18_10 : decode jdk_38_method_6_code 10 = .ok (.aload_n 0, 1) := by decide +kernel
theorem d18_11 : decode jdk_38_method_6_code 11 = .ok (.getfield 9, 3) := by decide +kernel
theorem d18_14 : decode jdk_38_method_6_code 14 = .ok (.getstatic 39, 3) := by decide +kernel
theorem d18_17 : decode jdk_38_method_6_code 17 = .ok (.if_acmp .eq 28, 3) := by decide +kernel
theorem d18_45 : decode jdk_38_method_6_code 45 = .ok (.aload_n 0, 1) := by decide +kernel
theorem d18_46 : decode jdk_38_method_6_code 46 = .ok (.bipush 10, 2) := by decide +kernel
theorem d18_48 : decode jdk_38_method_6_code 48 = .ok (.iload_n 1, 1) := by decide +kernel
theorem d18_49 : decode jdk_38_method_6_code 49 = .ok (.invokestatic 79, 3) := by decide +kernel
theorem d18_52 : decode jdk_38_method_6_code 52 = .ok (.anewarray 7, 3) := by decide +kernel
theorem d18_55 : decode jdk_38_method_6_code 55 = .ok (.dup_x1, 1) := by decide +kernel
theorem d18_56 : decode jdk_38_method_6_code 56 = .ok (.putfield 9, 3) := by decide +kernel
theorem d18_59 : decode jdk_38_method_6_code 59 = .ok (.areturn, 1) := by decide +kernel
theorem d19_0 : decode jdk_29_method_65_code 0 = .ok (.iload_n 0, 1) := by decide +kernel
theorem d19_1 : decode jdk_29_method_65_code 1 = .ok (.iload_n 1, 1) := by decide +kernel
theorem d19_2 : decode jdk_29_method_65_code 2 = .ok (.if_icmp .lt 7, 3) := by decide +kernel
theorem d19_5 : decode jdk_29_method_65_code 5 = .ok (.iload_n 0, 1) := by decide +kernel
theorem d19_6 : decode jdk_29_method_65_code 6 = .ok (.goto 4, 3) := by decide +kernel
theorem d19_10 : decode jdk_29_method_65_code 10 = .ok (.ireturn, 1) := by decide +kernel
theorem d20_0 : decode method_6_code 0 = .ok (.aload_n 0, 1) := by decide +kernel
theorem d20_1 : decode method_6_code 1 = .ok (.arraylength, 1) := by decide +kernel
theorem d20_2 : decode method_6_code 2 = .ok (.istore_n 2, 1) := by decide +kernel
theorem d20_3 : decode method_6_code 3 = .ok (.iload_n 1, 1) := by decide +kernel
theorem d20_4 : decode method_6_code 4 = .ok (.iconst 3, 1) := by decide +kernel
theorem d20_5 : decode method_6_code 5 = .ok (.if_icmp .gt 13, 3) := by decide +kernel
theorem d20_8 : decode method_6_code 8 = .ok (.aload_n 0, 1) := by decide +kernel
theorem d20_9 : decode method_6_code 9 = .ok (.iconst 3, 1) := by decide +kernel
theorem d20_10 : decode method_6_code 10 = .ok (.invokestatic 33, 3) := by decide +kernel
theorem d20_13 : decode method_6_code 13 = .ok (.ifCond .eq 5, 3) := by decide +kernel
theorem d20_16 : decode method_6_code 16 = .ok (.iconst 3, 1) := by decide +kernel
theorem d20_17 : decode method_6_code 17 = .ok (.istore_n 2, 1) := by decide +kernel
theorem d20_18 : decode method_6_code 18 = .ok (.iload_n 1, 1) := by decide +kernel
theorem d20_19 : decode method_6_code 19 = .ok (.iconst 2, 1) := by decide +kernel
theorem d20_20 : decode method_6_code 20 = .ok (.if_icmp .gt 13, 3) := by decide +kernel
theorem d20_23 : decode method_6_code 23 = .ok (.aload_n 0, 1) := by decide +kernel
theorem d20_24 : decode method_6_code 24 = .ok (.iconst 2, 1) := by decide +kernel
theorem d20_25 : decode method_6_code 25 = .ok (.invokestatic 33, 3) := by decide +kernel
theorem d20_28 : decode method_6_code 28 = .ok (.ifCond .eq 5, 3) := by decide +kernel
theorem d20_31 : decode method_6_code 31 = .ok (.iconst 2, 1) := by decide +kernel
theorem d20_32 : decode method_6_code 32 = .ok (.istore_n 2, 1) := by decide +kernel
theorem d20_33 : decode method_6_code 33 = .ok (.iload_n 1, 1) := by decide +kernel
theorem d20_34 : decode method_6_code 34 = .ok (.iconst 1, 1) := by decide +kernel
theorem d20_35 : decode method_6_code 35 = .ok (.if_icmp .gt 13, 3) := by decide +kernel
theorem d20_38 : decode method_6_code 38 = .ok (.aload_n 0, 1) := by decide +kernel
theorem d20_39 : decode method_6_code 39 = .ok (.iconst 1, 1) := by decide +kernel
theorem d20_40 : decode method_6_code 40 = .ok (.invokestatic 33, 3) := by decide +kernel
theorem d20_43 : decode method_6_code 43 = .ok (.ifCond .eq 5, 3) := by decide +kernel
theorem d20_46 : decode method_6_code 46 = .ok (.iconst 1, 1) := by decide +kernel
theorem d20_47 : decode method_6_code 47 = .ok (.istore_n 2, 1) := by decide +kernel
theorem d20_48 : decode method_6_code 48 = .ok (.iload_n 1, 1) := by decide +kernel
theorem d20_49 : decode method_6_code 49 = .ok (.ifCond .gt 13, 3) := by decide +kernel
theorem d20_52 : decode method_6_code 52 = .ok (.aload_n 0, 1) := by decide +kernel
theorem d20_53 : decode method_6_code 53 = .ok (.iconst 0, 1) := by decide +kernel
theorem d20_54 : decode method_6_code 54 = .ok (.invokestatic 33, 3) := by decide +kernel
theorem d20_57 : decode method_6_code 57 = .ok (.ifCond .eq 5, 3) := by decide +kernel
theorem d20_60 : decode method_6_code 60 = .ok (.iconst 0, 1) := by decide +kernel
theorem d20_61 : decode method_6_code 61 = .ok (.istore_n 2, 1) := by decide +kernel
theorem d20_62 : decode method_6_code 62 = .ok (.iload_n 2, 1) := by decide +kernel
theorem d20_63 : decode method_6_code 63 = .ok (.ireturn, 1) := by decide +kernel
theorem d21_0 : decode method_4_code 0 = .ok (.iload_n 1, 1) := by decide +kernel
theorem d21_1 : decode method_4_code 1 = .ok (.ifCond .lt 21, 3) := by decide +kernel
theorem d21_4 : decode method_4_code 4 = .ok (.iload_n 1, 1) := by decide +kernel
theorem d21_5 : decode method_4_code 5 = .ok (.aload_n 0, 1) := by decide +kernel
theorem d21_6 : decode method_4_code 6 = .ok (.arraylength, 1) := by decide +kernel
theorem d21_7 : decode method_4_code 7 = .ok (.if_icmp .ge 15, 3) := by decide +kernel
theorem d21_10 : decode method_4_code 10 = .ok (.aload_n 0, 1) := by decide +kernel
theorem d21_11 : decode method_4_code 11 = .ok (.iload_n 1, 1) := by decide +kernel
theorem d21_12 : decode method_4_code 12 = .ok (.baload, 1) := by decide +kernel
theorem d21_13 : decode method_4_code 13 = .ok (.bipush 10, 2) := by decide +kernel
theorem d21_15 : decode method_4_code 15 = .ok (.if_icmp .ne 7, 3) := by decide +kernel
theorem d21_18 : decode method_4_code 18 = .ok (.iconst 1, 1) := by decide +kernel
theorem d21_19 : decode method_4_code 19 = .ok (.goto 4, 3) := by decide +kernel
theorem d21_22 : decode method_4_code 22 = .ok (.iconst 0, 1) := by decide +kernel
theorem d21_23 : decode method_4_code 23 = .ok (.ireturn, 1) := by decide +kernel
theorem d22_0 : decode method_8_code 0 = .ok (.aload_n 0, 1) := by decide +kernel
theorem d22_1 : decode method_8_code 1 = .ok (.iconst 0, 1) := by decide +kernel
theorem d22_2 : decode method_8_code 2 = .ok (.iload_n 1, 1) := by decide +kernel
theorem d22_3 : decode method_8_code 3 = .ok (.iload_n 2, 1) := by decide +kernel
theorem d22_4 : decode method_8_code 4 = .ok (.invokestatic 37, 3) := by decide +kernel
theorem d22_7 : decode method_8_code 7 = .ok (.ifCond .ne 33, 3) := by decide +kernel
theorem d22_10 : decode method_8_code 10 = .ok (.aload_n 0, 1) := by decide +kernel
theorem d22_11 : decode method_8_code 11 = .ok (.iconst 1, 1) := by decide +kernel
theorem d22_12 : decode method_8_code 12 = .ok (.iload_n 1, 1) := by decide +kernel
theorem d22_13 : decode method_8_code 13 = .ok (.iload_n 2, 1) := by decide +kernel
theorem d22_14 : decode method_8_code 14 = .ok (.invokestatic 37, 3) := by decide +kernel
theorem d22_17 : decode method_8_code 17 = .ok (.ifCond .ne 23, 3) := by decide +kernel
theorem d22_20 : decode method_8_code 20 = .ok (.aload_n 0, 1) := by decide +kernel
theorem d22_21 : decode method_8_code 21 = .ok (.iconst 2, 1) := by decide +kernel
theorem d22_22 : decode method_8_code 22 = .ok (.iload_n 1, 1) := by decide +kernel
theorem d22_23 : decode method_8_code 23 = .ok (.iload_n 2, 1) := by decide +kernel
theorem d22_24 : decode method_8_code 24 = .ok (.invokestatic 37, 3) := by decide +kernel
theorem d22_27 : decode method_8_code 27 = .ok (.ifCond .ne 13, 3) := by decide +kernel
theorem d22_30 : decode method_8_code 30 = .ok (.aload_n 0, 1) := by decide +kernel
theorem d22_31 : decode method_8_code 31 = .ok (.iconst 3, 1) := by decide +kernel
theorem d22_32 : decode method_8_code 32 = .ok (.iload_n 1, 1) := by decide +kernel
theorem d22_33 : decode method_8_code 33 = .ok (.iload_n 2, 1) := by decide +kernel
theorem d22_34 : decode method_8_code 34 = .ok (.invokestatic 37, 3) := by decide +kernel
theorem d22_37 : decode method_8_code 37 = .ok (.ifCond .eq 7, 3) := by decide +kernel
theorem d22_40 : decode method_8_code 40 = .ok (.iconst 1, 1) := by decide +kernel
theorem d22_41 : decode method_8_code 41 = .ok (.goto 4, 3) := by decide +kernel
theorem d22_44 : decode method_8_code 44 = .ok (.iconst 0, 1) := by decide +kernel
theorem d22_45 : decode method_8_code 45 = .ok (.ireturn, 1) := by decide +kernel
theorem d23_0 : decode method_7_code 0 = .ok (.iload_n 2, 1) := by decide +kernel
theorem d23_1 : decode method_7_code 1 = .ok (.iload_n 1, 1) := by decide +kernel
theorem d23_2 : decode method_7_code 2 = .ok (.if_icmp .gt 44, 3) := by decide +kernel
theorem d23_5 : decode method_7_code 5 = .ok (.iload_n 1, 1) := by decide +kernel
theorem d23_6 : decode method_7_code 6 = .ok (.iload_n 3, 1) := by decide +kernel
theorem d23_7 : decode method_7_code 7 = .ok (.if_icmp .ge 39, 3) := by decide +kernel
theorem d23_10 : decode method_7_code 10 = .ok (.aload_n 0, 1) := by decide +kernel
theorem d23_11 : decode method_7_code 11 = .ok (.iload_n 1, 1) := by decide +kernel
theorem d23_12 : decode method_7_code 12 = .ok (.baload, 1) := by decide +kernel
theorem d23_13 : decode method_7_code 13 = .ok (.bipush 32, 2) := by decide +kernel
theorem d23_15 : decode method_7_code 15 = .ok (.if_icmp .eq 31, 3) := by decide +kernel
theorem d23_18 : decode method_7_code 18 = .ok (.aload_n 0, 1) := by decide +kernel
theorem d23_19 : decode method_7_code 19 = .ok (.iload_n 1, 1) := by decide +kernel
theorem d23_20 : decode method_7_code 20 = .ok (.baload, 1) := by decide +kernel
theorem d23_21 : decode method_7_code 21 = .ok (.bipush 9, 2) := by decide +kernel
theorem d23_23 : decode method_7_code 23 = .ok (.if_icmp .eq 23, 3) := by decide +kernel
theorem d23_26 : decode method_7_code 26 = .ok (.aload_n 0, 1) := by decide +kernel
theorem d23_27 : decode method_7_code 27 = .ok (.iload_n 1, 1) := by decide +kernel
theorem d23_28 : decode method_7_code 28 = .ok (.baload, 1) := by decide +kernel
theorem d23_29 : decode method_7_code 29 = .ok (.bipush 13, 2) := by decide +kernel
theorem d23_31 : decode method_7_code 31 = .ok (.if_icmp .eq 15, 3) := by decide +kernel
theorem d23_34 : decode method_7_code 34 = .ok (.aload_n 0, 1) := by decide +kernel
theorem d23_35 : decode method_7_code 35 = .ok (.iload_n 1, 1) := by decide +kernel
theorem d23_36 : decode method_7_code 36 = .ok (.baload, 1) := by decide +kernel
theorem d23_37 : decode method_7_code 37 = .ok (.bipush 10, 2) := by decide +kernel
theorem d23_39 : decode method_7_code 39 = .ok (.if_icmp .eq 7, 3) := by decide +kernel
theorem d23_42 : decode method_7_code 42 = .ok (.iconst 1, 1) := by decide +kernel
theorem d23_43 : decode method_7_code 43 = .ok (.goto 4, 3) := by decide +kernel
theorem d23_46 : decode method_7_code 46 = .ok (.iconst 0, 1) := by decide +kernel
theorem d23_47 : decode method_7_code 47 = .ok (.ireturn, 1) := by decide +kernel
theorem d24_0 : decode jdk_38_method_20_code 0 = .ok (.iload_n 1, 1) := by decide +kernel
theorem d24_1 : decode jdk_38_method_20_code 1 = .ok (.aload_n 0, 1) := by decide +kernel
theorem d24_2 : decode jdk_38_method_20_code 2 = .ok (.getfield 48, 3) := by decide +kernel
theorem d24_5 : decode jdk_38_method_20_code 5 = .ok (.invokestatic 118, 3) := by decide +kernel
theorem d24_8 : decode jdk_38_method_20_code 8 = .ok (.pop, 1) := by decide +kernel
theorem d24_9 : decode jdk_38_method_20_code 9 = .ok (.aload_n 0, 1) := by decide +kernel
theorem d24_10 : decode jdk_38_method_20_code 10 = .ok (.iload_n 1, 1) := by decide +kernel
theorem d24_11 : decode jdk_38_method_20_code 11 = .ok (.invokevirtual 123, 3) := by decide +kernel
theorem d24_14 : decode jdk_38_method_20_code 14 = .ok (.areturn, 1) := by decide +kernel
theorem d25_0 : decode jdk_31_method_17_code 0 = .ok (.iload_n 0, 1) := by decide +kernel
theorem d25_1 : decode jdk_31_method_17_code 1 = .ok (.iload_n 1, 1) := by decide +kernel
theorem d25_2 : decode jdk_31_method_17_code 2 = .ok (.aconst_null, 1) := by decide +kernel
theorem d25_3 : decode jdk_31_method_17_code 3 = .ok (.invokestatic 105, 3) := by decide +kernel
theorem d25_6 : decode jdk_31_method_17_code 6 = .ok (.ireturn, 1) := by decide +kernel
theorem d26_0 : decode jdk_41_method_11_code 0 = .ok (.iload_n 0, 1) := by decide +kernel
theorem d26_1 : decode jdk_41_method_11_code 1 = .ok (.ifCond .lt 8, 3) := by decide +kernel
theorem d26_4 : decode jdk_41_method_11_code 4 = .ok (.iload_n 0, 1) := by decide +kernel
theorem d26_5 : decode jdk_41_method_11_code 5 = .ok (.iload_n 1, 1) := by decide +kernel
theorem d26_6 : decode jdk_41_method_11_code 6 = .ok (.if_icmp .lt 10, 3) := by decide +kernel
theorem d26_16 : decode jdk_41_method_11_code 16 = .ok (.iload_n 0, 1) := by decide +kernel
theorem d26_17 : decode jdk_41_method_11_code 17 = .ok (.ireturn, 1) := by decide +kernel
theorem d27_0 : decode jdk_38_method_18_code 0 = .ok (.aload_n 0, 1) := by decide +kernel
theorem d27_1 : decode jdk_38_method_18_code 1 = .ok (.getfield 9, 3) := by decide +kernel
theorem d27_4 : decode jdk_38_method_18_code 4 = .ok (.iload_n 1, 1) := by decide +kernel
theorem d27_5 : decode jdk_38_method_18_code 5 = .ok (.aaload, 1) := by decide +kernel
theorem d27_6 : decode jdk_38_method_18_code 6 = .ok (.areturn, 1) := by decide +kernel
theorem d28_0 : decode prog_3_method_6_code 0 = .ok (.aload_n 0, 1) := by decide +kernel
theorem d28_1 : decode prog_3_method_6_code 1 = .ok (.getfield 13, 3) := by decide +kernel
theorem d28_4 : decode prog_3_method_6_code 4 = .ok (.ireturn, 1) := by decide +kernel
theorem d29_0 : decode prog_3_method_7_code 0 = .ok (.aload_n 0, 1) := by decide +kernel
theorem d29_1 : decode prog_3_method_7_code 1 = .ok (.getfield 16, 3) := by decide +kernel
theorem d29_4 : decode prog_3_method_7_code 4 = .ok (.ireturn, 1) := by decide +kernel
theorem d30_0 : decode prog_3_method_5_code 0 = .ok (.aload_n 0, 1) := by decide +kernel
theorem d30_1 : decode prog_3_method_5_code 1 = .ok (.getfield 7, 3) := by decide +kernel
theorem d30_4 : decode prog_3_method_5_code 4 = .ok (.ireturn, 1) := by decide +kernel
theorem d31_0 : decode method_9_code 0 = .ok (.iconst 0, 1) := by decide +kernel
theorem d31_1 : decode method_9_code 1 = .ok (.istore_n 2, 1) := by decide +kernel
theorem d31_2 : decode method_9_code 2 = .ok (.iconst 0, 1) := by decide +kernel
theorem d31_3 : decode method_9_code 3 = .ok (.iload_n 1, 1) := by decide +kernel
theorem d31_4 : decode method_9_code 4 = .ok (.if_icmp .ge 14, 3) := by decide +kernel
theorem d31_7 : decode method_9_code 7 = .ok (.aload_n 0, 1) := by decide +kernel
theorem d31_8 : decode method_9_code 8 = .ok (.iconst 0, 1) := by decide +kernel
theorem d31_9 : decode method_9_code 9 = .ok (.invokestatic 33, 3) := by decide +kernel
theorem d31_12 : decode method_9_code 12 = .ok (.ifCond .eq 6, 3) := by decide +kernel
theorem d31_15 : decode method_9_code 15 = .ok (.iinc 2 1, 3) := by decide +kernel
theorem d31_18 : decode method_9_code 18 = .ok (.iconst 1, 1) := by decide +kernel
theorem d31_19 : decode method_9_code 19 = .ok (.iload_n 1, 1) := by decide +kernel
theorem d31_20 : decode method_9_code 20 = .ok (.if_icmp .ge 14, 3) := by decide +kernel
theorem d31_23 : decode method_9_code 23 = .ok (.aload_n 0, 1) := by decide +kernel
theorem d31_24 : decode method_9_code 24 = .ok (.iconst 1, 1) := by decide +kernel
theorem d31_25 : decode method_9_code 25 = .ok (.invokestatic 33, 3) := by decide +kernel
theorem d31_28 : decode method_9_code 28 = .ok (.ifCond .eq 6, 3) := by decide +kernel
theorem d31_31 : decode method_9_code 31 = .ok (.iinc 2 1, 3) := by decide +kernel
theorem d31_34 : decode method_9_code 34 = .ok (.iconst 2, 1) := by decide +kernel
theorem d31_35 : decode method_9_code 35 = .ok (.iload_n 1, 1) := by decide +kernel
theorem d31_36 : decode method_9_code 36 = .ok (.if_icmp .ge 14, 3) := by decide +kernel
theorem d31_39 : decode method_9_code 39 = .ok (.aload_n 0, 1) := by decide +kernel
theorem d31_40 : decode method_9_code 40 = .ok (.iconst 2, 1) := by decide +kernel
theorem d31_41 : decode method_9_code 41 = .ok (.invokestatic 33, 3) := by decide +kernel
theorem d31_44 : decode method_9_code 44 = .ok (.ifCond .eq 6, 3) := by decide +kernel
theorem d31_47 : decode method_9_code 47 = .ok (.iinc 2 1, 3) := by decide +kernel
theorem d31_50 : decode method_9_code 50 = .ok (.iconst 3, 1) := by decide +kernel
theorem d31_51 : decode method_9_code 51 = .ok (.iload_n 1, 1) := by decide +kernel
theorem d31_52 : decode method_9_code 52 = .ok (.if_icmp .ge 14, 3) := by decide +kernel
theorem d31_55 : decode method_9_code 55 = .ok (.aload_n 0, 1) := by decide +kernel
theorem d31_56 : decode method_9_code 56 = .ok (.iconst 3, 1) := by decide +kernel
theorem d31_57 : decode method_9_code 57 = .ok (.invokestatic 33, 3) := by decide +kernel
theorem d31_60 : decode method_9_code 60 = .ok (.ifCond .eq 6, 3) := by decide +kernel
theorem d31_63 : decode method_9_code 63 = .ok (.iinc 2 1, 3) := by decide +kernel
theorem d31_66 : decode method_9_code 66 = .ok (.iload_n 2, 1) := by decide +kernel
theorem d31_67 : decode method_9_code 67 = .ok (.ireturn, 1) := by decide +kernel
theorem ef_rm21 (m : MethodId) (x0 : Addr) (x1 : Int32) : entryFrame m #[(.ref x0), (.int x1)] 2 = mkF m 0 #[.val (.ref x0), .val (.int x1)] [] := by first | (simp [entryFrame, mkF, argsToLocals, Value.category]; done) | rfl
def Q_rm21 (Z : State) (a1 : Addr) (p1 : Int32) (nn : Int32) (b0 : Int32) (b1 : Int32) (b2 : Int32) (b3 : Int32) (kk : ClassId) (h0 : Heap) (n0 : Nat) (v : Option Value) (h : Heap) (L : List Loc) : Prop := v = some (.int (own_isNl nn b0 b1 b2 b3 p1)) ∧ Fr n0 L ∧ h = h0
set_option maxRecDepth 65536 in
set_option maxHeartbeats 40000000 in
theorem rm21 (l : Launch) (Z : State) (a0 : Array Value) (hw : ∀ d ∈ own_tab, d.before a0 Z = true) (ws : List Jvm.Cond) (a1 : Addr) (p1 : Int32) (nn : Int32) (b0 : Int32) (b1 : Int32) (b2 : Int32) (b3 : Int32) (kk : ClassId) (h0 : Heap) (n0 : Nat) (Z0 : n0 ≤ h0.size) (P0 : Arv Z h0 a1 kk .byte nn (own_is [b0, b1, b2, b3]) (.int 0)) :
    MetFree l (⟨"com/example/rank_keeper/rankkeeper/BodyLinesSplitPinLaw", "isNl", "([BI)Z"⟩ : MethodName) (head1 (Jvm.Cond.code (⟨"com/example/rank_keeper/rankkeeper/BodyLinesSplitPinLaw", "isNl", "([BI)Z"⟩ : MethodName) method_4_code 2 (some .boolean) :: ws) ({ frames := 0, cells := 0, slots := 0, locals := 0 } : Room)) (fun a U => a = #[(.ref a1), (.int p1)] ∧ Z.Warmed39 U.vm ∧ U.heap = h0) (fun _ _ _ _ _ => True) (fun _ U o U' => ∃ v L, o = .returned v ∧ Q_rm21 Z a1 p1 nn b0 b1 b2 b3 kk h0 n0 v U'.heap L ∧ FrameEnd U o U' L ({ frames := 0, cells := 0, slots := 0, locals := 0 } : Room).cells ({ frames := 0, cells := 0, slots := 0, locals := 0 } : Room).slots) := by
  refine MetFree.of_bodySF (plainFor_of_name pn_0) hisR ?_
  intro p e s m args below meth c s₁ Bd hml0 hP hK
  obtain ⟨rfl, hZ, hh⟩ := hP
  have hx := Bd.exec
  have hby := Bd.bytes
  have hml : c.maxLocals = 2 := hml0
  have hown : s.vm.findClass "com/example/rank_keeper/rankkeeper/BodyLinesSplitPinLaw" = some m.cls := findClass_of_methodNamed Bd.named
  have hnm := (name_of_methodNamed Bd.named Bd.method).1
  have X0 : Stand p l e ({ frames := 0, cells := 0, slots := 0, locals := 0 } : Room) s m #[(.ref a1), (.int p1)] below meth c s₁ [] 0 0 := Stand.of_body Bd
  have e0 : s₁.heap = h0 := by rw [← hh, Bd.state]; rfl
  have N0 := Fr.nil n0
  have KR : Keep h0 h0 [] := Keep.refl h0 _
  have pre0 : ∀ t, Steps p.tables e below (s₁.setTop (mkF m 0 #[.val (.ref a1), .val (.int p1)] [])) t → Steps p.tables e below (s₁.setTop (entryFrame m #[(.ref a1), (.int p1)] 2)) t := fun t k => castTop (ef_rm21 m (a1) (p1)) k
  have pre1 : ∀ t, Steps p.tables e below (s₁.setTop (mkF m 1 #[.val (.ref a1), .val (.int p1)] [(.int p1)])) t → Steps p.tables e below (s₁.setTop (entryFrame m #[(.ref a1), (.int p1)] 2)) t := fun t k => pre0 t (by
    refine XS.iloadN X0.here hx rfl (hb hby d21_0) rfl ?_
    exact k)
  by_cases hc2 : p1 < (0 : Int32)
  ·skip
   obtain ⟨fs, hr, hrun, hended, hW, hsame⟩ := X0.leave (v := some (.int 0)) (fun h => by rw [Bd.returns] at h; cases h)
   refine ⟨_, _, pre1 _ ?_, hrun, hended, _, _, rfl, ?_, ⟨_, rfl⟩, hW, hsame.mono (by decide) (by decide)⟩
   · skip
     refine XS.ifYes X0.here hx rfl (pc0 := 1) (pc' := 22) rfl (hb hby d21_1) rfl ((if0 _ _).trans (tlt hc2).1) (by decide) (by decide) ?_
     refine XS.iconst X0.here hx rfl (hb hby d21_22) ?_
     show Steps p.tables e below (s₁.setTop (mkF m 23 #[.val (.ref a1), .val (.int p1)] [(.int 0)])) _
     exact retN X0 hx (t := .boolean) Bd.returns (by simp) (hb hby d21_23) hr
   · show Q_rm21 Z a1 p1 nn b0 b1 b2 b3 kk h0 n0 _ s₁.heap _
     rw [e0]
     exact ⟨(by unfold own_isNl; rw [if_pos hc2]), N0, rfl⟩
  ·skip
   obtain ⟨cl4, Ar4, -, S4, N4', -, -⟩ := id P0
   have pre5 : ∀ t, Steps p.tables e below (s₁.setTop (mkF m 7 #[.val (.ref a1), .val (.int p1)] [(.int nn), (.int p1)])) t → Steps p.tables e below (s₁.setTop (entryFrame m #[(.ref a1), (.int p1)] 2)) t := fun t k => pre1 t (by
     refine XS.ifNo X0.here hx rfl (hb hby d21_1) rfl ((if0 _ _).trans (flt hc2).1) ?_
     refine XS.iloadN X0.here hx rfl (hb hby d21_4) rfl ?_
     refine XS.aloadN X0.here hx rfl (hb hby d21_5) rfl rfl ?_
     refine X0.arraylength hx (by rw [e0]; exact Ar4.1) (State.isArrayOf_alike hZ.alike Ar4.2.1) (g := (mkF m 6 #[.val (.ref a1), .val (.int p1)] [(.ref a1), (.int p1)])) rfl rfl (hb hby d21_6) _ ?_
     rw [len_of S4 N4']
     exact k)
   by_cases hc6 : p1 < nn
   ·skip
    obtain ⟨cl7, Ar7, q7, S7, N7', H7, G7⟩ := id P0
    have hin7 : ¬ (p1 < 0 ∨ cl7.slots.size ≤ (p1).toNatClampNeg) := inb_of S7 ⟨hc2, hc6⟩
    have hat7 : cl7.slots[(p1).toNatClampNeg]? = some (.int (own_b b0 b1 b2 b3 p1)) := H7.at hin7 (own_is_getD _ _)
    have pre8 : ∀ t, Steps p.tables e below (s₁.setTop (mkF m 15 #[.val (.ref a1), .val (.int p1)] [(.int 10), (.int (own_b b0 b1 b2 b3 p1))])) t → Steps p.tables e below (s₁.setTop (entryFrame m #[(.ref a1), (.int p1)] 2)) t := fun t k => pre5 t (by
      refine XS.icmpNo X0.here hx rfl (hb hby d21_7) rfl (tlt hc6).2.1 ?_
      refine XS.aloadN X0.here hx rfl (hb hby d21_10) rfl rfl ?_
      refine XS.iloadN X0.here hx rfl (hb hby d21_11) rfl ?_
      refine X0.baloadBytes hx (j := p1) (v := (.int (own_b b0 b1 b2 b3 p1))) (by rw [e0]; exact Ar7.1) (State.isArrayOf_alike hZ.alike Ar7.2.1) Ar7.2.2 hin7 hat7 (g := (mkF m 12 #[.val (.ref a1), .val (.int p1)] [(.int p1), (.ref a1)])) rfl rfl (hb hby d21_12) _ ?_
      refine XS.bipush X0.here hx rfl (hb hby d21_13) ?_
      exact k)
    by_cases hc9 : (own_b b0 b1 b2 b3 p1) = (10 : Int32)
    ·skip
     obtain ⟨fs, hr, hrun, hended, hW, hsame⟩ := X0.leave (v := some (.int 1)) (fun h => by rw [Bd.returns] at h; cases h)
     refine ⟨_, _, pre8 _ ?_, hrun, hended, _, _, rfl, ?_, ⟨_, rfl⟩, hW, hsame.mono (by decide) (by decide)⟩
     · skip
       refine XS.icmpNo X0.here hx rfl (hb hby d21_15) rfl (teq hc9).2 ?_
       refine XS.iconst X0.here hx rfl (hb hby d21_18) ?_
       refine XS.goto X0.here hx rfl (pc0 := 19) (pc' := 23) rfl (hb hby d21_19) (by decide) (by decide) ?_
       show Steps p.tables e below (s₁.setTop (mkF m 23 #[.val (.ref a1), .val (.int p1)] [(.int 1)])) _
       exact retN X0 hx (t := .boolean) Bd.returns (by simp) (hb hby d21_23) hr
     · show Q_rm21 Z a1 p1 nn b0 b1 b2 b3 kk h0 n0 _ s₁.heap _
       rw [e0]
       exact ⟨(by unfold own_isNl; rw [if_neg hc2, if_pos hc6, if_pos hc9]), N0, rfl⟩
    ·skip
     obtain ⟨fs, hr, hrun, hended, hW, hsame⟩ := X0.leave (v := some (.int 0)) (fun h => by rw [Bd.returns] at h; cases h)
     refine ⟨_, _, pre8 _ ?_, hrun, hended, _, _, rfl, ?_, ⟨_, rfl⟩, hW, hsame.mono (by decide) (by decide)⟩
     · skip
       refine XS.icmpYes X0.here hx rfl (pc0 := 15) (pc' := 22) rfl (hb hby d21_15) rfl (feq hc9).2 (by decide) (by decide) ?_
       refine XS.iconst X0.here hx rfl (hb hby d21_22) ?_
       show Steps p.tables e below (s₁.setTop (mkF m 23 #[.val (.ref a1), .val (.int p1)] [(.int 0)])) _
       exact retN X0 hx (t := .boolean) Bd.returns (by simp) (hb hby d21_23) hr
     · show Q_rm21 Z a1 p1 nn b0 b1 b2 b3 kk h0 n0 _ s₁.heap _
       rw [e0]
       exact ⟨(by unfold own_isNl; rw [if_neg hc2, if_pos hc6, if_neg hc9]), N0, rfl⟩
   ·skip
    obtain ⟨fs, hr, hrun, hended, hW, hsame⟩ := X0.leave (v := some (.int 0)) (fun h => by rw [Bd.returns] at h; cases h)
    refine ⟨_, _, pre5 _ ?_, hrun, hended, _, _, rfl, ?_, ⟨_, rfl⟩, hW, hsame.mono (by decide) (by decide)⟩
    · skip
      refine XS.icmpYes X0.here hx rfl (pc0 := 7) (pc' := 22) rfl (hb hby d21_7) rfl (flt hc6).2.1 (by decide) (by decide) ?_
      refine XS.iconst X0.here hx rfl (hb hby d21_22) ?_
      show Steps p.tables e below (s₁.setTop (mkF m 23 #[.val (.ref a1), .val (.int p1)] [(.int 0)])) _
      exact retN X0 hx (t := .boolean) Bd.returns (by simp) (hb hby d21_23) hr
    · show Q_rm21 Z a1 p1 nn b0 b1 b2 b3 kk h0 n0 _ s₁.heap _
      rw [e0]
      exact ⟨(by unfold own_isNl; rw [if_neg hc2, if_neg hc6]), N0, rfl⟩
theorem ef_rm8 (m : MethodId) (x0 : Addr) (x1 : Int32) : entryFrame m #[(.ref x0), (.int x1)] 2 = mkF m 0 #[.val (.ref x0), .val (.int x1)] [] := by first | (simp [entryFrame, mkF, argsToLocals, Value.category]; done) | rfl
def Q_rm8 (Z : State) (a1 : Addr) (p1 : Int32) (nn : Int32) (b0 : Int32) (b1 : Int32) (b2 : Int32) (b3 : Int32) (kk : ClassId) (h0 : Heap) (n0 : Nat) (v : Option Value) (h : Heap) (L : List Loc) : Prop := v = some (.int (own_isStart nn b0 b1 b2 b3 p1)) ∧ Fr n0 L ∧ h = h0
set_option maxRecDepth 65536 in
set_option maxHeartbeats 40000000 in
theorem rm8 (l : Launch) (Z : State) (a0 : Array Value) (hw : ∀ d ∈ own_tab, d.before a0 Z = true) (ws : List Jvm.Cond) (a1 : Addr) (p1 : Int32) (nn : Int32) (b0 : Int32) (b1 : Int32) (b2 : Int32) (b3 : Int32) (kk : ClassId) (h0 : Heap) (n0 : Nat) (Z0 : n0 ≤ h0.size) (P0 : Arv Z h0 a1 kk .byte nn (own_is [b0, b1, b2, b3]) (.int 0)) :
    MetFree l (⟨"com/example/rank_keeper/rankkeeper/BodyLinesSplitPinLaw", "isStart", "([BI)Z"⟩ : MethodName) (head1 (Jvm.Cond.code (⟨"com/example/rank_keeper/rankkeeper/BodyLinesSplitPinLaw", "isStart", "([BI)Z"⟩ : MethodName) method_5_code 2 (some .boolean) :: ws) ({ frames := 0, cells := 0, slots := 0, locals := 0 } : Room)) (fun a U => a = #[(.ref a1), (.int p1)] ∧ Z.Warmed39 U.vm ∧ U.heap = h0) (fun _ _ _ _ _ => True) (fun _ U o U' => ∃ v L, o = .returned v ∧ Q_rm8 Z a1 p1 nn b0 b1 b2 b3 kk h0 n0 v U'.heap L ∧ FrameEnd U o U' L ({ frames := 0, cells := 0, slots := 0, locals := 0 } : Room).cells ({ frames := 0, cells := 0, slots := 0, locals := 0 } : Room).slots) := by
  refine MetFree.of_bodySF (plainFor_of_name pn_0) hisR ?_
  intro p e s m args below meth c s₁ Bd hml0 hP hK
  obtain ⟨rfl, hZ, hh⟩ := hP
  have hx := Bd.exec
  have hby := Bd.bytes
  have hml : c.maxLocals = 2 := hml0
  have hown : s.vm.findClass "com/example/rank_keeper/rankkeeper/BodyLinesSplitPinLaw" = some m.cls := findClass_of_methodNamed Bd.named
  have hnm := (name_of_methodNamed Bd.named Bd.method).1
  have X0 : Stand p l e ({ frames := 0, cells := 0, slots := 0, locals := 0 } : Room) s m #[(.ref a1), (.int p1)] below meth c s₁ [] 0 0 := Stand.of_body Bd
  have e0 : s₁.heap = h0 := by rw [← hh, Bd.state]; rfl
  have N0 := Fr.nil n0
  have KR : Keep h0 h0 [] := Keep.refl h0 _
  have pre0 : ∀ t, Steps p.tables e below (s₁.setTop (mkF m 0 #[.val (.ref a1), .val (.int p1)] [])) t → Steps p.tables e below (s₁.setTop (entryFrame m #[(.ref a1), (.int p1)] 2)) t := fun t k => castTop (ef_rm8 m (a1) (p1)) k
  have pre1 : ∀ t, Steps p.tables e below (s₁.setTop (mkF m 1 #[.val (.ref a1), .val (.int p1)] [(.int p1)])) t → Steps p.tables e below (s₁.setTop (entryFrame m #[(.ref a1), (.int p1)] 2)) t := fun t k => pre0 t (by
    refine XS.iloadN X0.here hx rfl (hb hby d8_0) rfl ?_
    exact k)
  by_cases hc2 : p1 < (0 : Int32)
  ·skip
   obtain ⟨fs, hr, hrun, hended, hW, hsame⟩ := X0.leave (v := some (.int 0)) (fun h => by rw [Bd.returns] at h; cases h)
   refine ⟨_, _, pre1 _ ?_, hrun, hended, _, _, rfl, ?_, ⟨_, rfl⟩, hW, hsame.mono (by decide) (by decide)⟩
   · skip
     refine XS.ifYes X0.here hx rfl (pc0 := 1) (pc' := 28) rfl (hb hby d8_1) rfl ((if0 _ _).trans (tlt hc2).1) (by decide) (by decide) ?_
     refine XS.iconst X0.here hx rfl (hb hby d8_28) ?_
     show Steps p.tables e below (s₁.setTop (mkF m 29 #[.val (.ref a1), .val (.int p1)] [(.int 0)])) _
     exact retN X0 hx (t := .boolean) Bd.returns (by simp) (hb hby d8_29) hr
   · show Q_rm8 Z a1 p1 nn b0 b1 b2 b3 kk h0 n0 _ s₁.heap _
     rw [e0]
     exact ⟨(by unfold own_isStart; rw [if_pos hc2]), N0, rfl⟩
  ·skip
   obtain ⟨cl4, Ar4, -, S4, N4', -, -⟩ := id P0
   have pre5 : ∀ t, Steps p.tables e below (s₁.setTop (mkF m 7 #[.val (.ref a1), .val (.int p1)] [(.int nn), (.int p1)])) t → Steps p.tables e below (s₁.setTop (entryFrame m #[(.ref a1), (.int p1)] 2)) t := fun t k => pre1 t (by
     refine XS.ifNo X0.here hx rfl (hb hby d8_1) rfl ((if0 _ _).trans (flt hc2).1) ?_
     refine XS.iloadN X0.here hx rfl (hb hby d8_4) rfl ?_
     refine XS.aloadN X0.here hx rfl (hb hby d8_5) rfl rfl ?_
     refine X0.arraylength hx (by rw [e0]; exact Ar4.1) (State.isArrayOf_alike hZ.alike Ar4.2.1) (g := (mkF m 6 #[.val (.ref a1), .val (.int p1)] [(.ref a1), (.int p1)])) rfl rfl (hb hby d8_6) _ ?_
     rw [len_of S4 N4']
     exact k)
   by_cases hc6 : p1 < nn
   ·skip
    have pre7 : ∀ t, Steps p.tables e below (s₁.setTop (mkF m 11 #[.val (.ref a1), .val (.int p1)] [(.int p1)])) t → Steps p.tables e below (s₁.setTop (entryFrame m #[(.ref a1), (.int p1)] 2)) t := fun t k => pre5 t (by
      refine XS.icmpNo X0.here hx rfl (hb hby d8_7) rfl (tlt hc6).2.1 ?_
      refine XS.iloadN X0.here hx rfl (hb hby d8_10) rfl ?_
      exact k)
    by_cases hc8 : p1 = (0 : Int32)
    ·skip
     obtain ⟨fs, hr, hrun, hended, hW, hsame⟩ := X0.leave (v := some (.int 1)) (fun h => by rw [Bd.returns] at h; cases h)
     refine ⟨_, _, pre7 _ ?_, hrun, hended, _, _, rfl, ?_, ⟨_, rfl⟩, hW, hsame.mono (by decide) (by decide)⟩
     · skip
       refine XS.ifYes X0.here hx rfl (pc0 := 11) (pc' := 24) rfl (hb hby d8_11) rfl ((if0 _ _).trans (teq hc8).1) (by decide) (by decide) ?_
       refine XS.iconst X0.here hx rfl (hb hby d8_24) ?_
       refine XS.goto X0.here hx rfl (pc0 := 25) (pc' := 29) rfl (hb hby d8_25) (by decide) (by decide) ?_
       show Steps p.tables e below (s₁.setTop (mkF m 29 #[.val (.ref a1), .val (.int p1)] [(.int 1)])) _
       exact retN X0 hx (t := .boolean) Bd.returns (by simp) (hb hby d8_29) hr
     · show Q_rm8 Z a1 p1 nn b0 b1 b2 b3 kk h0 n0 _ s₁.heap _
       rw [e0]
       exact ⟨(by unfold own_isStart; rw [if_neg hc2, if_pos hc6, if_pos hc8]), N0, rfl⟩
    ·skip
     obtain ⟨cl10, Ar10, q10, S10, N10', H10, G10⟩ := id P0
     have hin10 : ¬ ((p1 - (1 : Int32)) < 0 ∨ cl10.slots.size ≤ ((p1 - (1 : Int32))).toNatClampNeg) := inb_of S10 (own_pm hc2 hc6 hc8)
     have hat10 : cl10.slots[((p1 - (1 : Int32))).toNatClampNeg]? = some (.int (own_b b0 b1 b2 b3 (p1 - (1 : Int32)))) := H10.at hin10 (own_is_getD _ _)
     have pre11 : ∀ t, Steps p.tables e below (s₁.setTop (mkF m 21 #[.val (.ref a1), .val (.int p1)] [(.int 10), (.int (own_b b0 b1 b2 b3 (p1 - (1 : Int32))))])) t → Steps p.tables e below (s₁.setTop (entryFrame m #[(.ref a1), (.int p1)] 2)) t := fun t k => pre7 t (by
       refine XS.ifNo X0.here hx rfl (hb hby d8_11) rfl ((if0 _ _).trans (feq hc8).1) ?_
       refine XS.aloadN X0.here hx rfl (hb hby d8_14) rfl rfl ?_
       refine XS.iloadN X0.here hx rfl (hb hby d8_15) rfl ?_
       refine XS.iconst X0.here hx rfl (hb hby d8_16) ?_
       refine XS.isub X0.here hx rfl (hb hby d8_17) rfl ?_
       refine X0.baloadBytes hx (j := (p1 - (1 : Int32))) (v := (.int (own_b b0 b1 b2 b3 (p1 - (1 : Int32))))) (by rw [e0]; exact Ar10.1) (State.isArrayOf_alike hZ.alike Ar10.2.1) Ar10.2.2 hin10 hat10 (g := (mkF m 18 #[.val (.ref a1), .val (.int p1)] [(.int (p1 - (1 : Int32))), (.ref a1)])) rfl rfl (hb hby d8_18) _ ?_
       refine XS.bipush X0.here hx rfl (hb hby d8_19) ?_
       exact k)
     by_cases hc12 : (own_b b0 b1 b2 b3 (p1 - (1 : Int32))) = (10 : Int32)
     ·skip
      obtain ⟨fs, hr, hrun, hended, hW, hsame⟩ := X0.leave (v := some (.int 1)) (fun h => by rw [Bd.returns] at h; cases h)
      refine ⟨_, _, pre11 _ ?_, hrun, hended, _, _, rfl, ?_, ⟨_, rfl⟩, hW, hsame.mono (by decide) (by decide)⟩
      · skip
        refine XS.icmpNo X0.here hx rfl (hb hby d8_21) rfl (teq hc12).2 ?_
        refine XS.iconst X0.here hx rfl (hb hby d8_24) ?_
        refine XS.goto X0.here hx rfl (pc0 := 25) (pc' := 29) rfl (hb hby d8_25) (by decide) (by decide) ?_
        show Steps p.tables e below (s₁.setTop (mkF m 29 #[.val (.ref a1), .val (.int p1)] [(.int 1)])) _
        exact retN X0 hx (t := .boolean) Bd.returns (by simp) (hb hby d8_29) hr
      · show Q_rm8 Z a1 p1 nn b0 b1 b2 b3 kk h0 n0 _ s₁.heap _
        rw [e0]
        exact ⟨(by unfold own_isStart; rw [if_neg hc2, if_pos hc6, if_neg hc8, if_pos hc12]), N0, rfl⟩
     ·skip
      obtain ⟨fs, hr, hrun, hended, hW, hsame⟩ := X0.leave (v := some (.int 0)) (fun h => by rw [Bd.returns] at h; cases h)
      refine ⟨_, _, pre11 _ ?_, hrun, hended, _, _, rfl, ?_, ⟨_, rfl⟩, hW, hsame.mono (by decide) (by decide)⟩
      · skip
        refine XS.icmpYes X0.here hx rfl (pc0 := 21) (pc' := 28) rfl (hb hby d8_21) rfl (feq hc12).2 (by decide) (by decide) ?_
        refine XS.iconst X0.here hx rfl (hb hby d8_28) ?_
        show Steps p.tables e below (s₁.setTop (mkF m 29 #[.val (.ref a1), .val (.int p1)] [(.int 0)])) _
        exact retN X0 hx (t := .boolean) Bd.returns (by simp) (hb hby d8_29) hr
      · show Q_rm8 Z a1 p1 nn b0 b1 b2 b3 kk h0 n0 _ s₁.heap _
        rw [e0]
        exact ⟨(by unfold own_isStart; rw [if_neg hc2, if_pos hc6, if_neg hc8, if_neg hc12]), N0, rfl⟩
   ·skip
    obtain ⟨fs, hr, hrun, hended, hW, hsame⟩ := X0.leave (v := some (.int 0)) (fun h => by rw [Bd.returns] at h; cases h)
    refine ⟨_, _, pre5 _ ?_, hrun, hended, _, _, rfl, ?_, ⟨_, rfl⟩, hW, hsame.mono (by decide) (by decide)⟩
    · skip
      refine XS.icmpYes X0.here hx rfl (pc0 := 7) (pc' := 28) rfl (hb hby d8_7) rfl (flt hc6).2.1 (by decide) (by decide) ?_
      refine XS.iconst X0.here hx rfl (hb hby d8_28) ?_
      show Steps p.tables e below (s₁.setTop (mkF m 29 #[.val (.ref a1), .val (.int p1)] [(.int 0)])) _
      exact retN X0 hx (t := .boolean) Bd.returns (by simp) (hb hby d8_29) hr
    · show Q_rm8 Z a1 p1 nn b0 b1 b2 b3 kk h0 n0 _ s₁.heap _
      rw [e0]
      exact ⟨(by unfold own_isStart; rw [if_neg hc2, if_neg hc6]), N0, rfl⟩
theorem ef_rm23 (m : MethodId) (x0 : Addr) (x1 : Int32) (x2 : Int32) (x3 : Int32) : entryFrame m #[(.ref x0), (.int x1), (.int x2), (.int x3)] 4 = mkF m 0 #[.val (.ref x0), .val (.int x1), .val (.int x2), .val (.int x3)] [] := by first | (simp [entryFrame, mkF, argsToLocals, Value.category]; done) | rfl
def Q_rm23 (Z : State) (a1 : Addr) (p1 : Int32) (p2 : Int32) (p3 : Int32) (nn : Int32) (b0 : Int32) (b1 : Int32) (b2 : Int32) (b3 : Int32) (kk : ClassId) (h0 : Heap) (n0 : Nat) (v : Option Value) (h : Heap) (L : List Loc) : Prop := v = some (.int (own_ink b0 b1 b2 b3 p1 p2 p3)) ∧ Fr n0 L ∧ h = h0
set_option maxRecDepth 65536 in
set_option maxHeartbeats 40000000 in
theorem rm23 (l : Launch) (Z : State) (a0 : Array Value) (hw : ∀ d ∈ own_tab, d.before a0 Z = true) (ws : List Jvm.Cond) (a1 : Addr) (p1 : Int32) (p2 : Int32) (p3 : Int32) (nn : Int32) (b0 : Int32) (b1 : Int32) (b2 : Int32) (b3 : Int32) (kk : ClassId) (h0 : Heap) (n0 : Nat) (Z0 : n0 ≤ h0.size) (P0 : Arv Z h0 a1 kk .byte nn (own_is [b0, b1, b2, b3]) (.int 0)) (hs0 : ¬ p2 < (0 : Int32)) (he0 : ¬ nn < p3) :
    MetFree l (⟨"com/example/rank_keeper/rankkeeper/BodyLinesSplitPinLaw", "inkAt", "([BIII)Z"⟩ : MethodName) (head1 (Jvm.Cond.code (⟨"com/example/rank_keeper/rankkeeper/BodyLinesSplitPinLaw", "inkAt", "([BIII)Z"⟩ : MethodName) method_7_code 4 (some .boolean) :: ws) ({ frames := 0, cells := 0, slots := 0, locals := 0 } : Room)) (fun a U => a = #[(.ref a1), (.int p1), (.int p2), (.int p3)] ∧ Z.Warmed39 U.vm ∧ U.heap = h0) (fun _ _ _ _ _ => True) (fun _ U o U' => ∃ v L, o = .returned v ∧ Q_rm23 Z a1 p1 p2 p3 nn b0 b1 b2 b3 kk h0 n0 v U'.heap L ∧ FrameEnd U o U' L ({ frames := 0, cells := 0, slots := 0, locals := 0 } : Room).cells ({ frames := 0, cells := 0, slots := 0, locals := 0 } : Room).slots) := by
  refine MetFree.of_bodySF (plainFor_of_name pn_0) hisR ?_
  intro p e s m args below meth c s₁ Bd hml0 hP hK
  obtain ⟨rfl, hZ, hh⟩ := hP
  have hx := Bd.exec
  have hby := Bd.bytes
  have hml : c.maxLocals = 4 := hml0
  have hown : s.vm.findClass "com/example/rank_keeper/rankkeeper/BodyLinesSplitPinLaw" = some m.cls := findClass_of_methodNamed Bd.named
  have hnm := (name_of_methodNamed Bd.named Bd.method).1
  have X0 : Stand p l e ({ frames := 0, cells := 0, slots := 0, locals := 0 } : Room) s m #[(.ref a1), (.int p1), (.int p2), (.int p3)] below meth c s₁ [] 0 0 := Stand.of_body Bd
  have e0 : s₁.heap = h0 := by rw [← hh, Bd.state]; rfl
  have N0 := Fr.nil n0
  have KR : Keep h0 h0 [] := Keep.refl h0 _
  have pre0 : ∀ t, Steps p.tables e below (s₁.setTop (mkF m 0 #[.val (.ref a1), .val (.int p1), .val (.int p2), .val (.int p3)] [])) t → Steps p.tables e below (s₁.setTop (entryFrame m #[(.ref a1), (.int p1), (.int p2), (.int p3)] 4)) t := fun t k => castTop (ef_rm23 m (a1) (p1) (p2) (p3)) k
  have pre1 : ∀ t, Steps p.tables e below (s₁.setTop (mkF m 2 #[.val (.ref a1), .val (.int p1), .val (.int p2), .val (.int p3)] [(.int p1), (.int p2)])) t → Steps p.tables e below (s₁.setTop (entryFrame m #[(.ref a1), (.int p1), (.int p2), (.int p3)] 4)) t := fun t k => pre0 t (by
    refine XS.iloadN X0.here hx rfl (hb hby d23_0) rfl ?_
    refine XS.iloadN X0.here hx rfl (hb hby d23_1) rfl ?_
    exact k)
  by_cases hc2 : p1 < p2
  ·skip
   obtain ⟨fs, hr, hrun, hended, hW, hsame⟩ := X0.leave (v := some (.int 0)) (fun h => by rw [Bd.returns] at h; cases h)
   refine ⟨_, _, pre1 _ ?_, hrun, hended, _, _, rfl, ?_, ⟨_, rfl⟩, hW, hsame.mono (by decide) (by decide)⟩
   · skip
     refine XS.icmpYes X0.here hx rfl (pc0 := 2) (pc' := 46) rfl (hb hby d23_2) rfl (tlt hc2).2.2.1 (by decide) (by decide) ?_
     refine XS.iconst X0.here hx rfl (hb hby d23_46) ?_
     show Steps p.tables e below (s₁.setTop (mkF m 47 #[.val (.ref a1), .val (.int p1), .val (.int p2), .val (.int p3)] [(.int 0)])) _
     exact retN X0 hx (t := .boolean) Bd.returns (by simp) (hb hby d23_47) hr
   · show Q_rm23 Z a1 p1 p2 p3 nn b0 b1 b2 b3 kk h0 n0 _ s₁.heap _
     rw [e0]
     exact ⟨(by unfold own_ink; rw [if_pos hc2]), N0, rfl⟩
  ·skip
   have pre4 : ∀ t, Steps p.tables e below (s₁.setTop (mkF m 7 #[.val (.ref a1), .val (.int p1), .val (.int p2), .val (.int p3)] [(.int p3), (.int p1)])) t → Steps p.tables e below (s₁.setTop (entryFrame m #[(.ref a1), (.int p1), (.int p2), (.int p3)] 4)) t := fun t k => pre1 t (by
     refine XS.icmpNo X0.here hx rfl (hb hby d23_2) rfl (flt hc2).2.2.1 ?_
     refine XS.iloadN X0.here hx rfl (hb hby d23_5) rfl ?_
     refine XS.iloadN X0.here hx rfl (hb hby d23_6) rfl ?_
     exact k)
   by_cases hc5 : p1 < p3
   ·skip
    obtain ⟨cl6, Ar6, q6, S6, N6', H6, G6⟩ := id P0
    have hin6 : ¬ (p1 < 0 ∨ cl6.slots.size ≤ (p1).toNatClampNeg) := inb_of S6 (own_le hs0 he0 hc2 hc5)
    have hat6 : cl6.slots[(p1).toNatClampNeg]? = some (.int (own_b b0 b1 b2 b3 p1)) := H6.at hin6 (own_is_getD _ _)
    have pre7 : ∀ t, Steps p.tables e below (s₁.setTop (mkF m 15 #[.val (.ref a1), .val (.int p1), .val (.int p2), .val (.int p3)] [(.int 32), (.int (own_b b0 b1 b2 b3 p1))])) t → Steps p.tables e below (s₁.setTop (entryFrame m #[(.ref a1), (.int p1), (.int p2), (.int p3)] 4)) t := fun t k => pre4 t (by
      refine XS.icmpNo X0.here hx rfl (hb hby d23_7) rfl (tlt hc5).2.1 ?_
      refine XS.aloadN X0.here hx rfl (hb hby d23_10) rfl rfl ?_
      refine XS.iloadN X0.here hx rfl (hb hby d23_11) rfl ?_
      refine X0.baloadBytes hx (j := p1) (v := (.int (own_b b0 b1 b2 b3 p1))) (by rw [e0]; exact Ar6.1) (State.isArrayOf_alike hZ.alike Ar6.2.1) Ar6.2.2 hin6 hat6 (g := (mkF m 12 #[.val (.ref a1), .val (.int p1), .val (.int p2), .val (.int p3)] [(.int p1), (.ref a1)])) rfl rfl (hb hby d23_12) _ ?_
      refine XS.bipush X0.here hx rfl (hb hby d23_13) ?_
      exact k)
    by_cases hc8 : (own_b b0 b1 b2 b3 p1) = (32 : Int32)
    ·skip
     obtain ⟨fs, hr, hrun, hended, hW, hsame⟩ := X0.leave (v := some (.int 0)) (fun h => by rw [Bd.returns] at h; cases h)
     refine ⟨_, _, pre7 _ ?_, hrun, hended, _, _, rfl, ?_, ⟨_, rfl⟩, hW, hsame.mono (by decide) (by decide)⟩
     · skip
       refine XS.icmpYes X0.here hx rfl (pc0 := 15) (pc' := 46) rfl (hb hby d23_15) rfl (teq hc8).1 (by decide) (by decide) ?_
       refine XS.iconst X0.here hx rfl (hb hby d23_46) ?_
       show Steps p.tables e below (s₁.setTop (mkF m 47 #[.val (.ref a1), .val (.int p1), .val (.int p2), .val (.int p3)] [(.int 0)])) _
       exact retN X0 hx (t := .boolean) Bd.returns (by simp) (hb hby d23_47) hr
     · show Q_rm23 Z a1 p1 p2 p3 nn b0 b1 b2 b3 kk h0 n0 _ s₁.heap _
       rw [e0]
       exact ⟨(by unfold own_ink; rw [if_neg hc2, if_pos hc5, if_pos hc8]), N0, rfl⟩
    ·skip
     obtain ⟨cl10, Ar10, q10, S10, N10', H10, G10⟩ := id P0
     have hin10 : ¬ (p1 < 0 ∨ cl10.slots.size ≤ (p1).toNatClampNeg) := inb_of S10 (own_le hs0 he0 hc2 hc5)
     have hat10 : cl10.slots[(p1).toNatClampNeg]? = some (.int (own_b b0 b1 b2 b3 p1)) := H10.at hin10 (own_is_getD _ _)
     have pre11 : ∀ t, Steps p.tables e below (s₁.setTop (mkF m 23 #[.val (.ref a1), .val (.int p1), .val (.int p2), .val (.int p3)] [(.int 9), (.int (own_b b0 b1 b2 b3 p1))])) t → Steps p.tables e below (s₁.setTop (entryFrame m #[(.ref a1), (.int p1), (.int p2), (.int p3)] 4)) t := fun t k => pre7 t (by
       refine XS.icmpNo X0.here hx rfl (hb hby d23_15) rfl (feq hc8).1 ?_
       refine XS.aloadN X0.here hx rfl (hb hby d23_18) rfl rfl ?_
       refine XS.iloadN X0.here hx rfl (hb hby d23_19) rfl ?_
       refine X0.baloadBytes hx (j := p1) (v := (.int (own_b b0 b1 b2 b3 p1))) (by rw [e0]; exact Ar10.1) (State.isArrayOf_alike hZ.alike Ar10.2.1) Ar10.2.2 hin10 hat10 (g := (mkF m 20 #[.val (.ref a1), .val (.int p1), .val (.int p2), .val (.int p3)] [(.int p1), (.ref a1)])) rfl rfl (hb hby d23_20) _ ?_
       refine XS.bipush X0.here hx rfl (hb hby d23_21) ?_
       exact k)
     by_cases hc12 : (own_b b0 b1 b2 b3 p1) = (9 : Int32)
     ·skip
      obtain ⟨fs, hr, hrun, hended, hW, hsame⟩ := X0.leave (v := some (.int 0)) (fun h => by rw [Bd.returns] at h; cases h)
      refine ⟨_, _, pre11 _ ?_, hrun, hended, _, _, rfl, ?_, ⟨_, rfl⟩, hW, hsame.mono (by decide) (by decide)⟩
      · skip
        refine XS.icmpYes X0.here hx rfl (pc0 := 23) (pc' := 46) rfl (hb hby d23_23) rfl (teq hc12).1 (by decide) (by decide) ?_
        refine XS.iconst X0.here hx rfl (hb hby d23_46) ?_
        show Steps p.tables e below (s₁.setTop (mkF m 47 #[.val (.ref a1), .val (.int p1), .val (.int p2), .val (.int p3)] [(.int 0)])) _
        exact retN X0 hx (t := .boolean) Bd.returns (by simp) (hb hby d23_47) hr
      · show Q_rm23 Z a1 p1 p2 p3 nn b0 b1 b2 b3 kk h0 n0 _ s₁.heap _
        rw [e0]
        exact ⟨(by unfold own_ink; rw [if_neg hc2, if_pos hc5, if_neg hc8, if_pos hc12]), N0, rfl⟩
     ·skip
      obtain ⟨cl14, Ar14, q14, S14, N14', H14, G14⟩ := id P0
      have hin14 : ¬ (p1 < 0 ∨ cl14.slots.size ≤ (p1).toNatClampNeg) := inb_of S14 (own_le hs0 he0 hc2 hc5)
      have hat14 : cl14.slots[(p1).toNatClampNeg]? = some (.int (own_b b0 b1 b2 b3 p1)) := H14.at hin14 (own_is_getD _ _)
      have pre15 : ∀ t, Steps p.tables e below (s₁.setTop (mkF m 31 #[.val (.ref a1), .val (.int p1), .val (.int p2), .val (.int p3)] [(.int 13), (.int (own_b b0 b1 b2 b3 p1))])) t → Steps p.tables e below (s₁.setTop (entryFrame m #[(.ref a1), (.int p1), (.int p2), (.int p3)] 4)) t := fun t k => pre11 t (by
        refine XS.icmpNo X0.here hx rfl (hb hby d23_23) rfl (feq hc12).1 ?_
        refine XS.aloadN X0.here hx rfl (hb hby d23_26) rfl rfl ?_
        refine XS.iloadN X0.here hx rfl (hb hby d23_27) rfl ?_
        refine X0.baloadBytes hx (j := p1) (v := (.int (own_b b0 b1 b2 b3 p1))) (by rw [e0]; exact Ar14.1) (State.isArrayOf_alike hZ.alike Ar14.2.1) Ar14.2.2 hin14 hat14 (g := (mkF m 28 #[.val (.ref a1), .val (.int p1), .val (.int p2), .val (.int p3)] [(.int p1), (.ref a1)])) rfl rfl (hb hby d23_28) _ ?_
        refine XS.bipush X0.here hx rfl (hb hby d23_29) ?_
        exact k)
      by_cases hc16 : (own_b b0 b1 b2 b3 p1) = (13 : Int32)
      ·skip
       obtain ⟨fs, hr, hrun, hended, hW, hsame⟩ := X0.leave (v := some (.int 0)) (fun h => by rw [Bd.returns] at h; cases h)
       refine ⟨_, _, pre15 _ ?_, hrun, hended, _, _, rfl, ?_, ⟨_, rfl⟩, hW, hsame.mono (by decide) (by decide)⟩
       · skip
         refine XS.icmpYes X0.here hx rfl (pc0 := 31) (pc' := 46) rfl (hb hby d23_31) rfl (teq hc16).1 (by decide) (by decide) ?_
         refine XS.iconst X0.here hx rfl (hb hby d23_46) ?_
         show Steps p.tables e below (s₁.setTop (mkF m 47 #[.val (.ref a1), .val (.int p1), .val (.int p2), .val (.int p3)] [(.int 0)])) _
         exact retN X0 hx (t := .boolean) Bd.returns (by simp) (hb hby d23_47) hr
       · show Q_rm23 Z a1 p1 p2 p3 nn b0 b1 b2 b3 kk h0 n0 _ s₁.heap _
         rw [e0]
         exact ⟨(by unfold own_ink; rw [if_neg hc2, if_pos hc5, if_neg hc8, if_neg hc12, if_pos hc16]), N0, rfl⟩
      ·skip
       obtain ⟨cl18, Ar18, q18, S18, N18', H18, G18⟩ := id P0
       have hin18 : ¬ (p1 < 0 ∨ cl18.slots.size ≤ (p1).toNatClampNeg) := inb_of S18 (own_le hs0 he0 hc2 hc5)
       have hat18 : cl18.slots[(p1).toNatClampNeg]? = some (.int (own_b b0 b1 b2 b3 p1)) := H18.at hin18 (own_is_getD _ _)
       have pre19 : ∀ t, Steps p.tables e below (s₁.setTop (mkF m 39 #[.val (.ref a1), .val (.int p1), .val (.int p2), .val (.int p3)] [(.int 10), (.int (own_b b0 b1 b2 b3 p1))])) t → Steps p.tables e below (s₁.setTop (entryFrame m #[(.ref a1), (.int p1), (.int p2), (.int p3)] 4)) t := fun t k => pre15 t (by
         refine XS.icmpNo X0.here hx rfl (hb hby d23_31) rfl (feq hc16).1 ?_
         refine XS.aloadN X0.here hx rfl (hb hby d23_34) rfl rfl ?_
         refine XS.iloadN X0.here hx rfl (hb hby d23_35) rfl ?_
         refine X0.baloadBytes hx (j := p1) (v := (.int (own_b b0 b1 b2 b3 p1))) (by rw [e0]; exact Ar18.1) (State.isArrayOf_alike hZ.alike Ar18.2.1) Ar18.2.2 hin18 hat18 (g := (mkF m 36 #[.val (.ref a1), .val (.int p1), .val (.int p2), .val (.int p3)] [(.int p1), (.ref a1)])) rfl rfl (hb hby d23_36) _ ?_
         refine XS.bipush X0.here hx rfl (hb hby d23_37) ?_
         exact k)
       by_cases hc20 : (own_b b0 b1 b2 b3 p1) = (10 : Int32)
       ·skip
        obtain ⟨fs, hr, hrun, hended, hW, hsame⟩ := X0.leave (v := some (.int 0)) (fun h => by rw [Bd.returns] at h; cases h)
        refine ⟨_, _, pre19 _ ?_, hrun, hended, _, _, rfl, ?_, ⟨_, rfl⟩, hW, hsame.mono (by decide) (by decide)⟩
        · skip
          refine XS.icmpYes X0.here hx rfl (pc0 := 39) (pc' := 46) rfl (hb hby d23_39) rfl (teq hc20).1 (by decide) (by decide) ?_
          refine XS.iconst X0.here hx rfl (hb hby d23_46) ?_
          show Steps p.tables e below (s₁.setTop (mkF m 47 #[.val (.ref a1), .val (.int p1), .val (.int p2), .val (.int p3)] [(.int 0)])) _
          exact retN X0 hx (t := .boolean) Bd.returns (by simp) (hb hby d23_47) hr
        · show Q_rm23 Z a1 p1 p2 p3 nn b0 b1 b2 b3 kk h0 n0 _ s₁.heap _
          rw [e0]
          exact ⟨(by unfold own_ink; rw [if_neg hc2, if_pos hc5, if_neg hc8, if_neg hc12, if_neg hc16, if_pos hc20]), N0, rfl⟩
       ·skip
        obtain ⟨fs, hr, hrun, hended, hW, hsame⟩ := X0.leave (v := some (.int 1)) (fun h => by rw [Bd.returns] at h; cases h)
        refine ⟨_, _, pre19 _ ?_, hrun, hended, _, _, rfl, ?_, ⟨_, rfl⟩, hW, hsame.mono (by decide) (by decide)⟩
        · skip
          refine XS.icmpNo X0.here hx rfl (hb hby d23_39) rfl (feq hc20).1 ?_
          refine XS.iconst X0.here hx rfl (hb hby d23_42) ?_
          refine XS.goto X0.here hx rfl (pc0 := 43) (pc' := 47) rfl (hb hby d23_43) (by decide) (by decide) ?_
          show Steps p.tables e below (s₁.setTop (mkF m 47 #[.val (.ref a1), .val (.int p1), .val (.int p2), .val (.int p3)] [(.int 1)])) _
          exact retN X0 hx (t := .boolean) Bd.returns (by simp) (hb hby d23_47) hr
        · show Q_rm23 Z a1 p1 p2 p3 nn b0 b1 b2 b3 kk h0 n0 _ s₁.heap _
          rw [e0]
          exact ⟨(by unfold own_ink; rw [if_neg hc2, if_pos hc5, if_neg hc8, if_neg hc12, if_neg hc16, if_neg hc20]), N0, rfl⟩
   ·skip
    obtain ⟨fs, hr, hrun, hended, hW, hsame⟩ := X0.leave (v := some (.int 0)) (fun h => by rw [Bd.returns] at h; cases h)
    refine ⟨_, _, pre4 _ ?_, hrun, hended, _, _, rfl, ?_, ⟨_, rfl⟩, hW, hsame.mono (by decide) (by decide)⟩
    · skip
      refine XS.icmpYes X0.here hx rfl (pc0 := 7) (pc' := 46) rfl (hb hby d23_7) rfl (flt hc5).2.1 (by decide) (by decide) ?_
      refine XS.iconst X0.here hx rfl (hb hby d23_46) ?_
      show Steps p.tables e below (s₁.setTop (mkF m 47 #[.val (.ref a1), .val (.int p1), .val (.int p2), .val (.int p3)] [(.int 0)])) _
      exact retN X0 hx (t := .boolean) Bd.returns (by simp) (hb hby d23_47) hr
    · show Q_rm23 Z a1 p1 p2 p3 nn b0 b1 b2 b3 kk h0 n0 _ s₁.heap _
      rw [e0]
      exact ⟨(by unfold own_ink; rw [if_neg hc2, if_neg hc5]), N0, rfl⟩
theorem ef_rm22 (m : MethodId) (x0 : Addr) (x1 : Int32) (x2 : Int32) : entryFrame m #[(.ref x0), (.int x1), (.int x2)] 3 = mkF m 0 #[.val (.ref x0), .val (.int x1), .val (.int x2)] [] := by first | (simp [entryFrame, mkF, argsToLocals, Value.category]; done) | rfl
def Q_rm22 (Z : State) (a1 : Addr) (p2 : Int32) (p3 : Int32) (nn : Int32) (b0 : Int32) (b1 : Int32) (b2 : Int32) (b3 : Int32) (kk : ClassId) (h0 : Heap) (n0 : Nat) (v : Option Value) (h : Heap) (L : List Loc) : Prop := v = some (.int (own_hasInk b0 b1 b2 b3 p2 p3)) ∧ Fr n0 L ∧ h = h0
set_option maxRecDepth 65536 in
set_option maxHeartbeats 40000000 in
theorem rm22 (l : Launch) (Z : State) (a0 : Array Value) (hw : ∀ d ∈ own_tab, d.before a0 Z = true) (ws : List Jvm.Cond) (a1 : Addr) (p2 : Int32) (p3 : Int32) (nn : Int32) (b0 : Int32) (b1 : Int32) (b2 : Int32) (b3 : Int32) (kk : ClassId) (h0 : Heap) (n0 : Nat) (Z0 : n0 ≤ h0.size) (P0 : Arv Z h0 a1 kk .byte nn (own_is [b0, b1, b2, b3]) (.int 0)) (hs0 : ¬ p2 < (0 : Int32)) (he0 : ¬ nn < p3) :
    MetFree l (⟨"com/example/rank_keeper/rankkeeper/BodyLinesSplitPinLaw", "hasInk", "([BII)Z"⟩ : MethodName) (head1 (Jvm.Cond.code (⟨"com/example/rank_keeper/rankkeeper/BodyLinesSplitPinLaw", "hasInk", "([BII)Z"⟩ : MethodName) method_8_code 3 (some .boolean) :: ws) ({ frames := 1, cells := 0, slots := 0, locals := 15 } : Room)) (fun a U => a = #[(.ref a1), (.int p2), (.int p3)] ∧ Z.Warmed39 U.vm ∧ U.heap = h0) (fun _ _ _ _ _ => True) (fun _ U o U' => ∃ v L, o = .returned v ∧ Q_rm22 Z a1 p2 p3 nn b0 b1 b2 b3 kk h0 n0 v U'.heap L ∧ FrameEnd U o U' L ({ frames := 1, cells := 0, slots := 0, locals := 15 } : Room).cells ({ frames := 1, cells := 0, slots := 0, locals := 15 } : Room).slots) := by
  refine MetFree.of_bodySF (plainFor_of_name pn_0) hisR ?_
  intro p e s m args below meth c s₁ Bd hml0 hP hK
  obtain ⟨rfl, hZ, hh⟩ := hP
  have hx := Bd.exec
  have hby := Bd.bytes
  have hml : c.maxLocals = 3 := hml0
  have hown : s.vm.findClass "com/example/rank_keeper/rankkeeper/BodyLinesSplitPinLaw" = some m.cls := findClass_of_methodNamed Bd.named
  have hnm := (name_of_methodNamed Bd.named Bd.method).1
  have X0 : Stand p l e ({ frames := 1, cells := 0, slots := 0, locals := 15 } : Room) s m #[(.ref a1), (.int p2), (.int p3)] below meth c s₁ [] 0 0 := Stand.of_body Bd
  have e0 : s₁.heap = h0 := by rw [← hh, Bd.state]; rfl
  have N0 := Fr.nil n0
  have KR : Keep h0 h0 [] := Keep.refl h0 _
  have pre0 : ∀ t, Steps p.tables e below (s₁.setTop (mkF m 0 #[.val (.ref a1), .val (.int p2), .val (.int p3)] [])) t → Steps p.tables e below (s₁.setTop (entryFrame m #[(.ref a1), (.int p2), (.int p3)] 3)) t := fun t k => castTop (ef_rm22 m (a1) (p2) (p3)) k
  obtain ⟨_, _, ⟨T1, L1, k1, n1⟩, -, X1, ⟨Lc1, hQ1, l1, y1, z1⟩, st1⟩ := Jvm.LawKit.callS X0 hx (y := (⟨"com/example/rank_keeper/rankkeeper/BodyLinesSplitPinLaw", "inkAt", "([BIII)Z"⟩ : MethodName)) hown (mvT hZ (kw128 hw)) (mvT hZ (kw129 hw)) (mvT hZ (kw44 hw)) (mvT hZ (kw130 hw)) (by decide) (backOf (W := 0) (rm23 l Z a0 hw [] a1 (0 : Int32) p2 p3 nn b0 b1 b2 b3 kk h0 n0 Z0 P0 hs0 he0) hZ (kw130 hw) (kw44 hw) (by decide) (by decide)) (g := (mkF m 4 #[.val (.ref a1), .val (.int p2), .val (.int p3)] [(.int p3), (.int p2), (.int 0), (.ref a1)])) rfl (by rw [hml]; rfl) (argsL := [(.ref a1), (.int 0), (.int p2), (.int p3)]) (rest := []) (lenOf pd_0 rfl) rfl (by show 2 * 0 + _ ≤ _; exact Nat.le_of_eq rfl) (hb hby d22_4) (fun _ _ => ⟨rfl, e0, (by decide : 0 + 0 ≤ _), (by decide : 0 + 0 ≤ _)⟩)
  dsimp only [Pt.U, Pt.locs, Pt.cells, Pt.slots] at X1 l1 y1 z1 st1 hQ1
  subst l1 y1 z1
  obtain ⟨rfl, N1q, e1⟩ := hQ1
  have N1 := Fr.app N0 N1q
  have pre2 : ∀ t, Steps p.tables e below (T1.setTop (mkF m 7 #[.val (.ref a1), .val (.int p2), .val (.int p3)] [(.int (own_ink b0 b1 b2 b3 (0 : Int32) p2 p3))])) t → Steps p.tables e below (s₁.setTop (entryFrame m #[(.ref a1), (.int p2), (.int p3)] 3)) t := fun t k => pre0 t (by
    refine XS.aloadN X0.here hx rfl (hb hby d22_0) rfl rfl ?_
    refine XS.iconst X0.here hx rfl (hb hby d22_1) ?_
    refine XS.iloadN X0.here hx rfl (hb hby d22_2) rfl ?_
    refine XS.iloadN X0.here hx rfl (hb hby d22_3) rfl ?_
    refine st1 _ ?_
    exact k)
  by_cases hc3 : (own_ink b0 b1 b2 b3 (0 : Int32) p2 p3) = (0 : Int32)
  ·skip
   obtain ⟨_, _, ⟨T4, L4, k4, n4⟩, -, X4, ⟨Lc4, hQ4, l4, y4, z4⟩, st4⟩ := Jvm.LawKit.callS X1 hx (y := (⟨"com/example/rank_keeper/rankkeeper/BodyLinesSplitPinLaw", "inkAt", "([BIII)Z"⟩ : MethodName)) hown (mvT hZ (kw128 hw)) (mvT hZ (kw129 hw)) (mvT hZ (kw44 hw)) (mvT hZ (kw130 hw)) (by decide) (backOf (W := 0) (rm23 l Z a0 hw [] a1 (1 : Int32) p2 p3 nn b0 b1 b2 b3 kk h0 n0 Z0 P0 hs0 he0) hZ (kw130 hw) (kw44 hw) (by decide) (by decide)) (g := (mkF m 14 #[.val (.ref a1), .val (.int p2), .val (.int p3)] [(.int p3), (.int p2), (.int 1), (.ref a1)])) rfl (by rw [hml]; rfl) (argsL := [(.ref a1), (.int 1), (.int p2), (.int p3)]) (rest := []) (lenOf pd_0 rfl) rfl (by show 2 * 0 + _ ≤ _; exact Nat.le_of_eq rfl) (hb hby d22_14) (fun _ _ => ⟨rfl, e1, (by decide : 0 + 0 ≤ _), (by decide : 0 + 0 ≤ _)⟩)
   dsimp only [Pt.U, Pt.locs, Pt.cells, Pt.slots] at X4 l4 y4 z4 st4 hQ4
   subst l4 y4 z4
   obtain ⟨rfl, N4q, e4⟩ := hQ4
   have N4 := Fr.app N1 N4q
   have pre5 : ∀ t, Steps p.tables e below (T4.setTop (mkF m 17 #[.val (.ref a1), .val (.int p2), .val (.int p3)] [(.int (own_ink b0 b1 b2 b3 (1 : Int32) p2 p3))])) t → Steps p.tables e below (s₁.setTop (entryFrame m #[(.ref a1), (.int p2), (.int p3)] 3)) t := fun t k => pre2 t (by
     refine XS.ifNo X1.here hx rfl (hb hby d22_7) rfl ((if0 _ _).trans (teq hc3).2) ?_
     refine XS.aloadN X1.here hx rfl (hb hby d22_10) rfl rfl ?_
     refine XS.iconst X1.here hx rfl (hb hby d22_11) ?_
     refine XS.iloadN X1.here hx rfl (hb hby d22_12) rfl ?_
     refine XS.iloadN X1.here hx rfl (hb hby d22_13) rfl ?_
     refine st4 _ ?_
     exact k)
   by_cases hc6 : (own_ink b0 b1 b2 b3 (1 : Int32) p2 p3) = (0 : Int32)
   ·skip
    obtain ⟨_, _, ⟨T7, L7, k7, n7⟩, -, X7, ⟨Lc7, hQ7, l7, y7, z7⟩, st7⟩ := Jvm.LawKit.callS X4 hx (y := (⟨"com/example/rank_keeper/rankkeeper/BodyLinesSplitPinLaw", "inkAt", "([BIII)Z"⟩ : MethodName)) hown (mvT hZ (kw128 hw)) (mvT hZ (kw129 hw)) (mvT hZ (kw44 hw)) (mvT hZ (kw130 hw)) (by decide) (backOf (W := 0) (rm23 l Z a0 hw [] a1 (2 : Int32) p2 p3 nn b0 b1 b2 b3 kk h0 n0 Z0 P0 hs0 he0) hZ (kw130 hw) (kw44 hw) (by decide) (by decide)) (g := (mkF m 24 #[.val (.ref a1), .val (.int p2), .val (.int p3)] [(.int p3), (.int p2), (.int 2), (.ref a1)])) rfl (by rw [hml]; rfl) (argsL := [(.ref a1), (.int 2), (.int p2), (.int p3)]) (rest := []) (lenOf pd_0 rfl) rfl (by show 2 * 0 + _ ≤ _; exact Nat.le_of_eq rfl) (hb hby d22_24) (fun _ _ => ⟨rfl, e4, (by decide : 0 + 0 ≤ _), (by decide : 0 + 0 ≤ _)⟩)
    dsimp only [Pt.U, Pt.locs, Pt.cells, Pt.slots] at X7 l7 y7 z7 st7 hQ7
    subst l7 y7 z7
    obtain ⟨rfl, N7q, e7⟩ := hQ7
    have N7 := Fr.app N4 N7q
    have pre8 : ∀ t, Steps p.tables e below (T7.setTop (mkF m 27 #[.val (.ref a1), .val (.int p2), .val (.int p3)] [(.int (own_ink b0 b1 b2 b3 (2 : Int32) p2 p3))])) t → Steps p.tables e below (s₁.setTop (entryFrame m #[(.ref a1), (.int p2), (.int p3)] 3)) t := fun t k => pre5 t (by
      refine XS.ifNo X4.here hx rfl (hb hby d22_17) rfl ((if0 _ _).trans (teq hc6).2) ?_
      refine XS.aloadN X4.here hx rfl (hb hby d22_20) rfl rfl ?_
      refine XS.iconst X4.here hx rfl (hb hby d22_21) ?_
      refine XS.iloadN X4.here hx rfl (hb hby d22_22) rfl ?_
      refine XS.iloadN X4.here hx rfl (hb hby d22_23) rfl ?_
      refine st7 _ ?_
      exact k)
    by_cases hc9 : (own_ink b0 b1 b2 b3 (2 : Int32) p2 p3) = (0 : Int32)
    ·skip
     obtain ⟨_, _, ⟨T10, L10, k10, n10⟩, -, X10, ⟨Lc10, hQ10, l10, y10, z10⟩, st10⟩ := Jvm.LawKit.callS X7 hx (y := (⟨"com/example/rank_keeper/rankkeeper/BodyLinesSplitPinLaw", "inkAt", "([BIII)Z"⟩ : MethodName)) hown (mvT hZ (kw128 hw)) (mvT hZ (kw129 hw)) (mvT hZ (kw44 hw)) (mvT hZ (kw130 hw)) (by decide) (backOf (W := 0) (rm23 l Z a0 hw [] a1 (3 : Int32) p2 p3 nn b0 b1 b2 b3 kk h0 n0 Z0 P0 hs0 he0) hZ (kw130 hw) (kw44 hw) (by decide) (by decide)) (g := (mkF m 34 #[.val (.ref a1), .val (.int p2), .val (.int p3)] [(.int p3), (.int p2), (.int 3), (.ref a1)])) rfl (by rw [hml]; rfl) (argsL := [(.ref a1), (.int 3), (.int p2), (.int p3)]) (rest := []) (lenOf pd_0 rfl) rfl (by show 2 * 0 + _ ≤ _; exact Nat.le_of_eq rfl) (hb hby d22_34) (fun _ _ => ⟨rfl, e7, (by decide : 0 + 0 ≤ _), (by decide : 0 + 0 ≤ _)⟩)
     dsimp only [Pt.U, Pt.locs, Pt.cells, Pt.slots] at X10 l10 y10 z10 st10 hQ10
     subst l10 y10 z10
     obtain ⟨rfl, N10q, e10⟩ := hQ10
     have N10 := Fr.app N7 N10q
     have pre11 : ∀ t, Steps p.tables e below (T10.setTop (mkF m 37 #[.val (.ref a1), .val (.int p2), .val (.int p3)] [(.int (own_ink b0 b1 b2 b3 (3 : Int32) p2 p3))])) t → Steps p.tables e below (s₁.setTop (entryFrame m #[(.ref a1), (.int p2), (.int p3)] 3)) t := fun t k => pre8 t (by
       refine XS.ifNo X7.here hx rfl (hb hby d22_27) rfl ((if0 _ _).trans (teq hc9).2) ?_
       refine XS.aloadN X7.here hx rfl (hb hby d22_30) rfl rfl ?_
       refine XS.iconst X7.here hx rfl (hb hby d22_31) ?_
       refine XS.iloadN X7.here hx rfl (hb hby d22_32) rfl ?_
       refine XS.iloadN X7.here hx rfl (hb hby d22_33) rfl ?_
       refine st10 _ ?_
       exact k)
     by_cases hc12 : (own_ink b0 b1 b2 b3 (3 : Int32) p2 p3) = (0 : Int32)
     ·skip
      obtain ⟨fs, hr, hrun, hended, hW, hsame⟩ := X10.leave (v := some (.int 0)) (fun h => by rw [Bd.returns] at h; cases h)
      refine ⟨_, _, pre11 _ ?_, hrun, hended, _, _, rfl, ?_, ⟨_, rfl⟩, hW, hsame.mono (by decide) (by decide)⟩
      · skip
        refine XS.ifYes X10.here hx rfl (pc0 := 37) (pc' := 44) rfl (hb hby d22_37) rfl ((if0 _ _).trans (teq hc12).1) (by decide) (by decide) ?_
        refine XS.iconst X10.here hx rfl (hb hby d22_44) ?_
        show Steps p.tables e below (T10.setTop (mkF m 45 #[.val (.ref a1), .val (.int p2), .val (.int p3)] [(.int 0)])) _
        exact retN X10 hx (t := .boolean) Bd.returns (by simp) (hb hby d22_45) hr
      · show Q_rm22 Z a1 p2 p3 nn b0 b1 b2 b3 kk h0 n0 _ T10.heap _
        rw [e10]
        exact ⟨(by unfold own_hasInk; rw [if_pos hc3, if_pos hc6, if_pos hc9, if_pos hc12]), N10, rfl⟩
     ·skip
      obtain ⟨fs, hr, hrun, hended, hW, hsame⟩ := X10.leave (v := some (.int 1)) (fun h => by rw [Bd.returns] at h; cases h)
      refine ⟨_, _, pre11 _ ?_, hrun, hended, _, _, rfl, ?_, ⟨_, rfl⟩, hW, hsame.mono (by decide) (by decide)⟩
      · skip
        refine XS.ifNo X10.here hx rfl (hb hby d22_37) rfl ((if0 _ _).trans (feq hc12).1) ?_
        refine XS.iconst X10.here hx rfl (hb hby d22_40) ?_
        refine XS.goto X10.here hx rfl (pc0 := 41) (pc' := 45) rfl (hb hby d22_41) (by decide) (by decide) ?_
        show Steps p.tables e below (T10.setTop (mkF m 45 #[.val (.ref a1), .val (.int p2), .val (.int p3)] [(.int 1)])) _
        exact retN X10 hx (t := .boolean) Bd.returns (by simp) (hb hby d22_45) hr
      · show Q_rm22 Z a1 p2 p3 nn b0 b1 b2 b3 kk h0 n0 _ T10.heap _
        rw [e10]
        exact ⟨(by unfold own_hasInk; rw [if_pos hc3, if_pos hc6, if_pos hc9, if_neg hc12]), N10, rfl⟩
    ·skip
     obtain ⟨fs, hr, hrun, hended, hW, hsame⟩ := X7.leave (v := some (.int 1)) (fun h => by rw [Bd.returns] at h; cases h)
     refine ⟨_, _, pre8 _ ?_, hrun, hended, _, _, rfl, ?_, ⟨_, rfl⟩, hW, hsame.mono (by decide) (by decide)⟩
     · skip
       refine XS.ifYes X7.here hx rfl (pc0 := 27) (pc' := 40) rfl (hb hby d22_27) rfl ((if0 _ _).trans (feq hc9).2) (by decide) (by decide) ?_
       refine XS.iconst X7.here hx rfl (hb hby d22_40) ?_
       refine XS.goto X7.here hx rfl (pc0 := 41) (pc' := 45) rfl (hb hby d22_41) (by decide) (by decide) ?_
       show Steps p.tables e below (T7.setTop (mkF m 45 #[.val (.ref a1), .val (.int p2), .val (.int p3)] [(.int 1)])) _
       exact retN X7 hx (t := .boolean) Bd.returns (by simp) (hb hby d22_45) hr
     · show Q_rm22 Z a1 p2 p3 nn b0 b1 b2 b3 kk h0 n0 _ T7.heap _
       rw [e7]
       exact ⟨(by unfold own_hasInk; rw [if_pos hc3, if_pos hc6, if_neg hc9]), N7, rfl⟩
   ·skip
    obtain ⟨fs, hr, hrun, hended, hW, hsame⟩ := X4.leave (v := some (.int 1)) (fun h => by rw [Bd.returns] at h; cases h)
    refine ⟨_, _, pre5 _ ?_, hrun, hended, _, _, rfl, ?_, ⟨_, rfl⟩, hW, hsame.mono (by decide) (by decide)⟩
    · skip
      refine XS.ifYes X4.here hx rfl (pc0 := 17) (pc' := 40) rfl (hb hby d22_17) rfl ((if0 _ _).trans (feq hc6).2) (by decide) (by decide) ?_
      refine XS.iconst X4.here hx rfl (hb hby d22_40) ?_
      refine XS.goto X4.here hx rfl (pc0 := 41) (pc' := 45) rfl (hb hby d22_41) (by decide) (by decide) ?_
      show Steps p.tables e below (T4.setTop (mkF m 45 #[.val (.ref a1), .val (.int p2), .val (.int p3)] [(.int 1)])) _
      exact retN X4 hx (t := .boolean) Bd.returns (by simp) (hb hby d22_45) hr
    · show Q_rm22 Z a1 p2 p3 nn b0 b1 b2 b3 kk h0 n0 _ T4.heap _
      rw [e4]
      exact ⟨(by unfold own_hasInk; rw [if_pos hc3, if_neg hc6]), N4, rfl⟩
  ·skip
   obtain ⟨fs, hr, hrun, hended, hW, hsame⟩ := X1.leave (v := some (.int 1)) (fun h => by rw [Bd.returns] at h; cases h)
   refine ⟨_, _, pre2 _ ?_, hrun, hended, _, _, rfl, ?_, ⟨_, rfl⟩, hW, hsame.mono (by decide) (by decide)⟩
   · skip
     refine XS.ifYes X1.here hx rfl (pc0 := 7) (pc' := 40) rfl (hb hby d22_7) rfl ((if0 _ _).trans (feq hc3).2) (by decide) (by decide) ?_
     refine XS.iconst X1.here hx rfl (hb hby d22_40) ?_
     refine XS.goto X1.here hx rfl (pc0 := 41) (pc' := 45) rfl (hb hby d22_41) (by decide) (by decide) ?_
     show Steps p.tables e below (T1.setTop (mkF m 45 #[.val (.ref a1), .val (.int p2), .val (.int p3)] [(.int 1)])) _
     exact retN X1 hx (t := .boolean) Bd.returns (by simp) (hb hby d22_45) hr
   · show Q_rm22 Z a1 p2 p3 nn b0 b1 b2 b3 kk h0 n0 _ T1.heap _
     rw [e1]
     exact ⟨(by unfold own_hasInk; rw [if_neg hc3]), N1, rfl⟩
theorem ef_rm20 (m : MethodId) (x0 : Addr) (x1 : Int32) : entryFrame m #[(.ref x0), (.int x1)] 3 = mkF m 0 #[.val (.ref x0), .val (.int x1), .unset] [] := by first | (simp [entryFrame, mkF, argsToLocals, Value.category]; done) | rfl
def Q_rm20 (Z : State) (a1 : Addr) (p1 : Int32) (nn : Int32) (b0 : Int32) (b1 : Int32) (b2 : Int32) (b3 : Int32) (kk : ClassId) (h0 : Heap) (n0 : Nat) (v : Option Value) (h : Heap) (L : List Loc) : Prop := v = some (.int (own_end nn b0 b1 b2 b3 p1)) ∧ Fr n0 L ∧ h = h0
set_option maxRecDepth 65536 in
set_option maxHeartbeats 40000000 in
theorem rm20 (l : Launch) (Z : State) (a0 : Array Value) (hw : ∀ d ∈ own_tab, d.before a0 Z = true) (ws : List Jvm.Cond) (a1 : Addr) (p1 : Int32) (nn : Int32) (b0 : Int32) (b1 : Int32) (b2 : Int32) (b3 : Int32) (kk : ClassId) (h0 : Heap) (n0 : Nat) (Z0 : n0 ≤ h0.size) (P0 : Arv Z h0 a1 kk .byte nn (own_is [b0, b1, b2, b3]) (.int 0)) :
    MetFree l (⟨"com/example/rank_keeper/rankkeeper/BodyLinesSplitPinLaw", "endFrom", "([BI)I"⟩ : MethodName) (head1 (Jvm.Cond.code (⟨"com/example/rank_keeper/rankkeeper/BodyLinesSplitPinLaw", "endFrom", "([BI)I"⟩ : MethodName) method_6_code 3 (some .int) :: ws) ({ frames := 1, cells := 0, slots := 0, locals := 13 } : Room)) (fun a U => a = #[(.ref a1), (.int p1)] ∧ Z.Warmed39 U.vm ∧ U.heap = h0) (fun _ _ _ _ _ => True) (fun _ U o U' => ∃ v L, o = .returned v ∧ Q_rm20 Z a1 p1 nn b0 b1 b2 b3 kk h0 n0 v U'.heap L ∧ FrameEnd U o U' L ({ frames := 1, cells := 0, slots := 0, locals := 13 } : Room).cells ({ frames := 1, cells := 0, slots := 0, locals := 13 } : Room).slots) := by
  refine MetFree.of_bodySF (plainFor_of_name pn_0) hisR ?_
  intro p e s m args below meth c s₁ Bd hml0 hP hK
  obtain ⟨rfl, hZ, hh⟩ := hP
  have hx := Bd.exec
  have hby := Bd.bytes
  have hml : c.maxLocals = 3 := hml0
  have hown : s.vm.findClass "com/example/rank_keeper/rankkeeper/BodyLinesSplitPinLaw" = some m.cls := findClass_of_methodNamed Bd.named
  have hnm := (name_of_methodNamed Bd.named Bd.method).1
  have X0 : Stand p l e ({ frames := 1, cells := 0, slots := 0, locals := 13 } : Room) s m #[(.ref a1), (.int p1)] below meth c s₁ [] 0 0 := Stand.of_body Bd
  have e0 : s₁.heap = h0 := by rw [← hh, Bd.state]; rfl
  have N0 := Fr.nil n0
  have KR : Keep h0 h0 [] := Keep.refl h0 _
  have pre0 : ∀ t, Steps p.tables e below (s₁.setTop (mkF m 0 #[.val (.ref a1), .val (.int p1), .unset] [])) t → Steps p.tables e below (s₁.setTop (entryFrame m #[(.ref a1), (.int p1)] 3)) t := fun t k => castTop (ef_rm20 m (a1) (p1)) k
  obtain ⟨cl1, Ar1, -, S1, N1', -, -⟩ := id P0
  have pre2 : ∀ t, Steps p.tables e below (s₁.setTop (mkF m 5 #[.val (.ref a1), .val (.int p1), .val (.int nn)] [(.int 3), (.int p1)])) t → Steps p.tables e below (s₁.setTop (entryFrame m #[(.ref a1), (.int p1)] 3)) t := fun t k => pre0 t (by
    refine XS.aloadN X0.here hx rfl (hb hby d20_0) rfl rfl ?_
    refine X0.arraylength hx (by rw [e0]; exact Ar1.1) (State.isArrayOf_alike hZ.alike Ar1.2.1) (g := (mkF m 1 #[.val (.ref a1), .val (.int p1), .unset] [(.ref a1)])) rfl rfl (hb hby d20_1) _ ?_
    rw [len_of S1 N1']
    refine XS.istoreN X0.here hx rfl (hb hby d20_2) rfl (l' := #[.val (.ref a1), .val (.int p1), .val (.int nn)]) rfl ?_
    refine XS.iloadN X0.here hx rfl (hb hby d20_3) rfl ?_
    refine XS.iconst X0.here hx rfl (hb hby d20_4) ?_
    exact k)
  obtain ⟨LJ3, TJ3, XJ3, NJ3, eJ3, pre3⟩ : ∃ (LL : List Loc) (T' : State), Stand p l e ({ frames := 1, cells := 0, slots := 0, locals := 13 } : Room) s m #[(.ref a1), (.int p1)] below meth c T' LL 0 0 ∧ Fr n0 LL ∧ T'.heap = h0 ∧ ∀ t, Steps p.tables e below (T'.setTop (mkF m 18 #[.val (.ref a1), .val (.int p1), .val (.int (if (3 : Int32) < p1 then nn else (if (own_isNl nn b0 b1 b2 b3 (3 : Int32)) = (0 : Int32) then nn else (3 : Int32))))] [])) t → Steps p.tables e below (s₁.setTop (entryFrame m #[(.ref a1), (.int p1)] 3)) t := by
    by_cases hc4 : (3 : Int32) < p1
    ·skip
     refine ⟨_, _, X0, N0, e0, fun t k => pre2 t ?_⟩
     refine XS.icmpYes X0.here hx rfl (pc0 := 5) (pc' := 18) rfl (hb hby d20_5) rfl (tlt hc4).2.2.1 (by decide) (by decide) ?_
     simp only [if_pos hc4] at k; exact k
    ·skip
     obtain ⟨_, _, ⟨T5, L5, k5, n5⟩, -, X5, ⟨Lc5, hQ5, l5, y5, z5⟩, st5⟩ := Jvm.LawKit.callS X0 hx (y := (⟨"com/example/rank_keeper/rankkeeper/BodyLinesSplitPinLaw", "isNl", "([BI)Z"⟩ : MethodName)) hown (mvT hZ (kw122 hw)) (mvT hZ (kw123 hw)) (mvT hZ (kw44 hw)) (mvT hZ (kw124 hw)) (by decide) (backOf (W := 0) (rm21 l Z a0 hw [] a1 (3 : Int32) nn b0 b1 b2 b3 kk h0 n0 Z0 P0) hZ (kw124 hw) (kw44 hw) (by decide) (by decide)) (g := (mkF m 10 #[.val (.ref a1), .val (.int p1), .val (.int nn)] [(.int 3), (.ref a1)])) rfl (by rw [hml]; rfl) (argsL := [(.ref a1), (.int 3)]) (rest := []) (lenOf pd_1 rfl) rfl (by show 2 * 0 + _ ≤ _; exact Nat.le_of_eq rfl) (hb hby d20_10) (fun _ _ => ⟨rfl, e0, (by decide : 0 + 0 ≤ _), (by decide : 0 + 0 ≤ _)⟩)
     dsimp only [Pt.U, Pt.locs, Pt.cells, Pt.slots] at X5 l5 y5 z5 st5 hQ5
     subst l5 y5 z5
     obtain ⟨rfl, N5q, e5⟩ := hQ5
     have N5 := Fr.app N0 N5q
     have pre6 : ∀ t, Steps p.tables e below (T5.setTop (mkF m 13 #[.val (.ref a1), .val (.int p1), .val (.int nn)] [(.int (own_isNl nn b0 b1 b2 b3 (3 : Int32)))])) t → Steps p.tables e below (s₁.setTop (entryFrame m #[(.ref a1), (.int p1)] 3)) t := fun t k => pre2 t (by
       refine XS.icmpNo X0.here hx rfl (hb hby d20_5) rfl (flt hc4).2.2.1 ?_
       refine XS.aloadN X0.here hx rfl (hb hby d20_8) rfl rfl ?_
       refine XS.iconst X0.here hx rfl (hb hby d20_9) ?_
       refine st5 _ ?_
       exact k)
     by_cases hc7 : (own_isNl nn b0 b1 b2 b3 (3 : Int32)) = (0 : Int32)
     ·skip
      refine ⟨_, _, X5, N5, e5, fun t k => pre6 t ?_⟩
      refine XS.ifYes X5.here hx rfl (pc0 := 13) (pc' := 18) rfl (hb hby d20_13) rfl ((if0 _ _).trans (teq hc7).1) (by decide) (by decide) ?_
      simp only [if_neg hc4, if_pos hc7] at k; exact k
     ·skip
      refine ⟨_, _, X5, N5, e5, fun t k => pre6 t ?_⟩
      refine XS.ifNo X5.here hx rfl (hb hby d20_13) rfl ((if0 _ _).trans (feq hc7).1) ?_
      refine XS.iconst X5.here hx rfl (hb hby d20_16) ?_
      refine XS.istoreN X5.here hx rfl (hb hby d20_17) rfl (l' := #[.val (.ref a1), .val (.int p1), .val (.int 3)]) rfl ?_
      simp only [if_neg hc4, if_neg hc7] at k; exact k
  obtain ⟨e3, h_e3⟩ : ∃ z : Int32, z = (if (3 : Int32) < p1 then nn else (if (own_isNl nn b0 b1 b2 b3 (3 : Int32)) = (0 : Int32) then nn else (3 : Int32))) := ⟨_, rfl⟩
  rw [← h_e3] at pre3
  have pre8 : ∀ t, Steps p.tables e below (TJ3.setTop (mkF m 20 #[.val (.ref a1), .val (.int p1), .val (.int e3)] [(.int 2), (.int p1)])) t → Steps p.tables e below (s₁.setTop (entryFrame m #[(.ref a1), (.int p1)] 3)) t := fun t k => pre3 t (by
    refine XS.iloadN XJ3.here hx rfl (hb hby d20_18) rfl ?_
    refine XS.iconst XJ3.here hx rfl (hb hby d20_19) ?_
    exact k)
  obtain ⟨LJ9, TJ9, XJ9, NJ9, eJ9, pre9⟩ : ∃ (LL : List Loc) (T' : State), Stand p l e ({ frames := 1, cells := 0, slots := 0, locals := 13 } : Room) s m #[(.ref a1), (.int p1)] below meth c T' LL 0 0 ∧ Fr n0 LL ∧ T'.heap = h0 ∧ ∀ t, Steps p.tables e below (T'.setTop (mkF m 33 #[.val (.ref a1), .val (.int p1), .val (.int (if (2 : Int32) < p1 then e3 else (if (own_isNl nn b0 b1 b2 b3 (2 : Int32)) = (0 : Int32) then e3 else (2 : Int32))))] [])) t → Steps p.tables e below (s₁.setTop (entryFrame m #[(.ref a1), (.int p1)] 3)) t := by
    by_cases hc10 : (2 : Int32) < p1
    ·skip
     refine ⟨_, _, XJ3, NJ3, eJ3, fun t k => pre8 t ?_⟩
     refine XS.icmpYes XJ3.here hx rfl (pc0 := 20) (pc' := 33) rfl (hb hby d20_20) rfl (tlt hc10).2.2.1 (by decide) (by decide) ?_
     simp only [if_pos hc10] at k; exact k
    ·skip
     obtain ⟨_, _, ⟨T11, L11, k11, n11⟩, -, X11, ⟨Lc11, hQ11, l11, y11, z11⟩, st11⟩ := Jvm.LawKit.callS XJ3 hx (y := (⟨"com/example/rank_keeper/rankkeeper/BodyLinesSplitPinLaw", "isNl", "([BI)Z"⟩ : MethodName)) hown (mvT hZ (kw122 hw)) (mvT hZ (kw123 hw)) (mvT hZ (kw44 hw)) (mvT hZ (kw124 hw)) (by decide) (backOf (W := 0) (rm21 l Z a0 hw [] a1 (2 : Int32) nn b0 b1 b2 b3 kk h0 n0 Z0 P0) hZ (kw124 hw) (kw44 hw) (by decide) (by decide)) (g := (mkF m 25 #[.val (.ref a1), .val (.int p1), .val (.int e3)] [(.int 2), (.ref a1)])) rfl (by rw [hml]; rfl) (argsL := [(.ref a1), (.int 2)]) (rest := []) (lenOf pd_1 rfl) rfl (by show 2 * 0 + _ ≤ _; exact Nat.le_of_eq rfl) (hb hby d20_25) (fun _ _ => ⟨rfl, eJ3, (by decide : 0 + 0 ≤ _), (by decide : 0 + 0 ≤ _)⟩)
     dsimp only [Pt.U, Pt.locs, Pt.cells, Pt.slots] at X11 l11 y11 z11 st11 hQ11
     subst l11 y11 z11
     obtain ⟨rfl, N11q, e11⟩ := hQ11
     have N11 := Fr.app NJ3 N11q
     have pre12 : ∀ t, Steps p.tables e below (T11.setTop (mkF m 28 #[.val (.ref a1), .val (.int p1), .val (.int e3)] [(.int (own_isNl nn b0 b1 b2 b3 (2 : Int32)))])) t → Steps p.tables e below (s₁.setTop (entryFrame m #[(.ref a1), (.int p1)] 3)) t := fun t k => pre8 t (by
       refine XS.icmpNo XJ3.here hx rfl (hb hby d20_20) rfl (flt hc10).2.2.1 ?_
       refine XS.aloadN XJ3.here hx rfl (hb hby d20_23) rfl rfl ?_
       refine XS.iconst XJ3.here hx rfl (hb hby d20_24) ?_
       refine st11 _ ?_
       exact k)
     by_cases hc13 : (own_isNl nn b0 b1 b2 b3 (2 : Int32)) = (0 : Int32)
     ·skip
      refine ⟨_, _, X11, N11, e11, fun t k => pre12 t ?_⟩
      refine XS.ifYes X11.here hx rfl (pc0 := 28) (pc' := 33) rfl (hb hby d20_28) rfl ((if0 _ _).trans (teq hc13).1) (by decide) (by decide) ?_
      simp only [if_neg hc10, if_pos hc13] at k; exact k
     ·skip
      refine ⟨_, _, X11, N11, e11, fun t k => pre12 t ?_⟩
      refine XS.ifNo X11.here hx rfl (hb hby d20_28) rfl ((if0 _ _).trans (feq hc13).1) ?_
      refine XS.iconst X11.here hx rfl (hb hby d20_31) ?_
      refine XS.istoreN X11.here hx rfl (hb hby d20_32) rfl (l' := #[.val (.ref a1), .val (.int p1), .val (.int 2)]) rfl ?_
      simp only [if_neg hc10, if_neg hc13] at k; exact k
  obtain ⟨e2, h_e2⟩ : ∃ z : Int32, z = (if (2 : Int32) < p1 then e3 else (if (own_isNl nn b0 b1 b2 b3 (2 : Int32)) = (0 : Int32) then e3 else (2 : Int32))) := ⟨_, rfl⟩
  rw [← h_e2] at pre9
  have pre14 : ∀ t, Steps p.tables e below (TJ9.setTop (mkF m 35 #[.val (.ref a1), .val (.int p1), .val (.int e2)] [(.int 1), (.int p1)])) t → Steps p.tables e below (s₁.setTop (entryFrame m #[(.ref a1), (.int p1)] 3)) t := fun t k => pre9 t (by
    refine XS.iloadN XJ9.here hx rfl (hb hby d20_33) rfl ?_
    refine XS.iconst XJ9.here hx rfl (hb hby d20_34) ?_
    exact k)
  obtain ⟨LJ15, TJ15, XJ15, NJ15, eJ15, pre15⟩ : ∃ (LL : List Loc) (T' : State), Stand p l e ({ frames := 1, cells := 0, slots := 0, locals := 13 } : Room) s m #[(.ref a1), (.int p1)] below meth c T' LL 0 0 ∧ Fr n0 LL ∧ T'.heap = h0 ∧ ∀ t, Steps p.tables e below (T'.setTop (mkF m 48 #[.val (.ref a1), .val (.int p1), .val (.int (if (1 : Int32) < p1 then e2 else (if (own_isNl nn b0 b1 b2 b3 (1 : Int32)) = (0 : Int32) then e2 else (1 : Int32))))] [])) t → Steps p.tables e below (s₁.setTop (entryFrame m #[(.ref a1), (.int p1)] 3)) t := by
    by_cases hc16 : (1 : Int32) < p1
    ·skip
     refine ⟨_, _, XJ9, NJ9, eJ9, fun t k => pre14 t ?_⟩
     refine XS.icmpYes XJ9.here hx rfl (pc0 := 35) (pc' := 48) rfl (hb hby d20_35) rfl (tlt hc16).2.2.1 (by decide) (by decide) ?_
     simp only [if_pos hc16] at k; exact k
    ·skip
     obtain ⟨_, _, ⟨T17, L17, k17, n17⟩, -, X17, ⟨Lc17, hQ17, l17, y17, z17⟩, st17⟩ := Jvm.LawKit.callS XJ9 hx (y := (⟨"com/example/rank_keeper/rankkeeper/BodyLinesSplitPinLaw", "isNl", "([BI)Z"⟩ : MethodName)) hown (mvT hZ (kw122 hw)) (mvT hZ (kw123 hw)) (mvT hZ (kw44 hw)) (mvT hZ (kw124 hw)) (by decide) (backOf (W := 0) (rm21 l Z a0 hw [] a1 (1 : Int32) nn b0 b1 b2 b3 kk h0 n0 Z0 P0) hZ (kw124 hw) (kw44 hw) (by decide) (by decide)) (g := (mkF m 40 #[.val (.ref a1), .val (.int p1), .val (.int e2)] [(.int 1), (.ref a1)])) rfl (by rw [hml]; rfl) (argsL := [(.ref a1), (.int 1)]) (rest := []) (lenOf pd_1 rfl) rfl (by show 2 * 0 + _ ≤ _; exact Nat.le_of_eq rfl) (hb hby d20_40) (fun _ _ => ⟨rfl, eJ9, (by decide : 0 + 0 ≤ _), (by decide : 0 + 0 ≤ _)⟩)
     dsimp only [Pt.U, Pt.locs, Pt.cells, Pt.slots] at X17 l17 y17 z17 st17 hQ17
     subst l17 y17 z17
     obtain ⟨rfl, N17q, e17⟩ := hQ17
     have N17 := Fr.app NJ9 N17q
     have pre18 : ∀ t, Steps p.tables e below (T17.setTop (mkF m 43 #[.val (.ref a1), .val (.int p1), .val (.int e2)] [(.int (own_isNl nn b0 b1 b2 b3 (1 : Int32)))])) t → Steps p.tables e below (s₁.setTop (entryFrame m #[(.ref a1), (.int p1)] 3)) t := fun t k => pre14 t (by
       refine XS.icmpNo XJ9.here hx rfl (hb hby d20_35) rfl (flt hc16).2.2.1 ?_
       refine XS.aloadN XJ9.here hx rfl (hb hby d20_38) rfl rfl ?_
       refine XS.iconst XJ9.here hx rfl (hb hby d20_39) ?_
       refine st17 _ ?_
       exact k)
     by_cases hc19 : (own_isNl nn b0 b1 b2 b3 (1 : Int32)) = (0 : Int32)
     ·skip
      refine ⟨_, _, X17, N17, e17, fun t k => pre18 t ?_⟩
      refine XS.ifYes X17.here hx rfl (pc0 := 43) (pc' := 48) rfl (hb hby d20_43) rfl ((if0 _ _).trans (teq hc19).1) (by decide) (by decide) ?_
      simp only [if_neg hc16, if_pos hc19] at k; exact k
     ·skip
      refine ⟨_, _, X17, N17, e17, fun t k => pre18 t ?_⟩
      refine XS.ifNo X17.here hx rfl (hb hby d20_43) rfl ((if0 _ _).trans (feq hc19).1) ?_
      refine XS.iconst X17.here hx rfl (hb hby d20_46) ?_
      refine XS.istoreN X17.here hx rfl (hb hby d20_47) rfl (l' := #[.val (.ref a1), .val (.int p1), .val (.int 1)]) rfl ?_
      simp only [if_neg hc16, if_neg hc19] at k; exact k
  obtain ⟨e1, h_e1⟩ : ∃ z : Int32, z = (if (1 : Int32) < p1 then e2 else (if (own_isNl nn b0 b1 b2 b3 (1 : Int32)) = (0 : Int32) then e2 else (1 : Int32))) := ⟨_, rfl⟩
  rw [← h_e1] at pre15
  have pre20 : ∀ t, Steps p.tables e below (TJ15.setTop (mkF m 49 #[.val (.ref a1), .val (.int p1), .val (.int e1)] [(.int p1)])) t → Steps p.tables e below (s₁.setTop (entryFrame m #[(.ref a1), (.int p1)] 3)) t := fun t k => pre15 t (by
    refine XS.iloadN XJ15.here hx rfl (hb hby d20_48) rfl ?_
    exact k)
  obtain ⟨LJ21, TJ21, XJ21, NJ21, eJ21, pre21⟩ : ∃ (LL : List Loc) (T' : State), Stand p l e ({ frames := 1, cells := 0, slots := 0, locals := 13 } : Room) s m #[(.ref a1), (.int p1)] below meth c T' LL 0 0 ∧ Fr n0 LL ∧ T'.heap = h0 ∧ ∀ t, Steps p.tables e below (T'.setTop (mkF m 62 #[.val (.ref a1), .val (.int p1), .val (.int (if (0 : Int32) < p1 then e1 else (if (own_isNl nn b0 b1 b2 b3 (0 : Int32)) = (0 : Int32) then e1 else (0 : Int32))))] [])) t → Steps p.tables e below (s₁.setTop (entryFrame m #[(.ref a1), (.int p1)] 3)) t := by
    by_cases hc22 : (0 : Int32) < p1
    ·skip
     refine ⟨_, _, XJ15, NJ15, eJ15, fun t k => pre20 t ?_⟩
     refine XS.ifYes XJ15.here hx rfl (pc0 := 49) (pc' := 62) rfl (hb hby d20_49) rfl ((if0 _ _).trans (tlt hc22).2.2.1) (by decide) (by decide) ?_
     simp only [if_pos hc22] at k; exact k
    ·skip
     obtain ⟨_, _, ⟨T23, L23, k23, n23⟩, -, X23, ⟨Lc23, hQ23, l23, y23, z23⟩, st23⟩ := Jvm.LawKit.callS XJ15 hx (y := (⟨"com/example/rank_keeper/rankkeeper/BodyLinesSplitPinLaw", "isNl", "([BI)Z"⟩ : MethodName)) hown (mvT hZ (kw122 hw)) (mvT hZ (kw123 hw)) (mvT hZ (kw44 hw)) (mvT hZ (kw124 hw)) (by decide) (backOf (W := 0) (rm21 l Z a0 hw [] a1 (0 : Int32) nn b0 b1 b2 b3 kk h0 n0 Z0 P0) hZ (kw124 hw) (kw44 hw) (by decide) (by decide)) (g := (mkF m 54 #[.val (.ref a1), .val (.int p1), .val (.int e1)] [(.int 0), (.ref a1)])) rfl (by rw [hml]; rfl) (argsL := [(.ref a1), (.int 0)]) (rest := []) (lenOf pd_1 rfl) rfl (by show 2 * 0 + _ ≤ _; exact Nat.le_of_eq rfl) (hb hby d20_54) (fun _ _ => ⟨rfl, eJ15, (by decide : 0 + 0 ≤ _), (by decide : 0 + 0 ≤ _)⟩)
     dsimp only [Pt.U, Pt.locs, Pt.cells, Pt.slots] at X23 l23 y23 z23 st23 hQ23
     subst l23 y23 z23
     obtain ⟨rfl, N23q, e23⟩ := hQ23
     have N23 := Fr.app NJ15 N23q
     have pre24 : ∀ t, Steps p.tables e below (T23.setTop (mkF m 57 #[.val (.ref a1), .val (.int p1), .val (.int e1)] [(.int (own_isNl nn b0 b1 b2 b3 (0 : Int32)))])) t → Steps p.tables e below (s₁.setTop (entryFrame m #[(.ref a1), (.int p1)] 3)) t := fun t k => pre20 t (by
       refine XS.ifNo XJ15.here hx rfl (hb hby d20_49) rfl ((if0 _ _).trans (flt hc22).2.2.1) ?_
       refine XS.aloadN XJ15.here hx rfl (hb hby d20_52) rfl rfl ?_
       refine XS.iconst XJ15.here hx rfl (hb hby d20_53) ?_
       refine st23 _ ?_
       exact k)
     by_cases hc25 : (own_isNl nn b0 b1 b2 b3 (0 : Int32)) = (0 : Int32)
     ·skip
      refine ⟨_, _, X23, N23, e23, fun t k => pre24 t ?_⟩
      refine XS.ifYes X23.here hx rfl (pc0 := 57) (pc' := 62) rfl (hb hby d20_57) rfl ((if0 _ _).trans (teq hc25).1) (by decide) (by decide) ?_
      simp only [if_neg hc22, if_pos hc25] at k; exact k
     ·skip
      refine ⟨_, _, X23, N23, e23, fun t k => pre24 t ?_⟩
      refine XS.ifNo X23.here hx rfl (hb hby d20_57) rfl ((if0 _ _).trans (feq hc25).1) ?_
      refine XS.iconst X23.here hx rfl (hb hby d20_60) ?_
      refine XS.istoreN X23.here hx rfl (hb hby d20_61) rfl (l' := #[.val (.ref a1), .val (.int p1), .val (.int 0)]) rfl ?_
      simp only [if_neg hc22, if_neg hc25] at k; exact k
  obtain ⟨e0, h_e0⟩ : ∃ z : Int32, z = (if (0 : Int32) < p1 then e1 else (if (own_isNl nn b0 b1 b2 b3 (0 : Int32)) = (0 : Int32) then e1 else (0 : Int32))) := ⟨_, rfl⟩
  rw [← h_e0] at pre21
  obtain ⟨fs, hr, hrun, hended, hW, hsame⟩ := XJ21.leave (v := some (.int e0)) (fun h => by rw [Bd.returns] at h; cases h)
  refine ⟨_, _, pre21 _ ?_, hrun, hended, _, _, rfl, ?_, ⟨_, rfl⟩, hW, hsame.mono (by decide) (by decide)⟩
  · skip
    refine XS.iloadN XJ21.here hx rfl (hb hby d20_62) rfl ?_
    show Steps p.tables e below (TJ21.setTop (mkF m 63 #[.val (.ref a1), .val (.int p1), .val (.int e0)] [(.int e0)])) _
    exact retI XJ21 hx Bd.returns (hb hby d20_63) hr
  · show Q_rm20 Z a1 p1 nn b0 b1 b2 b3 kk h0 n0 _ TJ21.heap _
    rw [eJ21]
    exact ⟨(by subst h_e0 h_e1 h_e2 h_e3; rfl), NJ21, rfl⟩
theorem ef_rm31 (m : MethodId) (x0 : Addr) (x1 : Int32) : entryFrame m #[(.ref x0), (.int x1)] 3 = mkF m 0 #[.val (.ref x0), .val (.int x1), .unset] [] := by first | (simp [entryFrame, mkF, argsToLocals, Value.category]; done) | rfl
def Q_rm31 (Z : State) (a1 : Addr) (p1 : Int32) (nn : Int32) (b0 : Int32) (b1 : Int32) (b2 : Int32) (b3 : Int32) (kk : ClassId) (h0 : Heap) (n0 : Nat) (v : Option Value) (h : Heap) (L : List Loc) : Prop := v = some (.int (own_nb nn b0 b1 b2 b3 p1)) ∧ Fr n0 L ∧ h = h0
set_option maxRecDepth 65536 in
set_option maxHeartbeats 40000000 in
theorem rm31 (l : Launch) (Z : State) (a0 : Array Value) (hw : ∀ d ∈ own_tab, d.before a0 Z = true) (ws : List Jvm.Cond) (a1 : Addr) (p1 : Int32) (nn : Int32) (b0 : Int32) (b1 : Int32) (b2 : Int32) (b3 : Int32) (kk : ClassId) (h0 : Heap) (n0 : Nat) (Z0 : n0 ≤ h0.size) (P0 : Arv Z h0 a1 kk .byte nn (own_is [b0, b1, b2, b3]) (.int 0)) :
    MetFree l (⟨"com/example/rank_keeper/rankkeeper/BodyLinesSplitPinLaw", "nlBefore", "([BI)I"⟩ : MethodName) (head1 (Jvm.Cond.code (⟨"com/example/rank_keeper/rankkeeper/BodyLinesSplitPinLaw", "nlBefore", "([BI)I"⟩ : MethodName) method_9_code 3 (some .int) :: ws) ({ frames := 1, cells := 0, slots := 0, locals := 13 } : Room)) (fun a U => a = #[(.ref a1), (.int p1)] ∧ Z.Warmed39 U.vm ∧ U.heap = h0) (fun _ _ _ _ _ => True) (fun _ U o U' => ∃ v L, o = .returned v ∧ Q_rm31 Z a1 p1 nn b0 b1 b2 b3 kk h0 n0 v U'.heap L ∧ FrameEnd U o U' L ({ frames := 1, cells := 0, slots := 0, locals := 13 } : Room).cells ({ frames := 1, cells := 0, slots := 0, locals := 13 } : Room).slots) := by
  refine MetFree.of_bodySF (plainFor_of_name pn_0) hisR ?_
  intro p e s m args below meth c s₁ Bd hml0 hP hK
  obtain ⟨rfl, hZ, hh⟩ := hP
  have hx := Bd.exec
  have hby := Bd.bytes
  have hml : c.maxLocals = 3 := hml0
  have hown : s.vm.findClass "com/example/rank_keeper/rankkeeper/BodyLinesSplitPinLaw" = some m.cls := findClass_of_methodNamed Bd.named
  have hnm := (name_of_methodNamed Bd.named Bd.method).1
  have X0 : Stand p l e ({ frames := 1, cells := 0, slots := 0, locals := 13 } : Room) s m #[(.ref a1), (.int p1)] below meth c s₁ [] 0 0 := Stand.of_body Bd
  have e0 : s₁.heap = h0 := by rw [← hh, Bd.state]; rfl
  have N0 := Fr.nil n0
  have KR : Keep h0 h0 [] := Keep.refl h0 _
  have pre0 : ∀ t, Steps p.tables e below (s₁.setTop (mkF m 0 #[.val (.ref a1), .val (.int p1), .unset] [])) t → Steps p.tables e below (s₁.setTop (entryFrame m #[(.ref a1), (.int p1)] 3)) t := fun t k => castTop (ef_rm31 m (a1) (p1)) k
  have pre1 : ∀ t, Steps p.tables e below (s₁.setTop (mkF m 4 #[.val (.ref a1), .val (.int p1), .val (.int 0)] [(.int p1), (.int 0)])) t → Steps p.tables e below (s₁.setTop (entryFrame m #[(.ref a1), (.int p1)] 3)) t := fun t k => pre0 t (by
    refine XS.iconst X0.here hx rfl (hb hby d31_0) ?_
    refine XS.istoreN X0.here hx rfl (hb hby d31_1) rfl (l' := #[.val (.ref a1), .val (.int p1), .val (.int 0)]) rfl ?_
    refine XS.iconst X0.here hx rfl (hb hby d31_2) ?_
    refine XS.iloadN X0.here hx rfl (hb hby d31_3) rfl ?_
    exact k)
  obtain ⟨LJ2, TJ2, XJ2, NJ2, eJ2, pre2⟩ : ∃ (LL : List Loc) (T' : State), Stand p l e ({ frames := 1, cells := 0, slots := 0, locals := 13 } : Room) s m #[(.ref a1), (.int p1)] below meth c T' LL 0 0 ∧ Fr n0 LL ∧ T'.heap = h0 ∧ ∀ t, Steps p.tables e below (T'.setTop (mkF m 18 #[.val (.ref a1), .val (.int p1), .val (.int (if (0 : Int32) < p1 then (if (own_isNl nn b0 b1 b2 b3 (0 : Int32)) = (0 : Int32) then (0 : Int32) else (1 : Int32)) else (0 : Int32)))] [])) t → Steps p.tables e below (s₁.setTop (entryFrame m #[(.ref a1), (.int p1)] 3)) t := by
    by_cases hc3 : (0 : Int32) < p1
    ·skip
     obtain ⟨_, _, ⟨T4, L4, k4, n4⟩, -, X4, ⟨Lc4, hQ4, l4, y4, z4⟩, st4⟩ := Jvm.LawKit.callS X0 hx (y := (⟨"com/example/rank_keeper/rankkeeper/BodyLinesSplitPinLaw", "isNl", "([BI)Z"⟩ : MethodName)) hown (mvT hZ (kw122 hw)) (mvT hZ (kw123 hw)) (mvT hZ (kw44 hw)) (mvT hZ (kw124 hw)) (by decide) (backOf (W := 0) (rm21 l Z a0 hw [] a1 (0 : Int32) nn b0 b1 b2 b3 kk h0 n0 Z0 P0) hZ (kw124 hw) (kw44 hw) (by decide) (by decide)) (g := (mkF m 9 #[.val (.ref a1), .val (.int p1), .val (.int 0)] [(.int 0), (.ref a1)])) rfl (by rw [hml]; rfl) (argsL := [(.ref a1), (.int 0)]) (rest := []) (lenOf pd_1 rfl) rfl (by show 2 * 0 + _ ≤ _; exact Nat.le_of_eq rfl) (hb hby d31_9) (fun _ _ => ⟨rfl, e0, (by decide : 0 + 0 ≤ _), (by decide : 0 + 0 ≤ _)⟩)
     dsimp only [Pt.U, Pt.locs, Pt.cells, Pt.slots] at X4 l4 y4 z4 st4 hQ4
     subst l4 y4 z4
     obtain ⟨rfl, N4q, e4⟩ := hQ4
     have N4 := Fr.app N0 N4q
     have pre5 : ∀ t, Steps p.tables e below (T4.setTop (mkF m 12 #[.val (.ref a1), .val (.int p1), .val (.int 0)] [(.int (own_isNl nn b0 b1 b2 b3 (0 : Int32)))])) t → Steps p.tables e below (s₁.setTop (entryFrame m #[(.ref a1), (.int p1)] 3)) t := fun t k => pre1 t (by
       refine XS.icmpNo X0.here hx rfl (hb hby d31_4) rfl (tlt hc3).2.1 ?_
       refine XS.aloadN X0.here hx rfl (hb hby d31_7) rfl rfl ?_
       refine XS.iconst X0.here hx rfl (hb hby d31_8) ?_
       refine st4 _ ?_
       exact k)
     by_cases hc6 : (own_isNl nn b0 b1 b2 b3 (0 : Int32)) = (0 : Int32)
     ·skip
      refine ⟨_, _, X4, N4, e4, fun t k => pre5 t ?_⟩
      refine XS.ifYes X4.here hx rfl (pc0 := 12) (pc' := 18) rfl (hb hby d31_12) rfl ((if0 _ _).trans (teq hc6).1) (by decide) (by decide) ?_
      simp only [if_pos hc3, if_pos hc6] at k; exact k
     ·skip
      refine ⟨_, _, X4, N4, e4, fun t k => pre5 t ?_⟩
      refine XS.ifNo X4.here hx rfl (hb hby d31_12) rfl ((if0 _ _).trans (feq hc6).1) ?_
      refine XS.iinc X4.here hx rfl (hb hby d31_15) rfl (l' := #[.val (.ref a1), .val (.int p1), .val (.int 1)]) rfl ?_
      simp only [if_pos hc3, if_neg hc6] at k; exact k
    ·skip
     refine ⟨_, _, X0, N0, e0, fun t k => pre1 t ?_⟩
     refine XS.icmpYes X0.here hx rfl (pc0 := 4) (pc' := 18) rfl (hb hby d31_4) rfl (flt hc3).2.1 (by decide) (by decide) ?_
     simp only [if_neg hc3] at k; exact k
  obtain ⟨c0, h_c0⟩ : ∃ z : Int32, z = (if (0 : Int32) < p1 then (if (own_isNl nn b0 b1 b2 b3 (0 : Int32)) = (0 : Int32) then (0 : Int32) else (1 : Int32)) else (0 : Int32)) := ⟨_, rfl⟩
  rw [← h_c0] at pre2
  have pre7 : ∀ t, Steps p.tables e below (TJ2.setTop (mkF m 20 #[.val (.ref a1), .val (.int p1), .val (.int c0)] [(.int p1), (.int 1)])) t → Steps p.tables e below (s₁.setTop (entryFrame m #[(.ref a1), (.int p1)] 3)) t := fun t k => pre2 t (by
    refine XS.iconst XJ2.here hx rfl (hb hby d31_18) ?_
    refine XS.iloadN XJ2.here hx rfl (hb hby d31_19) rfl ?_
    exact k)
  obtain ⟨LJ8, TJ8, XJ8, NJ8, eJ8, pre8⟩ : ∃ (LL : List Loc) (T' : State), Stand p l e ({ frames := 1, cells := 0, slots := 0, locals := 13 } : Room) s m #[(.ref a1), (.int p1)] below meth c T' LL 0 0 ∧ Fr n0 LL ∧ T'.heap = h0 ∧ ∀ t, Steps p.tables e below (T'.setTop (mkF m 34 #[.val (.ref a1), .val (.int p1), .val (.int (if (1 : Int32) < p1 then (if (own_isNl nn b0 b1 b2 b3 (1 : Int32)) = (0 : Int32) then c0 else (c0 + (1 : Int32))) else c0))] [])) t → Steps p.tables e below (s₁.setTop (entryFrame m #[(.ref a1), (.int p1)] 3)) t := by
    by_cases hc9 : (1 : Int32) < p1
    ·skip
     obtain ⟨_, _, ⟨T10, L10, k10, n10⟩, -, X10, ⟨Lc10, hQ10, l10, y10, z10⟩, st10⟩ := Jvm.LawKit.callS XJ2 hx (y := (⟨"com/example/rank_keeper/rankkeeper/BodyLinesSplitPinLaw", "isNl", "([BI)Z"⟩ : MethodName)) hown (mvT hZ (kw122 hw)) (mvT hZ (kw123 hw)) (mvT hZ (kw44 hw)) (mvT hZ (kw124 hw)) (by decide) (backOf (W := 0) (rm21 l Z a0 hw [] a1 (1 : Int32) nn b0 b1 b2 b3 kk h0 n0 Z0 P0) hZ (kw124 hw) (kw44 hw) (by decide) (by decide)) (g := (mkF m 25 #[.val (.ref a1), .val (.int p1), .val (.int c0)] [(.int 1), (.ref a1)])) rfl (by rw [hml]; rfl) (argsL := [(.ref a1), (.int 1)]) (rest := []) (lenOf pd_1 rfl) rfl (by show 2 * 0 + _ ≤ _; exact Nat.le_of_eq rfl) (hb hby d31_25) (fun _ _ => ⟨rfl, eJ2, (by decide : 0 + 0 ≤ _), (by decide : 0 + 0 ≤ _)⟩)
     dsimp only [Pt.U, Pt.locs, Pt.cells, Pt.slots] at X10 l10 y10 z10 st10 hQ10
     subst l10 y10 z10
     obtain ⟨rfl, N10q, e10⟩ := hQ10
     have N10 := Fr.app NJ2 N10q
     have pre11 : ∀ t, Steps p.tables e below (T10.setTop (mkF m 28 #[.val (.ref a1), .val (.int p1), .val (.int c0)] [(.int (own_isNl nn b0 b1 b2 b3 (1 : Int32)))])) t → Steps p.tables e below (s₁.setTop (entryFrame m #[(.ref a1), (.int p1)] 3)) t := fun t k => pre7 t (by
       refine XS.icmpNo XJ2.here hx rfl (hb hby d31_20) rfl (tlt hc9).2.1 ?_
       refine XS.aloadN XJ2.here hx rfl (hb hby d31_23) rfl rfl ?_
       refine XS.iconst XJ2.here hx rfl (hb hby d31_24) ?_
       refine st10 _ ?_
       exact k)
     by_cases hc12 : (own_isNl nn b0 b1 b2 b3 (1 : Int32)) = (0 : Int32)
     ·skip
      refine ⟨_, _, X10, N10, e10, fun t k => pre11 t ?_⟩
      refine XS.ifYes X10.here hx rfl (pc0 := 28) (pc' := 34) rfl (hb hby d31_28) rfl ((if0 _ _).trans (teq hc12).1) (by decide) (by decide) ?_
      simp only [if_pos hc9, if_pos hc12] at k; exact k
     ·skip
      refine ⟨_, _, X10, N10, e10, fun t k => pre11 t ?_⟩
      refine XS.ifNo X10.here hx rfl (hb hby d31_28) rfl ((if0 _ _).trans (feq hc12).1) ?_
      refine XS.iinc X10.here hx rfl (hb hby d31_31) rfl (l' := #[.val (.ref a1), .val (.int p1), .val (.int (c0 + (1 : Int32)))]) rfl ?_
      simp only [if_pos hc9, if_neg hc12] at k; exact k
    ·skip
     refine ⟨_, _, XJ2, NJ2, eJ2, fun t k => pre7 t ?_⟩
     refine XS.icmpYes XJ2.here hx rfl (pc0 := 20) (pc' := 34) rfl (hb hby d31_20) rfl (flt hc9).2.1 (by decide) (by decide) ?_
     simp only [if_neg hc9] at k; exact k
  obtain ⟨c1, h_c1⟩ : ∃ z : Int32, z = (if (1 : Int32) < p1 then (if (own_isNl nn b0 b1 b2 b3 (1 : Int32)) = (0 : Int32) then c0 else (c0 + (1 : Int32))) else c0) := ⟨_, rfl⟩
  rw [← h_c1] at pre8
  have pre13 : ∀ t, Steps p.tables e below (TJ8.setTop (mkF m 36 #[.val (.ref a1), .val (.int p1), .val (.int c1)] [(.int p1), (.int 2)])) t → Steps p.tables e below (s₁.setTop (entryFrame m #[(.ref a1), (.int p1)] 3)) t := fun t k => pre8 t (by
    refine XS.iconst XJ8.here hx rfl (hb hby d31_34) ?_
    refine XS.iloadN XJ8.here hx rfl (hb hby d31_35) rfl ?_
    exact k)
  obtain ⟨LJ14, TJ14, XJ14, NJ14, eJ14, pre14⟩ : ∃ (LL : List Loc) (T' : State), Stand p l e ({ frames := 1, cells := 0, slots := 0, locals := 13 } : Room) s m #[(.ref a1), (.int p1)] below meth c T' LL 0 0 ∧ Fr n0 LL ∧ T'.heap = h0 ∧ ∀ t, Steps p.tables e below (T'.setTop (mkF m 50 #[.val (.ref a1), .val (.int p1), .val (.int (if (2 : Int32) < p1 then (if (own_isNl nn b0 b1 b2 b3 (2 : Int32)) = (0 : Int32) then c1 else (c1 + (1 : Int32))) else c1))] [])) t → Steps p.tables e below (s₁.setTop (entryFrame m #[(.ref a1), (.int p1)] 3)) t := by
    by_cases hc15 : (2 : Int32) < p1
    ·skip
     obtain ⟨_, _, ⟨T16, L16, k16, n16⟩, -, X16, ⟨Lc16, hQ16, l16, y16, z16⟩, st16⟩ := Jvm.LawKit.callS XJ8 hx (y := (⟨"com/example/rank_keeper/rankkeeper/BodyLinesSplitPinLaw", "isNl", "([BI)Z"⟩ : MethodName)) hown (mvT hZ (kw122 hw)) (mvT hZ (kw123 hw)) (mvT hZ (kw44 hw)) (mvT hZ (kw124 hw)) (by decide) (backOf (W := 0) (rm21 l Z a0 hw [] a1 (2 : Int32) nn b0 b1 b2 b3 kk h0 n0 Z0 P0) hZ (kw124 hw) (kw44 hw) (by decide) (by decide)) (g := (mkF m 41 #[.val (.ref a1), .val (.int p1), .val (.int c1)] [(.int 2), (.ref a1)])) rfl (by rw [hml]; rfl) (argsL := [(.ref a1), (.int 2)]) (rest := []) (lenOf pd_1 rfl) rfl (by show 2 * 0 + _ ≤ _; exact Nat.le_of_eq rfl) (hb hby d31_41) (fun _ _ => ⟨rfl, eJ8, (by decide : 0 + 0 ≤ _), (by decide : 0 + 0 ≤ _)⟩)
     dsimp only [Pt.U, Pt.locs, Pt.cells, Pt.slots] at X16 l16 y16 z16 st16 hQ16
     subst l16 y16 z16
     obtain ⟨rfl, N16q, e16⟩ := hQ16
     have N16 := Fr.app NJ8 N16q
     have pre17 : ∀ t, Steps p.tables e below (T16.setTop (mkF m 44 #[.val (.ref a1), .val (.int p1), .val (.int c1)] [(.int (own_isNl nn b0 b1 b2 b3 (2 : Int32)))])) t → Steps p.tables e below (s₁.setTop (entryFrame m #[(.ref a1), (.int p1)] 3)) t := fun t k => pre13 t (by
       refine XS.icmpNo XJ8.here hx rfl (hb hby d31_36) rfl (tlt hc15).2.1 ?_
       refine XS.aloadN XJ8.here hx rfl (hb hby d31_39) rfl rfl ?_
       refine XS.iconst XJ8.here hx rfl (hb hby d31_40) ?_
       refine st16 _ ?_
       exact k)
     by_cases hc18 : (own_isNl nn b0 b1 b2 b3 (2 : Int32)) = (0 : Int32)
     ·skip
      refine ⟨_, _, X16, N16, e16, fun t k => pre17 t ?_⟩
      refine XS.ifYes X16.here hx rfl (pc0 := 44) (pc' := 50) rfl (hb hby d31_44) rfl ((if0 _ _).trans (teq hc18).1) (by decide) (by decide) ?_
      simp only [if_pos hc15, if_pos hc18] at k; exact k
     ·skip
      refine ⟨_, _, X16, N16, e16, fun t k => pre17 t ?_⟩
      refine XS.ifNo X16.here hx rfl (hb hby d31_44) rfl ((if0 _ _).trans (feq hc18).1) ?_
      refine XS.iinc X16.here hx rfl (hb hby d31_47) rfl (l' := #[.val (.ref a1), .val (.int p1), .val (.int (c1 + (1 : Int32)))]) rfl ?_
      simp only [if_pos hc15, if_neg hc18] at k; exact k
    ·skip
     refine ⟨_, _, XJ8, NJ8, eJ8, fun t k => pre13 t ?_⟩
     refine XS.icmpYes XJ8.here hx rfl (pc0 := 36) (pc' := 50) rfl (hb hby d31_36) rfl (flt hc15).2.1 (by decide) (by decide) ?_
     simp only [if_neg hc15] at k; exact k
  obtain ⟨c2, h_c2⟩ : ∃ z : Int32, z = (if (2 : Int32) < p1 then (if (own_isNl nn b0 b1 b2 b3 (2 : Int32)) = (0 : Int32) then c1 else (c1 + (1 : Int32))) else c1) := ⟨_, rfl⟩
  rw [← h_c2] at pre14
  have pre19 : ∀ t, Steps p.tables e below (TJ14.setTop (mkF m 52 #[.val (.ref a1), .val (.int p1), .val (.int c2)] [(.int p1), (.int 3)])) t → Steps p.tables e below (s₁.setTop (entryFrame m #[(.ref a1), (.int p1)] 3)) t := fun t k => pre14 t (by
    refine XS.iconst XJ14.here hx rfl (hb hby d31_50) ?_
    refine XS.iloadN XJ14.here hx rfl (hb hby d31_51) rfl ?_
    exact k)
  obtain ⟨LJ20, TJ20, XJ20, NJ20, eJ20, pre20⟩ : ∃ (LL : List Loc) (T' : State), Stand p l e ({ frames := 1, cells := 0, slots := 0, locals := 13 } : Room) s m #[(.ref a1), (.int p1)] below meth c T' LL 0 0 ∧ Fr n0 LL ∧ T'.heap = h0 ∧ ∀ t, Steps p.tables e below (T'.setTop (mkF m 66 #[.val (.ref a1), .val (.int p1), .val (.int (if (3 : Int32) < p1 then (if (own_isNl nn b0 b1 b2 b3 (3 : Int32)) = (0 : Int32) then c2 else (c2 + (1 : Int32))) else c2))] [])) t → Steps p.tables e below (s₁.setTop (entryFrame m #[(.ref a1), (.int p1)] 3)) t := by
    by_cases hc21 : (3 : Int32) < p1
    ·skip
     obtain ⟨_, _, ⟨T22, L22, k22, n22⟩, -, X22, ⟨Lc22, hQ22, l22, y22, z22⟩, st22⟩ := Jvm.LawKit.callS XJ14 hx (y := (⟨"com/example/rank_keeper/rankkeeper/BodyLinesSplitPinLaw", "isNl", "([BI)Z"⟩ : MethodName)) hown (mvT hZ (kw122 hw)) (mvT hZ (kw123 hw)) (mvT hZ (kw44 hw)) (mvT hZ (kw124 hw)) (by decide) (backOf (W := 0) (rm21 l Z a0 hw [] a1 (3 : Int32) nn b0 b1 b2 b3 kk h0 n0 Z0 P0) hZ (kw124 hw) (kw44 hw) (by decide) (by decide)) (g := (mkF m 57 #[.val (.ref a1), .val (.int p1), .val (.int c2)] [(.int 3), (.ref a1)])) rfl (by rw [hml]; rfl) (argsL := [(.ref a1), (.int 3)]) (rest := []) (lenOf pd_1 rfl) rfl (by show 2 * 0 + _ ≤ _; exact Nat.le_of_eq rfl) (hb hby d31_57) (fun _ _ => ⟨rfl, eJ14, (by decide : 0 + 0 ≤ _), (by decide : 0 + 0 ≤ _)⟩)
     dsimp only [Pt.U, Pt.locs, Pt.cells, Pt.slots] at X22 l22 y22 z22 st22 hQ22
     subst l22 y22 z22
     obtain ⟨rfl, N22q, e22⟩ := hQ22
     have N22 := Fr.app NJ14 N22q
     have pre23 : ∀ t, Steps p.tables e below (T22.setTop (mkF m 60 #[.val (.ref a1), .val (.int p1), .val (.int c2)] [(.int (own_isNl nn b0 b1 b2 b3 (3 : Int32)))])) t → Steps p.tables e below (s₁.setTop (entryFrame m #[(.ref a1), (.int p1)] 3)) t := fun t k => pre19 t (by
       refine XS.icmpNo XJ14.here hx rfl (hb hby d31_52) rfl (tlt hc21).2.1 ?_
       refine XS.aloadN XJ14.here hx rfl (hb hby d31_55) rfl rfl ?_
       refine XS.iconst XJ14.here hx rfl (hb hby d31_56) ?_
       refine st22 _ ?_
       exact k)
     by_cases hc24 : (own_isNl nn b0 b1 b2 b3 (3 : Int32)) = (0 : Int32)
     ·skip
      refine ⟨_, _, X22, N22, e22, fun t k => pre23 t ?_⟩
      refine XS.ifYes X22.here hx rfl (pc0 := 60) (pc' := 66) rfl (hb hby d31_60) rfl ((if0 _ _).trans (teq hc24).1) (by decide) (by decide) ?_
      simp only [if_pos hc21, if_pos hc24] at k; exact k
     ·skip
      refine ⟨_, _, X22, N22, e22, fun t k => pre23 t ?_⟩
      refine XS.ifNo X22.here hx rfl (hb hby d31_60) rfl ((if0 _ _).trans (feq hc24).1) ?_
      refine XS.iinc X22.here hx rfl (hb hby d31_63) rfl (l' := #[.val (.ref a1), .val (.int p1), .val (.int (c2 + (1 : Int32)))]) rfl ?_
      simp only [if_pos hc21, if_neg hc24] at k; exact k
    ·skip
     refine ⟨_, _, XJ14, NJ14, eJ14, fun t k => pre19 t ?_⟩
     refine XS.icmpYes XJ14.here hx rfl (pc0 := 52) (pc' := 66) rfl (hb hby d31_52) rfl (flt hc21).2.1 (by decide) (by decide) ?_
     simp only [if_neg hc21] at k; exact k
  obtain ⟨c3, h_c3⟩ : ∃ z : Int32, z = (if (3 : Int32) < p1 then (if (own_isNl nn b0 b1 b2 b3 (3 : Int32)) = (0 : Int32) then c2 else (c2 + (1 : Int32))) else c2) := ⟨_, rfl⟩
  rw [← h_c3] at pre20
  obtain ⟨fs, hr, hrun, hended, hW, hsame⟩ := XJ20.leave (v := some (.int c3)) (fun h => by rw [Bd.returns] at h; cases h)
  refine ⟨_, _, pre20 _ ?_, hrun, hended, _, _, rfl, ?_, ⟨_, rfl⟩, hW, hsame.mono (by decide) (by decide)⟩
  · skip
    refine XS.iloadN XJ20.here hx rfl (hb hby d31_66) rfl ?_
    show Steps p.tables e below (TJ20.setTop (mkF m 67 #[.val (.ref a1), .val (.int p1), .val (.int c3)] [(.int c3)])) _
    exact retI XJ20 hx Bd.returns (hb hby d31_67) hr
  · show Q_rm31 Z a1 p1 nn b0 b1 b2 b3 kk h0 n0 _ TJ20.heap _
    rw [eJ20]
    exact ⟨(by subst h_c3 h_c2 h_c1 h_c0; rfl), NJ20, rfl⟩
theorem ef_rm7 (m : MethodId) (x0 : Addr) (x1 : Int32) : entryFrame m #[(.ref x0), (.int x1)] 2 = mkF m 0 #[.val (.ref x0), .val (.int x1)] [] := by first | (simp [entryFrame, mkF, argsToLocals, Value.category]; done) | rfl
def Q_rm7 (Z : State) (a1 : Addr) (p1 : Int32) (nn : Int32) (b0 : Int32) (b1 : Int32) (b2 : Int32) (b3 : Int32) (kk : ClassId) (h0 : Heap) (n0 : Nat) (v : Option Value) (h : Heap) (L : List Loc) : Prop := v = some (.int (own_good nn b0 b1 b2 b3 p1)) ∧ Fr n0 L ∧ h = h0
set_option maxRecDepth 65536 in
set_option maxHeartbeats 40000000 in
theorem rm7 (l : Launch) (Z : State) (a0 : Array Value) (hw : ∀ d ∈ own_tab, d.before a0 Z = true) (ws : List Jvm.Cond) (a1 : Addr) (p1 : Int32) (nn : Int32) (b0 : Int32) (b1 : Int32) (b2 : Int32) (b3 : Int32) (kk : ClassId) (h0 : Heap) (n0 : Nat) (Z0 : n0 ≤ h0.size) (P0 : Arv Z h0 a1 kk .byte nn (own_is [b0, b1, b2, b3]) (.int 0)) :
    MetFree l (⟨"com/example/rank_keeper/rankkeeper/BodyLinesSplitPinLaw", "good", "([BI)I"⟩ : MethodName) (head1 (Jvm.Cond.code (⟨"com/example/rank_keeper/rankkeeper/BodyLinesSplitPinLaw", "good", "([BI)I"⟩ : MethodName) method_10_code 2 (some .int) :: ws) ({ frames := 2, cells := 0, slots := 0, locals := 29 } : Room)) (fun a U => a = #[(.ref a1), (.int p1)] ∧ Z.Warmed39 U.vm ∧ U.heap = h0) (fun _ _ _ _ _ => True) (fun _ U o U' => ∃ v L, o = .returned v ∧ Q_rm7 Z a1 p1 nn b0 b1 b2 b3 kk h0 n0 v U'.heap L ∧ FrameEnd U o U' L ({ frames := 2, cells := 0, slots := 0, locals := 29 } : Room).cells ({ frames := 2, cells := 0, slots := 0, locals := 29 } : Room).slots) := by
  refine MetFree.of_bodySF (plainFor_of_name pn_0) hisR ?_
  intro p e s m args below meth c s₁ Bd hml0 hP hK
  obtain ⟨rfl, hZ, hh⟩ := hP
  have hx := Bd.exec
  have hby := Bd.bytes
  have hml : c.maxLocals = 2 := hml0
  have hown : s.vm.findClass "com/example/rank_keeper/rankkeeper/BodyLinesSplitPinLaw" = some m.cls := findClass_of_methodNamed Bd.named
  have hnm := (name_of_methodNamed Bd.named Bd.method).1
  have X0 : Stand p l e ({ frames := 2, cells := 0, slots := 0, locals := 29 } : Room) s m #[(.ref a1), (.int p1)] below meth c s₁ [] 0 0 := Stand.of_body Bd
  have e0 : s₁.heap = h0 := by rw [← hh, Bd.state]; rfl
  have N0 := Fr.nil n0
  have KR : Keep h0 h0 [] := Keep.refl h0 _
  have pre0 : ∀ t, Steps p.tables e below (s₁.setTop (mkF m 0 #[.val (.ref a1), .val (.int p1)] [])) t → Steps p.tables e below (s₁.setTop (entryFrame m #[(.ref a1), (.int p1)] 2)) t := fun t k => castTop (ef_rm7 m (a1) (p1)) k
  obtain ⟨_, _, ⟨T1, L1, k1, n1⟩, -, X1, ⟨Lc1, hQ1, l1, y1, z1⟩, st1⟩ := Jvm.LawKit.callS X0 hx (y := (⟨"com/example/rank_keeper/rankkeeper/BodyLinesSplitPinLaw", "isStart", "([BI)Z"⟩ : MethodName)) hown (mvT hZ (kw46 hw)) (mvT hZ (kw47 hw)) (mvT hZ (kw44 hw)) (mvT hZ (kw48 hw)) (by decide) (backOf (W := 0) (rm8 l Z a0 hw [] a1 p1 nn b0 b1 b2 b3 kk h0 n0 Z0 P0) hZ (kw48 hw) (kw44 hw) (by decide) (by decide)) (g := (mkF m 2 #[.val (.ref a1), .val (.int p1)] [(.int p1), (.ref a1)])) rfl (by rw [hml]; rfl) (argsL := [(.ref a1), (.int p1)]) (rest := []) (lenOf pd_1 rfl) rfl (by show 2 * 0 + _ ≤ _; exact Nat.le_of_eq rfl) (hb hby d7_2) (fun _ _ => ⟨rfl, e0, (by decide : 0 + 0 ≤ _), (by decide : 0 + 0 ≤ _)⟩)
  dsimp only [Pt.U, Pt.locs, Pt.cells, Pt.slots] at X1 l1 y1 z1 st1 hQ1
  subst l1 y1 z1
  obtain ⟨rfl, N1q, e1⟩ := hQ1
  have N1 := Fr.app N0 N1q
  have pre2 : ∀ t, Steps p.tables e below (T1.setTop (mkF m 5 #[.val (.ref a1), .val (.int p1)] [(.int (own_isStart nn b0 b1 b2 b3 p1))])) t → Steps p.tables e below (s₁.setTop (entryFrame m #[(.ref a1), (.int p1)] 2)) t := fun t k => pre0 t (by
    refine XS.aloadN X0.here hx rfl (hb hby d7_0) rfl rfl ?_
    refine XS.iloadN X0.here hx rfl (hb hby d7_1) rfl ?_
    refine st1 _ ?_
    exact k)
  by_cases hc3 : (own_isStart nn b0 b1 b2 b3 p1) = (0 : Int32)
  ·skip
   obtain ⟨fs, hr, hrun, hended, hW, hsame⟩ := X1.leave (v := some (.int 0)) (fun h => by rw [Bd.returns] at h; cases h)
   refine ⟨_, _, pre2 _ ?_, hrun, hended, _, _, rfl, ?_, ⟨_, rfl⟩, hW, hsame.mono (by decide) (by decide)⟩
   · skip
     refine XS.ifYes X1.here hx rfl (pc0 := 5) (pc' := 25) rfl (hb hby d7_5) rfl ((if0 _ _).trans (teq hc3).1) (by decide) (by decide) ?_
     refine XS.iconst X1.here hx rfl (hb hby d7_25) ?_
     show Steps p.tables e below (T1.setTop (mkF m 26 #[.val (.ref a1), .val (.int p1)] [(.int 0)])) _
     exact retI X1 hx Bd.returns (hb hby d7_26) hr
   · show Q_rm7 Z a1 p1 nn b0 b1 b2 b3 kk h0 n0 _ T1.heap _
     rw [e1]
     exact ⟨(by unfold own_good; rw [if_pos hc3]), N1, rfl⟩
  ·skip
   obtain ⟨_, _, ⟨T5, L5, k5, n5⟩, -, X5, ⟨Lc5, hQ5, l5, y5, z5⟩, st5⟩ := Jvm.LawKit.callS X1 hx (y := (⟨"com/example/rank_keeper/rankkeeper/BodyLinesSplitPinLaw", "endFrom", "([BI)I"⟩ : MethodName)) hown (mvT hZ (kw119 hw)) (mvT hZ (kw120 hw)) (mvT hZ (kw44 hw)) (mvT hZ (kw121 hw)) (by decide) (backOf (W := 2) (rm20 l Z a0 hw [] a1 p1 nn b0 b1 b2 b3 kk h0 n0 Z0 P0) hZ (kw121 hw) (kw44 hw) (by decide) (by decide)) (g := (mkF m 12 #[.val (.ref a1), .val (.int p1)] [(.int p1), (.ref a1), (.int p1), (.ref a1)])) rfl (by rw [hml]; rfl) (argsL := [(.ref a1), (.int p1)]) (rest := [(.int p1), (.ref a1)]) (lenOf pd_2 rfl) rfl (by show 2 * 0 + _ ≤ _; exact Nat.le_of_eq rfl) (hb hby d7_12) (fun _ _ => ⟨rfl, e1, (by decide : 0 + 0 ≤ _), (by decide : 0 + 0 ≤ _)⟩)
   dsimp only [Pt.U, Pt.locs, Pt.cells, Pt.slots] at X5 l5 y5 z5 st5 hQ5
   subst l5 y5 z5
   obtain ⟨rfl, N5q, e5⟩ := hQ5
   have N5 := Fr.app N1 N5q
   obtain ⟨_, _, ⟨T6, L6, k6, n6⟩, -, X6, ⟨Lc6, hQ6, l6, y6, z6⟩, st6⟩ := Jvm.LawKit.callS X5 hx (y := (⟨"com/example/rank_keeper/rankkeeper/BodyLinesSplitPinLaw", "hasInk", "([BII)Z"⟩ : MethodName)) hown (mvT hZ (kw125 hw)) (mvT hZ (kw126 hw)) (mvT hZ (kw44 hw)) (mvT hZ (kw127 hw)) (by decide) (backOf (W := 0) (rm22 l Z a0 hw [] a1 p1 (own_end nn b0 b1 b2 b3 p1) nn b0 b1 b2 b3 kk h0 n0 Z0 P0 (own_isStart_nn hc3) (own_end_le _ _ _ _ _ _)) hZ (kw127 hw) (kw44 hw) (by decide) (by decide)) (g := (mkF m 15 #[.val (.ref a1), .val (.int p1)] [(.int (own_end nn b0 b1 b2 b3 p1)), (.int p1), (.ref a1)])) rfl (by rw [hml]; rfl) (argsL := [(.ref a1), (.int p1), (.int (own_end nn b0 b1 b2 b3 p1))]) (rest := []) (lenOf pd_3 rfl) rfl (by show 2 * 0 + _ ≤ _; exact Nat.le_of_eq rfl) (hb hby d7_15) (fun _ _ => ⟨rfl, e5, (by decide : 0 + 0 ≤ _), (by decide : 0 + 0 ≤ _)⟩)
   dsimp only [Pt.U, Pt.locs, Pt.cells, Pt.slots] at X6 l6 y6 z6 st6 hQ6
   subst l6 y6 z6
   obtain ⟨rfl, N6q, e6⟩ := hQ6
   have N6 := Fr.app N5 N6q
   have pre7 : ∀ t, Steps p.tables e below (T6.setTop (mkF m 18 #[.val (.ref a1), .val (.int p1)] [(.int (own_hasInk b0 b1 b2 b3 p1 (own_end nn b0 b1 b2 b3 p1)))])) t → Steps p.tables e below (s₁.setTop (entryFrame m #[(.ref a1), (.int p1)] 2)) t := fun t k => pre2 t (by
     refine XS.ifNo X1.here hx rfl (hb hby d7_5) rfl ((if0 _ _).trans (feq hc3).1) ?_
     refine XS.aloadN X1.here hx rfl (hb hby d7_8) rfl rfl ?_
     refine XS.iloadN X1.here hx rfl (hb hby d7_9) rfl ?_
     refine XS.aloadN X1.here hx rfl (hb hby d7_10) rfl rfl ?_
     refine XS.iloadN X1.here hx rfl (hb hby d7_11) rfl ?_
     refine st5 _ ?_
     refine st6 _ ?_
     exact k)
   by_cases hc8 : (own_hasInk b0 b1 b2 b3 p1 (own_end nn b0 b1 b2 b3 p1)) = (0 : Int32)
   ·skip
    obtain ⟨fs, hr, hrun, hended, hW, hsame⟩ := X6.leave (v := some (.int 0)) (fun h => by rw [Bd.returns] at h; cases h)
    refine ⟨_, _, pre7 _ ?_, hrun, hended, _, _, rfl, ?_, ⟨_, rfl⟩, hW, hsame.mono (by decide) (by decide)⟩
    · skip
      refine XS.ifYes X6.here hx rfl (pc0 := 18) (pc' := 25) rfl (hb hby d7_18) rfl ((if0 _ _).trans (teq hc8).1) (by decide) (by decide) ?_
      refine XS.iconst X6.here hx rfl (hb hby d7_25) ?_
      show Steps p.tables e below (T6.setTop (mkF m 26 #[.val (.ref a1), .val (.int p1)] [(.int 0)])) _
      exact retI X6 hx Bd.returns (hb hby d7_26) hr
    · show Q_rm7 Z a1 p1 nn b0 b1 b2 b3 kk h0 n0 _ T6.heap _
      rw [e6]
      exact ⟨(by unfold own_good; rw [if_neg hc3, if_pos hc8]), N6, rfl⟩
   ·skip
    obtain ⟨fs, hr, hrun, hended, hW, hsame⟩ := X6.leave (v := some (.int 1)) (fun h => by rw [Bd.returns] at h; cases h)
    refine ⟨_, _, pre7 _ ?_, hrun, hended, _, _, rfl, ?_, ⟨_, rfl⟩, hW, hsame.mono (by decide) (by decide)⟩
    · skip
      refine XS.ifNo X6.here hx rfl (hb hby d7_18) rfl ((if0 _ _).trans (feq hc8).1) ?_
      refine XS.iconst X6.here hx rfl (hb hby d7_21) ?_
      refine XS.goto X6.here hx rfl (pc0 := 22) (pc' := 26) rfl (hb hby d7_22) (by decide) (by decide) ?_
      show Steps p.tables e below (T6.setTop (mkF m 26 #[.val (.ref a1), .val (.int p1)] [(.int 1)])) _
      exact retI X6 hx Bd.returns (hb hby d7_26) hr
    · show Q_rm7 Z a1 p1 nn b0 b1 b2 b3 kk h0 n0 _ T6.heap _
      rw [e6]
      exact ⟨(by unfold own_good; rw [if_neg hc3, if_neg hc8]), N6, rfl⟩
theorem ef_rm5 (m : MethodId) (x0 : Addr) : entryFrame m #[(.ref x0)] 1 = mkF m 0 #[.val (.ref x0)] [] := by first | (simp [entryFrame, mkF, argsToLocals, Value.category]; done) | rfl
def Q_rm5 (Z : State) (a1 : Addr) (h0 : Heap) (n0 : Nat) (v : Option Value) (h : Heap) (L : List Loc) : Prop := v = none ∧ Fr n0 L ∧ h = h0
set_option maxRecDepth 65536 in
set_option maxHeartbeats 40000000 in
theorem rm5 (l : Launch) (Z : State) (a0 : Array Value) (hw : ∀ d ∈ own_tab, d.before a0 Z = true) (ws : List Jvm.Cond) (a1 : Addr) (h0 : Heap) (n0 : Nat) (Z0 : n0 ≤ h0.size)  :
    MetFree l (⟨"java/util/AbstractCollection", "<init>", "()V"⟩ : MethodName) (head1 (Jvm.Cond.code (⟨"java/util/AbstractCollection", "<init>", "()V"⟩ : MethodName) jdk_22_method_1_code 1 none :: ws) ({ frames := 1, cells := 0, slots := 0, locals := 12 } : Room)) (fun a U => a = #[(.ref a1)] ∧ Z.Warmed39 U.vm ∧ U.heap = h0) (fun _ _ _ _ _ => True) (fun _ U o U' => ∃ v L, o = .returned v ∧ Q_rm5 Z a1 h0 n0 v U'.heap L ∧ FrameEnd U o U' L ({ frames := 1, cells := 0, slots := 0, locals := 12 } : Room).cells ({ frames := 1, cells := 0, slots := 0, locals := 12 } : Room).slots) := by
  refine MetFree.of_bodySF (plainFor_of_name pn_1) hisR ?_
  intro p e s m args below meth c s₁ Bd hml0 hP hK
  obtain ⟨rfl, hZ, hh⟩ := hP
  have hx := Bd.exec
  have hby := Bd.bytes
  have hml : c.maxLocals = 1 := hml0
  have hown : s.vm.findClass "java/util/AbstractCollection" = some m.cls := findClass_of_methodNamed Bd.named
  have hnm := (name_of_methodNamed Bd.named Bd.method).1
  have X0 : Stand p l e ({ frames := 1, cells := 0, slots := 0, locals := 12 } : Room) s m #[(.ref a1)] below meth c s₁ [] 0 0 := Stand.of_body Bd
  have e0 : s₁.heap = h0 := by rw [← hh, Bd.state]; rfl
  have N0 := Fr.nil n0
  have KR : Keep h0 h0 [] := Keep.refl h0 _
  have pre0 : ∀ t, Steps p.tables e below (s₁.setTop (mkF m 0 #[.val (.ref a1)] [])) t → Steps p.tables e below (s₁.setTop (entryFrame m #[(.ref a1)] 1)) t := fun t k => castTop (ef_rm5 m (a1)) k
  obtain ⟨T1, X1, e1, st1⟩ := initO X0 hx hZ hown (kw34 hw) (kw35 hw) (kw36 hw) e0 (g := (mkF m 1 #[.val (.ref a1)] [(.ref a1)])) rfl (by rw [hml]; rfl) rfl (hb hby d5_1) (by decide) (W := 0) (by show 2 * 0 + _ ≤ _; exact Nat.le_of_eq rfl) (by decide)
  obtain ⟨fs, hr, hrun, hended, hW, hsame⟩ := X1.leave (v := none) (fun _ => rfl)
  refine ⟨_, _, pre0 _ ?_, hrun, hended, _, _, rfl, ?_, ⟨_, rfl⟩, hW, hsame.mono (by decide) (by decide)⟩
  · skip
    refine XS.aloadN X0.here hx rfl (hb hby d5_0) rfl rfl ?_
    refine st1 _ ?_
    show Steps p.tables e below (T1.setTop (mkF m 4 #[.val (.ref a1)] [])) _
    exact X1.returnOut hx Bd.returns (hb hby d5_4) hr
  · show Q_rm5 Z a1 h0 n0 _ T1.heap _
    rw [e1]
    exact ⟨rfl, N0, rfl⟩
theorem ef_rm4 (m : MethodId) (x0 : Addr) : entryFrame m #[(.ref x0)] 1 = mkF m 0 #[.val (.ref x0)] [] := by first | (simp [entryFrame, mkF, argsToLocals, Value.category]; done) | rfl
def Q_rm4 (Z : State) (a1 : Addr) (mc : Int32) (h0 : Heap) (n0 : Nat) (v : Option Value) (h : Heap) (L : List Loc) : Prop := v = none ∧ Fr n0 L ∧ Keep h0 h [a1] ∧ Fld Z h a1 "java/util/AbstractList" "modCount" "I" (.int 0) ∧ Fld Z h a1 "java/util/ArrayList" "elementData" "[Ljava/lang/Object;" .null ∧ Fld Z h a1 "java/util/ArrayList" "size" "I" (.int 0)
set_option maxRecDepth 65536 in
set_option maxHeartbeats 40000000 in
theorem rm4 (l : Launch) (Z : State) (a0 : Array Value) (hw : ∀ d ∈ own_tab, d.before a0 Z = true) (ws : List Jvm.Cond) (a1 : Addr) (mc : Int32) (h0 : Heap) (n0 : Nat) (Z0 : n0 ≤ h0.size) (P0 : Exa Z h0 a1 "java/util/ArrayList") (P1 : n0 ≤ a1) (P2 : Fld Z h0 a1 "java/util/AbstractList" "modCount" "I" (.int mc)) (P3 : Fld Z h0 a1 "java/util/ArrayList" "elementData" "[Ljava/lang/Object;" .null) (P4 : Fld Z h0 a1 "java/util/ArrayList" "size" "I" (.int 0)) :
    MetFree l (⟨"java/util/AbstractList", "<init>", "()V"⟩ : MethodName) (head1 (Jvm.Cond.code (⟨"java/util/AbstractList", "<init>", "()V"⟩ : MethodName) jdk_39_method_1_code 1 none :: ws) ({ frames := 2, cells := 0, slots := 0, locals := 24 } : Room)) (fun a U => a = #[(.ref a1)] ∧ Z.Warmed39 U.vm ∧ U.heap = h0) (fun _ _ _ _ _ => True) (fun _ U o U' => ∃ v L, o = .returned v ∧ Q_rm4 Z a1 mc h0 n0 v U'.heap L ∧ FrameEnd U o U' L ({ frames := 2, cells := 0, slots := 0, locals := 24 } : Room).cells ({ frames := 2, cells := 0, slots := 0, locals := 24 } : Room).slots) := by
  refine MetFree.of_bodySF (plainFor_of_name pn_2) hisR ?_
  intro p e s m args below meth c s₁ Bd hml0 hP hK
  obtain ⟨rfl, hZ, hh⟩ := hP
  have hx := Bd.exec
  have hby := Bd.bytes
  have hml : c.maxLocals = 1 := hml0
  have hown : s.vm.findClass "java/util/AbstractList" = some m.cls := findClass_of_methodNamed Bd.named
  have hnm := (name_of_methodNamed Bd.named Bd.method).1
  have X0 : Stand p l e ({ frames := 2, cells := 0, slots := 0, locals := 24 } : Room) s m #[(.ref a1)] below meth c s₁ [] 0 0 := Stand.of_body Bd
  have e0 : s₁.heap = h0 := by rw [← hh, Bd.state]; rfl
  have N0 := Fr.nil n0
  have KR : Keep h0 h0 [a1] := Keep.refl h0 _
  have pre0 : ∀ t, Steps p.tables e below (s₁.setTop (mkF m 0 #[.val (.ref a1)] [])) t → Steps p.tables e below (s₁.setTop (entryFrame m #[(.ref a1)] 1)) t := fun t k => castTop (ef_rm4 m (a1)) k
  obtain ⟨_, _, ⟨T1, L1, k1, n1⟩, -, X1, ⟨Lc1, hQ1, l1, y1, z1⟩, st1⟩ := X0.specialBack hx (y := (⟨"java/util/AbstractCollection", "<init>", "()V"⟩ : MethodName)) rfl hown (mvT hZ (kw28 hw)) (mvT hZ (kw29 hw)) (mvT hZ (kw33 hw)) (by decide) (backOf (W := 0) (rm5 l Z a0 hw [] a1 h0 n0 Z0 ) hZ (kw33 hw) (kw32 hw) (by decide) (by decide)) (g := (mkF m 1 #[.val (.ref a1)] [(.ref a1)])) rfl (by rw [hml]; rfl) (Steps.refl _) (a := a1) (argsL := []) (rest := []) (lenOf pd_4 rfl) rfl (by show 2 * 0 + _ ≤ _; exact Nat.le_of_eq rfl) (hb hby d4_1) (fun _ _ => ⟨rfl, e0, (by decide : 0 + 0 ≤ _), (by decide : 0 + 0 ≤ _)⟩)
  dsimp only [Pt.U, Pt.locs, Pt.cells, Pt.slots] at X1 l1 y1 z1 st1 hQ1
  subst l1 y1 z1
  obtain ⟨rfl, N1q, e1⟩ := hQ1
  have N1 := Fr.app N0 N1q
  obtain ⟨T2, h2, X2, e2, W2, st2⟩ := putF X1 hx hZ hown (host := "") (Or.inl (kw37 hw)) Via.refl e1 P2 P0 (Or.inl (kw38 hw)) (kw17 hw) (ty := .int) (by decide) rfl rfl (g := (mkF m 6 #[.val (.ref a1)] [(.int 0), (.ref a1)])) rfl rfl (hb hby d4_6)
  have Z2 : n0 ≤ h2.size := Nat.le_trans Z0 (Keep.of_wr W2).1
  have K2 : Keep h0 h2 [a1] := KR.wr W2 (Or.inl (List.mem_of_getElem? (i := 0) rfl))
  have N2 := Fr.snoc X2 N1 P1
  have Fw2 : Fld Z h2 a1 "java/util/AbstractList" "modCount" "I" (.int 0) := P2.same W2
  have f3 : Fld Z h2 a1 "java/util/ArrayList" "elementData" "[Ljava/lang/Object;" .null := (P3.other W2 (Or.inr (slot_ne (Or.inl (kw41 hw)) (Or.inl (kw38 hw)) (by decide) (t := (.array (.object "java/lang/Object"))) (t' := .int) (by decide) (by decide))))
  have f4 : Fld Z h2 a1 "java/util/ArrayList" "size" "I" (.int 0) := (P4.other W2 (Or.inr (slot_ne (Or.inl (kw59 hw)) (Or.inl (kw38 hw)) (by decide) (t := .int) (t' := .int) (by decide) (by decide))))
  obtain ⟨fs, hr, hrun, hended, hW, hsame⟩ := X2.leave (v := none) (fun _ => rfl)
  refine ⟨_, _, pre0 _ ?_, hrun, hended, _, _, rfl, ?_, ⟨_, rfl⟩, hW, hsame.mono (by decide) (by decide)⟩
  · skip
    refine XS.aloadN X0.here hx rfl (hb hby d4_0) rfl rfl ?_
    refine st1.trans ?_
    refine XS.aloadN X1.here hx rfl (hb hby d4_4) rfl rfl ?_
    refine XS.iconst X1.here hx rfl (hb hby d4_5) ?_
    refine st2 _ ?_
    show Steps p.tables e below (T2.setTop (mkF m 9 #[.val (.ref a1)] [])) _
    exact X2.returnOut hx Bd.returns (hb hby d4_9) hr
  · show Q_rm4 Z a1 mc h0 n0 _ T2.heap _
    rw [e2]
    exact ⟨rfl, N2, K2, Fw2, f3, f4⟩
theorem ef_rm3 (m : MethodId) (x0 : Addr) : entryFrame m #[(.ref x0)] 1 = mkF m 0 #[.val (.ref x0)] [] := by first | (simp [entryFrame, mkF, argsToLocals, Value.category]; done) | rfl
def Q_rm3 (Z : State) (a1 : Addr) (w_DEF : Addr) (h0 : Heap) (n0 : Nat) (v : Option Value) (h : Heap) (L : List Loc) : Prop := v = none ∧ Fr n0 L ∧ Keep h0 h [a1] ∧ Fld Z h a1 "java/util/ArrayList" "elementData" "[Ljava/lang/Object;" (.ref w_DEF) ∧ Fld Z h a1 "java/util/AbstractList" "modCount" "I" (.int 0) ∧ Fld Z h a1 "java/util/ArrayList" "size" "I" (.int 0)
set_option maxRecDepth 65536 in
set_option maxHeartbeats 40000000 in
theorem rm3 (l : Launch) (Z : State) (a0 : Array Value) (hw : ∀ d ∈ own_tab, d.before a0 Z = true) (ws : List Jvm.Cond) (a1 : Addr) (w_DEF : Addr) (h0 : Heap) (n0 : Nat) (Z0 : n0 ≤ h0.size) (P0 : Old Z n0 h0) (P1 : Sta Z Z.heap "java/util/ArrayList" "DEFAULTCAPACITY_EMPTY_ELEMENTDATA" "[Ljava/lang/Object;" (.ref w_DEF)) (P2 : Exa Z h0 a1 "java/util/ArrayList") (P3 : n0 ≤ a1) (P4 : Fld Z h0 a1 "java/util/AbstractList" "modCount" "I" (.int 0)) (P5 : Fld Z h0 a1 "java/util/ArrayList" "elementData" "[Ljava/lang/Object;" .null) (P6 : Fld Z h0 a1 "java/util/ArrayList" "size" "I" (.int 0)) :
    MetFree l (⟨"java/util/ArrayList", "<init>", "()V"⟩ : MethodName) (head1 (Jvm.Cond.code (⟨"java/util/ArrayList", "<init>", "()V"⟩ : MethodName) jdk_38_method_2_code 1 none :: ws) ({ frames := 3, cells := 0, slots := 0, locals := 36 } : Room)) (fun a U => a = #[(.ref a1)] ∧ Z.Warmed39 U.vm ∧ U.heap = h0) (fun _ _ _ _ _ => True) (fun _ U o U' => ∃ v L, o = .returned v ∧ Q_rm3 Z a1 w_DEF h0 n0 v U'.heap L ∧ FrameEnd U o U' L ({ frames := 3, cells := 0, slots := 0, locals := 36 } : Room).cells ({ frames := 3, cells := 0, slots := 0, locals := 36 } : Room).slots) := by
  refine MetFree.of_bodySF (plainFor_of_name pn_3) hisR ?_
  intro p e s m args below meth c s₁ Bd hml0 hP hK
  obtain ⟨rfl, hZ, hh⟩ := hP
  have hx := Bd.exec
  have hby := Bd.bytes
  have hml : c.maxLocals = 1 := hml0
  have hown : s.vm.findClass "java/util/ArrayList" = some m.cls := findClass_of_methodNamed Bd.named
  have hnm := (name_of_methodNamed Bd.named Bd.method).1
  have X0 : Stand p l e ({ frames := 3, cells := 0, slots := 0, locals := 36 } : Room) s m #[(.ref a1)] below meth c s₁ [] 0 0 := Stand.of_body Bd
  have e0 : s₁.heap = h0 := by rw [← hh, Bd.state]; rfl
  have N0 := Fr.nil n0
  have KR : Keep h0 h0 [a1] := Keep.refl h0 _
  have pre0 : ∀ t, Steps p.tables e below (s₁.setTop (mkF m 0 #[.val (.ref a1)] [])) t → Steps p.tables e below (s₁.setTop (entryFrame m #[(.ref a1)] 1)) t := fun t k => castTop (ef_rm3 m (a1)) k
  obtain ⟨_, _, ⟨T1, L1, k1, n1⟩, -, X1, ⟨Lc1, hQ1, l1, y1, z1⟩, st1⟩ := X0.specialBack hx (y := (⟨"java/util/AbstractList", "<init>", "()V"⟩ : MethodName)) rfl hown (mvT hZ (kw22 hw)) (mvT hZ (kw23 hw)) (mvT hZ (kw27 hw)) (by decide) (backOf (W := 0) (rm4 l Z a0 hw [] a1 (0 : Int32) h0 n0 Z0 P2 P3 P4 P5 P6) hZ (kw27 hw) (kw26 hw) (by decide) (by decide)) (g := (mkF m 1 #[.val (.ref a1)] [(.ref a1)])) rfl (by rw [hml]; rfl) (Steps.refl _) (a := a1) (argsL := []) (rest := []) (lenOf pd_4 rfl) rfl (by show 2 * 0 + _ ≤ _; exact Nat.le_of_eq rfl) (hb hby d3_1) (fun _ _ => ⟨rfl, e0, (by decide : 0 + 0 ≤ _), (by decide : 0 + 0 ≤ _)⟩)
  dsimp only [Pt.U, Pt.locs, Pt.cells, Pt.slots] at X1 l1 y1 z1 st1 hQ1
  subst l1 y1 z1
  obtain ⟨rfl, N1q, Kq1, p1_0, p1_1, p1_2⟩ := hQ1
  have N1 := Fr.app N0 N1q
  have Z1 : n0 ≤ T1.heap.size := Nat.le_trans Z0 Kq1.1
  have K1 : Keep h0 T1.heap [a1] := KR.trans Kq1 (allS (Or.inl (List.mem_of_getElem? (i := 0) rfl)) all0)
  have f3 : Old Z n0 T1.heap := (P0.keep Kq1 (allS P3 all0))
  obtain ⟨T2, X2, e2, st2⟩ := getS2 X1 hx hZ hown (host := "") (Or.inl (kw39 hw)) Via.refl rfl (Sta.ext f3.2 P1) (g := (mkF m 5 #[.val (.ref a1)] [(.ref a1)])) rfl (hb hby d3_5)
  have f4 : Exa Z T1.heap a1 "java/util/ArrayList" := (P2.keep Kq1)
  obtain ⟨T5, h5, X5, e5, W5, st5⟩ := putF X2 hx hZ hown (host := "") (Or.inl (kw40 hw)) Via.refl e2 p1_1 f4 (Or.inl (kw41 hw)) (kw17 hw) (ty := (.array (.object "java/lang/Object"))) (by decide) rfl rfl (g := (mkF m 8 #[.val (.ref a1)] [(.ref w_DEF), (.ref a1)])) rfl rfl (hb hby d3_8)
  have Z5 : n0 ≤ h5.size := Nat.le_trans Z1 (Keep.of_wr W5).1
  have K5 : Keep h0 h5 [a1] := K1.wr W5 (Or.inl (List.mem_of_getElem? (i := 0) rfl))
  have N5 := Fr.snoc X5 N1 P3
  have Fw5 : Fld Z h5 a1 "java/util/ArrayList" "elementData" "[Ljava/lang/Object;" (.ref w_DEF) := p1_1.same W5
  have f6 : Fld Z h5 a1 "java/util/AbstractList" "modCount" "I" (.int 0) := (p1_0.other W5 (Or.inr (slot_ne (Or.inl (kw38 hw)) (Or.inl (kw41 hw)) (by decide) (t := .int) (t' := (.array (.object "java/lang/Object"))) (by decide) (by decide))))
  have f7 : Fld Z h5 a1 "java/util/ArrayList" "size" "I" (.int 0) := (p1_2.other W5 (Or.inr (slot_ne (Or.inl (kw59 hw)) (Or.inl (kw41 hw)) (by decide) (t := .int) (t' := (.array (.object "java/lang/Object"))) (by decide) (by decide))))
  obtain ⟨fs, hr, hrun, hended, hW, hsame⟩ := X5.leave (v := none) (fun _ => rfl)
  refine ⟨_, _, pre0 _ ?_, hrun, hended, _, _, rfl, ?_, ⟨_, rfl⟩, hW, hsame.mono (by decide) (by decide)⟩
  · skip
    refine XS.aloadN X0.here hx rfl (hb hby d3_0) rfl rfl ?_
    refine st1.trans ?_
    refine XS.aloadN X1.here hx rfl (hb hby d3_4) rfl rfl ?_
    refine st2 _ ?_
    refine st5 _ ?_
    show Steps p.tables e below (T5.setTop (mkF m 11 #[.val (.ref a1)] [])) _
    exact X5.returnOut hx Bd.returns (hb hby d3_11) hr
  · show Q_rm3 Z a1 w_DEF h0 n0 _ T5.heap _
    rw [e5]
    exact ⟨rfl, N5, K5, Fw5, f6, f7⟩
theorem ef_rm14 (m : MethodId) (x0 : Addr) : entryFrame m #[(.ref x0)] 1 = mkF m 0 #[.val (.ref x0)] [] := by first | (simp [entryFrame, mkF, argsToLocals, Value.category]; done) | rfl
def Q_rm14 (Z : State) (a1 : Addr) (h0 : Heap) (n0 : Nat) (v : Option Value) (h : Heap) (L : List Loc) : Prop := v = none ∧ Fr n0 L ∧ h = h0
set_option maxRecDepth 65536 in
set_option maxHeartbeats 40000000 in
theorem rm14 (l : Launch) (Z : State) (a0 : Array Value) (hw : ∀ d ∈ own_tab, d.before a0 Z = true) (ws : List Jvm.Cond) (a1 : Addr) (h0 : Heap) (n0 : Nat) (Z0 : n0 ≤ h0.size)  :
    MetFree l (⟨"java/lang/Record", "<init>", "()V"⟩ : MethodName) (head1 (Jvm.Cond.code (⟨"java/lang/Record", "<init>", "()V"⟩ : MethodName) jdk_30_method_1_code 1 none :: ws) ({ frames := 1, cells := 0, slots := 0, locals := 12 } : Room)) (fun a U => a = #[(.ref a1)] ∧ Z.Warmed39 U.vm ∧ U.heap = h0) (fun _ _ _ _ _ => True) (fun _ U o U' => ∃ v L, o = .returned v ∧ Q_rm14 Z a1 h0 n0 v U'.heap L ∧ FrameEnd U o U' L ({ frames := 1, cells := 0, slots := 0, locals := 12 } : Room).cells ({ frames := 1, cells := 0, slots := 0, locals := 12 } : Room).slots) := by
  refine MetFree.of_bodySF (plainFor_of_name pn_4) hisR ?_
  intro p e s m args below meth c s₁ Bd hml0 hP hK
  obtain ⟨rfl, hZ, hh⟩ := hP
  have hx := Bd.exec
  have hby := Bd.bytes
  have hml : c.maxLocals = 1 := hml0
  have hown : s.vm.findClass "java/lang/Record" = some m.cls := findClass_of_methodNamed Bd.named
  have hnm := (name_of_methodNamed Bd.named Bd.method).1
  have X0 : Stand p l e ({ frames := 1, cells := 0, slots := 0, locals := 12 } : Room) s m #[(.ref a1)] below meth c s₁ [] 0 0 := Stand.of_body Bd
  have e0 : s₁.heap = h0 := by rw [← hh, Bd.state]; rfl
  have N0 := Fr.nil n0
  have KR : Keep h0 h0 [] := Keep.refl h0 _
  have pre0 : ∀ t, Steps p.tables e below (s₁.setTop (mkF m 0 #[.val (.ref a1)] [])) t → Steps p.tables e below (s₁.setTop (entryFrame m #[(.ref a1)] 1)) t := fun t k => castTop (ef_rm14 m (a1)) k
  obtain ⟨T1, X1, e1, st1⟩ := initO X0 hx hZ hown (kw80 hw) (kw35 hw) (kw36 hw) e0 (g := (mkF m 1 #[.val (.ref a1)] [(.ref a1)])) rfl (by rw [hml]; rfl) rfl (hb hby d14_1) (by decide) (W := 0) (by show 2 * 0 + _ ≤ _; exact Nat.le_of_eq rfl) (by decide)
  obtain ⟨fs, hr, hrun, hended, hW, hsame⟩ := X1.leave (v := none) (fun _ => rfl)
  refine ⟨_, _, pre0 _ ?_, hrun, hended, _, _, rfl, ?_, ⟨_, rfl⟩, hW, hsame.mono (by decide) (by decide)⟩
  · skip
    refine XS.aloadN X0.here hx rfl (hb hby d14_0) rfl rfl ?_
    refine st1 _ ?_
    show Steps p.tables e below (T1.setTop (mkF m 4 #[.val (.ref a1)] [])) _
    exact X1.returnOut hx Bd.returns (hb hby d14_4) hr
  · show Q_rm14 Z a1 h0 n0 _ T1.heap _
    rw [e1]
    exact ⟨rfl, N0, rfl⟩
theorem ef_rm13 (m : MethodId) (x0 : Addr) (x1 : Int32) (x2 : Int32) (x3 : Int32) : entryFrame m #[(.ref x0), (.int x1), (.int x2), (.int x3)] 4 = mkF m 0 #[.val (.ref x0), .val (.int x1), .val (.int x2), .val (.int x3)] [] := by first | (simp [entryFrame, mkF, argsToLocals, Value.category]; done) | rfl
def Q_rm13 (Z : State) (a1 : Addr) (p1 : Int32) (p2 : Int32) (p3 : Int32) (h0 : Heap) (n0 : Nat) (v : Option Value) (h : Heap) (L : List Loc) : Prop := v = none ∧ Fr n0 L ∧ Keep h0 h [a1] ∧ Fld Z h a1 "com/example/rank_keeper/rankkeeper/BodyLines$Line" "number" "I" (.int p1) ∧ Fld Z h a1 "com/example/rank_keeper/rankkeeper/BodyLines$Line" "offset" "I" (.int p2) ∧ Fld Z h a1 "com/example/rank_keeper/rankkeeper/BodyLines$Line" "length" "I" (.int p3)
set_option maxRecDepth 65536 in
set_option maxHeartbeats 40000000 in
theorem rm13 (l : Launch) (Z : State) (a0 : Array Value) (hw : ∀ d ∈ own_tab, d.before a0 Z = true) (ws : List Jvm.Cond) (a1 : Addr) (p1 : Int32) (p2 : Int32) (p3 : Int32) (h0 : Heap) (n0 : Nat) (Z0 : n0 ≤ h0.size) (P0 : Exa Z h0 a1 "com/example/rank_keeper/rankkeeper/BodyLines$Line") (P1 : n0 ≤ a1) (P2 : Fld Z h0 a1 "com/example/rank_keeper/rankkeeper/BodyLines$Line" "number" "I" (.int 0)) (P3 : Fld Z h0 a1 "com/example/rank_keeper/rankkeeper/BodyLines$Line" "offset" "I" (.int 0)) (P4 : Fld Z h0 a1 "com/example/rank_keeper/rankkeeper/BodyLines$Line" "length" "I" (.int 0)) :
    MetFree l (⟨"com/example/rank_keeper/rankkeeper/BodyLines$Line", "<init>", "(III)V"⟩ : MethodName) (head1 (Jvm.Cond.code (⟨"com/example/rank_keeper/rankkeeper/BodyLines$Line", "<init>", "(III)V"⟩ : MethodName) prog_3_method_1_code 4 none :: ws) ({ frames := 2, cells := 0, slots := 0, locals := 24 } : Room)) (fun a U => a = #[(.ref a1), (.int p1), (.int p2), (.int p3)] ∧ Z.Warmed39 U.vm ∧ U.heap = h0) (fun _ _ _ _ _ => True) (fun _ U o U' => ∃ v L, o = .returned v ∧ Q_rm13 Z a1 p1 p2 p3 h0 n0 v U'.heap L ∧ FrameEnd U o U' L ({ frames := 2, cells := 0, slots := 0, locals := 24 } : Room).cells ({ frames := 2, cells := 0, slots := 0, locals := 24 } : Room).slots) := by
  refine MetFree.of_bodySF (plainFor_of_name pn_5) hisR ?_
  intro p e s m args below meth c s₁ Bd hml0 hP hK
  obtain ⟨rfl, hZ, hh⟩ := hP
  have hx := Bd.exec
  have hby := Bd.bytes
  have hml : c.maxLocals = 4 := hml0
  have hown : s.vm.findClass "com/example/rank_keeper/rankkeeper/BodyLines$Line" = some m.cls := findClass_of_methodNamed Bd.named
  have hnm := (name_of_methodNamed Bd.named Bd.method).1
  have X0 : Stand p l e ({ frames := 2, cells := 0, slots := 0, locals := 24 } : Room) s m #[(.ref a1), (.int p1), (.int p2), (.int p3)] below meth c s₁ [] 0 0 := Stand.of_body Bd
  have e0 : s₁.heap = h0 := by rw [← hh, Bd.state]; rfl
  have N0 := Fr.nil n0
  have KR : Keep h0 h0 [a1] := Keep.refl h0 _
  have pre0 : ∀ t, Steps p.tables e below (s₁.setTop (mkF m 0 #[.val (.ref a1), .val (.int p1), .val (.int p2), .val (.int p3)] [])) t → Steps p.tables e below (s₁.setTop (entryFrame m #[(.ref a1), (.int p1), (.int p2), (.int p3)] 4)) t := fun t k => castTop (ef_rm13 m (a1) (p1) (p2) (p3)) k
  obtain ⟨_, _, ⟨T1, L1, k1, n1⟩, -, X1, ⟨Lc1, hQ1, l1, y1, z1⟩, st1⟩ := X0.specialBack hx (y := (⟨"java/lang/Record", "<init>", "()V"⟩ : MethodName)) rfl hown (mvT hZ (kw75 hw)) (mvT hZ (kw76 hw)) (mvT hZ (kw79 hw)) (by decide) (backOf (W := 0) (rm14 l Z a0 hw [] a1 h0 n0 Z0 ) hZ (kw79 hw) (kw78 hw) (by decide) (by decide)) (g := (mkF m 1 #[.val (.ref a1), .val (.int p1), .val (.int p2), .val (.int p3)] [(.ref a1)])) rfl (by rw [hml]; rfl) (Steps.refl _) (a := a1) (argsL := []) (rest := []) (lenOf pd_4 rfl) rfl (by show 2 * 0 + _ ≤ _; exact Nat.le_of_eq rfl) (hb hby d13_1) (fun _ _ => ⟨rfl, e0, (by decide : 0 + 0 ≤ _), (by decide : 0 + 0 ≤ _)⟩)
  dsimp only [Pt.U, Pt.locs, Pt.cells, Pt.slots] at X1 l1 y1 z1 st1 hQ1
  subst l1 y1 z1
  obtain ⟨rfl, N1q, e1⟩ := hQ1
  have N1 := Fr.app N0 N1q
  obtain ⟨T2, h2, X2, e2, W2, st2⟩ := putF X1 hx hZ hown (host := "") (Or.inl (kw81 hw)) Via.refl e1 P2 P0 (Or.inr ⟨(kw82 hw), rfl, hnm⟩) (kw70 hw) (ty := .int) (by decide) rfl rfl (g := (mkF m 6 #[.val (.ref a1), .val (.int p1), .val (.int p2), .val (.int p3)] [(.int p1), (.ref a1)])) rfl rfl (hb hby d13_6)
  have Z2 : n0 ≤ h2.size := Nat.le_trans Z0 (Keep.of_wr W2).1
  have K2 : Keep h0 h2 [a1] := KR.wr W2 (Or.inl (List.mem_of_getElem? (i := 0) rfl))
  have N2 := Fr.snoc X2 N1 P1
  have Fw2 : Fld Z h2 a1 "com/example/rank_keeper/rankkeeper/BodyLines$Line" "number" "I" (.int p1) := P2.same W2
  have f3 : Exa Z h2 a1 "com/example/rank_keeper/rankkeeper/BodyLines$Line" := (P0.wr W2)
  have f4 : Fld Z h2 a1 "com/example/rank_keeper/rankkeeper/BodyLines$Line" "offset" "I" (.int 0) := (P3.other W2 (Or.inr (slot_ne (Or.inr (kw84 hw)) (Or.inr (kw82 hw)) (by decide) (t := .int) (t' := .int) (by decide) (by decide))))
  obtain ⟨T5, h5, X5, e5, W5, st5⟩ := putF X2 hx hZ hown (host := "") (Or.inl (kw83 hw)) Via.refl e2 f4 f3 (Or.inr ⟨(kw84 hw), rfl, hnm⟩) (kw70 hw) (ty := .int) (by decide) rfl rfl (g := (mkF m 11 #[.val (.ref a1), .val (.int p1), .val (.int p2), .val (.int p3)] [(.int p2), (.ref a1)])) rfl rfl (hb hby d13_11)
  have Z5 : n0 ≤ h5.size := Nat.le_trans Z2 (Keep.of_wr W5).1
  have K5 : Keep h0 h5 [a1] := K2.wr W5 (Or.inl (List.mem_of_getElem? (i := 0) rfl))
  have N5 := Fr.snoc X5 N2 P1
  have Fw5 : Fld Z h5 a1 "com/example/rank_keeper/rankkeeper/BodyLines$Line" "offset" "I" (.int p2) := f4.same W5
  have f6 : Exa Z h5 a1 "com/example/rank_keeper/rankkeeper/BodyLines$Line" := (f3.wr W5)
  have f7 : Fld Z h5 a1 "com/example/rank_keeper/rankkeeper/BodyLines$Line" "length" "I" (.int 0) := ((P4.other W2 (Or.inr (slot_ne (Or.inr (kw86 hw)) (Or.inr (kw82 hw)) (by decide) (t := .int) (t' := .int) (by decide) (by decide)))).other W5 (Or.inr (slot_ne (Or.inr (kw86 hw)) (Or.inr (kw84 hw)) (by decide) (t := .int) (t' := .int) (by decide) (by decide))))
  obtain ⟨T8, h8, X8, e8, W8, st8⟩ := putF X5 hx hZ hown (host := "") (Or.inl (kw85 hw)) Via.refl e5 f7 f6 (Or.inr ⟨(kw86 hw), rfl, hnm⟩) (kw70 hw) (ty := .int) (by decide) rfl rfl (g := (mkF m 16 #[.val (.ref a1), .val (.int p1), .val (.int p2), .val (.int p3)] [(.int p3), (.ref a1)])) rfl rfl (hb hby d13_16)
  have Z8 : n0 ≤ h8.size := Nat.le_trans Z5 (Keep.of_wr W8).1
  have K8 : Keep h0 h8 [a1] := K5.wr W8 (Or.inl (List.mem_of_getElem? (i := 0) rfl))
  have N8 := Fr.snoc X8 N5 P1
  have Fw8 : Fld Z h8 a1 "com/example/rank_keeper/rankkeeper/BodyLines$Line" "length" "I" (.int p3) := f7.same W8
  have f9 : Fld Z h8 a1 "com/example/rank_keeper/rankkeeper/BodyLines$Line" "number" "I" (.int p1) := ((Fw2.other W5 (Or.inr (slot_ne (Or.inr (kw82 hw)) (Or.inr (kw84 hw)) (by decide) (t := .int) (t' := .int) (by decide) (by decide)))).other W8 (Or.inr (slot_ne (Or.inr (kw82 hw)) (Or.inr (kw86 hw)) (by decide) (t := .int) (t' := .int) (by decide) (by decide))))
  have f10 : Fld Z h8 a1 "com/example/rank_keeper/rankkeeper/BodyLines$Line" "offset" "I" (.int p2) := (Fw5.other W8 (Or.inr (slot_ne (Or.inr (kw84 hw)) (Or.inr (kw86 hw)) (by decide) (t := .int) (t' := .int) (by decide) (by decide))))
  obtain ⟨fs, hr, hrun, hended, hW, hsame⟩ := X8.leave (v := none) (fun _ => rfl)
  refine ⟨_, _, pre0 _ ?_, hrun, hended, _, _, rfl, ?_, ⟨_, rfl⟩, hW, hsame.mono (by decide) (by decide)⟩
  · skip
    refine XS.aloadN X0.here hx rfl (hb hby d13_0) rfl rfl ?_
    refine st1.trans ?_
    refine XS.aloadN X1.here hx rfl (hb hby d13_4) rfl rfl ?_
    refine XS.iloadN X1.here hx rfl (hb hby d13_5) rfl ?_
    refine st2 _ ?_
    refine XS.aloadN X2.here hx rfl (hb hby d13_9) rfl rfl ?_
    refine XS.iloadN X2.here hx rfl (hb hby d13_10) rfl ?_
    refine st5 _ ?_
    refine XS.aloadN X5.here hx rfl (hb hby d13_14) rfl rfl ?_
    refine XS.iloadN X5.here hx rfl (hb hby d13_15) rfl ?_
    refine st8 _ ?_
    show Steps p.tables e below (T8.setTop (mkF m 19 #[.val (.ref a1), .val (.int p1), .val (.int p2), .val (.int p3)] [])) _
    exact X8.returnOut hx Bd.returns (hb hby d13_19) hr
  · show Q_rm13 Z a1 p1 p2 p3 h0 n0 _ T8.heap _
    rw [e8]
    exact ⟨rfl, N8, K8, f9, f10, Fw8⟩
theorem ef_rm30 (m : MethodId) (x0 : Addr) : entryFrame m #[(.ref x0)] 1 = mkF m 0 #[.val (.ref x0)] [] := by first | (simp [entryFrame, mkF, argsToLocals, Value.category]; done) | rfl
def Q_rm30 (Z : State) (a1 : Addr) (v1 : Int32) (h0 : Heap) (n0 : Nat) (v : Option Value) (h : Heap) (L : List Loc) : Prop := v = some (.int v1) ∧ Fr n0 L ∧ h = h0
set_option maxRecDepth 65536 in
set_option maxHeartbeats 40000000 in
theorem rm30 (l : Launch) (Z : State) (a0 : Array Value) (hw : ∀ d ∈ own_tab, d.before a0 Z = true) (ws : List Jvm.Cond) (a1 : Addr) (v1 : Int32) (h0 : Heap) (n0 : Nat) (Z0 : n0 ≤ h0.size) (P0 : Fld Z h0 a1 "com/example/rank_keeper/rankkeeper/BodyLines$Line" "number" "I" (.int v1)) :
    MetFree l (⟨"com/example/rank_keeper/rankkeeper/BodyLines$Line", "number", "()I"⟩ : MethodName) (head1 (Jvm.Cond.code (⟨"com/example/rank_keeper/rankkeeper/BodyLines$Line", "number", "()I"⟩ : MethodName) prog_3_method_5_code 1 (some .int) :: ws) ({ frames := 0, cells := 0, slots := 0, locals := 0 } : Room)) (fun a U => a = #[(.ref a1)] ∧ Z.Warmed39 U.vm ∧ U.heap = h0) (fun _ _ _ _ _ => True) (fun _ U o U' => ∃ v L, o = .returned v ∧ Q_rm30 Z a1 v1 h0 n0 v U'.heap L ∧ FrameEnd U o U' L ({ frames := 0, cells := 0, slots := 0, locals := 0 } : Room).cells ({ frames := 0, cells := 0, slots := 0, locals := 0 } : Room).slots) := by
  refine MetFree.of_bodySF (plainFor_of_name pn_5) hisR ?_
  intro p e s m args below meth c s₁ Bd hml0 hP hK
  obtain ⟨rfl, hZ, hh⟩ := hP
  have hx := Bd.exec
  have hby := Bd.bytes
  have hml : c.maxLocals = 1 := hml0
  have hown : s.vm.findClass "com/example/rank_keeper/rankkeeper/BodyLines$Line" = some m.cls := findClass_of_methodNamed Bd.named
  have hnm := (name_of_methodNamed Bd.named Bd.method).1
  have X0 : Stand p l e ({ frames := 0, cells := 0, slots := 0, locals := 0 } : Room) s m #[(.ref a1)] below meth c s₁ [] 0 0 := Stand.of_body Bd
  have e0 : s₁.heap = h0 := by rw [← hh, Bd.state]; rfl
  have N0 := Fr.nil n0
  have KR : Keep h0 h0 [] := Keep.refl h0 _
  have pre0 : ∀ t, Steps p.tables e below (s₁.setTop (mkF m 0 #[.val (.ref a1)] [])) t → Steps p.tables e below (s₁.setTop (entryFrame m #[(.ref a1)] 1)) t := fun t k => castTop (ef_rm30 m (a1)) k
  obtain ⟨T1, X1, e1, st1⟩ := getF X0 hx hZ hown (host := "") (Or.inl (kw81 hw)) Via.refl e0 P0 (g := (mkF m 1 #[.val (.ref a1)] [(.ref a1)])) rfl rfl (hb hby d30_1)
  obtain ⟨fs, hr, hrun, hended, hW, hsame⟩ := X1.leave (v := some (.int v1)) (fun h => by rw [Bd.returns] at h; cases h)
  refine ⟨_, _, pre0 _ ?_, hrun, hended, _, _, rfl, ?_, ⟨_, rfl⟩, hW, hsame.mono (by decide) (by decide)⟩
  · skip
    refine XS.aloadN X0.here hx rfl (hb hby d30_0) rfl rfl ?_
    refine st1 _ ?_
    show Steps p.tables e below (T1.setTop (mkF m 4 #[.val (.ref a1)] [(.int v1)])) _
    exact retI X1 hx Bd.returns (hb hby d30_4) hr
  · show Q_rm30 Z a1 v1 h0 n0 _ T1.heap _
    rw [e1]
    exact ⟨rfl, N0, rfl⟩
theorem ef_rm28 (m : MethodId) (x0 : Addr) : entryFrame m #[(.ref x0)] 1 = mkF m 0 #[.val (.ref x0)] [] := by first | (simp [entryFrame, mkF, argsToLocals, Value.category]; done) | rfl
def Q_rm28 (Z : State) (a1 : Addr) (v1 : Int32) (h0 : Heap) (n0 : Nat) (v : Option Value) (h : Heap) (L : List Loc) : Prop := v = some (.int v1) ∧ Fr n0 L ∧ h = h0
set_option maxRecDepth 65536 in
set_option maxHeartbeats 40000000 in
theorem rm28 (l : Launch) (Z : State) (a0 : Array Value) (hw : ∀ d ∈ own_tab, d.before a0 Z = true) (ws : List Jvm.Cond) (a1 : Addr) (v1 : Int32) (h0 : Heap) (n0 : Nat) (Z0 : n0 ≤ h0.size) (P0 : Fld Z h0 a1 "com/example/rank_keeper/rankkeeper/BodyLines$Line" "offset" "I" (.int v1)) :
    MetFree l (⟨"com/example/rank_keeper/rankkeeper/BodyLines$Line", "offset", "()I"⟩ : MethodName) (head1 (Jvm.Cond.code (⟨"com/example/rank_keeper/rankkeeper/BodyLines$Line", "offset", "()I"⟩ : MethodName) prog_3_method_6_code 1 (some .int) :: ws) ({ frames := 0, cells := 0, slots := 0, locals := 0 } : Room)) (fun a U => a = #[(.ref a1)] ∧ Z.Warmed39 U.vm ∧ U.heap = h0) (fun _ _ _ _ _ => True) (fun _ U o U' => ∃ v L, o = .returned v ∧ Q_rm28 Z a1 v1 h0 n0 v U'.heap L ∧ FrameEnd U o U' L ({ frames := 0, cells := 0, slots := 0, locals := 0 } : Room).cells ({ frames := 0, cells := 0, slots := 0, locals := 0 } : Room).slots) := by
  refine MetFree.of_bodySF (plainFor_of_name pn_5) hisR ?_
  intro p e s m args below meth c s₁ Bd hml0 hP hK
  obtain ⟨rfl, hZ, hh⟩ := hP
  have hx := Bd.exec
  have hby := Bd.bytes
  have hml : c.maxLocals = 1 := hml0
  have hown : s.vm.findClass "com/example/rank_keeper/rankkeeper/BodyLines$Line" = some m.cls := findClass_of_methodNamed Bd.named
  have hnm := (name_of_methodNamed Bd.named Bd.method).1
  have X0 : Stand p l e ({ frames := 0, cells := 0, slots := 0, locals := 0 } : Room) s m #[(.ref a1)] below meth c s₁ [] 0 0 := Stand.of_body Bd
  have e0 : s₁.heap = h0 := by rw [← hh, Bd.state]; rfl
  have N0 := Fr.nil n0
  have KR : Keep h0 h0 [] := Keep.refl h0 _
  have pre0 : ∀ t, Steps p.tables e below (s₁.setTop (mkF m 0 #[.val (.ref a1)] [])) t → Steps p.tables e below (s₁.setTop (entryFrame m #[(.ref a1)] 1)) t := fun t k => castTop (ef_rm28 m (a1)) k
  obtain ⟨T1, X1, e1, st1⟩ := getF X0 hx hZ hown (host := "") (Or.inl (kw83 hw)) Via.refl e0 P0 (g := (mkF m 1 #[.val (.ref a1)] [(.ref a1)])) rfl rfl (hb hby d28_1)
  obtain ⟨fs, hr, hrun, hended, hW, hsame⟩ := X1.leave (v := some (.int v1)) (fun h => by rw [Bd.returns] at h; cases h)
  refine ⟨_, _, pre0 _ ?_, hrun, hended, _, _, rfl, ?_, ⟨_, rfl⟩, hW, hsame.mono (by decide) (by decide)⟩
  · skip
    refine XS.aloadN X0.here hx rfl (hb hby d28_0) rfl rfl ?_
    refine st1 _ ?_
    show Steps p.tables e below (T1.setTop (mkF m 4 #[.val (.ref a1)] [(.int v1)])) _
    exact retI X1 hx Bd.returns (hb hby d28_4) hr
  · show Q_rm28 Z a1 v1 h0 n0 _ T1.heap _
    rw [e1]
    exact ⟨rfl, N0, rfl⟩
theorem ef_rm29 (m : MethodId) (x0 : Addr) : entryFrame m #[(.ref x0)] 1 = mkF m 0 #[.val (.ref x0)] [] := by first | (simp [entryFrame, mkF, argsToLocals, Value.category]; done) | rfl
def Q_rm29 (Z : State) (a1 : Addr) (v1 : Int32) (h0 : Heap) (n0 : Nat) (v : Option Value) (h : Heap) (L : List Loc) : Prop := v = some (.int v1) ∧ Fr n0 L ∧ h = h0
set_option maxRecDepth 65536 in
set_option maxHeartbeats 40000000 in
theorem rm29 (l : Launch) (Z : State) (a0 : Array Value) (hw : ∀ d ∈ own_tab, d.before a0 Z = true) (ws : List Jvm.Cond) (a1 : Addr) (v1 : Int32) (h0 : Heap) (n0 : Nat) (Z0 : n0 ≤ h0.size) (P0 : Fld Z h0 a1 "com/example/rank_keeper/rankkeeper/BodyLines$Line" "length" "I" (.int v1)) :
    MetFree l (⟨"com/example/rank_keeper/rankkeeper/BodyLines$Line", "length", "()I"⟩ : MethodName) (head1 (Jvm.Cond.code (⟨"com/example/rank_keeper/rankkeeper/BodyLines$Line", "length", "()I"⟩ : MethodName) prog_3_method_7_code 1 (some .int) :: ws) ({ frames := 0, cells := 0, slots := 0, locals := 0 } : Room)) (fun a U => a = #[(.ref a1)] ∧ Z.Warmed39 U.vm ∧ U.heap = h0) (fun _ _ _ _ _ => True) (fun _ U o U' => ∃ v L, o = .returned v ∧ Q_rm29 Z a1 v1 h0 n0 v U'.heap L ∧ FrameEnd U o U' L ({ frames := 0, cells := 0, slots := 0, locals := 0 } : Room).cells ({ frames := 0, cells := 0, slots := 0, locals := 0 } : Room).slots) := by
  refine MetFree.of_bodySF (plainFor_of_name pn_5) hisR ?_
  intro p e s m args below meth c s₁ Bd hml0 hP hK
  obtain ⟨rfl, hZ, hh⟩ := hP
  have hx := Bd.exec
  have hby := Bd.bytes
  have hml : c.maxLocals = 1 := hml0
  have hown : s.vm.findClass "com/example/rank_keeper/rankkeeper/BodyLines$Line" = some m.cls := findClass_of_methodNamed Bd.named
  have hnm := (name_of_methodNamed Bd.named Bd.method).1
  have X0 : Stand p l e ({ frames := 0, cells := 0, slots := 0, locals := 0 } : Room) s m #[(.ref a1)] below meth c s₁ [] 0 0 := Stand.of_body Bd
  have e0 : s₁.heap = h0 := by rw [← hh, Bd.state]; rfl
  have N0 := Fr.nil n0
  have KR : Keep h0 h0 [] := Keep.refl h0 _
  have pre0 : ∀ t, Steps p.tables e below (s₁.setTop (mkF m 0 #[.val (.ref a1)] [])) t → Steps p.tables e below (s₁.setTop (entryFrame m #[(.ref a1)] 1)) t := fun t k => castTop (ef_rm29 m (a1)) k
  obtain ⟨T1, X1, e1, st1⟩ := getF X0 hx hZ hown (host := "") (Or.inl (kw85 hw)) Via.refl e0 P0 (g := (mkF m 1 #[.val (.ref a1)] [(.ref a1)])) rfl rfl (hb hby d29_1)
  obtain ⟨fs, hr, hrun, hended, hW, hsame⟩ := X1.leave (v := some (.int v1)) (fun h => by rw [Bd.returns] at h; cases h)
  refine ⟨_, _, pre0 _ ?_, hrun, hended, _, _, rfl, ?_, ⟨_, rfl⟩, hW, hsame.mono (by decide) (by decide)⟩
  · skip
    refine XS.aloadN X0.here hx rfl (hb hby d29_0) rfl rfl ?_
    refine st1 _ ?_
    show Steps p.tables e below (T1.setTop (mkF m 4 #[.val (.ref a1)] [(.int v1)])) _
    exact retI X1 hx Bd.returns (hb hby d29_4) hr
  · show Q_rm29 Z a1 v1 h0 n0 _ T1.heap _
    rw [e1]
    exact ⟨rfl, N0, rfl⟩
theorem ef_rm9 (m : MethodId) (x0 : Addr) : entryFrame m #[(.ref x0)] 1 = mkF m 0 #[.val (.ref x0)] [] := by first | (simp [entryFrame, mkF, argsToLocals, Value.category]; done) | rfl
def Q_rm9 (Z : State) (a1 : Addr) (v1 : Int32) (h0 : Heap) (n0 : Nat) (v : Option Value) (h : Heap) (L : List Loc) : Prop := v = some (.int v1) ∧ Fr n0 L ∧ h = h0
set_option maxRecDepth 65536 in
set_option maxHeartbeats 40000000 in
theorem rm9 (l : Launch) (Z : State) (a0 : Array Value) (hw : ∀ d ∈ own_tab, d.before a0 Z = true) (ws : List Jvm.Cond) (a1 : Addr) (v1 : Int32) (h0 : Heap) (n0 : Nat) (Z0 : n0 ≤ h0.size) (P0 : Fld Z h0 a1 "java/util/ArrayList" "size" "I" (.int v1)) :
    MetFree l (⟨"java/util/ArrayList", "size", "()I"⟩ : MethodName) (head1 (Jvm.Cond.code (⟨"java/util/ArrayList", "size", "()I"⟩ : MethodName) jdk_38_method_8_code 1 (some .int) :: ws) ({ frames := 0, cells := 0, slots := 0, locals := 0 } : Room)) (fun a U => a = #[(.ref a1)] ∧ Z.Warmed39 U.vm ∧ U.heap = h0) (fun _ _ _ _ _ => True) (fun _ U o U' => ∃ v L, o = .returned v ∧ Q_rm9 Z a1 v1 h0 n0 v U'.heap L ∧ FrameEnd U o U' L ({ frames := 0, cells := 0, slots := 0, locals := 0 } : Room).cells ({ frames := 0, cells := 0, slots := 0, locals := 0 } : Room).slots) := by
  refine MetFree.of_bodySF (plainFor_of_name pn_3) hisR ?_
  intro p e s m args below meth c s₁ Bd hml0 hP hK
  obtain ⟨rfl, hZ, hh⟩ := hP
  have hx := Bd.exec
  have hby := Bd.bytes
  have hml : c.maxLocals = 1 := hml0
  have hown : s.vm.findClass "java/util/ArrayList" = some m.cls := findClass_of_methodNamed Bd.named
  have hnm := (name_of_methodNamed Bd.named Bd.method).1
  have X0 : Stand p l e ({ frames := 0, cells := 0, slots := 0, locals := 0 } : Room) s m #[(.ref a1)] below meth c s₁ [] 0 0 := Stand.of_body Bd
  have e0 : s₁.heap = h0 := by rw [← hh, Bd.state]; rfl
  have N0 := Fr.nil n0
  have KR : Keep h0 h0 [] := Keep.refl h0 _
  have pre0 : ∀ t, Steps p.tables e below (s₁.setTop (mkF m 0 #[.val (.ref a1)] [])) t → Steps p.tables e below (s₁.setTop (entryFrame m #[(.ref a1)] 1)) t := fun t k => castTop (ef_rm9 m (a1)) k
  obtain ⟨T1, X1, e1, st1⟩ := getF X0 hx hZ hown (host := "") (Or.inl (kw58 hw)) Via.refl e0 P0 (g := (mkF m 1 #[.val (.ref a1)] [(.ref a1)])) rfl rfl (hb hby d9_1)
  obtain ⟨fs, hr, hrun, hended, hW, hsame⟩ := X1.leave (v := some (.int v1)) (fun h => by rw [Bd.returns] at h; cases h)
  refine ⟨_, _, pre0 _ ?_, hrun, hended, _, _, rfl, ?_, ⟨_, rfl⟩, hW, hsame.mono (by decide) (by decide)⟩
  · skip
    refine XS.aloadN X0.here hx rfl (hb hby d9_0) rfl rfl ?_
    refine st1 _ ?_
    show Steps p.tables e below (T1.setTop (mkF m 4 #[.val (.ref a1)] [(.int v1)])) _
    exact retI X1 hx Bd.returns (hb hby d9_4) hr
  · show Q_rm9 Z a1 v1 h0 n0 _ T1.heap _
    rw [e1]
    exact ⟨rfl, N0, rfl⟩
theorem ef_rm2 (m : MethodId) (x0 : Addr) (x1 : Addr) : entryFrame m #[(.ref x0), (.ref x1)] 2 = mkF m 0 #[.val (.ref x0), .val (.ref x1)] [] := by first | (simp [entryFrame, mkF, argsToLocals, Value.category]; done) | rfl
def Q_rm2 (Z : State) (a1 : Addr) (x2 : Addr) (h0 : Heap) (n0 : Nat) (v : Option Value) (h : Heap) (L : List Loc) : Prop := v = some (.ref a1) ∧ Fr n0 L ∧ h = h0
set_option maxRecDepth 65536 in
set_option maxHeartbeats 40000000 in
theorem rm2 (l : Launch) (Z : State) (a0 : Array Value) (hw : ∀ d ∈ own_tab, d.before a0 Z = true) (ws : List Jvm.Cond) (a1 : Addr) (x2 : Addr) (h0 : Heap) (n0 : Nat) (Z0 : n0 ≤ h0.size)  :
    MetFree l (⟨"java/util/Objects", "requireNonNull", "(Ljava/lang/Object;Ljava/lang/String;)Ljava/lang/Object;"⟩ : MethodName) (head1 (Jvm.Cond.code (⟨"java/util/Objects", "requireNonNull", "(Ljava/lang/Object;Ljava/lang/String;)Ljava/lang/Object;"⟩ : MethodName) jdk_31_method_11_code 2 (some (.object "java/lang/Object")) :: ws) ({ frames := 0, cells := 0, slots := 0, locals := 0 } : Room)) (fun a U => a = #[(.ref a1), (.ref x2)] ∧ Z.Warmed39 U.vm ∧ U.heap = h0) (fun _ _ _ _ _ => True) (fun _ U o U' => ∃ v L, o = .returned v ∧ Q_rm2 Z a1 x2 h0 n0 v U'.heap L ∧ FrameEnd U o U' L ({ frames := 0, cells := 0, slots := 0, locals := 0 } : Room).cells ({ frames := 0, cells := 0, slots := 0, locals := 0 } : Room).slots) := by
  refine MetFree.of_bodySF (plainFor_of_name pn_6) hisR ?_
  intro p e s m args below meth c s₁ Bd hml0 hP hK
  obtain ⟨rfl, hZ, hh⟩ := hP
  have hx := Bd.exec
  have hby := Bd.bytes
  have hml : c.maxLocals = 2 := hml0
  have hown : s.vm.findClass "java/util/Objects" = some m.cls := findClass_of_methodNamed Bd.named
  have hnm := (name_of_methodNamed Bd.named Bd.method).1
  have X0 : Stand p l e ({ frames := 0, cells := 0, slots := 0, locals := 0 } : Room) s m #[(.ref a1), (.ref x2)] below meth c s₁ [] 0 0 := Stand.of_body Bd
  have e0 : s₁.heap = h0 := by rw [← hh, Bd.state]; rfl
  have N0 := Fr.nil n0
  have KR : Keep h0 h0 [] := Keep.refl h0 _
  have pre0 : ∀ t, Steps p.tables e below (s₁.setTop (mkF m 0 #[.val (.ref a1), .val (.ref x2)] [])) t → Steps p.tables e below (s₁.setTop (entryFrame m #[(.ref a1), (.ref x2)] 2)) t := fun t k => castTop (ef_rm2 m (a1) (x2)) k
  obtain ⟨fs, hr, hrun, hended, hW, hsame⟩ := X0.leave (v := some (.ref a1)) (fun h => by rw [Bd.returns] at h; cases h)
  refine ⟨_, _, pre0 _ ?_, hrun, hended, _, _, rfl, ?_, ⟨_, rfl⟩, hW, hsame.mono (by decide) (by decide)⟩
  · skip
    refine XS.aloadN X0.here hx rfl (hb hby d2_0) rfl rfl ?_
    refine XS.ifnonnullYes X0.here hx rfl (pc0 := 1) (pc' := 13) rfl (hb hby d2_1) rfl (by decide) (by decide) ?_
    refine XS.aloadN X0.here hx rfl (hb hby d2_13) rfl rfl ?_
    show Steps p.tables e below (s₁.setTop (mkF m 14 #[.val (.ref a1), .val (.ref x2)] [(.ref a1)])) _
    jvm_step X0.here [X0.here.top, hx, (hb hby d2_14), X0.method', Bd.returns, Value.isRef, FieldType.isReference]
    first | (intro acts; rw [hr _ acts rfl rfl rfl]) | rw [hr _ _ rfl rfl rfl]
    exact Steps.refl _
  · show Q_rm2 Z a1 x2 h0 n0 _ s₁.heap _
    rw [e0]
    exact ⟨rfl, N0, rfl⟩
theorem ef_rm26 (m : MethodId) (x0 : Int32) (x1 : Int32) : entryFrame m #[(.int x0), (.int x1), .null] 3 = mkF m 0 #[.val (.int x0), .val (.int x1), .val .null] [] := by first | (simp [entryFrame, mkF, argsToLocals, Value.category]; done) | rfl
def Q_rm26 (Z : State) (p1 : Int32) (p2 : Int32) (h0 : Heap) (n0 : Nat) (v : Option Value) (h : Heap) (L : List Loc) : Prop := v = some (.int p1) ∧ Fr n0 L ∧ h = h0
set_option maxRecDepth 65536 in
set_option maxHeartbeats 40000000 in
theorem rm26 (l : Launch) (Z : State) (a0 : Array Value) (hw : ∀ d ∈ own_tab, d.before a0 Z = true) (ws : List Jvm.Cond) (p1 : Int32) (p2 : Int32) (h0 : Heap) (n0 : Nat) (Z0 : n0 ≤ h0.size) (hi0 : ¬ p1 < (0 : Int32)) (hi1 : p1 < p2) :
    MetFree l (⟨"jdk/internal/util/Preconditions", "checkIndex", "(IILjava/util/function/BiFunction;)I"⟩ : MethodName) (head1 (Jvm.Cond.code (⟨"jdk/internal/util/Preconditions", "checkIndex", "(IILjava/util/function/BiFunction;)I"⟩ : MethodName) jdk_41_method_11_code 3 (some .int) :: ws) ({ frames := 0, cells := 0, slots := 0, locals := 0 } : Room)) (fun a U => a = #[(.int p1), (.int p2), .null] ∧ Z.Warmed39 U.vm ∧ U.heap = h0) (fun _ _ _ _ _ => True) (fun _ U o U' => ∃ v L, o = .returned v ∧ Q_rm26 Z p1 p2 h0 n0 v U'.heap L ∧ FrameEnd U o U' L ({ frames := 0, cells := 0, slots := 0, locals := 0 } : Room).cells ({ frames := 0, cells := 0, slots := 0, locals := 0 } : Room).slots) := by
  refine MetFree.of_bodySF (plainFor_of_name pn_7) hisR ?_
  intro p e s m args below meth c s₁ Bd hml0 hP hK
  obtain ⟨rfl, hZ, hh⟩ := hP
  have hx := Bd.exec
  have hby := Bd.bytes
  have hml : c.maxLocals = 3 := hml0
  have hown : s.vm.findClass "jdk/internal/util/Preconditions" = some m.cls := findClass_of_methodNamed Bd.named
  have hnm := (name_of_methodNamed Bd.named Bd.method).1
  have X0 : Stand p l e ({ frames := 0, cells := 0, slots := 0, locals := 0 } : Room) s m #[(.int p1), (.int p2), .null] below meth c s₁ [] 0 0 := Stand.of_body Bd
  have e0 : s₁.heap = h0 := by rw [← hh, Bd.state]; rfl
  have N0 := Fr.nil n0
  have KR : Keep h0 h0 [] := Keep.refl h0 _
  have pre0 : ∀ t, Steps p.tables e below (s₁.setTop (mkF m 0 #[.val (.int p1), .val (.int p2), .val .null] [])) t → Steps p.tables e below (s₁.setTop (entryFrame m #[(.int p1), (.int p2), .null] 3)) t := fun t k => castTop (ef_rm26 m (p1) (p2)) k
  obtain ⟨fs, hr, hrun, hended, hW, hsame⟩ := X0.leave (v := some (.int p1)) (fun h => by rw [Bd.returns] at h; cases h)
  refine ⟨_, _, pre0 _ ?_, hrun, hended, _, _, rfl, ?_, ⟨_, rfl⟩, hW, hsame.mono (by decide) (by decide)⟩
  · skip
    refine XS.iloadN X0.here hx rfl (hb hby d26_0) rfl ?_
    refine XS.ifNo X0.here hx rfl (hb hby d26_1) rfl ((if0 _ _).trans (flt hi0).1) ?_
    refine XS.iloadN X0.here hx rfl (hb hby d26_4) rfl ?_
    refine XS.iloadN X0.here hx rfl (hb hby d26_5) rfl ?_
    refine XS.icmpYes X0.here hx rfl (pc0 := 6) (pc' := 16) rfl (hb hby d26_6) rfl (tlt hi1).1 (by decide) (by decide) ?_
    refine XS.iloadN X0.here hx rfl (hb hby d26_16) rfl ?_
    show Steps p.tables e below (s₁.setTop (mkF m 17 #[.val (.int p1), .val (.int p2), .val .null] [(.int p1)])) _
    exact retI X0 hx Bd.returns (hb hby d26_17) hr
  · show Q_rm26 Z p1 p2 h0 n0 _ s₁.heap _
    rw [e0]
    exact ⟨rfl, N0, rfl⟩
theorem ef_rm25 (m : MethodId) (x0 : Int32) (x1 : Int32) : entryFrame m #[(.int x0), (.int x1)] 2 = mkF m 0 #[.val (.int x0), .val (.int x1)] [] := by first | (simp [entryFrame, mkF, argsToLocals, Value.category]; done) | rfl
def Q_rm25 (Z : State) (p1 : Int32) (p2 : Int32) (h0 : Heap) (n0 : Nat) (v : Option Value) (h : Heap) (L : List Loc) : Prop := v = some (.int p1) ∧ Fr n0 L ∧ h = h0
set_option maxRecDepth 65536 in
set_option maxHeartbeats 40000000 in
theorem rm25 (l : Launch) (Z : State) (a0 : Array Value) (hw : ∀ d ∈ own_tab, d.before a0 Z = true) (ws : List Jvm.Cond) (p1 : Int32) (p2 : Int32) (h0 : Heap) (n0 : Nat) (Z0 : n0 ≤ h0.size) (hi0 : ¬ p1 < (0 : Int32)) (hi1 : p1 < p2) :
    MetFree l (⟨"java/util/Objects", "checkIndex", "(II)I"⟩ : MethodName) (head1 (Jvm.Cond.code (⟨"java/util/Objects", "checkIndex", "(II)I"⟩ : MethodName) jdk_31_method_17_code 2 (some .int) :: ws) ({ frames := 1, cells := 0, slots := 0, locals := 14 } : Room)) (fun a U => a = #[(.int p1), (.int p2)] ∧ Z.Warmed39 U.vm ∧ U.heap = h0) (fun _ _ _ _ _ => True) (fun _ U o U' => ∃ v L, o = .returned v ∧ Q_rm25 Z p1 p2 h0 n0 v U'.heap L ∧ FrameEnd U o U' L ({ frames := 1, cells := 0, slots := 0, locals := 14 } : Room).cells ({ frames := 1, cells := 0, slots := 0, locals := 14 } : Room).slots) := by
  refine MetFree.of_bodySF (plainFor_of_name pn_6) hisR ?_
  intro p e s m args below meth c s₁ Bd hml0 hP hK
  obtain ⟨rfl, hZ, hh⟩ := hP
  have hx := Bd.exec
  have hby := Bd.bytes
  have hml : c.maxLocals = 2 := hml0
  have hown : s.vm.findClass "java/util/Objects" = some m.cls := findClass_of_methodNamed Bd.named
  have hnm := (name_of_methodNamed Bd.named Bd.method).1
  have X0 : Stand p l e ({ frames := 1, cells := 0, slots := 0, locals := 14 } : Room) s m #[(.int p1), (.int p2)] below meth c s₁ [] 0 0 := Stand.of_body Bd
  have e0 : s₁.heap = h0 := by rw [← hh, Bd.state]; rfl
  have N0 := Fr.nil n0
  have KR : Keep h0 h0 [] := Keep.refl h0 _
  have pre0 : ∀ t, Steps p.tables e below (s₁.setTop (mkF m 0 #[.val (.int p1), .val (.int p2)] [])) t → Steps p.tables e below (s₁.setTop (entryFrame m #[(.int p1), (.int p2)] 2)) t := fun t k => castTop (ef_rm25 m (p1) (p2)) k
  obtain ⟨_, _, ⟨T1, L1, k1, n1⟩, -, X1, ⟨Lc1, hQ1, l1, y1, z1⟩, st1⟩ := Jvm.LawKit.callS X0 hx (y := (⟨"jdk/internal/util/Preconditions", "checkIndex", "(IILjava/util/function/BiFunction;)I"⟩ : MethodName)) hown (mvT hZ (kw142 hw)) (mvT hZ (kw143 hw)) (mvT hZ (kw144 hw)) (mvT hZ (kw145 hw)) (by decide) (backOf (W := 0) (rm26 l Z a0 hw [] p1 p2 h0 n0 Z0 hi0 hi1) hZ (kw145 hw) (kw144 hw) (by decide) (by decide)) (g := (mkF m 3 #[.val (.int p1), .val (.int p2)] [.null, (.int p2), (.int p1)])) rfl (by rw [hml]; rfl) (argsL := [(.int p1), (.int p2), .null]) (rest := []) (lenOf pd_5 rfl) rfl (by show 2 * 0 + _ ≤ _; exact Nat.le_of_eq rfl) (hb hby d25_3) (fun _ _ => ⟨rfl, e0, (by decide : 0 + 0 ≤ _), (by decide : 0 + 0 ≤ _)⟩)
  dsimp only [Pt.U, Pt.locs, Pt.cells, Pt.slots] at X1 l1 y1 z1 st1 hQ1
  subst l1 y1 z1
  obtain ⟨rfl, N1q, e1⟩ := hQ1
  have N1 := Fr.app N0 N1q
  obtain ⟨fs, hr, hrun, hended, hW, hsame⟩ := X1.leave (v := some (.int p1)) (fun h => by rw [Bd.returns] at h; cases h)
  refine ⟨_, _, pre0 _ ?_, hrun, hended, _, _, rfl, ?_, ⟨_, rfl⟩, hW, hsame.mono (by decide) (by decide)⟩
  · skip
    refine XS.iloadN X0.here hx rfl (hb hby d25_0) rfl ?_
    refine XS.iloadN X0.here hx rfl (hb hby d25_1) rfl ?_
    refine XS.aconstNull X0.here hx rfl (hb hby d25_2) ?_
    refine st1 _ ?_
    show Steps p.tables e below (T1.setTop (mkF m 6 #[.val (.int p1), .val (.int p2)] [(.int p1)])) _
    exact retI X1 hx Bd.returns (hb hby d25_6) hr
  · show Q_rm25 Z p1 p2 h0 n0 _ T1.heap _
    rw [e1]
    exact ⟨rfl, N1, rfl⟩
theorem ef_rm11 (m : MethodId) (x0 : Int32) (x1 : Int32) (x2 : Int32) : entryFrame m #[(.int x0), (.int x1), (.int x2)] 4 = mkF m 0 #[.val (.int x0), .val (.int x1), .val (.int x2), .unset] [] := by first | (simp [entryFrame, mkF, argsToLocals, Value.category]; done) | rfl
def Q_rm11 (Z : State) (p1 : Int32) (p2 : Int32) (p3 : Int32) (h0 : Heap) (n0 : Nat) (v : Option Value) (h : Heap) (L : List Loc) : Prop := ∃ bv : Int32, v = some (.int bv) ∧ Fr n0 L ∧ h = h0
set_option maxRecDepth 65536 in
set_option maxHeartbeats 40000000 in
theorem rm11 (l : Launch) (Z : State) (a0 : Array Value) (hw : ∀ d ∈ own_tab, d.before a0 Z = true) (ws : List Jvm.Cond) (p1 : Int32) (p2 : Int32) (p3 : Int32) (h0 : Heap) (n0 : Nat) (Z0 : n0 ≤ h0.size)  :
    MetFree l (⟨"com/example/rank_keeper/rankkeeper/BodyLinesSplitPinLaw", "pick", "(III)B"⟩ : MethodName) (head1 (Jvm.Cond.code (⟨"com/example/rank_keeper/rankkeeper/BodyLinesSplitPinLaw", "pick", "(III)B"⟩ : MethodName) method_3_code 4 (some .byte) :: ws) ({ frames := 0, cells := 0, slots := 0, locals := 0 } : Room)) (fun a U => a = #[(.int p1), (.int p2), (.int p3)] ∧ Z.Warmed39 U.vm ∧ U.heap = h0) (fun _ _ _ _ _ => True) (fun _ U o U' => ∃ v L, o = .returned v ∧ Q_rm11 Z p1 p2 p3 h0 n0 v U'.heap L ∧ FrameEnd U o U' L ({ frames := 0, cells := 0, slots := 0, locals := 0 } : Room).cells ({ frames := 0, cells := 0, slots := 0, locals := 0 } : Room).slots) := by
  refine MetFree.of_bodySF (plainFor_of_name pn_0) hisR ?_
  intro p e s m args below meth c s₁ Bd hml0 hP hK
  obtain ⟨rfl, hZ, hh⟩ := hP
  have hx := Bd.exec
  have hby := Bd.bytes
  have hml : c.maxLocals = 4 := hml0
  have hown : s.vm.findClass "com/example/rank_keeper/rankkeeper/BodyLinesSplitPinLaw" = some m.cls := findClass_of_methodNamed Bd.named
  have hnm := (name_of_methodNamed Bd.named Bd.method).1
  have X0 : Stand p l e ({ frames := 0, cells := 0, slots := 0, locals := 0 } : Room) s m #[(.int p1), (.int p2), (.int p3)] below meth c s₁ [] 0 0 := Stand.of_body Bd
  have e0 : s₁.heap = h0 := by rw [← hh, Bd.state]; rfl
  have N0 := Fr.nil n0
  have KR : Keep h0 h0 [] := Keep.refl h0 _
  have pre0 : ∀ t, Steps p.tables e below (s₁.setTop (mkF m 0 #[.val (.int p1), .val (.int p2), .val (.int p3), .unset] [])) t → Steps p.tables e below (s₁.setTop (entryFrame m #[(.int p1), (.int p2), (.int p3)] 4)) t := fun t k => castTop (ef_rm11 m (p1) (p2) (p3)) k
  have pre1 : ∀ t, Steps p.tables e below (s₁.setTop (mkF m 10 #[.val (.int p1), .val (.int p2), .val (.int p3), .val (.int (((p1.toUInt32 >>> (((3 : Int32) * p3) &&& 31).toUInt32).toInt32) &&& (7 : Int32)))] [(.int (((p1.toUInt32 >>> (((3 : Int32) * p3) &&& 31).toUInt32).toInt32) &&& (7 : Int32)))])) t → Steps p.tables e below (s₁.setTop (entryFrame m #[(.int p1), (.int p2), (.int p3)] 4)) t := fun t k => pre0 t (by
    refine XS.iloadN X0.here hx rfl (hb hby d11_0) rfl ?_
    refine XS.iconst X0.here hx rfl (hb hby d11_1) ?_
    refine XS.iloadN X0.here hx rfl (hb hby d11_2) rfl ?_
    refine XS.imul X0.here hx rfl (hb hby d11_3) rfl ?_
    refine XS.iushr X0.here hx rfl (hb hby d11_4) rfl ?_
    refine XS.bipush X0.here hx rfl (hb hby d11_5) ?_
    refine XS.iand X0.here hx rfl (hb hby d11_7) rfl ?_
    refine XS.istoreN X0.here hx rfl (hb hby d11_8) rfl (l' := #[.val (.int p1), .val (.int p2), .val (.int p3), .val (.int (((p1.toUInt32 >>> (((3 : Int32) * p3) &&& 31).toUInt32).toInt32) &&& (7 : Int32)))]) rfl ?_
    refine XS.iloadN X0.here hx rfl (hb hby d11_9) rfl ?_
    exact k)
  by_cases hc2 : (((p1.toUInt32 >>> (((3 : Int32) * p3) &&& 31).toUInt32).toInt32) &&& (7 : Int32)) = (0 : Int32)
  ·skip
   obtain ⟨fs, hr, hrun, hended, hW, hsame⟩ := X0.leave (v := some (.int 10)) (fun h => by rw [Bd.returns] at h; cases h)
   refine ⟨_, _, pre1 _ ?_, hrun, hended, _, _, rfl, ?_, ⟨_, rfl⟩, hW, hsame.mono (by decide) (by decide)⟩
   · skip
     refine XS.ifNo X0.here hx rfl (hb hby d11_10) rfl ((if0 _ _).trans (teq hc2).2) ?_
     refine XS.bipush X0.here hx rfl (hb hby d11_13) ?_
     show Steps p.tables e below (s₁.setTop (mkF m 15 #[.val (.int p1), .val (.int p2), .val (.int p3), .val (.int (((p1.toUInt32 >>> (((3 : Int32) * p3) &&& 31).toUInt32).toInt32) &&& (7 : Int32)))] [(.int 10)])) _
     exact retN X0 hx (t := .byte) Bd.returns (by simp) (hb hby d11_15) hr
   · show Q_rm11 Z p1 p2 p3 h0 n0 _ s₁.heap _
     rw [e0]
     exact ⟨(10 : Int32), rfl, N0, rfl⟩
  ·skip
   have pre4 : ∀ t, Steps p.tables e below (s₁.setTop (mkF m 18 #[.val (.int p1), .val (.int p2), .val (.int p3), .val (.int (((p1.toUInt32 >>> (((3 : Int32) * p3) &&& 31).toUInt32).toInt32) &&& (7 : Int32)))] [(.int 1), (.int (((p1.toUInt32 >>> (((3 : Int32) * p3) &&& 31).toUInt32).toInt32) &&& (7 : Int32)))])) t → Steps p.tables e below (s₁.setTop (entryFrame m #[(.int p1), (.int p2), (.int p3)] 4)) t := fun t k => pre1 t (by
     refine XS.ifYes X0.here hx rfl (pc0 := 10) (pc' := 16) rfl (hb hby d11_10) rfl ((if0 _ _).trans (feq hc2).2) (by decide) (by decide) ?_
     refine XS.iloadN X0.here hx rfl (hb hby d11_16) rfl ?_
     refine XS.iconst X0.here hx rfl (hb hby d11_17) ?_
     exact k)
   by_cases hc5 : (((p1.toUInt32 >>> (((3 : Int32) * p3) &&& 31).toUInt32).toInt32) &&& (7 : Int32)) = (1 : Int32)
   ·skip
    obtain ⟨fs, hr, hrun, hended, hW, hsame⟩ := X0.leave (v := some (.int 32)) (fun h => by rw [Bd.returns] at h; cases h)
    refine ⟨_, _, pre4 _ ?_, hrun, hended, _, _, rfl, ?_, ⟨_, rfl⟩, hW, hsame.mono (by decide) (by decide)⟩
    · skip
      refine XS.icmpNo X0.here hx rfl (hb hby d11_18) rfl (teq hc5).2 ?_
      refine XS.bipush X0.here hx rfl (hb hby d11_21) ?_
      show Steps p.tables e below (s₁.setTop (mkF m 23 #[.val (.int p1), .val (.int p2), .val (.int p3), .val (.int (((p1.toUInt32 >>> (((3 : Int32) * p3) &&& 31).toUInt32).toInt32) &&& (7 : Int32)))] [(.int 32)])) _
      exact retN X0 hx (t := .byte) Bd.returns (by simp) (hb hby d11_23) hr
    · show Q_rm11 Z p1 p2 p3 h0 n0 _ s₁.heap _
      rw [e0]
      exact ⟨(32 : Int32), rfl, N0, rfl⟩
   ·skip
    have pre7 : ∀ t, Steps p.tables e below (s₁.setTop (mkF m 26 #[.val (.int p1), .val (.int p2), .val (.int p3), .val (.int (((p1.toUInt32 >>> (((3 : Int32) * p3) &&& 31).toUInt32).toInt32) &&& (7 : Int32)))] [(.int 2), (.int (((p1.toUInt32 >>> (((3 : Int32) * p3) &&& 31).toUInt32).toInt32) &&& (7 : Int32)))])) t → Steps p.tables e below (s₁.setTop (entryFrame m #[(.int p1), (.int p2), (.int p3)] 4)) t := fun t k => pre4 t (by
      refine XS.icmpYes X0.here hx rfl (pc0 := 18) (pc' := 24) rfl (hb hby d11_18) rfl (feq hc5).2 (by decide) (by decide) ?_
      refine XS.iloadN X0.here hx rfl (hb hby d11_24) rfl ?_
      refine XS.iconst X0.here hx rfl (hb hby d11_25) ?_
      exact k)
    by_cases hc8 : (((p1.toUInt32 >>> (((3 : Int32) * p3) &&& 31).toUInt32).toInt32) &&& (7 : Int32)) = (2 : Int32)
    ·skip
     obtain ⟨fs, hr, hrun, hended, hW, hsame⟩ := X0.leave (v := some (.int 9)) (fun h => by rw [Bd.returns] at h; cases h)
     refine ⟨_, _, pre7 _ ?_, hrun, hended, _, _, rfl, ?_, ⟨_, rfl⟩, hW, hsame.mono (by decide) (by decide)⟩
     · skip
       refine XS.icmpNo X0.here hx rfl (hb hby d11_26) rfl (teq hc8).2 ?_
       refine XS.bipush X0.here hx rfl (hb hby d11_29) ?_
       show Steps p.tables e below (s₁.setTop (mkF m 31 #[.val (.int p1), .val (.int p2), .val (.int p3), .val (.int (((p1.toUInt32 >>> (((3 : Int32) * p3) &&& 31).toUInt32).toInt32) &&& (7 : Int32)))] [(.int 9)])) _
       exact retN X0 hx (t := .byte) Bd.returns (by simp) (hb hby d11_31) hr
     · show Q_rm11 Z p1 p2 p3 h0 n0 _ s₁.heap _
       rw [e0]
       exact ⟨(9 : Int32), rfl, N0, rfl⟩
    ·skip
     have pre10 : ∀ t, Steps p.tables e below (s₁.setTop (mkF m 34 #[.val (.int p1), .val (.int p2), .val (.int p3), .val (.int (((p1.toUInt32 >>> (((3 : Int32) * p3) &&& 31).toUInt32).toInt32) &&& (7 : Int32)))] [(.int 3), (.int (((p1.toUInt32 >>> (((3 : Int32) * p3) &&& 31).toUInt32).toInt32) &&& (7 : Int32)))])) t → Steps p.tables e below (s₁.setTop (entryFrame m #[(.int p1), (.int p2), (.int p3)] 4)) t := fun t k => pre7 t (by
       refine XS.icmpYes X0.here hx rfl (pc0 := 26) (pc' := 32) rfl (hb hby d11_26) rfl (feq hc8).2 (by decide) (by decide) ?_
       refine XS.iloadN X0.here hx rfl (hb hby d11_32) rfl ?_
       refine XS.iconst X0.here hx rfl (hb hby d11_33) ?_
       exact k)
     by_cases hc11 : (((p1.toUInt32 >>> (((3 : Int32) * p3) &&& 31).toUInt32).toInt32) &&& (7 : Int32)) = (3 : Int32)
     ·skip
      obtain ⟨fs, hr, hrun, hended, hW, hsame⟩ := X0.leave (v := some (.int 13)) (fun h => by rw [Bd.returns] at h; cases h)
      refine ⟨_, _, pre10 _ ?_, hrun, hended, _, _, rfl, ?_, ⟨_, rfl⟩, hW, hsame.mono (by decide) (by decide)⟩
      · skip
        refine XS.icmpNo X0.here hx rfl (hb hby d11_34) rfl (teq hc11).2 ?_
        refine XS.bipush X0.here hx rfl (hb hby d11_37) ?_
        show Steps p.tables e below (s₁.setTop (mkF m 39 #[.val (.int p1), .val (.int p2), .val (.int p3), .val (.int (((p1.toUInt32 >>> (((3 : Int32) * p3) &&& 31).toUInt32).toInt32) &&& (7 : Int32)))] [(.int 13)])) _
        exact retN X0 hx (t := .byte) Bd.returns (by simp) (hb hby d11_39) hr
      · show Q_rm11 Z p1 p2 p3 h0 n0 _ s₁.heap _
        rw [e0]
        exact ⟨(13 : Int32), rfl, N0, rfl⟩
     ·skip
      obtain ⟨fs, hr, hrun, hended, hW, hsame⟩ := X0.leave (v := some (.int (nar .byte (((p2.toUInt32 >>> (((8 : Int32) * p3) &&& 31).toUInt32).toInt32).toInt8.toInt32)))) (fun h => by rw [Bd.returns] at h; cases h)
      refine ⟨_, _, pre10 _ ?_, hrun, hended, _, _, rfl, ?_, ⟨_, rfl⟩, hW, hsame.mono (by decide) (by decide)⟩
      · skip
        refine XS.icmpYes X0.here hx rfl (pc0 := 34) (pc' := 40) rfl (hb hby d11_34) rfl (feq hc11).2 (by decide) (by decide) ?_
        refine XS.iloadN X0.here hx rfl (hb hby d11_40) rfl ?_
        refine XS.bipush X0.here hx rfl (hb hby d11_41) ?_
        refine XS.iloadN X0.here hx rfl (hb hby d11_43) rfl ?_
        refine XS.imul X0.here hx rfl (hb hby d11_44) rfl ?_
        refine XS.iushr X0.here hx rfl (hb hby d11_45) rfl ?_
        refine XS.i2b X0.here hx rfl (hb hby d11_46) rfl ?_
        show Steps p.tables e below (s₁.setTop (mkF m 47 #[.val (.int p1), .val (.int p2), .val (.int p3), .val (.int (((p1.toUInt32 >>> (((3 : Int32) * p3) &&& 31).toUInt32).toInt32) &&& (7 : Int32)))] [(.int (((p2.toUInt32 >>> (((8 : Int32) * p3) &&& 31).toUInt32).toInt32).toInt8.toInt32))])) _
        exact retN X0 hx (t := .byte) Bd.returns (by simp) (hb hby d11_47) hr
      · show Q_rm11 Z p1 p2 p3 h0 n0 _ s₁.heap _
        rw [e0]
        exact ⟨(nar .byte (((p2.toUInt32 >>> (((8 : Int32) * p3) &&& 31).toUInt32).toInt32).toInt8.toInt32)), rfl, N0, rfl⟩
theorem ef_rmMax (m : MethodId) (x0 : Int32) (x1 : Int32) : entryFrame m #[(.int x0), (.int x1)] 2 = mkF m 0 #[.val (.int x0), .val (.int x1)] [] := by first | (simp [entryFrame, mkF, argsToLocals, Value.category]; done) | rfl
def Q_rmMax (Z : State)  (h0 : Heap) (n0 : Nat) (v : Option Value) (h : Heap) (L : List Loc) : Prop := v = some (.int 10) ∧ Fr n0 L ∧ h = h0
set_option maxRecDepth 65536 in
set_option maxHeartbeats 40000000 in
theorem rmMax (l : Launch) (Z : State) (a0 : Array Value) (hw : ∀ d ∈ own_tab, d.before a0 Z = true) (ws : List Jvm.Cond)  (h0 : Heap) (n0 : Nat) (Z0 : n0 ≤ h0.size)  :
    MetFree l (⟨"java/lang/Math", "max", "(II)I"⟩ : MethodName) (head1 (Jvm.Cond.code (⟨"java/lang/Math", "max", "(II)I"⟩ : MethodName) jdk_29_method_65_code 2 (some .int) :: ws) ({ frames := 0, cells := 0, slots := 0, locals := 0 } : Room)) (fun a U => a = #[(.int 10), (.int 1)] ∧ Z.Warmed39 U.vm ∧ U.heap = h0) (fun _ _ _ _ _ => True) (fun _ U o U' => ∃ v L, o = .returned v ∧ Q_rmMax Z  h0 n0 v U'.heap L ∧ FrameEnd U o U' L ({ frames := 0, cells := 0, slots := 0, locals := 0 } : Room).cells ({ frames := 0, cells := 0, slots := 0, locals := 0 } : Room).slots) := by
  refine MetFree.of_bodySF (Jvm.Free.JP.mathPlain rfl (by decide +kernel)) hisR ?_
  intro p e s m args below meth c s₁ Bd hml0 hP hK
  obtain ⟨rfl, hZ, hh⟩ := hP
  have hx := Bd.exec
  have hby := Bd.bytes
  have hml : c.maxLocals = 2 := hml0
  have hown : s.vm.findClass "java/lang/Math" = some m.cls := findClass_of_methodNamed Bd.named
  have hnm := (name_of_methodNamed Bd.named Bd.method).1
  have X0 : Stand p l e ({ frames := 0, cells := 0, slots := 0, locals := 0 } : Room) s m #[(.int 10), (.int 1)] below meth c s₁ [] 0 0 := Stand.of_body Bd
  have e0 : s₁.heap = h0 := by rw [← hh, Bd.state]; rfl
  have N0 := Fr.nil n0
  have KR : Keep h0 h0 [] := Keep.refl h0 _
  have pre0 : ∀ t, Steps p.tables e below (s₁.setTop (mkF m 0 #[.val (.int 10), .val (.int 1)] [])) t → Steps p.tables e below (s₁.setTop (entryFrame m #[(.int 10), (.int 1)] 2)) t := fun t k => castTop (ef_rmMax m ((10 : Int32)) ((1 : Int32))) k
  obtain ⟨fs, hr, hrun, hended, hW, hsame⟩ := X0.leave (v := some (.int 10)) (fun h => by rw [Bd.returns] at h; cases h)
  refine ⟨_, _, pre0 _ ?_, hrun, hended, _, _, rfl, ?_, ⟨_, rfl⟩, hW, hsame.mono (by decide) (by decide)⟩
  · skip
    refine XS.iloadN X0.here hx rfl (hb hby d19_0) rfl ?_
    refine XS.iloadN X0.here hx rfl (hb hby d19_1) rfl ?_
    refine XS.icmpNo X0.here hx rfl (hb hby d19_2) rfl (flt (by decide : ¬ ((10 : Int32) < (1 : Int32)))).1 ?_
    refine XS.iloadN X0.here hx rfl (hb hby d19_5) rfl ?_
    refine XS.goto X0.here hx rfl (pc0 := 6) (pc' := 10) rfl (hb hby d19_6) (by decide) (by decide) ?_
    show Steps p.tables e below (s₁.setTop (mkF m 10 #[.val (.int 10), .val (.int 1)] [(.int 10)])) _
    exact retI X0 hx Bd.returns (hb hby d19_10) hr
  · show Q_rmMax Z  h0 n0 _ s₁.heap _
    rw [e0]
    exact ⟨rfl, N0, rfl⟩
theorem ef_rmGrowI (m : MethodId) (x0 : Addr) (x1 : Int32) : entryFrame m #[(.ref x0), (.int x1)] 4 = mkF m 0 #[.val (.ref x0), .val (.int x1), .unset, .unset] [] := by first | (simp [entryFrame, mkF, argsToLocals, Value.category]; done) | rfl
def Q_rmGrowI (Z : State) (a1 : Addr) (w_DEF : Addr) (kD : ClassId) (mc : Int32) (h0 : Heap) (n0 : Nat) (v : Option Value) (h : Heap) (L : List Loc) : Prop := ∃ ed : Addr, ∃ kd : ClassId, v = some (.ref ed) ∧ Fr n0 L ∧ Keep h0 h [a1] ∧ n0 ≤ ed ∧ h0.size ≤ ed ∧ Arv Z h ed kd (.object "java/lang/Object") (10 : Int32) [.null, .null, .null, .null, .null, .null, .null, .null, .null, .null] .null ∧ Fld Z h a1 "java/util/AbstractList" "modCount" "I" (.int mc) ∧ Fld Z h a1 "java/util/ArrayList" "size" "I" (.int 0) ∧ Fld Z h a1 "java/util/ArrayList" "elementData" "[Ljava/lang/Object;" (.ref ed) ∧ Ovr Z kd "java/lang/Object"
set_option maxRecDepth 65536 in
set_option maxHeartbeats 40000000 in
theorem rmGrowI (l : Launch) (Z : State) (a0 : Array Value) (hw : ∀ d ∈ own_tab, d.before a0 Z = true) (ws : List Jvm.Cond) (a1 : Addr) (w_DEF : Addr) (kD : ClassId) (mc : Int32) (h0 : Heap) (n0 : Nat) (Z0 : n0 ≤ h0.size) (P0 : Old Z n0 h0) (P1 : Sta Z Z.heap "java/util/ArrayList" "DEFAULTCAPACITY_EMPTY_ELEMENTDATA" "[Ljava/lang/Object;" (.ref w_DEF)) (P2 : Exa Z h0 a1 "java/util/ArrayList") (P3 : n0 ≤ a1) (P4 : Fld Z h0 a1 "java/util/AbstractList" "modCount" "I" (.int mc)) (P5 : Fld Z h0 a1 "java/util/ArrayList" "size" "I" (.int 0)) (P6 : Fld Z h0 a1 "java/util/ArrayList" "elementData" "[Ljava/lang/Object;" (.ref w_DEF)) (P7 : Arv Z h0 w_DEF kD (.object "java/lang/Object") (0 : Int32) [] .null) :
    MetFree l (⟨"java/util/ArrayList", "grow", "(I)[Ljava/lang/Object;"⟩ : MethodName) (head1 (Jvm.Cond.code (⟨"java/util/ArrayList", "grow", "(I)[Ljava/lang/Object;"⟩ : MethodName) jdk_38_method_6_code 4 (some (.array (.object "java/lang/Object"))) :: ws) ({ frames := 1, cells := 1, slots := 10, locals := 14 } : Room)) (fun a U => a = #[(.ref a1), (.int 1)] ∧ Z.Warmed39 U.vm ∧ U.heap = h0) (fun _ _ _ _ _ => True) (fun _ U o U' => ∃ v L, o = .returned v ∧ Q_rmGrowI Z a1 w_DEF kD mc h0 n0 v U'.heap L ∧ FrameEnd U o U' L ({ frames := 1, cells := 1, slots := 10, locals := 14 } : Room).cells ({ frames := 1, cells := 1, slots := 10, locals := 14 } : Room).slots) := by
  refine MetFree.of_bodySF (plainFor_of_name pn_3) hisR ?_
  intro p e s m args below meth c s₁ Bd hml0 hP hK
  obtain ⟨rfl, hZ, hh⟩ := hP
  have hx := Bd.exec
  have hby := Bd.bytes
  have hml : c.maxLocals = 4 := hml0
  have hown : s.vm.findClass "java/util/ArrayList" = some m.cls := findClass_of_methodNamed Bd.named
  have hnm := (name_of_methodNamed Bd.named Bd.method).1
  have X0 : Stand p l e ({ frames := 1, cells := 1, slots := 10, locals := 14 } : Room) s m #[(.ref a1), (.int 1)] below meth c s₁ [] 0 0 := Stand.of_body Bd
  have e0 : s₁.heap = h0 := by rw [← hh, Bd.state]; rfl
  have N0 := Fr.nil n0
  have KR : Keep h0 h0 [a1] := Keep.refl h0 _
  have pre0 : ∀ t, Steps p.tables e below (s₁.setTop (mkF m 0 #[.val (.ref a1), .val (.int 1), .unset, .unset] [])) t → Steps p.tables e below (s₁.setTop (entryFrame m #[(.ref a1), (.int 1)] 4)) t := fun t k => castTop (ef_rmGrowI m (a1) ((1 : Int32))) k
  obtain ⟨T1, X1, e1, st1⟩ := getF X0 hx hZ hown (host := "") (Or.inl (kw40 hw)) Via.refl e0 P6 (g := (mkF m 1 #[.val (.ref a1), .val (.int 1), .unset, .unset] [(.ref a1)])) rfl rfl (hb hby d18_1)
  obtain ⟨cl2, Ar2, -, S2, N2', -, -⟩ := id P7
  obtain ⟨T3, X3, e3, st3⟩ := getF X1 hx hZ hown (host := "") (Or.inl (kw40 hw)) Via.refl e1 P6 (g := (mkF m 11 #[.val (.ref a1), .val (.int 1), .val (.int 0), .unset] [(.ref a1)])) rfl rfl (hb hby d18_11)
  obtain ⟨T4, X4, e4, st4⟩ := getS2 X3 hx hZ hown (host := "") (Or.inl (kw39 hw)) Via.refl e3 (Sta.ext P0.2 P1) (g := (mkF m 14 #[.val (.ref a1), .val (.int 1), .val (.int 0), .unset] [(.ref w_DEF)])) rfl (hb hby d18_14)
  obtain ⟨_, _, ⟨T5, L5, k5, n5⟩, -, X5, ⟨Lc5, hQ5, l5, y5, z5⟩, st5⟩ := Jvm.LawKit.callS X4 hx (y := (⟨"java/lang/Math", "max", "(II)I"⟩ : MethodName)) hown (mvT hZ (kw112 hw)) (mvT hZ (kw113 hw)) (mvT hZ (kw114 hw)) (mvT hZ (kw115 hw)) (by decide) (backOf (W := 1) (rmMax l Z a0 hw []  h0 n0 Z0 ) hZ (kw115 hw) (kw114 hw) (by decide) (by decide)) (g := (mkF m 49 #[.val (.ref a1), .val (.int 1), .val (.int 0), .unset] [(.int 1), (.int 10), (.ref a1)])) rfl (by rw [hml]; rfl) (argsL := [(.int 10), (.int 1)]) (rest := [(.ref a1)]) (lenOf pd_6 rfl) rfl (by show 2 * 0 + _ ≤ _; exact Nat.le_of_eq rfl) (hb hby d18_49) (fun _ _ => ⟨rfl, e4, (by decide : 0 + 0 ≤ _), (by decide : 0 + 0 ≤ _)⟩)
  dsimp only [Pt.U, Pt.locs, Pt.cells, Pt.slots] at X5 l5 y5 z5 st5 hQ5
  subst l5 y5 z5
  obtain ⟨rfl, N5q, e5⟩ := hQ5
  have N5 := Fr.app N0 N5q
  obtain ⟨T6, h6, k6, X6, e6, E6, A6, O6, st6⟩ := newR X5 hx hZ hown (kw116 hw) (kw117 hw) e5 (g := (mkF m 52 #[.val (.ref a1), .val (.int 1), .val (.int 0), .unset] [(.int 10), (.ref a1)])) rfl (hb hby d18_52) rfl (by decide) (cap := 10) (by decide) (by decide) (by decide) (by decide)
  obtain ⟨b6, g6⟩ : ∃ z, z = h0.size := ⟨_, rfl⟩
  rw [← g6] at A6 st6
  have ne6_a1 : a1 ≠ b6 := Nat.ne_of_lt (Nat.lt_of_lt_of_le P2.lt (Nat.le_of_eq g6.symm))
  have ne6_w_DEF : w_DEF ≠ b6 := Nat.ne_of_lt (Nat.lt_of_lt_of_le P7.lt (Nat.le_of_eq g6.symm))
  have g_b6 : n0 ≤ b6 := Nat.le_trans Z0 (Nat.le_of_eq g6.symm)
  have sz_b6 : h0.size ≤ b6 := Nat.le_trans KR.1 (Nat.le_of_eq g6.symm)
  have Z6 : n0 ≤ h6.size := Nat.le_trans Z0 E6.1
  have K6 : Keep h0 h6 [a1] := KR.ext E6
  have V6 : Arv Z h6 b6 k6 (.object "java/lang/Object") (10 : Int32) [.null, .null, .null, .null, .null, .null, .null, .null, .null, .null] .null := (Arv.new A6 (by decide)).pad (pad_rep [] .null 10)
  have f7 : Exa Z h6 a1 "java/util/ArrayList" := (P2.ext E6)
  have f8 : Fld Z h6 a1 "java/util/ArrayList" "elementData" "[Ljava/lang/Object;" (.ref w_DEF) := (P6.ext E6)
  obtain ⟨T9, h9, X9, e9, W9, st9⟩ := putF X6 hx hZ hown (host := "") (Or.inl (kw40 hw)) Via.refl e6 f8 f7 (Or.inl (kw41 hw)) (kw17 hw) (ty := (.array (.object "java/lang/Object"))) (by decide) rfl rfl (g := (mkF m 56 #[.val (.ref a1), .val (.int 1), .val (.int 0), .unset] [(.ref b6), (.ref a1), (.ref b6)])) rfl rfl (hb hby d18_56)
  have Z9 : n0 ≤ h9.size := Nat.le_trans Z6 (Keep.of_wr W9).1
  have K9 : Keep h0 h9 [a1] := K6.wr W9 (Or.inl (List.mem_of_getElem? (i := 0) rfl))
  have N9 := Fr.snoc X9 N5 P3
  have Fw9 : Fld Z h9 a1 "java/util/ArrayList" "elementData" "[Ljava/lang/Object;" (.ref b6) := f8.same W9
  have f10 : Arv Z h9 b6 k6 (.object "java/lang/Object") (10 : Int32) [.null, .null, .null, .null, .null, .null, .null, .null, .null, .null] .null := (V6.other W9 (Ne.symm ne6_a1))
  have f11 : Fld Z h9 a1 "java/util/AbstractList" "modCount" "I" (.int mc) := ((P4.ext E6).other W9 (Or.inr (slot_ne (Or.inl (kw38 hw)) (Or.inl (kw41 hw)) (by decide) (t := .int) (t' := (.array (.object "java/lang/Object"))) (by decide) (by decide))))
  have f12 : Fld Z h9 a1 "java/util/ArrayList" "size" "I" (.int 0) := ((P5.ext E6).other W9 (Or.inr (slot_ne (Or.inl (kw59 hw)) (Or.inl (kw41 hw)) (by decide) (t := .int) (t' := (.array (.object "java/lang/Object"))) (by decide) (by decide))))
  obtain ⟨fs, hr, hrun, hended, hW, hsame⟩ := X9.leave (v := some (.ref b6)) (fun h => by rw [Bd.returns] at h; cases h)
  refine ⟨_, _, pre0 _ ?_, hrun, hended, _, _, rfl, ?_, ⟨_, rfl⟩, hW, hsame.mono (by decide) (by decide)⟩
  · skip
    refine XS.aloadN X0.here hx rfl (hb hby d18_0) rfl rfl ?_
    refine st1 _ ?_
    refine X1.arraylength hx (by rw [e1]; exact Ar2.1) (State.isArrayOf_alike hZ.alike Ar2.2.1) (g := (mkF m 4 #[.val (.ref a1), .val (.int 1), .unset, .unset] [(.ref w_DEF)])) rfl rfl (hb hby d18_4) _ ?_
    rw [len_of S2 N2']
    refine XS.istoreN X1.here hx rfl (hb hby d18_5) rfl (l' := #[.val (.ref a1), .val (.int 1), .val (.int 0), .unset]) rfl ?_
    refine XS.iloadN X1.here hx rfl (hb hby d18_6) rfl ?_
    refine XS.ifNo X1.here hx rfl (hb hby d18_7) rfl ((if0 _ _).trans (flt (by decide : ¬ ((0 : Int32) < (0 : Int32)))).2.2.1) ?_
    refine XS.aloadN X1.here hx rfl (hb hby d18_10) rfl rfl ?_
    refine st3 _ ?_
    refine st4 _ ?_
    refine Jvm.RoadKit.acmp (g := (mkF m 17 #[.val (.ref a1), .val (.int 1), .val (.int 0), .unset] [(.ref w_DEF), (.ref w_DEF)])) X4 hx rfl rfl rfl (pc0 := 17) (pc' := 45) (same := true) rfl (hb hby d18_17) rfl (decide_eq_true rfl) (by decide) (by decide) ?_
    refine XS.aloadN X4.here hx rfl (hb hby d18_45) rfl rfl ?_
    refine XS.bipush X4.here hx rfl (hb hby d18_46) ?_
    refine XS.iloadN X4.here hx rfl (hb hby d18_48) rfl ?_
    refine st5 _ ?_
    refine st6 _ ?_
    refine XS.dupX1 X6.here hx rfl (hb hby d18_55) rfl rfl rfl ?_
    refine st9 _ ?_
    show Steps p.tables e below (T9.setTop (mkF m 59 #[.val (.ref a1), .val (.int 1), .val (.int 0), .unset] [(.ref b6)])) _
    jvm_step X9.here [X9.here.top, hx, (hb hby d18_59), X9.method', Bd.returns, Value.isRef, FieldType.isReference]
    first | (intro acts; rw [hr _ acts rfl rfl rfl]) | rw [hr _ _ rfl rfl rfl]
    exact Steps.refl _
  · show Q_rmGrowI Z a1 w_DEF kD mc h0 n0 _ T9.heap _
    rw [e9]
    exact ⟨b6, k6, rfl, N9, K9, g_b6, sz_b6, f10, f11, f12, Fw9, O6⟩
theorem ef_rmGrow (m : MethodId) (x0 : Addr) : entryFrame m #[(.ref x0)] 1 = mkF m 0 #[.val (.ref x0)] [] := by first | (simp [entryFrame, mkF, argsToLocals, Value.category]; done) | rfl
def Q_rmGrow (Z : State) (a1 : Addr) (w_DEF : Addr) (kD : ClassId) (mc : Int32) (h0 : Heap) (n0 : Nat) (v : Option Value) (h : Heap) (L : List Loc) : Prop := ∃ ed : Addr, ∃ kd : ClassId, v = some (.ref ed) ∧ Fr n0 L ∧ Keep h0 h [a1] ∧ n0 ≤ ed ∧ h0.size ≤ ed ∧ Arv Z h ed kd (.object "java/lang/Object") (10 : Int32) [.null, .null, .null, .null, .null, .null, .null, .null, .null, .null] .null ∧ Fld Z h a1 "java/util/AbstractList" "modCount" "I" (.int mc) ∧ Fld Z h a1 "java/util/ArrayList" "size" "I" (.int 0) ∧ Fld Z h a1 "java/util/ArrayList" "elementData" "[Ljava/lang/Object;" (.ref ed) ∧ Ovr Z kd "java/lang/Object"
set_option maxRecDepth 65536 in
set_option maxHeartbeats 40000000 in
theorem rmGrow (l : Launch) (Z : State) (a0 : Array Value) (hw : ∀ d ∈ own_tab, d.before a0 Z = true) (ws : List Jvm.Cond) (a1 : Addr) (w_DEF : Addr) (kD : ClassId) (mc : Int32) (h0 : Heap) (n0 : Nat) (Z0 : n0 ≤ h0.size) (P0 : Old Z n0 h0) (P1 : Sta Z Z.heap "java/util/ArrayList" "DEFAULTCAPACITY_EMPTY_ELEMENTDATA" "[Ljava/lang/Object;" (.ref w_DEF)) (P2 : Exa Z h0 a1 "java/util/ArrayList") (P3 : n0 ≤ a1) (P4 : Fld Z h0 a1 "java/util/AbstractList" "modCount" "I" (.int mc)) (P5 : Fld Z h0 a1 "java/util/ArrayList" "size" "I" (.int 0)) (P6 : Fld Z h0 a1 "java/util/ArrayList" "elementData" "[Ljava/lang/Object;" (.ref w_DEF)) (P7 : Arv Z h0 w_DEF kD (.object "java/lang/Object") (0 : Int32) [] .null) :
    MetFree l (⟨"java/util/ArrayList", "grow", "()[Ljava/lang/Object;"⟩ : MethodName) (head1 (Jvm.Cond.code (⟨"java/util/ArrayList", "grow", "()[Ljava/lang/Object;"⟩ : MethodName) jdk_38_method_7_code 1 (some (.array (.object "java/lang/Object"))) :: ws) ({ frames := 2, cells := 1, slots := 10, locals := 29 } : Room)) (fun a U => a = #[(.ref a1)] ∧ Z.Warmed39 U.vm ∧ U.heap = h0) (fun _ _ _ _ _ => True) (fun _ U o U' => ∃ v L, o = .returned v ∧ Q_rmGrow Z a1 w_DEF kD mc h0 n0 v U'.heap L ∧ FrameEnd U o U' L ({ frames := 2, cells := 1, slots := 10, locals := 29 } : Room).cells ({ frames := 2, cells := 1, slots := 10, locals := 29 } : Room).slots) := by
  refine MetFree.of_bodySF (plainFor_of_name pn_3) hisR ?_
  intro p e s m args below meth c s₁ Bd hml0 hP hK
  obtain ⟨rfl, hZ, hh⟩ := hP
  have hx := Bd.exec
  have hby := Bd.bytes
  have hml : c.maxLocals = 1 := hml0
  have hown : s.vm.findClass "java/util/ArrayList" = some m.cls := findClass_of_methodNamed Bd.named
  have hnm := (name_of_methodNamed Bd.named Bd.method).1
  have X0 : Stand p l e ({ frames := 2, cells := 1, slots := 10, locals := 29 } : Room) s m #[(.ref a1)] below meth c s₁ [] 0 0 := Stand.of_body Bd
  have e0 : s₁.heap = h0 := by rw [← hh, Bd.state]; rfl
  have N0 := Fr.nil n0
  have KR : Keep h0 h0 [a1] := Keep.refl h0 _
  have pre0 : ∀ t, Steps p.tables e below (s₁.setTop (mkF m 0 #[.val (.ref a1)] [])) t → Steps p.tables e below (s₁.setTop (entryFrame m #[(.ref a1)] 1)) t := fun t k => castTop (ef_rmGrow m (a1)) k
  obtain ⟨T1, X1, e1, st1⟩ := getF X0 hx hZ hown (host := "") (Or.inl (kw58 hw)) Via.refl e0 P5 (g := (mkF m 2 #[.val (.ref a1)] [(.ref a1), (.ref a1)])) rfl rfl (hb hby d17_2)
  obtain ⟨cq2, q2, q2'⟩ := (P2).cell
  obtain ⟨_, _, ⟨T2, L2, k2, n2⟩, -, X2, ⟨Lc2, hQ2, l2, y2, z2⟩, st2⟩ := X1.privateBack hx (y := (⟨"java/util/ArrayList", "grow", "(I)[Ljava/lang/Object;"⟩ : MethodName)) hown (mvT hZ (kw107 hw)) (mvT hZ (kw108 hw)) (mvT hZ (own_selP rfl (kw17 hw) (kw108 hw) (kw109 hw) (by decide))) (Cond.privateMethod_at (mvP hZ (kw109 hw) (args := #[]))) (mvT hZ (kw111 hw)) (by decide) (backOf (W := 0) (rmGrowI l Z a0 hw [] a1 w_DEF kD mc h0 n0 Z0 P0 P1 P2 P3 P4 P5 P6 P7) hZ (kw111 hw) (kw18 hw) (by decide) (by decide)) (g := (mkF m 7 #[.val (.ref a1)] [(.int 1), (.ref a1)])) rfl (by rw [hml]; rfl) (Steps.refl _) (a := a1) (by rw [e1]; exact q2) q2' (argsL := [(.int 1)]) (rest := []) (lenOf pd_7 rfl) rfl (by show 2 * 0 + _ ≤ _; exact Nat.le_of_eq rfl) (hb hby d17_7) (fun _ _ => ⟨rfl, e1, (by decide : 0 + 1 ≤ _), (by decide : 0 + 10 ≤ _)⟩)
  dsimp only [Pt.U, Pt.locs, Pt.cells, Pt.slots] at X2 l2 y2 z2 st2 hQ2
  subst l2 y2 z2
  obtain ⟨ed_2, kd_2, rfl, N2q, Kq2, p2_0, p2_1, p2_2, p2_3, p2_4, p2_5, p2_6⟩ := hQ2
  have N2 := Fr.app N0 N2q
  have Z2 : n0 ≤ T2.heap.size := Nat.le_trans Z0 Kq2.1
  have K2 : Keep h0 T2.heap [a1] := KR.trans Kq2 (allS (Or.inl (List.mem_of_getElem? (i := 0) rfl)) all0)
  have sz_ed_2 : h0.size ≤ ed_2 := Nat.le_trans KR.1 p2_1
  have ne2_a1_ed_2 : a1 ≠ ed_2 := Nat.ne_of_lt (Nat.lt_of_lt_of_le P2.lt p2_1)
  have ne2_w_DEF_ed_2 : w_DEF ≠ ed_2 := Nat.ne_of_lt (Nat.lt_of_lt_of_le P7.lt p2_1)
  obtain ⟨fs, hr, hrun, hended, hW, hsame⟩ := X2.leave (v := some (.ref ed_2)) (fun h => by rw [Bd.returns] at h; cases h)
  refine ⟨_, _, pre0 _ ?_, hrun, hended, _, _, rfl, ?_, ⟨_, rfl⟩, hW, hsame.mono (by decide) (by decide)⟩
  · skip
    refine XS.aloadN X0.here hx rfl (hb hby d17_0) rfl rfl ?_
    refine XS.aloadN X0.here hx rfl (hb hby d17_1) rfl rfl ?_
    refine st1 _ ?_
    refine XS.iconst X1.here hx rfl (hb hby d17_5) ?_
    refine XS.iadd X1.here hx rfl (hb hby d17_6) rfl ?_
    refine st2.trans ?_
    show Steps p.tables e below (T2.setTop (mkF m 10 #[.val (.ref a1)] [(.ref ed_2)])) _
    jvm_step X2.here [X2.here.top, hx, (hb hby d17_10), X2.method', Bd.returns, Value.isRef, FieldType.isReference]
    first | (intro acts; rw [hr _ acts rfl rfl rfl]) | rw [hr _ _ rfl rfl rfl]
    exact Steps.refl _
  · show Q_rmGrow Z a1 w_DEF kD mc h0 n0 _ T2.heap _
    exact ⟨ed_2, kd_2, rfl, N2, K2, p2_0, sz_ed_2, p2_2, p2_3, p2_4, p2_5, p2_6⟩
theorem ef_rmPadd0 (m : MethodId) (x0 : Addr) (x1 : Addr) (x2 : Addr) (x3 : Int32) : entryFrame m #[(.ref x0), (.ref x1), (.ref x2), (.int x3)] 4 = mkF m 0 #[.val (.ref x0), .val (.ref x1), .val (.ref x2), .val (.int x3)] [] := by first | (simp [entryFrame, mkF, argsToLocals, Value.category]; done) | rfl
def Q_rmPadd0 (Z : State) (a1 : Addr) (x2 : Addr) (w_DEF : Addr) (kD : ClassId) (mc : Int32) (h0 : Heap) (n0 : Nat) (v : Option Value) (h : Heap) (L : List Loc) : Prop := ∃ ed : Addr, ∃ kd : ClassId, v = none ∧ Fr n0 L ∧ Keep h0 h [a1] ∧ n0 ≤ ed ∧ h0.size ≤ ed ∧ Arv Z h ed kd (.object "java/lang/Object") (10 : Int32) [(.ref x2), .null, .null, .null, .null, .null, .null, .null, .null, .null] .null ∧ Fld Z h a1 "java/util/AbstractList" "modCount" "I" (.int mc) ∧ Fld Z h a1 "java/util/ArrayList" "size" "I" (.int 1) ∧ Fld Z h a1 "java/util/ArrayList" "elementData" "[Ljava/lang/Object;" (.ref ed) ∧ Ovr Z kd "java/lang/Object"
set_option maxRecDepth 65536 in
set_option maxHeartbeats 40000000 in
theorem rmPadd0 (l : Launch) (Z : State) (a0 : Array Value) (hw : ∀ d ∈ own_tab, d.before a0 Z = true) (ws : List Jvm.Cond) (a1 : Addr) (x2 : Addr) (w_DEF : Addr) (kD : ClassId) (mc : Int32) (h0 : Heap) (n0 : Nat) (Z0 : n0 ≤ h0.size) (P0 : Old Z n0 h0) (P1 : Sta Z Z.heap "java/util/ArrayList" "DEFAULTCAPACITY_EMPTY_ELEMENTDATA" "[Ljava/lang/Object;" (.ref w_DEF)) (P2 : Exa Z h0 a1 "java/util/ArrayList") (P3 : n0 ≤ a1) (P4 : Exa Z h0 x2 "com/example/rank_keeper/rankkeeper/BodyLines$Line") (P5 : Fld Z h0 a1 "java/util/AbstractList" "modCount" "I" (.int mc)) (P6 : Fld Z h0 a1 "java/util/ArrayList" "size" "I" (.int 0)) (P7 : Fld Z h0 a1 "java/util/ArrayList" "elementData" "[Ljava/lang/Object;" (.ref w_DEF)) (P8 : Arv Z h0 w_DEF kD (.object "java/lang/Object") (0 : Int32) [] .null) :
    MetFree l (⟨"java/util/ArrayList", "add", "(Ljava/lang/Object;[Ljava/lang/Object;I)V"⟩ : MethodName) (head1 (Jvm.Cond.code (⟨"java/util/ArrayList", "add", "(Ljava/lang/Object;[Ljava/lang/Object;I)V"⟩ : MethodName) jdk_38_method_24_code 4 none :: ws) ({ frames := 3, cells := 1, slots := 10, locals := 41 } : Room)) (fun a U => a = #[(.ref a1), (.ref x2), (.ref w_DEF), (.int 0)] ∧ Z.Warmed39 U.vm ∧ U.heap = h0) (fun _ _ _ _ _ => True) (fun _ U o U' => ∃ v L, o = .returned v ∧ Q_rmPadd0 Z a1 x2 w_DEF kD mc h0 n0 v U'.heap L ∧ FrameEnd U o U' L ({ frames := 3, cells := 1, slots := 10, locals := 41 } : Room).cells ({ frames := 3, cells := 1, slots := 10, locals := 41 } : Room).slots) := by
  refine MetFree.of_bodySF (plainFor_of_name pn_3) hisR ?_
  intro p e s m args below meth c s₁ Bd hml0 hP hK
  obtain ⟨rfl, hZ, hh⟩ := hP
  have hx := Bd.exec
  have hby := Bd.bytes
  have hml : c.maxLocals = 4 := hml0
  have hown : s.vm.findClass "java/util/ArrayList" = some m.cls := findClass_of_methodNamed Bd.named
  have hnm := (name_of_methodNamed Bd.named Bd.method).1
  have X0 : Stand p l e ({ frames := 3, cells := 1, slots := 10, locals := 41 } : Room) s m #[(.ref a1), (.ref x2), (.ref w_DEF), (.int 0)] below meth c s₁ [] 0 0 := Stand.of_body Bd
  have e0 : s₁.heap = h0 := by rw [← hh, Bd.state]; rfl
  have N0 := Fr.nil n0
  have KR : Keep h0 h0 [a1] := Keep.refl h0 _
  have pre0 : ∀ t, Steps p.tables e below (s₁.setTop (mkF m 0 #[.val (.ref a1), .val (.ref x2), .val (.ref w_DEF), .val (.int 0)] [])) t → Steps p.tables e below (s₁.setTop (entryFrame m #[(.ref a1), (.ref x2), (.ref w_DEF), (.int 0)] 4)) t := fun t k => castTop (ef_rmPadd0 m (a1) (x2) (w_DEF) ((0 : Int32))) k
  obtain ⟨cl1, Ar1, -, S1, N1', -, -⟩ := id P8
  obtain ⟨cq2, q2, q2'⟩ := (P2).cell
  obtain ⟨_, _, ⟨T2, L2, k2, n2⟩, -, X2, ⟨Lc2, hQ2, l2, y2, z2⟩, st2⟩ := X0.privateBack hx (y := (⟨"java/util/ArrayList", "grow", "()[Ljava/lang/Object;"⟩ : MethodName)) hown (mvT hZ (kw102 hw)) (mvT hZ (kw103 hw)) (mvT hZ (own_selP rfl (kw17 hw) (kw103 hw) (kw104 hw) (by decide))) (Cond.privateMethod_at (mvP hZ (kw104 hw) (args := #[]))) (mvT hZ (kw106 hw)) (by decide) (backOf (W := 0) (rmGrow l Z a0 hw [] a1 w_DEF kD mc h0 n0 Z0 P0 P1 P2 P3 P5 P6 P7 P8) hZ (kw106 hw) (kw18 hw) (by decide) (by decide)) (g := (mkF m 7 #[.val (.ref a1), .val (.ref x2), .val (.ref w_DEF), .val (.int 0)] [(.ref a1)])) rfl (by rw [hml]; rfl) (Steps.refl _) (a := a1) (by rw [e0]; exact q2) q2' (argsL := []) (rest := []) (lenOf pd_8 rfl) rfl (by show 2 * 0 + _ ≤ _; exact Nat.le_of_eq rfl) (hb hby d16_7) (fun _ _ => ⟨rfl, e0, (by decide : 0 + 1 ≤ _), (by decide : 0 + 10 ≤ _)⟩)
  dsimp only [Pt.U, Pt.locs, Pt.cells, Pt.slots] at X2 l2 y2 z2 st2 hQ2
  subst l2 y2 z2
  obtain ⟨ed_2, kd_2, rfl, N2q, Kq2, p2_0, p2_1, p2_2, p2_3, p2_4, p2_5, p2_6⟩ := hQ2
  have N2 := Fr.app N0 N2q
  have Z2 : n0 ≤ T2.heap.size := Nat.le_trans Z0 Kq2.1
  have K2 : Keep h0 T2.heap [a1] := KR.trans Kq2 (allS (Or.inl (List.mem_of_getElem? (i := 0) rfl)) all0)
  have sz_ed_2 : h0.size ≤ ed_2 := Nat.le_trans KR.1 p2_1
  have ne2_a1_ed_2 : a1 ≠ ed_2 := Nat.ne_of_lt (Nat.lt_of_lt_of_le P2.lt p2_1)
  have ne2_w_DEF_ed_2 : w_DEF ≠ ed_2 := Nat.ne_of_lt (Nat.lt_of_lt_of_le P8.lt p2_1)
  have ne2_x2_ed_2 : x2 ≠ ed_2 := Nat.ne_of_lt (Nat.lt_of_lt_of_le P4.lt p2_1)
  obtain ⟨cl3, Ar3, q3, S3, N3', H3, G3⟩ := id p2_2
  have hin3 : ¬ ((0 : Int32) < 0 ∨ cl3.slots.size ≤ ((0 : Int32)).toNatClampNeg) := inb_of S3 ⟨by decide, by decide⟩
  have f4 : Exa Z T2.heap x2 "com/example/rank_keeper/rankkeeper/BodyLines$Line" := (P4.keep Kq2)
  obtain ⟨T3, h3, X3, e3, W3, st3⟩ := stR X2 hx hZ rfl Ar3 (j := (0 : Int32)) hin3 rfl (Sto.ofV Ar3 q3 p2_6 (Ins.of_exa f4 (kw118 hw))) (g := (mkF m 14 #[.val (.ref a1), .val (.ref x2), .val (.ref ed_2), .val (.int 0)] [(.ref x2), (.int 0), (.ref ed_2)])) rfl rfl (hb hby d16_14)
  have Z3 : n0 ≤ h3.size := Nat.le_trans Z2 (Keep.of_wr W3).1
  have K3 : Keep h0 h3 [a1] := K2.wr W3 (Or.inr sz_ed_2)
  have N3 := Fr.snoc X3 N2 p2_0
  have V3 : Arv Z h3 ed_2 kd_2 (.object "java/lang/Object") (10 : Int32) ([.null, .null, .null, .null, .null, .null, .null, .null, .null, .null].set 0 (.ref x2)) .null := Arv.set Ar3 q3 S3 N3' H3 G3 rfl W3 0 rfl (Nat.le_of_ble_eq_true rfl)
  have Vs3 : Arv Z h3 ed_2 kd_2 (.object "java/lang/Object") (10 : Int32) [(.ref x2), .null, .null, .null, .null, .null, .null, .null, .null, .null] .null := V3
  have f5 : Exa Z h3 a1 "java/util/ArrayList" := ((P2.keep Kq2).wr W3)
  have f6 : Fld Z h3 a1 "java/util/ArrayList" "size" "I" (.int 0) := (p2_4.other W3 (Or.inl ne2_a1_ed_2))
  obtain ⟨T7, h7, X7, e7, W7, st7⟩ := putF X3 hx hZ hown (host := "") (Or.inl (kw58 hw)) Via.refl e3 f6 f5 (Or.inl (kw59 hw)) (kw17 hw) (ty := .int) (by decide) rfl rfl (g := (mkF m 19 #[.val (.ref a1), .val (.ref x2), .val (.ref ed_2), .val (.int 0)] [(.int 1), (.ref a1)])) rfl rfl (hb hby d16_19)
  have Z7 : n0 ≤ h7.size := Nat.le_trans Z3 (Keep.of_wr W7).1
  have K7 : Keep h0 h7 [a1] := K3.wr W7 (Or.inl (List.mem_of_getElem? (i := 0) rfl))
  have N7 := Fr.snoc X7 N3 P3
  have Fw7 : Fld Z h7 a1 "java/util/ArrayList" "size" "I" (.int 1) := f6.same W7
  have f8 : Arv Z h7 ed_2 kd_2 (.object "java/lang/Object") (10 : Int32) [(.ref x2), .null, .null, .null, .null, .null, .null, .null, .null, .null] .null := (Vs3.other W7 (Ne.symm ne2_a1_ed_2))
  have f9 : Fld Z h7 a1 "java/util/AbstractList" "modCount" "I" (.int mc) := ((p2_3.other W3 (Or.inl ne2_a1_ed_2)).other W7 (Or.inr (slot_ne (Or.inl (kw38 hw)) (Or.inl (kw59 hw)) (by decide) (t := .int) (t' := .int) (by decide) (by decide))))
  have f10 : Fld Z h7 a1 "java/util/ArrayList" "elementData" "[Ljava/lang/Object;" (.ref ed_2) := ((p2_5.other W3 (Or.inl ne2_a1_ed_2)).other W7 (Or.inr (slot_ne (Or.inl (kw41 hw)) (Or.inl (kw59 hw)) (by decide) (t := (.array (.object "java/lang/Object"))) (t' := .int) (by decide) (by decide))))
  obtain ⟨fs, hr, hrun, hended, hW, hsame⟩ := X7.leave (v := none) (fun _ => rfl)
  refine ⟨_, _, pre0 _ ?_, hrun, hended, _, _, rfl, ?_, ⟨_, rfl⟩, hW, hsame.mono (by decide) (by decide)⟩
  · skip
    refine XS.iloadN X0.here hx rfl (hb hby d16_0) rfl ?_
    refine XS.aloadN X0.here hx rfl (hb hby d16_1) rfl rfl ?_
    refine X0.arraylength hx (by rw [e0]; exact Ar1.1) (State.isArrayOf_alike hZ.alike Ar1.2.1) (g := (mkF m 2 #[.val (.ref a1), .val (.ref x2), .val (.ref w_DEF), .val (.int 0)] [(.ref w_DEF), (.int 0)])) rfl rfl (hb hby d16_2) _ ?_
    rw [len_of S1 N1']
    refine XS.icmpNo X0.here hx rfl (hb hby d16_3) rfl (teq rfl).2 ?_
    refine XS.aloadN X0.here hx rfl (hb hby d16_6) rfl rfl ?_
    refine st2.trans ?_
    refine XS.astoreN X2.here hx rfl (hb hby d16_10) rfl rfl (l' := #[.val (.ref a1), .val (.ref x2), .val (.ref ed_2), .val (.int 0)]) rfl ?_
    refine XS.aloadN X2.here hx rfl (hb hby d16_11) rfl rfl ?_
    refine XS.iloadN X2.here hx rfl (hb hby d16_12) rfl ?_
    refine XS.aloadN X2.here hx rfl (hb hby d16_13) rfl rfl ?_
    refine st3 _ ?_
    refine XS.aloadN X3.here hx rfl (hb hby d16_15) rfl rfl ?_
    refine XS.iloadN X3.here hx rfl (hb hby d16_16) rfl ?_
    refine XS.iconst X3.here hx rfl (hb hby d16_17) ?_
    refine XS.iadd X3.here hx rfl (hb hby d16_18) rfl ?_
    refine st7 _ ?_
    show Steps p.tables e below (T7.setTop (mkF m 22 #[.val (.ref a1), .val (.ref x2), .val (.ref ed_2), .val (.int 0)] [])) _
    exact X7.returnOut hx Bd.returns (hb hby d16_22) hr
  · show Q_rmPadd0 Z a1 x2 w_DEF kD mc h0 n0 _ T7.heap _
    rw [e7]
    exact ⟨ed_2, kd_2, rfl, N7, K7, p2_0, sz_ed_2, f8, f9, Fw7, f10, p2_6⟩
theorem ef_rmPadd1 (m : MethodId) (x0 : Addr) (x1 : Addr) (x2 : Addr) (x3 : Int32) : entryFrame m #[(.ref x0), (.ref x1), (.ref x2), (.int x3)] 4 = mkF m 0 #[.val (.ref x0), .val (.ref x1), .val (.ref x2), .val (.int x3)] [] := by first | (simp [entryFrame, mkF, argsToLocals, Value.category]; done) | rfl
def Q_rmPadd1 (Z : State) (a1 : Addr) (x2 : Addr) (ed : Addr) (kd : ClassId) (mc : Int32) (y0 : Addr) (h0 : Heap) (n0 : Nat) (v : Option Value) (h : Heap) (L : List Loc) : Prop := v = none ∧ Fr n0 L ∧ Keep h0 h [a1, ed] ∧ Arv Z h ed kd (.object "java/lang/Object") (10 : Int32) [(.ref y0), (.ref x2), .null, .null, .null, .null, .null, .null, .null, .null] .null ∧ Fld Z h a1 "java/util/AbstractList" "modCount" "I" (.int mc) ∧ Fld Z h a1 "java/util/ArrayList" "size" "I" (.int 2) ∧ Fld Z h a1 "java/util/ArrayList" "elementData" "[Ljava/lang/Object;" (.ref ed)
set_option maxRecDepth 65536 in
set_option maxHeartbeats 40000000 in
theorem rmPadd1 (l : Launch) (Z : State) (a0 : Array Value) (hw : ∀ d ∈ own_tab, d.before a0 Z = true) (ws : List Jvm.Cond) (a1 : Addr) (x2 : Addr) (ed : Addr) (kd : ClassId) (mc : Int32) (y0 : Addr) (h0 : Heap) (n0 : Nat) (Z0 : n0 ≤ h0.size) (P0 : Exa Z h0 a1 "java/util/ArrayList") (P1 : n0 ≤ a1) (P2 : Exa Z h0 x2 "com/example/rank_keeper/rankkeeper/BodyLines$Line") (P3 : Fld Z h0 a1 "java/util/AbstractList" "modCount" "I" (.int mc)) (P4 : Fld Z h0 a1 "java/util/ArrayList" "size" "I" (.int 1)) (P5 : Fld Z h0 a1 "java/util/ArrayList" "elementData" "[Ljava/lang/Object;" (.ref ed)) (P6 : Arv Z h0 ed kd (.object "java/lang/Object") (10 : Int32) [(.ref y0), .null, .null, .null, .null, .null, .null, .null, .null, .null] .null) (P7 : n0 ≤ ed) (P8 : ed ≠ a1) (hov : Ovr Z kd "java/lang/Object") :
    MetFree l (⟨"java/util/ArrayList", "add", "(Ljava/lang/Object;[Ljava/lang/Object;I)V"⟩ : MethodName) (head1 (Jvm.Cond.code (⟨"java/util/ArrayList", "add", "(Ljava/lang/Object;[Ljava/lang/Object;I)V"⟩ : MethodName) jdk_38_method_24_code 4 none :: ws) ({ frames := 0, cells := 0, slots := 0, locals := 0 } : Room)) (fun a U => a = #[(.ref a1), (.ref x2), (.ref ed), (.int 1)] ∧ Z.Warmed39 U.vm ∧ U.heap = h0) (fun _ _ _ _ _ => True) (fun _ U o U' => ∃ v L, o = .returned v ∧ Q_rmPadd1 Z a1 x2 ed kd mc y0 h0 n0 v U'.heap L ∧ FrameEnd U o U' L ({ frames := 0, cells := 0, slots := 0, locals := 0 } : Room).cells ({ frames := 0, cells := 0, slots := 0, locals := 0 } : Room).slots) := by
  refine MetFree.of_bodySF (plainFor_of_name pn_3) hisR ?_
  intro p e s m args below meth c s₁ Bd hml0 hP hK
  obtain ⟨rfl, hZ, hh⟩ := hP
  have hx := Bd.exec
  have hby := Bd.bytes
  have hml : c.maxLocals = 4 := hml0
  have hown : s.vm.findClass "java/util/ArrayList" = some m.cls := findClass_of_methodNamed Bd.named
  have hnm := (name_of_methodNamed Bd.named Bd.method).1
  have X0 : Stand p l e ({ frames := 0, cells := 0, slots := 0, locals := 0 } : Room) s m #[(.ref a1), (.ref x2), (.ref ed), (.int 1)] below meth c s₁ [] 0 0 := Stand.of_body Bd
  have e0 : s₁.heap = h0 := by rw [← hh, Bd.state]; rfl
  have N0 := Fr.nil n0
  have KR : Keep h0 h0 [a1, ed] := Keep.refl h0 _
  have pre0 : ∀ t, Steps p.tables e below (s₁.setTop (mkF m 0 #[.val (.ref a1), .val (.ref x2), .val (.ref ed), .val (.int 1)] [])) t → Steps p.tables e below (s₁.setTop (entryFrame m #[(.ref a1), (.ref x2), (.ref ed), (.int 1)] 4)) t := fun t k => castTop (ef_rmPadd1 m (a1) (x2) (ed) ((1 : Int32))) k
  obtain ⟨cl1, Ar1, -, S1, N1', -, -⟩ := id P6
  obtain ⟨cl2, Ar2, q2, S2, N2', H2, G2⟩ := id P6
  have hin2 : ¬ ((1 : Int32) < 0 ∨ cl2.slots.size ≤ ((1 : Int32)).toNatClampNeg) := inb_of S2 ⟨by decide, by decide⟩
  obtain ⟨T2, h2, X2, e2, W2, st2⟩ := stR X0 hx hZ e0 Ar2 (j := (1 : Int32)) hin2 rfl (Sto.ofV Ar2 q2 hov (Ins.of_exa P2 (kw118 hw))) (g := (mkF m 14 #[.val (.ref a1), .val (.ref x2), .val (.ref ed), .val (.int 1)] [(.ref x2), (.int 1), (.ref ed)])) rfl rfl (hb hby d16_14)
  have Z2 : n0 ≤ h2.size := Nat.le_trans Z0 (Keep.of_wr W2).1
  have K2 : Keep h0 h2 [a1, ed] := KR.wr W2 (Or.inl (List.mem_of_getElem? (i := 1) rfl))
  have N2 := Fr.snoc X2 N0 P7
  have V2 : Arv Z h2 ed kd (.object "java/lang/Object") (10 : Int32) ([(.ref y0), .null, .null, .null, .null, .null, .null, .null, .null, .null].set 1 (.ref x2)) .null := Arv.set Ar2 q2 S2 N2' H2 G2 rfl W2 1 rfl (Nat.le_of_ble_eq_true rfl)
  have Vs2 : Arv Z h2 ed kd (.object "java/lang/Object") (10 : Int32) [(.ref y0), (.ref x2), .null, .null, .null, .null, .null, .null, .null, .null] .null := V2
  have f3 : Exa Z h2 a1 "java/util/ArrayList" := (P0.wr W2)
  have f4 : Fld Z h2 a1 "java/util/ArrayList" "size" "I" (.int 1) := (P4.other W2 (Or.inl (Ne.symm P8)))
  obtain ⟨T5, h5, X5, e5, W5, st5⟩ := putF X2 hx hZ hown (host := "") (Or.inl (kw58 hw)) Via.refl e2 f4 f3 (Or.inl (kw59 hw)) (kw17 hw) (ty := .int) (by decide) rfl rfl (g := (mkF m 19 #[.val (.ref a1), .val (.ref x2), .val (.ref ed), .val (.int 1)] [(.int 2), (.ref a1)])) rfl rfl (hb hby d16_19)
  have Z5 : n0 ≤ h5.size := Nat.le_trans Z2 (Keep.of_wr W5).1
  have K5 : Keep h0 h5 [a1, ed] := K2.wr W5 (Or.inl (List.mem_of_getElem? (i := 0) rfl))
  have N5 := Fr.snoc X5 N2 P1
  have Fw5 : Fld Z h5 a1 "java/util/ArrayList" "size" "I" (.int 2) := f4.same W5
  have f6 : Arv Z h5 ed kd (.object "java/lang/Object") (10 : Int32) [(.ref y0), (.ref x2), .null, .null, .null, .null, .null, .null, .null, .null] .null := (Vs2.other W5 P8)
  have f7 : Fld Z h5 a1 "java/util/AbstractList" "modCount" "I" (.int mc) := ((P3.other W2 (Or.inl (Ne.symm P8))).other W5 (Or.inr (slot_ne (Or.inl (kw38 hw)) (Or.inl (kw59 hw)) (by decide) (t := .int) (t' := .int) (by decide) (by decide))))
  have f8 : Fld Z h5 a1 "java/util/ArrayList" "elementData" "[Ljava/lang/Object;" (.ref ed) := ((P5.other W2 (Or.inl (Ne.symm P8))).other W5 (Or.inr (slot_ne (Or.inl (kw41 hw)) (Or.inl (kw59 hw)) (by decide) (t := (.array (.object "java/lang/Object"))) (t' := .int) (by decide) (by decide))))
  obtain ⟨fs, hr, hrun, hended, hW, hsame⟩ := X5.leave (v := none) (fun _ => rfl)
  refine ⟨_, _, pre0 _ ?_, hrun, hended, _, _, rfl, ?_, ⟨_, rfl⟩, hW, hsame.mono (by decide) (by decide)⟩
  · skip
    refine XS.iloadN X0.here hx rfl (hb hby d16_0) rfl ?_
    refine XS.aloadN X0.here hx rfl (hb hby d16_1) rfl rfl ?_
    refine X0.arraylength hx (by rw [e0]; exact Ar1.1) (State.isArrayOf_alike hZ.alike Ar1.2.1) (g := (mkF m 2 #[.val (.ref a1), .val (.ref x2), .val (.ref ed), .val (.int 1)] [(.ref ed), (.int 1)])) rfl rfl (hb hby d16_2) _ ?_
    rw [len_of S1 N1']
    refine XS.icmpYes X0.here hx rfl (pc0 := 3) (pc' := 11) rfl (hb hby d16_3) rfl (feq (by decide : ¬ ((1 : Int32) = (10 : Int32)))).2 (by decide) (by decide) ?_
    refine XS.aloadN X0.here hx rfl (hb hby d16_11) rfl rfl ?_
    refine XS.iloadN X0.here hx rfl (hb hby d16_12) rfl ?_
    refine XS.aloadN X0.here hx rfl (hb hby d16_13) rfl rfl ?_
    refine st2 _ ?_
    refine XS.aloadN X2.here hx rfl (hb hby d16_15) rfl rfl ?_
    refine XS.iloadN X2.here hx rfl (hb hby d16_16) rfl ?_
    refine XS.iconst X2.here hx rfl (hb hby d16_17) ?_
    refine XS.iadd X2.here hx rfl (hb hby d16_18) rfl ?_
    refine st5 _ ?_
    show Steps p.tables e below (T5.setTop (mkF m 22 #[.val (.ref a1), .val (.ref x2), .val (.ref ed), .val (.int 1)] [])) _
    exact X5.returnOut hx Bd.returns (hb hby d16_22) hr
  · show Q_rmPadd1 Z a1 x2 ed kd mc y0 h0 n0 _ T5.heap _
    rw [e5]
    exact ⟨rfl, N5, K5, f6, f7, Fw5, f8⟩
theorem ef_rmAdd0 (m : MethodId) (x0 : Addr) (x1 : Addr) : entryFrame m #[(.ref x0), (.ref x1)] 2 = mkF m 0 #[.val (.ref x0), .val (.ref x1)] [] := by first | (simp [entryFrame, mkF, argsToLocals, Value.category]; done) | rfl
def Q_rmAdd0 (Z : State) (a1 : Addr) (x2 : Addr) (w_DEF : Addr) (kD : ClassId) (mc : Int32) (h0 : Heap) (n0 : Nat) (v : Option Value) (h : Heap) (L : List Loc) : Prop := ∃ ed : Addr, ∃ kd : ClassId, v = some (.int 1) ∧ Fr n0 L ∧ Keep h0 h [a1] ∧ n0 ≤ ed ∧ h0.size ≤ ed ∧ Arv Z h ed kd (.object "java/lang/Object") (10 : Int32) [(.ref x2), .null, .null, .null, .null, .null, .null, .null, .null, .null] .null ∧ Fld Z h a1 "java/util/AbstractList" "modCount" "I" (.int (mc + (1 : Int32))) ∧ Fld Z h a1 "java/util/ArrayList" "size" "I" (.int 1) ∧ Fld Z h a1 "java/util/ArrayList" "elementData" "[Ljava/lang/Object;" (.ref ed) ∧ Ovr Z kd "java/lang/Object"
set_option maxRecDepth 65536 in
set_option maxHeartbeats 40000000 in
theorem rmAdd0 (l : Launch) (Z : State) (a0 : Array Value) (hw : ∀ d ∈ own_tab, d.before a0 Z = true) (ws : List Jvm.Cond) (a1 : Addr) (x2 : Addr) (w_DEF : Addr) (kD : ClassId) (mc : Int32) (h0 : Heap) (n0 : Nat) (Z0 : n0 ≤ h0.size) (P0 : Old Z n0 h0) (P1 : Sta Z Z.heap "java/util/ArrayList" "DEFAULTCAPACITY_EMPTY_ELEMENTDATA" "[Ljava/lang/Object;" (.ref w_DEF)) (P2 : Exa Z h0 a1 "java/util/ArrayList") (P3 : n0 ≤ a1) (P4 : Exa Z h0 x2 "com/example/rank_keeper/rankkeeper/BodyLines$Line") (P5 : Fld Z h0 a1 "java/util/AbstractList" "modCount" "I" (.int mc)) (P6 : Fld Z h0 a1 "java/util/ArrayList" "size" "I" (.int 0)) (P7 : Fld Z h0 a1 "java/util/ArrayList" "elementData" "[Ljava/lang/Object;" (.ref w_DEF)) (P8 : Arv Z h0 w_DEF kD (.object "java/lang/Object") (0 : Int32) [] .null) (P9 : w_DEF ≠ a1) :
    MetFree l (⟨"java/util/ArrayList", "add", "(Ljava/lang/Object;)Z"⟩ : MethodName) (head1 (Jvm.Cond.code (⟨"java/util/ArrayList", "add", "(Ljava/lang/Object;)Z"⟩ : MethodName) jdk_38_method_25_code 2 (some .boolean) :: ws) ({ frames := 4, cells := 1, slots := 10, locals := 56 } : Room)) (fun a U => a = #[(.ref a1), (.ref x2)] ∧ Z.Warmed39 U.vm ∧ U.heap = h0) (fun _ _ _ _ _ => True) (fun _ U o U' => ∃ v L, o = .returned v ∧ Q_rmAdd0 Z a1 x2 w_DEF kD mc h0 n0 v U'.heap L ∧ FrameEnd U o U' L ({ frames := 4, cells := 1, slots := 10, locals := 56 } : Room).cells ({ frames := 4, cells := 1, slots := 10, locals := 56 } : Room).slots) := by
  refine MetFree.of_bodySF (plainFor_of_name pn_3) hisR ?_
  intro p e s m args below meth c s₁ Bd hml0 hP hK
  obtain ⟨rfl, hZ, hh⟩ := hP
  have hx := Bd.exec
  have hby := Bd.bytes
  have hml : c.maxLocals = 2 := hml0
  have hown : s.vm.findClass "java/util/ArrayList" = some m.cls := findClass_of_methodNamed Bd.named
  have hnm := (name_of_methodNamed Bd.named Bd.method).1
  have X0 : Stand p l e ({ frames := 4, cells := 1, slots := 10, locals := 56 } : Room) s m #[(.ref a1), (.ref x2)] below meth c s₁ [] 0 0 := Stand.of_body Bd
  have e0 : s₁.heap = h0 := by rw [← hh, Bd.state]; rfl
  have N0 := Fr.nil n0
  have KR : Keep h0 h0 [a1] := Keep.refl h0 _
  have pre0 : ∀ t, Steps p.tables e below (s₁.setTop (mkF m 0 #[.val (.ref a1), .val (.ref x2)] [])) t → Steps p.tables e below (s₁.setTop (entryFrame m #[(.ref a1), (.ref x2)] 2)) t := fun t k => castTop (ef_rmAdd0 m (a1) (x2)) k
  obtain ⟨T1, X1, e1, st1⟩ := getF X0 hx hZ hown (host := "") (Or.inl (kw95 hw)) (Via.of (kw96 hw)) e0 P5 (g := (mkF m 2 #[.val (.ref a1), .val (.ref x2)] [(.ref a1), (.ref a1)])) rfl rfl (hb hby d15_2)
  obtain ⟨T2, h2, X2, e2, W2, st2⟩ := putF X1 hx hZ hown (host := "") (Or.inl (kw95 hw)) (Via.of (kw96 hw)) e1 P5 P2 (Or.inl (kw38 hw)) (kw17 hw) (ty := .int) (by decide) rfl rfl (g := (mkF m 7 #[.val (.ref a1), .val (.ref x2)] [(.int (mc + (1 : Int32))), (.ref a1)])) rfl rfl (hb hby d15_7)
  have Z2 : n0 ≤ h2.size := Nat.le_trans Z0 (Keep.of_wr W2).1
  have K2 : Keep h0 h2 [a1] := KR.wr W2 (Or.inl (List.mem_of_getElem? (i := 0) rfl))
  have N2 := Fr.snoc X2 N0 P3
  have Fw2 : Fld Z h2 a1 "java/util/AbstractList" "modCount" "I" (.int (mc + (1 : Int32))) := P5.same W2
  have f3 : Fld Z h2 a1 "java/util/ArrayList" "elementData" "[Ljava/lang/Object;" (.ref w_DEF) := (P7.other W2 (Or.inr (slot_ne (Or.inl (kw41 hw)) (Or.inl (kw38 hw)) (by decide) (t := (.array (.object "java/lang/Object"))) (t' := .int) (by decide) (by decide))))
  obtain ⟨T4, X4, e4, st4⟩ := getF X2 hx hZ hown (host := "") (Or.inl (kw40 hw)) Via.refl e2 f3 (g := (mkF m 13 #[.val (.ref a1), .val (.ref x2)] [(.ref a1), (.ref x2), (.ref a1)])) rfl rfl (hb hby d15_13)
  have f5 : Fld Z h2 a1 "java/util/ArrayList" "size" "I" (.int 0) := (P6.other W2 (Or.inr (slot_ne (Or.inl (kw59 hw)) (Or.inl (kw38 hw)) (by decide) (t := .int) (t' := .int) (by decide) (by decide))))
  obtain ⟨T6, X6, e6, st6⟩ := getF X4 hx hZ hown (host := "") (Or.inl (kw58 hw)) Via.refl e4 f5 (g := (mkF m 17 #[.val (.ref a1), .val (.ref x2)] [(.ref a1), (.ref w_DEF), (.ref x2), (.ref a1)])) rfl rfl (hb hby d15_17)
  have f8 : Old Z n0 h2 := (P0.wr W2 P3)
  have f9 : Exa Z h2 a1 "java/util/ArrayList" := (P2.wr W2)
  have f10 : Exa Z h2 x2 "com/example/rank_keeper/rankkeeper/BodyLines$Line" := (P4.wr W2)
  have f11 : Arv Z h2 w_DEF kD (.object "java/lang/Object") (0 : Int32) [] .null := (P8.other W2 P9)
  obtain ⟨cq7, q7, q7'⟩ := (f9).cell
  obtain ⟨_, _, ⟨T7, L7, k7, n7⟩, -, X7, ⟨Lc7, hQ7, l7, y7, z7⟩, st7⟩ := X6.privateBack hx (y := (⟨"java/util/ArrayList", "add", "(Ljava/lang/Object;[Ljava/lang/Object;I)V"⟩ : MethodName)) hown (mvT hZ (kw97 hw)) (mvT hZ (kw98 hw)) (mvT hZ (own_selP rfl (kw17 hw) (kw98 hw) (kw99 hw) (by decide))) (Cond.privateMethod_at (mvP hZ (kw99 hw) (args := #[]))) (mvT hZ (kw101 hw)) (by decide) (backOf (W := 0) (rmPadd0 l Z a0 hw [] a1 x2 w_DEF kD (mc + (1 : Int32)) h2 n0 Z2 f8 P1 f9 P3 f10 Fw2 f5 f3 f11) hZ (kw101 hw) (kw18 hw) (by decide) (by decide)) (g := (mkF m 20 #[.val (.ref a1), .val (.ref x2)] [(.int 0), (.ref w_DEF), (.ref x2), (.ref a1)])) rfl (by rw [hml]; rfl) (Steps.refl _) (a := a1) (by rw [e6]; exact q7) q7' (argsL := [(.ref x2), (.ref w_DEF), (.int 0)]) (rest := []) (lenOf pd_9 rfl) rfl (by show 2 * 0 + _ ≤ _; exact Nat.le_of_eq rfl) (hb hby d15_20) (fun _ _ => ⟨rfl, e6, (by decide : 0 + 1 ≤ _), (by decide : 0 + 10 ≤ _)⟩)
  dsimp only [Pt.U, Pt.locs, Pt.cells, Pt.slots] at X7 l7 y7 z7 st7 hQ7
  subst l7 y7 z7
  obtain ⟨ed_7, kd_7, rfl, N7q, Kq7, p7_0, p7_1, p7_2, p7_3, p7_4, p7_5, p7_6⟩ := hQ7
  have N7 := Fr.app N2 N7q
  have Z7 : n0 ≤ T7.heap.size := Nat.le_trans Z2 Kq7.1
  have K7 : Keep h0 T7.heap [a1] := K2.trans Kq7 (allS (Or.inl (List.mem_of_getElem? (i := 0) rfl)) all0)
  have sz_ed_7 : h0.size ≤ ed_7 := Nat.le_trans K2.1 p7_1
  have ne7_a1_ed_7 : a1 ≠ ed_7 := Nat.ne_of_lt (Nat.lt_of_lt_of_le f9.lt p7_1)
  have ne7_w_DEF_ed_7 : w_DEF ≠ ed_7 := Nat.ne_of_lt (Nat.lt_of_lt_of_le f11.lt p7_1)
  have ne7_x2_ed_7 : x2 ≠ ed_7 := Nat.ne_of_lt (Nat.lt_of_lt_of_le f10.lt p7_1)
  obtain ⟨fs, hr, hrun, hended, hW, hsame⟩ := X7.leave (v := some (.int 1)) (fun h => by rw [Bd.returns] at h; cases h)
  refine ⟨_, _, pre0 _ ?_, hrun, hended, _, _, rfl, ?_, ⟨_, rfl⟩, hW, hsame.mono (by decide) (by decide)⟩
  · skip
    refine XS.aloadN X0.here hx rfl (hb hby d15_0) rfl rfl ?_
    refine XS.dup X0.here hx rfl (hb hby d15_1) rfl rfl ?_
    refine st1 _ ?_
    refine XS.iconst X1.here hx rfl (hb hby d15_5) ?_
    refine XS.iadd X1.here hx rfl (hb hby d15_6) rfl ?_
    refine st2 _ ?_
    refine XS.aloadN X2.here hx rfl (hb hby d15_10) rfl rfl ?_
    refine XS.aloadN X2.here hx rfl (hb hby d15_11) rfl rfl ?_
    refine XS.aloadN X2.here hx rfl (hb hby d15_12) rfl rfl ?_
    refine st4 _ ?_
    refine XS.aloadN X4.here hx rfl (hb hby d15_16) rfl rfl ?_
    refine st6 _ ?_
    refine st7.trans ?_
    refine XS.iconst X7.here hx rfl (hb hby d15_23) ?_
    show Steps p.tables e below (T7.setTop (mkF m 24 #[.val (.ref a1), .val (.ref x2)] [(.int 1)])) _
    exact retN X7 hx (t := .boolean) Bd.returns (by simp) (hb hby d15_24) hr
  · show Q_rmAdd0 Z a1 x2 w_DEF kD mc h0 n0 _ T7.heap _
    exact ⟨ed_7, kd_7, rfl, N7, K7, p7_0, sz_ed_7, p7_2, p7_3, p7_4, p7_5, p7_6⟩
theorem ef_rmAdd1 (m : MethodId) (x0 : Addr) (x1 : Addr) : entryFrame m #[(.ref x0), (.ref x1)] 2 = mkF m 0 #[.val (.ref x0), .val (.ref x1)] [] := by first | (simp [entryFrame, mkF, argsToLocals, Value.category]; done) | rfl
def Q_rmAdd1 (Z : State) (a1 : Addr) (x2 : Addr) (ed : Addr) (kd : ClassId) (mc : Int32) (y0 : Addr) (h0 : Heap) (n0 : Nat) (v : Option Value) (h : Heap) (L : List Loc) : Prop := v = some (.int 1) ∧ Fr n0 L ∧ Keep h0 h [a1, ed] ∧ Arv Z h ed kd (.object "java/lang/Object") (10 : Int32) [(.ref y0), (.ref x2), .null, .null, .null, .null, .null, .null, .null, .null] .null ∧ Fld Z h a1 "java/util/AbstractList" "modCount" "I" (.int (mc + (1 : Int32))) ∧ Fld Z h a1 "java/util/ArrayList" "size" "I" (.int 2) ∧ Fld Z h a1 "java/util/ArrayList" "elementData" "[Ljava/lang/Object;" (.ref ed)
set_option maxRecDepth 65536 in
set_option maxHeartbeats 40000000 in
theorem rmAdd1 (l : Launch) (Z : State) (a0 : Array Value) (hw : ∀ d ∈ own_tab, d.before a0 Z = true) (ws : List Jvm.Cond) (a1 : Addr) (x2 : Addr) (ed : Addr) (kd : ClassId) (mc : Int32) (y0 : Addr) (h0 : Heap) (n0 : Nat) (Z0 : n0 ≤ h0.size) (P0 : Exa Z h0 a1 "java/util/ArrayList") (P1 : n0 ≤ a1) (P2 : Exa Z h0 x2 "com/example/rank_keeper/rankkeeper/BodyLines$Line") (P3 : Fld Z h0 a1 "java/util/AbstractList" "modCount" "I" (.int mc)) (P4 : Fld Z h0 a1 "java/util/ArrayList" "size" "I" (.int 1)) (P5 : Fld Z h0 a1 "java/util/ArrayList" "elementData" "[Ljava/lang/Object;" (.ref ed)) (P6 : Arv Z h0 ed kd (.object "java/lang/Object") (10 : Int32) [(.ref y0), .null, .null, .null, .null, .null, .null, .null, .null, .null] .null) (P7 : n0 ≤ ed) (P8 : ed ≠ a1) (hov : Ovr Z kd "java/lang/Object") :
    MetFree l (⟨"java/util/ArrayList", "add", "(Ljava/lang/Object;)Z"⟩ : MethodName) (head1 (Jvm.Cond.code (⟨"java/util/ArrayList", "add", "(Ljava/lang/Object;)Z"⟩ : MethodName) jdk_38_method_25_code 2 (some .boolean) :: ws) ({ frames := 1, cells := 0, slots := 0, locals := 15 } : Room)) (fun a U => a = #[(.ref a1), (.ref x2)] ∧ Z.Warmed39 U.vm ∧ U.heap = h0) (fun _ _ _ _ _ => True) (fun _ U o U' => ∃ v L, o = .returned v ∧ Q_rmAdd1 Z a1 x2 ed kd mc y0 h0 n0 v U'.heap L ∧ FrameEnd U o U' L ({ frames := 1, cells := 0, slots := 0, locals := 15 } : Room).cells ({ frames := 1, cells := 0, slots := 0, locals := 15 } : Room).slots) := by
  refine MetFree.of_bodySF (plainFor_of_name pn_3) hisR ?_
  intro p e s m args below meth c s₁ Bd hml0 hP hK
  obtain ⟨rfl, hZ, hh⟩ := hP
  have hx := Bd.exec
  have hby := Bd.bytes
  have hml : c.maxLocals = 2 := hml0
  have hown : s.vm.findClass "java/util/ArrayList" = some m.cls := findClass_of_methodNamed Bd.named
  have hnm := (name_of_methodNamed Bd.named Bd.method).1
  have X0 : Stand p l e ({ frames := 1, cells := 0, slots := 0, locals := 15 } : Room) s m #[(.ref a1), (.ref x2)] below meth c s₁ [] 0 0 := Stand.of_body Bd
  have e0 : s₁.heap = h0 := by rw [← hh, Bd.state]; rfl
  have N0 := Fr.nil n0
  have KR : Keep h0 h0 [a1, ed] := Keep.refl h0 _
  have pre0 : ∀ t, Steps p.tables e below (s₁.setTop (mkF m 0 #[.val (.ref a1), .val (.ref x2)] [])) t → Steps p.tables e below (s₁.setTop (entryFrame m #[(.ref a1), (.ref x2)] 2)) t := fun t k => castTop (ef_rmAdd1 m (a1) (x2)) k
  obtain ⟨T1, X1, e1, st1⟩ := getF X0 hx hZ hown (host := "") (Or.inl (kw95 hw)) (Via.of (kw96 hw)) e0 P3 (g := (mkF m 2 #[.val (.ref a1), .val (.ref x2)] [(.ref a1), (.ref a1)])) rfl rfl (hb hby d15_2)
  obtain ⟨T2, h2, X2, e2, W2, st2⟩ := putF X1 hx hZ hown (host := "") (Or.inl (kw95 hw)) (Via.of (kw96 hw)) e1 P3 P0 (Or.inl (kw38 hw)) (kw17 hw) (ty := .int) (by decide) rfl rfl (g := (mkF m 7 #[.val (.ref a1), .val (.ref x2)] [(.int (mc + (1 : Int32))), (.ref a1)])) rfl rfl (hb hby d15_7)
  have Z2 : n0 ≤ h2.size := Nat.le_trans Z0 (Keep.of_wr W2).1
  have K2 : Keep h0 h2 [a1, ed] := KR.wr W2 (Or.inl (List.mem_of_getElem? (i := 0) rfl))
  have N2 := Fr.snoc X2 N0 P1
  have Fw2 : Fld Z h2 a1 "java/util/AbstractList" "modCount" "I" (.int (mc + (1 : Int32))) := P3.same W2
  have f3 : Fld Z h2 a1 "java/util/ArrayList" "elementData" "[Ljava/lang/Object;" (.ref ed) := (P5.other W2 (Or.inr (slot_ne (Or.inl (kw41 hw)) (Or.inl (kw38 hw)) (by decide) (t := (.array (.object "java/lang/Object"))) (t' := .int) (by decide) (by decide))))
  obtain ⟨T4, X4, e4, st4⟩ := getF X2 hx hZ hown (host := "") (Or.inl (kw40 hw)) Via.refl e2 f3 (g := (mkF m 13 #[.val (.ref a1), .val (.ref x2)] [(.ref a1), (.ref x2), (.ref a1)])) rfl rfl (hb hby d15_13)
  have f5 : Fld Z h2 a1 "java/util/ArrayList" "size" "I" (.int 1) := (P4.other W2 (Or.inr (slot_ne (Or.inl (kw59 hw)) (Or.inl (kw38 hw)) (by decide) (t := .int) (t' := .int) (by decide) (by decide))))
  obtain ⟨T6, X6, e6, st6⟩ := getF X4 hx hZ hown (host := "") (Or.inl (kw58 hw)) Via.refl e4 f5 (g := (mkF m 17 #[.val (.ref a1), .val (.ref x2)] [(.ref a1), (.ref ed), (.ref x2), (.ref a1)])) rfl rfl (hb hby d15_17)
  have f8 : Exa Z h2 a1 "java/util/ArrayList" := (P0.wr W2)
  have f9 : Exa Z h2 x2 "com/example/rank_keeper/rankkeeper/BodyLines$Line" := (P2.wr W2)
  have f10 : Arv Z h2 ed kd (.object "java/lang/Object") (10 : Int32) [(.ref y0), .null, .null, .null, .null, .null, .null, .null, .null, .null] .null := (P6.other W2 P8)
  obtain ⟨cq7, q7, q7'⟩ := (f8).cell
  obtain ⟨_, _, ⟨T7, L7, k7, n7⟩, -, X7, ⟨Lc7, hQ7, l7, y7, z7⟩, st7⟩ := X6.privateBack hx (y := (⟨"java/util/ArrayList", "add", "(Ljava/lang/Object;[Ljava/lang/Object;I)V"⟩ : MethodName)) hown (mvT hZ (kw97 hw)) (mvT hZ (kw98 hw)) (mvT hZ (own_selP rfl (kw17 hw) (kw98 hw) (kw99 hw) (by decide))) (Cond.privateMethod_at (mvP hZ (kw99 hw) (args := #[]))) (mvT hZ (kw101 hw)) (by decide) (backOf (W := 0) (rmPadd1 l Z a0 hw [] a1 x2 ed kd (mc + (1 : Int32)) y0 h2 n0 Z2 f8 P1 f9 Fw2 f5 f3 f10 P7 P8 hov) hZ (kw101 hw) (kw18 hw) (by decide) (by decide)) (g := (mkF m 20 #[.val (.ref a1), .val (.ref x2)] [(.int 1), (.ref ed), (.ref x2), (.ref a1)])) rfl (by rw [hml]; rfl) (Steps.refl _) (a := a1) (by rw [e6]; exact q7) q7' (argsL := [(.ref x2), (.ref ed), (.int 1)]) (rest := []) (lenOf pd_9 rfl) rfl (by show 2 * 0 + _ ≤ _; exact Nat.le_of_eq rfl) (hb hby d15_20) (fun _ _ => ⟨rfl, e6, (by decide : 0 + 0 ≤ _), (by decide : 0 + 0 ≤ _)⟩)
  dsimp only [Pt.U, Pt.locs, Pt.cells, Pt.slots] at X7 l7 y7 z7 st7 hQ7
  subst l7 y7 z7
  obtain ⟨rfl, N7q, Kq7, p7_0, p7_1, p7_2, p7_3⟩ := hQ7
  have N7 := Fr.app N2 N7q
  have Z7 : n0 ≤ T7.heap.size := Nat.le_trans Z2 Kq7.1
  have K7 : Keep h0 T7.heap [a1, ed] := K2.trans Kq7 (allS (Or.inl (List.mem_of_getElem? (i := 0) rfl)) (allS (Or.inl (List.mem_of_getElem? (i := 1) rfl)) all0))
  obtain ⟨fs, hr, hrun, hended, hW, hsame⟩ := X7.leave (v := some (.int 1)) (fun h => by rw [Bd.returns] at h; cases h)
  refine ⟨_, _, pre0 _ ?_, hrun, hended, _, _, rfl, ?_, ⟨_, rfl⟩, hW, hsame.mono (by decide) (by decide)⟩
  · skip
    refine XS.aloadN X0.here hx rfl (hb hby d15_0) rfl rfl ?_
    refine XS.dup X0.here hx rfl (hb hby d15_1) rfl rfl ?_
    refine st1 _ ?_
    refine XS.iconst X1.here hx rfl (hb hby d15_5) ?_
    refine XS.iadd X1.here hx rfl (hb hby d15_6) rfl ?_
    refine st2 _ ?_
    refine XS.aloadN X2.here hx rfl (hb hby d15_10) rfl rfl ?_
    refine XS.aloadN X2.here hx rfl (hb hby d15_11) rfl rfl ?_
    refine XS.aloadN X2.here hx rfl (hb hby d15_12) rfl rfl ?_
    refine st4 _ ?_
    refine XS.aloadN X4.here hx rfl (hb hby d15_16) rfl rfl ?_
    refine st6 _ ?_
    refine st7.trans ?_
    refine XS.iconst X7.here hx rfl (hb hby d15_23) ?_
    show Steps p.tables e below (T7.setTop (mkF m 24 #[.val (.ref a1), .val (.ref x2)] [(.int 1)])) _
    exact retN X7 hx (t := .boolean) Bd.returns (by simp) (hb hby d15_24) hr
  · show Q_rmAdd1 Z a1 x2 ed kd mc y0 h0 n0 _ T7.heap _
    exact ⟨rfl, N7, K7, p7_0, p7_1, p7_2, p7_3⟩
theorem ef_rm27 (m : MethodId) (x0 : Addr) (x1 : Int32) : entryFrame m #[(.ref x0), (.int x1)] 2 = mkF m 0 #[.val (.ref x0), .val (.int x1)] [] := by first | (simp [entryFrame, mkF, argsToLocals, Value.category]; done) | rfl
def Q_rm27 (Z : State) (a1 : Addr) (p1 : Int32) (ed : Addr) (kd : ClassId) (vs : List Value) (xx : Addr) (h0 : Heap) (n0 : Nat) (v : Option Value) (h : Heap) (L : List Loc) : Prop := v = some (.ref xx) ∧ Fr n0 L ∧ h = h0
set_option maxRecDepth 65536 in
set_option maxHeartbeats 40000000 in
theorem rm27 (l : Launch) (Z : State) (a0 : Array Value) (hw : ∀ d ∈ own_tab, d.before a0 Z = true) (ws : List Jvm.Cond) (a1 : Addr) (p1 : Int32) (ed : Addr) (kd : ClassId) (vs : List Value) (xx : Addr) (h0 : Heap) (n0 : Nat) (Z0 : n0 ≤ h0.size) (P0 : Fld Z h0 a1 "java/util/ArrayList" "elementData" "[Ljava/lang/Object;" (.ref ed)) (P1 : Arv Z h0 ed kd (.object "java/lang/Object") (10 : Int32) vs .null) (hi0 : ¬ p1 < (0 : Int32)) (hi2 : p1 < (10 : Int32)) (hv : vs.getD p1.toNatClampNeg .null = .ref xx) :
    MetFree l (⟨"java/util/ArrayList", "elementData", "(I)Ljava/lang/Object;"⟩ : MethodName) (head1 (Jvm.Cond.code (⟨"java/util/ArrayList", "elementData", "(I)Ljava/lang/Object;"⟩ : MethodName) jdk_38_method_18_code 2 (some (.object "java/lang/Object")) :: ws) ({ frames := 0, cells := 0, slots := 0, locals := 0 } : Room)) (fun a U => a = #[(.ref a1), (.int p1)] ∧ Z.Warmed39 U.vm ∧ U.heap = h0) (fun _ _ _ _ _ => True) (fun _ U o U' => ∃ v L, o = .returned v ∧ Q_rm27 Z a1 p1 ed kd vs xx h0 n0 v U'.heap L ∧ FrameEnd U o U' L ({ frames := 0, cells := 0, slots := 0, locals := 0 } : Room).cells ({ frames := 0, cells := 0, slots := 0, locals := 0 } : Room).slots) := by
  refine MetFree.of_bodySF (plainFor_of_name pn_3) hisR ?_
  intro p e s m args below meth c s₁ Bd hml0 hP hK
  obtain ⟨rfl, hZ, hh⟩ := hP
  have hx := Bd.exec
  have hby := Bd.bytes
  have hml : c.maxLocals = 2 := hml0
  have hown : s.vm.findClass "java/util/ArrayList" = some m.cls := findClass_of_methodNamed Bd.named
  have hnm := (name_of_methodNamed Bd.named Bd.method).1
  have X0 : Stand p l e ({ frames := 0, cells := 0, slots := 0, locals := 0 } : Room) s m #[(.ref a1), (.int p1)] below meth c s₁ [] 0 0 := Stand.of_body Bd
  have e0 : s₁.heap = h0 := by rw [← hh, Bd.state]; rfl
  have N0 := Fr.nil n0
  have KR : Keep h0 h0 [] := Keep.refl h0 _
  have pre0 : ∀ t, Steps p.tables e below (s₁.setTop (mkF m 0 #[.val (.ref a1), .val (.int p1)] [])) t → Steps p.tables e below (s₁.setTop (entryFrame m #[(.ref a1), (.int p1)] 2)) t := fun t k => castTop (ef_rm27 m (a1) (p1)) k
  obtain ⟨T1, X1, e1, st1⟩ := getF X0 hx hZ hown (host := "") (Or.inl (kw40 hw)) Via.refl e0 P0 (g := (mkF m 1 #[.val (.ref a1), .val (.int p1)] [(.ref a1)])) rfl rfl (hb hby d27_1)
  obtain ⟨cl2, Ar2, q2, S2, N2', H2, G2⟩ := id P1
  have hin2 : ¬ (p1 < 0 ∨ cl2.slots.size ≤ (p1).toNatClampNeg) := inb_of S2 ⟨hi0, hi2⟩
  have hat2 : cl2.slots[(p1).toNatClampNeg]? = some (.ref xx) := H2.at hin2 hv
  obtain ⟨fs, hr, hrun, hended, hW, hsame⟩ := X1.leave (v := some (.ref xx)) (fun h => by rw [Bd.returns] at h; cases h)
  refine ⟨_, _, pre0 _ ?_, hrun, hended, _, _, rfl, ?_, ⟨_, rfl⟩, hW, hsame.mono (by decide) (by decide)⟩
  · skip
    refine XS.aloadN X0.here hx rfl (hb hby d27_0) rfl rfl ?_
    refine st1 _ ?_
    refine XS.iloadN X1.here hx rfl (hb hby d27_4) rfl ?_
    refine X1.aaload hx (j := p1) (v := (.ref xx)) (by rw [e1]; exact Ar2.1) (State.isArrayOf_alike hZ.alike Ar2.2.1) rfl Ar2.2.2 hin2 hat2 (g := (mkF m 5 #[.val (.ref a1), .val (.int p1)] [(.int p1), (.ref ed)])) rfl rfl (hb hby d27_5) _ ?_
    show Steps p.tables e below (T1.setTop (mkF m 6 #[.val (.ref a1), .val (.int p1)] [(.ref xx)])) _
    jvm_step X1.here [X1.here.top, hx, (hb hby d27_6), X1.method', Bd.returns, Value.isRef, FieldType.isReference]
    first | (intro acts; rw [hr _ acts rfl rfl rfl]) | rw [hr _ _ rfl rfl rfl]
    exact Steps.refl _
  · show Q_rm27 Z a1 p1 ed kd vs xx h0 n0 _ T1.heap _
    rw [e1]
    exact ⟨rfl, N0, rfl⟩
theorem ef_rm24 (m : MethodId) (x0 : Addr) (x1 : Int32) : entryFrame m #[(.ref x0), (.int x1)] 2 = mkF m 0 #[.val (.ref x0), .val (.int x1)] [] := by first | (simp [entryFrame, mkF, argsToLocals, Value.category]; done) | rfl
def Q_rm24 (Z : State) (a1 : Addr) (p1 : Int32) (ed : Addr) (kd : ClassId) (vs : List Value) (xx : Addr) (sz : Int32) (h0 : Heap) (n0 : Nat) (v : Option Value) (h : Heap) (L : List Loc) : Prop := v = some (.ref xx) ∧ Fr n0 L ∧ h = h0
set_option maxRecDepth 65536 in
set_option maxHeartbeats 40000000 in
theorem rm24 (l : Launch) (Z : State) (a0 : Array Value) (hw : ∀ d ∈ own_tab, d.before a0 Z = true) (ws : List Jvm.Cond) (a1 : Addr) (p1 : Int32) (ed : Addr) (kd : ClassId) (vs : List Value) (xx : Addr) (sz : Int32) (h0 : Heap) (n0 : Nat) (Z0 : n0 ≤ h0.size) (P0 : Exa Z h0 a1 "java/util/ArrayList") (P1 : Fld Z h0 a1 "java/util/ArrayList" "size" "I" (.int sz)) (P2 : Fld Z h0 a1 "java/util/ArrayList" "elementData" "[Ljava/lang/Object;" (.ref ed)) (P3 : Arv Z h0 ed kd (.object "java/lang/Object") (10 : Int32) vs .null) (hi0 : ¬ p1 < (0 : Int32)) (hi1 : p1 < sz) (hi2 : p1 < (10 : Int32)) (hv : vs.getD p1.toNatClampNeg .null = .ref xx) :
    MetFree l (⟨"java/util/ArrayList", "get", "(I)Ljava/lang/Object;"⟩ : MethodName) (head1 (Jvm.Cond.code (⟨"java/util/ArrayList", "get", "(I)Ljava/lang/Object;"⟩ : MethodName) jdk_38_method_20_code 2 (some (.object "java/lang/Object")) :: ws) ({ frames := 2, cells := 0, slots := 0, locals := 27 } : Room)) (fun a U => a = #[(.ref a1), (.int p1)] ∧ Z.Warmed39 U.vm ∧ U.heap = h0) (fun _ _ _ _ _ => True) (fun _ U o U' => ∃ v L, o = .returned v ∧ Q_rm24 Z a1 p1 ed kd vs xx sz h0 n0 v U'.heap L ∧ FrameEnd U o U' L ({ frames := 2, cells := 0, slots := 0, locals := 27 } : Room).cells ({ frames := 2, cells := 0, slots := 0, locals := 27 } : Room).slots) := by
  refine MetFree.of_bodySF (plainFor_of_name pn_3) hisR ?_
  intro p e s m args below meth c s₁ Bd hml0 hP hK
  obtain ⟨rfl, hZ, hh⟩ := hP
  have hx := Bd.exec
  have hby := Bd.bytes
  have hml : c.maxLocals = 2 := hml0
  have hown : s.vm.findClass "java/util/ArrayList" = some m.cls := findClass_of_methodNamed Bd.named
  have hnm := (name_of_methodNamed Bd.named Bd.method).1
  have X0 : Stand p l e ({ frames := 2, cells := 0, slots := 0, locals := 27 } : Room) s m #[(.ref a1), (.int p1)] below meth c s₁ [] 0 0 := Stand.of_body Bd
  have e0 : s₁.heap = h0 := by rw [← hh, Bd.state]; rfl
  have N0 := Fr.nil n0
  have KR : Keep h0 h0 [] := Keep.refl h0 _
  have pre0 : ∀ t, Steps p.tables e below (s₁.setTop (mkF m 0 #[.val (.ref a1), .val (.int p1)] [])) t → Steps p.tables e below (s₁.setTop (entryFrame m #[(.ref a1), (.int p1)] 2)) t := fun t k => castTop (ef_rm24 m (a1) (p1)) k
  obtain ⟨T1, X1, e1, st1⟩ := getF X0 hx hZ hown (host := "") (Or.inl (kw58 hw)) Via.refl e0 P1 (g := (mkF m 2 #[.val (.ref a1), .val (.int p1)] [(.ref a1), (.int p1)])) rfl rfl (hb hby d24_2)
  obtain ⟨_, _, ⟨T2, L2, k2, n2⟩, -, X2, ⟨Lc2, hQ2, l2, y2, z2⟩, st2⟩ := Jvm.LawKit.callS X1 hx (y := (⟨"java/util/Objects", "checkIndex", "(II)I"⟩ : MethodName)) hown (mvT hZ (kw139 hw)) (mvT hZ (kw140 hw)) (mvT hZ (kw14 hw)) (mvT hZ (kw141 hw)) (by decide) (backOf (W := 0) (rm25 l Z a0 hw [] p1 sz h0 n0 Z0 hi0 hi1) hZ (kw141 hw) (kw14 hw) (by decide) (by decide)) (g := (mkF m 5 #[.val (.ref a1), .val (.int p1)] [(.int sz), (.int p1)])) rfl (by rw [hml]; rfl) (argsL := [(.int p1), (.int sz)]) (rest := []) (lenOf pd_6 rfl) rfl (by show 2 * 0 + _ ≤ _; exact Nat.le_of_eq rfl) (hb hby d24_5) (fun _ _ => ⟨rfl, e1, (by decide : 0 + 0 ≤ _), (by decide : 0 + 0 ≤ _)⟩)
  dsimp only [Pt.U, Pt.locs, Pt.cells, Pt.slots] at X2 l2 y2 z2 st2 hQ2
  subst l2 y2 z2
  obtain ⟨rfl, N2q, e2⟩ := hQ2
  have N2 := Fr.app N0 N2q
  obtain ⟨cq3, kq3, q3a, q3b, q3c⟩ := isOf hZ e2 P0
  obtain ⟨_, _, ⟨T3, L3, k3, n3⟩, -, X3, ⟨Lc3, hQ3, l3, y3, z3⟩, st3⟩ := X2.virtualBack hx (y := (⟨"java/util/ArrayList", "elementData", "(I)Ljava/lang/Object;"⟩ : MethodName)) (z := (⟨"java/util/ArrayList", "elementData", "(I)Ljava/lang/Object;"⟩ : MethodName)) hown (mvT hZ (kw146 hw)) (mvT hZ (kw147 hw)) (notFace_of_selects (args := #[]) (mvT hZ (kw149 hw))) (mvT hZ (kw149 hw)) (mvT hZ (kw148 hw)) (by decide) (backOf (W := 0) (rm27 l Z a0 hw [] a1 p1 ed kd vs xx h0 n0 Z0 P2 P3 hi0 hi2 hv) hZ (kw150 hw) (kw18 hw) (by decide) (by decide)) q3a q3c (g := (mkF m 11 #[.val (.ref a1), .val (.int p1)] [(.int p1), (.ref a1)])) rfl (by rw [hml]; rfl) (Steps.refl _) (argsL := [(.int p1)]) (rest := []) (lenOf pd_10 rfl) rfl (by show 2 * 0 + _ ≤ _; exact Nat.le_of_eq rfl) (hb hby d24_11) (fun _ _ => ⟨rfl, e2, (by decide : 0 + 0 ≤ _), (by decide : 0 + 0 ≤ _)⟩)
  dsimp only [Pt.U, Pt.locs, Pt.cells, Pt.slots] at X3 l3 y3 z3 st3 hQ3
  subst l3 y3 z3
  obtain ⟨rfl, N3q, e3⟩ := hQ3
  have N3 := Fr.app N2 N3q
  obtain ⟨fs, hr, hrun, hended, hW, hsame⟩ := X3.leave (v := some (.ref xx)) (fun h => by rw [Bd.returns] at h; cases h)
  refine ⟨_, _, pre0 _ ?_, hrun, hended, _, _, rfl, ?_, ⟨_, rfl⟩, hW, hsame.mono (by decide) (by decide)⟩
  · skip
    refine XS.iloadN X0.here hx rfl (hb hby d24_0) rfl ?_
    refine XS.aloadN X0.here hx rfl (hb hby d24_1) rfl rfl ?_
    refine st1 _ ?_
    refine st2 _ ?_
    refine XS.pop X2.here hx rfl (hb hby d24_8) rfl rfl ?_
    refine XS.aloadN X2.here hx rfl (hb hby d24_9) rfl rfl ?_
    refine XS.iloadN X2.here hx rfl (hb hby d24_10) rfl ?_
    refine st3.trans ?_
    show Steps p.tables e below (T3.setTop (mkF m 14 #[.val (.ref a1), .val (.int p1)] [(.ref xx)])) _
    jvm_step X3.here [X3.here.top, hx, (hb hby d24_14), X3.method', Bd.returns, Value.isRef, FieldType.isReference]
    first | (intro acts; rw [hr _ acts rfl rfl rfl]) | rw [hr _ _ rfl rfl rfl]
    exact Steps.refl _
  · show Q_rm24 Z a1 p1 ed kd vs xx sz h0 n0 _ T3.heap _
    rw [e3]
    exact ⟨rfl, N3, rfl⟩
theorem ef_rm10 (m : MethodId) (x0 : Addr) (x1 : Int32) (x2 : Addr) (x3 : Int32) : entryFrame m #[(.ref x0), (.int x1), (.ref x2), (.int x3)] 6 = mkF m 0 #[.val (.ref x0), .val (.int x1), .val (.ref x2), .val (.int x3), .unset, .unset] [] := by first | (simp [entryFrame, mkF, argsToLocals, Value.category]; done) | rfl
def Q_rm10 (Z : State) (a1 : Addr) (p1 : Int32) (a2 : Addr) (p3 : Int32) (nn : Int32) (b0 : Int32) (b1 : Int32) (b2 : Int32) (b3 : Int32) (kk : ClassId) (lls : OwnL) (h0 : Heap) (n0 : Nat) (v : Option Value) (h : Heap) (L : List Loc) : Prop := v = some (.int (own_at nn b0 b1 b2 b3 lls p1 p3)) ∧ Fr n0 L ∧ h = h0
set_option maxRecDepth 65536 in
set_option maxHeartbeats 40000000 in
theorem rm10 (l : Launch) (Z : State) (a0 : Array Value) (hw : ∀ d ∈ own_tab, d.before a0 Z = true) (ws : List Jvm.Cond) (a1 : Addr) (p1 : Int32) (a2 : Addr) (p3 : Int32) (nn : Int32) (b0 : Int32) (b1 : Int32) (b2 : Int32) (b3 : Int32) (kk : ClassId) (lls : OwnL) (h0 : Heap) (n0 : Nat) (Z0 : n0 ≤ h0.size) (P0 : Exa Z h0 a1 "java/util/ArrayList") (P1 : Fld Z h0 a1 "java/util/ArrayList" "size" "I" (.int (own_sz lls))) (P2 : Arv Z h0 a2 kk .byte nn (own_is [b0, b1, b2, b3]) (.int 0)) (hj : ¬ p1 < (0 : Int32)) (P4 : own_lines Z h0 a1 lls) :
    MetFree l (⟨"com/example/rank_keeper/rankkeeper/BodyLinesSplitPinLaw", "at", "(Ljava/util/List;I[BI)I"⟩ : MethodName) (head1 (Jvm.Cond.code (⟨"com/example/rank_keeper/rankkeeper/BodyLinesSplitPinLaw", "at", "(Ljava/util/List;I[BI)I"⟩ : MethodName) method_11_code 6 (some .int) :: ws) ({ frames := 3, cells := 0, slots := 0, locals := 42 } : Room)) (fun a U => a = #[(.ref a1), (.int p1), (.ref a2), (.int p3)] ∧ Z.Warmed39 U.vm ∧ U.heap = h0) (fun _ _ _ _ _ => True) (fun _ U o U' => ∃ v L, o = .returned v ∧ Q_rm10 Z a1 p1 a2 p3 nn b0 b1 b2 b3 kk lls h0 n0 v U'.heap L ∧ FrameEnd U o U' L ({ frames := 3, cells := 0, slots := 0, locals := 42 } : Room).cells ({ frames := 3, cells := 0, slots := 0, locals := 42 } : Room).slots) := by
  refine MetFree.of_bodySF (plainFor_of_name pn_0) hisR ?_
  intro p e s m args below meth c s₁ Bd hml0 hP hK
  obtain ⟨rfl, hZ, hh⟩ := hP
  have hx := Bd.exec
  have hby := Bd.bytes
  have hml : c.maxLocals = 6 := hml0
  have hown : s.vm.findClass "com/example/rank_keeper/rankkeeper/BodyLinesSplitPinLaw" = some m.cls := findClass_of_methodNamed Bd.named
  have hnm := (name_of_methodNamed Bd.named Bd.method).1
  have X0 : Stand p l e ({ frames := 3, cells := 0, slots := 0, locals := 42 } : Room) s m #[(.ref a1), (.int p1), (.ref a2), (.int p3)] below meth c s₁ [] 0 0 := Stand.of_body Bd
  have e0 : s₁.heap = h0 := by rw [← hh, Bd.state]; rfl
  have N0 := Fr.nil n0
  have KR : Keep h0 h0 [] := Keep.refl h0 _
  have pre0 : ∀ t, Steps p.tables e below (s₁.setTop (mkF m 0 #[.val (.ref a1), .val (.int p1), .val (.ref a2), .val (.int p3), .unset, .unset] [])) t → Steps p.tables e below (s₁.setTop (entryFrame m #[(.ref a1), (.int p1), (.ref a2), (.int p3)] 6)) t := fun t k => castTop (ef_rm10 m (a1) (p1) (a2) (p3)) k
  have pre1 : ∀ t, Steps p.tables e below (s₁.setTop (mkF m 3 #[.val (.ref a1), .val (.int p1), .val (.ref a2), .val (.int p3), .unset, .unset] [(.int (-2 : Int32)), (.int p3)])) t → Steps p.tables e below (s₁.setTop (entryFrame m #[(.ref a1), (.int p1), (.ref a2), (.int p3)] 6)) t := fun t k => pre0 t (by
    refine XS.iloadN X0.here hx rfl (hb hby d10_0) rfl ?_
    refine XS.bipush X0.here hx rfl (hb hby d10_1) ?_
    exact k)
  by_cases hc2 : p3 = (-2 : Int32)
  ·skip
   obtain ⟨fs, hr, hrun, hended, hW, hsame⟩ := X0.leave (v := some (.int (-2 : Int32))) (fun h => by rw [Bd.returns] at h; cases h)
   refine ⟨_, _, pre1 _ ?_, hrun, hended, _, _, rfl, ?_, ⟨_, rfl⟩, hW, hsame.mono (by decide) (by decide)⟩
   · skip
     refine XS.icmpNo X0.here hx rfl (hb hby d10_3) rfl (teq hc2).2 ?_
     refine XS.bipush X0.here hx rfl (hb hby d10_6) ?_
     show Steps p.tables e below (s₁.setTop (mkF m 8 #[.val (.ref a1), .val (.int p1), .val (.ref a2), .val (.int p3), .unset, .unset] [(.int (-2 : Int32))])) _
     exact retI X0 hx Bd.returns (hb hby d10_8) hr
   · show Q_rm10 Z a1 p1 a2 p3 nn b0 b1 b2 b3 kk lls h0 n0 _ s₁.heap _
     rw [e0]
     exact ⟨(by unfold own_at; rw [if_pos hc2]), N0, rfl⟩
  ·skip
   obtain ⟨cq4, kq4, q4a, q4b, q4c⟩ := isOf hZ e0 P0
   obtain ⟨_, _, ⟨T4, L4, k4, n4⟩, -, X4, ⟨Lc4, hQ4, l4, y4, z4⟩, st4⟩ := X0.interfaceBack hx (xi := (⟨"java/util/List", "size", "()I"⟩ : MethodName)) (y := (⟨"java/util/ArrayList", "size", "()I"⟩ : MethodName)) hown (mvT hZ (kw49 hw)) (mvT hZ (kw50 hw)) (mvT hZ (kw51 hw)) (mvT hZ (kw52 hw)) (mvT hZ (kw53 hw)) (mvT hZ (kw54 hw)) (mvT hZ (kw55 hw)) (mvT hZ (kw56 hw)) (by decide) (backOf (W := 1) (rm9 l Z a0 hw [] a1 (own_sz lls) h0 n0 Z0 P1) hZ (kw57 hw) (kw18 hw) (by decide) (by decide)) q4a q4b q4c (g := (mkF m 11 #[.val (.ref a1), .val (.int p1), .val (.ref a2), .val (.int p3), .unset, .unset] [(.ref a1), (.int p1)])) rfl (by rw [hml]; rfl) (Steps.refl _) (argsL := []) (rest := [(.int p1)]) (lenOf pd_11 rfl) rfl (by show 2 * 0 + _ ≤ _; exact Nat.le_of_eq rfl) (hb hby d10_11) (fun _ _ => ⟨rfl, e0, (by decide : 0 + 0 ≤ _), (by decide : 0 + 0 ≤ _)⟩)
   dsimp only [Pt.U, Pt.locs, Pt.cells, Pt.slots] at X4 l4 y4 z4 st4 hQ4
   subst l4 y4 z4
   obtain ⟨rfl, N4q, e4⟩ := hQ4
   have N4 := Fr.app N0 N4q
   have pre5 : ∀ t, Steps p.tables e below (T4.setTop (mkF m 16 #[.val (.ref a1), .val (.int p1), .val (.ref a2), .val (.int p3), .unset, .unset] [(.int (own_sz lls)), (.int p1)])) t → Steps p.tables e below (s₁.setTop (entryFrame m #[(.ref a1), (.int p1), (.ref a2), (.int p3)] 6)) t := fun t k => pre1 t (by
     refine XS.icmpYes X0.here hx rfl (pc0 := 3) (pc' := 9) rfl (hb hby d10_3) rfl (feq hc2).2 (by decide) (by decide) ?_
     refine XS.iloadN X0.here hx rfl (hb hby d10_9) rfl ?_
     refine XS.aloadN X0.here hx rfl (hb hby d10_10) rfl rfl ?_
     refine st4.trans ?_
     exact k)
   by_cases hc6 : p1 < (own_sz lls)
   ·skip
    obtain ⟨ed, xl, kl, vl, Ged, Gve, Gj, Ggd, Gx, Gn, Go, Gl⟩ := P4 p1 hj hc6
    obtain ⟨cq7, kq7, q7a, q7b, q7c⟩ := isOf hZ e4 P0
    obtain ⟨_, _, ⟨T7, L7, k7, n7⟩, -, X7, ⟨Lc7, hQ7, l7, y7, z7⟩, st7⟩ := X4.interfaceBack hx (xi := (⟨"java/util/List", "get", "(I)Ljava/lang/Object;"⟩ : MethodName)) (y := (⟨"java/util/ArrayList", "get", "(I)Ljava/lang/Object;"⟩ : MethodName)) hown (mvT hZ (kw131 hw)) (mvT hZ (kw132 hw)) (mvT hZ (kw133 hw)) (mvT hZ (kw134 hw)) (mvT hZ (kw135 hw)) (mvT hZ (kw136 hw)) (mvT hZ (kw137 hw)) (mvT hZ (kw56 hw)) (by decide) (backOf (W := 0) (rm24 l Z a0 hw [] a1 p1 ed kl vl xl (own_sz lls) h0 n0 Z0 P0 P1 Ged Gve hj hc6 Gj Ggd) hZ (kw138 hw) (kw18 hw) (by decide) (by decide)) q7a q7b q7c (g := (mkF m 23 #[.val (.ref a1), .val (.int p1), .val (.ref a2), .val (.int p3), .unset, .unset] [(.int p1), (.ref a1)])) rfl (by rw [hml]; rfl) (Steps.refl _) (argsL := [(.int p1)]) (rest := []) (lenOf pd_10 rfl) rfl (by show 2 * 0 + _ ≤ _; exact Nat.le_of_eq rfl) (hb hby d10_23) (fun _ _ => ⟨rfl, e4, (by decide : 0 + 0 ≤ _), (by decide : 0 + 0 ≤ _)⟩)
    dsimp only [Pt.U, Pt.locs, Pt.cells, Pt.slots] at X7 l7 y7 z7 st7 hQ7
    subst l7 y7 z7
    obtain ⟨rfl, N7q, e7⟩ := hQ7
    have N7 := Fr.app N4 N7q
    obtain ⟨T8, X8, e8, st8⟩ := castY X7 hx hZ hown (kw151 hw) e7 (Ins.self Gx) (g := (mkF m 28 #[.val (.ref a1), .val (.int p1), .val (.ref a2), .val (.int p3), .unset, .unset] [(.ref xl)])) rfl rfl (hb hby d10_28)
    obtain ⟨cq9, kq9, q9a, q9b, q9c⟩ := isOf hZ e8 Gx
    obtain ⟨_, _, ⟨T9, L9, k9, n9⟩, -, X9, ⟨Lc9, hQ9, l9, y9, z9⟩, st9⟩ := X8.virtualBack hx (y := (⟨"com/example/rank_keeper/rankkeeper/BodyLines$Line", "offset", "()I"⟩ : MethodName)) (z := (⟨"com/example/rank_keeper/rankkeeper/BodyLines$Line", "offset", "()I"⟩ : MethodName)) hown (mvT hZ (kw153 hw)) (mvT hZ (kw154 hw)) (notFace_of_selects (args := #[]) (mvT hZ (kw156 hw))) (mvT hZ (kw156 hw)) (mvT hZ (kw155 hw)) (by decide) (backOf (W := 0) (rm28 l Z a0 hw [] xl (own_to lls p1) h0 n0 Z0 Go) hZ (kw157 hw) (kw71 hw) (by decide) (by decide)) q9a q9c (g := (mkF m 35 #[.val (.ref a1), .val (.int p1), .val (.ref a2), .val (.int p3), .val (.ref xl), .unset] [(.ref xl)])) rfl (by rw [hml]; rfl) (Steps.refl _) (argsL := []) (rest := []) (lenOf pd_11 rfl) rfl (by show 2 * 0 + _ ≤ _; exact Nat.le_of_eq rfl) (hb hby d10_35) (fun _ _ => ⟨rfl, e8, (by decide : 0 + 0 ≤ _), (by decide : 0 + 0 ≤ _)⟩)
    dsimp only [Pt.U, Pt.locs, Pt.cells, Pt.slots] at X9 l9 y9 z9 st9 hQ9
    subst l9 y9 z9
    obtain ⟨rfl, N9q, e9⟩ := hQ9
    have N9 := Fr.app N7 N9q
    have pre10 : ∀ t, Steps p.tables e below (T9.setTop (mkF m 43 #[.val (.ref a1), .val (.int p1), .val (.ref a2), .val (.int p3), .val (.ref xl), .val (.int (own_to lls p1))] [(.int p3), (.int (own_to lls p1))])) t → Steps p.tables e below (s₁.setTop (entryFrame m #[(.ref a1), (.int p1), (.ref a2), (.int p3)] 6)) t := fun t k => pre5 t (by
      refine XS.icmpYes X4.here hx rfl (pc0 := 16) (pc' := 21) rfl (hb hby d10_16) rfl (tlt hc6).1 (by decide) (by decide) ?_
      refine XS.aloadN X4.here hx rfl (hb hby d10_21) rfl rfl ?_
      refine XS.iloadN X4.here hx rfl (hb hby d10_22) rfl ?_
      refine st7.trans ?_
      refine st8 _ ?_
      refine XS.astore X8.here hx rfl (hb hby d10_31) rfl rfl (l' := #[.val (.ref a1), .val (.int p1), .val (.ref a2), .val (.int p3), .val (.ref xl), .unset]) rfl ?_
      refine XS.aload X8.here hx rfl (hb hby d10_33) rfl rfl ?_
      refine st9.trans ?_
      refine XS.istore X9.here hx rfl (hb hby d10_38) rfl (l' := #[.val (.ref a1), .val (.int p1), .val (.ref a2), .val (.int p3), .val (.ref xl), .val (.int (own_to lls p1))]) rfl ?_
      refine XS.iload X9.here hx rfl (hb hby d10_40) rfl ?_
      refine XS.iloadN X9.here hx rfl (hb hby d10_42) rfl ?_
      exact k)
    by_cases hc11 : p3 < (own_to lls p1)
    ·skip
     obtain ⟨_, _, ⟨T12, L12, k12, n12⟩, -, X12, ⟨Lc12, hQ12, l12, y12, z12⟩, st12⟩ := Jvm.LawKit.callS X9 hx (y := (⟨"com/example/rank_keeper/rankkeeper/BodyLinesSplitPinLaw", "good", "([BI)I"⟩ : MethodName)) hown (mvT hZ (kw42 hw)) (mvT hZ (kw43 hw)) (mvT hZ (kw44 hw)) (mvT hZ (kw45 hw)) (by decide) (backOf (W := 0) (rm7 l Z a0 hw [] a2 (own_to lls p1) nn b0 b1 b2 b3 kk h0 n0 Z0 P2) hZ (kw45 hw) (kw44 hw) (by decide) (by decide)) (g := (mkF m 49 #[.val (.ref a1), .val (.int p1), .val (.ref a2), .val (.int p3), .val (.ref xl), .val (.int (own_to lls p1))] [(.int (own_to lls p1)), (.ref a2)])) rfl (by rw [hml]; rfl) (argsL := [(.ref a2), (.int (own_to lls p1))]) (rest := []) (lenOf pd_2 rfl) rfl (by show 2 * 0 + _ ≤ _; exact Nat.le_of_eq rfl) (hb hby d10_49) (fun _ _ => ⟨rfl, e9, (by decide : 0 + 0 ≤ _), (by decide : 0 + 0 ≤ _)⟩)
     dsimp only [Pt.U, Pt.locs, Pt.cells, Pt.slots] at X12 l12 y12 z12 st12 hQ12
     subst l12 y12 z12
     obtain ⟨rfl, N12q, e12⟩ := hQ12
     have N12 := Fr.app N9 N12q
     have pre13 : ∀ t, Steps p.tables e below (T12.setTop (mkF m 53 #[.val (.ref a1), .val (.int p1), .val (.ref a2), .val (.int p3), .val (.ref xl), .val (.int (own_to lls p1))] [(.int 1), (.int (own_good nn b0 b1 b2 b3 (own_to lls p1)))])) t → Steps p.tables e below (s₁.setTop (entryFrame m #[(.ref a1), (.int p1), (.ref a2), (.int p3)] 6)) t := fun t k => pre10 t (by
       refine XS.icmpNo X9.here hx rfl (hb hby d10_43) rfl (tlt hc11).2.2.2 ?_
       refine XS.aloadN X9.here hx rfl (hb hby d10_46) rfl rfl ?_
       refine XS.iload X9.here hx rfl (hb hby d10_47) rfl ?_
       refine st12 _ ?_
       refine XS.iconst X12.here hx rfl (hb hby d10_52) ?_
       exact k)
     by_cases hc14 : (own_good nn b0 b1 b2 b3 (own_to lls p1)) = (1 : Int32)
     ·skip
      obtain ⟨cq15, kq15, q15a, q15b, q15c⟩ := isOf hZ e12 Gx
      obtain ⟨_, _, ⟨T15, L15, k15, n15⟩, -, X15, ⟨Lc15, hQ15, l15, y15, z15⟩, st15⟩ := X12.virtualBack hx (y := (⟨"com/example/rank_keeper/rankkeeper/BodyLines$Line", "length", "()I"⟩ : MethodName)) (z := (⟨"com/example/rank_keeper/rankkeeper/BodyLines$Line", "length", "()I"⟩ : MethodName)) hown (mvT hZ (kw158 hw)) (mvT hZ (kw159 hw)) (notFace_of_selects (args := #[]) (mvT hZ (kw161 hw))) (mvT hZ (kw161 hw)) (mvT hZ (kw160 hw)) (by decide) (backOf (W := 0) (rm29 l Z a0 hw [] xl (own_tl lls p1) h0 n0 Z0 Gl) hZ (kw162 hw) (kw71 hw) (by decide) (by decide)) q15a q15c (g := (mkF m 61 #[.val (.ref a1), .val (.int p1), .val (.ref a2), .val (.int p3), .val (.ref xl), .val (.int (own_to lls p1))] [(.ref xl)])) rfl (by rw [hml]; rfl) (Steps.refl _) (argsL := []) (rest := []) (lenOf pd_11 rfl) rfl (by show 2 * 0 + _ ≤ _; exact Nat.le_of_eq rfl) (hb hby d10_61) (fun _ _ => ⟨rfl, e12, (by decide : 0 + 0 ≤ _), (by decide : 0 + 0 ≤ _)⟩)
      dsimp only [Pt.U, Pt.locs, Pt.cells, Pt.slots] at X15 l15 y15 z15 st15 hQ15
      subst l15 y15 z15
      obtain ⟨rfl, N15q, e15⟩ := hQ15
      have N15 := Fr.app N12 N15q
      obtain ⟨_, _, ⟨T16, L16, k16, n16⟩, -, X16, ⟨Lc16, hQ16, l16, y16, z16⟩, st16⟩ := Jvm.LawKit.callS X15 hx (y := (⟨"com/example/rank_keeper/rankkeeper/BodyLinesSplitPinLaw", "endFrom", "([BI)I"⟩ : MethodName)) hown (mvT hZ (kw119 hw)) (mvT hZ (kw120 hw)) (mvT hZ (kw44 hw)) (mvT hZ (kw121 hw)) (by decide) (backOf (W := 1) (rm20 l Z a0 hw [] a2 (own_to lls p1) nn b0 b1 b2 b3 kk h0 n0 Z0 P2) hZ (kw121 hw) (kw44 hw) (by decide) (by decide)) (g := (mkF m 67 #[.val (.ref a1), .val (.int p1), .val (.ref a2), .val (.int p3), .val (.ref xl), .val (.int (own_to lls p1))] [(.int (own_to lls p1)), (.ref a2), (.int (own_tl lls p1))])) rfl (by rw [hml]; rfl) (argsL := [(.ref a2), (.int (own_to lls p1))]) (rest := [(.int (own_tl lls p1))]) (lenOf pd_2 rfl) rfl (by show 2 * 0 + _ ≤ _; exact Nat.le_of_eq rfl) (hb hby d10_67) (fun _ _ => ⟨rfl, e15, (by decide : 0 + 0 ≤ _), (by decide : 0 + 0 ≤ _)⟩)
      dsimp only [Pt.U, Pt.locs, Pt.cells, Pt.slots] at X16 l16 y16 z16 st16 hQ16
      subst l16 y16 z16
      obtain ⟨rfl, N16q, e16⟩ := hQ16
      have N16 := Fr.app N15 N16q
      have pre17 : ∀ t, Steps p.tables e below (T16.setTop (mkF m 73 #[.val (.ref a1), .val (.int p1), .val (.ref a2), .val (.int p3), .val (.ref xl), .val (.int (own_to lls p1))] [(.int ((own_end nn b0 b1 b2 b3 (own_to lls p1)) - (own_to lls p1))), (.int (own_tl lls p1))])) t → Steps p.tables e below (s₁.setTop (entryFrame m #[(.ref a1), (.int p1), (.ref a2), (.int p3)] 6)) t := fun t k => pre13 t (by
        refine XS.icmpYes X12.here hx rfl (pc0 := 53) (pc' := 59) rfl (hb hby d10_53) rfl (teq hc14).1 (by decide) (by decide) ?_
        refine XS.aload X12.here hx rfl (hb hby d10_59) rfl rfl ?_
        refine st15.trans ?_
        refine XS.aloadN X15.here hx rfl (hb hby d10_64) rfl rfl ?_
        refine XS.iload X15.here hx rfl (hb hby d10_65) rfl ?_
        refine st16 _ ?_
        refine XS.iload X16.here hx rfl (hb hby d10_70) rfl ?_
        refine XS.isub X16.here hx rfl (hb hby d10_72) rfl ?_
        exact k)
      by_cases hc18 : (own_tl lls p1) = ((own_end nn b0 b1 b2 b3 (own_to lls p1)) - (own_to lls p1))
      ·skip
       obtain ⟨cq19, kq19, q19a, q19b, q19c⟩ := isOf hZ e16 Gx
       obtain ⟨_, _, ⟨T19, L19, k19, n19⟩, -, X19, ⟨Lc19, hQ19, l19, y19, z19⟩, st19⟩ := X16.virtualBack hx (y := (⟨"com/example/rank_keeper/rankkeeper/BodyLines$Line", "number", "()I"⟩ : MethodName)) (z := (⟨"com/example/rank_keeper/rankkeeper/BodyLines$Line", "number", "()I"⟩ : MethodName)) hown (mvT hZ (kw163 hw)) (mvT hZ (kw164 hw)) (notFace_of_selects (args := #[]) (mvT hZ (kw166 hw))) (mvT hZ (kw166 hw)) (mvT hZ (kw165 hw)) (by decide) (backOf (W := 0) (rm30 l Z a0 hw [] xl (own_tn lls p1) h0 n0 Z0 Gn) hZ (kw167 hw) (kw71 hw) (by decide) (by decide)) q19a q19c (g := (mkF m 81 #[.val (.ref a1), .val (.int p1), .val (.ref a2), .val (.int p3), .val (.ref xl), .val (.int (own_to lls p1))] [(.ref xl)])) rfl (by rw [hml]; rfl) (Steps.refl _) (argsL := []) (rest := []) (lenOf pd_11 rfl) rfl (by show 2 * 0 + _ ≤ _; exact Nat.le_of_eq rfl) (hb hby d10_81) (fun _ _ => ⟨rfl, e16, (by decide : 0 + 0 ≤ _), (by decide : 0 + 0 ≤ _)⟩)
       dsimp only [Pt.U, Pt.locs, Pt.cells, Pt.slots] at X19 l19 y19 z19 st19 hQ19
       subst l19 y19 z19
       obtain ⟨rfl, N19q, e19⟩ := hQ19
       have N19 := Fr.app N16 N19q
       obtain ⟨_, _, ⟨T20, L20, k20, n20⟩, -, X20, ⟨Lc20, hQ20, l20, y20, z20⟩, st20⟩ := Jvm.LawKit.callS X19 hx (y := (⟨"com/example/rank_keeper/rankkeeper/BodyLinesSplitPinLaw", "nlBefore", "([BI)I"⟩ : MethodName)) hown (mvT hZ (kw168 hw)) (mvT hZ (kw169 hw)) (mvT hZ (kw44 hw)) (mvT hZ (kw170 hw)) (by decide) (backOf (W := 2) (rm31 l Z a0 hw [] a2 (own_to lls p1) nn b0 b1 b2 b3 kk h0 n0 Z0 P2) hZ (kw170 hw) (kw44 hw) (by decide) (by decide)) (g := (mkF m 88 #[.val (.ref a1), .val (.int p1), .val (.ref a2), .val (.int p3), .val (.ref xl), .val (.int (own_to lls p1))] [(.int (own_to lls p1)), (.ref a2), (.int 1), (.int (own_tn lls p1))])) rfl (by rw [hml]; rfl) (argsL := [(.ref a2), (.int (own_to lls p1))]) (rest := [(.int 1), (.int (own_tn lls p1))]) (lenOf pd_2 rfl) rfl (by show 2 * 0 + _ ≤ _; exact Nat.le_of_eq rfl) (hb hby d10_88) (fun _ _ => ⟨rfl, e19, (by decide : 0 + 0 ≤ _), (by decide : 0 + 0 ≤ _)⟩)
       dsimp only [Pt.U, Pt.locs, Pt.cells, Pt.slots] at X20 l20 y20 z20 st20 hQ20
       subst l20 y20 z20
       obtain ⟨rfl, N20q, e20⟩ := hQ20
       have N20 := Fr.app N19 N20q
       have pre21 : ∀ t, Steps p.tables e below (T20.setTop (mkF m 92 #[.val (.ref a1), .val (.int p1), .val (.ref a2), .val (.int p3), .val (.ref xl), .val (.int (own_to lls p1))] [(.int ((1 : Int32) + (own_nb nn b0 b1 b2 b3 (own_to lls p1)))), (.int (own_tn lls p1))])) t → Steps p.tables e below (s₁.setTop (entryFrame m #[(.ref a1), (.int p1), (.ref a2), (.int p3)] 6)) t := fun t k => pre17 t (by
         refine XS.icmpYes X16.here hx rfl (pc0 := 73) (pc' := 79) rfl (hb hby d10_73) rfl (teq hc18).1 (by decide) (by decide) ?_
         refine XS.aload X16.here hx rfl (hb hby d10_79) rfl rfl ?_
         refine st19.trans ?_
         refine XS.iconst X19.here hx rfl (hb hby d10_84) ?_
         refine XS.aloadN X19.here hx rfl (hb hby d10_85) rfl rfl ?_
         refine XS.iload X19.here hx rfl (hb hby d10_86) rfl ?_
         refine st20 _ ?_
         refine XS.iadd X20.here hx rfl (hb hby d10_91) rfl ?_
         exact k)
       by_cases hc22 : (own_tn lls p1) = ((1 : Int32) + (own_nb nn b0 b1 b2 b3 (own_to lls p1)))
       ·skip
        obtain ⟨fs, hr, hrun, hended, hW, hsame⟩ := X20.leave (v := some (.int (own_to lls p1))) (fun h => by rw [Bd.returns] at h; cases h)
        refine ⟨_, _, pre21 _ ?_, hrun, hended, _, _, rfl, ?_, ⟨_, rfl⟩, hW, hsame.mono (by decide) (by decide)⟩
        · skip
          refine XS.icmpYes X20.here hx rfl (pc0 := 92) (pc' := 98) rfl (hb hby d10_92) rfl (teq hc22).1 (by decide) (by decide) ?_
          refine XS.iload X20.here hx rfl (hb hby d10_98) rfl ?_
          show Steps p.tables e below (T20.setTop (mkF m 100 #[.val (.ref a1), .val (.int p1), .val (.ref a2), .val (.int p3), .val (.ref xl), .val (.int (own_to lls p1))] [(.int (own_to lls p1))])) _
          exact retI X20 hx Bd.returns (hb hby d10_100) hr
        · show Q_rm10 Z a1 p1 a2 p3 nn b0 b1 b2 b3 kk lls h0 n0 _ T20.heap _
          rw [e20]
          exact ⟨(by unfold own_at; rw [if_neg hc2, if_pos hc6, if_pos hc11, if_pos hc14, if_pos hc18, if_pos hc22]), N20, rfl⟩
       ·skip
        obtain ⟨fs, hr, hrun, hended, hW, hsame⟩ := X20.leave (v := some (.int (-2 : Int32))) (fun h => by rw [Bd.returns] at h; cases h)
        refine ⟨_, _, pre21 _ ?_, hrun, hended, _, _, rfl, ?_, ⟨_, rfl⟩, hW, hsame.mono (by decide) (by decide)⟩
        · skip
          refine XS.icmpNo X20.here hx rfl (hb hby d10_92) rfl (feq hc22).1 ?_
          refine XS.bipush X20.here hx rfl (hb hby d10_95) ?_
          show Steps p.tables e below (T20.setTop (mkF m 97 #[.val (.ref a1), .val (.int p1), .val (.ref a2), .val (.int p3), .val (.ref xl), .val (.int (own_to lls p1))] [(.int (-2 : Int32))])) _
          exact retI X20 hx Bd.returns (hb hby d10_97) hr
        · show Q_rm10 Z a1 p1 a2 p3 nn b0 b1 b2 b3 kk lls h0 n0 _ T20.heap _
          rw [e20]
          exact ⟨(by unfold own_at; rw [if_neg hc2, if_pos hc6, if_pos hc11, if_pos hc14, if_pos hc18, if_neg hc22]), N20, rfl⟩
      ·skip
       obtain ⟨fs, hr, hrun, hended, hW, hsame⟩ := X16.leave (v := some (.int (-2 : Int32))) (fun h => by rw [Bd.returns] at h; cases h)
       refine ⟨_, _, pre17 _ ?_, hrun, hended, _, _, rfl, ?_, ⟨_, rfl⟩, hW, hsame.mono (by decide) (by decide)⟩
       · skip
         refine XS.icmpNo X16.here hx rfl (hb hby d10_73) rfl (feq hc18).1 ?_
         refine XS.bipush X16.here hx rfl (hb hby d10_76) ?_
         show Steps p.tables e below (T16.setTop (mkF m 78 #[.val (.ref a1), .val (.int p1), .val (.ref a2), .val (.int p3), .val (.ref xl), .val (.int (own_to lls p1))] [(.int (-2 : Int32))])) _
         exact retI X16 hx Bd.returns (hb hby d10_78) hr
       · show Q_rm10 Z a1 p1 a2 p3 nn b0 b1 b2 b3 kk lls h0 n0 _ T16.heap _
         rw [e16]
         exact ⟨(by unfold own_at; rw [if_neg hc2, if_pos hc6, if_pos hc11, if_pos hc14, if_neg hc18]), N16, rfl⟩
     ·skip
      obtain ⟨fs, hr, hrun, hended, hW, hsame⟩ := X12.leave (v := some (.int (-2 : Int32))) (fun h => by rw [Bd.returns] at h; cases h)
      refine ⟨_, _, pre13 _ ?_, hrun, hended, _, _, rfl, ?_, ⟨_, rfl⟩, hW, hsame.mono (by decide) (by decide)⟩
      · skip
        refine XS.icmpNo X12.here hx rfl (hb hby d10_53) rfl (feq hc14).1 ?_
        refine XS.bipush X12.here hx rfl (hb hby d10_56) ?_
        show Steps p.tables e below (T12.setTop (mkF m 58 #[.val (.ref a1), .val (.int p1), .val (.ref a2), .val (.int p3), .val (.ref xl), .val (.int (own_to lls p1))] [(.int (-2 : Int32))])) _
        exact retI X12 hx Bd.returns (hb hby d10_58) hr
      · show Q_rm10 Z a1 p1 a2 p3 nn b0 b1 b2 b3 kk lls h0 n0 _ T12.heap _
        rw [e12]
        exact ⟨(by unfold own_at; rw [if_neg hc2, if_pos hc6, if_pos hc11, if_neg hc14]), N12, rfl⟩
    ·skip
     obtain ⟨fs, hr, hrun, hended, hW, hsame⟩ := X9.leave (v := some (.int (-2 : Int32))) (fun h => by rw [Bd.returns] at h; cases h)
     refine ⟨_, _, pre10 _ ?_, hrun, hended, _, _, rfl, ?_, ⟨_, rfl⟩, hW, hsame.mono (by decide) (by decide)⟩
     · skip
       refine XS.icmpYes X9.here hx rfl (pc0 := 43) (pc' := 56) rfl (hb hby d10_43) rfl (flt hc11).2.2.2 (by decide) (by decide) ?_
       refine XS.bipush X9.here hx rfl (hb hby d10_56) ?_
       show Steps p.tables e below (T9.setTop (mkF m 58 #[.val (.ref a1), .val (.int p1), .val (.ref a2), .val (.int p3), .val (.ref xl), .val (.int (own_to lls p1))] [(.int (-2 : Int32))])) _
       exact retI X9 hx Bd.returns (hb hby d10_58) hr
     · show Q_rm10 Z a1 p1 a2 p3 nn b0 b1 b2 b3 kk lls h0 n0 _ T9.heap _
       rw [e9]
       exact ⟨(by unfold own_at; rw [if_neg hc2, if_pos hc6, if_neg hc11]), N9, rfl⟩
   ·skip
    obtain ⟨fs, hr, hrun, hended, hW, hsame⟩ := X4.leave (v := some (.int p3)) (fun h => by rw [Bd.returns] at h; cases h)
    refine ⟨_, _, pre5 _ ?_, hrun, hended, _, _, rfl, ?_, ⟨_, rfl⟩, hW, hsame.mono (by decide) (by decide)⟩
    · skip
      refine XS.icmpNo X4.here hx rfl (hb hby d10_16) rfl (flt hc6).1 ?_
      refine XS.iloadN X4.here hx rfl (hb hby d10_19) rfl ?_
      show Steps p.tables e below (T4.setTop (mkF m 20 #[.val (.ref a1), .val (.int p1), .val (.ref a2), .val (.int p3), .unset, .unset] [(.int p3)])) _
      exact retI X4 hx Bd.returns (hb hby d10_20) hr
    · show Q_rm10 Z a1 p1 a2 p3 nn b0 b1 b2 b3 kk lls h0 n0 _ T4.heap _
      rw [e4]
      exact ⟨(by unfold own_at; rw [if_neg hc2, if_neg hc6]), N4, rfl⟩
theorem own_str {Z : State} {a0 : Array Value} (hw : ∀ d ∈ own_tab, d.before a0 Z = true) : ∀ a ∈ Bundle.stringAtoms, a.before a0 Z = true := fun d hd => by
  simp only [Bundle.stringAtoms, List.mem_cons, List.not_mem_nil, or_false] at hd
  rcases hd with rfl | rfl | rfl | rfl | rfl | rfl | rfl
  · exact (kw6 hw)
  · exact (kw7 hw)
  · exact (kw0 hw)
  · exact (kw8 hw)
  · exact (kw9 hw)
  · exact (kw10 hw)
  · exact (kw11 hw)
theorem ef_rmBl_0 (m : MethodId) (x0 : Addr) (x1 : Int32) (x2 : Int32) : entryFrame m #[(.ref x0), (.int x1), (.int x2)] 5 = mkF m 0 #[.val (.ref x0), .val (.int x1), .val (.int x2), .unset, .unset] [] := by first | (simp [entryFrame, mkF, argsToLocals, Value.category]; done) | rfl
def Q_rmBl_0 (Z : State) (a1 : Addr) (p2 : Int32) (nn : Int32) (b0 : Int32) (b1 : Int32) (b2 : Int32) (b3 : Int32) (kk : ClassId) (h0 : Heap) (n0 : Nat) (v : Option Value) (h : Heap) (L : List Loc) : Prop := v = some (.int (own_bl_0 b0 b1 b2 b3 p2)) ∧ Fr n0 L ∧ h = h0
set_option maxRecDepth 65536 in
set_option maxHeartbeats 40000000 in
theorem rmBl_0 (l : Launch) (Z : State) (a0 : Array Value) (hw : ∀ d ∈ own_tab, d.before a0 Z = true) (ws : List Jvm.Cond) (a1 : Addr) (p2 : Int32) (nn : Int32) (b0 : Int32) (b1 : Int32) (b2 : Int32) (b3 : Int32) (kk : ClassId) (h0 : Heap) (n0 : Nat) (Z0 : n0 ≤ h0.size) (P0 : Arv Z h0 a1 kk .byte nn (own_is [b0, b1, b2, b3]) (.int 0)) (hn : 0 ≤ nn.toInt ∧ nn.toInt ≤ 4) (he0 : ¬ nn < p2) :
    MetFree l (⟨"com/example/rank_keeper/rankkeeper/BodyLines", "isBlank", "([BII)Z"⟩ : MethodName) (head1 (Jvm.Cond.code (⟨"com/example/rank_keeper/rankkeeper/BodyLines", "isBlank", "([BII)Z"⟩ : MethodName) prog_2_method_3_code 5 (some .boolean) :: ws) ({ frames := 0, cells := 0, slots := 0, locals := 0 } : Room)) (fun a U => a = #[(.ref a1), (.int 0), (.int p2)] ∧ Z.Warmed39 U.vm ∧ U.heap = h0) (fun _ _ _ _ _ => True) (fun _ U o U' => ∃ v L, o = .returned v ∧ Q_rmBl_0 Z a1 p2 nn b0 b1 b2 b3 kk h0 n0 v U'.heap L ∧ FrameEnd U o U' L ({ frames := 0, cells := 0, slots := 0, locals := 0 } : Room).cells ({ frames := 0, cells := 0, slots := 0, locals := 0 } : Room).slots) := by
  refine MetFree.of_bodySF (plainFor_of_name pn_8) hisR ?_
  intro p e s m args below meth c s₁ Bd hml0 hP hK
  obtain ⟨rfl, hZ, hh⟩ := hP
  have hx := Bd.exec
  have hby := Bd.bytes
  have hml : c.maxLocals = 5 := hml0
  have hown : s.vm.findClass "com/example/rank_keeper/rankkeeper/BodyLines" = some m.cls := findClass_of_methodNamed Bd.named
  have hnm := (name_of_methodNamed Bd.named Bd.method).1
  have X0 : Stand p l e ({ frames := 0, cells := 0, slots := 0, locals := 0 } : Room) s m #[(.ref a1), (.int 0), (.int p2)] below meth c s₁ [] 0 0 := Stand.of_body Bd
  have e0 : s₁.heap = h0 := by rw [← hh, Bd.state]; rfl
  have N0 := Fr.nil n0
  have KR : Keep h0 h0 [] := Keep.refl h0 _
  have pre0 : ∀ t, Steps p.tables e below (s₁.setTop (mkF m 0 #[.val (.ref a1), .val (.int 0), .val (.int p2), .unset, .unset] [])) t → Steps p.tables e below (s₁.setTop (entryFrame m #[(.ref a1), (.int 0), (.int p2)] 5)) t := fun t k => castTop (ef_rmBl_0 m (a1) ((0 : Int32)) (p2)) k
  have pre1 : ∀ t, Steps p.tables e below (s₁.setTop (mkF m 4 #[.val (.ref a1), .val (.int 0), .val (.int p2), .val (.int 0), .unset] [(.int p2), (.int 0)])) t → Steps p.tables e below (s₁.setTop (entryFrame m #[(.ref a1), (.int 0), (.int p2)] 5)) t := fun t k => pre0 t (by
    refine XS.iloadN X0.here hx rfl (hb hby d12_0) rfl ?_
    refine XS.istoreN X0.here hx rfl (hb hby d12_1) rfl (l' := #[.val (.ref a1), .val (.int 0), .val (.int p2), .val (.int 0), .unset]) rfl ?_
    refine XS.iloadN X0.here hx rfl (hb hby d12_2) rfl ?_
    refine XS.iloadN X0.here hx rfl (hb hby d12_3) rfl ?_
    exact k)
  by_cases hc2 : (0 : Int32) < p2
  ·skip
   obtain ⟨cl3, Ar3, q3, S3, N3', H3, G3⟩ := id P0
   have hin3 : ¬ ((0 : Int32) < 0 ∨ cl3.slots.size ≤ ((0 : Int32)).toNatClampNeg) := inb_of S3 (own_le (s := (0 : Int32)) (by decide) he0 (by decide) hc2)
   have hat3 : cl3.slots[((0 : Int32)).toNatClampNeg]? = some (.int (own_b b0 b1 b2 b3 (0 : Int32))) := H3.at hin3 (own_is_getD _ _)
   have pre4 : ∀ t, Steps p.tables e below (s₁.setTop (mkF m 12 #[.val (.ref a1), .val (.int 0), .val (.int p2), .val (.int 0), .val (.int (own_b b0 b1 b2 b3 (0 : Int32)))] [])) t → Steps p.tables e below (s₁.setTop (entryFrame m #[(.ref a1), (.int 0), (.int p2)] 5)) t := fun t k => pre1 t (by
     refine XS.icmpNo X0.here hx rfl (hb hby d12_4) rfl (tlt hc2).2.1 ?_
     refine XS.aloadN X0.here hx rfl (hb hby d12_7) rfl rfl ?_
     refine XS.iloadN X0.here hx rfl (hb hby d12_8) rfl ?_
     refine X0.baloadBytes hx (j := (0 : Int32)) (v := (.int (own_b b0 b1 b2 b3 (0 : Int32)))) (by rw [e0]; exact Ar3.1) (State.isArrayOf_alike hZ.alike Ar3.2.1) Ar3.2.2 hin3 hat3 (g := (mkF m 9 #[.val (.ref a1), .val (.int 0), .val (.int p2), .val (.int 0), .unset] [(.int 0), (.ref a1)])) rfl rfl (hb hby d12_9) _ ?_
     refine XS.istore X0.here hx rfl (hb hby d12_10) rfl (l' := #[.val (.ref a1), .val (.int 0), .val (.int p2), .val (.int 0), .val (.int (own_b b0 b1 b2 b3 (0 : Int32)))]) rfl ?_
     exact k)
   by_cases hc5 : own_ws (own_b b0 b1 b2 b3 (0 : Int32))
   ·skip
    have pre6 : ∀ t, Steps p.tables e below (s₁.setTop (mkF m 16 #[.val (.ref a1), .val (.int 0), .val (.int p2), .val (.int 0), .val (.int (own_b b0 b1 b2 b3 (0 : Int32)))] [(.int 32), (.int (own_b b0 b1 b2 b3 (0 : Int32)))])) t → Steps p.tables e below (s₁.setTop (entryFrame m #[(.ref a1), (.int 0), (.int p2)] 5)) t := fun t k => pre4 t (by
      refine XS.iload X0.here hx rfl (hb hby d12_12) rfl ?_
      refine XS.bipush X0.here hx rfl (hb hby d12_14) ?_
      exact k)
    have pre9 : ∀ t, Steps p.tables e below (s₁.setTop (mkF m 35 #[.val (.ref a1), .val (.int 0), .val (.int p2), .val (.int 0), .val (.int (own_b b0 b1 b2 b3 (0 : Int32)))] [])) t → Steps p.tables e below (s₁.setTop (entryFrame m #[(.ref a1), (.int 0), (.int p2)] 5)) t := fun t k => pre6 t (by
      by_cases hc7 : (own_b b0 b1 b2 b3 (0 : Int32)) = (32 : Int32)
      · skip
        refine XS.icmpYes X0.here hx rfl (pc0 := 16) (pc' := 35) rfl (hb hby d12_16) rfl (teq hc7).1 (by decide) (by decide) ?_
        exact k
      · skip
        refine XS.icmpNo X0.here hx rfl (hb hby d12_16) rfl (feq hc7).1 ?_
        refine XS.iload X0.here hx rfl (hb hby d12_19) rfl ?_
        refine XS.bipush X0.here hx rfl (hb hby d12_21) ?_
        by_cases hc8 : (own_b b0 b1 b2 b3 (0 : Int32)) = (9 : Int32)
        · skip
          refine XS.icmpYes X0.here hx rfl (pc0 := 23) (pc' := 35) rfl (hb hby d12_23) rfl (teq hc8).1 (by decide) (by decide) ?_
          exact k
        · skip
          refine XS.icmpNo X0.here hx rfl (hb hby d12_23) rfl (feq hc8).1 ?_
          refine XS.iload X0.here hx rfl (hb hby d12_26) rfl ?_
          refine XS.bipush X0.here hx rfl (hb hby d12_28) ?_
          refine XS.icmpYes X0.here hx rfl (pc0 := 30) (pc' := 35) rfl (hb hby d12_30) rfl (teq (own_ws3 hc5 hc7 hc8)).1 (by decide) (by decide) ?_
          exact k)
    have pre10 : ∀ t, Steps p.tables e below (s₁.setTop (mkF m 4 #[.val (.ref a1), .val (.int 0), .val (.int p2), .val (.int 1), .val (.int (own_b b0 b1 b2 b3 (0 : Int32)))] [(.int p2), (.int 1)])) t → Steps p.tables e below (s₁.setTop (entryFrame m #[(.ref a1), (.int 0), (.int p2)] 5)) t := fun t k => pre9 t (by
      refine XS.iinc X0.here hx rfl (hb hby d12_35) rfl (l' := #[.val (.ref a1), .val (.int 0), .val (.int p2), .val (.int 1), .val (.int (own_b b0 b1 b2 b3 (0 : Int32)))]) rfl ?_
      refine XS.goto X0.here hx rfl (pc0 := 38) (pc' := 2) rfl (hb hby d12_38) (by decide) (by decide) ?_
      refine XS.iloadN X0.here hx rfl (hb hby d12_2) rfl ?_
      refine XS.iloadN X0.here hx rfl (hb hby d12_3) rfl ?_
      exact k)
    by_cases hc11 : (1 : Int32) < p2
    ·skip
     obtain ⟨cl12, Ar12, q12, S12, N12', H12, G12⟩ := id P0
     have hin12 : ¬ ((1 : Int32) < 0 ∨ cl12.slots.size ≤ ((1 : Int32)).toNatClampNeg) := inb_of S12 (own_le (s := (0 : Int32)) (by decide) he0 (by decide) hc11)
     have hat12 : cl12.slots[((1 : Int32)).toNatClampNeg]? = some (.int (own_b b0 b1 b2 b3 (1 : Int32))) := H12.at hin12 (own_is_getD _ _)
     have pre13 : ∀ t, Steps p.tables e below (s₁.setTop (mkF m 12 #[.val (.ref a1), .val (.int 0), .val (.int p2), .val (.int 1), .val (.int (own_b b0 b1 b2 b3 (1 : Int32)))] [])) t → Steps p.tables e below (s₁.setTop (entryFrame m #[(.ref a1), (.int 0), (.int p2)] 5)) t := fun t k => pre10 t (by
       refine XS.icmpNo X0.here hx rfl (hb hby d12_4) rfl (tlt hc11).2.1 ?_
       refine XS.aloadN X0.here hx rfl (hb hby d12_7) rfl rfl ?_
       refine XS.iloadN X0.here hx rfl (hb hby d12_8) rfl ?_
       refine X0.baloadBytes hx (j := (1 : Int32)) (v := (.int (own_b b0 b1 b2 b3 (1 : Int32)))) (by rw [e0]; exact Ar12.1) (State.isArrayOf_alike hZ.alike Ar12.2.1) Ar12.2.2 hin12 hat12 (g := (mkF m 9 #[.val (.ref a1), .val (.int 0), .val (.int p2), .val (.int 1), .val (.int (own_b b0 b1 b2 b3 (0 : Int32)))] [(.int 1), (.ref a1)])) rfl rfl (hb hby d12_9) _ ?_
       refine XS.istore X0.here hx rfl (hb hby d12_10) rfl (l' := #[.val (.ref a1), .val (.int 0), .val (.int p2), .val (.int 1), .val (.int (own_b b0 b1 b2 b3 (1 : Int32)))]) rfl ?_
       exact k)
     by_cases hc14 : own_ws (own_b b0 b1 b2 b3 (1 : Int32))
     ·skip
      have pre15 : ∀ t, Steps p.tables e below (s₁.setTop (mkF m 16 #[.val (.ref a1), .val (.int 0), .val (.int p2), .val (.int 1), .val (.int (own_b b0 b1 b2 b3 (1 : Int32)))] [(.int 32), (.int (own_b b0 b1 b2 b3 (1 : Int32)))])) t → Steps p.tables e below (s₁.setTop (entryFrame m #[(.ref a1), (.int 0), (.int p2)] 5)) t := fun t k => pre13 t (by
        refine XS.iload X0.here hx rfl (hb hby d12_12) rfl ?_
        refine XS.bipush X0.here hx rfl (hb hby d12_14) ?_
        exact k)
      have pre18 : ∀ t, Steps p.tables e below (s₁.setTop (mkF m 35 #[.val (.ref a1), .val (.int 0), .val (.int p2), .val (.int 1), .val (.int (own_b b0 b1 b2 b3 (1 : Int32)))] [])) t → Steps p.tables e below (s₁.setTop (entryFrame m #[(.ref a1), (.int 0), (.int p2)] 5)) t := fun t k => pre15 t (by
        by_cases hc16 : (own_b b0 b1 b2 b3 (1 : Int32)) = (32 : Int32)
        · skip
          refine XS.icmpYes X0.here hx rfl (pc0 := 16) (pc' := 35) rfl (hb hby d12_16) rfl (teq hc16).1 (by decide) (by decide) ?_
          exact k
        · skip
          refine XS.icmpNo X0.here hx rfl (hb hby d12_16) rfl (feq hc16).1 ?_
          refine XS.iload X0.here hx rfl (hb hby d12_19) rfl ?_
          refine XS.bipush X0.here hx rfl (hb hby d12_21) ?_
          by_cases hc17 : (own_b b0 b1 b2 b3 (1 : Int32)) = (9 : Int32)
          · skip
            refine XS.icmpYes X0.here hx rfl (pc0 := 23) (pc' := 35) rfl (hb hby d12_23) rfl (teq hc17).1 (by decide) (by decide) ?_
            exact k
          · skip
            refine XS.icmpNo X0.here hx rfl (hb hby d12_23) rfl (feq hc17).1 ?_
            refine XS.iload X0.here hx rfl (hb hby d12_26) rfl ?_
            refine XS.bipush X0.here hx rfl (hb hby d12_28) ?_
            refine XS.icmpYes X0.here hx rfl (pc0 := 30) (pc' := 35) rfl (hb hby d12_30) rfl (teq (own_ws3 hc14 hc16 hc17)).1 (by decide) (by decide) ?_
            exact k)
      have pre19 : ∀ t, Steps p.tables e below (s₁.setTop (mkF m 4 #[.val (.ref a1), .val (.int 0), .val (.int p2), .val (.int 2), .val (.int (own_b b0 b1 b2 b3 (1 : Int32)))] [(.int p2), (.int 2)])) t → Steps p.tables e below (s₁.setTop (entryFrame m #[(.ref a1), (.int 0), (.int p2)] 5)) t := fun t k => pre18 t (by
        refine XS.iinc X0.here hx rfl (hb hby d12_35) rfl (l' := #[.val (.ref a1), .val (.int 0), .val (.int p2), .val (.int 2), .val (.int (own_b b0 b1 b2 b3 (1 : Int32)))]) rfl ?_
        refine XS.goto X0.here hx rfl (pc0 := 38) (pc' := 2) rfl (hb hby d12_38) (by decide) (by decide) ?_
        refine XS.iloadN X0.here hx rfl (hb hby d12_2) rfl ?_
        refine XS.iloadN X0.here hx rfl (hb hby d12_3) rfl ?_
        exact k)
      by_cases hc20 : (2 : Int32) < p2
      ·skip
       obtain ⟨cl21, Ar21, q21, S21, N21', H21, G21⟩ := id P0
       have hin21 : ¬ ((2 : Int32) < 0 ∨ cl21.slots.size ≤ ((2 : Int32)).toNatClampNeg) := inb_of S21 (own_le (s := (0 : Int32)) (by decide) he0 (by decide) hc20)
       have hat21 : cl21.slots[((2 : Int32)).toNatClampNeg]? = some (.int (own_b b0 b1 b2 b3 (2 : Int32))) := H21.at hin21 (own_is_getD _ _)
       have pre22 : ∀ t, Steps p.tables e below (s₁.setTop (mkF m 12 #[.val (.ref a1), .val (.int 0), .val (.int p2), .val (.int 2), .val (.int (own_b b0 b1 b2 b3 (2 : Int32)))] [])) t → Steps p.tables e below (s₁.setTop (entryFrame m #[(.ref a1), (.int 0), (.int p2)] 5)) t := fun t k => pre19 t (by
         refine XS.icmpNo X0.here hx rfl (hb hby d12_4) rfl (tlt hc20).2.1 ?_
         refine XS.aloadN X0.here hx rfl (hb hby d12_7) rfl rfl ?_
         refine XS.iloadN X0.here hx rfl (hb hby d12_8) rfl ?_
         refine X0.baloadBytes hx (j := (2 : Int32)) (v := (.int (own_b b0 b1 b2 b3 (2 : Int32)))) (by rw [e0]; exact Ar21.1) (State.isArrayOf_alike hZ.alike Ar21.2.1) Ar21.2.2 hin21 hat21 (g := (mkF m 9 #[.val (.ref a1), .val (.int 0), .val (.int p2), .val (.int 2), .val (.int (own_b b0 b1 b2 b3 (1 : Int32)))] [(.int 2), (.ref a1)])) rfl rfl (hb hby d12_9) _ ?_
         refine XS.istore X0.here hx rfl (hb hby d12_10) rfl (l' := #[.val (.ref a1), .val (.int 0), .val (.int p2), .val (.int 2), .val (.int (own_b b0 b1 b2 b3 (2 : Int32)))]) rfl ?_
         exact k)
       by_cases hc23 : own_ws (own_b b0 b1 b2 b3 (2 : Int32))
       ·skip
        have pre24 : ∀ t, Steps p.tables e below (s₁.setTop (mkF m 16 #[.val (.ref a1), .val (.int 0), .val (.int p2), .val (.int 2), .val (.int (own_b b0 b1 b2 b3 (2 : Int32)))] [(.int 32), (.int (own_b b0 b1 b2 b3 (2 : Int32)))])) t → Steps p.tables e below (s₁.setTop (entryFrame m #[(.ref a1), (.int 0), (.int p2)] 5)) t := fun t k => pre22 t (by
          refine XS.iload X0.here hx rfl (hb hby d12_12) rfl ?_
          refine XS.bipush X0.here hx rfl (hb hby d12_14) ?_
          exact k)
        have pre27 : ∀ t, Steps p.tables e below (s₁.setTop (mkF m 35 #[.val (.ref a1), .val (.int 0), .val (.int p2), .val (.int 2), .val (.int (own_b b0 b1 b2 b3 (2 : Int32)))] [])) t → Steps p.tables e below (s₁.setTop (entryFrame m #[(.ref a1), (.int 0), (.int p2)] 5)) t := fun t k => pre24 t (by
          by_cases hc25 : (own_b b0 b1 b2 b3 (2 : Int32)) = (32 : Int32)
          · skip
            refine XS.icmpYes X0.here hx rfl (pc0 := 16) (pc' := 35) rfl (hb hby d12_16) rfl (teq hc25).1 (by decide) (by decide) ?_
            exact k
          · skip
            refine XS.icmpNo X0.here hx rfl (hb hby d12_16) rfl (feq hc25).1 ?_
            refine XS.iload X0.here hx rfl (hb hby d12_19) rfl ?_
            refine XS.bipush X0.here hx rfl (hb hby d12_21) ?_
            by_cases hc26 : (own_b b0 b1 b2 b3 (2 : Int32)) = (9 : Int32)
            · skip
              refine XS.icmpYes X0.here hx rfl (pc0 := 23) (pc' := 35) rfl (hb hby d12_23) rfl (teq hc26).1 (by decide) (by decide) ?_
              exact k
            · skip
              refine XS.icmpNo X0.here hx rfl (hb hby d12_23) rfl (feq hc26).1 ?_
              refine XS.iload X0.here hx rfl (hb hby d12_26) rfl ?_
              refine XS.bipush X0.here hx rfl (hb hby d12_28) ?_
              refine XS.icmpYes X0.here hx rfl (pc0 := 30) (pc' := 35) rfl (hb hby d12_30) rfl (teq (own_ws3 hc23 hc25 hc26)).1 (by decide) (by decide) ?_
              exact k)
        have pre28 : ∀ t, Steps p.tables e below (s₁.setTop (mkF m 4 #[.val (.ref a1), .val (.int 0), .val (.int p2), .val (.int 3), .val (.int (own_b b0 b1 b2 b3 (2 : Int32)))] [(.int p2), (.int 3)])) t → Steps p.tables e below (s₁.setTop (entryFrame m #[(.ref a1), (.int 0), (.int p2)] 5)) t := fun t k => pre27 t (by
          refine XS.iinc X0.here hx rfl (hb hby d12_35) rfl (l' := #[.val (.ref a1), .val (.int 0), .val (.int p2), .val (.int 3), .val (.int (own_b b0 b1 b2 b3 (2 : Int32)))]) rfl ?_
          refine XS.goto X0.here hx rfl (pc0 := 38) (pc' := 2) rfl (hb hby d12_38) (by decide) (by decide) ?_
          refine XS.iloadN X0.here hx rfl (hb hby d12_2) rfl ?_
          refine XS.iloadN X0.here hx rfl (hb hby d12_3) rfl ?_
          exact k)
        by_cases hc29 : (3 : Int32) < p2
        ·skip
         obtain ⟨cl30, Ar30, q30, S30, N30', H30, G30⟩ := id P0
         have hin30 : ¬ ((3 : Int32) < 0 ∨ cl30.slots.size ≤ ((3 : Int32)).toNatClampNeg) := inb_of S30 (own_le (s := (0 : Int32)) (by decide) he0 (by decide) hc29)
         have hat30 : cl30.slots[((3 : Int32)).toNatClampNeg]? = some (.int (own_b b0 b1 b2 b3 (3 : Int32))) := H30.at hin30 (own_is_getD _ _)
         have pre31 : ∀ t, Steps p.tables e below (s₁.setTop (mkF m 12 #[.val (.ref a1), .val (.int 0), .val (.int p2), .val (.int 3), .val (.int (own_b b0 b1 b2 b3 (3 : Int32)))] [])) t → Steps p.tables e below (s₁.setTop (entryFrame m #[(.ref a1), (.int 0), (.int p2)] 5)) t := fun t k => pre28 t (by
           refine XS.icmpNo X0.here hx rfl (hb hby d12_4) rfl (tlt hc29).2.1 ?_
           refine XS.aloadN X0.here hx rfl (hb hby d12_7) rfl rfl ?_
           refine XS.iloadN X0.here hx rfl (hb hby d12_8) rfl ?_
           refine X0.baloadBytes hx (j := (3 : Int32)) (v := (.int (own_b b0 b1 b2 b3 (3 : Int32)))) (by rw [e0]; exact Ar30.1) (State.isArrayOf_alike hZ.alike Ar30.2.1) Ar30.2.2 hin30 hat30 (g := (mkF m 9 #[.val (.ref a1), .val (.int 0), .val (.int p2), .val (.int 3), .val (.int (own_b b0 b1 b2 b3 (2 : Int32)))] [(.int 3), (.ref a1)])) rfl rfl (hb hby d12_9) _ ?_
           refine XS.istore X0.here hx rfl (hb hby d12_10) rfl (l' := #[.val (.ref a1), .val (.int 0), .val (.int p2), .val (.int 3), .val (.int (own_b b0 b1 b2 b3 (3 : Int32)))]) rfl ?_
           exact k)
         by_cases hc32 : own_ws (own_b b0 b1 b2 b3 (3 : Int32))
         ·skip
          have pre33 : ∀ t, Steps p.tables e below (s₁.setTop (mkF m 16 #[.val (.ref a1), .val (.int 0), .val (.int p2), .val (.int 3), .val (.int (own_b b0 b1 b2 b3 (3 : Int32)))] [(.int 32), (.int (own_b b0 b1 b2 b3 (3 : Int32)))])) t → Steps p.tables e below (s₁.setTop (entryFrame m #[(.ref a1), (.int 0), (.int p2)] 5)) t := fun t k => pre31 t (by
            refine XS.iload X0.here hx rfl (hb hby d12_12) rfl ?_
            refine XS.bipush X0.here hx rfl (hb hby d12_14) ?_
            exact k)
          have pre36 : ∀ t, Steps p.tables e below (s₁.setTop (mkF m 35 #[.val (.ref a1), .val (.int 0), .val (.int p2), .val (.int 3), .val (.int (own_b b0 b1 b2 b3 (3 : Int32)))] [])) t → Steps p.tables e below (s₁.setTop (entryFrame m #[(.ref a1), (.int 0), (.int p2)] 5)) t := fun t k => pre33 t (by
            by_cases hc34 : (own_b b0 b1 b2 b3 (3 : Int32)) = (32 : Int32)
            · skip
              refine XS.icmpYes X0.here hx rfl (pc0 := 16) (pc' := 35) rfl (hb hby d12_16) rfl (teq hc34).1 (by decide) (by decide) ?_
              exact k
            · skip
              refine XS.icmpNo X0.here hx rfl (hb hby d12_16) rfl (feq hc34).1 ?_
              refine XS.iload X0.here hx rfl (hb hby d12_19) rfl ?_
              refine XS.bipush X0.here hx rfl (hb hby d12_21) ?_
              by_cases hc35 : (own_b b0 b1 b2 b3 (3 : Int32)) = (9 : Int32)
              · skip
                refine XS.icmpYes X0.here hx rfl (pc0 := 23) (pc' := 35) rfl (hb hby d12_23) rfl (teq hc35).1 (by decide) (by decide) ?_
                exact k
              · skip
                refine XS.icmpNo X0.here hx rfl (hb hby d12_23) rfl (feq hc35).1 ?_
                refine XS.iload X0.here hx rfl (hb hby d12_26) rfl ?_
                refine XS.bipush X0.here hx rfl (hb hby d12_28) ?_
                refine XS.icmpYes X0.here hx rfl (pc0 := 30) (pc' := 35) rfl (hb hby d12_30) rfl (teq (own_ws3 hc32 hc34 hc35)).1 (by decide) (by decide) ?_
                exact k)
          obtain ⟨fs, hr, hrun, hended, hW, hsame⟩ := X0.leave (v := some (.int 1)) (fun h => by rw [Bd.returns] at h; cases h)
          refine ⟨_, _, pre36 _ ?_, hrun, hended, _, _, rfl, ?_, ⟨_, rfl⟩, hW, hsame.mono (by decide) (by decide)⟩
          · skip
            refine XS.iinc X0.here hx rfl (hb hby d12_35) rfl (l' := #[.val (.ref a1), .val (.int 0), .val (.int p2), .val (.int 4), .val (.int (own_b b0 b1 b2 b3 (3 : Int32)))]) rfl ?_
            refine XS.goto X0.here hx rfl (pc0 := 38) (pc' := 2) rfl (hb hby d12_38) (by decide) (by decide) ?_
            refine XS.iloadN X0.here hx rfl (hb hby d12_2) rfl ?_
            refine XS.iloadN X0.here hx rfl (hb hby d12_3) rfl ?_
            refine XS.icmpYes X0.here hx rfl (pc0 := 4) (pc' := 41) rfl (hb hby d12_4) rfl (flt (own_ge4e hn he0 (by decide))).2.1 (by decide) (by decide) ?_
            refine XS.iconst X0.here hx rfl (hb hby d12_41) ?_
            show Steps p.tables e below (s₁.setTop (mkF m 42 #[.val (.ref a1), .val (.int 0), .val (.int p2), .val (.int 4), .val (.int (own_b b0 b1 b2 b3 (3 : Int32)))] [(.int 1)])) _
            exact retN X0 hx (t := .boolean) Bd.returns (by simp) (hb hby d12_42) hr
          · show Q_rmBl_0 Z a1 p2 nn b0 b1 b2 b3 kk h0 n0 _ s₁.heap _
            rw [e0]
            exact ⟨(by unfold own_bl_0; rw [if_pos hc2, if_pos hc5, if_pos hc11, if_pos hc14, if_pos hc20, if_pos hc23, if_pos hc29, if_pos hc32]), N0, rfl⟩
         ·skip
          obtain ⟨fs, hr, hrun, hended, hW, hsame⟩ := X0.leave (v := some (.int 0)) (fun h => by rw [Bd.returns] at h; cases h)
          refine ⟨_, _, pre31 _ ?_, hrun, hended, _, _, rfl, ?_, ⟨_, rfl⟩, hW, hsame.mono (by decide) (by decide)⟩
          · skip
            refine XS.iload X0.here hx rfl (hb hby d12_12) rfl ?_
            refine XS.bipush X0.here hx rfl (hb hby d12_14) ?_
            refine XS.icmpNo X0.here hx rfl (hb hby d12_16) rfl (feq (own_wsn1 hc32)).1 ?_
            refine XS.iload X0.here hx rfl (hb hby d12_19) rfl ?_
            refine XS.bipush X0.here hx rfl (hb hby d12_21) ?_
            refine XS.icmpNo X0.here hx rfl (hb hby d12_23) rfl (feq (own_wsn2 hc32)).1 ?_
            refine XS.iload X0.here hx rfl (hb hby d12_26) rfl ?_
            refine XS.bipush X0.here hx rfl (hb hby d12_28) ?_
            refine XS.icmpNo X0.here hx rfl (hb hby d12_30) rfl (feq (own_wsn3 hc32)).1 ?_
            refine XS.iconst X0.here hx rfl (hb hby d12_33) ?_
            show Steps p.tables e below (s₁.setTop (mkF m 34 #[.val (.ref a1), .val (.int 0), .val (.int p2), .val (.int 3), .val (.int (own_b b0 b1 b2 b3 (3 : Int32)))] [(.int 0)])) _
            exact retN X0 hx (t := .boolean) Bd.returns (by simp) (hb hby d12_34) hr
          · show Q_rmBl_0 Z a1 p2 nn b0 b1 b2 b3 kk h0 n0 _ s₁.heap _
            rw [e0]
            exact ⟨(by unfold own_bl_0; rw [if_pos hc2, if_pos hc5, if_pos hc11, if_pos hc14, if_pos hc20, if_pos hc23, if_pos hc29, if_neg hc32]), N0, rfl⟩
        ·skip
         obtain ⟨fs, hr, hrun, hended, hW, hsame⟩ := X0.leave (v := some (.int 1)) (fun h => by rw [Bd.returns] at h; cases h)
         refine ⟨_, _, pre28 _ ?_, hrun, hended, _, _, rfl, ?_, ⟨_, rfl⟩, hW, hsame.mono (by decide) (by decide)⟩
         · skip
           refine XS.icmpYes X0.here hx rfl (pc0 := 4) (pc' := 41) rfl (hb hby d12_4) rfl (flt hc29).2.1 (by decide) (by decide) ?_
           refine XS.iconst X0.here hx rfl (hb hby d12_41) ?_
           show Steps p.tables e below (s₁.setTop (mkF m 42 #[.val (.ref a1), .val (.int 0), .val (.int p2), .val (.int 3), .val (.int (own_b b0 b1 b2 b3 (2 : Int32)))] [(.int 1)])) _
           exact retN X0 hx (t := .boolean) Bd.returns (by simp) (hb hby d12_42) hr
         · show Q_rmBl_0 Z a1 p2 nn b0 b1 b2 b3 kk h0 n0 _ s₁.heap _
           rw [e0]
           exact ⟨(by unfold own_bl_0; rw [if_pos hc2, if_pos hc5, if_pos hc11, if_pos hc14, if_pos hc20, if_pos hc23, if_neg hc29]), N0, rfl⟩
       ·skip
        obtain ⟨fs, hr, hrun, hended, hW, hsame⟩ := X0.leave (v := some (.int 0)) (fun h => by rw [Bd.returns] at h; cases h)
        refine ⟨_, _, pre22 _ ?_, hrun, hended, _, _, rfl, ?_, ⟨_, rfl⟩, hW, hsame.mono (by decide) (by decide)⟩
        · skip
          refine XS.iload X0.here hx rfl (hb hby d12_12) rfl ?_
          refine XS.bipush X0.here hx rfl (hb hby d12_14) ?_
          refine XS.icmpNo X0.here hx rfl (hb hby d12_16) rfl (feq (own_wsn1 hc23)).1 ?_
          refine XS.iload X0.here hx rfl (hb hby d12_19) rfl ?_
          refine XS.bipush X0.here hx rfl (hb hby d12_21) ?_
          refine XS.icmpNo X0.here hx rfl (hb hby d12_23) rfl (feq (own_wsn2 hc23)).1 ?_
          refine XS.iload X0.here hx rfl (hb hby d12_26) rfl ?_
          refine XS.bipush X0.here hx rfl (hb hby d12_28) ?_
          refine XS.icmpNo X0.here hx rfl (hb hby d12_30) rfl (feq (own_wsn3 hc23)).1 ?_
          refine XS.iconst X0.here hx rfl (hb hby d12_33) ?_
          show Steps p.tables e below (s₁.setTop (mkF m 34 #[.val (.ref a1), .val (.int 0), .val (.int p2), .val (.int 2), .val (.int (own_b b0 b1 b2 b3 (2 : Int32)))] [(.int 0)])) _
          exact retN X0 hx (t := .boolean) Bd.returns (by simp) (hb hby d12_34) hr
        · show Q_rmBl_0 Z a1 p2 nn b0 b1 b2 b3 kk h0 n0 _ s₁.heap _
          rw [e0]
          exact ⟨(by unfold own_bl_0; rw [if_pos hc2, if_pos hc5, if_pos hc11, if_pos hc14, if_pos hc20, if_neg hc23]), N0, rfl⟩
      ·skip
       obtain ⟨fs, hr, hrun, hended, hW, hsame⟩ := X0.leave (v := some (.int 1)) (fun h => by rw [Bd.returns] at h; cases h)
       refine ⟨_, _, pre19 _ ?_, hrun, hended, _, _, rfl, ?_, ⟨_, rfl⟩, hW, hsame.mono (by decide) (by decide)⟩
       · skip
         refine XS.icmpYes X0.here hx rfl (pc0 := 4) (pc' := 41) rfl (hb hby d12_4) rfl (flt hc20).2.1 (by decide) (by decide) ?_
         refine XS.iconst X0.here hx rfl (hb hby d12_41) ?_
         show Steps p.tables e below (s₁.setTop (mkF m 42 #[.val (.ref a1), .val (.int 0), .val (.int p2), .val (.int 2), .val (.int (own_b b0 b1 b2 b3 (1 : Int32)))] [(.int 1)])) _
         exact retN X0 hx (t := .boolean) Bd.returns (by simp) (hb hby d12_42) hr
       · show Q_rmBl_0 Z a1 p2 nn b0 b1 b2 b3 kk h0 n0 _ s₁.heap _
         rw [e0]
         exact ⟨(by unfold own_bl_0; rw [if_pos hc2, if_pos hc5, if_pos hc11, if_pos hc14, if_neg hc20]), N0, rfl⟩
     ·skip
      obtain ⟨fs, hr, hrun, hended, hW, hsame⟩ := X0.leave (v := some (.int 0)) (fun h => by rw [Bd.returns] at h; cases h)
      refine ⟨_, _, pre13 _ ?_, hrun, hended, _, _, rfl, ?_, ⟨_, rfl⟩, hW, hsame.mono (by decide) (by decide)⟩
      · skip
        refine XS.iload X0.here hx rfl (hb hby d12_12) rfl ?_
        refine XS.bipush X0.here hx rfl (hb hby d12_14) ?_
        refine XS.icmpNo X0.here hx rfl (hb hby d12_16) rfl (feq (own_wsn1 hc14)).1 ?_
        refine XS.iload X0.here hx rfl (hb hby d12_19) rfl ?_
        refine XS.bipush X0.here hx rfl (hb hby d12_21) ?_
        refine XS.icmpNo X0.here hx rfl (hb hby d12_23) rfl (feq (own_wsn2 hc14)).1 ?_
        refine XS.iload X0.here hx rfl (hb hby d12_26) rfl ?_
        refine XS.bipush X0.here hx rfl (hb hby d12_28) ?_
        refine XS.icmpNo X0.here hx rfl (hb hby d12_30) rfl (feq (own_wsn3 hc14)).1 ?_
        refine XS.iconst X0.here hx rfl (hb hby d12_33) ?_
        show Steps p.tables e below (s₁.setTop (mkF m 34 #[.val (.ref a1), .val (.int 0), .val (.int p2), .val (.int 1), .val (.int (own_b b0 b1 b2 b3 (1 : Int32)))] [(.int 0)])) _
        exact retN X0 hx (t := .boolean) Bd.returns (by simp) (hb hby d12_34) hr
      · show Q_rmBl_0 Z a1 p2 nn b0 b1 b2 b3 kk h0 n0 _ s₁.heap _
        rw [e0]
        exact ⟨(by unfold own_bl_0; rw [if_pos hc2, if_pos hc5, if_pos hc11, if_neg hc14]), N0, rfl⟩
    ·skip
     obtain ⟨fs, hr, hrun, hended, hW, hsame⟩ := X0.leave (v := some (.int 1)) (fun h => by rw [Bd.returns] at h; cases h)
     refine ⟨_, _, pre10 _ ?_, hrun, hended, _, _, rfl, ?_, ⟨_, rfl⟩, hW, hsame.mono (by decide) (by decide)⟩
     · skip
       refine XS.icmpYes X0.here hx rfl (pc0 := 4) (pc' := 41) rfl (hb hby d12_4) rfl (flt hc11).2.1 (by decide) (by decide) ?_
       refine XS.iconst X0.here hx rfl (hb hby d12_41) ?_
       show Steps p.tables e below (s₁.setTop (mkF m 42 #[.val (.ref a1), .val (.int 0), .val (.int p2), .val (.int 1), .val (.int (own_b b0 b1 b2 b3 (0 : Int32)))] [(.int 1)])) _
       exact retN X0 hx (t := .boolean) Bd.returns (by simp) (hb hby d12_42) hr
     · show Q_rmBl_0 Z a1 p2 nn b0 b1 b2 b3 kk h0 n0 _ s₁.heap _
       rw [e0]
       exact ⟨(by unfold own_bl_0; rw [if_pos hc2, if_pos hc5, if_neg hc11]), N0, rfl⟩
   ·skip
    obtain ⟨fs, hr, hrun, hended, hW, hsame⟩ := X0.leave (v := some (.int 0)) (fun h => by rw [Bd.returns] at h; cases h)
    refine ⟨_, _, pre4 _ ?_, hrun, hended, _, _, rfl, ?_, ⟨_, rfl⟩, hW, hsame.mono (by decide) (by decide)⟩
    · skip
      refine XS.iload X0.here hx rfl (hb hby d12_12) rfl ?_
      refine XS.bipush X0.here hx rfl (hb hby d12_14) ?_
      refine XS.icmpNo X0.here hx rfl (hb hby d12_16) rfl (feq (own_wsn1 hc5)).1 ?_
      refine XS.iload X0.here hx rfl (hb hby d12_19) rfl ?_
      refine XS.bipush X0.here hx rfl (hb hby d12_21) ?_
      refine XS.icmpNo X0.here hx rfl (hb hby d12_23) rfl (feq (own_wsn2 hc5)).1 ?_
      refine XS.iload X0.here hx rfl (hb hby d12_26) rfl ?_
      refine XS.bipush X0.here hx rfl (hb hby d12_28) ?_
      refine XS.icmpNo X0.here hx rfl (hb hby d12_30) rfl (feq (own_wsn3 hc5)).1 ?_
      refine XS.iconst X0.here hx rfl (hb hby d12_33) ?_
      show Steps p.tables e below (s₁.setTop (mkF m 34 #[.val (.ref a1), .val (.int 0), .val (.int p2), .val (.int 0), .val (.int (own_b b0 b1 b2 b3 (0 : Int32)))] [(.int 0)])) _
      exact retN X0 hx (t := .boolean) Bd.returns (by simp) (hb hby d12_34) hr
    · show Q_rmBl_0 Z a1 p2 nn b0 b1 b2 b3 kk h0 n0 _ s₁.heap _
      rw [e0]
      exact ⟨(by unfold own_bl_0; rw [if_pos hc2, if_neg hc5]), N0, rfl⟩
  ·skip
   obtain ⟨fs, hr, hrun, hended, hW, hsame⟩ := X0.leave (v := some (.int 1)) (fun h => by rw [Bd.returns] at h; cases h)
   refine ⟨_, _, pre1 _ ?_, hrun, hended, _, _, rfl, ?_, ⟨_, rfl⟩, hW, hsame.mono (by decide) (by decide)⟩
   · skip
     refine XS.icmpYes X0.here hx rfl (pc0 := 4) (pc' := 41) rfl (hb hby d12_4) rfl (flt hc2).2.1 (by decide) (by decide) ?_
     refine XS.iconst X0.here hx rfl (hb hby d12_41) ?_
     show Steps p.tables e below (s₁.setTop (mkF m 42 #[.val (.ref a1), .val (.int 0), .val (.int p2), .val (.int 0), .unset] [(.int 1)])) _
     exact retN X0 hx (t := .boolean) Bd.returns (by simp) (hb hby d12_42) hr
   · show Q_rmBl_0 Z a1 p2 nn b0 b1 b2 b3 kk h0 n0 _ s₁.heap _
     rw [e0]
     exact ⟨(by unfold own_bl_0; rw [if_neg hc2]), N0, rfl⟩
theorem ef_rmBl_3 (m : MethodId) (x0 : Addr) (x1 : Int32) (x2 : Int32) : entryFrame m #[(.ref x0), (.int x1), (.int x2)] 5 = mkF m 0 #[.val (.ref x0), .val (.int x1), .val (.int x2), .unset, .unset] [] := by first | (simp [entryFrame, mkF, argsToLocals, Value.category]; done) | rfl
def Q_rmBl_3 (Z : State) (a1 : Addr) (p2 : Int32) (nn : Int32) (b0 : Int32) (b1 : Int32) (b2 : Int32) (b3 : Int32) (kk : ClassId) (h0 : Heap) (n0 : Nat) (v : Option Value) (h : Heap) (L : List Loc) : Prop := v = some (.int (own_bl_3 b0 b1 b2 b3 p2)) ∧ Fr n0 L ∧ h = h0
set_option maxRecDepth 65536 in
set_option maxHeartbeats 40000000 in
theorem rmBl_3 (l : Launch) (Z : State) (a0 : Array Value) (hw : ∀ d ∈ own_tab, d.before a0 Z = true) (ws : List Jvm.Cond) (a1 : Addr) (p2 : Int32) (nn : Int32) (b0 : Int32) (b1 : Int32) (b2 : Int32) (b3 : Int32) (kk : ClassId) (h0 : Heap) (n0 : Nat) (Z0 : n0 ≤ h0.size) (P0 : Arv Z h0 a1 kk .byte nn (own_is [b0, b1, b2, b3]) (.int 0)) (hn : 0 ≤ nn.toInt ∧ nn.toInt ≤ 4) (he0 : ¬ nn < p2) :
    MetFree l (⟨"com/example/rank_keeper/rankkeeper/BodyLines", "isBlank", "([BII)Z"⟩ : MethodName) (head1 (Jvm.Cond.code (⟨"com/example/rank_keeper/rankkeeper/BodyLines", "isBlank", "([BII)Z"⟩ : MethodName) prog_2_method_3_code 5 (some .boolean) :: ws) ({ frames := 0, cells := 0, slots := 0, locals := 0 } : Room)) (fun a U => a = #[(.ref a1), (.int 3), (.int p2)] ∧ Z.Warmed39 U.vm ∧ U.heap = h0) (fun _ _ _ _ _ => True) (fun _ U o U' => ∃ v L, o = .returned v ∧ Q_rmBl_3 Z a1 p2 nn b0 b1 b2 b3 kk h0 n0 v U'.heap L ∧ FrameEnd U o U' L ({ frames := 0, cells := 0, slots := 0, locals := 0 } : Room).cells ({ frames := 0, cells := 0, slots := 0, locals := 0 } : Room).slots) := by
  refine MetFree.of_bodySF (plainFor_of_name pn_8) hisR ?_
  intro p e s m args below meth c s₁ Bd hml0 hP hK
  obtain ⟨rfl, hZ, hh⟩ := hP
  have hx := Bd.exec
  have hby := Bd.bytes
  have hml : c.maxLocals = 5 := hml0
  have hown : s.vm.findClass "com/example/rank_keeper/rankkeeper/BodyLines" = some m.cls := findClass_of_methodNamed Bd.named
  have hnm := (name_of_methodNamed Bd.named Bd.method).1
  have X0 : Stand p l e ({ frames := 0, cells := 0, slots := 0, locals := 0 } : Room) s m #[(.ref a1), (.int 3), (.int p2)] below meth c s₁ [] 0 0 := Stand.of_body Bd
  have e0 : s₁.heap = h0 := by rw [← hh, Bd.state]; rfl
  have N0 := Fr.nil n0
  have KR : Keep h0 h0 [] := Keep.refl h0 _
  have pre0 : ∀ t, Steps p.tables e below (s₁.setTop (mkF m 0 #[.val (.ref a1), .val (.int 3), .val (.int p2), .unset, .unset] [])) t → Steps p.tables e below (s₁.setTop (entryFrame m #[(.ref a1), (.int 3), (.int p2)] 5)) t := fun t k => castTop (ef_rmBl_3 m (a1) ((3 : Int32)) (p2)) k
  have pre1 : ∀ t, Steps p.tables e below (s₁.setTop (mkF m 4 #[.val (.ref a1), .val (.int 3), .val (.int p2), .val (.int 3), .unset] [(.int p2), (.int 3)])) t → Steps p.tables e below (s₁.setTop (entryFrame m #[(.ref a1), (.int 3), (.int p2)] 5)) t := fun t k => pre0 t (by
    refine XS.iloadN X0.here hx rfl (hb hby d12_0) rfl ?_
    refine XS.istoreN X0.here hx rfl (hb hby d12_1) rfl (l' := #[.val (.ref a1), .val (.int 3), .val (.int p2), .val (.int 3), .unset]) rfl ?_
    refine XS.iloadN X0.here hx rfl (hb hby d12_2) rfl ?_
    refine XS.iloadN X0.here hx rfl (hb hby d12_3) rfl ?_
    exact k)
  by_cases hc2 : (3 : Int32) < p2
  ·skip
   obtain ⟨cl3, Ar3, q3, S3, N3', H3, G3⟩ := id P0
   have hin3 : ¬ ((3 : Int32) < 0 ∨ cl3.slots.size ≤ ((3 : Int32)).toNatClampNeg) := inb_of S3 (own_le (s := (0 : Int32)) (by decide) he0 (by decide) hc2)
   have hat3 : cl3.slots[((3 : Int32)).toNatClampNeg]? = some (.int (own_b b0 b1 b2 b3 (3 : Int32))) := H3.at hin3 (own_is_getD _ _)
   have pre4 : ∀ t, Steps p.tables e below (s₁.setTop (mkF m 12 #[.val (.ref a1), .val (.int 3), .val (.int p2), .val (.int 3), .val (.int (own_b b0 b1 b2 b3 (3 : Int32)))] [])) t → Steps p.tables e below (s₁.setTop (entryFrame m #[(.ref a1), (.int 3), (.int p2)] 5)) t := fun t k => pre1 t (by
     refine XS.icmpNo X0.here hx rfl (hb hby d12_4) rfl (tlt hc2).2.1 ?_
     refine XS.aloadN X0.here hx rfl (hb hby d12_7) rfl rfl ?_
     refine XS.iloadN X0.here hx rfl (hb hby d12_8) rfl ?_
     refine X0.baloadBytes hx (j := (3 : Int32)) (v := (.int (own_b b0 b1 b2 b3 (3 : Int32)))) (by rw [e0]; exact Ar3.1) (State.isArrayOf_alike hZ.alike Ar3.2.1) Ar3.2.2 hin3 hat3 (g := (mkF m 9 #[.val (.ref a1), .val (.int 3), .val (.int p2), .val (.int 3), .unset] [(.int 3), (.ref a1)])) rfl rfl (hb hby d12_9) _ ?_
     refine XS.istore X0.here hx rfl (hb hby d12_10) rfl (l' := #[.val (.ref a1), .val (.int 3), .val (.int p2), .val (.int 3), .val (.int (own_b b0 b1 b2 b3 (3 : Int32)))]) rfl ?_
     exact k)
   by_cases hc5 : own_ws (own_b b0 b1 b2 b3 (3 : Int32))
   ·skip
    have pre6 : ∀ t, Steps p.tables e below (s₁.setTop (mkF m 16 #[.val (.ref a1), .val (.int 3), .val (.int p2), .val (.int 3), .val (.int (own_b b0 b1 b2 b3 (3 : Int32)))] [(.int 32), (.int (own_b b0 b1 b2 b3 (3 : Int32)))])) t → Steps p.tables e below (s₁.setTop (entryFrame m #[(.ref a1), (.int 3), (.int p2)] 5)) t := fun t k => pre4 t (by
      refine XS.iload X0.here hx rfl (hb hby d12_12) rfl ?_
      refine XS.bipush X0.here hx rfl (hb hby d12_14) ?_
      exact k)
    have pre9 : ∀ t, Steps p.tables e below (s₁.setTop (mkF m 35 #[.val (.ref a1), .val (.int 3), .val (.int p2), .val (.int 3), .val (.int (own_b b0 b1 b2 b3 (3 : Int32)))] [])) t → Steps p.tables e below (s₁.setTop (entryFrame m #[(.ref a1), (.int 3), (.int p2)] 5)) t := fun t k => pre6 t (by
      by_cases hc7 : (own_b b0 b1 b2 b3 (3 : Int32)) = (32 : Int32)
      · skip
        refine XS.icmpYes X0.here hx rfl (pc0 := 16) (pc' := 35) rfl (hb hby d12_16) rfl (teq hc7).1 (by decide) (by decide) ?_
        exact k
      · skip
        refine XS.icmpNo X0.here hx rfl (hb hby d12_16) rfl (feq hc7).1 ?_
        refine XS.iload X0.here hx rfl (hb hby d12_19) rfl ?_
        refine XS.bipush X0.here hx rfl (hb hby d12_21) ?_
        by_cases hc8 : (own_b b0 b1 b2 b3 (3 : Int32)) = (9 : Int32)
        · skip
          refine XS.icmpYes X0.here hx rfl (pc0 := 23) (pc' := 35) rfl (hb hby d12_23) rfl (teq hc8).1 (by decide) (by decide) ?_
          exact k
        · skip
          refine XS.icmpNo X0.here hx rfl (hb hby d12_23) rfl (feq hc8).1 ?_
          refine XS.iload X0.here hx rfl (hb hby d12_26) rfl ?_
          refine XS.bipush X0.here hx rfl (hb hby d12_28) ?_
          refine XS.icmpYes X0.here hx rfl (pc0 := 30) (pc' := 35) rfl (hb hby d12_30) rfl (teq (own_ws3 hc5 hc7 hc8)).1 (by decide) (by decide) ?_
          exact k)
    obtain ⟨fs, hr, hrun, hended, hW, hsame⟩ := X0.leave (v := some (.int 1)) (fun h => by rw [Bd.returns] at h; cases h)
    refine ⟨_, _, pre9 _ ?_, hrun, hended, _, _, rfl, ?_, ⟨_, rfl⟩, hW, hsame.mono (by decide) (by decide)⟩
    · skip
      refine XS.iinc X0.here hx rfl (hb hby d12_35) rfl (l' := #[.val (.ref a1), .val (.int 3), .val (.int p2), .val (.int 4), .val (.int (own_b b0 b1 b2 b3 (3 : Int32)))]) rfl ?_
      refine XS.goto X0.here hx rfl (pc0 := 38) (pc' := 2) rfl (hb hby d12_38) (by decide) (by decide) ?_
      refine XS.iloadN X0.here hx rfl (hb hby d12_2) rfl ?_
      refine XS.iloadN X0.here hx rfl (hb hby d12_3) rfl ?_
      refine XS.icmpYes X0.here hx rfl (pc0 := 4) (pc' := 41) rfl (hb hby d12_4) rfl (flt (own_ge4e hn he0 (by decide))).2.1 (by decide) (by decide) ?_
      refine XS.iconst X0.here hx rfl (hb hby d12_41) ?_
      show Steps p.tables e below (s₁.setTop (mkF m 42 #[.val (.ref a1), .val (.int 3), .val (.int p2), .val (.int 4), .val (.int (own_b b0 b1 b2 b3 (3 : Int32)))] [(.int 1)])) _
      exact retN X0 hx (t := .boolean) Bd.returns (by simp) (hb hby d12_42) hr
    · show Q_rmBl_3 Z a1 p2 nn b0 b1 b2 b3 kk h0 n0 _ s₁.heap _
      rw [e0]
      exact ⟨(by unfold own_bl_3; rw [if_pos hc2, if_pos hc5]), N0, rfl⟩
   ·skip
    obtain ⟨fs, hr, hrun, hended, hW, hsame⟩ := X0.leave (v := some (.int 0)) (fun h => by rw [Bd.returns] at h; cases h)
    refine ⟨_, _, pre4 _ ?_, hrun, hended, _, _, rfl, ?_, ⟨_, rfl⟩, hW, hsame.mono (by decide) (by decide)⟩
    · skip
      refine XS.iload X0.here hx rfl (hb hby d12_12) rfl ?_
      refine XS.bipush X0.here hx rfl (hb hby d12_14) ?_
      refine XS.icmpNo X0.here hx rfl (hb hby d12_16) rfl (feq (own_wsn1 hc5)).1 ?_
      refine XS.iload X0.here hx rfl (hb hby d12_19) rfl ?_
      refine XS.bipush X0.here hx rfl (hb hby d12_21) ?_
      refine XS.icmpNo X0.here hx rfl (hb hby d12_23) rfl (feq (own_wsn2 hc5)).1 ?_
      refine XS.iload X0.here hx rfl (hb hby d12_26) rfl ?_
      refine XS.bipush X0.here hx rfl (hb hby d12_28) ?_
      refine XS.icmpNo X0.here hx rfl (hb hby d12_30) rfl (feq (own_wsn3 hc5)).1 ?_
      refine XS.iconst X0.here hx rfl (hb hby d12_33) ?_
      show Steps p.tables e below (s₁.setTop (mkF m 34 #[.val (.ref a1), .val (.int 3), .val (.int p2), .val (.int 3), .val (.int (own_b b0 b1 b2 b3 (3 : Int32)))] [(.int 0)])) _
      exact retN X0 hx (t := .boolean) Bd.returns (by simp) (hb hby d12_34) hr
    · show Q_rmBl_3 Z a1 p2 nn b0 b1 b2 b3 kk h0 n0 _ s₁.heap _
      rw [e0]
      exact ⟨(by unfold own_bl_3; rw [if_pos hc2, if_neg hc5]), N0, rfl⟩
  ·skip
   obtain ⟨fs, hr, hrun, hended, hW, hsame⟩ := X0.leave (v := some (.int 1)) (fun h => by rw [Bd.returns] at h; cases h)
   refine ⟨_, _, pre1 _ ?_, hrun, hended, _, _, rfl, ?_, ⟨_, rfl⟩, hW, hsame.mono (by decide) (by decide)⟩
   · skip
     refine XS.icmpYes X0.here hx rfl (pc0 := 4) (pc' := 41) rfl (hb hby d12_4) rfl (flt hc2).2.1 (by decide) (by decide) ?_
     refine XS.iconst X0.here hx rfl (hb hby d12_41) ?_
     show Steps p.tables e below (s₁.setTop (mkF m 42 #[.val (.ref a1), .val (.int 3), .val (.int p2), .val (.int 3), .unset] [(.int 1)])) _
     exact retN X0 hx (t := .boolean) Bd.returns (by simp) (hb hby d12_42) hr
   · show Q_rmBl_3 Z a1 p2 nn b0 b1 b2 b3 kk h0 n0 _ s₁.heap _
     rw [e0]
     exact ⟨(by unfold own_bl_3; rw [if_neg hc2]), N0, rfl⟩
theorem ef_rmBl_2 (m : MethodId) (x0 : Addr) (x1 : Int32) (x2 : Int32) : entryFrame m #[(.ref x0), (.int x1), (.int x2)] 5 = mkF m 0 #[.val (.ref x0), .val (.int x1), .val (.int x2), .unset, .unset] [] := by first | (simp [entryFrame, mkF, argsToLocals, Value.category]; done) | rfl
def Q_rmBl_2 (Z : State) (a1 : Addr) (p2 : Int32) (nn : Int32) (b0 : Int32) (b1 : Int32) (b2 : Int32) (b3 : Int32) (kk : ClassId) (h0 : Heap) (n0 : Nat) (v : Option Value) (h : Heap) (L : List Loc) : Prop := v = some (.int (own_bl_2 b0 b1 b2 b3 p2)) ∧ Fr n0 L ∧ h = h0
set_option maxRecDepth 65536 in
set_option maxHeartbeats 40000000 in
theorem rmBl_2 (l : Launch) (Z : State) (a0 : Array Value) (hw : ∀ d ∈ own_tab, d.before a0 Z = true) (ws : List Jvm.Cond) (a1 : Addr) (p2 : Int32) (nn : Int32) (b0 : Int32) (b1 : Int32) (b2 : Int32) (b3 : Int32) (kk : ClassId) (h0 : Heap) (n0 : Nat) (Z0 : n0 ≤ h0.size) (P0 : Arv Z h0 a1 kk .byte nn (own_is [b0, b1, b2, b3]) (.int 0)) (hn : 0 ≤ nn.toInt ∧ nn.toInt ≤ 4) (he0 : ¬ nn < p2) :
    MetFree l (⟨"com/example/rank_keeper/rankkeeper/BodyLines", "isBlank", "([BII)Z"⟩ : MethodName) (head1 (Jvm.Cond.code (⟨"com/example/rank_keeper/rankkeeper/BodyLines", "isBlank", "([BII)Z"⟩ : MethodName) prog_2_method_3_code 5 (some .boolean) :: ws) ({ frames := 0, cells := 0, slots := 0, locals := 0 } : Room)) (fun a U => a = #[(.ref a1), (.int 2), (.int p2)] ∧ Z.Warmed39 U.vm ∧ U.heap = h0) (fun _ _ _ _ _ => True) (fun _ U o U' => ∃ v L, o = .returned v ∧ Q_rmBl_2 Z a1 p2 nn b0 b1 b2 b3 kk h0 n0 v U'.heap L ∧ FrameEnd U o U' L ({ frames := 0, cells := 0, slots := 0, locals := 0 } : Room).cells ({ frames := 0, cells := 0, slots := 0, locals := 0 } : Room).slots) := by
  refine MetFree.of_bodySF (plainFor_of_name pn_8) hisR ?_
  intro p e s m args below meth c s₁ Bd hml0 hP hK
  obtain ⟨rfl, hZ, hh⟩ := hP
  have hx := Bd.exec
  have hby := Bd.bytes
  have hml : c.maxLocals = 5 := hml0
  have hown : s.vm.findClass "com/example/rank_keeper/rankkeeper/BodyLines" = some m.cls := findClass_of_methodNamed Bd.named
  have hnm := (name_of_methodNamed Bd.named Bd.method).1
  have X0 : Stand p l e ({ frames := 0, cells := 0, slots := 0, locals := 0 } : Room) s m #[(.ref a1), (.int 2), (.int p2)] below meth c s₁ [] 0 0 := Stand.of_body Bd
  have e0 : s₁.heap = h0 := by rw [← hh, Bd.state]; rfl
  have N0 := Fr.nil n0
  have KR : Keep h0 h0 [] := Keep.refl h0 _
  have pre0 : ∀ t, Steps p.tables e below (s₁.setTop (mkF m 0 #[.val (.ref a1), .val (.int 2), .val (.int p2), .unset, .unset] [])) t → Steps p.tables e below (s₁.setTop (entryFrame m #[(.ref a1), (.int 2), (.int p2)] 5)) t := fun t k => castTop (ef_rmBl_2 m (a1) ((2 : Int32)) (p2)) k
  have pre1 : ∀ t, Steps p.tables e below (s₁.setTop (mkF m 4 #[.val (.ref a1), .val (.int 2), .val (.int p2), .val (.int 2), .unset] [(.int p2), (.int 2)])) t → Steps p.tables e below (s₁.setTop (entryFrame m #[(.ref a1), (.int 2), (.int p2)] 5)) t := fun t k => pre0 t (by
    refine XS.iloadN X0.here hx rfl (hb hby d12_0) rfl ?_
    refine XS.istoreN X0.here hx rfl (hb hby d12_1) rfl (l' := #[.val (.ref a1), .val (.int 2), .val (.int p2), .val (.int 2), .unset]) rfl ?_
    refine XS.iloadN X0.here hx rfl (hb hby d12_2) rfl ?_
    refine XS.iloadN X0.here hx rfl (hb hby d12_3) rfl ?_
    exact k)
  by_cases hc2 : (2 : Int32) < p2
  ·skip
   obtain ⟨cl3, Ar3, q3, S3, N3', H3, G3⟩ := id P0
   have hin3 : ¬ ((2 : Int32) < 0 ∨ cl3.slots.size ≤ ((2 : Int32)).toNatClampNeg) := inb_of S3 (own_le (s := (0 : Int32)) (by decide) he0 (by decide) hc2)
   have hat3 : cl3.slots[((2 : Int32)).toNatClampNeg]? = some (.int (own_b b0 b1 b2 b3 (2 : Int32))) := H3.at hin3 (own_is_getD _ _)
   have pre4 : ∀ t, Steps p.tables e below (s₁.setTop (mkF m 12 #[.val (.ref a1), .val (.int 2), .val (.int p2), .val (.int 2), .val (.int (own_b b0 b1 b2 b3 (2 : Int32)))] [])) t → Steps p.tables e below (s₁.setTop (entryFrame m #[(.ref a1), (.int 2), (.int p2)] 5)) t := fun t k => pre1 t (by
     refine XS.icmpNo X0.here hx rfl (hb hby d12_4) rfl (tlt hc2).2.1 ?_
     refine XS.aloadN X0.here hx rfl (hb hby d12_7) rfl rfl ?_
     refine XS.iloadN X0.here hx rfl (hb hby d12_8) rfl ?_
     refine X0.baloadBytes hx (j := (2 : Int32)) (v := (.int (own_b b0 b1 b2 b3 (2 : Int32)))) (by rw [e0]; exact Ar3.1) (State.isArrayOf_alike hZ.alike Ar3.2.1) Ar3.2.2 hin3 hat3 (g := (mkF m 9 #[.val (.ref a1), .val (.int 2), .val (.int p2), .val (.int 2), .unset] [(.int 2), (.ref a1)])) rfl rfl (hb hby d12_9) _ ?_
     refine XS.istore X0.here hx rfl (hb hby d12_10) rfl (l' := #[.val (.ref a1), .val (.int 2), .val (.int p2), .val (.int 2), .val (.int (own_b b0 b1 b2 b3 (2 : Int32)))]) rfl ?_
     exact k)
   by_cases hc5 : own_ws (own_b b0 b1 b2 b3 (2 : Int32))
   ·skip
    have pre6 : ∀ t, Steps p.tables e below (s₁.setTop (mkF m 16 #[.val (.ref a1), .val (.int 2), .val (.int p2), .val (.int 2), .val (.int (own_b b0 b1 b2 b3 (2 : Int32)))] [(.int 32), (.int (own_b b0 b1 b2 b3 (2 : Int32)))])) t → Steps p.tables e below (s₁.setTop (entryFrame m #[(.ref a1), (.int 2), (.int p2)] 5)) t := fun t k => pre4 t (by
      refine XS.iload X0.here hx rfl (hb hby d12_12) rfl ?_
      refine XS.bipush X0.here hx rfl (hb hby d12_14) ?_
      exact k)
    have pre9 : ∀ t, Steps p.tables e below (s₁.setTop (mkF m 35 #[.val (.ref a1), .val (.int 2), .val (.int p2), .val (.int 2), .val (.int (own_b b0 b1 b2 b3 (2 : Int32)))] [])) t → Steps p.tables e below (s₁.setTop (entryFrame m #[(.ref a1), (.int 2), (.int p2)] 5)) t := fun t k => pre6 t (by
      by_cases hc7 : (own_b b0 b1 b2 b3 (2 : Int32)) = (32 : Int32)
      · skip
        refine XS.icmpYes X0.here hx rfl (pc0 := 16) (pc' := 35) rfl (hb hby d12_16) rfl (teq hc7).1 (by decide) (by decide) ?_
        exact k
      · skip
        refine XS.icmpNo X0.here hx rfl (hb hby d12_16) rfl (feq hc7).1 ?_
        refine XS.iload X0.here hx rfl (hb hby d12_19) rfl ?_
        refine XS.bipush X0.here hx rfl (hb hby d12_21) ?_
        by_cases hc8 : (own_b b0 b1 b2 b3 (2 : Int32)) = (9 : Int32)
        · skip
          refine XS.icmpYes X0.here hx rfl (pc0 := 23) (pc' := 35) rfl (hb hby d12_23) rfl (teq hc8).1 (by decide) (by decide) ?_
          exact k
        · skip
          refine XS.icmpNo X0.here hx rfl (hb hby d12_23) rfl (feq hc8).1 ?_
          refine XS.iload X0.here hx rfl (hb hby d12_26) rfl ?_
          refine XS.bipush X0.here hx rfl (hb hby d12_28) ?_
          refine XS.icmpYes X0.here hx rfl (pc0 := 30) (pc' := 35) rfl (hb hby d12_30) rfl (teq (own_ws3 hc5 hc7 hc8)).1 (by decide) (by decide) ?_
          exact k)
    have pre10 : ∀ t, Steps p.tables e below (s₁.setTop (mkF m 4 #[.val (.ref a1), .val (.int 2), .val (.int p2), .val (.int 3), .val (.int (own_b b0 b1 b2 b3 (2 : Int32)))] [(.int p2), (.int 3)])) t → Steps p.tables e below (s₁.setTop (entryFrame m #[(.ref a1), (.int 2), (.int p2)] 5)) t := fun t k => pre9 t (by
      refine XS.iinc X0.here hx rfl (hb hby d12_35) rfl (l' := #[.val (.ref a1), .val (.int 2), .val (.int p2), .val (.int 3), .val (.int (own_b b0 b1 b2 b3 (2 : Int32)))]) rfl ?_
      refine XS.goto X0.here hx rfl (pc0 := 38) (pc' := 2) rfl (hb hby d12_38) (by decide) (by decide) ?_
      refine XS.iloadN X0.here hx rfl (hb hby d12_2) rfl ?_
      refine XS.iloadN X0.here hx rfl (hb hby d12_3) rfl ?_
      exact k)
    by_cases hc11 : (3 : Int32) < p2
    ·skip
     obtain ⟨cl12, Ar12, q12, S12, N12', H12, G12⟩ := id P0
     have hin12 : ¬ ((3 : Int32) < 0 ∨ cl12.slots.size ≤ ((3 : Int32)).toNatClampNeg) := inb_of S12 (own_le (s := (0 : Int32)) (by decide) he0 (by decide) hc11)
     have hat12 : cl12.slots[((3 : Int32)).toNatClampNeg]? = some (.int (own_b b0 b1 b2 b3 (3 : Int32))) := H12.at hin12 (own_is_getD _ _)
     have pre13 : ∀ t, Steps p.tables e below (s₁.setTop (mkF m 12 #[.val (.ref a1), .val (.int 2), .val (.int p2), .val (.int 3), .val (.int (own_b b0 b1 b2 b3 (3 : Int32)))] [])) t → Steps p.tables e below (s₁.setTop (entryFrame m #[(.ref a1), (.int 2), (.int p2)] 5)) t := fun t k => pre10 t (by
       refine XS.icmpNo X0.here hx rfl (hb hby d12_4) rfl (tlt hc11).2.1 ?_
       refine XS.aloadN X0.here hx rfl (hb hby d12_7) rfl rfl ?_
       refine XS.iloadN X0.here hx rfl (hb hby d12_8) rfl ?_
       refine X0.baloadBytes hx (j := (3 : Int32)) (v := (.int (own_b b0 b1 b2 b3 (3 : Int32)))) (by rw [e0]; exact Ar12.1) (State.isArrayOf_alike hZ.alike Ar12.2.1) Ar12.2.2 hin12 hat12 (g := (mkF m 9 #[.val (.ref a1), .val (.int 2), .val (.int p2), .val (.int 3), .val (.int (own_b b0 b1 b2 b3 (2 : Int32)))] [(.int 3), (.ref a1)])) rfl rfl (hb hby d12_9) _ ?_
       refine XS.istore X0.here hx rfl (hb hby d12_10) rfl (l' := #[.val (.ref a1), .val (.int 2), .val (.int p2), .val (.int 3), .val (.int (own_b b0 b1 b2 b3 (3 : Int32)))]) rfl ?_
       exact k)
     by_cases hc14 : own_ws (own_b b0 b1 b2 b3 (3 : Int32))
     ·skip
      have pre15 : ∀ t, Steps p.tables e below (s₁.setTop (mkF m 16 #[.val (.ref a1), .val (.int 2), .val (.int p2), .val (.int 3), .val (.int (own_b b0 b1 b2 b3 (3 : Int32)))] [(.int 32), (.int (own_b b0 b1 b2 b3 (3 : Int32)))])) t → Steps p.tables e below (s₁.setTop (entryFrame m #[(.ref a1), (.int 2), (.int p2)] 5)) t := fun t k => pre13 t (by
        refine XS.iload X0.here hx rfl (hb hby d12_12) rfl ?_
        refine XS.bipush X0.here hx rfl (hb hby d12_14) ?_
        exact k)
      have pre18 : ∀ t, Steps p.tables e below (s₁.setTop (mkF m 35 #[.val (.ref a1), .val (.int 2), .val (.int p2), .val (.int 3), .val (.int (own_b b0 b1 b2 b3 (3 : Int32)))] [])) t → Steps p.tables e below (s₁.setTop (entryFrame m #[(.ref a1), (.int 2), (.int p2)] 5)) t := fun t k => pre15 t (by
        by_cases hc16 : (own_b b0 b1 b2 b3 (3 : Int32)) = (32 : Int32)
        · skip
          refine XS.icmpYes X0.here hx rfl (pc0 := 16) (pc' := 35) rfl (hb hby d12_16) rfl (teq hc16).1 (by decide) (by decide) ?_
          exact k
        · skip
          refine XS.icmpNo X0.here hx rfl (hb hby d12_16) rfl (feq hc16).1 ?_
          refine XS.iload X0.here hx rfl (hb hby d12_19) rfl ?_
          refine XS.bipush X0.here hx rfl (hb hby d12_21) ?_
          by_cases hc17 : (own_b b0 b1 b2 b3 (3 : Int32)) = (9 : Int32)
          · skip
            refine XS.icmpYes X0.here hx rfl (pc0 := 23) (pc' := 35) rfl (hb hby d12_23) rfl (teq hc17).1 (by decide) (by decide) ?_
            exact k
          · skip
            refine XS.icmpNo X0.here hx rfl (hb hby d12_23) rfl (feq hc17).1 ?_
            refine XS.iload X0.here hx rfl (hb hby d12_26) rfl ?_
            refine XS.bipush X0.here hx rfl (hb hby d12_28) ?_
            refine XS.icmpYes X0.here hx rfl (pc0 := 30) (pc' := 35) rfl (hb hby d12_30) rfl (teq (own_ws3 hc14 hc16 hc17)).1 (by decide) (by decide) ?_
            exact k)
      obtain ⟨fs, hr, hrun, hended, hW, hsame⟩ := X0.leave (v := some (.int 1)) (fun h => by rw [Bd.returns] at h; cases h)
      refine ⟨_, _, pre18 _ ?_, hrun, hended, _, _, rfl, ?_, ⟨_, rfl⟩, hW, hsame.mono (by decide) (by decide)⟩
      · skip
        refine XS.iinc X0.here hx rfl (hb hby d12_35) rfl (l' := #[.val (.ref a1), .val (.int 2), .val (.int p2), .val (.int 4), .val (.int (own_b b0 b1 b2 b3 (3 : Int32)))]) rfl ?_
        refine XS.goto X0.here hx rfl (pc0 := 38) (pc' := 2) rfl (hb hby d12_38) (by decide) (by decide) ?_
        refine XS.iloadN X0.here hx rfl (hb hby d12_2) rfl ?_
        refine XS.iloadN X0.here hx rfl (hb hby d12_3) rfl ?_
        refine XS.icmpYes X0.here hx rfl (pc0 := 4) (pc' := 41) rfl (hb hby d12_4) rfl (flt (own_ge4e hn he0 (by decide))).2.1 (by decide) (by decide) ?_
        refine XS.iconst X0.here hx rfl (hb hby d12_41) ?_
        show Steps p.tables e below (s₁.setTop (mkF m 42 #[.val (.ref a1), .val (.int 2), .val (.int p2), .val (.int 4), .val (.int (own_b b0 b1 b2 b3 (3 : Int32)))] [(.int 1)])) _
        exact retN X0 hx (t := .boolean) Bd.returns (by simp) (hb hby d12_42) hr
      · show Q_rmBl_2 Z a1 p2 nn b0 b1 b2 b3 kk h0 n0 _ s₁.heap _
        rw [e0]
        exact ⟨(by unfold own_bl_2; rw [if_pos hc2, if_pos hc5, if_pos hc11, if_pos hc14]), N0, rfl⟩
     ·skip
      obtain ⟨fs, hr, hrun, hended, hW, hsame⟩ := X0.leave (v := some (.int 0)) (fun h => by rw [Bd.returns] at h; cases h)
      refine ⟨_, _, pre13 _ ?_, hrun, hended, _, _, rfl, ?_, ⟨_, rfl⟩, hW, hsame.mono (by decide) (by decide)⟩
      · skip
        refine XS.iload X0.here hx rfl (hb hby d12_12) rfl ?_
        refine XS.bipush X0.here hx rfl (hb hby d12_14) ?_
        refine XS.icmpNo X0.here hx rfl (hb hby d12_16) rfl (feq (own_wsn1 hc14)).1 ?_
        refine XS.iload X0.here hx rfl (hb hby d12_19) rfl ?_
        refine XS.bipush X0.here hx rfl (hb hby d12_21) ?_
        refine XS.icmpNo X0.here hx rfl (hb hby d12_23) rfl (feq (own_wsn2 hc14)).1 ?_
        refine XS.iload X0.here hx rfl (hb hby d12_26) rfl ?_
        refine XS.bipush X0.here hx rfl (hb hby d12_28) ?_
        refine XS.icmpNo X0.here hx rfl (hb hby d12_30) rfl (feq (own_wsn3 hc14)).1 ?_
        refine XS.iconst X0.here hx rfl (hb hby d12_33) ?_
        show Steps p.tables e below (s₁.setTop (mkF m 34 #[.val (.ref a1), .val (.int 2), .val (.int p2), .val (.int 3), .val (.int (own_b b0 b1 b2 b3 (3 : Int32)))] [(.int 0)])) _
        exact retN X0 hx (t := .boolean) Bd.returns (by simp) (hb hby d12_34) hr
      · show Q_rmBl_2 Z a1 p2 nn b0 b1 b2 b3 kk h0 n0 _ s₁.heap _
        rw [e0]
        exact ⟨(by unfold own_bl_2; rw [if_pos hc2, if_pos hc5, if_pos hc11, if_neg hc14]), N0, rfl⟩
    ·skip
     obtain ⟨fs, hr, hrun, hended, hW, hsame⟩ := X0.leave (v := some (.int 1)) (fun h => by rw [Bd.returns] at h; cases h)
     refine ⟨_, _, pre10 _ ?_, hrun, hended, _, _, rfl, ?_, ⟨_, rfl⟩, hW, hsame.mono (by decide) (by decide)⟩
     · skip
       refine XS.icmpYes X0.here hx rfl (pc0 := 4) (pc' := 41) rfl (hb hby d12_4) rfl (flt hc11).2.1 (by decide) (by decide) ?_
       refine XS.iconst X0.here hx rfl (hb hby d12_41) ?_
       show Steps p.tables e below (s₁.setTop (mkF m 42 #[.val (.ref a1), .val (.int 2), .val (.int p2), .val (.int 3), .val (.int (own_b b0 b1 b2 b3 (2 : Int32)))] [(.int 1)])) _
       exact retN X0 hx (t := .boolean) Bd.returns (by simp) (hb hby d12_42) hr
     · show Q_rmBl_2 Z a1 p2 nn b0 b1 b2 b3 kk h0 n0 _ s₁.heap _
       rw [e0]
       exact ⟨(by unfold own_bl_2; rw [if_pos hc2, if_pos hc5, if_neg hc11]), N0, rfl⟩
   ·skip
    obtain ⟨fs, hr, hrun, hended, hW, hsame⟩ := X0.leave (v := some (.int 0)) (fun h => by rw [Bd.returns] at h; cases h)
    refine ⟨_, _, pre4 _ ?_, hrun, hended, _, _, rfl, ?_, ⟨_, rfl⟩, hW, hsame.mono (by decide) (by decide)⟩
    · skip
      refine XS.iload X0.here hx rfl (hb hby d12_12) rfl ?_
      refine XS.bipush X0.here hx rfl (hb hby d12_14) ?_
      refine XS.icmpNo X0.here hx rfl (hb hby d12_16) rfl (feq (own_wsn1 hc5)).1 ?_
      refine XS.iload X0.here hx rfl (hb hby d12_19) rfl ?_
      refine XS.bipush X0.here hx rfl (hb hby d12_21) ?_
      refine XS.icmpNo X0.here hx rfl (hb hby d12_23) rfl (feq (own_wsn2 hc5)).1 ?_
      refine XS.iload X0.here hx rfl (hb hby d12_26) rfl ?_
      refine XS.bipush X0.here hx rfl (hb hby d12_28) ?_
      refine XS.icmpNo X0.here hx rfl (hb hby d12_30) rfl (feq (own_wsn3 hc5)).1 ?_
      refine XS.iconst X0.here hx rfl (hb hby d12_33) ?_
      show Steps p.tables e below (s₁.setTop (mkF m 34 #[.val (.ref a1), .val (.int 2), .val (.int p2), .val (.int 2), .val (.int (own_b b0 b1 b2 b3 (2 : Int32)))] [(.int 0)])) _
      exact retN X0 hx (t := .boolean) Bd.returns (by simp) (hb hby d12_34) hr
    · show Q_rmBl_2 Z a1 p2 nn b0 b1 b2 b3 kk h0 n0 _ s₁.heap _
      rw [e0]
      exact ⟨(by unfold own_bl_2; rw [if_pos hc2, if_neg hc5]), N0, rfl⟩
  ·skip
   obtain ⟨fs, hr, hrun, hended, hW, hsame⟩ := X0.leave (v := some (.int 1)) (fun h => by rw [Bd.returns] at h; cases h)
   refine ⟨_, _, pre1 _ ?_, hrun, hended, _, _, rfl, ?_, ⟨_, rfl⟩, hW, hsame.mono (by decide) (by decide)⟩
   · skip
     refine XS.icmpYes X0.here hx rfl (pc0 := 4) (pc' := 41) rfl (hb hby d12_4) rfl (flt hc2).2.1 (by decide) (by decide) ?_
     refine XS.iconst X0.here hx rfl (hb hby d12_41) ?_
     show Steps p.tables e below (s₁.setTop (mkF m 42 #[.val (.ref a1), .val (.int 2), .val (.int p2), .val (.int 2), .unset] [(.int 1)])) _
     exact retN X0 hx (t := .boolean) Bd.returns (by simp) (hb hby d12_42) hr
   · show Q_rmBl_2 Z a1 p2 nn b0 b1 b2 b3 kk h0 n0 _ s₁.heap _
     rw [e0]
     exact ⟨(by unfold own_bl_2; rw [if_neg hc2]), N0, rfl⟩
theorem ef_rmBl_1 (m : MethodId) (x0 : Addr) (x1 : Int32) (x2 : Int32) : entryFrame m #[(.ref x0), (.int x1), (.int x2)] 5 = mkF m 0 #[.val (.ref x0), .val (.int x1), .val (.int x2), .unset, .unset] [] := by first | (simp [entryFrame, mkF, argsToLocals, Value.category]; done) | rfl
def Q_rmBl_1 (Z : State) (a1 : Addr) (p2 : Int32) (nn : Int32) (b0 : Int32) (b1 : Int32) (b2 : Int32) (b3 : Int32) (kk : ClassId) (h0 : Heap) (n0 : Nat) (v : Option Value) (h : Heap) (L : List Loc) : Prop := v = some (.int (own_bl_1 b0 b1 b2 b3 p2)) ∧ Fr n0 L ∧ h = h0
set_option maxRecDepth 65536 in
set_option maxHeartbeats 40000000 in
theorem rmBl_1 (l : Launch) (Z : State) (a0 : Array Value) (hw : ∀ d ∈ own_tab, d.before a0 Z = true) (ws : List Jvm.Cond) (a1 : Addr) (p2 : Int32) (nn : Int32) (b0 : Int32) (b1 : Int32) (b2 : Int32) (b3 : Int32) (kk : ClassId) (h0 : Heap) (n0 : Nat) (Z0 : n0 ≤ h0.size) (P0 : Arv Z h0 a1 kk .byte nn (own_is [b0, b1, b2, b3]) (.int 0)) (hn : 0 ≤ nn.toInt ∧ nn.toInt ≤ 4) (he0 : ¬ nn < p2) :
    MetFree l (⟨"com/example/rank_keeper/rankkeeper/BodyLines", "isBlank", "([BII)Z"⟩ : MethodName) (head1 (Jvm.Cond.code (⟨"com/example/rank_keeper/rankkeeper/BodyLines", "isBlank", "([BII)Z"⟩ : MethodName) prog_2_method_3_code 5 (some .boolean) :: ws) ({ frames := 0, cells := 0, slots := 0, locals := 0 } : Room)) (fun a U => a = #[(.ref a1), (.int 1), (.int p2)] ∧ Z.Warmed39 U.vm ∧ U.heap = h0) (fun _ _ _ _ _ => True) (fun _ U o U' => ∃ v L, o = .returned v ∧ Q_rmBl_1 Z a1 p2 nn b0 b1 b2 b3 kk h0 n0 v U'.heap L ∧ FrameEnd U o U' L ({ frames := 0, cells := 0, slots := 0, locals := 0 } : Room).cells ({ frames := 0, cells := 0, slots := 0, locals := 0 } : Room).slots) := by
  refine MetFree.of_bodySF (plainFor_of_name pn_8) hisR ?_
  intro p e s m args below meth c s₁ Bd hml0 hP hK
  obtain ⟨rfl, hZ, hh⟩ := hP
  have hx := Bd.exec
  have hby := Bd.bytes
  have hml : c.maxLocals = 5 := hml0
  have hown : s.vm.findClass "com/example/rank_keeper/rankkeeper/BodyLines" = some m.cls := findClass_of_methodNamed Bd.named
  have hnm := (name_of_methodNamed Bd.named Bd.method).1
  have X0 : Stand p l e ({ frames := 0, cells := 0, slots := 0, locals := 0 } : Room) s m #[(.ref a1), (.int 1), (.int p2)] below meth c s₁ [] 0 0 := Stand.of_body Bd
  have e0 : s₁.heap = h0 := by rw [← hh, Bd.state]; rfl
  have N0 := Fr.nil n0
  have KR : Keep h0 h0 [] := Keep.refl h0 _
  have pre0 : ∀ t, Steps p.tables e below (s₁.setTop (mkF m 0 #[.val (.ref a1), .val (.int 1), .val (.int p2), .unset, .unset] [])) t → Steps p.tables e below (s₁.setTop (entryFrame m #[(.ref a1), (.int 1), (.int p2)] 5)) t := fun t k => castTop (ef_rmBl_1 m (a1) ((1 : Int32)) (p2)) k
  have pre1 : ∀ t, Steps p.tables e below (s₁.setTop (mkF m 4 #[.val (.ref a1), .val (.int 1), .val (.int p2), .val (.int 1), .unset] [(.int p2), (.int 1)])) t → Steps p.tables e below (s₁.setTop (entryFrame m #[(.ref a1), (.int 1), (.int p2)] 5)) t := fun t k => pre0 t (by
    refine XS.iloadN X0.here hx rfl (hb hby d12_0) rfl ?_
    refine XS.istoreN X0.here hx rfl (hb hby d12_1) rfl (l' := #[.val (.ref a1), .val (.int 1), .val (.int p2), .val (.int 1), .unset]) rfl ?_
    refine XS.iloadN X0.here hx rfl (hb hby d12_2) rfl ?_
    refine XS.iloadN X0.here hx rfl (hb hby d12_3) rfl ?_
    exact k)
  by_cases hc2 : (1 : Int32) < p2
  ·skip
   obtain ⟨cl3, Ar3, q3, S3, N3', H3, G3⟩ := id P0
   have hin3 : ¬ ((1 : Int32) < 0 ∨ cl3.slots.size ≤ ((1 : Int32)).toNatClampNeg) := inb_of S3 (own_le (s := (0 : Int32)) (by decide) he0 (by decide) hc2)
   have hat3 : cl3.slots[((1 : Int32)).toNatClampNeg]? = some (.int (own_b b0 b1 b2 b3 (1 : Int32))) := H3.at hin3 (own_is_getD _ _)
   have pre4 : ∀ t, Steps p.tables e below (s₁.setTop (mkF m 12 #[.val (.ref a1), .val (.int 1), .val (.int p2), .val (.int 1), .val (.int (own_b b0 b1 b2 b3 (1 : Int32)))] [])) t → Steps p.tables e below (s₁.setTop (entryFrame m #[(.ref a1), (.int 1), (.int p2)] 5)) t := fun t k => pre1 t (by
     refine XS.icmpNo X0.here hx rfl (hb hby d12_4) rfl (tlt hc2).2.1 ?_
     refine XS.aloadN X0.here hx rfl (hb hby d12_7) rfl rfl ?_
     refine XS.iloadN X0.here hx rfl (hb hby d12_8) rfl ?_
     refine X0.baloadBytes hx (j := (1 : Int32)) (v := (.int (own_b b0 b1 b2 b3 (1 : Int32)))) (by rw [e0]; exact Ar3.1) (State.isArrayOf_alike hZ.alike Ar3.2.1) Ar3.2.2 hin3 hat3 (g := (mkF m 9 #[.val (.ref a1), .val (.int 1), .val (.int p2), .val (.int 1), .unset] [(.int 1), (.ref a1)])) rfl rfl (hb hby d12_9) _ ?_
     refine XS.istore X0.here hx rfl (hb hby d12_10) rfl (l' := #[.val (.ref a1), .val (.int 1), .val (.int p2), .val (.int 1), .val (.int (own_b b0 b1 b2 b3 (1 : Int32)))]) rfl ?_
     exact k)
   by_cases hc5 : own_ws (own_b b0 b1 b2 b3 (1 : Int32))
   ·skip
    have pre6 : ∀ t, Steps p.tables e below (s₁.setTop (mkF m 16 #[.val (.ref a1), .val (.int 1), .val (.int p2), .val (.int 1), .val (.int (own_b b0 b1 b2 b3 (1 : Int32)))] [(.int 32), (.int (own_b b0 b1 b2 b3 (1 : Int32)))])) t → Steps p.tables e below (s₁.setTop (entryFrame m #[(.ref a1), (.int 1), (.int p2)] 5)) t := fun t k => pre4 t (by
      refine XS.iload X0.here hx rfl (hb hby d12_12) rfl ?_
      refine XS.bipush X0.here hx rfl (hb hby d12_14) ?_
      exact k)
    have pre9 : ∀ t, Steps p.tables e below (s₁.setTop (mkF m 35 #[.val (.ref a1), .val (.int 1), .val (.int p2), .val (.int 1), .val (.int (own_b b0 b1 b2 b3 (1 : Int32)))] [])) t → Steps p.tables e below (s₁.setTop (entryFrame m #[(.ref a1), (.int 1), (.int p2)] 5)) t := fun t k => pre6 t (by
      by_cases hc7 : (own_b b0 b1 b2 b3 (1 : Int32)) = (32 : Int32)
      · skip
        refine XS.icmpYes X0.here hx rfl (pc0 := 16) (pc' := 35) rfl (hb hby d12_16) rfl (teq hc7).1 (by decide) (by decide) ?_
        exact k
      · skip
        refine XS.icmpNo X0.here hx rfl (hb hby d12_16) rfl (feq hc7).1 ?_
        refine XS.iload X0.here hx rfl (hb hby d12_19) rfl ?_
        refine XS.bipush X0.here hx rfl (hb hby d12_21) ?_
        by_cases hc8 : (own_b b0 b1 b2 b3 (1 : Int32)) = (9 : Int32)
        · skip
          refine XS.icmpYes X0.here hx rfl (pc0 := 23) (pc' := 35) rfl (hb hby d12_23) rfl (teq hc8).1 (by decide) (by decide) ?_
          exact k
        · skip
          refine XS.icmpNo X0.here hx rfl (hb hby d12_23) rfl (feq hc8).1 ?_
          refine XS.iload X0.here hx rfl (hb hby d12_26) rfl ?_
          refine XS.bipush X0.here hx rfl (hb hby d12_28) ?_
          refine XS.icmpYes X0.here hx rfl (pc0 := 30) (pc' := 35) rfl (hb hby d12_30) rfl (teq (own_ws3 hc5 hc7 hc8)).1 (by decide) (by decide) ?_
          exact k)
    have pre10 : ∀ t, Steps p.tables e below (s₁.setTop (mkF m 4 #[.val (.ref a1), .val (.int 1), .val (.int p2), .val (.int 2), .val (.int (own_b b0 b1 b2 b3 (1 : Int32)))] [(.int p2), (.int 2)])) t → Steps p.tables e below (s₁.setTop (entryFrame m #[(.ref a1), (.int 1), (.int p2)] 5)) t := fun t k => pre9 t (by
      refine XS.iinc X0.here hx rfl (hb hby d12_35) rfl (l' := #[.val (.ref a1), .val (.int 1), .val (.int p2), .val (.int 2), .val (.int (own_b b0 b1 b2 b3 (1 : Int32)))]) rfl ?_
      refine XS.goto X0.here hx rfl (pc0 := 38) (pc' := 2) rfl (hb hby d12_38) (by decide) (by decide) ?_
      refine XS.iloadN X0.here hx rfl (hb hby d12_2) rfl ?_
      refine XS.iloadN X0.here hx rfl (hb hby d12_3) rfl ?_
      exact k)
    by_cases hc11 : (2 : Int32) < p2
    ·skip
     obtain ⟨cl12, Ar12, q12, S12, N12', H12, G12⟩ := id P0
     have hin12 : ¬ ((2 : Int32) < 0 ∨ cl12.slots.size ≤ ((2 : Int32)).toNatClampNeg) := inb_of S12 (own_le (s := (0 : Int32)) (by decide) he0 (by decide) hc11)
     have hat12 : cl12.slots[((2 : Int32)).toNatClampNeg]? = some (.int (own_b b0 b1 b2 b3 (2 : Int32))) := H12.at hin12 (own_is_getD _ _)
     have pre13 : ∀ t, Steps p.tables e below (s₁.setTop (mkF m 12 #[.val (.ref a1), .val (.int 1), .val (.int p2), .val (.int 2), .val (.int (own_b b0 b1 b2 b3 (2 : Int32)))] [])) t → Steps p.tables e below (s₁.setTop (entryFrame m #[(.ref a1), (.int 1), (.int p2)] 5)) t := fun t k => pre10 t (by
       refine XS.icmpNo X0.here hx rfl (hb hby d12_4) rfl (tlt hc11).2.1 ?_
       refine XS.aloadN X0.here hx rfl (hb hby d12_7) rfl rfl ?_
       refine XS.iloadN X0.here hx rfl (hb hby d12_8) rfl ?_
       refine X0.baloadBytes hx (j := (2 : Int32)) (v := (.int (own_b b0 b1 b2 b3 (2 : Int32)))) (by rw [e0]; exact Ar12.1) (State.isArrayOf_alike hZ.alike Ar12.2.1) Ar12.2.2 hin12 hat12 (g := (mkF m 9 #[.val (.ref a1), .val (.int 1), .val (.int p2), .val (.int 2), .val (.int (own_b b0 b1 b2 b3 (1 : Int32)))] [(.int 2), (.ref a1)])) rfl rfl (hb hby d12_9) _ ?_
       refine XS.istore X0.here hx rfl (hb hby d12_10) rfl (l' := #[.val (.ref a1), .val (.int 1), .val (.int p2), .val (.int 2), .val (.int (own_b b0 b1 b2 b3 (2 : Int32)))]) rfl ?_
       exact k)
     by_cases hc14 : own_ws (own_b b0 b1 b2 b3 (2 : Int32))
     ·skip
      have pre15 : ∀ t, Steps p.tables e below (s₁.setTop (mkF m 16 #[.val (.ref a1), .val (.int 1), .val (.int p2), .val (.int 2), .val (.int (own_b b0 b1 b2 b3 (2 : Int32)))] [(.int 32), (.int (own_b b0 b1 b2 b3 (2 : Int32)))])) t → Steps p.tables e below (s₁.setTop (entryFrame m #[(.ref a1), (.int 1), (.int p2)] 5)) t := fun t k => pre13 t (by
        refine XS.iload X0.here hx rfl (hb hby d12_12) rfl ?_
        refine XS.bipush X0.here hx rfl (hb hby d12_14) ?_
        exact k)
      have pre18 : ∀ t, Steps p.tables e below (s₁.setTop (mkF m 35 #[.val (.ref a1), .val (.int 1), .val (.int p2), .val (.int 2), .val (.int (own_b b0 b1 b2 b3 (2 : Int32)))] [])) t → Steps p.tables e below (s₁.setTop (entryFrame m #[(.ref a1), (.int 1), (.int p2)] 5)) t := fun t k => pre15 t (by
        by_cases hc16 : (own_b b0 b1 b2 b3 (2 : Int32)) = (32 : Int32)
        · skip
          refine XS.icmpYes X0.here hx rfl (pc0 := 16) (pc' := 35) rfl (hb hby d12_16) rfl (teq hc16).1 (by decide) (by decide) ?_
          exact k
        · skip
          refine XS.icmpNo X0.here hx rfl (hb hby d12_16) rfl (feq hc16).1 ?_
          refine XS.iload X0.here hx rfl (hb hby d12_19) rfl ?_
          refine XS.bipush X0.here hx rfl (hb hby d12_21) ?_
          by_cases hc17 : (own_b b0 b1 b2 b3 (2 : Int32)) = (9 : Int32)
          · skip
            refine XS.icmpYes X0.here hx rfl (pc0 := 23) (pc' := 35) rfl (hb hby d12_23) rfl (teq hc17).1 (by decide) (by decide) ?_
            exact k
          · skip
            refine XS.icmpNo X0.here hx rfl (hb hby d12_23) rfl (feq hc17).1 ?_
            refine XS.iload X0.here hx rfl (hb hby d12_26) rfl ?_
            refine XS.bipush X0.here hx rfl (hb hby d12_28) ?_
            refine XS.icmpYes X0.here hx rfl (pc0 := 30) (pc' := 35) rfl (hb hby d12_30) rfl (teq (own_ws3 hc14 hc16 hc17)).1 (by decide) (by decide) ?_
            exact k)
      have pre19 : ∀ t, Steps p.tables e below (s₁.setTop (mkF m 4 #[.val (.ref a1), .val (.int 1), .val (.int p2), .val (.int 3), .val (.int (own_b b0 b1 b2 b3 (2 : Int32)))] [(.int p2), (.int 3)])) t → Steps p.tables e below (s₁.setTop (entryFrame m #[(.ref a1), (.int 1), (.int p2)] 5)) t := fun t k => pre18 t (by
        refine XS.iinc X0.here hx rfl (hb hby d12_35) rfl (l' := #[.val (.ref a1), .val (.int 1), .val (.int p2), .val (.int 3), .val (.int (own_b b0 b1 b2 b3 (2 : Int32)))]) rfl ?_
        refine XS.goto X0.here hx rfl (pc0 := 38) (pc' := 2) rfl (hb hby d12_38) (by decide) (by decide) ?_
        refine XS.iloadN X0.here hx rfl (hb hby d12_2) rfl ?_
        refine XS.iloadN X0.here hx rfl (hb hby d12_3) rfl ?_
        exact k)
      by_cases hc20 : (3 : Int32) < p2
      ·skip
       obtain ⟨cl21, Ar21, q21, S21, N21', H21, G21⟩ := id P0
       have hin21 : ¬ ((3 : Int32) < 0 ∨ cl21.slots.size ≤ ((3 : Int32)).toNatClampNeg) := inb_of S21 (own_le (s := (0 : Int32)) (by decide) he0 (by decide) hc20)
       have hat21 : cl21.slots[((3 : Int32)).toNatClampNeg]? = some (.int (own_b b0 b1 b2 b3 (3 : Int32))) := H21.at hin21 (own_is_getD _ _)
       have pre22 : ∀ t, Steps p.tables e below (s₁.setTop (mkF m 12 #[.val (.ref a1), .val (.int 1), .val (.int p2), .val (.int 3), .val (.int (own_b b0 b1 b2 b3 (3 : Int32)))] [])) t → Steps p.tables e below (s₁.setTop (entryFrame m #[(.ref a1), (.int 1), (.int p2)] 5)) t := fun t k => pre19 t (by
         refine XS.icmpNo X0.here hx rfl (hb hby d12_4) rfl (tlt hc20).2.1 ?_
         refine XS.aloadN X0.here hx rfl (hb hby d12_7) rfl rfl ?_
         refine XS.iloadN X0.here hx rfl (hb hby d12_8) rfl ?_
         refine X0.baloadBytes hx (j := (3 : Int32)) (v := (.int (own_b b0 b1 b2 b3 (3 : Int32)))) (by rw [e0]; exact Ar21.1) (State.isArrayOf_alike hZ.alike Ar21.2.1) Ar21.2.2 hin21 hat21 (g := (mkF m 9 #[.val (.ref a1), .val (.int 1), .val (.int p2), .val (.int 3), .val (.int (own_b b0 b1 b2 b3 (2 : Int32)))] [(.int 3), (.ref a1)])) rfl rfl (hb hby d12_9) _ ?_
         refine XS.istore X0.here hx rfl (hb hby d12_10) rfl (l' := #[.val (.ref a1), .val (.int 1), .val (.int p2), .val (.int 3), .val (.int (own_b b0 b1 b2 b3 (3 : Int32)))]) rfl ?_
         exact k)
       by_cases hc23 : own_ws (own_b b0 b1 b2 b3 (3 : Int32))
       ·skip
        have pre24 : ∀ t, Steps p.tables e below (s₁.setTop (mkF m 16 #[.val (.ref a1), .val (.int 1), .val (.int p2), .val (.int 3), .val (.int (own_b b0 b1 b2 b3 (3 : Int32)))] [(.int 32), (.int (own_b b0 b1 b2 b3 (3 : Int32)))])) t → Steps p.tables e below (s₁.setTop (entryFrame m #[(.ref a1), (.int 1), (.int p2)] 5)) t := fun t k => pre22 t (by
          refine XS.iload X0.here hx rfl (hb hby d12_12) rfl ?_
          refine XS.bipush X0.here hx rfl (hb hby d12_14) ?_
          exact k)
        have pre27 : ∀ t, Steps p.tables e below (s₁.setTop (mkF m 35 #[.val (.ref a1), .val (.int 1), .val (.int p2), .val (.int 3), .val (.int (own_b b0 b1 b2 b3 (3 : Int32)))] [])) t → Steps p.tables e below (s₁.setTop (entryFrame m #[(.ref a1), (.int 1), (.int p2)] 5)) t := fun t k => pre24 t (by
          by_cases hc25 : (own_b b0 b1 b2 b3 (3 : Int32)) = (32 : Int32)
          · skip
            refine XS.icmpYes X0.here hx rfl (pc0 := 16) (pc' := 35) rfl (hb hby d12_16) rfl (teq hc25).1 (by decide) (by decide) ?_
            exact k
          · skip
            refine XS.icmpNo X0.here hx rfl (hb hby d12_16) rfl (feq hc25).1 ?_
            refine XS.iload X0.here hx rfl (hb hby d12_19) rfl ?_
            refine XS.bipush X0.here hx rfl (hb hby d12_21) ?_
            by_cases hc26 : (own_b b0 b1 b2 b3 (3 : Int32)) = (9 : Int32)
            · skip
              refine XS.icmpYes X0.here hx rfl (pc0 := 23) (pc' := 35) rfl (hb hby d12_23) rfl (teq hc26).1 (by decide) (by decide) ?_
              exact k
            · skip
              refine XS.icmpNo X0.here hx rfl (hb hby d12_23) rfl (feq hc26).1 ?_
              refine XS.iload X0.here hx rfl (hb hby d12_26) rfl ?_
              refine XS.bipush X0.here hx rfl (hb hby d12_28) ?_
              refine XS.icmpYes X0.here hx rfl (pc0 := 30) (pc' := 35) rfl (hb hby d12_30) rfl (teq (own_ws3 hc23 hc25 hc26)).1 (by decide) (by decide) ?_
              exact k)
        obtain ⟨fs, hr, hrun, hended, hW, hsame⟩ := X0.leave (v := some (.int 1)) (fun h => by rw [Bd.returns] at h; cases h)
        refine ⟨_, _, pre27 _ ?_, hrun, hended, _, _, rfl, ?_, ⟨_, rfl⟩, hW, hsame.mono (by decide) (by decide)⟩
        · skip
          refine XS.iinc X0.here hx rfl (hb hby d12_35) rfl (l' := #[.val (.ref a1), .val (.int 1), .val (.int p2), .val (.int 4), .val (.int (own_b b0 b1 b2 b3 (3 : Int32)))]) rfl ?_
          refine XS.goto X0.here hx rfl (pc0 := 38) (pc' := 2) rfl (hb hby d12_38) (by decide) (by decide) ?_
          refine XS.iloadN X0.here hx rfl (hb hby d12_2) rfl ?_
          refine XS.iloadN X0.here hx rfl (hb hby d12_3) rfl ?_
          refine XS.icmpYes X0.here hx rfl (pc0 := 4) (pc' := 41) rfl (hb hby d12_4) rfl (flt (own_ge4e hn he0 (by decide))).2.1 (by decide) (by decide) ?_
          refine XS.iconst X0.here hx rfl (hb hby d12_41) ?_
          show Steps p.tables e below (s₁.setTop (mkF m 42 #[.val (.ref a1), .val (.int 1), .val (.int p2), .val (.int 4), .val (.int (own_b b0 b1 b2 b3 (3 : Int32)))] [(.int 1)])) _
          exact retN X0 hx (t := .boolean) Bd.returns (by simp) (hb hby d12_42) hr
        · show Q_rmBl_1 Z a1 p2 nn b0 b1 b2 b3 kk h0 n0 _ s₁.heap _
          rw [e0]
          exact ⟨(by unfold own_bl_1; rw [if_pos hc2, if_pos hc5, if_pos hc11, if_pos hc14, if_pos hc20, if_pos hc23]), N0, rfl⟩
       ·skip
        obtain ⟨fs, hr, hrun, hended, hW, hsame⟩ := X0.leave (v := some (.int 0)) (fun h => by rw [Bd.returns] at h; cases h)
        refine ⟨_, _, pre22 _ ?_, hrun, hended, _, _, rfl, ?_, ⟨_, rfl⟩, hW, hsame.mono (by decide) (by decide)⟩
        · skip
          refine XS.iload X0.here hx rfl (hb hby d12_12) rfl ?_
          refine XS.bipush X0.here hx rfl (hb hby d12_14) ?_
          refine XS.icmpNo X0.here hx rfl (hb hby d12_16) rfl (feq (own_wsn1 hc23)).1 ?_
          refine XS.iload X0.here hx rfl (hb hby d12_19) rfl ?_
          refine XS.bipush X0.here hx rfl (hb hby d12_21) ?_
          refine XS.icmpNo X0.here hx rfl (hb hby d12_23) rfl (feq (own_wsn2 hc23)).1 ?_
          refine XS.iload X0.here hx rfl (hb hby d12_26) rfl ?_
          refine XS.bipush X0.here hx rfl (hb hby d12_28) ?_
          refine XS.icmpNo X0.here hx rfl (hb hby d12_30) rfl (feq (own_wsn3 hc23)).1 ?_
          refine XS.iconst X0.here hx rfl (hb hby d12_33) ?_
          show Steps p.tables e below (s₁.setTop (mkF m 34 #[.val (.ref a1), .val (.int 1), .val (.int p2), .val (.int 3), .val (.int (own_b b0 b1 b2 b3 (3 : Int32)))] [(.int 0)])) _
          exact retN X0 hx (t := .boolean) Bd.returns (by simp) (hb hby d12_34) hr
        · show Q_rmBl_1 Z a1 p2 nn b0 b1 b2 b3 kk h0 n0 _ s₁.heap _
          rw [e0]
          exact ⟨(by unfold own_bl_1; rw [if_pos hc2, if_pos hc5, if_pos hc11, if_pos hc14, if_pos hc20, if_neg hc23]), N0, rfl⟩
      ·skip
       obtain ⟨fs, hr, hrun, hended, hW, hsame⟩ := X0.leave (v := some (.int 1)) (fun h => by rw [Bd.returns] at h; cases h)
       refine ⟨_, _, pre19 _ ?_, hrun, hended, _, _, rfl, ?_, ⟨_, rfl⟩, hW, hsame.mono (by decide) (by decide)⟩
       · skip
         refine XS.icmpYes X0.here hx rfl (pc0 := 4) (pc' := 41) rfl (hb hby d12_4) rfl (flt hc20).2.1 (by decide) (by decide) ?_
         refine XS.iconst X0.here hx rfl (hb hby d12_41) ?_
         show Steps p.tables e below (s₁.setTop (mkF m 42 #[.val (.ref a1), .val (.int 1), .val (.int p2), .val (.int 3), .val (.int (own_b b0 b1 b2 b3 (2 : Int32)))] [(.int 1)])) _
         exact retN X0 hx (t := .boolean) Bd.returns (by simp) (hb hby d12_42) hr
       · show Q_rmBl_1 Z a1 p2 nn b0 b1 b2 b3 kk h0 n0 _ s₁.heap _
         rw [e0]
         exact ⟨(by unfold own_bl_1; rw [if_pos hc2, if_pos hc5, if_pos hc11, if_pos hc14, if_neg hc20]), N0, rfl⟩
     ·skip
      obtain ⟨fs, hr, hrun, hended, hW, hsame⟩ := X0.leave (v := some (.int 0)) (fun h => by rw [Bd.returns] at h; cases h)
      refine ⟨_, _, pre13 _ ?_, hrun, hended, _, _, rfl, ?_, ⟨_, rfl⟩, hW, hsame.mono (by decide) (by decide)⟩
      · skip
        refine XS.iload X0.here hx rfl (hb hby d12_12) rfl ?_
        refine XS.bipush X0.here hx rfl (hb hby d12_14) ?_
        refine XS.icmpNo X0.here hx rfl (hb hby d12_16) rfl (feq (own_wsn1 hc14)).1 ?_
        refine XS.iload X0.here hx rfl (hb hby d12_19) rfl ?_
        refine XS.bipush X0.here hx rfl (hb hby d12_21) ?_
        refine XS.icmpNo X0.here hx rfl (hb hby d12_23) rfl (feq (own_wsn2 hc14)).1 ?_
        refine XS.iload X0.here hx rfl (hb hby d12_26) rfl ?_
        refine XS.bipush X0.here hx rfl (hb hby d12_28) ?_
        refine XS.icmpNo X0.here hx rfl (hb hby d12_30) rfl (feq (own_wsn3 hc14)).1 ?_
        refine XS.iconst X0.here hx rfl (hb hby d12_33) ?_
        show Steps p.tables e below (s₁.setTop (mkF m 34 #[.val (.ref a1), .val (.int 1), .val (.int p2), .val (.int 2), .val (.int (own_b b0 b1 b2 b3 (2 : Int32)))] [(.int 0)])) _
        exact retN X0 hx (t := .boolean) Bd.returns (by simp) (hb hby d12_34) hr
      · show Q_rmBl_1 Z a1 p2 nn b0 b1 b2 b3 kk h0 n0 _ s₁.heap _
        rw [e0]
        exact ⟨(by unfold own_bl_1; rw [if_pos hc2, if_pos hc5, if_pos hc11, if_neg hc14]), N0, rfl⟩
    ·skip
     obtain ⟨fs, hr, hrun, hended, hW, hsame⟩ := X0.leave (v := some (.int 1)) (fun h => by rw [Bd.returns] at h; cases h)
     refine ⟨_, _, pre10 _ ?_, hrun, hended, _, _, rfl, ?_, ⟨_, rfl⟩, hW, hsame.mono (by decide) (by decide)⟩
     · skip
       refine XS.icmpYes X0.here hx rfl (pc0 := 4) (pc' := 41) rfl (hb hby d12_4) rfl (flt hc11).2.1 (by decide) (by decide) ?_
       refine XS.iconst X0.here hx rfl (hb hby d12_41) ?_
       show Steps p.tables e below (s₁.setTop (mkF m 42 #[.val (.ref a1), .val (.int 1), .val (.int p2), .val (.int 2), .val (.int (own_b b0 b1 b2 b3 (1 : Int32)))] [(.int 1)])) _
       exact retN X0 hx (t := .boolean) Bd.returns (by simp) (hb hby d12_42) hr
     · show Q_rmBl_1 Z a1 p2 nn b0 b1 b2 b3 kk h0 n0 _ s₁.heap _
       rw [e0]
       exact ⟨(by unfold own_bl_1; rw [if_pos hc2, if_pos hc5, if_neg hc11]), N0, rfl⟩
   ·skip
    obtain ⟨fs, hr, hrun, hended, hW, hsame⟩ := X0.leave (v := some (.int 0)) (fun h => by rw [Bd.returns] at h; cases h)
    refine ⟨_, _, pre4 _ ?_, hrun, hended, _, _, rfl, ?_, ⟨_, rfl⟩, hW, hsame.mono (by decide) (by decide)⟩
    · skip
      refine XS.iload X0.here hx rfl (hb hby d12_12) rfl ?_
      refine XS.bipush X0.here hx rfl (hb hby d12_14) ?_
      refine XS.icmpNo X0.here hx rfl (hb hby d12_16) rfl (feq (own_wsn1 hc5)).1 ?_
      refine XS.iload X0.here hx rfl (hb hby d12_19) rfl ?_
      refine XS.bipush X0.here hx rfl (hb hby d12_21) ?_
      refine XS.icmpNo X0.here hx rfl (hb hby d12_23) rfl (feq (own_wsn2 hc5)).1 ?_
      refine XS.iload X0.here hx rfl (hb hby d12_26) rfl ?_
      refine XS.bipush X0.here hx rfl (hb hby d12_28) ?_
      refine XS.icmpNo X0.here hx rfl (hb hby d12_30) rfl (feq (own_wsn3 hc5)).1 ?_
      refine XS.iconst X0.here hx rfl (hb hby d12_33) ?_
      show Steps p.tables e below (s₁.setTop (mkF m 34 #[.val (.ref a1), .val (.int 1), .val (.int p2), .val (.int 1), .val (.int (own_b b0 b1 b2 b3 (1 : Int32)))] [(.int 0)])) _
      exact retN X0 hx (t := .boolean) Bd.returns (by simp) (hb hby d12_34) hr
    · show Q_rmBl_1 Z a1 p2 nn b0 b1 b2 b3 kk h0 n0 _ s₁.heap _
      rw [e0]
      exact ⟨(by unfold own_bl_1; rw [if_pos hc2, if_neg hc5]), N0, rfl⟩
  ·skip
   obtain ⟨fs, hr, hrun, hended, hW, hsame⟩ := X0.leave (v := some (.int 1)) (fun h => by rw [Bd.returns] at h; cases h)
   refine ⟨_, _, pre1 _ ?_, hrun, hended, _, _, rfl, ?_, ⟨_, rfl⟩, hW, hsame.mono (by decide) (by decide)⟩
   · skip
     refine XS.icmpYes X0.here hx rfl (pc0 := 4) (pc' := 41) rfl (hb hby d12_4) rfl (flt hc2).2.1 (by decide) (by decide) ?_
     refine XS.iconst X0.here hx rfl (hb hby d12_41) ?_
     show Steps p.tables e below (s₁.setTop (mkF m 42 #[.val (.ref a1), .val (.int 1), .val (.int p2), .val (.int 1), .unset] [(.int 1)])) _
     exact retN X0 hx (t := .boolean) Bd.returns (by simp) (hb hby d12_42) hr
   · show Q_rmBl_1 Z a1 p2 nn b0 b1 b2 b3 kk h0 n0 _ s₁.heap _
     rw [e0]
     exact ⟨(by unfold own_bl_1; rw [if_neg hc2]), N0, rfl⟩
theorem ef_rmSplit (m : MethodId) (x0 : Addr) : entryFrame m #[(.ref x0)] 5 = mkF m 0 #[.val (.ref x0), .unset, .unset, .unset, .unset] [] := by first | (simp [entryFrame, mkF, argsToLocals, Value.category]; done) | rfl
def Q_rmSplit (Z : State) (a1 : Addr) (nn : Int32) (b0 : Int32) (b1 : Int32) (b2 : Int32) (b3 : Int32) (kk : ClassId) (w_DEF : Addr) (kD : ClassId) (h0 : Heap) (n0 : Nat) (v : Option Value) (h : Heap) (L : List Loc) : Prop := ∃ rl : Addr, v = some (.ref rl) ∧ Fr n0 L ∧ Keep h0 h [] ∧ n0 ≤ rl ∧ h0.size ≤ rl ∧ Exa Z h rl "java/util/ArrayList" ∧ Fld Z h rl "java/util/ArrayList" "size" "I" (.int (own_sz (own_split nn b0 b1 b2 b3))) ∧ own_lines Z h rl (own_split nn b0 b1 b2 b3)
set_option maxRecDepth 65536 in
set_option maxHeartbeats 40000000 in
theorem rmSplit (l : Launch) (Z : State) (a0 : Array Value) (hw : ∀ d ∈ own_tab, d.before a0 Z = true) (ws : List Jvm.Cond) (a1 : Addr) (nn : Int32) (b0 : Int32) (b1 : Int32) (b2 : Int32) (b3 : Int32) (kk : ClassId) (w_DEF : Addr) (kD : ClassId) (h0 : Heap) (n0 : Nat) (Z0 : n0 ≤ h0.size) (P0 : Old Z n0 h0) (P1 : Sta Z Z.heap "java/util/ArrayList" "DEFAULTCAPACITY_EMPTY_ELEMENTDATA" "[Ljava/lang/Object;" (.ref w_DEF)) (P2 : Arv Z h0 a1 kk .byte nn (own_is [b0, b1, b2, b3]) (.int 0)) (P3 : Arv Z h0 w_DEF kD (.object "java/lang/Object") (0 : Int32) [] .null) (hn : 0 ≤ nn.toInt ∧ nn.toInt ≤ 4) :
    MetFree l (⟨"com/example/rank_keeper/rankkeeper/BodyLines", "split", "([B)Ljava/util/List;"⟩ : MethodName) (head1 (Jvm.Cond.code (⟨"com/example/rank_keeper/rankkeeper/BodyLines", "split", "([B)Ljava/util/List;"⟩ : MethodName) prog_2_method_2_code 5 (some (.object "java/util/List")) :: ws) ({ frames := 5, cells := 6, slots := 39, locals := 69 } : Room)) (fun a U => a = #[(.ref a1)] ∧ Z.Warmed39 U.vm ∧ U.heap = h0) (fun _ _ _ _ _ => True) (fun _ U o U' => ∃ v L, o = .returned v ∧ Q_rmSplit Z a1 nn b0 b1 b2 b3 kk w_DEF kD h0 n0 v U'.heap L ∧ ReturnedEndW U o U' L ({ frames := 5, cells := 6, slots := 39, locals := 69 } : Room).cells ({ frames := 5, cells := 6, slots := 39, locals := 69 } : Room).slots) := by
  refine MetFree.of_bodySF (plainFor_of_name pn_8) hisR ?_
  intro p e s m args below meth c s₁ Bd hml0 hP hK
  obtain ⟨rfl, hZ, hh⟩ := hP
  have hx := Bd.exec
  have hby := Bd.bytes
  have hml : c.maxLocals = 5 := hml0
  have hown : s.vm.findClass "com/example/rank_keeper/rankkeeper/BodyLines" = some m.cls := findClass_of_methodNamed Bd.named
  have hnm := (name_of_methodNamed Bd.named Bd.method).1
  have X0 : Stand p l e ({ frames := 5, cells := 6, slots := 39, locals := 69 } : Room) s m #[(.ref a1)] below meth c s₁ [] 0 0 := Stand.of_body Bd
  have e0 : s₁.heap = h0 := by rw [← hh, Bd.state]; rfl
  have N0 := Fr.nil n0
  have KR : Keep h0 h0 [] := Keep.refl h0 _
  have pre0 : ∀ t, Steps p.tables e below (s₁.setTop (mkF m 0 #[.val (.ref a1), .unset, .unset, .unset, .unset] [])) t → Steps p.tables e below (s₁.setTop (entryFrame m #[(.ref a1)] 5)) t := fun t k => castTop (ef_rmSplit m (a1)) k
  have pre1 : ∀ t, Steps p.tables e below (s₁.setTop (mkF m 1 #[.val (.ref a1), .unset, .unset, .unset, .unset] [(.ref a1)])) t → Steps p.tables e below (s₁.setTop (entryFrame m #[(.ref a1)] 5)) t := fun t k => pre0 t (by
    refine XS.aloadN X0.here hx rfl (hb hby d1_0) rfl rfl ?_
    exact k)
  have XW2 : Stand p l e ({ frames := 5, cells := 6, slots := 39, locals := 69 } : Room) (s.setVm s.vm) m #[(.ref a1)] below meth c s₁ _ 0 0 := X0
  obtain ⟨a2, T2, h2, kS2, X2, e2, E2, hS2, Y2, hZ, hown, st2⟩ := ldcS XW2 hx hZ hown (kw5 hw) (own_str hw) e0 (State.WarmedH.since (State.WarmedH.refl s) h0.size) (Nat.le_refl _) (g := (mkF m 1 #[.val (.ref a1), .unset, .unset, .unset, .unset] [(.ref a1)])) rfl (hb hby d1_1) (n := 16) (by decide) (by decide) (by decide) (by decide)
  have Z2 : n0 ≤ h2.size := Nat.le_trans Z0 E2.1
  have K2 : Keep h0 h2 [] := KR.ext E2
  obtain ⟨_, _, ⟨T3, L3, k3, n3⟩, -, X3, ⟨Lc3, hQ3, l3, y3, z3⟩, st3⟩ := Jvm.LawKit.callS X2 hx (y := (⟨"java/util/Objects", "requireNonNull", "(Ljava/lang/Object;Ljava/lang/String;)Ljava/lang/Object;"⟩ : MethodName)) hown (mvT hZ (kw12 hw)) (mvT hZ (kw13 hw)) (mvT hZ (kw14 hw)) (mvT hZ (kw15 hw)) (by decide) (backOf (W := 0) (rm2 l Z a0 hw [] a1 a2 h2 n0 Z2 ) hZ (kw15 hw) (kw14 hw) (by decide) (by decide)) (g := (mkF m 3 #[.val (.ref a1), .unset, .unset, .unset, .unset] [(.ref a2), (.ref a1)])) rfl (by rw [hml]; rfl) (argsL := [(.ref a1), (.ref a2)]) (rest := []) (lenOf pd_12 rfl) rfl (by show 2 * 0 + _ ≤ _; exact Nat.le_of_eq rfl) (hb hby d1_3) (fun _ _ => ⟨rfl, e2, (by decide : 2 + 0 ≤ _), (by decide : 20 + 0 ≤ _)⟩)
  dsimp only [Pt.U, Pt.locs, Pt.cells, Pt.slots] at X3 l3 y3 z3 st3 hQ3
  subst l3 y3 z3
  obtain ⟨rfl, N3q, e3⟩ := hQ3
  have N3 := Fr.app N0 N3q
  have f5 := (P2.ext E2)
  have f6 := (P3.ext E2)
  obtain ⟨T4, h4, X4, e4, E4, A4, D4, -, st4⟩ := newO X3 hx hZ hown (kw16 hw) (kw17 hw) (kw18 hw) e3 (g := (mkF m 7 #[.val (.ref a1), .unset, .unset, .unset, .unset] [])) rfl (hb hby d1_7) (by decide) (by decide)
  obtain ⟨b4, g4⟩ : ∃ z, z = h2.size := ⟨_, rfl⟩
  rw [← g4] at A4 D4 st4
  have ne4_a1 : a1 ≠ b4 := Nat.ne_of_lt (Nat.lt_of_lt_of_le f5.lt (Nat.le_of_eq g4.symm))
  have ne4_w_DEF : w_DEF ≠ b4 := Nat.ne_of_lt (Nat.lt_of_lt_of_le f6.lt (Nat.le_of_eq g4.symm))
  have g_b4 : n0 ≤ b4 := Nat.le_trans Z2 (Nat.le_of_eq g4.symm)
  have sz_b4 : h0.size ≤ b4 := Nat.le_trans K2.1 (Nat.le_of_eq g4.symm)
  have Z4 : n0 ≤ h4.size := Nat.le_trans Z2 E4.1
  have Y4 : kS2 ≤ h4.size := Nat.le_trans Y2 E4.1
  have K4 : Keep h0 h4 [] := K2.ext E4
  have F4_modCount : Fld Z h4 b4 "java/util/AbstractList" "modCount" "I" (.int 0) := D4 (Or.inl (kw38 hw)) (ty := .int) (by decide)
  have F4_elementData : Fld Z h4 b4 "java/util/ArrayList" "elementData" "[Ljava/lang/Object;" .null := D4 (Or.inl (kw41 hw)) (ty := (.array (.object "java/lang/Object"))) (by decide)
  have F4_size : Fld Z h4 b4 "java/util/ArrayList" "size" "I" (.int 0) := D4 (Or.inl (kw59 hw)) (ty := .int) (by decide)
  have f8 := ((P0.ext E2).ext E4)
  obtain ⟨_, _, ⟨T7, L7, k7, n7⟩, -, X7, ⟨Lc7, hQ7, l7, y7, z7⟩, st7⟩ := X4.specialBack hx (y := (⟨"java/util/ArrayList", "<init>", "()V"⟩ : MethodName)) rfl hown (mvT hZ (kw19 hw)) (mvT hZ (kw20 hw)) (mvT hZ (kw21 hw)) (by decide) (backOf (W := 1) (rm3 l Z a0 hw [] b4 w_DEF h4 n0 Z4 f8 P1 A4 g_b4 F4_modCount F4_elementData F4_size) hZ (kw21 hw) (kw18 hw) (by decide) (by decide)) (g := (mkF m 11 #[.val (.ref a1), .unset, .unset, .unset, .unset] [(.ref b4), (.ref b4)])) rfl (by rw [hml]; rfl) (Steps.refl _) (a := b4) (argsL := []) (rest := [(.ref b4)]) (lenOf pd_4 rfl) rfl (by show 2 * 0 + _ ≤ _; exact Nat.le_of_eq rfl) (hb hby d1_11) (fun _ _ => ⟨rfl, e4, (by decide : 3 + 0 ≤ _), (by decide : 23 + 0 ≤ _)⟩)
  dsimp only [Pt.U, Pt.locs, Pt.cells, Pt.slots] at X7 l7 y7 z7 st7 hQ7
  subst l7 y7 z7
  obtain ⟨rfl, N7q, Kq7, p7_0, p7_1, p7_2⟩ := hQ7
  have N7 := Fr.app N3 N7q
  have Z7 : n0 ≤ T7.heap.size := Nat.le_trans Z4 Kq7.1
  have Y7 : kS2 ≤ T7.heap.size := Nat.le_trans Y4 Kq7.1
  have K7 : Keep h0 T7.heap [] := K4.trans Kq7 (allS (Or.inr sz_b4) all0)
  have f9 := ((f5.ext E4).keep Kq7 (ninS ne4_a1 nin0))
  obtain ⟨cl10, Ar10, -, S10, N10', -, -⟩ := id f9
  have pre11 : ∀ t, Steps p.tables e below (T7.setTop (mkF m 22 #[.val (.ref a1), .val (.ref b4), .val (.int 0), .val (.int 0), .unset] [(.int nn), (.int 0)])) t → Steps p.tables e below (s₁.setTop (entryFrame m #[(.ref a1)] 5)) t := fun t k => pre1 t (by
    refine st2 _ ?_
    refine st3 _ ?_
    refine XS.pop X3.here hx rfl (hb hby d1_6) rfl rfl ?_
    refine st4 _ ?_
    refine XS.dup X4.here hx rfl (hb hby d1_10) rfl rfl ?_
    refine st7.trans ?_
    refine XS.astoreN X7.here hx rfl (hb hby d1_14) rfl rfl (l' := #[.val (.ref a1), .val (.ref b4), .unset, .unset, .unset]) rfl ?_
    refine XS.iconst X7.here hx rfl (hb hby d1_15) ?_
    refine XS.istoreN X7.here hx rfl (hb hby d1_16) rfl (l' := #[.val (.ref a1), .val (.ref b4), .val (.int 0), .unset, .unset]) rfl ?_
    refine XS.iconst X7.here hx rfl (hb hby d1_17) ?_
    refine XS.istoreN X7.here hx rfl (hb hby d1_18) rfl (l' := #[.val (.ref a1), .val (.ref b4), .val (.int 0), .val (.int 0), .unset]) rfl ?_
    refine XS.iloadN X7.here hx rfl (hb hby d1_19) rfl ?_
    refine XS.aloadN X7.here hx rfl (hb hby d1_20) rfl rfl ?_
    refine X7.arraylength hx Ar10.1 (State.isArrayOf_alike hZ.alike Ar10.2.1) (g := (mkF m 21 #[.val (.ref a1), .val (.ref b4), .val (.int 0), .val (.int 0), .unset] [(.ref a1), (.int 0)])) rfl rfl (hb hby d1_21) _ ?_
    rw [len_of S10 N10']
    exact k)
  by_cases hc12 : (0 : Int32) < nn
  ·skip
   have pre13 : ∀ t, Steps p.tables e below (T7.setTop (mkF m 31 #[.val (.ref a1), .val (.ref b4), .val (.int 1), .val (.int 0), .val (.int 0)] [])) t → Steps p.tables e below (s₁.setTop (entryFrame m #[(.ref a1)] 5)) t := fun t k => pre11 t (by
     refine XS.icmpNo X7.here hx rfl (hb hby d1_22) rfl (tlt hc12).2.1 ?_
     refine XS.iinc X7.here hx rfl (hb hby d1_25) rfl (l' := #[.val (.ref a1), .val (.ref b4), .val (.int 1), .val (.int 0), .unset]) rfl ?_
     refine XS.iloadN X7.here hx rfl (hb hby d1_28) rfl ?_
     refine XS.istore X7.here hx rfl (hb hby d1_29) rfl (l' := #[.val (.ref a1), .val (.ref b4), .val (.int 1), .val (.int 0), .val (.int 0)]) rfl ?_
     exact k)
   by_cases hc14 : (0 : Int32) < nn ∧ ¬ (own_b b0 b1 b2 b3 (0 : Int32)) = (10 : Int32)
   ·skip
    obtain ⟨cl15, Ar15, -, S15, N15', -, -⟩ := id f9
    obtain ⟨cl16, Ar16, q16, S16, N16', H16, G16⟩ := id f9
    have hin16 : ¬ ((0 : Int32) < 0 ∨ cl16.slots.size ≤ ((0 : Int32)).toNatClampNeg) := inb_of S16 ⟨by decide, hc14.1⟩
    have hat16 : cl16.slots[((0 : Int32)).toNatClampNeg]? = some (.int (own_b b0 b1 b2 b3 (0 : Int32))) := H16.at hin16 (own_is_getD _ _)
    have pre17 : ∀ t, Steps p.tables e below (T7.setTop (mkF m 31 #[.val (.ref a1), .val (.ref b4), .val (.int 1), .val (.int 0), .val (.int 1)] [])) t → Steps p.tables e below (s₁.setTop (entryFrame m #[(.ref a1)] 5)) t := fun t k => pre13 t (by
      refine XS.iload X7.here hx rfl (hb hby d1_31) rfl ?_
      refine XS.aloadN X7.here hx rfl (hb hby d1_33) rfl rfl ?_
      refine X7.arraylength hx Ar15.1 (State.isArrayOf_alike hZ.alike Ar15.2.1) (g := (mkF m 34 #[.val (.ref a1), .val (.ref b4), .val (.int 1), .val (.int 0), .val (.int 0)] [(.ref a1), (.int 0)])) rfl rfl (hb hby d1_34) _ ?_
      rw [len_of S15 N15']
      refine XS.icmpNo X7.here hx rfl (hb hby d1_35) rfl (tlt hc14.1).2.1 ?_
      refine XS.aloadN X7.here hx rfl (hb hby d1_38) rfl rfl ?_
      refine XS.iload X7.here hx rfl (hb hby d1_39) rfl ?_
      refine X7.baloadBytes hx (j := (0 : Int32)) (v := (.int (own_b b0 b1 b2 b3 (0 : Int32)))) Ar16.1 (State.isArrayOf_alike hZ.alike Ar16.2.1) Ar16.2.2 hin16 hat16 (g := (mkF m 41 #[.val (.ref a1), .val (.ref b4), .val (.int 1), .val (.int 0), .val (.int 0)] [(.int 0), (.ref a1)])) rfl rfl (hb hby d1_41) _ ?_
      refine XS.bipush X7.here hx rfl (hb hby d1_42) ?_
      refine XS.icmpNo X7.here hx rfl (hb hby d1_44) rfl (feq hc14.2).1 ?_
      refine XS.iinc X7.here hx rfl (hb hby d1_47) rfl (l' := #[.val (.ref a1), .val (.ref b4), .val (.int 1), .val (.int 0), .val (.int 1)]) rfl ?_
      refine XS.goto X7.here hx rfl (pc0 := 50) (pc' := 31) rfl (hb hby d1_50) (by decide) (by decide) ?_
      exact k)
    by_cases hc18 : (1 : Int32) < nn ∧ ¬ (own_b b0 b1 b2 b3 (1 : Int32)) = (10 : Int32)
    ·skip
     obtain ⟨cl19, Ar19, -, S19, N19', -, -⟩ := id f9
     obtain ⟨cl20, Ar20, q20, S20, N20', H20, G20⟩ := id f9
     have hin20 : ¬ ((1 : Int32) < 0 ∨ cl20.slots.size ≤ ((1 : Int32)).toNatClampNeg) := inb_of S20 ⟨by decide, hc18.1⟩
     have hat20 : cl20.slots[((1 : Int32)).toNatClampNeg]? = some (.int (own_b b0 b1 b2 b3 (1 : Int32))) := H20.at hin20 (own_is_getD _ _)
     have pre21 : ∀ t, Steps p.tables e below (T7.setTop (mkF m 31 #[.val (.ref a1), .val (.ref b4), .val (.int 1), .val (.int 0), .val (.int 2)] [])) t → Steps p.tables e below (s₁.setTop (entryFrame m #[(.ref a1)] 5)) t := fun t k => pre17 t (by
       refine XS.iload X7.here hx rfl (hb hby d1_31) rfl ?_
       refine XS.aloadN X7.here hx rfl (hb hby d1_33) rfl rfl ?_
       refine X7.arraylength hx Ar19.1 (State.isArrayOf_alike hZ.alike Ar19.2.1) (g := (mkF m 34 #[.val (.ref a1), .val (.ref b4), .val (.int 1), .val (.int 0), .val (.int 1)] [(.ref a1), (.int 1)])) rfl rfl (hb hby d1_34) _ ?_
       rw [len_of S19 N19']
       refine XS.icmpNo X7.here hx rfl (hb hby d1_35) rfl (tlt hc18.1).2.1 ?_
       refine XS.aloadN X7.here hx rfl (hb hby d1_38) rfl rfl ?_
       refine XS.iload X7.here hx rfl (hb hby d1_39) rfl ?_
       refine X7.baloadBytes hx (j := (1 : Int32)) (v := (.int (own_b b0 b1 b2 b3 (1 : Int32)))) Ar20.1 (State.isArrayOf_alike hZ.alike Ar20.2.1) Ar20.2.2 hin20 hat20 (g := (mkF m 41 #[.val (.ref a1), .val (.ref b4), .val (.int 1), .val (.int 0), .val (.int 1)] [(.int 1), (.ref a1)])) rfl rfl (hb hby d1_41) _ ?_
       refine XS.bipush X7.here hx rfl (hb hby d1_42) ?_
       refine XS.icmpNo X7.here hx rfl (hb hby d1_44) rfl (feq hc18.2).1 ?_
       refine XS.iinc X7.here hx rfl (hb hby d1_47) rfl (l' := #[.val (.ref a1), .val (.ref b4), .val (.int 1), .val (.int 0), .val (.int 2)]) rfl ?_
       refine XS.goto X7.here hx rfl (pc0 := 50) (pc' := 31) rfl (hb hby d1_50) (by decide) (by decide) ?_
       exact k)
     by_cases hc22 : (2 : Int32) < nn ∧ ¬ (own_b b0 b1 b2 b3 (2 : Int32)) = (10 : Int32)
     ·skip
      obtain ⟨cl23, Ar23, -, S23, N23', -, -⟩ := id f9
      obtain ⟨cl24, Ar24, q24, S24, N24', H24, G24⟩ := id f9
      have hin24 : ¬ ((2 : Int32) < 0 ∨ cl24.slots.size ≤ ((2 : Int32)).toNatClampNeg) := inb_of S24 ⟨by decide, hc22.1⟩
      have hat24 : cl24.slots[((2 : Int32)).toNatClampNeg]? = some (.int (own_b b0 b1 b2 b3 (2 : Int32))) := H24.at hin24 (own_is_getD _ _)
      have pre25 : ∀ t, Steps p.tables e below (T7.setTop (mkF m 31 #[.val (.ref a1), .val (.ref b4), .val (.int 1), .val (.int 0), .val (.int 3)] [])) t → Steps p.tables e below (s₁.setTop (entryFrame m #[(.ref a1)] 5)) t := fun t k => pre21 t (by
        refine XS.iload X7.here hx rfl (hb hby d1_31) rfl ?_
        refine XS.aloadN X7.here hx rfl (hb hby d1_33) rfl rfl ?_
        refine X7.arraylength hx Ar23.1 (State.isArrayOf_alike hZ.alike Ar23.2.1) (g := (mkF m 34 #[.val (.ref a1), .val (.ref b4), .val (.int 1), .val (.int 0), .val (.int 2)] [(.ref a1), (.int 2)])) rfl rfl (hb hby d1_34) _ ?_
        rw [len_of S23 N23']
        refine XS.icmpNo X7.here hx rfl (hb hby d1_35) rfl (tlt hc22.1).2.1 ?_
        refine XS.aloadN X7.here hx rfl (hb hby d1_38) rfl rfl ?_
        refine XS.iload X7.here hx rfl (hb hby d1_39) rfl ?_
        refine X7.baloadBytes hx (j := (2 : Int32)) (v := (.int (own_b b0 b1 b2 b3 (2 : Int32)))) Ar24.1 (State.isArrayOf_alike hZ.alike Ar24.2.1) Ar24.2.2 hin24 hat24 (g := (mkF m 41 #[.val (.ref a1), .val (.ref b4), .val (.int 1), .val (.int 0), .val (.int 2)] [(.int 2), (.ref a1)])) rfl rfl (hb hby d1_41) _ ?_
        refine XS.bipush X7.here hx rfl (hb hby d1_42) ?_
        refine XS.icmpNo X7.here hx rfl (hb hby d1_44) rfl (feq hc22.2).1 ?_
        refine XS.iinc X7.here hx rfl (hb hby d1_47) rfl (l' := #[.val (.ref a1), .val (.ref b4), .val (.int 1), .val (.int 0), .val (.int 3)]) rfl ?_
        refine XS.goto X7.here hx rfl (pc0 := 50) (pc' := 31) rfl (hb hby d1_50) (by decide) (by decide) ?_
        exact k)
      by_cases hc26 : (3 : Int32) < nn ∧ ¬ (own_b b0 b1 b2 b3 (3 : Int32)) = (10 : Int32)
      ·skip
       obtain ⟨cl27, Ar27, -, S27, N27', -, -⟩ := id f9
       obtain ⟨cl28, Ar28, q28, S28, N28', H28, G28⟩ := id f9
       have hin28 : ¬ ((3 : Int32) < 0 ∨ cl28.slots.size ≤ ((3 : Int32)).toNatClampNeg) := inb_of S28 ⟨by decide, hc26.1⟩
       have hat28 : cl28.slots[((3 : Int32)).toNatClampNeg]? = some (.int (own_b b0 b1 b2 b3 (3 : Int32))) := H28.at hin28 (own_is_getD _ _)
       obtain ⟨cl29, Ar29, -, S29, N29', -, -⟩ := id f9
       obtain ⟨_, _, ⟨T30, L30, k30, n30⟩, -, X30, ⟨Lc30, hQ30, l30, y30, z30⟩, st30⟩ := Jvm.LawKit.callS X7 hx (y := (⟨"com/example/rank_keeper/rankkeeper/BodyLines", "isBlank", "([BII)Z"⟩ : MethodName)) hown (mvT hZ (kw66 hw)) (mvT hZ (kw67 hw)) (mvT hZ (kw3 hw)) (mvT hZ (kw68 hw)) (by decide) (backOf (W := 0) (rmBl_0 l Z a0 hw [] a1 (4 : Int32) nn b0 b1 b2 b3 kk T7.heap n0 Z7 f9 hn (own_lt1 hc26.1 (by decide))) hZ (kw68 hw) (kw3 hw) (by decide) (by decide)) (g := (mkF m 57 #[.val (.ref a1), .val (.ref b4), .val (.int 1), .val (.int 0), .val (.int 4)] [(.int 4), (.int 0), (.ref a1)])) rfl (by rw [hml]; rfl) (argsL := [(.ref a1), (.int 0), (.int 4)]) (rest := []) (lenOf pd_3 rfl) rfl (by show 2 * 0 + _ ≤ _; exact Nat.le_of_eq rfl) (hb hby d1_57) (fun _ _ => ⟨rfl, rfl, (by decide : 3 + 0 ≤ _), (by decide : 23 + 0 ≤ _)⟩)
       dsimp only [Pt.U, Pt.locs, Pt.cells, Pt.slots] at X30 l30 y30 z30 st30 hQ30
       subst l30 y30 z30
       obtain ⟨rfl, N30q, e30⟩ := hQ30
       have N30 := Fr.app N7 N30q
       have pre31 : ∀ t, Steps p.tables e below (T30.setTop (mkF m 60 #[.val (.ref a1), .val (.ref b4), .val (.int 1), .val (.int 0), .val (.int 4)] [(.int (own_bl_0 b0 b1 b2 b3 (4 : Int32)))])) t → Steps p.tables e below (s₁.setTop (entryFrame m #[(.ref a1)] 5)) t := fun t k => pre25 t (by
         refine XS.iload X7.here hx rfl (hb hby d1_31) rfl ?_
         refine XS.aloadN X7.here hx rfl (hb hby d1_33) rfl rfl ?_
         refine X7.arraylength hx Ar27.1 (State.isArrayOf_alike hZ.alike Ar27.2.1) (g := (mkF m 34 #[.val (.ref a1), .val (.ref b4), .val (.int 1), .val (.int 0), .val (.int 3)] [(.ref a1), (.int 3)])) rfl rfl (hb hby d1_34) _ ?_
         rw [len_of S27 N27']
         refine XS.icmpNo X7.here hx rfl (hb hby d1_35) rfl (tlt hc26.1).2.1 ?_
         refine XS.aloadN X7.here hx rfl (hb hby d1_38) rfl rfl ?_
         refine XS.iload X7.here hx rfl (hb hby d1_39) rfl ?_
         refine X7.baloadBytes hx (j := (3 : Int32)) (v := (.int (own_b b0 b1 b2 b3 (3 : Int32)))) Ar28.1 (State.isArrayOf_alike hZ.alike Ar28.2.1) Ar28.2.2 hin28 hat28 (g := (mkF m 41 #[.val (.ref a1), .val (.ref b4), .val (.int 1), .val (.int 0), .val (.int 3)] [(.int 3), (.ref a1)])) rfl rfl (hb hby d1_41) _ ?_
         refine XS.bipush X7.here hx rfl (hb hby d1_42) ?_
         refine XS.icmpNo X7.here hx rfl (hb hby d1_44) rfl (feq hc26.2).1 ?_
         refine XS.iinc X7.here hx rfl (hb hby d1_47) rfl (l' := #[.val (.ref a1), .val (.ref b4), .val (.int 1), .val (.int 0), .val (.int 4)]) rfl ?_
         refine XS.goto X7.here hx rfl (pc0 := 50) (pc' := 31) rfl (hb hby d1_50) (by decide) (by decide) ?_
         refine XS.iload X7.here hx rfl (hb hby d1_31) rfl ?_
         refine XS.aloadN X7.here hx rfl (hb hby d1_33) rfl rfl ?_
         refine X7.arraylength hx Ar29.1 (State.isArrayOf_alike hZ.alike Ar29.2.1) (g := (mkF m 34 #[.val (.ref a1), .val (.ref b4), .val (.int 1), .val (.int 0), .val (.int 4)] [(.ref a1), (.int 4)])) rfl rfl (hb hby d1_34) _ ?_
         rw [len_of S29 N29']
         refine XS.icmpYes X7.here hx rfl (pc0 := 35) (pc' := 53) rfl (hb hby d1_35) rfl (flt (own_ge4 hn (by decide))).2.1 (by decide) (by decide) ?_
         refine XS.aloadN X7.here hx rfl (hb hby d1_53) rfl rfl ?_
         refine XS.iloadN X7.here hx rfl (hb hby d1_54) rfl ?_
         refine XS.iload X7.here hx rfl (hb hby d1_55) rfl ?_
         refine st30 _ ?_
         exact k)
       by_cases hc32 : (own_bl_0 b0 b1 b2 b3 (4 : Int32)) = (0 : Int32)
       ·skip
        have f34 := (A4.keep Kq7)
        have f35 := ((f6.ext E4).keep Kq7 (ninS ne4_w_DEF nin0))
        obtain ⟨T33, h33, X33, e33, E33, A33, D33, -, st33⟩ := newO X30 hx hZ hown (kw69 hw) (kw70 hw) (kw71 hw) e30 (g := (mkF m 64 #[.val (.ref a1), .val (.ref b4), .val (.int 1), .val (.int 0), .val (.int 4)] [(.ref b4)])) rfl (hb hby d1_64) (by decide) (by decide)
        obtain ⟨b33, g33⟩ : ∃ z, z = T7.heap.size := ⟨_, rfl⟩
        rw [← g33] at A33 D33 st33
        have ne33_a1 : a1 ≠ b33 := Nat.ne_of_lt (Nat.lt_of_lt_of_le f9.lt (Nat.le_of_eq g33.symm))
        have ne33_b4 : b4 ≠ b33 := Nat.ne_of_lt (Nat.lt_of_lt_of_le f34.lt (Nat.le_of_eq g33.symm))
        have ne33_w_DEF : w_DEF ≠ b33 := Nat.ne_of_lt (Nat.lt_of_lt_of_le f35.lt (Nat.le_of_eq g33.symm))
        have g_b33 : n0 ≤ b33 := Nat.le_trans Z7 (Nat.le_of_eq g33.symm)
        have sz_b33 : h0.size ≤ b33 := Nat.le_trans K7.1 (Nat.le_of_eq g33.symm)
        have Z33 : n0 ≤ h33.size := Nat.le_trans Z7 E33.1
        have Y33 : kS2 ≤ h33.size := Nat.le_trans Y7 E33.1
        have K33 : Keep h0 h33 [] := K7.ext E33
        have F33_number : Fld Z h33 b33 "com/example/rank_keeper/rankkeeper/BodyLines$Line" "number" "I" (.int 0) := D33 (Or.inr (kw82 hw)) (ty := .int) (by decide)
        have F33_offset : Fld Z h33 b33 "com/example/rank_keeper/rankkeeper/BodyLines$Line" "offset" "I" (.int 0) := D33 (Or.inr (kw84 hw)) (ty := .int) (by decide)
        have F33_length : Fld Z h33 b33 "com/example/rank_keeper/rankkeeper/BodyLines$Line" "length" "I" (.int 0) := D33 (Or.inr (kw86 hw)) (ty := .int) (by decide)
        obtain ⟨_, _, ⟨T36, L36, k36, n36⟩, -, X36, ⟨Lc36, hQ36, l36, y36, z36⟩, st36⟩ := X33.specialBack hx (y := (⟨"com/example/rank_keeper/rankkeeper/BodyLines$Line", "<init>", "(III)V"⟩ : MethodName)) rfl hown (mvT hZ (kw72 hw)) (mvT hZ (kw73 hw)) (mvT hZ (kw74 hw)) (by decide) (backOf (W := 2) (rm13 l Z a0 hw [] b33 (1 : Int32) (0 : Int32) (4 : Int32) h33 n0 Z33 A33 g_b33 F33_number F33_offset F33_length) hZ (kw74 hw) (kw71 hw) (by decide) (by decide)) (g := (mkF m 74 #[.val (.ref a1), .val (.ref b4), .val (.int 1), .val (.int 0), .val (.int 4)] [(.int 4), (.int 0), (.int 1), (.ref b33), (.ref b33), (.ref b4)])) rfl (by rw [hml]; rfl) (Steps.refl _) (a := b33) (argsL := [(.int 1), (.int 0), (.int 4)]) (rest := [(.ref b33), (.ref b4)]) (lenOf pd_13 rfl) rfl (by show 2 * 0 + _ ≤ _; exact Nat.le_of_eq rfl) (hb hby d1_74) (fun _ _ => ⟨rfl, e33, (by decide : 4 + 0 ≤ _), (by decide : 26 + 0 ≤ _)⟩)
        dsimp only [Pt.U, Pt.locs, Pt.cells, Pt.slots] at X36 l36 y36 z36 st36 hQ36
        subst l36 y36 z36
        obtain ⟨rfl, N36q, Kq36, p36_0, p36_1, p36_2⟩ := hQ36
        have N36 := Fr.app N30 N36q
        have Z36 : n0 ≤ T36.heap.size := Nat.le_trans Z33 Kq36.1
        have Y36 : kS2 ≤ T36.heap.size := Nat.le_trans Y33 Kq36.1
        have K36 : Keep h0 T36.heap [] := K33.trans Kq36 (allS (Or.inr sz_b33) all0)
        have f38 := (((f8.keep Kq7 (allS g_b4 all0)).ext E33).keep Kq36 (allS g_b33 all0))
        have f39 := ((f34.ext E33).keep Kq36)
        have f40 := (A33.keep Kq36)
        have f41 := ((p7_1.ext E33).keep Kq36 (ninS ne33_b4 nin0))
        have f42 := ((p7_2.ext E33).keep Kq36 (ninS ne33_b4 nin0))
        have f43 := ((p7_0.ext E33).keep Kq36 (ninS ne33_b4 nin0))
        have f44 := ((f35.ext E33).keep Kq36 (ninS ne33_w_DEF nin0))
        have f45 := ((f9.ext E33).keep Kq36 (ninS ne33_a1 nin0))
        obtain ⟨cq37, kq37, q37a, q37b, q37c⟩ := isOf hZ rfl f39
        obtain ⟨_, _, ⟨T37, L37, k37, n37⟩, -, X37, ⟨Lc37, hQ37, l37, y37, z37⟩, st37⟩ := X36.interfaceBack hx (xi := (⟨"java/util/List", "add", "(Ljava/lang/Object;)Z"⟩ : MethodName)) (y := (⟨"java/util/ArrayList", "add", "(Ljava/lang/Object;)Z"⟩ : MethodName)) hown (mvT hZ (kw87 hw)) (mvT hZ (kw88 hw)) (mvT hZ (kw89 hw)) (mvT hZ (kw90 hw)) (mvT hZ (kw91 hw)) (mvT hZ (kw92 hw)) (mvT hZ (kw93 hw)) (mvT hZ (kw56 hw)) (by decide) (backOf (W := 0) (rmAdd0 l Z a0 hw [] b4 b33 w_DEF kD (0 : Int32) T36.heap n0 Z36 f38 P1 f39 g_b4 f40 f41 f42 f43 f44 ne4_w_DEF) hZ (kw94 hw) (kw18 hw) (by decide) (by decide)) q37a q37b q37c (g := (mkF m 77 #[.val (.ref a1), .val (.ref b4), .val (.int 1), .val (.int 0), .val (.int 4)] [(.ref b33), (.ref b4)])) rfl (by rw [hml]; rfl) (Steps.refl _) (argsL := [(.ref b33)]) (rest := []) (lenOf pd_14 rfl) rfl (by show 2 * 0 + _ ≤ _; exact Nat.le_of_eq rfl) (hb hby d1_77) (fun _ _ => ⟨rfl, rfl, (by decide : 4 + 1 ≤ _), (by decide : 26 + 10 ≤ _)⟩)
        dsimp only [Pt.U, Pt.locs, Pt.cells, Pt.slots] at X37 l37 y37 z37 st37 hQ37
        subst l37 y37 z37
        obtain ⟨ed_37, kd_37, rfl, N37q, Kq37, p37_0, p37_1, p37_2, p37_3, p37_4, p37_5, p37_6⟩ := hQ37
        have N37 := Fr.app N36 N37q
        have Z37 : n0 ≤ T37.heap.size := Nat.le_trans Z36 Kq37.1
        have Y37 : kS2 ≤ T37.heap.size := Nat.le_trans Y36 Kq37.1
        have K37 : Keep h0 T37.heap [] := K36.trans Kq37 (allS (Or.inr sz_b4) all0)
        have sz_ed_37 : h0.size ≤ ed_37 := Nat.le_trans K36.1 p37_1
        have ne37_a1_ed_37 : a1 ≠ ed_37 := Nat.ne_of_lt (Nat.lt_of_lt_of_le f45.lt p37_1)
        have ne37_b33_ed_37 : b33 ≠ ed_37 := Nat.ne_of_lt (Nat.lt_of_lt_of_le f40.lt p37_1)
        have ne37_b4_ed_37 : b4 ≠ ed_37 := Nat.ne_of_lt (Nat.lt_of_lt_of_le f39.lt p37_1)
        have ne37_w_DEF_ed_37 : w_DEF ≠ ed_37 := Nat.ne_of_lt (Nat.lt_of_lt_of_le f44.lt p37_1)
        have f46 := (f45.keep Kq37 (ninS ne4_a1 nin0))
        obtain ⟨cl47, Ar47, -, S47, N47', -, -⟩ := id f46
        have hsp : own_split nn b0 b1 b2 b3 = [((1 : Int32), (0 : Int32), (4 : Int32))] := by unfold own_split; rw [if_pos hc12, if_pos hc14, if_pos hc18, if_pos hc22, if_pos hc26, if_pos hc32]
        have f48 := (f39.keep Kq37)
        have f49 := (f40.keep Kq37)
        have f50 := (p36_0.keep Kq37 (ninS (Ne.symm ne33_b4) nin0))
        have f51 := (p36_1.keep Kq37 (ninS (Ne.symm ne33_b4) nin0))
        have f52 := (p36_2.keep Kq37 (ninS (Ne.symm ne33_b4) nin0))
        obtain ⟨fs, hr, hrun, hended, hRE⟩ := X37.leaveW hS2 Y37 (v := some (.ref b4)) (fun h => by rw [Bd.returns] at h; cases h)
        refine ⟨_, _, pre31 _ ?_, hrun, hended, _, _, rfl, ?_, hRE.1, hRE.2.1, hRE.2.2.1, hRE.2.2.2.mono (by decide) (by decide)⟩
        · skip
          refine XS.ifNo X30.here hx rfl (hb hby d1_60) rfl ((if0 _ _).trans (teq hc32).2) ?_
          refine XS.aloadN X30.here hx rfl (hb hby d1_63) rfl rfl ?_
          refine st33 _ ?_
          refine XS.dup X33.here hx rfl (hb hby d1_67) rfl rfl ?_
          refine XS.iloadN X33.here hx rfl (hb hby d1_68) rfl ?_
          refine XS.iloadN X33.here hx rfl (hb hby d1_69) rfl ?_
          refine XS.iload X33.here hx rfl (hb hby d1_70) rfl ?_
          refine XS.iloadN X33.here hx rfl (hb hby d1_72) rfl ?_
          refine XS.isub X33.here hx rfl (hb hby d1_73) rfl ?_
          refine st36.trans ?_
          refine st37.trans ?_
          refine XS.pop X37.here hx rfl (hb hby d1_82) rfl rfl ?_
          refine XS.iload X37.here hx rfl (hb hby d1_83) rfl ?_
          refine XS.iconst X37.here hx rfl (hb hby d1_85) ?_
          refine XS.iadd X37.here hx rfl (hb hby d1_86) rfl ?_
          refine XS.istoreN X37.here hx rfl (hb hby d1_87) rfl (l' := #[.val (.ref a1), .val (.ref b4), .val (.int 1), .val (.int 5), .val (.int 4)]) rfl ?_
          refine XS.goto X37.here hx rfl (pc0 := 88) (pc' := 19) rfl (hb hby d1_88) (by decide) (by decide) ?_
          refine XS.iloadN X37.here hx rfl (hb hby d1_19) rfl ?_
          refine XS.aloadN X37.here hx rfl (hb hby d1_20) rfl rfl ?_
          refine X37.arraylength hx Ar47.1 (State.isArrayOf_alike hZ.alike Ar47.2.1) (g := (mkF m 21 #[.val (.ref a1), .val (.ref b4), .val (.int 1), .val (.int 5), .val (.int 4)] [(.ref a1), (.int 5)])) rfl rfl (hb hby d1_21) _ ?_
          rw [len_of S47 N47']
          refine XS.icmpYes X37.here hx rfl (pc0 := 22) (pc' := 91) rfl (hb hby d1_22) rfl (flt (own_ge4 hn (by decide))).2.1 (by decide) (by decide) ?_
          refine XS.aloadN X37.here hx rfl (hb hby d1_91) rfl rfl ?_
          show Steps p.tables e below (T37.setTop (mkF m 92 #[.val (.ref a1), .val (.ref b4), .val (.int 1), .val (.int 5), .val (.int 4)] [(.ref b4)])) _
          jvm_step X37.here [X37.here.top, hx, (hb hby d1_92), X37.method', Bd.returns, Value.isRef, FieldType.isReference]
          first | (intro acts; rw [hr _ acts rfl rfl rfl]) | rw [hr _ _ rfl rfl rfl]
          exact Steps.refl _
        · show Q_rmSplit Z a1 nn b0 b1 b2 b3 kk w_DEF kD h0 n0 _ T37.heap _
          exact ⟨b4, rfl, N37, K37, g_b4, sz_b4, f48, (by rw [hsp]; exact p37_4), (by rw [hsp]; exact own_lines1 p37_5 p37_2 f49 f50 f51 f52)⟩
       ·skip
        obtain ⟨cl54, Ar54, -, S54, N54', -, -⟩ := id f9
        have hsp : own_split nn b0 b1 b2 b3 = [] := by unfold own_split; rw [if_pos hc12, if_pos hc14, if_pos hc18, if_pos hc22, if_pos hc26, if_neg hc32]
        have f55 := (A4.keep Kq7)
        obtain ⟨fs, hr, hrun, hended, hRE⟩ := X30.leaveW hS2 (by rw [e30]; exact Y7) (v := some (.ref b4)) (fun h => by rw [Bd.returns] at h; cases h)
        refine ⟨_, _, pre31 _ ?_, hrun, hended, _, _, rfl, ?_, hRE.1, hRE.2.1, hRE.2.2.1, hRE.2.2.2.mono (by decide) (by decide)⟩
        · skip
          refine XS.ifYes X30.here hx rfl (pc0 := 60) (pc' := 83) rfl (hb hby d1_60) rfl ((if0 _ _).trans (feq hc32).2) (by decide) (by decide) ?_
          refine XS.iload X30.here hx rfl (hb hby d1_83) rfl ?_
          refine XS.iconst X30.here hx rfl (hb hby d1_85) ?_
          refine XS.iadd X30.here hx rfl (hb hby d1_86) rfl ?_
          refine XS.istoreN X30.here hx rfl (hb hby d1_87) rfl (l' := #[.val (.ref a1), .val (.ref b4), .val (.int 1), .val (.int 5), .val (.int 4)]) rfl ?_
          refine XS.goto X30.here hx rfl (pc0 := 88) (pc' := 19) rfl (hb hby d1_88) (by decide) (by decide) ?_
          refine XS.iloadN X30.here hx rfl (hb hby d1_19) rfl ?_
          refine XS.aloadN X30.here hx rfl (hb hby d1_20) rfl rfl ?_
          refine X30.arraylength hx (by rw [e30]; exact Ar54.1) (State.isArrayOf_alike hZ.alike Ar54.2.1) (g := (mkF m 21 #[.val (.ref a1), .val (.ref b4), .val (.int 1), .val (.int 5), .val (.int 4)] [(.ref a1), (.int 5)])) rfl rfl (hb hby d1_21) _ ?_
          rw [len_of S54 N54']
          refine XS.icmpYes X30.here hx rfl (pc0 := 22) (pc' := 91) rfl (hb hby d1_22) rfl (flt (own_ge4 hn (by decide))).2.1 (by decide) (by decide) ?_
          refine XS.aloadN X30.here hx rfl (hb hby d1_91) rfl rfl ?_
          show Steps p.tables e below (T30.setTop (mkF m 92 #[.val (.ref a1), .val (.ref b4), .val (.int 1), .val (.int 5), .val (.int 4)] [(.ref b4)])) _
          jvm_step X30.here [X30.here.top, hx, (hb hby d1_92), X30.method', Bd.returns, Value.isRef, FieldType.isReference]
          first | (intro acts; rw [hr _ acts rfl rfl rfl]) | rw [hr _ _ rfl rfl rfl]
          exact Steps.refl _
        · show Q_rmSplit Z a1 nn b0 b1 b2 b3 kk w_DEF kD h0 n0 _ T30.heap _
          rw [e30]
          exact ⟨b4, rfl, N30, K7, g_b4, sz_b4, f55, (by rw [hsp]; exact p7_2), (by rw [hsp]; exact own_lines0)⟩
      ·skip
       obtain ⟨cl57, Ar57, -, S57, N57', -, -⟩ := id f9
       have pre58 : ∀ t, Steps p.tables e below (T7.setTop (mkF m 35 #[.val (.ref a1), .val (.ref b4), .val (.int 1), .val (.int 0), .val (.int 3)] [(.int nn), (.int 3)])) t → Steps p.tables e below (s₁.setTop (entryFrame m #[(.ref a1)] 5)) t := fun t k => pre25 t (by
         refine XS.iload X7.here hx rfl (hb hby d1_31) rfl ?_
         refine XS.aloadN X7.here hx rfl (hb hby d1_33) rfl rfl ?_
         refine X7.arraylength hx Ar57.1 (State.isArrayOf_alike hZ.alike Ar57.2.1) (g := (mkF m 34 #[.val (.ref a1), .val (.ref b4), .val (.int 1), .val (.int 0), .val (.int 3)] [(.ref a1), (.int 3)])) rfl rfl (hb hby d1_34) _ ?_
         rw [len_of S57 N57']
         exact k)
       obtain ⟨LJ59, TJ59, XJ59, NJ59, eJ59, pre59⟩ : ∃ (LL : List Loc) (T' : State), Stand p l e ({ frames := 5, cells := 6, slots := 39, locals := 69 } : Room) (s.setVm T2.vm) m #[(.ref a1)] below meth c T' LL 3 23 ∧ Fr n0 LL ∧ T'.heap = T7.heap ∧ ∀ t, Steps p.tables e below (T'.setTop (mkF m 53 #[.val (.ref a1), .val (.ref b4), .val (.int 1), .val (.int 0), .val (.int 3)] [])) t → Steps p.tables e below (s₁.setTop (entryFrame m #[(.ref a1)] 5)) t := by
         by_cases hc60 : (3 : Int32) < nn
         ·skip
          obtain ⟨cl61, Ar61, q61, S61, N61', H61, G61⟩ := id f9
          have hin61 : ¬ ((3 : Int32) < 0 ∨ cl61.slots.size ≤ ((3 : Int32)).toNatClampNeg) := inb_of S61 ⟨by decide, hc60⟩
          have hat61 : cl61.slots[((3 : Int32)).toNatClampNeg]? = some (.int (own_b b0 b1 b2 b3 (3 : Int32))) := H61.at hin61 (own_is_getD _ _)
          refine ⟨_, _, X7, N7, rfl, fun t k => pre58 t ?_⟩
          refine XS.icmpNo X7.here hx rfl (hb hby d1_35) rfl (tlt hc60).2.1 ?_
          refine XS.aloadN X7.here hx rfl (hb hby d1_38) rfl rfl ?_
          refine XS.iload X7.here hx rfl (hb hby d1_39) rfl ?_
          refine X7.baloadBytes hx (j := (3 : Int32)) (v := (.int (own_b b0 b1 b2 b3 (3 : Int32)))) Ar61.1 (State.isArrayOf_alike hZ.alike Ar61.2.1) Ar61.2.2 hin61 hat61 (g := (mkF m 41 #[.val (.ref a1), .val (.ref b4), .val (.int 1), .val (.int 0), .val (.int 3)] [(.int 3), (.ref a1)])) rfl rfl (hb hby d1_41) _ ?_
          refine XS.bipush X7.here hx rfl (hb hby d1_42) ?_
          refine XS.icmpYes X7.here hx rfl (pc0 := 44) (pc' := 53) rfl (hb hby d1_44) rfl (teq (Decidable.byContradiction fun q => hc26 ⟨hc60, q⟩)).1 (by decide) (by decide) ?_
          exact k
         ·skip
          refine ⟨_, _, X7, N7, rfl, fun t k => pre58 t ?_⟩
          refine XS.icmpYes X7.here hx rfl (pc0 := 35) (pc' := 53) rfl (hb hby d1_35) rfl (flt hc60).2.1 (by decide) (by decide) ?_
          exact k
       obtain ⟨_, _, ⟨T62, L62, k62, n62⟩, -, X62, ⟨Lc62, hQ62, l62, y62, z62⟩, st62⟩ := Jvm.LawKit.callS XJ59 hx (y := (⟨"com/example/rank_keeper/rankkeeper/BodyLines", "isBlank", "([BII)Z"⟩ : MethodName)) hown (mvT hZ (kw66 hw)) (mvT hZ (kw67 hw)) (mvT hZ (kw3 hw)) (mvT hZ (kw68 hw)) (by decide) (backOf (W := 0) (rmBl_0 l Z a0 hw [] a1 (3 : Int32) nn b0 b1 b2 b3 kk T7.heap n0 Z7 f9 hn (own_lt1 hc22.1 (by decide))) hZ (kw68 hw) (kw3 hw) (by decide) (by decide)) (g := (mkF m 57 #[.val (.ref a1), .val (.ref b4), .val (.int 1), .val (.int 0), .val (.int 3)] [(.int 3), (.int 0), (.ref a1)])) rfl (by rw [hml]; rfl) (argsL := [(.ref a1), (.int 0), (.int 3)]) (rest := []) (lenOf pd_3 rfl) rfl (by show 2 * 0 + _ ≤ _; exact Nat.le_of_eq rfl) (hb hby d1_57) (fun _ _ => ⟨rfl, eJ59, (by decide : 3 + 0 ≤ _), (by decide : 23 + 0 ≤ _)⟩)
       dsimp only [Pt.U, Pt.locs, Pt.cells, Pt.slots] at X62 l62 y62 z62 st62 hQ62
       subst l62 y62 z62
       obtain ⟨rfl, N62q, e62⟩ := hQ62
       have N62 := Fr.app NJ59 N62q
       have pre63 : ∀ t, Steps p.tables e below (T62.setTop (mkF m 60 #[.val (.ref a1), .val (.ref b4), .val (.int 1), .val (.int 0), .val (.int 3)] [(.int (own_bl_0 b0 b1 b2 b3 (3 : Int32)))])) t → Steps p.tables e below (s₁.setTop (entryFrame m #[(.ref a1)] 5)) t := fun t k => pre59 t (by
         refine XS.aloadN XJ59.here hx rfl (hb hby d1_53) rfl rfl ?_
         refine XS.iloadN XJ59.here hx rfl (hb hby d1_54) rfl ?_
         refine XS.iload XJ59.here hx rfl (hb hby d1_55) rfl ?_
         refine st62 _ ?_
         exact k)
       by_cases hc64 : (own_bl_0 b0 b1 b2 b3 (3 : Int32)) = (0 : Int32)
       ·skip
        have f66 := (A4.keep Kq7)
        have f67 := ((f6.ext E4).keep Kq7 (ninS ne4_w_DEF nin0))
        obtain ⟨T65, h65, X65, e65, E65, A65, D65, -, st65⟩ := newO X62 hx hZ hown (kw69 hw) (kw70 hw) (kw71 hw) e62 (g := (mkF m 64 #[.val (.ref a1), .val (.ref b4), .val (.int 1), .val (.int 0), .val (.int 3)] [(.ref b4)])) rfl (hb hby d1_64) (by decide) (by decide)
        obtain ⟨b65, g65⟩ : ∃ z, z = T7.heap.size := ⟨_, rfl⟩
        rw [← g65] at A65 D65 st65
        have ne65_a1 : a1 ≠ b65 := Nat.ne_of_lt (Nat.lt_of_lt_of_le f9.lt (Nat.le_of_eq g65.symm))
        have ne65_b4 : b4 ≠ b65 := Nat.ne_of_lt (Nat.lt_of_lt_of_le f66.lt (Nat.le_of_eq g65.symm))
        have ne65_w_DEF : w_DEF ≠ b65 := Nat.ne_of_lt (Nat.lt_of_lt_of_le f67.lt (Nat.le_of_eq g65.symm))
        have g_b65 : n0 ≤ b65 := Nat.le_trans Z7 (Nat.le_of_eq g65.symm)
        have sz_b65 : h0.size ≤ b65 := Nat.le_trans K7.1 (Nat.le_of_eq g65.symm)
        have Z65 : n0 ≤ h65.size := Nat.le_trans Z7 E65.1
        have Y65 : kS2 ≤ h65.size := Nat.le_trans Y7 E65.1
        have K65 : Keep h0 h65 [] := K7.ext E65
        have F65_number : Fld Z h65 b65 "com/example/rank_keeper/rankkeeper/BodyLines$Line" "number" "I" (.int 0) := D65 (Or.inr (kw82 hw)) (ty := .int) (by decide)
        have F65_offset : Fld Z h65 b65 "com/example/rank_keeper/rankkeeper/BodyLines$Line" "offset" "I" (.int 0) := D65 (Or.inr (kw84 hw)) (ty := .int) (by decide)
        have F65_length : Fld Z h65 b65 "com/example/rank_keeper/rankkeeper/BodyLines$Line" "length" "I" (.int 0) := D65 (Or.inr (kw86 hw)) (ty := .int) (by decide)
        obtain ⟨_, _, ⟨T68, L68, k68, n68⟩, -, X68, ⟨Lc68, hQ68, l68, y68, z68⟩, st68⟩ := X65.specialBack hx (y := (⟨"com/example/rank_keeper/rankkeeper/BodyLines$Line", "<init>", "(III)V"⟩ : MethodName)) rfl hown (mvT hZ (kw72 hw)) (mvT hZ (kw73 hw)) (mvT hZ (kw74 hw)) (by decide) (backOf (W := 2) (rm13 l Z a0 hw [] b65 (1 : Int32) (0 : Int32) (3 : Int32) h65 n0 Z65 A65 g_b65 F65_number F65_offset F65_length) hZ (kw74 hw) (kw71 hw) (by decide) (by decide)) (g := (mkF m 74 #[.val (.ref a1), .val (.ref b4), .val (.int 1), .val (.int 0), .val (.int 3)] [(.int 3), (.int 0), (.int 1), (.ref b65), (.ref b65), (.ref b4)])) rfl (by rw [hml]; rfl) (Steps.refl _) (a := b65) (argsL := [(.int 1), (.int 0), (.int 3)]) (rest := [(.ref b65), (.ref b4)]) (lenOf pd_13 rfl) rfl (by show 2 * 0 + _ ≤ _; exact Nat.le_of_eq rfl) (hb hby d1_74) (fun _ _ => ⟨rfl, e65, (by decide : 4 + 0 ≤ _), (by decide : 26 + 0 ≤ _)⟩)
        dsimp only [Pt.U, Pt.locs, Pt.cells, Pt.slots] at X68 l68 y68 z68 st68 hQ68
        subst l68 y68 z68
        obtain ⟨rfl, N68q, Kq68, p68_0, p68_1, p68_2⟩ := hQ68
        have N68 := Fr.app N62 N68q
        have Z68 : n0 ≤ T68.heap.size := Nat.le_trans Z65 Kq68.1
        have Y68 : kS2 ≤ T68.heap.size := Nat.le_trans Y65 Kq68.1
        have K68 : Keep h0 T68.heap [] := K65.trans Kq68 (allS (Or.inr sz_b65) all0)
        have f70 := (((f8.keep Kq7 (allS g_b4 all0)).ext E65).keep Kq68 (allS g_b65 all0))
        have f71 := ((f66.ext E65).keep Kq68)
        have f72 := (A65.keep Kq68)
        have f73 := ((p7_1.ext E65).keep Kq68 (ninS ne65_b4 nin0))
        have f74 := ((p7_2.ext E65).keep Kq68 (ninS ne65_b4 nin0))
        have f75 := ((p7_0.ext E65).keep Kq68 (ninS ne65_b4 nin0))
        have f76 := ((f67.ext E65).keep Kq68 (ninS ne65_w_DEF nin0))
        have f77 := ((f9.ext E65).keep Kq68 (ninS ne65_a1 nin0))
        obtain ⟨cq69, kq69, q69a, q69b, q69c⟩ := isOf hZ rfl f71
        obtain ⟨_, _, ⟨T69, L69, k69, n69⟩, -, X69, ⟨Lc69, hQ69, l69, y69, z69⟩, st69⟩ := X68.interfaceBack hx (xi := (⟨"java/util/List", "add", "(Ljava/lang/Object;)Z"⟩ : MethodName)) (y := (⟨"java/util/ArrayList", "add", "(Ljava/lang/Object;)Z"⟩ : MethodName)) hown (mvT hZ (kw87 hw)) (mvT hZ (kw88 hw)) (mvT hZ (kw89 hw)) (mvT hZ (kw90 hw)) (mvT hZ (kw91 hw)) (mvT hZ (kw92 hw)) (mvT hZ (kw93 hw)) (mvT hZ (kw56 hw)) (by decide) (backOf (W := 0) (rmAdd0 l Z a0 hw [] b4 b65 w_DEF kD (0 : Int32) T68.heap n0 Z68 f70 P1 f71 g_b4 f72 f73 f74 f75 f76 ne4_w_DEF) hZ (kw94 hw) (kw18 hw) (by decide) (by decide)) q69a q69b q69c (g := (mkF m 77 #[.val (.ref a1), .val (.ref b4), .val (.int 1), .val (.int 0), .val (.int 3)] [(.ref b65), (.ref b4)])) rfl (by rw [hml]; rfl) (Steps.refl _) (argsL := [(.ref b65)]) (rest := []) (lenOf pd_14 rfl) rfl (by show 2 * 0 + _ ≤ _; exact Nat.le_of_eq rfl) (hb hby d1_77) (fun _ _ => ⟨rfl, rfl, (by decide : 4 + 1 ≤ _), (by decide : 26 + 10 ≤ _)⟩)
        dsimp only [Pt.U, Pt.locs, Pt.cells, Pt.slots] at X69 l69 y69 z69 st69 hQ69
        subst l69 y69 z69
        obtain ⟨ed_69, kd_69, rfl, N69q, Kq69, p69_0, p69_1, p69_2, p69_3, p69_4, p69_5, p69_6⟩ := hQ69
        have N69 := Fr.app N68 N69q
        have Z69 : n0 ≤ T69.heap.size := Nat.le_trans Z68 Kq69.1
        have Y69 : kS2 ≤ T69.heap.size := Nat.le_trans Y68 Kq69.1
        have K69 : Keep h0 T69.heap [] := K68.trans Kq69 (allS (Or.inr sz_b4) all0)
        have sz_ed_69 : h0.size ≤ ed_69 := Nat.le_trans K68.1 p69_1
        have ne69_a1_ed_69 : a1 ≠ ed_69 := Nat.ne_of_lt (Nat.lt_of_lt_of_le f77.lt p69_1)
        have ne69_b4_ed_69 : b4 ≠ ed_69 := Nat.ne_of_lt (Nat.lt_of_lt_of_le f71.lt p69_1)
        have ne69_b65_ed_69 : b65 ≠ ed_69 := Nat.ne_of_lt (Nat.lt_of_lt_of_le f72.lt p69_1)
        have ne69_w_DEF_ed_69 : w_DEF ≠ ed_69 := Nat.ne_of_lt (Nat.lt_of_lt_of_le f76.lt p69_1)
        have f78 := (f77.keep Kq69 (ninS ne4_a1 nin0))
        obtain ⟨cl79, Ar79, -, S79, N79', -, -⟩ := id f78
        have hsp : own_split nn b0 b1 b2 b3 = [((1 : Int32), (0 : Int32), (3 : Int32))] := by unfold own_split; rw [if_pos hc12, if_pos hc14, if_pos hc18, if_pos hc22, if_neg hc26, if_pos hc64]
        have f80 := (f71.keep Kq69)
        have f81 := (f72.keep Kq69)
        have f82 := (p68_0.keep Kq69 (ninS (Ne.symm ne65_b4) nin0))
        have f83 := (p68_1.keep Kq69 (ninS (Ne.symm ne65_b4) nin0))
        have f84 := (p68_2.keep Kq69 (ninS (Ne.symm ne65_b4) nin0))
        obtain ⟨fs, hr, hrun, hended, hRE⟩ := X69.leaveW hS2 Y69 (v := some (.ref b4)) (fun h => by rw [Bd.returns] at h; cases h)
        refine ⟨_, _, pre63 _ ?_, hrun, hended, _, _, rfl, ?_, hRE.1, hRE.2.1, hRE.2.2.1, hRE.2.2.2.mono (by decide) (by decide)⟩
        · skip
          refine XS.ifNo X62.here hx rfl (hb hby d1_60) rfl ((if0 _ _).trans (teq hc64).2) ?_
          refine XS.aloadN X62.here hx rfl (hb hby d1_63) rfl rfl ?_
          refine st65 _ ?_
          refine XS.dup X65.here hx rfl (hb hby d1_67) rfl rfl ?_
          refine XS.iloadN X65.here hx rfl (hb hby d1_68) rfl ?_
          refine XS.iloadN X65.here hx rfl (hb hby d1_69) rfl ?_
          refine XS.iload X65.here hx rfl (hb hby d1_70) rfl ?_
          refine XS.iloadN X65.here hx rfl (hb hby d1_72) rfl ?_
          refine XS.isub X65.here hx rfl (hb hby d1_73) rfl ?_
          refine st68.trans ?_
          refine st69.trans ?_
          refine XS.pop X69.here hx rfl (hb hby d1_82) rfl rfl ?_
          refine XS.iload X69.here hx rfl (hb hby d1_83) rfl ?_
          refine XS.iconst X69.here hx rfl (hb hby d1_85) ?_
          refine XS.iadd X69.here hx rfl (hb hby d1_86) rfl ?_
          refine XS.istoreN X69.here hx rfl (hb hby d1_87) rfl (l' := #[.val (.ref a1), .val (.ref b4), .val (.int 1), .val (.int 4), .val (.int 3)]) rfl ?_
          refine XS.goto X69.here hx rfl (pc0 := 88) (pc' := 19) rfl (hb hby d1_88) (by decide) (by decide) ?_
          refine XS.iloadN X69.here hx rfl (hb hby d1_19) rfl ?_
          refine XS.aloadN X69.here hx rfl (hb hby d1_20) rfl rfl ?_
          refine X69.arraylength hx Ar79.1 (State.isArrayOf_alike hZ.alike Ar79.2.1) (g := (mkF m 21 #[.val (.ref a1), .val (.ref b4), .val (.int 1), .val (.int 4), .val (.int 3)] [(.ref a1), (.int 4)])) rfl rfl (hb hby d1_21) _ ?_
          rw [len_of S79 N79']
          refine XS.icmpYes X69.here hx rfl (pc0 := 22) (pc' := 91) rfl (hb hby d1_22) rfl (flt (own_ge4 hn (by decide))).2.1 (by decide) (by decide) ?_
          refine XS.aloadN X69.here hx rfl (hb hby d1_91) rfl rfl ?_
          show Steps p.tables e below (T69.setTop (mkF m 92 #[.val (.ref a1), .val (.ref b4), .val (.int 1), .val (.int 4), .val (.int 3)] [(.ref b4)])) _
          jvm_step X69.here [X69.here.top, hx, (hb hby d1_92), X69.method', Bd.returns, Value.isRef, FieldType.isReference]
          first | (intro acts; rw [hr _ acts rfl rfl rfl]) | rw [hr _ _ rfl rfl rfl]
          exact Steps.refl _
        · show Q_rmSplit Z a1 nn b0 b1 b2 b3 kk w_DEF kD h0 n0 _ T69.heap _
          exact ⟨b4, rfl, N69, K69, g_b4, sz_b4, f80, (by rw [hsp]; exact p69_4), (by rw [hsp]; exact own_lines1 p69_5 p69_2 f81 f82 f83 f84)⟩
       ·skip
        obtain ⟨cl86, Ar86, -, S86, N86', -, -⟩ := id f9
        have hsp : own_split nn b0 b1 b2 b3 = [] := by unfold own_split; rw [if_pos hc12, if_pos hc14, if_pos hc18, if_pos hc22, if_neg hc26, if_neg hc64]
        have f87 := (A4.keep Kq7)
        obtain ⟨fs, hr, hrun, hended, hRE⟩ := X62.leaveW hS2 (by rw [e62]; exact Y7) (v := some (.ref b4)) (fun h => by rw [Bd.returns] at h; cases h)
        refine ⟨_, _, pre63 _ ?_, hrun, hended, _, _, rfl, ?_, hRE.1, hRE.2.1, hRE.2.2.1, hRE.2.2.2.mono (by decide) (by decide)⟩
        · skip
          refine XS.ifYes X62.here hx rfl (pc0 := 60) (pc' := 83) rfl (hb hby d1_60) rfl ((if0 _ _).trans (feq hc64).2) (by decide) (by decide) ?_
          refine XS.iload X62.here hx rfl (hb hby d1_83) rfl ?_
          refine XS.iconst X62.here hx rfl (hb hby d1_85) ?_
          refine XS.iadd X62.here hx rfl (hb hby d1_86) rfl ?_
          refine XS.istoreN X62.here hx rfl (hb hby d1_87) rfl (l' := #[.val (.ref a1), .val (.ref b4), .val (.int 1), .val (.int 4), .val (.int 3)]) rfl ?_
          refine XS.goto X62.here hx rfl (pc0 := 88) (pc' := 19) rfl (hb hby d1_88) (by decide) (by decide) ?_
          refine XS.iloadN X62.here hx rfl (hb hby d1_19) rfl ?_
          refine XS.aloadN X62.here hx rfl (hb hby d1_20) rfl rfl ?_
          refine X62.arraylength hx (by rw [e62]; exact Ar86.1) (State.isArrayOf_alike hZ.alike Ar86.2.1) (g := (mkF m 21 #[.val (.ref a1), .val (.ref b4), .val (.int 1), .val (.int 4), .val (.int 3)] [(.ref a1), (.int 4)])) rfl rfl (hb hby d1_21) _ ?_
          rw [len_of S86 N86']
          refine XS.icmpYes X62.here hx rfl (pc0 := 22) (pc' := 91) rfl (hb hby d1_22) rfl (flt (own_ge4 hn (by decide))).2.1 (by decide) (by decide) ?_
          refine XS.aloadN X62.here hx rfl (hb hby d1_91) rfl rfl ?_
          show Steps p.tables e below (T62.setTop (mkF m 92 #[.val (.ref a1), .val (.ref b4), .val (.int 1), .val (.int 4), .val (.int 3)] [(.ref b4)])) _
          jvm_step X62.here [X62.here.top, hx, (hb hby d1_92), X62.method', Bd.returns, Value.isRef, FieldType.isReference]
          first | (intro acts; rw [hr _ acts rfl rfl rfl]) | rw [hr _ _ rfl rfl rfl]
          exact Steps.refl _
        · show Q_rmSplit Z a1 nn b0 b1 b2 b3 kk w_DEF kD h0 n0 _ T62.heap _
          rw [e62]
          exact ⟨b4, rfl, N62, K7, g_b4, sz_b4, f87, (by rw [hsp]; exact p7_2), (by rw [hsp]; exact own_lines0)⟩
     ·skip
      obtain ⟨cl89, Ar89, -, S89, N89', -, -⟩ := id f9
      have pre90 : ∀ t, Steps p.tables e below (T7.setTop (mkF m 35 #[.val (.ref a1), .val (.ref b4), .val (.int 1), .val (.int 0), .val (.int 2)] [(.int nn), (.int 2)])) t → Steps p.tables e below (s₁.setTop (entryFrame m #[(.ref a1)] 5)) t := fun t k => pre21 t (by
        refine XS.iload X7.here hx rfl (hb hby d1_31) rfl ?_
        refine XS.aloadN X7.here hx rfl (hb hby d1_33) rfl rfl ?_
        refine X7.arraylength hx Ar89.1 (State.isArrayOf_alike hZ.alike Ar89.2.1) (g := (mkF m 34 #[.val (.ref a1), .val (.ref b4), .val (.int 1), .val (.int 0), .val (.int 2)] [(.ref a1), (.int 2)])) rfl rfl (hb hby d1_34) _ ?_
        rw [len_of S89 N89']
        exact k)
      obtain ⟨LJ91, TJ91, XJ91, NJ91, eJ91, pre91⟩ : ∃ (LL : List Loc) (T' : State), Stand p l e ({ frames := 5, cells := 6, slots := 39, locals := 69 } : Room) (s.setVm T2.vm) m #[(.ref a1)] below meth c T' LL 3 23 ∧ Fr n0 LL ∧ T'.heap = T7.heap ∧ ∀ t, Steps p.tables e below (T'.setTop (mkF m 53 #[.val (.ref a1), .val (.ref b4), .val (.int 1), .val (.int 0), .val (.int 2)] [])) t → Steps p.tables e below (s₁.setTop (entryFrame m #[(.ref a1)] 5)) t := by
        by_cases hc92 : (2 : Int32) < nn
        ·skip
         obtain ⟨cl93, Ar93, q93, S93, N93', H93, G93⟩ := id f9
         have hin93 : ¬ ((2 : Int32) < 0 ∨ cl93.slots.size ≤ ((2 : Int32)).toNatClampNeg) := inb_of S93 ⟨by decide, hc92⟩
         have hat93 : cl93.slots[((2 : Int32)).toNatClampNeg]? = some (.int (own_b b0 b1 b2 b3 (2 : Int32))) := H93.at hin93 (own_is_getD _ _)
         refine ⟨_, _, X7, N7, rfl, fun t k => pre90 t ?_⟩
         refine XS.icmpNo X7.here hx rfl (hb hby d1_35) rfl (tlt hc92).2.1 ?_
         refine XS.aloadN X7.here hx rfl (hb hby d1_38) rfl rfl ?_
         refine XS.iload X7.here hx rfl (hb hby d1_39) rfl ?_
         refine X7.baloadBytes hx (j := (2 : Int32)) (v := (.int (own_b b0 b1 b2 b3 (2 : Int32)))) Ar93.1 (State.isArrayOf_alike hZ.alike Ar93.2.1) Ar93.2.2 hin93 hat93 (g := (mkF m 41 #[.val (.ref a1), .val (.ref b4), .val (.int 1), .val (.int 0), .val (.int 2)] [(.int 2), (.ref a1)])) rfl rfl (hb hby d1_41) _ ?_
         refine XS.bipush X7.here hx rfl (hb hby d1_42) ?_
         refine XS.icmpYes X7.here hx rfl (pc0 := 44) (pc' := 53) rfl (hb hby d1_44) rfl (teq (Decidable.byContradiction fun q => hc22 ⟨hc92, q⟩)).1 (by decide) (by decide) ?_
         exact k
        ·skip
         refine ⟨_, _, X7, N7, rfl, fun t k => pre90 t ?_⟩
         refine XS.icmpYes X7.here hx rfl (pc0 := 35) (pc' := 53) rfl (hb hby d1_35) rfl (flt hc92).2.1 (by decide) (by decide) ?_
         exact k
      obtain ⟨_, _, ⟨T94, L94, k94, n94⟩, -, X94, ⟨Lc94, hQ94, l94, y94, z94⟩, st94⟩ := Jvm.LawKit.callS XJ91 hx (y := (⟨"com/example/rank_keeper/rankkeeper/BodyLines", "isBlank", "([BII)Z"⟩ : MethodName)) hown (mvT hZ (kw66 hw)) (mvT hZ (kw67 hw)) (mvT hZ (kw3 hw)) (mvT hZ (kw68 hw)) (by decide) (backOf (W := 0) (rmBl_0 l Z a0 hw [] a1 (2 : Int32) nn b0 b1 b2 b3 kk T7.heap n0 Z7 f9 hn (own_lt1 hc18.1 (by decide))) hZ (kw68 hw) (kw3 hw) (by decide) (by decide)) (g := (mkF m 57 #[.val (.ref a1), .val (.ref b4), .val (.int 1), .val (.int 0), .val (.int 2)] [(.int 2), (.int 0), (.ref a1)])) rfl (by rw [hml]; rfl) (argsL := [(.ref a1), (.int 0), (.int 2)]) (rest := []) (lenOf pd_3 rfl) rfl (by show 2 * 0 + _ ≤ _; exact Nat.le_of_eq rfl) (hb hby d1_57) (fun _ _ => ⟨rfl, eJ91, (by decide : 3 + 0 ≤ _), (by decide : 23 + 0 ≤ _)⟩)
      dsimp only [Pt.U, Pt.locs, Pt.cells, Pt.slots] at X94 l94 y94 z94 st94 hQ94
      subst l94 y94 z94
      obtain ⟨rfl, N94q, e94⟩ := hQ94
      have N94 := Fr.app NJ91 N94q
      have pre95 : ∀ t, Steps p.tables e below (T94.setTop (mkF m 60 #[.val (.ref a1), .val (.ref b4), .val (.int 1), .val (.int 0), .val (.int 2)] [(.int (own_bl_0 b0 b1 b2 b3 (2 : Int32)))])) t → Steps p.tables e below (s₁.setTop (entryFrame m #[(.ref a1)] 5)) t := fun t k => pre91 t (by
        refine XS.aloadN XJ91.here hx rfl (hb hby d1_53) rfl rfl ?_
        refine XS.iloadN XJ91.here hx rfl (hb hby d1_54) rfl ?_
        refine XS.iload XJ91.here hx rfl (hb hby d1_55) rfl ?_
        refine st94 _ ?_
        exact k)
      by_cases hc96 : (own_bl_0 b0 b1 b2 b3 (2 : Int32)) = (0 : Int32)
      ·skip
       have f98 := (A4.keep Kq7)
       have f99 := ((f6.ext E4).keep Kq7 (ninS ne4_w_DEF nin0))
       obtain ⟨T97, h97, X97, e97, E97, A97, D97, -, st97⟩ := newO X94 hx hZ hown (kw69 hw) (kw70 hw) (kw71 hw) e94 (g := (mkF m 64 #[.val (.ref a1), .val (.ref b4), .val (.int 1), .val (.int 0), .val (.int 2)] [(.ref b4)])) rfl (hb hby d1_64) (by decide) (by decide)
       obtain ⟨b97, g97⟩ : ∃ z, z = T7.heap.size := ⟨_, rfl⟩
       rw [← g97] at A97 D97 st97
       have ne97_a1 : a1 ≠ b97 := Nat.ne_of_lt (Nat.lt_of_lt_of_le f9.lt (Nat.le_of_eq g97.symm))
       have ne97_b4 : b4 ≠ b97 := Nat.ne_of_lt (Nat.lt_of_lt_of_le f98.lt (Nat.le_of_eq g97.symm))
       have ne97_w_DEF : w_DEF ≠ b97 := Nat.ne_of_lt (Nat.lt_of_lt_of_le f99.lt (Nat.le_of_eq g97.symm))
       have g_b97 : n0 ≤ b97 := Nat.le_trans Z7 (Nat.le_of_eq g97.symm)
       have sz_b97 : h0.size ≤ b97 := Nat.le_trans K7.1 (Nat.le_of_eq g97.symm)
       have Z97 : n0 ≤ h97.size := Nat.le_trans Z7 E97.1
       have Y97 : kS2 ≤ h97.size := Nat.le_trans Y7 E97.1
       have K97 : Keep h0 h97 [] := K7.ext E97
       have F97_number : Fld Z h97 b97 "com/example/rank_keeper/rankkeeper/BodyLines$Line" "number" "I" (.int 0) := D97 (Or.inr (kw82 hw)) (ty := .int) (by decide)
       have F97_offset : Fld Z h97 b97 "com/example/rank_keeper/rankkeeper/BodyLines$Line" "offset" "I" (.int 0) := D97 (Or.inr (kw84 hw)) (ty := .int) (by decide)
       have F97_length : Fld Z h97 b97 "com/example/rank_keeper/rankkeeper/BodyLines$Line" "length" "I" (.int 0) := D97 (Or.inr (kw86 hw)) (ty := .int) (by decide)
       obtain ⟨_, _, ⟨T100, L100, k100, n100⟩, -, X100, ⟨Lc100, hQ100, l100, y100, z100⟩, st100⟩ := X97.specialBack hx (y := (⟨"com/example/rank_keeper/rankkeeper/BodyLines$Line", "<init>", "(III)V"⟩ : MethodName)) rfl hown (mvT hZ (kw72 hw)) (mvT hZ (kw73 hw)) (mvT hZ (kw74 hw)) (by decide) (backOf (W := 2) (rm13 l Z a0 hw [] b97 (1 : Int32) (0 : Int32) (2 : Int32) h97 n0 Z97 A97 g_b97 F97_number F97_offset F97_length) hZ (kw74 hw) (kw71 hw) (by decide) (by decide)) (g := (mkF m 74 #[.val (.ref a1), .val (.ref b4), .val (.int 1), .val (.int 0), .val (.int 2)] [(.int 2), (.int 0), (.int 1), (.ref b97), (.ref b97), (.ref b4)])) rfl (by rw [hml]; rfl) (Steps.refl _) (a := b97) (argsL := [(.int 1), (.int 0), (.int 2)]) (rest := [(.ref b97), (.ref b4)]) (lenOf pd_13 rfl) rfl (by show 2 * 0 + _ ≤ _; exact Nat.le_of_eq rfl) (hb hby d1_74) (fun _ _ => ⟨rfl, e97, (by decide : 4 + 0 ≤ _), (by decide : 26 + 0 ≤ _)⟩)
       dsimp only [Pt.U, Pt.locs, Pt.cells, Pt.slots] at X100 l100 y100 z100 st100 hQ100
       subst l100 y100 z100
       obtain ⟨rfl, N100q, Kq100, p100_0, p100_1, p100_2⟩ := hQ100
       have N100 := Fr.app N94 N100q
       have Z100 : n0 ≤ T100.heap.size := Nat.le_trans Z97 Kq100.1
       have Y100 : kS2 ≤ T100.heap.size := Nat.le_trans Y97 Kq100.1
       have K100 : Keep h0 T100.heap [] := K97.trans Kq100 (allS (Or.inr sz_b97) all0)
       have f102 := (((f8.keep Kq7 (allS g_b4 all0)).ext E97).keep Kq100 (allS g_b97 all0))
       have f103 := ((f98.ext E97).keep Kq100)
       have f104 := (A97.keep Kq100)
       have f105 := ((p7_1.ext E97).keep Kq100 (ninS ne97_b4 nin0))
       have f106 := ((p7_2.ext E97).keep Kq100 (ninS ne97_b4 nin0))
       have f107 := ((p7_0.ext E97).keep Kq100 (ninS ne97_b4 nin0))
       have f108 := ((f99.ext E97).keep Kq100 (ninS ne97_w_DEF nin0))
       have f109 := ((f9.ext E97).keep Kq100 (ninS ne97_a1 nin0))
       obtain ⟨cq101, kq101, q101a, q101b, q101c⟩ := isOf hZ rfl f103
       obtain ⟨_, _, ⟨T101, L101, k101, n101⟩, -, X101, ⟨Lc101, hQ101, l101, y101, z101⟩, st101⟩ := X100.interfaceBack hx (xi := (⟨"java/util/List", "add", "(Ljava/lang/Object;)Z"⟩ : MethodName)) (y := (⟨"java/util/ArrayList", "add", "(Ljava/lang/Object;)Z"⟩ : MethodName)) hown (mvT hZ (kw87 hw)) (mvT hZ (kw88 hw)) (mvT hZ (kw89 hw)) (mvT hZ (kw90 hw)) (mvT hZ (kw91 hw)) (mvT hZ (kw92 hw)) (mvT hZ (kw93 hw)) (mvT hZ (kw56 hw)) (by decide) (backOf (W := 0) (rmAdd0 l Z a0 hw [] b4 b97 w_DEF kD (0 : Int32) T100.heap n0 Z100 f102 P1 f103 g_b4 f104 f105 f106 f107 f108 ne4_w_DEF) hZ (kw94 hw) (kw18 hw) (by decide) (by decide)) q101a q101b q101c (g := (mkF m 77 #[.val (.ref a1), .val (.ref b4), .val (.int 1), .val (.int 0), .val (.int 2)] [(.ref b97), (.ref b4)])) rfl (by rw [hml]; rfl) (Steps.refl _) (argsL := [(.ref b97)]) (rest := []) (lenOf pd_14 rfl) rfl (by show 2 * 0 + _ ≤ _; exact Nat.le_of_eq rfl) (hb hby d1_77) (fun _ _ => ⟨rfl, rfl, (by decide : 4 + 1 ≤ _), (by decide : 26 + 10 ≤ _)⟩)
       dsimp only [Pt.U, Pt.locs, Pt.cells, Pt.slots] at X101 l101 y101 z101 st101 hQ101
       subst l101 y101 z101
       obtain ⟨ed_101, kd_101, rfl, N101q, Kq101, p101_0, p101_1, p101_2, p101_3, p101_4, p101_5, p101_6⟩ := hQ101
       have N101 := Fr.app N100 N101q
       have Z101 : n0 ≤ T101.heap.size := Nat.le_trans Z100 Kq101.1
       have Y101 : kS2 ≤ T101.heap.size := Nat.le_trans Y100 Kq101.1
       have K101 : Keep h0 T101.heap [] := K100.trans Kq101 (allS (Or.inr sz_b4) all0)
       have sz_ed_101 : h0.size ≤ ed_101 := Nat.le_trans K100.1 p101_1
       have ne101_a1_ed_101 : a1 ≠ ed_101 := Nat.ne_of_lt (Nat.lt_of_lt_of_le f109.lt p101_1)
       have ne101_b4_ed_101 : b4 ≠ ed_101 := Nat.ne_of_lt (Nat.lt_of_lt_of_le f103.lt p101_1)
       have ne101_b97_ed_101 : b97 ≠ ed_101 := Nat.ne_of_lt (Nat.lt_of_lt_of_le f104.lt p101_1)
       have ne101_w_DEF_ed_101 : w_DEF ≠ ed_101 := Nat.ne_of_lt (Nat.lt_of_lt_of_le f108.lt p101_1)
       have f110 := (f109.keep Kq101 (ninS ne4_a1 nin0))
       obtain ⟨cl111, Ar111, -, S111, N111', -, -⟩ := id f110
       have pre112 : ∀ t, Steps p.tables e below (T101.setTop (mkF m 22 #[.val (.ref a1), .val (.ref b4), .val (.int 1), .val (.int 3), .val (.int 2)] [(.int nn), (.int 3)])) t → Steps p.tables e below (s₁.setTop (entryFrame m #[(.ref a1)] 5)) t := fun t k => pre95 t (by
         refine XS.ifNo X94.here hx rfl (hb hby d1_60) rfl ((if0 _ _).trans (teq hc96).2) ?_
         refine XS.aloadN X94.here hx rfl (hb hby d1_63) rfl rfl ?_
         refine st97 _ ?_
         refine XS.dup X97.here hx rfl (hb hby d1_67) rfl rfl ?_
         refine XS.iloadN X97.here hx rfl (hb hby d1_68) rfl ?_
         refine XS.iloadN X97.here hx rfl (hb hby d1_69) rfl ?_
         refine XS.iload X97.here hx rfl (hb hby d1_70) rfl ?_
         refine XS.iloadN X97.here hx rfl (hb hby d1_72) rfl ?_
         refine XS.isub X97.here hx rfl (hb hby d1_73) rfl ?_
         refine st100.trans ?_
         refine st101.trans ?_
         refine XS.pop X101.here hx rfl (hb hby d1_82) rfl rfl ?_
         refine XS.iload X101.here hx rfl (hb hby d1_83) rfl ?_
         refine XS.iconst X101.here hx rfl (hb hby d1_85) ?_
         refine XS.iadd X101.here hx rfl (hb hby d1_86) rfl ?_
         refine XS.istoreN X101.here hx rfl (hb hby d1_87) rfl (l' := #[.val (.ref a1), .val (.ref b4), .val (.int 1), .val (.int 3), .val (.int 2)]) rfl ?_
         refine XS.goto X101.here hx rfl (pc0 := 88) (pc' := 19) rfl (hb hby d1_88) (by decide) (by decide) ?_
         refine XS.iloadN X101.here hx rfl (hb hby d1_19) rfl ?_
         refine XS.aloadN X101.here hx rfl (hb hby d1_20) rfl rfl ?_
         refine X101.arraylength hx Ar111.1 (State.isArrayOf_alike hZ.alike Ar111.2.1) (g := (mkF m 21 #[.val (.ref a1), .val (.ref b4), .val (.int 1), .val (.int 3), .val (.int 2)] [(.ref a1), (.int 3)])) rfl rfl (hb hby d1_21) _ ?_
         rw [len_of S111 N111']
         exact k)
       by_cases hc113 : (3 : Int32) < nn
       ·skip
        have pre114 : ∀ t, Steps p.tables e below (T101.setTop (mkF m 31 #[.val (.ref a1), .val (.ref b4), .val (.int 2), .val (.int 3), .val (.int 3)] [])) t → Steps p.tables e below (s₁.setTop (entryFrame m #[(.ref a1)] 5)) t := fun t k => pre112 t (by
          refine XS.icmpNo X101.here hx rfl (hb hby d1_22) rfl (tlt hc113).2.1 ?_
          refine XS.iinc X101.here hx rfl (hb hby d1_25) rfl (l' := #[.val (.ref a1), .val (.ref b4), .val (.int 2), .val (.int 3), .val (.int 2)]) rfl ?_
          refine XS.iloadN X101.here hx rfl (hb hby d1_28) rfl ?_
          refine XS.istore X101.here hx rfl (hb hby d1_29) rfl (l' := #[.val (.ref a1), .val (.ref b4), .val (.int 2), .val (.int 3), .val (.int 3)]) rfl ?_
          exact k)
        by_cases hc115 : (3 : Int32) < nn ∧ ¬ (own_b b0 b1 b2 b3 (3 : Int32)) = (10 : Int32)
        ·skip
         obtain ⟨cl116, Ar116, -, S116, N116', -, -⟩ := id f110
         obtain ⟨cl117, Ar117, q117, S117, N117', H117, G117⟩ := id f110
         have hin117 : ¬ ((3 : Int32) < 0 ∨ cl117.slots.size ≤ ((3 : Int32)).toNatClampNeg) := inb_of S117 ⟨by decide, hc115.1⟩
         have hat117 : cl117.slots[((3 : Int32)).toNatClampNeg]? = some (.int (own_b b0 b1 b2 b3 (3 : Int32))) := H117.at hin117 (own_is_getD _ _)
         obtain ⟨cl118, Ar118, -, S118, N118', -, -⟩ := id f110
         obtain ⟨_, _, ⟨T119, L119, k119, n119⟩, -, X119, ⟨Lc119, hQ119, l119, y119, z119⟩, st119⟩ := Jvm.LawKit.callS X101 hx (y := (⟨"com/example/rank_keeper/rankkeeper/BodyLines", "isBlank", "([BII)Z"⟩ : MethodName)) hown (mvT hZ (kw66 hw)) (mvT hZ (kw67 hw)) (mvT hZ (kw3 hw)) (mvT hZ (kw68 hw)) (by decide) (backOf (W := 0) (rmBl_3 l Z a0 hw [] a1 (4 : Int32) nn b0 b1 b2 b3 kk T101.heap n0 Z101 f110 hn (own_lt1 hc115.1 (by decide))) hZ (kw68 hw) (kw3 hw) (by decide) (by decide)) (g := (mkF m 57 #[.val (.ref a1), .val (.ref b4), .val (.int 2), .val (.int 3), .val (.int 4)] [(.int 4), (.int 3), (.ref a1)])) rfl (by rw [hml]; rfl) (argsL := [(.ref a1), (.int 3), (.int 4)]) (rest := []) (lenOf pd_3 rfl) rfl (by show 2 * 0 + _ ≤ _; exact Nat.le_of_eq rfl) (hb hby d1_57) (fun _ _ => ⟨rfl, rfl, (by decide : 5 + 0 ≤ _), (by decide : 36 + 0 ≤ _)⟩)
         dsimp only [Pt.U, Pt.locs, Pt.cells, Pt.slots] at X119 l119 y119 z119 st119 hQ119
         subst l119 y119 z119
         obtain ⟨rfl, N119q, e119⟩ := hQ119
         have N119 := Fr.app N101 N119q
         have pre120 : ∀ t, Steps p.tables e below (T119.setTop (mkF m 60 #[.val (.ref a1), .val (.ref b4), .val (.int 2), .val (.int 3), .val (.int 4)] [(.int (own_bl_3 b0 b1 b2 b3 (4 : Int32)))])) t → Steps p.tables e below (s₁.setTop (entryFrame m #[(.ref a1)] 5)) t := fun t k => pre114 t (by
           refine XS.iload X101.here hx rfl (hb hby d1_31) rfl ?_
           refine XS.aloadN X101.here hx rfl (hb hby d1_33) rfl rfl ?_
           refine X101.arraylength hx Ar116.1 (State.isArrayOf_alike hZ.alike Ar116.2.1) (g := (mkF m 34 #[.val (.ref a1), .val (.ref b4), .val (.int 2), .val (.int 3), .val (.int 3)] [(.ref a1), (.int 3)])) rfl rfl (hb hby d1_34) _ ?_
           rw [len_of S116 N116']
           refine XS.icmpNo X101.here hx rfl (hb hby d1_35) rfl (tlt hc115.1).2.1 ?_
           refine XS.aloadN X101.here hx rfl (hb hby d1_38) rfl rfl ?_
           refine XS.iload X101.here hx rfl (hb hby d1_39) rfl ?_
           refine X101.baloadBytes hx (j := (3 : Int32)) (v := (.int (own_b b0 b1 b2 b3 (3 : Int32)))) Ar117.1 (State.isArrayOf_alike hZ.alike Ar117.2.1) Ar117.2.2 hin117 hat117 (g := (mkF m 41 #[.val (.ref a1), .val (.ref b4), .val (.int 2), .val (.int 3), .val (.int 3)] [(.int 3), (.ref a1)])) rfl rfl (hb hby d1_41) _ ?_
           refine XS.bipush X101.here hx rfl (hb hby d1_42) ?_
           refine XS.icmpNo X101.here hx rfl (hb hby d1_44) rfl (feq hc115.2).1 ?_
           refine XS.iinc X101.here hx rfl (hb hby d1_47) rfl (l' := #[.val (.ref a1), .val (.ref b4), .val (.int 2), .val (.int 3), .val (.int 4)]) rfl ?_
           refine XS.goto X101.here hx rfl (pc0 := 50) (pc' := 31) rfl (hb hby d1_50) (by decide) (by decide) ?_
           refine XS.iload X101.here hx rfl (hb hby d1_31) rfl ?_
           refine XS.aloadN X101.here hx rfl (hb hby d1_33) rfl rfl ?_
           refine X101.arraylength hx Ar118.1 (State.isArrayOf_alike hZ.alike Ar118.2.1) (g := (mkF m 34 #[.val (.ref a1), .val (.ref b4), .val (.int 2), .val (.int 3), .val (.int 4)] [(.ref a1), (.int 4)])) rfl rfl (hb hby d1_34) _ ?_
           rw [len_of S118 N118']
           refine XS.icmpYes X101.here hx rfl (pc0 := 35) (pc' := 53) rfl (hb hby d1_35) rfl (flt (own_ge4 hn (by decide))).2.1 (by decide) (by decide) ?_
           refine XS.aloadN X101.here hx rfl (hb hby d1_53) rfl rfl ?_
           refine XS.iloadN X101.here hx rfl (hb hby d1_54) rfl ?_
           refine XS.iload X101.here hx rfl (hb hby d1_55) rfl ?_
           refine st119 _ ?_
           exact k)
         by_cases hc121 : (own_bl_3 b0 b1 b2 b3 (4 : Int32)) = (0 : Int32)
         ·skip
          have f123 := (f103.keep Kq101)
          have f124 := (f104.keep Kq101)
          have f125 := (f108.keep Kq101 (ninS ne4_w_DEF nin0))
          obtain ⟨T122, h122, X122, e122, E122, A122, D122, -, st122⟩ := newO X119 hx hZ hown (kw69 hw) (kw70 hw) (kw71 hw) e119 (g := (mkF m 64 #[.val (.ref a1), .val (.ref b4), .val (.int 2), .val (.int 3), .val (.int 4)] [(.ref b4)])) rfl (hb hby d1_64) (by decide) (by decide)
          obtain ⟨b122, g122⟩ : ∃ z, z = T101.heap.size := ⟨_, rfl⟩
          rw [← g122] at A122 D122 st122
          have ne122_a1 : a1 ≠ b122 := Nat.ne_of_lt (Nat.lt_of_lt_of_le f110.lt (Nat.le_of_eq g122.symm))
          have ne122_b4 : b4 ≠ b122 := Nat.ne_of_lt (Nat.lt_of_lt_of_le f123.lt (Nat.le_of_eq g122.symm))
          have ne122_b97 : b97 ≠ b122 := Nat.ne_of_lt (Nat.lt_of_lt_of_le f124.lt (Nat.le_of_eq g122.symm))
          have ne122_ed_101 : ed_101 ≠ b122 := Nat.ne_of_lt (Nat.lt_of_lt_of_le p101_2.lt (Nat.le_of_eq g122.symm))
          have ne122_w_DEF : w_DEF ≠ b122 := Nat.ne_of_lt (Nat.lt_of_lt_of_le f125.lt (Nat.le_of_eq g122.symm))
          have g_b122 : n0 ≤ b122 := Nat.le_trans Z101 (Nat.le_of_eq g122.symm)
          have sz_b122 : h0.size ≤ b122 := Nat.le_trans K101.1 (Nat.le_of_eq g122.symm)
          have Z122 : n0 ≤ h122.size := Nat.le_trans Z101 E122.1
          have Y122 : kS2 ≤ h122.size := Nat.le_trans Y101 E122.1
          have K122 : Keep h0 h122 [] := K101.ext E122
          have F122_number : Fld Z h122 b122 "com/example/rank_keeper/rankkeeper/BodyLines$Line" "number" "I" (.int 0) := D122 (Or.inr (kw82 hw)) (ty := .int) (by decide)
          have F122_offset : Fld Z h122 b122 "com/example/rank_keeper/rankkeeper/BodyLines$Line" "offset" "I" (.int 0) := D122 (Or.inr (kw84 hw)) (ty := .int) (by decide)
          have F122_length : Fld Z h122 b122 "com/example/rank_keeper/rankkeeper/BodyLines$Line" "length" "I" (.int 0) := D122 (Or.inr (kw86 hw)) (ty := .int) (by decide)
          obtain ⟨_, _, ⟨T126, L126, k126, n126⟩, -, X126, ⟨Lc126, hQ126, l126, y126, z126⟩, st126⟩ := X122.specialBack hx (y := (⟨"com/example/rank_keeper/rankkeeper/BodyLines$Line", "<init>", "(III)V"⟩ : MethodName)) rfl hown (mvT hZ (kw72 hw)) (mvT hZ (kw73 hw)) (mvT hZ (kw74 hw)) (by decide) (backOf (W := 2) (rm13 l Z a0 hw [] b122 (2 : Int32) (3 : Int32) (1 : Int32) h122 n0 Z122 A122 g_b122 F122_number F122_offset F122_length) hZ (kw74 hw) (kw71 hw) (by decide) (by decide)) (g := (mkF m 74 #[.val (.ref a1), .val (.ref b4), .val (.int 2), .val (.int 3), .val (.int 4)] [(.int 1), (.int 3), (.int 2), (.ref b122), (.ref b122), (.ref b4)])) rfl (by rw [hml]; rfl) (Steps.refl _) (a := b122) (argsL := [(.int 2), (.int 3), (.int 1)]) (rest := [(.ref b122), (.ref b4)]) (lenOf pd_13 rfl) rfl (by show 2 * 0 + _ ≤ _; exact Nat.le_of_eq rfl) (hb hby d1_74) (fun _ _ => ⟨rfl, e122, (by decide : 6 + 0 ≤ _), (by decide : 39 + 0 ≤ _)⟩)
          dsimp only [Pt.U, Pt.locs, Pt.cells, Pt.slots] at X126 l126 y126 z126 st126 hQ126
          subst l126 y126 z126
          obtain ⟨rfl, N126q, Kq126, p126_0, p126_1, p126_2⟩ := hQ126
          have N126 := Fr.app N119 N126q
          have Z126 : n0 ≤ T126.heap.size := Nat.le_trans Z122 Kq126.1
          have Y126 : kS2 ≤ T126.heap.size := Nat.le_trans Y122 Kq126.1
          have K126 : Keep h0 T126.heap [] := K122.trans Kq126 (allS (Or.inr sz_b122) all0)
          have f128 := ((f123.ext E122).keep Kq126)
          have f129 := (A122.keep Kq126)
          have f130 := ((p101_3.ext E122).keep Kq126 (ninS ne122_b4 nin0))
          have f131 := ((p101_4.ext E122).keep Kq126 (ninS ne122_b4 nin0))
          have f132 := ((p101_5.ext E122).keep Kq126 (ninS ne122_b4 nin0))
          have f133 := ((p101_2.ext E122).keep Kq126 (ninS ne122_ed_101 nin0))
          obtain ⟨cq127, kq127, q127a, q127b, q127c⟩ := isOf hZ rfl f128
          obtain ⟨_, _, ⟨T127, L127, k127, n127⟩, -, X127, ⟨Lc127, hQ127, l127, y127, z127⟩, st127⟩ := X126.interfaceBack hx (xi := (⟨"java/util/List", "add", "(Ljava/lang/Object;)Z"⟩ : MethodName)) (y := (⟨"java/util/ArrayList", "add", "(Ljava/lang/Object;)Z"⟩ : MethodName)) hown (mvT hZ (kw87 hw)) (mvT hZ (kw88 hw)) (mvT hZ (kw89 hw)) (mvT hZ (kw90 hw)) (mvT hZ (kw91 hw)) (mvT hZ (kw92 hw)) (mvT hZ (kw93 hw)) (mvT hZ (kw56 hw)) (by decide) (backOf (W := 0) (rmAdd1 l Z a0 hw [] b4 b122 ed_101 kd_101 ((0 : Int32) + (1 : Int32)) b97 T126.heap n0 Z126 f128 g_b4 f129 f130 f131 f132 f133 p101_0 (Ne.symm ne101_b4_ed_101) p101_6) hZ (kw94 hw) (kw18 hw) (by decide) (by decide)) q127a q127b q127c (g := (mkF m 77 #[.val (.ref a1), .val (.ref b4), .val (.int 2), .val (.int 3), .val (.int 4)] [(.ref b122), (.ref b4)])) rfl (by rw [hml]; rfl) (Steps.refl _) (argsL := [(.ref b122)]) (rest := []) (lenOf pd_14 rfl) rfl (by show 2 * 0 + _ ≤ _; exact Nat.le_of_eq rfl) (hb hby d1_77) (fun _ _ => ⟨rfl, rfl, (by decide : 6 + 0 ≤ _), (by decide : 39 + 0 ≤ _)⟩)
          dsimp only [Pt.U, Pt.locs, Pt.cells, Pt.slots] at X127 l127 y127 z127 st127 hQ127
          subst l127 y127 z127
          obtain ⟨rfl, N127q, Kq127, p127_0, p127_1, p127_2, p127_3⟩ := hQ127
          have N127 := Fr.app N126 N127q
          have Z127 : n0 ≤ T127.heap.size := Nat.le_trans Z126 Kq127.1
          have Y127 : kS2 ≤ T127.heap.size := Nat.le_trans Y126 Kq127.1
          have K127 : Keep h0 T127.heap [] := K126.trans Kq127 (allS (Or.inr sz_b4) (allS (Or.inr sz_ed_101) all0))
          have f134 := (((f110.ext E122).keep Kq126 (ninS ne122_a1 nin0)).keep Kq127 (ninS ne4_a1 (ninS ne101_a1_ed_101 nin0)))
          obtain ⟨cl135, Ar135, -, S135, N135', -, -⟩ := id f134
          have hsp : own_split nn b0 b1 b2 b3 = [((1 : Int32), (0 : Int32), (2 : Int32)), ((2 : Int32), (3 : Int32), (1 : Int32))] := by unfold own_split; rw [if_pos hc12, if_pos hc14, if_pos hc18, if_neg hc22, if_pos hc96, if_pos hc113, if_pos hc115, if_pos hc121]
          have f136 := (f128.keep Kq127)
          have f137 := (((f124.ext E122).keep Kq126).keep Kq127)
          have f138 := ((((p100_0.keep Kq101 (ninS (Ne.symm ne97_b4) nin0)).ext E122).keep Kq126 (ninS ne122_b97 nin0)).keep Kq127 (ninS (Ne.symm ne97_b4) (ninS ne101_b97_ed_101 nin0)))
          have f139 := ((((p100_1.keep Kq101 (ninS (Ne.symm ne97_b4) nin0)).ext E122).keep Kq126 (ninS ne122_b97 nin0)).keep Kq127 (ninS (Ne.symm ne97_b4) (ninS ne101_b97_ed_101 nin0)))
          have f140 := ((((p100_2.keep Kq101 (ninS (Ne.symm ne97_b4) nin0)).ext E122).keep Kq126 (ninS ne122_b97 nin0)).keep Kq127 (ninS (Ne.symm ne97_b4) (ninS ne101_b97_ed_101 nin0)))
          have f141 := (f129.keep Kq127)
          have f142 := (p126_0.keep Kq127 (ninS (Ne.symm ne122_b4) (ninS (Ne.symm ne122_ed_101) nin0)))
          have f143 := (p126_1.keep Kq127 (ninS (Ne.symm ne122_b4) (ninS (Ne.symm ne122_ed_101) nin0)))
          have f144 := (p126_2.keep Kq127 (ninS (Ne.symm ne122_b4) (ninS (Ne.symm ne122_ed_101) nin0)))
          obtain ⟨fs, hr, hrun, hended, hRE⟩ := X127.leaveW hS2 Y127 (v := some (.ref b4)) (fun h => by rw [Bd.returns] at h; cases h)
          refine ⟨_, _, pre120 _ ?_, hrun, hended, _, _, rfl, ?_, hRE.1, hRE.2.1, hRE.2.2.1, hRE.2.2.2.mono (by decide) (by decide)⟩
          · skip
            refine XS.ifNo X119.here hx rfl (hb hby d1_60) rfl ((if0 _ _).trans (teq hc121).2) ?_
            refine XS.aloadN X119.here hx rfl (hb hby d1_63) rfl rfl ?_
            refine st122 _ ?_
            refine XS.dup X122.here hx rfl (hb hby d1_67) rfl rfl ?_
            refine XS.iloadN X122.here hx rfl (hb hby d1_68) rfl ?_
            refine XS.iloadN X122.here hx rfl (hb hby d1_69) rfl ?_
            refine XS.iload X122.here hx rfl (hb hby d1_70) rfl ?_
            refine XS.iloadN X122.here hx rfl (hb hby d1_72) rfl ?_
            refine XS.isub X122.here hx rfl (hb hby d1_73) rfl ?_
            refine st126.trans ?_
            refine st127.trans ?_
            refine XS.pop X127.here hx rfl (hb hby d1_82) rfl rfl ?_
            refine XS.iload X127.here hx rfl (hb hby d1_83) rfl ?_
            refine XS.iconst X127.here hx rfl (hb hby d1_85) ?_
            refine XS.iadd X127.here hx rfl (hb hby d1_86) rfl ?_
            refine XS.istoreN X127.here hx rfl (hb hby d1_87) rfl (l' := #[.val (.ref a1), .val (.ref b4), .val (.int 2), .val (.int 5), .val (.int 4)]) rfl ?_
            refine XS.goto X127.here hx rfl (pc0 := 88) (pc' := 19) rfl (hb hby d1_88) (by decide) (by decide) ?_
            refine XS.iloadN X127.here hx rfl (hb hby d1_19) rfl ?_
            refine XS.aloadN X127.here hx rfl (hb hby d1_20) rfl rfl ?_
            refine X127.arraylength hx Ar135.1 (State.isArrayOf_alike hZ.alike Ar135.2.1) (g := (mkF m 21 #[.val (.ref a1), .val (.ref b4), .val (.int 2), .val (.int 5), .val (.int 4)] [(.ref a1), (.int 5)])) rfl rfl (hb hby d1_21) _ ?_
            rw [len_of S135 N135']
            refine XS.icmpYes X127.here hx rfl (pc0 := 22) (pc' := 91) rfl (hb hby d1_22) rfl (flt (own_ge4 hn (by decide))).2.1 (by decide) (by decide) ?_
            refine XS.aloadN X127.here hx rfl (hb hby d1_91) rfl rfl ?_
            show Steps p.tables e below (T127.setTop (mkF m 92 #[.val (.ref a1), .val (.ref b4), .val (.int 2), .val (.int 5), .val (.int 4)] [(.ref b4)])) _
            jvm_step X127.here [X127.here.top, hx, (hb hby d1_92), X127.method', Bd.returns, Value.isRef, FieldType.isReference]
            first | (intro acts; rw [hr _ acts rfl rfl rfl]) | rw [hr _ _ rfl rfl rfl]
            exact Steps.refl _
          · show Q_rmSplit Z a1 nn b0 b1 b2 b3 kk w_DEF kD h0 n0 _ T127.heap _
            exact ⟨b4, rfl, N127, K127, g_b4, sz_b4, f136, (by rw [hsp]; exact p127_2), (by rw [hsp]; exact own_lines2 p127_3 p127_0 f137 f138 f139 f140 f141 f142 f143 f144)⟩
         ·skip
          obtain ⟨cl146, Ar146, -, S146, N146', -, -⟩ := id f110
          have hsp : own_split nn b0 b1 b2 b3 = [((1 : Int32), (0 : Int32), (2 : Int32))] := by unfold own_split; rw [if_pos hc12, if_pos hc14, if_pos hc18, if_neg hc22, if_pos hc96, if_pos hc113, if_pos hc115, if_neg hc121]
          have f147 := (f103.keep Kq101)
          have f148 := (f104.keep Kq101)
          have f149 := (p100_0.keep Kq101 (ninS (Ne.symm ne97_b4) nin0))
          have f150 := (p100_1.keep Kq101 (ninS (Ne.symm ne97_b4) nin0))
          have f151 := (p100_2.keep Kq101 (ninS (Ne.symm ne97_b4) nin0))
          obtain ⟨fs, hr, hrun, hended, hRE⟩ := X119.leaveW hS2 (by rw [e119]; exact Y101) (v := some (.ref b4)) (fun h => by rw [Bd.returns] at h; cases h)
          refine ⟨_, _, pre120 _ ?_, hrun, hended, _, _, rfl, ?_, hRE.1, hRE.2.1, hRE.2.2.1, hRE.2.2.2.mono (by decide) (by decide)⟩
          · skip
            refine XS.ifYes X119.here hx rfl (pc0 := 60) (pc' := 83) rfl (hb hby d1_60) rfl ((if0 _ _).trans (feq hc121).2) (by decide) (by decide) ?_
            refine XS.iload X119.here hx rfl (hb hby d1_83) rfl ?_
            refine XS.iconst X119.here hx rfl (hb hby d1_85) ?_
            refine XS.iadd X119.here hx rfl (hb hby d1_86) rfl ?_
            refine XS.istoreN X119.here hx rfl (hb hby d1_87) rfl (l' := #[.val (.ref a1), .val (.ref b4), .val (.int 2), .val (.int 5), .val (.int 4)]) rfl ?_
            refine XS.goto X119.here hx rfl (pc0 := 88) (pc' := 19) rfl (hb hby d1_88) (by decide) (by decide) ?_
            refine XS.iloadN X119.here hx rfl (hb hby d1_19) rfl ?_
            refine XS.aloadN X119.here hx rfl (hb hby d1_20) rfl rfl ?_
            refine X119.arraylength hx (by rw [e119]; exact Ar146.1) (State.isArrayOf_alike hZ.alike Ar146.2.1) (g := (mkF m 21 #[.val (.ref a1), .val (.ref b4), .val (.int 2), .val (.int 5), .val (.int 4)] [(.ref a1), (.int 5)])) rfl rfl (hb hby d1_21) _ ?_
            rw [len_of S146 N146']
            refine XS.icmpYes X119.here hx rfl (pc0 := 22) (pc' := 91) rfl (hb hby d1_22) rfl (flt (own_ge4 hn (by decide))).2.1 (by decide) (by decide) ?_
            refine XS.aloadN X119.here hx rfl (hb hby d1_91) rfl rfl ?_
            show Steps p.tables e below (T119.setTop (mkF m 92 #[.val (.ref a1), .val (.ref b4), .val (.int 2), .val (.int 5), .val (.int 4)] [(.ref b4)])) _
            jvm_step X119.here [X119.here.top, hx, (hb hby d1_92), X119.method', Bd.returns, Value.isRef, FieldType.isReference]
            first | (intro acts; rw [hr _ acts rfl rfl rfl]) | rw [hr _ _ rfl rfl rfl]
            exact Steps.refl _
          · show Q_rmSplit Z a1 nn b0 b1 b2 b3 kk w_DEF kD h0 n0 _ T119.heap _
            rw [e119]
            exact ⟨b4, rfl, N119, K101, g_b4, sz_b4, f147, (by rw [hsp]; exact p101_4), (by rw [hsp]; exact own_lines1 p101_5 p101_2 f148 f149 f150 f151)⟩
        ·skip
         obtain ⟨cl153, Ar153, -, S153, N153', -, -⟩ := id f110
         obtain ⟨cl154, Ar154, q154, S154, N154', H154, G154⟩ := id f110
         have hin154 : ¬ ((3 : Int32) < 0 ∨ cl154.slots.size ≤ ((3 : Int32)).toNatClampNeg) := inb_of S154 ⟨by decide, hc113⟩
         have hat154 : cl154.slots[((3 : Int32)).toNatClampNeg]? = some (.int (own_b b0 b1 b2 b3 (3 : Int32))) := H154.at hin154 (own_is_getD _ _)
         obtain ⟨_, _, ⟨T155, L155, k155, n155⟩, -, X155, ⟨Lc155, hQ155, l155, y155, z155⟩, st155⟩ := Jvm.LawKit.callS X101 hx (y := (⟨"com/example/rank_keeper/rankkeeper/BodyLines", "isBlank", "([BII)Z"⟩ : MethodName)) hown (mvT hZ (kw66 hw)) (mvT hZ (kw67 hw)) (mvT hZ (kw3 hw)) (mvT hZ (kw68 hw)) (by decide) (backOf (W := 0) (rmBl_3 l Z a0 hw [] a1 (3 : Int32) nn b0 b1 b2 b3 kk T101.heap n0 Z101 f110 hn (own_lt1 hc113 (by decide))) hZ (kw68 hw) (kw3 hw) (by decide) (by decide)) (g := (mkF m 57 #[.val (.ref a1), .val (.ref b4), .val (.int 2), .val (.int 3), .val (.int 3)] [(.int 3), (.int 3), (.ref a1)])) rfl (by rw [hml]; rfl) (argsL := [(.ref a1), (.int 3), (.int 3)]) (rest := []) (lenOf pd_3 rfl) rfl (by show 2 * 0 + _ ≤ _; exact Nat.le_of_eq rfl) (hb hby d1_57) (fun _ _ => ⟨rfl, rfl, (by decide : 5 + 0 ≤ _), (by decide : 36 + 0 ≤ _)⟩)
         dsimp only [Pt.U, Pt.locs, Pt.cells, Pt.slots] at X155 l155 y155 z155 st155 hQ155
         subst l155 y155 z155
         obtain ⟨rfl, N155q, e155⟩ := hQ155
         have N155 := Fr.app N101 N155q
         obtain ⟨cl156, Ar156, -, S156, N156', -, -⟩ := id f110
         have hsp : own_split nn b0 b1 b2 b3 = [((1 : Int32), (0 : Int32), (2 : Int32))] := by unfold own_split; rw [if_pos hc12, if_pos hc14, if_pos hc18, if_neg hc22, if_pos hc96, if_pos hc113, if_neg hc115]
         have f157 := (f103.keep Kq101)
         have f158 := (f104.keep Kq101)
         have f159 := (p100_0.keep Kq101 (ninS (Ne.symm ne97_b4) nin0))
         have f160 := (p100_1.keep Kq101 (ninS (Ne.symm ne97_b4) nin0))
         have f161 := (p100_2.keep Kq101 (ninS (Ne.symm ne97_b4) nin0))
         obtain ⟨fs, hr, hrun, hended, hRE⟩ := X155.leaveW hS2 (by rw [e155]; exact Y101) (v := some (.ref b4)) (fun h => by rw [Bd.returns] at h; cases h)
         refine ⟨_, _, pre114 _ ?_, hrun, hended, _, _, rfl, ?_, hRE.1, hRE.2.1, hRE.2.2.1, hRE.2.2.2.mono (by decide) (by decide)⟩
         · skip
           refine XS.iload X101.here hx rfl (hb hby d1_31) rfl ?_
           refine XS.aloadN X101.here hx rfl (hb hby d1_33) rfl rfl ?_
           refine X101.arraylength hx Ar153.1 (State.isArrayOf_alike hZ.alike Ar153.2.1) (g := (mkF m 34 #[.val (.ref a1), .val (.ref b4), .val (.int 2), .val (.int 3), .val (.int 3)] [(.ref a1), (.int 3)])) rfl rfl (hb hby d1_34) _ ?_
           rw [len_of S153 N153']
           refine XS.icmpNo X101.here hx rfl (hb hby d1_35) rfl (tlt hc113).2.1 ?_
           refine XS.aloadN X101.here hx rfl (hb hby d1_38) rfl rfl ?_
           refine XS.iload X101.here hx rfl (hb hby d1_39) rfl ?_
           refine X101.baloadBytes hx (j := (3 : Int32)) (v := (.int (own_b b0 b1 b2 b3 (3 : Int32)))) Ar154.1 (State.isArrayOf_alike hZ.alike Ar154.2.1) Ar154.2.2 hin154 hat154 (g := (mkF m 41 #[.val (.ref a1), .val (.ref b4), .val (.int 2), .val (.int 3), .val (.int 3)] [(.int 3), (.ref a1)])) rfl rfl (hb hby d1_41) _ ?_
           refine XS.bipush X101.here hx rfl (hb hby d1_42) ?_
           refine XS.icmpYes X101.here hx rfl (pc0 := 44) (pc' := 53) rfl (hb hby d1_44) rfl (teq (Decidable.byContradiction fun q => hc115 ⟨hc113, q⟩)).1 (by decide) (by decide) ?_
           refine XS.aloadN X101.here hx rfl (hb hby d1_53) rfl rfl ?_
           refine XS.iloadN X101.here hx rfl (hb hby d1_54) rfl ?_
           refine XS.iload X101.here hx rfl (hb hby d1_55) rfl ?_
           refine st155 _ ?_
           refine XS.ifYes X155.here hx rfl (pc0 := 60) (pc' := 83) rfl (hb hby d1_60) rfl ((if0 _ _).trans (feq (own_bls3 b0 b1 b2 b3)).2) (by decide) (by decide) ?_
           refine XS.iload X155.here hx rfl (hb hby d1_83) rfl ?_
           refine XS.iconst X155.here hx rfl (hb hby d1_85) ?_
           refine XS.iadd X155.here hx rfl (hb hby d1_86) rfl ?_
           refine XS.istoreN X155.here hx rfl (hb hby d1_87) rfl (l' := #[.val (.ref a1), .val (.ref b4), .val (.int 2), .val (.int 4), .val (.int 3)]) rfl ?_
           refine XS.goto X155.here hx rfl (pc0 := 88) (pc' := 19) rfl (hb hby d1_88) (by decide) (by decide) ?_
           refine XS.iloadN X155.here hx rfl (hb hby d1_19) rfl ?_
           refine XS.aloadN X155.here hx rfl (hb hby d1_20) rfl rfl ?_
           refine X155.arraylength hx (by rw [e155]; exact Ar156.1) (State.isArrayOf_alike hZ.alike Ar156.2.1) (g := (mkF m 21 #[.val (.ref a1), .val (.ref b4), .val (.int 2), .val (.int 4), .val (.int 3)] [(.ref a1), (.int 4)])) rfl rfl (hb hby d1_21) _ ?_
           rw [len_of S156 N156']
           refine XS.icmpYes X155.here hx rfl (pc0 := 22) (pc' := 91) rfl (hb hby d1_22) rfl (flt (own_ge4 hn (by decide))).2.1 (by decide) (by decide) ?_
           show Steps p.tables e below (T155.setTop (mkF m 91 #[.val (.ref a1), .val (.ref b4), .val (.int 2), .val (.int 4), .val (.int 3)] [])) _
           refine XS.aloadN X155.here hx rfl (hb hby d1_91) rfl rfl ?_
           show Steps p.tables e below (T155.setTop (mkF m 92 #[.val (.ref a1), .val (.ref b4), .val (.int 2), .val (.int 4), .val (.int 3)] [(.ref b4)])) _
           jvm_step X155.here [X155.here.top, hx, (hb hby d1_92), X155.method', Bd.returns, Value.isRef, FieldType.isReference]
           first | (intro acts; rw [hr _ acts rfl rfl rfl]) | rw [hr _ _ rfl rfl rfl]
           exact Steps.refl _
         · show Q_rmSplit Z a1 nn b0 b1 b2 b3 kk w_DEF kD h0 n0 _ T155.heap _
           rw [e155]
           exact ⟨b4, rfl, N155, K101, g_b4, sz_b4, f157, (by rw [hsp]; exact p101_4), (by rw [hsp]; exact own_lines1 p101_5 p101_2 f158 f159 f160 f161)⟩
       ·skip
        have hsp : own_split nn b0 b1 b2 b3 = [((1 : Int32), (0 : Int32), (2 : Int32))] := by unfold own_split; rw [if_pos hc12, if_pos hc14, if_pos hc18, if_neg hc22, if_pos hc96, if_neg hc113]
        have f163 := (f103.keep Kq101)
        have f164 := (f104.keep Kq101)
        have f165 := (p100_0.keep Kq101 (ninS (Ne.symm ne97_b4) nin0))
        have f166 := (p100_1.keep Kq101 (ninS (Ne.symm ne97_b4) nin0))
        have f167 := (p100_2.keep Kq101 (ninS (Ne.symm ne97_b4) nin0))
        obtain ⟨fs, hr, hrun, hended, hRE⟩ := X101.leaveW hS2 Y101 (v := some (.ref b4)) (fun h => by rw [Bd.returns] at h; cases h)
        refine ⟨_, _, pre112 _ ?_, hrun, hended, _, _, rfl, ?_, hRE.1, hRE.2.1, hRE.2.2.1, hRE.2.2.2.mono (by decide) (by decide)⟩
        · skip
          refine XS.icmpYes X101.here hx rfl (pc0 := 22) (pc' := 91) rfl (hb hby d1_22) rfl (flt hc113).2.1 (by decide) (by decide) ?_
          refine XS.aloadN X101.here hx rfl (hb hby d1_91) rfl rfl ?_
          show Steps p.tables e below (T101.setTop (mkF m 92 #[.val (.ref a1), .val (.ref b4), .val (.int 1), .val (.int 3), .val (.int 2)] [(.ref b4)])) _
          jvm_step X101.here [X101.here.top, hx, (hb hby d1_92), X101.method', Bd.returns, Value.isRef, FieldType.isReference]
          first | (intro acts; rw [hr _ acts rfl rfl rfl]) | rw [hr _ _ rfl rfl rfl]
          exact Steps.refl _
        · show Q_rmSplit Z a1 nn b0 b1 b2 b3 kk w_DEF kD h0 n0 _ T101.heap _
          exact ⟨b4, rfl, N101, K101, g_b4, sz_b4, f163, (by rw [hsp]; exact p101_4), (by rw [hsp]; exact own_lines1 p101_5 p101_2 f164 f165 f166 f167)⟩
      ·skip
       obtain ⟨cl169, Ar169, -, S169, N169', -, -⟩ := id f9
       have pre170 : ∀ t, Steps p.tables e below (T94.setTop (mkF m 22 #[.val (.ref a1), .val (.ref b4), .val (.int 1), .val (.int 3), .val (.int 2)] [(.int nn), (.int 3)])) t → Steps p.tables e below (s₁.setTop (entryFrame m #[(.ref a1)] 5)) t := fun t k => pre95 t (by
         refine XS.ifYes X94.here hx rfl (pc0 := 60) (pc' := 83) rfl (hb hby d1_60) rfl ((if0 _ _).trans (feq hc96).2) (by decide) (by decide) ?_
         refine XS.iload X94.here hx rfl (hb hby d1_83) rfl ?_
         refine XS.iconst X94.here hx rfl (hb hby d1_85) ?_
         refine XS.iadd X94.here hx rfl (hb hby d1_86) rfl ?_
         refine XS.istoreN X94.here hx rfl (hb hby d1_87) rfl (l' := #[.val (.ref a1), .val (.ref b4), .val (.int 1), .val (.int 3), .val (.int 2)]) rfl ?_
         refine XS.goto X94.here hx rfl (pc0 := 88) (pc' := 19) rfl (hb hby d1_88) (by decide) (by decide) ?_
         refine XS.iloadN X94.here hx rfl (hb hby d1_19) rfl ?_
         refine XS.aloadN X94.here hx rfl (hb hby d1_20) rfl rfl ?_
         refine X94.arraylength hx (by rw [e94]; exact Ar169.1) (State.isArrayOf_alike hZ.alike Ar169.2.1) (g := (mkF m 21 #[.val (.ref a1), .val (.ref b4), .val (.int 1), .val (.int 3), .val (.int 2)] [(.ref a1), (.int 3)])) rfl rfl (hb hby d1_21) _ ?_
         rw [len_of S169 N169']
         exact k)
       by_cases hc171 : (3 : Int32) < nn
       ·skip
        have pre172 : ∀ t, Steps p.tables e below (T94.setTop (mkF m 31 #[.val (.ref a1), .val (.ref b4), .val (.int 2), .val (.int 3), .val (.int 3)] [])) t → Steps p.tables e below (s₁.setTop (entryFrame m #[(.ref a1)] 5)) t := fun t k => pre170 t (by
          refine XS.icmpNo X94.here hx rfl (hb hby d1_22) rfl (tlt hc171).2.1 ?_
          refine XS.iinc X94.here hx rfl (hb hby d1_25) rfl (l' := #[.val (.ref a1), .val (.ref b4), .val (.int 2), .val (.int 3), .val (.int 2)]) rfl ?_
          refine XS.iloadN X94.here hx rfl (hb hby d1_28) rfl ?_
          refine XS.istore X94.here hx rfl (hb hby d1_29) rfl (l' := #[.val (.ref a1), .val (.ref b4), .val (.int 2), .val (.int 3), .val (.int 3)]) rfl ?_
          exact k)
        by_cases hc173 : (3 : Int32) < nn ∧ ¬ (own_b b0 b1 b2 b3 (3 : Int32)) = (10 : Int32)
        ·skip
         obtain ⟨cl174, Ar174, -, S174, N174', -, -⟩ := id f9
         obtain ⟨cl175, Ar175, q175, S175, N175', H175, G175⟩ := id f9
         have hin175 : ¬ ((3 : Int32) < 0 ∨ cl175.slots.size ≤ ((3 : Int32)).toNatClampNeg) := inb_of S175 ⟨by decide, hc173.1⟩
         have hat175 : cl175.slots[((3 : Int32)).toNatClampNeg]? = some (.int (own_b b0 b1 b2 b3 (3 : Int32))) := H175.at hin175 (own_is_getD _ _)
         obtain ⟨cl176, Ar176, -, S176, N176', -, -⟩ := id f9
         obtain ⟨_, _, ⟨T177, L177, k177, n177⟩, -, X177, ⟨Lc177, hQ177, l177, y177, z177⟩, st177⟩ := Jvm.LawKit.callS X94 hx (y := (⟨"com/example/rank_keeper/rankkeeper/BodyLines", "isBlank", "([BII)Z"⟩ : MethodName)) hown (mvT hZ (kw66 hw)) (mvT hZ (kw67 hw)) (mvT hZ (kw3 hw)) (mvT hZ (kw68 hw)) (by decide) (backOf (W := 0) (rmBl_3 l Z a0 hw [] a1 (4 : Int32) nn b0 b1 b2 b3 kk T7.heap n0 Z7 f9 hn (own_lt1 hc173.1 (by decide))) hZ (kw68 hw) (kw3 hw) (by decide) (by decide)) (g := (mkF m 57 #[.val (.ref a1), .val (.ref b4), .val (.int 2), .val (.int 3), .val (.int 4)] [(.int 4), (.int 3), (.ref a1)])) rfl (by rw [hml]; rfl) (argsL := [(.ref a1), (.int 3), (.int 4)]) (rest := []) (lenOf pd_3 rfl) rfl (by show 2 * 0 + _ ≤ _; exact Nat.le_of_eq rfl) (hb hby d1_57) (fun _ _ => ⟨rfl, e94, (by decide : 3 + 0 ≤ _), (by decide : 23 + 0 ≤ _)⟩)
         dsimp only [Pt.U, Pt.locs, Pt.cells, Pt.slots] at X177 l177 y177 z177 st177 hQ177
         subst l177 y177 z177
         obtain ⟨rfl, N177q, e177⟩ := hQ177
         have N177 := Fr.app N94 N177q
         have pre178 : ∀ t, Steps p.tables e below (T177.setTop (mkF m 60 #[.val (.ref a1), .val (.ref b4), .val (.int 2), .val (.int 3), .val (.int 4)] [(.int (own_bl_3 b0 b1 b2 b3 (4 : Int32)))])) t → Steps p.tables e below (s₁.setTop (entryFrame m #[(.ref a1)] 5)) t := fun t k => pre172 t (by
           refine XS.iload X94.here hx rfl (hb hby d1_31) rfl ?_
           refine XS.aloadN X94.here hx rfl (hb hby d1_33) rfl rfl ?_
           refine X94.arraylength hx (by rw [e94]; exact Ar174.1) (State.isArrayOf_alike hZ.alike Ar174.2.1) (g := (mkF m 34 #[.val (.ref a1), .val (.ref b4), .val (.int 2), .val (.int 3), .val (.int 3)] [(.ref a1), (.int 3)])) rfl rfl (hb hby d1_34) _ ?_
           rw [len_of S174 N174']
           refine XS.icmpNo X94.here hx rfl (hb hby d1_35) rfl (tlt hc173.1).2.1 ?_
           refine XS.aloadN X94.here hx rfl (hb hby d1_38) rfl rfl ?_
           refine XS.iload X94.here hx rfl (hb hby d1_39) rfl ?_
           refine X94.baloadBytes hx (j := (3 : Int32)) (v := (.int (own_b b0 b1 b2 b3 (3 : Int32)))) (by rw [e94]; exact Ar175.1) (State.isArrayOf_alike hZ.alike Ar175.2.1) Ar175.2.2 hin175 hat175 (g := (mkF m 41 #[.val (.ref a1), .val (.ref b4), .val (.int 2), .val (.int 3), .val (.int 3)] [(.int 3), (.ref a1)])) rfl rfl (hb hby d1_41) _ ?_
           refine XS.bipush X94.here hx rfl (hb hby d1_42) ?_
           refine XS.icmpNo X94.here hx rfl (hb hby d1_44) rfl (feq hc173.2).1 ?_
           refine XS.iinc X94.here hx rfl (hb hby d1_47) rfl (l' := #[.val (.ref a1), .val (.ref b4), .val (.int 2), .val (.int 3), .val (.int 4)]) rfl ?_
           refine XS.goto X94.here hx rfl (pc0 := 50) (pc' := 31) rfl (hb hby d1_50) (by decide) (by decide) ?_
           refine XS.iload X94.here hx rfl (hb hby d1_31) rfl ?_
           refine XS.aloadN X94.here hx rfl (hb hby d1_33) rfl rfl ?_
           refine X94.arraylength hx (by rw [e94]; exact Ar176.1) (State.isArrayOf_alike hZ.alike Ar176.2.1) (g := (mkF m 34 #[.val (.ref a1), .val (.ref b4), .val (.int 2), .val (.int 3), .val (.int 4)] [(.ref a1), (.int 4)])) rfl rfl (hb hby d1_34) _ ?_
           rw [len_of S176 N176']
           refine XS.icmpYes X94.here hx rfl (pc0 := 35) (pc' := 53) rfl (hb hby d1_35) rfl (flt (own_ge4 hn (by decide))).2.1 (by decide) (by decide) ?_
           refine XS.aloadN X94.here hx rfl (hb hby d1_53) rfl rfl ?_
           refine XS.iloadN X94.here hx rfl (hb hby d1_54) rfl ?_
           refine XS.iload X94.here hx rfl (hb hby d1_55) rfl ?_
           refine st177 _ ?_
           exact k)
         by_cases hc179 : (own_bl_3 b0 b1 b2 b3 (4 : Int32)) = (0 : Int32)
         ·skip
          have f181 := (A4.keep Kq7)
          have f182 := ((f6.ext E4).keep Kq7 (ninS ne4_w_DEF nin0))
          obtain ⟨T180, h180, X180, e180, E180, A180, D180, -, st180⟩ := newO X177 hx hZ hown (kw69 hw) (kw70 hw) (kw71 hw) e177 (g := (mkF m 64 #[.val (.ref a1), .val (.ref b4), .val (.int 2), .val (.int 3), .val (.int 4)] [(.ref b4)])) rfl (hb hby d1_64) (by decide) (by decide)
          obtain ⟨b180, g180⟩ : ∃ z, z = T7.heap.size := ⟨_, rfl⟩
          rw [← g180] at A180 D180 st180
          have ne180_a1 : a1 ≠ b180 := Nat.ne_of_lt (Nat.lt_of_lt_of_le f9.lt (Nat.le_of_eq g180.symm))
          have ne180_b4 : b4 ≠ b180 := Nat.ne_of_lt (Nat.lt_of_lt_of_le f181.lt (Nat.le_of_eq g180.symm))
          have ne180_w_DEF : w_DEF ≠ b180 := Nat.ne_of_lt (Nat.lt_of_lt_of_le f182.lt (Nat.le_of_eq g180.symm))
          have g_b180 : n0 ≤ b180 := Nat.le_trans Z7 (Nat.le_of_eq g180.symm)
          have sz_b180 : h0.size ≤ b180 := Nat.le_trans K7.1 (Nat.le_of_eq g180.symm)
          have Z180 : n0 ≤ h180.size := Nat.le_trans Z7 E180.1
          have Y180 : kS2 ≤ h180.size := Nat.le_trans Y7 E180.1
          have K180 : Keep h0 h180 [] := K7.ext E180
          have F180_number : Fld Z h180 b180 "com/example/rank_keeper/rankkeeper/BodyLines$Line" "number" "I" (.int 0) := D180 (Or.inr (kw82 hw)) (ty := .int) (by decide)
          have F180_offset : Fld Z h180 b180 "com/example/rank_keeper/rankkeeper/BodyLines$Line" "offset" "I" (.int 0) := D180 (Or.inr (kw84 hw)) (ty := .int) (by decide)
          have F180_length : Fld Z h180 b180 "com/example/rank_keeper/rankkeeper/BodyLines$Line" "length" "I" (.int 0) := D180 (Or.inr (kw86 hw)) (ty := .int) (by decide)
          obtain ⟨_, _, ⟨T183, L183, k183, n183⟩, -, X183, ⟨Lc183, hQ183, l183, y183, z183⟩, st183⟩ := X180.specialBack hx (y := (⟨"com/example/rank_keeper/rankkeeper/BodyLines$Line", "<init>", "(III)V"⟩ : MethodName)) rfl hown (mvT hZ (kw72 hw)) (mvT hZ (kw73 hw)) (mvT hZ (kw74 hw)) (by decide) (backOf (W := 2) (rm13 l Z a0 hw [] b180 (2 : Int32) (3 : Int32) (1 : Int32) h180 n0 Z180 A180 g_b180 F180_number F180_offset F180_length) hZ (kw74 hw) (kw71 hw) (by decide) (by decide)) (g := (mkF m 74 #[.val (.ref a1), .val (.ref b4), .val (.int 2), .val (.int 3), .val (.int 4)] [(.int 1), (.int 3), (.int 2), (.ref b180), (.ref b180), (.ref b4)])) rfl (by rw [hml]; rfl) (Steps.refl _) (a := b180) (argsL := [(.int 2), (.int 3), (.int 1)]) (rest := [(.ref b180), (.ref b4)]) (lenOf pd_13 rfl) rfl (by show 2 * 0 + _ ≤ _; exact Nat.le_of_eq rfl) (hb hby d1_74) (fun _ _ => ⟨rfl, e180, (by decide : 4 + 0 ≤ _), (by decide : 26 + 0 ≤ _)⟩)
          dsimp only [Pt.U, Pt.locs, Pt.cells, Pt.slots] at X183 l183 y183 z183 st183 hQ183
          subst l183 y183 z183
          obtain ⟨rfl, N183q, Kq183, p183_0, p183_1, p183_2⟩ := hQ183
          have N183 := Fr.app N177 N183q
          have Z183 : n0 ≤ T183.heap.size := Nat.le_trans Z180 Kq183.1
          have Y183 : kS2 ≤ T183.heap.size := Nat.le_trans Y180 Kq183.1
          have K183 : Keep h0 T183.heap [] := K180.trans Kq183 (allS (Or.inr sz_b180) all0)
          have f185 := (((f8.keep Kq7 (allS g_b4 all0)).ext E180).keep Kq183 (allS g_b180 all0))
          have f186 := ((f181.ext E180).keep Kq183)
          have f187 := (A180.keep Kq183)
          have f188 := ((p7_1.ext E180).keep Kq183 (ninS ne180_b4 nin0))
          have f189 := ((p7_2.ext E180).keep Kq183 (ninS ne180_b4 nin0))
          have f190 := ((p7_0.ext E180).keep Kq183 (ninS ne180_b4 nin0))
          have f191 := ((f182.ext E180).keep Kq183 (ninS ne180_w_DEF nin0))
          have f192 := ((f9.ext E180).keep Kq183 (ninS ne180_a1 nin0))
          obtain ⟨cq184, kq184, q184a, q184b, q184c⟩ := isOf hZ rfl f186
          obtain ⟨_, _, ⟨T184, L184, k184, n184⟩, -, X184, ⟨Lc184, hQ184, l184, y184, z184⟩, st184⟩ := X183.interfaceBack hx (xi := (⟨"java/util/List", "add", "(Ljava/lang/Object;)Z"⟩ : MethodName)) (y := (⟨"java/util/ArrayList", "add", "(Ljava/lang/Object;)Z"⟩ : MethodName)) hown (mvT hZ (kw87 hw)) (mvT hZ (kw88 hw)) (mvT hZ (kw89 hw)) (mvT hZ (kw90 hw)) (mvT hZ (kw91 hw)) (mvT hZ (kw92 hw)) (mvT hZ (kw93 hw)) (mvT hZ (kw56 hw)) (by decide) (backOf (W := 0) (rmAdd0 l Z a0 hw [] b4 b180 w_DEF kD (0 : Int32) T183.heap n0 Z183 f185 P1 f186 g_b4 f187 f188 f189 f190 f191 ne4_w_DEF) hZ (kw94 hw) (kw18 hw) (by decide) (by decide)) q184a q184b q184c (g := (mkF m 77 #[.val (.ref a1), .val (.ref b4), .val (.int 2), .val (.int 3), .val (.int 4)] [(.ref b180), (.ref b4)])) rfl (by rw [hml]; rfl) (Steps.refl _) (argsL := [(.ref b180)]) (rest := []) (lenOf pd_14 rfl) rfl (by show 2 * 0 + _ ≤ _; exact Nat.le_of_eq rfl) (hb hby d1_77) (fun _ _ => ⟨rfl, rfl, (by decide : 4 + 1 ≤ _), (by decide : 26 + 10 ≤ _)⟩)
          dsimp only [Pt.U, Pt.locs, Pt.cells, Pt.slots] at X184 l184 y184 z184 st184 hQ184
          subst l184 y184 z184
          obtain ⟨ed_184, kd_184, rfl, N184q, Kq184, p184_0, p184_1, p184_2, p184_3, p184_4, p184_5, p184_6⟩ := hQ184
          have N184 := Fr.app N183 N184q
          have Z184 : n0 ≤ T184.heap.size := Nat.le_trans Z183 Kq184.1
          have Y184 : kS2 ≤ T184.heap.size := Nat.le_trans Y183 Kq184.1
          have K184 : Keep h0 T184.heap [] := K183.trans Kq184 (allS (Or.inr sz_b4) all0)
          have sz_ed_184 : h0.size ≤ ed_184 := Nat.le_trans K183.1 p184_1
          have ne184_a1_ed_184 : a1 ≠ ed_184 := Nat.ne_of_lt (Nat.lt_of_lt_of_le f192.lt p184_1)
          have ne184_b180_ed_184 : b180 ≠ ed_184 := Nat.ne_of_lt (Nat.lt_of_lt_of_le f187.lt p184_1)
          have ne184_b4_ed_184 : b4 ≠ ed_184 := Nat.ne_of_lt (Nat.lt_of_lt_of_le f186.lt p184_1)
          have ne184_w_DEF_ed_184 : w_DEF ≠ ed_184 := Nat.ne_of_lt (Nat.lt_of_lt_of_le f191.lt p184_1)
          have f193 := (f192.keep Kq184 (ninS ne4_a1 nin0))
          obtain ⟨cl194, Ar194, -, S194, N194', -, -⟩ := id f193
          have hsp : own_split nn b0 b1 b2 b3 = [((2 : Int32), (3 : Int32), (1 : Int32))] := by unfold own_split; rw [if_pos hc12, if_pos hc14, if_pos hc18, if_neg hc22, if_neg hc96, if_pos hc171, if_pos hc173, if_pos hc179]
          have f195 := (f186.keep Kq184)
          have f196 := (f187.keep Kq184)
          have f197 := (p183_0.keep Kq184 (ninS (Ne.symm ne180_b4) nin0))
          have f198 := (p183_1.keep Kq184 (ninS (Ne.symm ne180_b4) nin0))
          have f199 := (p183_2.keep Kq184 (ninS (Ne.symm ne180_b4) nin0))
          obtain ⟨fs, hr, hrun, hended, hRE⟩ := X184.leaveW hS2 Y184 (v := some (.ref b4)) (fun h => by rw [Bd.returns] at h; cases h)
          refine ⟨_, _, pre178 _ ?_, hrun, hended, _, _, rfl, ?_, hRE.1, hRE.2.1, hRE.2.2.1, hRE.2.2.2.mono (by decide) (by decide)⟩
          · skip
            refine XS.ifNo X177.here hx rfl (hb hby d1_60) rfl ((if0 _ _).trans (teq hc179).2) ?_
            refine XS.aloadN X177.here hx rfl (hb hby d1_63) rfl rfl ?_
            refine st180 _ ?_
            refine XS.dup X180.here hx rfl (hb hby d1_67) rfl rfl ?_
            refine XS.iloadN X180.here hx rfl (hb hby d1_68) rfl ?_
            refine XS.iloadN X180.here hx rfl (hb hby d1_69) rfl ?_
            refine XS.iload X180.here hx rfl (hb hby d1_70) rfl ?_
            refine XS.iloadN X180.here hx rfl (hb hby d1_72) rfl ?_
            refine XS.isub X180.here hx rfl (hb hby d1_73) rfl ?_
            refine st183.trans ?_
            refine st184.trans ?_
            refine XS.pop X184.here hx rfl (hb hby d1_82) rfl rfl ?_
            refine XS.iload X184.here hx rfl (hb hby d1_83) rfl ?_
            refine XS.iconst X184.here hx rfl (hb hby d1_85) ?_
            refine XS.iadd X184.here hx rfl (hb hby d1_86) rfl ?_
            refine XS.istoreN X184.here hx rfl (hb hby d1_87) rfl (l' := #[.val (.ref a1), .val (.ref b4), .val (.int 2), .val (.int 5), .val (.int 4)]) rfl ?_
            refine XS.goto X184.here hx rfl (pc0 := 88) (pc' := 19) rfl (hb hby d1_88) (by decide) (by decide) ?_
            refine XS.iloadN X184.here hx rfl (hb hby d1_19) rfl ?_
            refine XS.aloadN X184.here hx rfl (hb hby d1_20) rfl rfl ?_
            refine X184.arraylength hx Ar194.1 (State.isArrayOf_alike hZ.alike Ar194.2.1) (g := (mkF m 21 #[.val (.ref a1), .val (.ref b4), .val (.int 2), .val (.int 5), .val (.int 4)] [(.ref a1), (.int 5)])) rfl rfl (hb hby d1_21) _ ?_
            rw [len_of S194 N194']
            refine XS.icmpYes X184.here hx rfl (pc0 := 22) (pc' := 91) rfl (hb hby d1_22) rfl (flt (own_ge4 hn (by decide))).2.1 (by decide) (by decide) ?_
            refine XS.aloadN X184.here hx rfl (hb hby d1_91) rfl rfl ?_
            show Steps p.tables e below (T184.setTop (mkF m 92 #[.val (.ref a1), .val (.ref b4), .val (.int 2), .val (.int 5), .val (.int 4)] [(.ref b4)])) _
            jvm_step X184.here [X184.here.top, hx, (hb hby d1_92), X184.method', Bd.returns, Value.isRef, FieldType.isReference]
            first | (intro acts; rw [hr _ acts rfl rfl rfl]) | rw [hr _ _ rfl rfl rfl]
            exact Steps.refl _
          · show Q_rmSplit Z a1 nn b0 b1 b2 b3 kk w_DEF kD h0 n0 _ T184.heap _
            exact ⟨b4, rfl, N184, K184, g_b4, sz_b4, f195, (by rw [hsp]; exact p184_4), (by rw [hsp]; exact own_lines1 p184_5 p184_2 f196 f197 f198 f199)⟩
         ·skip
          obtain ⟨cl201, Ar201, -, S201, N201', -, -⟩ := id f9
          have hsp : own_split nn b0 b1 b2 b3 = [] := by unfold own_split; rw [if_pos hc12, if_pos hc14, if_pos hc18, if_neg hc22, if_neg hc96, if_pos hc171, if_pos hc173, if_neg hc179]
          have f202 := (A4.keep Kq7)
          obtain ⟨fs, hr, hrun, hended, hRE⟩ := X177.leaveW hS2 (by rw [e177]; exact Y7) (v := some (.ref b4)) (fun h => by rw [Bd.returns] at h; cases h)
          refine ⟨_, _, pre178 _ ?_, hrun, hended, _, _, rfl, ?_, hRE.1, hRE.2.1, hRE.2.2.1, hRE.2.2.2.mono (by decide) (by decide)⟩
          · skip
            refine XS.ifYes X177.here hx rfl (pc0 := 60) (pc' := 83) rfl (hb hby d1_60) rfl ((if0 _ _).trans (feq hc179).2) (by decide) (by decide) ?_
            refine XS.iload X177.here hx rfl (hb hby d1_83) rfl ?_
            refine XS.iconst X177.here hx rfl (hb hby d1_85) ?_
            refine XS.iadd X177.here hx rfl (hb hby d1_86) rfl ?_
            refine XS.istoreN X177.here hx rfl (hb hby d1_87) rfl (l' := #[.val (.ref a1), .val (.ref b4), .val (.int 2), .val (.int 5), .val (.int 4)]) rfl ?_
            refine XS.goto X177.here hx rfl (pc0 := 88) (pc' := 19) rfl (hb hby d1_88) (by decide) (by decide) ?_
            refine XS.iloadN X177.here hx rfl (hb hby d1_19) rfl ?_
            refine XS.aloadN X177.here hx rfl (hb hby d1_20) rfl rfl ?_
            refine X177.arraylength hx (by rw [e177]; exact Ar201.1) (State.isArrayOf_alike hZ.alike Ar201.2.1) (g := (mkF m 21 #[.val (.ref a1), .val (.ref b4), .val (.int 2), .val (.int 5), .val (.int 4)] [(.ref a1), (.int 5)])) rfl rfl (hb hby d1_21) _ ?_
            rw [len_of S201 N201']
            refine XS.icmpYes X177.here hx rfl (pc0 := 22) (pc' := 91) rfl (hb hby d1_22) rfl (flt (own_ge4 hn (by decide))).2.1 (by decide) (by decide) ?_
            refine XS.aloadN X177.here hx rfl (hb hby d1_91) rfl rfl ?_
            show Steps p.tables e below (T177.setTop (mkF m 92 #[.val (.ref a1), .val (.ref b4), .val (.int 2), .val (.int 5), .val (.int 4)] [(.ref b4)])) _
            jvm_step X177.here [X177.here.top, hx, (hb hby d1_92), X177.method', Bd.returns, Value.isRef, FieldType.isReference]
            first | (intro acts; rw [hr _ acts rfl rfl rfl]) | rw [hr _ _ rfl rfl rfl]
            exact Steps.refl _
          · show Q_rmSplit Z a1 nn b0 b1 b2 b3 kk w_DEF kD h0 n0 _ T177.heap _
            rw [e177]
            exact ⟨b4, rfl, N177, K7, g_b4, sz_b4, f202, (by rw [hsp]; exact p7_2), (by rw [hsp]; exact own_lines0)⟩
        ·skip
         obtain ⟨cl204, Ar204, -, S204, N204', -, -⟩ := id f9
         obtain ⟨cl205, Ar205, q205, S205, N205', H205, G205⟩ := id f9
         have hin205 : ¬ ((3 : Int32) < 0 ∨ cl205.slots.size ≤ ((3 : Int32)).toNatClampNeg) := inb_of S205 ⟨by decide, hc171⟩
         have hat205 : cl205.slots[((3 : Int32)).toNatClampNeg]? = some (.int (own_b b0 b1 b2 b3 (3 : Int32))) := H205.at hin205 (own_is_getD _ _)
         obtain ⟨_, _, ⟨T206, L206, k206, n206⟩, -, X206, ⟨Lc206, hQ206, l206, y206, z206⟩, st206⟩ := Jvm.LawKit.callS X94 hx (y := (⟨"com/example/rank_keeper/rankkeeper/BodyLines", "isBlank", "([BII)Z"⟩ : MethodName)) hown (mvT hZ (kw66 hw)) (mvT hZ (kw67 hw)) (mvT hZ (kw3 hw)) (mvT hZ (kw68 hw)) (by decide) (backOf (W := 0) (rmBl_3 l Z a0 hw [] a1 (3 : Int32) nn b0 b1 b2 b3 kk T7.heap n0 Z7 f9 hn (own_lt1 hc171 (by decide))) hZ (kw68 hw) (kw3 hw) (by decide) (by decide)) (g := (mkF m 57 #[.val (.ref a1), .val (.ref b4), .val (.int 2), .val (.int 3), .val (.int 3)] [(.int 3), (.int 3), (.ref a1)])) rfl (by rw [hml]; rfl) (argsL := [(.ref a1), (.int 3), (.int 3)]) (rest := []) (lenOf pd_3 rfl) rfl (by show 2 * 0 + _ ≤ _; exact Nat.le_of_eq rfl) (hb hby d1_57) (fun _ _ => ⟨rfl, e94, (by decide : 3 + 0 ≤ _), (by decide : 23 + 0 ≤ _)⟩)
         dsimp only [Pt.U, Pt.locs, Pt.cells, Pt.slots] at X206 l206 y206 z206 st206 hQ206
         subst l206 y206 z206
         obtain ⟨rfl, N206q, e206⟩ := hQ206
         have N206 := Fr.app N94 N206q
         obtain ⟨cl207, Ar207, -, S207, N207', -, -⟩ := id f9
         have hsp : own_split nn b0 b1 b2 b3 = [] := by unfold own_split; rw [if_pos hc12, if_pos hc14, if_pos hc18, if_neg hc22, if_neg hc96, if_pos hc171, if_neg hc173]
         have f208 := (A4.keep Kq7)
         obtain ⟨fs, hr, hrun, hended, hRE⟩ := X206.leaveW hS2 (by rw [e206]; exact Y7) (v := some (.ref b4)) (fun h => by rw [Bd.returns] at h; cases h)
         refine ⟨_, _, pre172 _ ?_, hrun, hended, _, _, rfl, ?_, hRE.1, hRE.2.1, hRE.2.2.1, hRE.2.2.2.mono (by decide) (by decide)⟩
         · skip
           refine XS.iload X94.here hx rfl (hb hby d1_31) rfl ?_
           refine XS.aloadN X94.here hx rfl (hb hby d1_33) rfl rfl ?_
           refine X94.arraylength hx (by rw [e94]; exact Ar204.1) (State.isArrayOf_alike hZ.alike Ar204.2.1) (g := (mkF m 34 #[.val (.ref a1), .val (.ref b4), .val (.int 2), .val (.int 3), .val (.int 3)] [(.ref a1), (.int 3)])) rfl rfl (hb hby d1_34) _ ?_
           rw [len_of S204 N204']
           refine XS.icmpNo X94.here hx rfl (hb hby d1_35) rfl (tlt hc171).2.1 ?_
           refine XS.aloadN X94.here hx rfl (hb hby d1_38) rfl rfl ?_
           refine XS.iload X94.here hx rfl (hb hby d1_39) rfl ?_
           refine X94.baloadBytes hx (j := (3 : Int32)) (v := (.int (own_b b0 b1 b2 b3 (3 : Int32)))) (by rw [e94]; exact Ar205.1) (State.isArrayOf_alike hZ.alike Ar205.2.1) Ar205.2.2 hin205 hat205 (g := (mkF m 41 #[.val (.ref a1), .val (.ref b4), .val (.int 2), .val (.int 3), .val (.int 3)] [(.int 3), (.ref a1)])) rfl rfl (hb hby d1_41) _ ?_
           refine XS.bipush X94.here hx rfl (hb hby d1_42) ?_
           refine XS.icmpYes X94.here hx rfl (pc0 := 44) (pc' := 53) rfl (hb hby d1_44) rfl (teq (Decidable.byContradiction fun q => hc173 ⟨hc171, q⟩)).1 (by decide) (by decide) ?_
           refine XS.aloadN X94.here hx rfl (hb hby d1_53) rfl rfl ?_
           refine XS.iloadN X94.here hx rfl (hb hby d1_54) rfl ?_
           refine XS.iload X94.here hx rfl (hb hby d1_55) rfl ?_
           refine st206 _ ?_
           refine XS.ifYes X206.here hx rfl (pc0 := 60) (pc' := 83) rfl (hb hby d1_60) rfl ((if0 _ _).trans (feq (own_bls3 b0 b1 b2 b3)).2) (by decide) (by decide) ?_
           refine XS.iload X206.here hx rfl (hb hby d1_83) rfl ?_
           refine XS.iconst X206.here hx rfl (hb hby d1_85) ?_
           refine XS.iadd X206.here hx rfl (hb hby d1_86) rfl ?_
           refine XS.istoreN X206.here hx rfl (hb hby d1_87) rfl (l' := #[.val (.ref a1), .val (.ref b4), .val (.int 2), .val (.int 4), .val (.int 3)]) rfl ?_
           refine XS.goto X206.here hx rfl (pc0 := 88) (pc' := 19) rfl (hb hby d1_88) (by decide) (by decide) ?_
           refine XS.iloadN X206.here hx rfl (hb hby d1_19) rfl ?_
           refine XS.aloadN X206.here hx rfl (hb hby d1_20) rfl rfl ?_
           refine X206.arraylength hx (by rw [e206]; exact Ar207.1) (State.isArrayOf_alike hZ.alike Ar207.2.1) (g := (mkF m 21 #[.val (.ref a1), .val (.ref b4), .val (.int 2), .val (.int 4), .val (.int 3)] [(.ref a1), (.int 4)])) rfl rfl (hb hby d1_21) _ ?_
           rw [len_of S207 N207']
           refine XS.icmpYes X206.here hx rfl (pc0 := 22) (pc' := 91) rfl (hb hby d1_22) rfl (flt (own_ge4 hn (by decide))).2.1 (by decide) (by decide) ?_
           show Steps p.tables e below (T206.setTop (mkF m 91 #[.val (.ref a1), .val (.ref b4), .val (.int 2), .val (.int 4), .val (.int 3)] [])) _
           refine XS.aloadN X206.here hx rfl (hb hby d1_91) rfl rfl ?_
           show Steps p.tables e below (T206.setTop (mkF m 92 #[.val (.ref a1), .val (.ref b4), .val (.int 2), .val (.int 4), .val (.int 3)] [(.ref b4)])) _
           jvm_step X206.here [X206.here.top, hx, (hb hby d1_92), X206.method', Bd.returns, Value.isRef, FieldType.isReference]
           first | (intro acts; rw [hr _ acts rfl rfl rfl]) | rw [hr _ _ rfl rfl rfl]
           exact Steps.refl _
         · show Q_rmSplit Z a1 nn b0 b1 b2 b3 kk w_DEF kD h0 n0 _ T206.heap _
           rw [e206]
           exact ⟨b4, rfl, N206, K7, g_b4, sz_b4, f208, (by rw [hsp]; exact p7_2), (by rw [hsp]; exact own_lines0)⟩
       ·skip
        have hsp : own_split nn b0 b1 b2 b3 = [] := by unfold own_split; rw [if_pos hc12, if_pos hc14, if_pos hc18, if_neg hc22, if_neg hc96, if_neg hc171]
        have f210 := (A4.keep Kq7)
        obtain ⟨fs, hr, hrun, hended, hRE⟩ := X94.leaveW hS2 (by rw [e94]; exact Y7) (v := some (.ref b4)) (fun h => by rw [Bd.returns] at h; cases h)
        refine ⟨_, _, pre170 _ ?_, hrun, hended, _, _, rfl, ?_, hRE.1, hRE.2.1, hRE.2.2.1, hRE.2.2.2.mono (by decide) (by decide)⟩
        · skip
          refine XS.icmpYes X94.here hx rfl (pc0 := 22) (pc' := 91) rfl (hb hby d1_22) rfl (flt hc171).2.1 (by decide) (by decide) ?_
          refine XS.aloadN X94.here hx rfl (hb hby d1_91) rfl rfl ?_
          show Steps p.tables e below (T94.setTop (mkF m 92 #[.val (.ref a1), .val (.ref b4), .val (.int 1), .val (.int 3), .val (.int 2)] [(.ref b4)])) _
          jvm_step X94.here [X94.here.top, hx, (hb hby d1_92), X94.method', Bd.returns, Value.isRef, FieldType.isReference]
          first | (intro acts; rw [hr _ acts rfl rfl rfl]) | rw [hr _ _ rfl rfl rfl]
          exact Steps.refl _
        · show Q_rmSplit Z a1 nn b0 b1 b2 b3 kk w_DEF kD h0 n0 _ T94.heap _
          rw [e94]
          exact ⟨b4, rfl, N94, K7, g_b4, sz_b4, f210, (by rw [hsp]; exact p7_2), (by rw [hsp]; exact own_lines0)⟩
    ·skip
     obtain ⟨cl212, Ar212, -, S212, N212', -, -⟩ := id f9
     have pre213 : ∀ t, Steps p.tables e below (T7.setTop (mkF m 35 #[.val (.ref a1), .val (.ref b4), .val (.int 1), .val (.int 0), .val (.int 1)] [(.int nn), (.int 1)])) t → Steps p.tables e below (s₁.setTop (entryFrame m #[(.ref a1)] 5)) t := fun t k => pre17 t (by
       refine XS.iload X7.here hx rfl (hb hby d1_31) rfl ?_
       refine XS.aloadN X7.here hx rfl (hb hby d1_33) rfl rfl ?_
       refine X7.arraylength hx Ar212.1 (State.isArrayOf_alike hZ.alike Ar212.2.1) (g := (mkF m 34 #[.val (.ref a1), .val (.ref b4), .val (.int 1), .val (.int 0), .val (.int 1)] [(.ref a1), (.int 1)])) rfl rfl (hb hby d1_34) _ ?_
       rw [len_of S212 N212']
       exact k)
     obtain ⟨LJ214, TJ214, XJ214, NJ214, eJ214, pre214⟩ : ∃ (LL : List Loc) (T' : State), Stand p l e ({ frames := 5, cells := 6, slots := 39, locals := 69 } : Room) (s.setVm T2.vm) m #[(.ref a1)] below meth c T' LL 3 23 ∧ Fr n0 LL ∧ T'.heap = T7.heap ∧ ∀ t, Steps p.tables e below (T'.setTop (mkF m 53 #[.val (.ref a1), .val (.ref b4), .val (.int 1), .val (.int 0), .val (.int 1)] [])) t → Steps p.tables e below (s₁.setTop (entryFrame m #[(.ref a1)] 5)) t := by
       by_cases hc215 : (1 : Int32) < nn
       ·skip
        obtain ⟨cl216, Ar216, q216, S216, N216', H216, G216⟩ := id f9
        have hin216 : ¬ ((1 : Int32) < 0 ∨ cl216.slots.size ≤ ((1 : Int32)).toNatClampNeg) := inb_of S216 ⟨by decide, hc215⟩
        have hat216 : cl216.slots[((1 : Int32)).toNatClampNeg]? = some (.int (own_b b0 b1 b2 b3 (1 : Int32))) := H216.at hin216 (own_is_getD _ _)
        refine ⟨_, _, X7, N7, rfl, fun t k => pre213 t ?_⟩
        refine XS.icmpNo X7.here hx rfl (hb hby d1_35) rfl (tlt hc215).2.1 ?_
        refine XS.aloadN X7.here hx rfl (hb hby d1_38) rfl rfl ?_
        refine XS.iload X7.here hx rfl (hb hby d1_39) rfl ?_
        refine X7.baloadBytes hx (j := (1 : Int32)) (v := (.int (own_b b0 b1 b2 b3 (1 : Int32)))) Ar216.1 (State.isArrayOf_alike hZ.alike Ar216.2.1) Ar216.2.2 hin216 hat216 (g := (mkF m 41 #[.val (.ref a1), .val (.ref b4), .val (.int 1), .val (.int 0), .val (.int 1)] [(.int 1), (.ref a1)])) rfl rfl (hb hby d1_41) _ ?_
        refine XS.bipush X7.here hx rfl (hb hby d1_42) ?_
        refine XS.icmpYes X7.here hx rfl (pc0 := 44) (pc' := 53) rfl (hb hby d1_44) rfl (teq (Decidable.byContradiction fun q => hc18 ⟨hc215, q⟩)).1 (by decide) (by decide) ?_
        exact k
       ·skip
        refine ⟨_, _, X7, N7, rfl, fun t k => pre213 t ?_⟩
        refine XS.icmpYes X7.here hx rfl (pc0 := 35) (pc' := 53) rfl (hb hby d1_35) rfl (flt hc215).2.1 (by decide) (by decide) ?_
        exact k
     obtain ⟨_, _, ⟨T217, L217, k217, n217⟩, -, X217, ⟨Lc217, hQ217, l217, y217, z217⟩, st217⟩ := Jvm.LawKit.callS XJ214 hx (y := (⟨"com/example/rank_keeper/rankkeeper/BodyLines", "isBlank", "([BII)Z"⟩ : MethodName)) hown (mvT hZ (kw66 hw)) (mvT hZ (kw67 hw)) (mvT hZ (kw3 hw)) (mvT hZ (kw68 hw)) (by decide) (backOf (W := 0) (rmBl_0 l Z a0 hw [] a1 (1 : Int32) nn b0 b1 b2 b3 kk T7.heap n0 Z7 f9 hn (own_lt1 hc14.1 (by decide))) hZ (kw68 hw) (kw3 hw) (by decide) (by decide)) (g := (mkF m 57 #[.val (.ref a1), .val (.ref b4), .val (.int 1), .val (.int 0), .val (.int 1)] [(.int 1), (.int 0), (.ref a1)])) rfl (by rw [hml]; rfl) (argsL := [(.ref a1), (.int 0), (.int 1)]) (rest := []) (lenOf pd_3 rfl) rfl (by show 2 * 0 + _ ≤ _; exact Nat.le_of_eq rfl) (hb hby d1_57) (fun _ _ => ⟨rfl, eJ214, (by decide : 3 + 0 ≤ _), (by decide : 23 + 0 ≤ _)⟩)
     dsimp only [Pt.U, Pt.locs, Pt.cells, Pt.slots] at X217 l217 y217 z217 st217 hQ217
     subst l217 y217 z217
     obtain ⟨rfl, N217q, e217⟩ := hQ217
     have N217 := Fr.app NJ214 N217q
     have pre218 : ∀ t, Steps p.tables e below (T217.setTop (mkF m 60 #[.val (.ref a1), .val (.ref b4), .val (.int 1), .val (.int 0), .val (.int 1)] [(.int (own_bl_0 b0 b1 b2 b3 (1 : Int32)))])) t → Steps p.tables e below (s₁.setTop (entryFrame m #[(.ref a1)] 5)) t := fun t k => pre214 t (by
       refine XS.aloadN XJ214.here hx rfl (hb hby d1_53) rfl rfl ?_
       refine XS.iloadN XJ214.here hx rfl (hb hby d1_54) rfl ?_
       refine XS.iload XJ214.here hx rfl (hb hby d1_55) rfl ?_
       refine st217 _ ?_
       exact k)
     by_cases hc219 : (own_bl_0 b0 b1 b2 b3 (1 : Int32)) = (0 : Int32)
     ·skip
      have f221 := (A4.keep Kq7)
      have f222 := ((f6.ext E4).keep Kq7 (ninS ne4_w_DEF nin0))
      obtain ⟨T220, h220, X220, e220, E220, A220, D220, -, st220⟩ := newO X217 hx hZ hown (kw69 hw) (kw70 hw) (kw71 hw) e217 (g := (mkF m 64 #[.val (.ref a1), .val (.ref b4), .val (.int 1), .val (.int 0), .val (.int 1)] [(.ref b4)])) rfl (hb hby d1_64) (by decide) (by decide)
      obtain ⟨b220, g220⟩ : ∃ z, z = T7.heap.size := ⟨_, rfl⟩
      rw [← g220] at A220 D220 st220
      have ne220_a1 : a1 ≠ b220 := Nat.ne_of_lt (Nat.lt_of_lt_of_le f9.lt (Nat.le_of_eq g220.symm))
      have ne220_b4 : b4 ≠ b220 := Nat.ne_of_lt (Nat.lt_of_lt_of_le f221.lt (Nat.le_of_eq g220.symm))
      have ne220_w_DEF : w_DEF ≠ b220 := Nat.ne_of_lt (Nat.lt_of_lt_of_le f222.lt (Nat.le_of_eq g220.symm))
      have g_b220 : n0 ≤ b220 := Nat.le_trans Z7 (Nat.le_of_eq g220.symm)
      have sz_b220 : h0.size ≤ b220 := Nat.le_trans K7.1 (Nat.le_of_eq g220.symm)
      have Z220 : n0 ≤ h220.size := Nat.le_trans Z7 E220.1
      have Y220 : kS2 ≤ h220.size := Nat.le_trans Y7 E220.1
      have K220 : Keep h0 h220 [] := K7.ext E220
      have F220_number : Fld Z h220 b220 "com/example/rank_keeper/rankkeeper/BodyLines$Line" "number" "I" (.int 0) := D220 (Or.inr (kw82 hw)) (ty := .int) (by decide)
      have F220_offset : Fld Z h220 b220 "com/example/rank_keeper/rankkeeper/BodyLines$Line" "offset" "I" (.int 0) := D220 (Or.inr (kw84 hw)) (ty := .int) (by decide)
      have F220_length : Fld Z h220 b220 "com/example/rank_keeper/rankkeeper/BodyLines$Line" "length" "I" (.int 0) := D220 (Or.inr (kw86 hw)) (ty := .int) (by decide)
      obtain ⟨_, _, ⟨T223, L223, k223, n223⟩, -, X223, ⟨Lc223, hQ223, l223, y223, z223⟩, st223⟩ := X220.specialBack hx (y := (⟨"com/example/rank_keeper/rankkeeper/BodyLines$Line", "<init>", "(III)V"⟩ : MethodName)) rfl hown (mvT hZ (kw72 hw)) (mvT hZ (kw73 hw)) (mvT hZ (kw74 hw)) (by decide) (backOf (W := 2) (rm13 l Z a0 hw [] b220 (1 : Int32) (0 : Int32) (1 : Int32) h220 n0 Z220 A220 g_b220 F220_number F220_offset F220_length) hZ (kw74 hw) (kw71 hw) (by decide) (by decide)) (g := (mkF m 74 #[.val (.ref a1), .val (.ref b4), .val (.int 1), .val (.int 0), .val (.int 1)] [(.int 1), (.int 0), (.int 1), (.ref b220), (.ref b220), (.ref b4)])) rfl (by rw [hml]; rfl) (Steps.refl _) (a := b220) (argsL := [(.int 1), (.int 0), (.int 1)]) (rest := [(.ref b220), (.ref b4)]) (lenOf pd_13 rfl) rfl (by show 2 * 0 + _ ≤ _; exact Nat.le_of_eq rfl) (hb hby d1_74) (fun _ _ => ⟨rfl, e220, (by decide : 4 + 0 ≤ _), (by decide : 26 + 0 ≤ _)⟩)
      dsimp only [Pt.U, Pt.locs, Pt.cells, Pt.slots] at X223 l223 y223 z223 st223 hQ223
      subst l223 y223 z223
      obtain ⟨rfl, N223q, Kq223, p223_0, p223_1, p223_2⟩ := hQ223
      have N223 := Fr.app N217 N223q
      have Z223 : n0 ≤ T223.heap.size := Nat.le_trans Z220 Kq223.1
      have Y223 : kS2 ≤ T223.heap.size := Nat.le_trans Y220 Kq223.1
      have K223 : Keep h0 T223.heap [] := K220.trans Kq223 (allS (Or.inr sz_b220) all0)
      have f225 := (((f8.keep Kq7 (allS g_b4 all0)).ext E220).keep Kq223 (allS g_b220 all0))
      have f226 := ((f221.ext E220).keep Kq223)
      have f227 := (A220.keep Kq223)
      have f228 := ((p7_1.ext E220).keep Kq223 (ninS ne220_b4 nin0))
      have f229 := ((p7_2.ext E220).keep Kq223 (ninS ne220_b4 nin0))
      have f230 := ((p7_0.ext E220).keep Kq223 (ninS ne220_b4 nin0))
      have f231 := ((f222.ext E220).keep Kq223 (ninS ne220_w_DEF nin0))
      have f232 := ((f9.ext E220).keep Kq223 (ninS ne220_a1 nin0))
      obtain ⟨cq224, kq224, q224a, q224b, q224c⟩ := isOf hZ rfl f226
      obtain ⟨_, _, ⟨T224, L224, k224, n224⟩, -, X224, ⟨Lc224, hQ224, l224, y224, z224⟩, st224⟩ := X223.interfaceBack hx (xi := (⟨"java/util/List", "add", "(Ljava/lang/Object;)Z"⟩ : MethodName)) (y := (⟨"java/util/ArrayList", "add", "(Ljava/lang/Object;)Z"⟩ : MethodName)) hown (mvT hZ (kw87 hw)) (mvT hZ (kw88 hw)) (mvT hZ (kw89 hw)) (mvT hZ (kw90 hw)) (mvT hZ (kw91 hw)) (mvT hZ (kw92 hw)) (mvT hZ (kw93 hw)) (mvT hZ (kw56 hw)) (by decide) (backOf (W := 0) (rmAdd0 l Z a0 hw [] b4 b220 w_DEF kD (0 : Int32) T223.heap n0 Z223 f225 P1 f226 g_b4 f227 f228 f229 f230 f231 ne4_w_DEF) hZ (kw94 hw) (kw18 hw) (by decide) (by decide)) q224a q224b q224c (g := (mkF m 77 #[.val (.ref a1), .val (.ref b4), .val (.int 1), .val (.int 0), .val (.int 1)] [(.ref b220), (.ref b4)])) rfl (by rw [hml]; rfl) (Steps.refl _) (argsL := [(.ref b220)]) (rest := []) (lenOf pd_14 rfl) rfl (by show 2 * 0 + _ ≤ _; exact Nat.le_of_eq rfl) (hb hby d1_77) (fun _ _ => ⟨rfl, rfl, (by decide : 4 + 1 ≤ _), (by decide : 26 + 10 ≤ _)⟩)
      dsimp only [Pt.U, Pt.locs, Pt.cells, Pt.slots] at X224 l224 y224 z224 st224 hQ224
      subst l224 y224 z224
      obtain ⟨ed_224, kd_224, rfl, N224q, Kq224, p224_0, p224_1, p224_2, p224_3, p224_4, p224_5, p224_6⟩ := hQ224
      have N224 := Fr.app N223 N224q
      have Z224 : n0 ≤ T224.heap.size := Nat.le_trans Z223 Kq224.1
      have Y224 : kS2 ≤ T224.heap.size := Nat.le_trans Y223 Kq224.1
      have K224 : Keep h0 T224.heap [] := K223.trans Kq224 (allS (Or.inr sz_b4) all0)
      have sz_ed_224 : h0.size ≤ ed_224 := Nat.le_trans K223.1 p224_1
      have ne224_a1_ed_224 : a1 ≠ ed_224 := Nat.ne_of_lt (Nat.lt_of_lt_of_le f232.lt p224_1)
      have ne224_b220_ed_224 : b220 ≠ ed_224 := Nat.ne_of_lt (Nat.lt_of_lt_of_le f227.lt p224_1)
      have ne224_b4_ed_224 : b4 ≠ ed_224 := Nat.ne_of_lt (Nat.lt_of_lt_of_le f226.lt p224_1)
      have ne224_w_DEF_ed_224 : w_DEF ≠ ed_224 := Nat.ne_of_lt (Nat.lt_of_lt_of_le f231.lt p224_1)
      have f233 := (f232.keep Kq224 (ninS ne4_a1 nin0))
      obtain ⟨cl234, Ar234, -, S234, N234', -, -⟩ := id f233
      have pre235 : ∀ t, Steps p.tables e below (T224.setTop (mkF m 22 #[.val (.ref a1), .val (.ref b4), .val (.int 1), .val (.int 2), .val (.int 1)] [(.int nn), (.int 2)])) t → Steps p.tables e below (s₁.setTop (entryFrame m #[(.ref a1)] 5)) t := fun t k => pre218 t (by
        refine XS.ifNo X217.here hx rfl (hb hby d1_60) rfl ((if0 _ _).trans (teq hc219).2) ?_
        refine XS.aloadN X217.here hx rfl (hb hby d1_63) rfl rfl ?_
        refine st220 _ ?_
        refine XS.dup X220.here hx rfl (hb hby d1_67) rfl rfl ?_
        refine XS.iloadN X220.here hx rfl (hb hby d1_68) rfl ?_
        refine XS.iloadN X220.here hx rfl (hb hby d1_69) rfl ?_
        refine XS.iload X220.here hx rfl (hb hby d1_70) rfl ?_
        refine XS.iloadN X220.here hx rfl (hb hby d1_72) rfl ?_
        refine XS.isub X220.here hx rfl (hb hby d1_73) rfl ?_
        refine st223.trans ?_
        refine st224.trans ?_
        refine XS.pop X224.here hx rfl (hb hby d1_82) rfl rfl ?_
        refine XS.iload X224.here hx rfl (hb hby d1_83) rfl ?_
        refine XS.iconst X224.here hx rfl (hb hby d1_85) ?_
        refine XS.iadd X224.here hx rfl (hb hby d1_86) rfl ?_
        refine XS.istoreN X224.here hx rfl (hb hby d1_87) rfl (l' := #[.val (.ref a1), .val (.ref b4), .val (.int 1), .val (.int 2), .val (.int 1)]) rfl ?_
        refine XS.goto X224.here hx rfl (pc0 := 88) (pc' := 19) rfl (hb hby d1_88) (by decide) (by decide) ?_
        refine XS.iloadN X224.here hx rfl (hb hby d1_19) rfl ?_
        refine XS.aloadN X224.here hx rfl (hb hby d1_20) rfl rfl ?_
        refine X224.arraylength hx Ar234.1 (State.isArrayOf_alike hZ.alike Ar234.2.1) (g := (mkF m 21 #[.val (.ref a1), .val (.ref b4), .val (.int 1), .val (.int 2), .val (.int 1)] [(.ref a1), (.int 2)])) rfl rfl (hb hby d1_21) _ ?_
        rw [len_of S234 N234']
        exact k)
      by_cases hc236 : (2 : Int32) < nn
      ·skip
       have pre237 : ∀ t, Steps p.tables e below (T224.setTop (mkF m 31 #[.val (.ref a1), .val (.ref b4), .val (.int 2), .val (.int 2), .val (.int 2)] [])) t → Steps p.tables e below (s₁.setTop (entryFrame m #[(.ref a1)] 5)) t := fun t k => pre235 t (by
         refine XS.icmpNo X224.here hx rfl (hb hby d1_22) rfl (tlt hc236).2.1 ?_
         refine XS.iinc X224.here hx rfl (hb hby d1_25) rfl (l' := #[.val (.ref a1), .val (.ref b4), .val (.int 2), .val (.int 2), .val (.int 1)]) rfl ?_
         refine XS.iloadN X224.here hx rfl (hb hby d1_28) rfl ?_
         refine XS.istore X224.here hx rfl (hb hby d1_29) rfl (l' := #[.val (.ref a1), .val (.ref b4), .val (.int 2), .val (.int 2), .val (.int 2)]) rfl ?_
         exact k)
       by_cases hc238 : (2 : Int32) < nn ∧ ¬ (own_b b0 b1 b2 b3 (2 : Int32)) = (10 : Int32)
       ·skip
        obtain ⟨cl239, Ar239, -, S239, N239', -, -⟩ := id f233
        obtain ⟨cl240, Ar240, q240, S240, N240', H240, G240⟩ := id f233
        have hin240 : ¬ ((2 : Int32) < 0 ∨ cl240.slots.size ≤ ((2 : Int32)).toNatClampNeg) := inb_of S240 ⟨by decide, hc238.1⟩
        have hat240 : cl240.slots[((2 : Int32)).toNatClampNeg]? = some (.int (own_b b0 b1 b2 b3 (2 : Int32))) := H240.at hin240 (own_is_getD _ _)
        have pre241 : ∀ t, Steps p.tables e below (T224.setTop (mkF m 31 #[.val (.ref a1), .val (.ref b4), .val (.int 2), .val (.int 2), .val (.int 3)] [])) t → Steps p.tables e below (s₁.setTop (entryFrame m #[(.ref a1)] 5)) t := fun t k => pre237 t (by
          refine XS.iload X224.here hx rfl (hb hby d1_31) rfl ?_
          refine XS.aloadN X224.here hx rfl (hb hby d1_33) rfl rfl ?_
          refine X224.arraylength hx Ar239.1 (State.isArrayOf_alike hZ.alike Ar239.2.1) (g := (mkF m 34 #[.val (.ref a1), .val (.ref b4), .val (.int 2), .val (.int 2), .val (.int 2)] [(.ref a1), (.int 2)])) rfl rfl (hb hby d1_34) _ ?_
          rw [len_of S239 N239']
          refine XS.icmpNo X224.here hx rfl (hb hby d1_35) rfl (tlt hc238.1).2.1 ?_
          refine XS.aloadN X224.here hx rfl (hb hby d1_38) rfl rfl ?_
          refine XS.iload X224.here hx rfl (hb hby d1_39) rfl ?_
          refine X224.baloadBytes hx (j := (2 : Int32)) (v := (.int (own_b b0 b1 b2 b3 (2 : Int32)))) Ar240.1 (State.isArrayOf_alike hZ.alike Ar240.2.1) Ar240.2.2 hin240 hat240 (g := (mkF m 41 #[.val (.ref a1), .val (.ref b4), .val (.int 2), .val (.int 2), .val (.int 2)] [(.int 2), (.ref a1)])) rfl rfl (hb hby d1_41) _ ?_
          refine XS.bipush X224.here hx rfl (hb hby d1_42) ?_
          refine XS.icmpNo X224.here hx rfl (hb hby d1_44) rfl (feq hc238.2).1 ?_
          refine XS.iinc X224.here hx rfl (hb hby d1_47) rfl (l' := #[.val (.ref a1), .val (.ref b4), .val (.int 2), .val (.int 2), .val (.int 3)]) rfl ?_
          refine XS.goto X224.here hx rfl (pc0 := 50) (pc' := 31) rfl (hb hby d1_50) (by decide) (by decide) ?_
          exact k)
        by_cases hc242 : (3 : Int32) < nn ∧ ¬ (own_b b0 b1 b2 b3 (3 : Int32)) = (10 : Int32)
        ·skip
         obtain ⟨cl243, Ar243, -, S243, N243', -, -⟩ := id f233
         obtain ⟨cl244, Ar244, q244, S244, N244', H244, G244⟩ := id f233
         have hin244 : ¬ ((3 : Int32) < 0 ∨ cl244.slots.size ≤ ((3 : Int32)).toNatClampNeg) := inb_of S244 ⟨by decide, hc242.1⟩
         have hat244 : cl244.slots[((3 : Int32)).toNatClampNeg]? = some (.int (own_b b0 b1 b2 b3 (3 : Int32))) := H244.at hin244 (own_is_getD _ _)
         obtain ⟨cl245, Ar245, -, S245, N245', -, -⟩ := id f233
         obtain ⟨_, _, ⟨T246, L246, k246, n246⟩, -, X246, ⟨Lc246, hQ246, l246, y246, z246⟩, st246⟩ := Jvm.LawKit.callS X224 hx (y := (⟨"com/example/rank_keeper/rankkeeper/BodyLines", "isBlank", "([BII)Z"⟩ : MethodName)) hown (mvT hZ (kw66 hw)) (mvT hZ (kw67 hw)) (mvT hZ (kw3 hw)) (mvT hZ (kw68 hw)) (by decide) (backOf (W := 0) (rmBl_2 l Z a0 hw [] a1 (4 : Int32) nn b0 b1 b2 b3 kk T224.heap n0 Z224 f233 hn (own_lt1 hc242.1 (by decide))) hZ (kw68 hw) (kw3 hw) (by decide) (by decide)) (g := (mkF m 57 #[.val (.ref a1), .val (.ref b4), .val (.int 2), .val (.int 2), .val (.int 4)] [(.int 4), (.int 2), (.ref a1)])) rfl (by rw [hml]; rfl) (argsL := [(.ref a1), (.int 2), (.int 4)]) (rest := []) (lenOf pd_3 rfl) rfl (by show 2 * 0 + _ ≤ _; exact Nat.le_of_eq rfl) (hb hby d1_57) (fun _ _ => ⟨rfl, rfl, (by decide : 5 + 0 ≤ _), (by decide : 36 + 0 ≤ _)⟩)
         dsimp only [Pt.U, Pt.locs, Pt.cells, Pt.slots] at X246 l246 y246 z246 st246 hQ246
         subst l246 y246 z246
         obtain ⟨rfl, N246q, e246⟩ := hQ246
         have N246 := Fr.app N224 N246q
         have pre247 : ∀ t, Steps p.tables e below (T246.setTop (mkF m 60 #[.val (.ref a1), .val (.ref b4), .val (.int 2), .val (.int 2), .val (.int 4)] [(.int (own_bl_2 b0 b1 b2 b3 (4 : Int32)))])) t → Steps p.tables e below (s₁.setTop (entryFrame m #[(.ref a1)] 5)) t := fun t k => pre241 t (by
           refine XS.iload X224.here hx rfl (hb hby d1_31) rfl ?_
           refine XS.aloadN X224.here hx rfl (hb hby d1_33) rfl rfl ?_
           refine X224.arraylength hx Ar243.1 (State.isArrayOf_alike hZ.alike Ar243.2.1) (g := (mkF m 34 #[.val (.ref a1), .val (.ref b4), .val (.int 2), .val (.int 2), .val (.int 3)] [(.ref a1), (.int 3)])) rfl rfl (hb hby d1_34) _ ?_
           rw [len_of S243 N243']
           refine XS.icmpNo X224.here hx rfl (hb hby d1_35) rfl (tlt hc242.1).2.1 ?_
           refine XS.aloadN X224.here hx rfl (hb hby d1_38) rfl rfl ?_
           refine XS.iload X224.here hx rfl (hb hby d1_39) rfl ?_
           refine X224.baloadBytes hx (j := (3 : Int32)) (v := (.int (own_b b0 b1 b2 b3 (3 : Int32)))) Ar244.1 (State.isArrayOf_alike hZ.alike Ar244.2.1) Ar244.2.2 hin244 hat244 (g := (mkF m 41 #[.val (.ref a1), .val (.ref b4), .val (.int 2), .val (.int 2), .val (.int 3)] [(.int 3), (.ref a1)])) rfl rfl (hb hby d1_41) _ ?_
           refine XS.bipush X224.here hx rfl (hb hby d1_42) ?_
           refine XS.icmpNo X224.here hx rfl (hb hby d1_44) rfl (feq hc242.2).1 ?_
           refine XS.iinc X224.here hx rfl (hb hby d1_47) rfl (l' := #[.val (.ref a1), .val (.ref b4), .val (.int 2), .val (.int 2), .val (.int 4)]) rfl ?_
           refine XS.goto X224.here hx rfl (pc0 := 50) (pc' := 31) rfl (hb hby d1_50) (by decide) (by decide) ?_
           refine XS.iload X224.here hx rfl (hb hby d1_31) rfl ?_
           refine XS.aloadN X224.here hx rfl (hb hby d1_33) rfl rfl ?_
           refine X224.arraylength hx Ar245.1 (State.isArrayOf_alike hZ.alike Ar245.2.1) (g := (mkF m 34 #[.val (.ref a1), .val (.ref b4), .val (.int 2), .val (.int 2), .val (.int 4)] [(.ref a1), (.int 4)])) rfl rfl (hb hby d1_34) _ ?_
           rw [len_of S245 N245']
           refine XS.icmpYes X224.here hx rfl (pc0 := 35) (pc' := 53) rfl (hb hby d1_35) rfl (flt (own_ge4 hn (by decide))).2.1 (by decide) (by decide) ?_
           refine XS.aloadN X224.here hx rfl (hb hby d1_53) rfl rfl ?_
           refine XS.iloadN X224.here hx rfl (hb hby d1_54) rfl ?_
           refine XS.iload X224.here hx rfl (hb hby d1_55) rfl ?_
           refine st246 _ ?_
           exact k)
         by_cases hc248 : (own_bl_2 b0 b1 b2 b3 (4 : Int32)) = (0 : Int32)
         ·skip
          have f250 := (f227.keep Kq224)
          have f251 := (f226.keep Kq224)
          have f252 := (f231.keep Kq224 (ninS ne4_w_DEF nin0))
          obtain ⟨T249, h249, X249, e249, E249, A249, D249, -, st249⟩ := newO X246 hx hZ hown (kw69 hw) (kw70 hw) (kw71 hw) e246 (g := (mkF m 64 #[.val (.ref a1), .val (.ref b4), .val (.int 2), .val (.int 2), .val (.int 4)] [(.ref b4)])) rfl (hb hby d1_64) (by decide) (by decide)
          obtain ⟨b249, g249⟩ : ∃ z, z = T224.heap.size := ⟨_, rfl⟩
          rw [← g249] at A249 D249 st249
          have ne249_a1 : a1 ≠ b249 := Nat.ne_of_lt (Nat.lt_of_lt_of_le f233.lt (Nat.le_of_eq g249.symm))
          have ne249_b220 : b220 ≠ b249 := Nat.ne_of_lt (Nat.lt_of_lt_of_le f250.lt (Nat.le_of_eq g249.symm))
          have ne249_b4 : b4 ≠ b249 := Nat.ne_of_lt (Nat.lt_of_lt_of_le f251.lt (Nat.le_of_eq g249.symm))
          have ne249_ed_224 : ed_224 ≠ b249 := Nat.ne_of_lt (Nat.lt_of_lt_of_le p224_2.lt (Nat.le_of_eq g249.symm))
          have ne249_w_DEF : w_DEF ≠ b249 := Nat.ne_of_lt (Nat.lt_of_lt_of_le f252.lt (Nat.le_of_eq g249.symm))
          have g_b249 : n0 ≤ b249 := Nat.le_trans Z224 (Nat.le_of_eq g249.symm)
          have sz_b249 : h0.size ≤ b249 := Nat.le_trans K224.1 (Nat.le_of_eq g249.symm)
          have Z249 : n0 ≤ h249.size := Nat.le_trans Z224 E249.1
          have Y249 : kS2 ≤ h249.size := Nat.le_trans Y224 E249.1
          have K249 : Keep h0 h249 [] := K224.ext E249
          have F249_number : Fld Z h249 b249 "com/example/rank_keeper/rankkeeper/BodyLines$Line" "number" "I" (.int 0) := D249 (Or.inr (kw82 hw)) (ty := .int) (by decide)
          have F249_offset : Fld Z h249 b249 "com/example/rank_keeper/rankkeeper/BodyLines$Line" "offset" "I" (.int 0) := D249 (Or.inr (kw84 hw)) (ty := .int) (by decide)
          have F249_length : Fld Z h249 b249 "com/example/rank_keeper/rankkeeper/BodyLines$Line" "length" "I" (.int 0) := D249 (Or.inr (kw86 hw)) (ty := .int) (by decide)
          obtain ⟨_, _, ⟨T253, L253, k253, n253⟩, -, X253, ⟨Lc253, hQ253, l253, y253, z253⟩, st253⟩ := X249.specialBack hx (y := (⟨"com/example/rank_keeper/rankkeeper/BodyLines$Line", "<init>", "(III)V"⟩ : MethodName)) rfl hown (mvT hZ (kw72 hw)) (mvT hZ (kw73 hw)) (mvT hZ (kw74 hw)) (by decide) (backOf (W := 2) (rm13 l Z a0 hw [] b249 (2 : Int32) (2 : Int32) (2 : Int32) h249 n0 Z249 A249 g_b249 F249_number F249_offset F249_length) hZ (kw74 hw) (kw71 hw) (by decide) (by decide)) (g := (mkF m 74 #[.val (.ref a1), .val (.ref b4), .val (.int 2), .val (.int 2), .val (.int 4)] [(.int 2), (.int 2), (.int 2), (.ref b249), (.ref b249), (.ref b4)])) rfl (by rw [hml]; rfl) (Steps.refl _) (a := b249) (argsL := [(.int 2), (.int 2), (.int 2)]) (rest := [(.ref b249), (.ref b4)]) (lenOf pd_13 rfl) rfl (by show 2 * 0 + _ ≤ _; exact Nat.le_of_eq rfl) (hb hby d1_74) (fun _ _ => ⟨rfl, e249, (by decide : 6 + 0 ≤ _), (by decide : 39 + 0 ≤ _)⟩)
          dsimp only [Pt.U, Pt.locs, Pt.cells, Pt.slots] at X253 l253 y253 z253 st253 hQ253
          subst l253 y253 z253
          obtain ⟨rfl, N253q, Kq253, p253_0, p253_1, p253_2⟩ := hQ253
          have N253 := Fr.app N246 N253q
          have Z253 : n0 ≤ T253.heap.size := Nat.le_trans Z249 Kq253.1
          have Y253 : kS2 ≤ T253.heap.size := Nat.le_trans Y249 Kq253.1
          have K253 : Keep h0 T253.heap [] := K249.trans Kq253 (allS (Or.inr sz_b249) all0)
          have f255 := ((f251.ext E249).keep Kq253)
          have f256 := (A249.keep Kq253)
          have f257 := ((p224_3.ext E249).keep Kq253 (ninS ne249_b4 nin0))
          have f258 := ((p224_4.ext E249).keep Kq253 (ninS ne249_b4 nin0))
          have f259 := ((p224_5.ext E249).keep Kq253 (ninS ne249_b4 nin0))
          have f260 := ((p224_2.ext E249).keep Kq253 (ninS ne249_ed_224 nin0))
          obtain ⟨cq254, kq254, q254a, q254b, q254c⟩ := isOf hZ rfl f255
          obtain ⟨_, _, ⟨T254, L254, k254, n254⟩, -, X254, ⟨Lc254, hQ254, l254, y254, z254⟩, st254⟩ := X253.interfaceBack hx (xi := (⟨"java/util/List", "add", "(Ljava/lang/Object;)Z"⟩ : MethodName)) (y := (⟨"java/util/ArrayList", "add", "(Ljava/lang/Object;)Z"⟩ : MethodName)) hown (mvT hZ (kw87 hw)) (mvT hZ (kw88 hw)) (mvT hZ (kw89 hw)) (mvT hZ (kw90 hw)) (mvT hZ (kw91 hw)) (mvT hZ (kw92 hw)) (mvT hZ (kw93 hw)) (mvT hZ (kw56 hw)) (by decide) (backOf (W := 0) (rmAdd1 l Z a0 hw [] b4 b249 ed_224 kd_224 ((0 : Int32) + (1 : Int32)) b220 T253.heap n0 Z253 f255 g_b4 f256 f257 f258 f259 f260 p224_0 (Ne.symm ne224_b4_ed_224) p224_6) hZ (kw94 hw) (kw18 hw) (by decide) (by decide)) q254a q254b q254c (g := (mkF m 77 #[.val (.ref a1), .val (.ref b4), .val (.int 2), .val (.int 2), .val (.int 4)] [(.ref b249), (.ref b4)])) rfl (by rw [hml]; rfl) (Steps.refl _) (argsL := [(.ref b249)]) (rest := []) (lenOf pd_14 rfl) rfl (by show 2 * 0 + _ ≤ _; exact Nat.le_of_eq rfl) (hb hby d1_77) (fun _ _ => ⟨rfl, rfl, (by decide : 6 + 0 ≤ _), (by decide : 39 + 0 ≤ _)⟩)
          dsimp only [Pt.U, Pt.locs, Pt.cells, Pt.slots] at X254 l254 y254 z254 st254 hQ254
          subst l254 y254 z254
          obtain ⟨rfl, N254q, Kq254, p254_0, p254_1, p254_2, p254_3⟩ := hQ254
          have N254 := Fr.app N253 N254q
          have Z254 : n0 ≤ T254.heap.size := Nat.le_trans Z253 Kq254.1
          have Y254 : kS2 ≤ T254.heap.size := Nat.le_trans Y253 Kq254.1
          have K254 : Keep h0 T254.heap [] := K253.trans Kq254 (allS (Or.inr sz_b4) (allS (Or.inr sz_ed_224) all0))
          have f261 := (((f233.ext E249).keep Kq253 (ninS ne249_a1 nin0)).keep Kq254 (ninS ne4_a1 (ninS ne224_a1_ed_224 nin0)))
          obtain ⟨cl262, Ar262, -, S262, N262', -, -⟩ := id f261
          have hsp : own_split nn b0 b1 b2 b3 = [((1 : Int32), (0 : Int32), (1 : Int32)), ((2 : Int32), (2 : Int32), (2 : Int32))] := by unfold own_split; rw [if_pos hc12, if_pos hc14, if_neg hc18, if_pos hc219, if_pos hc236, if_pos hc238, if_pos hc242, if_pos hc248]
          have f263 := (f255.keep Kq254)
          have f264 := (((f250.ext E249).keep Kq253).keep Kq254)
          have f265 := ((((p223_0.keep Kq224 (ninS (Ne.symm ne220_b4) nin0)).ext E249).keep Kq253 (ninS ne249_b220 nin0)).keep Kq254 (ninS (Ne.symm ne220_b4) (ninS ne224_b220_ed_224 nin0)))
          have f266 := ((((p223_1.keep Kq224 (ninS (Ne.symm ne220_b4) nin0)).ext E249).keep Kq253 (ninS ne249_b220 nin0)).keep Kq254 (ninS (Ne.symm ne220_b4) (ninS ne224_b220_ed_224 nin0)))
          have f267 := ((((p223_2.keep Kq224 (ninS (Ne.symm ne220_b4) nin0)).ext E249).keep Kq253 (ninS ne249_b220 nin0)).keep Kq254 (ninS (Ne.symm ne220_b4) (ninS ne224_b220_ed_224 nin0)))
          have f268 := (f256.keep Kq254)
          have f269 := (p253_0.keep Kq254 (ninS (Ne.symm ne249_b4) (ninS (Ne.symm ne249_ed_224) nin0)))
          have f270 := (p253_1.keep Kq254 (ninS (Ne.symm ne249_b4) (ninS (Ne.symm ne249_ed_224) nin0)))
          have f271 := (p253_2.keep Kq254 (ninS (Ne.symm ne249_b4) (ninS (Ne.symm ne249_ed_224) nin0)))
          obtain ⟨fs, hr, hrun, hended, hRE⟩ := X254.leaveW hS2 Y254 (v := some (.ref b4)) (fun h => by rw [Bd.returns] at h; cases h)
          refine ⟨_, _, pre247 _ ?_, hrun, hended, _, _, rfl, ?_, hRE.1, hRE.2.1, hRE.2.2.1, hRE.2.2.2.mono (by decide) (by decide)⟩
          · skip
            refine XS.ifNo X246.here hx rfl (hb hby d1_60) rfl ((if0 _ _).trans (teq hc248).2) ?_
            refine XS.aloadN X246.here hx rfl (hb hby d1_63) rfl rfl ?_
            refine st249 _ ?_
            refine XS.dup X249.here hx rfl (hb hby d1_67) rfl rfl ?_
            refine XS.iloadN X249.here hx rfl (hb hby d1_68) rfl ?_
            refine XS.iloadN X249.here hx rfl (hb hby d1_69) rfl ?_
            refine XS.iload X249.here hx rfl (hb hby d1_70) rfl ?_
            refine XS.iloadN X249.here hx rfl (hb hby d1_72) rfl ?_
            refine XS.isub X249.here hx rfl (hb hby d1_73) rfl ?_
            refine st253.trans ?_
            refine st254.trans ?_
            refine XS.pop X254.here hx rfl (hb hby d1_82) rfl rfl ?_
            refine XS.iload X254.here hx rfl (hb hby d1_83) rfl ?_
            refine XS.iconst X254.here hx rfl (hb hby d1_85) ?_
            refine XS.iadd X254.here hx rfl (hb hby d1_86) rfl ?_
            refine XS.istoreN X254.here hx rfl (hb hby d1_87) rfl (l' := #[.val (.ref a1), .val (.ref b4), .val (.int 2), .val (.int 5), .val (.int 4)]) rfl ?_
            refine XS.goto X254.here hx rfl (pc0 := 88) (pc' := 19) rfl (hb hby d1_88) (by decide) (by decide) ?_
            refine XS.iloadN X254.here hx rfl (hb hby d1_19) rfl ?_
            refine XS.aloadN X254.here hx rfl (hb hby d1_20) rfl rfl ?_
            refine X254.arraylength hx Ar262.1 (State.isArrayOf_alike hZ.alike Ar262.2.1) (g := (mkF m 21 #[.val (.ref a1), .val (.ref b4), .val (.int 2), .val (.int 5), .val (.int 4)] [(.ref a1), (.int 5)])) rfl rfl (hb hby d1_21) _ ?_
            rw [len_of S262 N262']
            refine XS.icmpYes X254.here hx rfl (pc0 := 22) (pc' := 91) rfl (hb hby d1_22) rfl (flt (own_ge4 hn (by decide))).2.1 (by decide) (by decide) ?_
            refine XS.aloadN X254.here hx rfl (hb hby d1_91) rfl rfl ?_
            show Steps p.tables e below (T254.setTop (mkF m 92 #[.val (.ref a1), .val (.ref b4), .val (.int 2), .val (.int 5), .val (.int 4)] [(.ref b4)])) _
            jvm_step X254.here [X254.here.top, hx, (hb hby d1_92), X254.method', Bd.returns, Value.isRef, FieldType.isReference]
            first | (intro acts; rw [hr _ acts rfl rfl rfl]) | rw [hr _ _ rfl rfl rfl]
            exact Steps.refl _
          · show Q_rmSplit Z a1 nn b0 b1 b2 b3 kk w_DEF kD h0 n0 _ T254.heap _
            exact ⟨b4, rfl, N254, K254, g_b4, sz_b4, f263, (by rw [hsp]; exact p254_2), (by rw [hsp]; exact own_lines2 p254_3 p254_0 f264 f265 f266 f267 f268 f269 f270 f271)⟩
         ·skip
          obtain ⟨cl273, Ar273, -, S273, N273', -, -⟩ := id f233
          have hsp : own_split nn b0 b1 b2 b3 = [((1 : Int32), (0 : Int32), (1 : Int32))] := by unfold own_split; rw [if_pos hc12, if_pos hc14, if_neg hc18, if_pos hc219, if_pos hc236, if_pos hc238, if_pos hc242, if_neg hc248]
          have f274 := (f226.keep Kq224)
          have f275 := (f227.keep Kq224)
          have f276 := (p223_0.keep Kq224 (ninS (Ne.symm ne220_b4) nin0))
          have f277 := (p223_1.keep Kq224 (ninS (Ne.symm ne220_b4) nin0))
          have f278 := (p223_2.keep Kq224 (ninS (Ne.symm ne220_b4) nin0))
          obtain ⟨fs, hr, hrun, hended, hRE⟩ := X246.leaveW hS2 (by rw [e246]; exact Y224) (v := some (.ref b4)) (fun h => by rw [Bd.returns] at h; cases h)
          refine ⟨_, _, pre247 _ ?_, hrun, hended, _, _, rfl, ?_, hRE.1, hRE.2.1, hRE.2.2.1, hRE.2.2.2.mono (by decide) (by decide)⟩
          · skip
            refine XS.ifYes X246.here hx rfl (pc0 := 60) (pc' := 83) rfl (hb hby d1_60) rfl ((if0 _ _).trans (feq hc248).2) (by decide) (by decide) ?_
            refine XS.iload X246.here hx rfl (hb hby d1_83) rfl ?_
            refine XS.iconst X246.here hx rfl (hb hby d1_85) ?_
            refine XS.iadd X246.here hx rfl (hb hby d1_86) rfl ?_
            refine XS.istoreN X246.here hx rfl (hb hby d1_87) rfl (l' := #[.val (.ref a1), .val (.ref b4), .val (.int 2), .val (.int 5), .val (.int 4)]) rfl ?_
            refine XS.goto X246.here hx rfl (pc0 := 88) (pc' := 19) rfl (hb hby d1_88) (by decide) (by decide) ?_
            refine XS.iloadN X246.here hx rfl (hb hby d1_19) rfl ?_
            refine XS.aloadN X246.here hx rfl (hb hby d1_20) rfl rfl ?_
            refine X246.arraylength hx (by rw [e246]; exact Ar273.1) (State.isArrayOf_alike hZ.alike Ar273.2.1) (g := (mkF m 21 #[.val (.ref a1), .val (.ref b4), .val (.int 2), .val (.int 5), .val (.int 4)] [(.ref a1), (.int 5)])) rfl rfl (hb hby d1_21) _ ?_
            rw [len_of S273 N273']
            refine XS.icmpYes X246.here hx rfl (pc0 := 22) (pc' := 91) rfl (hb hby d1_22) rfl (flt (own_ge4 hn (by decide))).2.1 (by decide) (by decide) ?_
            refine XS.aloadN X246.here hx rfl (hb hby d1_91) rfl rfl ?_
            show Steps p.tables e below (T246.setTop (mkF m 92 #[.val (.ref a1), .val (.ref b4), .val (.int 2), .val (.int 5), .val (.int 4)] [(.ref b4)])) _
            jvm_step X246.here [X246.here.top, hx, (hb hby d1_92), X246.method', Bd.returns, Value.isRef, FieldType.isReference]
            first | (intro acts; rw [hr _ acts rfl rfl rfl]) | rw [hr _ _ rfl rfl rfl]
            exact Steps.refl _
          · show Q_rmSplit Z a1 nn b0 b1 b2 b3 kk w_DEF kD h0 n0 _ T246.heap _
            rw [e246]
            exact ⟨b4, rfl, N246, K224, g_b4, sz_b4, f274, (by rw [hsp]; exact p224_4), (by rw [hsp]; exact own_lines1 p224_5 p224_2 f275 f276 f277 f278)⟩
        ·skip
         obtain ⟨cl280, Ar280, -, S280, N280', -, -⟩ := id f233
         have pre281 : ∀ t, Steps p.tables e below (T224.setTop (mkF m 35 #[.val (.ref a1), .val (.ref b4), .val (.int 2), .val (.int 2), .val (.int 3)] [(.int nn), (.int 3)])) t → Steps p.tables e below (s₁.setTop (entryFrame m #[(.ref a1)] 5)) t := fun t k => pre241 t (by
           refine XS.iload X224.here hx rfl (hb hby d1_31) rfl ?_
           refine XS.aloadN X224.here hx rfl (hb hby d1_33) rfl rfl ?_
           refine X224.arraylength hx Ar280.1 (State.isArrayOf_alike hZ.alike Ar280.2.1) (g := (mkF m 34 #[.val (.ref a1), .val (.ref b4), .val (.int 2), .val (.int 2), .val (.int 3)] [(.ref a1), (.int 3)])) rfl rfl (hb hby d1_34) _ ?_
           rw [len_of S280 N280']
           exact k)
         obtain ⟨LJ282, TJ282, XJ282, NJ282, eJ282, pre282⟩ : ∃ (LL : List Loc) (T' : State), Stand p l e ({ frames := 5, cells := 6, slots := 39, locals := 69 } : Room) (s.setVm T2.vm) m #[(.ref a1)] below meth c T' LL 5 36 ∧ Fr n0 LL ∧ T'.heap = T224.heap ∧ ∀ t, Steps p.tables e below (T'.setTop (mkF m 53 #[.val (.ref a1), .val (.ref b4), .val (.int 2), .val (.int 2), .val (.int 3)] [])) t → Steps p.tables e below (s₁.setTop (entryFrame m #[(.ref a1)] 5)) t := by
           by_cases hc283 : (3 : Int32) < nn
           ·skip
            obtain ⟨cl284, Ar284, q284, S284, N284', H284, G284⟩ := id f233
            have hin284 : ¬ ((3 : Int32) < 0 ∨ cl284.slots.size ≤ ((3 : Int32)).toNatClampNeg) := inb_of S284 ⟨by decide, hc283⟩
            have hat284 : cl284.slots[((3 : Int32)).toNatClampNeg]? = some (.int (own_b b0 b1 b2 b3 (3 : Int32))) := H284.at hin284 (own_is_getD _ _)
            refine ⟨_, _, X224, N224, rfl, fun t k => pre281 t ?_⟩
            refine XS.icmpNo X224.here hx rfl (hb hby d1_35) rfl (tlt hc283).2.1 ?_
            refine XS.aloadN X224.here hx rfl (hb hby d1_38) rfl rfl ?_
            refine XS.iload X224.here hx rfl (hb hby d1_39) rfl ?_
            refine X224.baloadBytes hx (j := (3 : Int32)) (v := (.int (own_b b0 b1 b2 b3 (3 : Int32)))) Ar284.1 (State.isArrayOf_alike hZ.alike Ar284.2.1) Ar284.2.2 hin284 hat284 (g := (mkF m 41 #[.val (.ref a1), .val (.ref b4), .val (.int 2), .val (.int 2), .val (.int 3)] [(.int 3), (.ref a1)])) rfl rfl (hb hby d1_41) _ ?_
            refine XS.bipush X224.here hx rfl (hb hby d1_42) ?_
            refine XS.icmpYes X224.here hx rfl (pc0 := 44) (pc' := 53) rfl (hb hby d1_44) rfl (teq (Decidable.byContradiction fun q => hc242 ⟨hc283, q⟩)).1 (by decide) (by decide) ?_
            exact k
           ·skip
            refine ⟨_, _, X224, N224, rfl, fun t k => pre281 t ?_⟩
            refine XS.icmpYes X224.here hx rfl (pc0 := 35) (pc' := 53) rfl (hb hby d1_35) rfl (flt hc283).2.1 (by decide) (by decide) ?_
            exact k
         obtain ⟨_, _, ⟨T285, L285, k285, n285⟩, -, X285, ⟨Lc285, hQ285, l285, y285, z285⟩, st285⟩ := Jvm.LawKit.callS XJ282 hx (y := (⟨"com/example/rank_keeper/rankkeeper/BodyLines", "isBlank", "([BII)Z"⟩ : MethodName)) hown (mvT hZ (kw66 hw)) (mvT hZ (kw67 hw)) (mvT hZ (kw3 hw)) (mvT hZ (kw68 hw)) (by decide) (backOf (W := 0) (rmBl_2 l Z a0 hw [] a1 (3 : Int32) nn b0 b1 b2 b3 kk T224.heap n0 Z224 f233 hn (own_lt1 hc238.1 (by decide))) hZ (kw68 hw) (kw3 hw) (by decide) (by decide)) (g := (mkF m 57 #[.val (.ref a1), .val (.ref b4), .val (.int 2), .val (.int 2), .val (.int 3)] [(.int 3), (.int 2), (.ref a1)])) rfl (by rw [hml]; rfl) (argsL := [(.ref a1), (.int 2), (.int 3)]) (rest := []) (lenOf pd_3 rfl) rfl (by show 2 * 0 + _ ≤ _; exact Nat.le_of_eq rfl) (hb hby d1_57) (fun _ _ => ⟨rfl, eJ282, (by decide : 5 + 0 ≤ _), (by decide : 36 + 0 ≤ _)⟩)
         dsimp only [Pt.U, Pt.locs, Pt.cells, Pt.slots] at X285 l285 y285 z285 st285 hQ285
         subst l285 y285 z285
         obtain ⟨rfl, N285q, e285⟩ := hQ285
         have N285 := Fr.app NJ282 N285q
         have pre286 : ∀ t, Steps p.tables e below (T285.setTop (mkF m 60 #[.val (.ref a1), .val (.ref b4), .val (.int 2), .val (.int 2), .val (.int 3)] [(.int (own_bl_2 b0 b1 b2 b3 (3 : Int32)))])) t → Steps p.tables e below (s₁.setTop (entryFrame m #[(.ref a1)] 5)) t := fun t k => pre282 t (by
           refine XS.aloadN XJ282.here hx rfl (hb hby d1_53) rfl rfl ?_
           refine XS.iloadN XJ282.here hx rfl (hb hby d1_54) rfl ?_
           refine XS.iload XJ282.here hx rfl (hb hby d1_55) rfl ?_
           refine st285 _ ?_
           exact k)
         by_cases hc287 : (own_bl_2 b0 b1 b2 b3 (3 : Int32)) = (0 : Int32)
         ·skip
          have f289 := (f227.keep Kq224)
          have f290 := (f226.keep Kq224)
          have f291 := (f231.keep Kq224 (ninS ne4_w_DEF nin0))
          obtain ⟨T288, h288, X288, e288, E288, A288, D288, -, st288⟩ := newO X285 hx hZ hown (kw69 hw) (kw70 hw) (kw71 hw) e285 (g := (mkF m 64 #[.val (.ref a1), .val (.ref b4), .val (.int 2), .val (.int 2), .val (.int 3)] [(.ref b4)])) rfl (hb hby d1_64) (by decide) (by decide)
          obtain ⟨b288, g288⟩ : ∃ z, z = T224.heap.size := ⟨_, rfl⟩
          rw [← g288] at A288 D288 st288
          have ne288_a1 : a1 ≠ b288 := Nat.ne_of_lt (Nat.lt_of_lt_of_le f233.lt (Nat.le_of_eq g288.symm))
          have ne288_b220 : b220 ≠ b288 := Nat.ne_of_lt (Nat.lt_of_lt_of_le f289.lt (Nat.le_of_eq g288.symm))
          have ne288_b4 : b4 ≠ b288 := Nat.ne_of_lt (Nat.lt_of_lt_of_le f290.lt (Nat.le_of_eq g288.symm))
          have ne288_ed_224 : ed_224 ≠ b288 := Nat.ne_of_lt (Nat.lt_of_lt_of_le p224_2.lt (Nat.le_of_eq g288.symm))
          have ne288_w_DEF : w_DEF ≠ b288 := Nat.ne_of_lt (Nat.lt_of_lt_of_le f291.lt (Nat.le_of_eq g288.symm))
          have g_b288 : n0 ≤ b288 := Nat.le_trans Z224 (Nat.le_of_eq g288.symm)
          have sz_b288 : h0.size ≤ b288 := Nat.le_trans K224.1 (Nat.le_of_eq g288.symm)
          have Z288 : n0 ≤ h288.size := Nat.le_trans Z224 E288.1
          have Y288 : kS2 ≤ h288.size := Nat.le_trans Y224 E288.1
          have K288 : Keep h0 h288 [] := K224.ext E288
          have F288_number : Fld Z h288 b288 "com/example/rank_keeper/rankkeeper/BodyLines$Line" "number" "I" (.int 0) := D288 (Or.inr (kw82 hw)) (ty := .int) (by decide)
          have F288_offset : Fld Z h288 b288 "com/example/rank_keeper/rankkeeper/BodyLines$Line" "offset" "I" (.int 0) := D288 (Or.inr (kw84 hw)) (ty := .int) (by decide)
          have F288_length : Fld Z h288 b288 "com/example/rank_keeper/rankkeeper/BodyLines$Line" "length" "I" (.int 0) := D288 (Or.inr (kw86 hw)) (ty := .int) (by decide)
          obtain ⟨_, _, ⟨T292, L292, k292, n292⟩, -, X292, ⟨Lc292, hQ292, l292, y292, z292⟩, st292⟩ := X288.specialBack hx (y := (⟨"com/example/rank_keeper/rankkeeper/BodyLines$Line", "<init>", "(III)V"⟩ : MethodName)) rfl hown (mvT hZ (kw72 hw)) (mvT hZ (kw73 hw)) (mvT hZ (kw74 hw)) (by decide) (backOf (W := 2) (rm13 l Z a0 hw [] b288 (2 : Int32) (2 : Int32) (1 : Int32) h288 n0 Z288 A288 g_b288 F288_number F288_offset F288_length) hZ (kw74 hw) (kw71 hw) (by decide) (by decide)) (g := (mkF m 74 #[.val (.ref a1), .val (.ref b4), .val (.int 2), .val (.int 2), .val (.int 3)] [(.int 1), (.int 2), (.int 2), (.ref b288), (.ref b288), (.ref b4)])) rfl (by rw [hml]; rfl) (Steps.refl _) (a := b288) (argsL := [(.int 2), (.int 2), (.int 1)]) (rest := [(.ref b288), (.ref b4)]) (lenOf pd_13 rfl) rfl (by show 2 * 0 + _ ≤ _; exact Nat.le_of_eq rfl) (hb hby d1_74) (fun _ _ => ⟨rfl, e288, (by decide : 6 + 0 ≤ _), (by decide : 39 + 0 ≤ _)⟩)
          dsimp only [Pt.U, Pt.locs, Pt.cells, Pt.slots] at X292 l292 y292 z292 st292 hQ292
          subst l292 y292 z292
          obtain ⟨rfl, N292q, Kq292, p292_0, p292_1, p292_2⟩ := hQ292
          have N292 := Fr.app N285 N292q
          have Z292 : n0 ≤ T292.heap.size := Nat.le_trans Z288 Kq292.1
          have Y292 : kS2 ≤ T292.heap.size := Nat.le_trans Y288 Kq292.1
          have K292 : Keep h0 T292.heap [] := K288.trans Kq292 (allS (Or.inr sz_b288) all0)
          have f294 := ((f290.ext E288).keep Kq292)
          have f295 := (A288.keep Kq292)
          have f296 := ((p224_3.ext E288).keep Kq292 (ninS ne288_b4 nin0))
          have f297 := ((p224_4.ext E288).keep Kq292 (ninS ne288_b4 nin0))
          have f298 := ((p224_5.ext E288).keep Kq292 (ninS ne288_b4 nin0))
          have f299 := ((p224_2.ext E288).keep Kq292 (ninS ne288_ed_224 nin0))
          obtain ⟨cq293, kq293, q293a, q293b, q293c⟩ := isOf hZ rfl f294
          obtain ⟨_, _, ⟨T293, L293, k293, n293⟩, -, X293, ⟨Lc293, hQ293, l293, y293, z293⟩, st293⟩ := X292.interfaceBack hx (xi := (⟨"java/util/List", "add", "(Ljava/lang/Object;)Z"⟩ : MethodName)) (y := (⟨"java/util/ArrayList", "add", "(Ljava/lang/Object;)Z"⟩ : MethodName)) hown (mvT hZ (kw87 hw)) (mvT hZ (kw88 hw)) (mvT hZ (kw89 hw)) (mvT hZ (kw90 hw)) (mvT hZ (kw91 hw)) (mvT hZ (kw92 hw)) (mvT hZ (kw93 hw)) (mvT hZ (kw56 hw)) (by decide) (backOf (W := 0) (rmAdd1 l Z a0 hw [] b4 b288 ed_224 kd_224 ((0 : Int32) + (1 : Int32)) b220 T292.heap n0 Z292 f294 g_b4 f295 f296 f297 f298 f299 p224_0 (Ne.symm ne224_b4_ed_224) p224_6) hZ (kw94 hw) (kw18 hw) (by decide) (by decide)) q293a q293b q293c (g := (mkF m 77 #[.val (.ref a1), .val (.ref b4), .val (.int 2), .val (.int 2), .val (.int 3)] [(.ref b288), (.ref b4)])) rfl (by rw [hml]; rfl) (Steps.refl _) (argsL := [(.ref b288)]) (rest := []) (lenOf pd_14 rfl) rfl (by show 2 * 0 + _ ≤ _; exact Nat.le_of_eq rfl) (hb hby d1_77) (fun _ _ => ⟨rfl, rfl, (by decide : 6 + 0 ≤ _), (by decide : 39 + 0 ≤ _)⟩)
          dsimp only [Pt.U, Pt.locs, Pt.cells, Pt.slots] at X293 l293 y293 z293 st293 hQ293
          subst l293 y293 z293
          obtain ⟨rfl, N293q, Kq293, p293_0, p293_1, p293_2, p293_3⟩ := hQ293
          have N293 := Fr.app N292 N293q
          have Z293 : n0 ≤ T293.heap.size := Nat.le_trans Z292 Kq293.1
          have Y293 : kS2 ≤ T293.heap.size := Nat.le_trans Y292 Kq293.1
          have K293 : Keep h0 T293.heap [] := K292.trans Kq293 (allS (Or.inr sz_b4) (allS (Or.inr sz_ed_224) all0))
          have f300 := (((f233.ext E288).keep Kq292 (ninS ne288_a1 nin0)).keep Kq293 (ninS ne4_a1 (ninS ne224_a1_ed_224 nin0)))
          obtain ⟨cl301, Ar301, -, S301, N301', -, -⟩ := id f300
          have hsp : own_split nn b0 b1 b2 b3 = [((1 : Int32), (0 : Int32), (1 : Int32)), ((2 : Int32), (2 : Int32), (1 : Int32))] := by unfold own_split; rw [if_pos hc12, if_pos hc14, if_neg hc18, if_pos hc219, if_pos hc236, if_pos hc238, if_neg hc242, if_pos hc287]
          have f302 := (f294.keep Kq293)
          have f303 := (((f289.ext E288).keep Kq292).keep Kq293)
          have f304 := ((((p223_0.keep Kq224 (ninS (Ne.symm ne220_b4) nin0)).ext E288).keep Kq292 (ninS ne288_b220 nin0)).keep Kq293 (ninS (Ne.symm ne220_b4) (ninS ne224_b220_ed_224 nin0)))
          have f305 := ((((p223_1.keep Kq224 (ninS (Ne.symm ne220_b4) nin0)).ext E288).keep Kq292 (ninS ne288_b220 nin0)).keep Kq293 (ninS (Ne.symm ne220_b4) (ninS ne224_b220_ed_224 nin0)))
          have f306 := ((((p223_2.keep Kq224 (ninS (Ne.symm ne220_b4) nin0)).ext E288).keep Kq292 (ninS ne288_b220 nin0)).keep Kq293 (ninS (Ne.symm ne220_b4) (ninS ne224_b220_ed_224 nin0)))
          have f307 := (f295.keep Kq293)
          have f308 := (p292_0.keep Kq293 (ninS (Ne.symm ne288_b4) (ninS (Ne.symm ne288_ed_224) nin0)))
          have f309 := (p292_1.keep Kq293 (ninS (Ne.symm ne288_b4) (ninS (Ne.symm ne288_ed_224) nin0)))
          have f310 := (p292_2.keep Kq293 (ninS (Ne.symm ne288_b4) (ninS (Ne.symm ne288_ed_224) nin0)))
          obtain ⟨fs, hr, hrun, hended, hRE⟩ := X293.leaveW hS2 Y293 (v := some (.ref b4)) (fun h => by rw [Bd.returns] at h; cases h)
          refine ⟨_, _, pre286 _ ?_, hrun, hended, _, _, rfl, ?_, hRE.1, hRE.2.1, hRE.2.2.1, hRE.2.2.2.mono (by decide) (by decide)⟩
          · skip
            refine XS.ifNo X285.here hx rfl (hb hby d1_60) rfl ((if0 _ _).trans (teq hc287).2) ?_
            refine XS.aloadN X285.here hx rfl (hb hby d1_63) rfl rfl ?_
            refine st288 _ ?_
            refine XS.dup X288.here hx rfl (hb hby d1_67) rfl rfl ?_
            refine XS.iloadN X288.here hx rfl (hb hby d1_68) rfl ?_
            refine XS.iloadN X288.here hx rfl (hb hby d1_69) rfl ?_
            refine XS.iload X288.here hx rfl (hb hby d1_70) rfl ?_
            refine XS.iloadN X288.here hx rfl (hb hby d1_72) rfl ?_
            refine XS.isub X288.here hx rfl (hb hby d1_73) rfl ?_
            refine st292.trans ?_
            refine st293.trans ?_
            refine XS.pop X293.here hx rfl (hb hby d1_82) rfl rfl ?_
            refine XS.iload X293.here hx rfl (hb hby d1_83) rfl ?_
            refine XS.iconst X293.here hx rfl (hb hby d1_85) ?_
            refine XS.iadd X293.here hx rfl (hb hby d1_86) rfl ?_
            refine XS.istoreN X293.here hx rfl (hb hby d1_87) rfl (l' := #[.val (.ref a1), .val (.ref b4), .val (.int 2), .val (.int 4), .val (.int 3)]) rfl ?_
            refine XS.goto X293.here hx rfl (pc0 := 88) (pc' := 19) rfl (hb hby d1_88) (by decide) (by decide) ?_
            refine XS.iloadN X293.here hx rfl (hb hby d1_19) rfl ?_
            refine XS.aloadN X293.here hx rfl (hb hby d1_20) rfl rfl ?_
            refine X293.arraylength hx Ar301.1 (State.isArrayOf_alike hZ.alike Ar301.2.1) (g := (mkF m 21 #[.val (.ref a1), .val (.ref b4), .val (.int 2), .val (.int 4), .val (.int 3)] [(.ref a1), (.int 4)])) rfl rfl (hb hby d1_21) _ ?_
            rw [len_of S301 N301']
            refine XS.icmpYes X293.here hx rfl (pc0 := 22) (pc' := 91) rfl (hb hby d1_22) rfl (flt (own_ge4 hn (by decide))).2.1 (by decide) (by decide) ?_
            refine XS.aloadN X293.here hx rfl (hb hby d1_91) rfl rfl ?_
            show Steps p.tables e below (T293.setTop (mkF m 92 #[.val (.ref a1), .val (.ref b4), .val (.int 2), .val (.int 4), .val (.int 3)] [(.ref b4)])) _
            jvm_step X293.here [X293.here.top, hx, (hb hby d1_92), X293.method', Bd.returns, Value.isRef, FieldType.isReference]
            first | (intro acts; rw [hr _ acts rfl rfl rfl]) | rw [hr _ _ rfl rfl rfl]
            exact Steps.refl _
          · show Q_rmSplit Z a1 nn b0 b1 b2 b3 kk w_DEF kD h0 n0 _ T293.heap _
            exact ⟨b4, rfl, N293, K293, g_b4, sz_b4, f302, (by rw [hsp]; exact p293_2), (by rw [hsp]; exact own_lines2 p293_3 p293_0 f303 f304 f305 f306 f307 f308 f309 f310)⟩
         ·skip
          obtain ⟨cl312, Ar312, -, S312, N312', -, -⟩ := id f233
          have hsp : own_split nn b0 b1 b2 b3 = [((1 : Int32), (0 : Int32), (1 : Int32))] := by unfold own_split; rw [if_pos hc12, if_pos hc14, if_neg hc18, if_pos hc219, if_pos hc236, if_pos hc238, if_neg hc242, if_neg hc287]
          have f313 := (f226.keep Kq224)
          have f314 := (f227.keep Kq224)
          have f315 := (p223_0.keep Kq224 (ninS (Ne.symm ne220_b4) nin0))
          have f316 := (p223_1.keep Kq224 (ninS (Ne.symm ne220_b4) nin0))
          have f317 := (p223_2.keep Kq224 (ninS (Ne.symm ne220_b4) nin0))
          obtain ⟨fs, hr, hrun, hended, hRE⟩ := X285.leaveW hS2 (by rw [e285]; exact Y224) (v := some (.ref b4)) (fun h => by rw [Bd.returns] at h; cases h)
          refine ⟨_, _, pre286 _ ?_, hrun, hended, _, _, rfl, ?_, hRE.1, hRE.2.1, hRE.2.2.1, hRE.2.2.2.mono (by decide) (by decide)⟩
          · skip
            refine XS.ifYes X285.here hx rfl (pc0 := 60) (pc' := 83) rfl (hb hby d1_60) rfl ((if0 _ _).trans (feq hc287).2) (by decide) (by decide) ?_
            refine XS.iload X285.here hx rfl (hb hby d1_83) rfl ?_
            refine XS.iconst X285.here hx rfl (hb hby d1_85) ?_
            refine XS.iadd X285.here hx rfl (hb hby d1_86) rfl ?_
            refine XS.istoreN X285.here hx rfl (hb hby d1_87) rfl (l' := #[.val (.ref a1), .val (.ref b4), .val (.int 2), .val (.int 4), .val (.int 3)]) rfl ?_
            refine XS.goto X285.here hx rfl (pc0 := 88) (pc' := 19) rfl (hb hby d1_88) (by decide) (by decide) ?_
            refine XS.iloadN X285.here hx rfl (hb hby d1_19) rfl ?_
            refine XS.aloadN X285.here hx rfl (hb hby d1_20) rfl rfl ?_
            refine X285.arraylength hx (by rw [e285]; exact Ar312.1) (State.isArrayOf_alike hZ.alike Ar312.2.1) (g := (mkF m 21 #[.val (.ref a1), .val (.ref b4), .val (.int 2), .val (.int 4), .val (.int 3)] [(.ref a1), (.int 4)])) rfl rfl (hb hby d1_21) _ ?_
            rw [len_of S312 N312']
            refine XS.icmpYes X285.here hx rfl (pc0 := 22) (pc' := 91) rfl (hb hby d1_22) rfl (flt (own_ge4 hn (by decide))).2.1 (by decide) (by decide) ?_
            refine XS.aloadN X285.here hx rfl (hb hby d1_91) rfl rfl ?_
            show Steps p.tables e below (T285.setTop (mkF m 92 #[.val (.ref a1), .val (.ref b4), .val (.int 2), .val (.int 4), .val (.int 3)] [(.ref b4)])) _
            jvm_step X285.here [X285.here.top, hx, (hb hby d1_92), X285.method', Bd.returns, Value.isRef, FieldType.isReference]
            first | (intro acts; rw [hr _ acts rfl rfl rfl]) | rw [hr _ _ rfl rfl rfl]
            exact Steps.refl _
          · show Q_rmSplit Z a1 nn b0 b1 b2 b3 kk w_DEF kD h0 n0 _ T285.heap _
            rw [e285]
            exact ⟨b4, rfl, N285, K224, g_b4, sz_b4, f313, (by rw [hsp]; exact p224_4), (by rw [hsp]; exact own_lines1 p224_5 p224_2 f314 f315 f316 f317)⟩
       ·skip
        obtain ⟨cl319, Ar319, -, S319, N319', -, -⟩ := id f233
        obtain ⟨cl320, Ar320, q320, S320, N320', H320, G320⟩ := id f233
        have hin320 : ¬ ((2 : Int32) < 0 ∨ cl320.slots.size ≤ ((2 : Int32)).toNatClampNeg) := inb_of S320 ⟨by decide, hc236⟩
        have hat320 : cl320.slots[((2 : Int32)).toNatClampNeg]? = some (.int (own_b b0 b1 b2 b3 (2 : Int32))) := H320.at hin320 (own_is_getD _ _)
        obtain ⟨_, _, ⟨T321, L321, k321, n321⟩, -, X321, ⟨Lc321, hQ321, l321, y321, z321⟩, st321⟩ := Jvm.LawKit.callS X224 hx (y := (⟨"com/example/rank_keeper/rankkeeper/BodyLines", "isBlank", "([BII)Z"⟩ : MethodName)) hown (mvT hZ (kw66 hw)) (mvT hZ (kw67 hw)) (mvT hZ (kw3 hw)) (mvT hZ (kw68 hw)) (by decide) (backOf (W := 0) (rmBl_2 l Z a0 hw [] a1 (2 : Int32) nn b0 b1 b2 b3 kk T224.heap n0 Z224 f233 hn (own_lt1 hc236 (by decide))) hZ (kw68 hw) (kw3 hw) (by decide) (by decide)) (g := (mkF m 57 #[.val (.ref a1), .val (.ref b4), .val (.int 2), .val (.int 2), .val (.int 2)] [(.int 2), (.int 2), (.ref a1)])) rfl (by rw [hml]; rfl) (argsL := [(.ref a1), (.int 2), (.int 2)]) (rest := []) (lenOf pd_3 rfl) rfl (by show 2 * 0 + _ ≤ _; exact Nat.le_of_eq rfl) (hb hby d1_57) (fun _ _ => ⟨rfl, rfl, (by decide : 5 + 0 ≤ _), (by decide : 36 + 0 ≤ _)⟩)
        dsimp only [Pt.U, Pt.locs, Pt.cells, Pt.slots] at X321 l321 y321 z321 st321 hQ321
        subst l321 y321 z321
        obtain ⟨rfl, N321q, e321⟩ := hQ321
        have N321 := Fr.app N224 N321q
        obtain ⟨cl322, Ar322, -, S322, N322', -, -⟩ := id f233
        have pre323 : ∀ t, Steps p.tables e below (T321.setTop (mkF m 22 #[.val (.ref a1), .val (.ref b4), .val (.int 2), .val (.int 3), .val (.int 2)] [(.int nn), (.int 3)])) t → Steps p.tables e below (s₁.setTop (entryFrame m #[(.ref a1)] 5)) t := fun t k => pre237 t (by
          refine XS.iload X224.here hx rfl (hb hby d1_31) rfl ?_
          refine XS.aloadN X224.here hx rfl (hb hby d1_33) rfl rfl ?_
          refine X224.arraylength hx Ar319.1 (State.isArrayOf_alike hZ.alike Ar319.2.1) (g := (mkF m 34 #[.val (.ref a1), .val (.ref b4), .val (.int 2), .val (.int 2), .val (.int 2)] [(.ref a1), (.int 2)])) rfl rfl (hb hby d1_34) _ ?_
          rw [len_of S319 N319']
          refine XS.icmpNo X224.here hx rfl (hb hby d1_35) rfl (tlt hc236).2.1 ?_
          refine XS.aloadN X224.here hx rfl (hb hby d1_38) rfl rfl ?_
          refine XS.iload X224.here hx rfl (hb hby d1_39) rfl ?_
          refine X224.baloadBytes hx (j := (2 : Int32)) (v := (.int (own_b b0 b1 b2 b3 (2 : Int32)))) Ar320.1 (State.isArrayOf_alike hZ.alike Ar320.2.1) Ar320.2.2 hin320 hat320 (g := (mkF m 41 #[.val (.ref a1), .val (.ref b4), .val (.int 2), .val (.int 2), .val (.int 2)] [(.int 2), (.ref a1)])) rfl rfl (hb hby d1_41) _ ?_
          refine XS.bipush X224.here hx rfl (hb hby d1_42) ?_
          refine XS.icmpYes X224.here hx rfl (pc0 := 44) (pc' := 53) rfl (hb hby d1_44) rfl (teq (Decidable.byContradiction fun q => hc238 ⟨hc236, q⟩)).1 (by decide) (by decide) ?_
          refine XS.aloadN X224.here hx rfl (hb hby d1_53) rfl rfl ?_
          refine XS.iloadN X224.here hx rfl (hb hby d1_54) rfl ?_
          refine XS.iload X224.here hx rfl (hb hby d1_55) rfl ?_
          refine st321 _ ?_
          refine XS.ifYes X321.here hx rfl (pc0 := 60) (pc' := 83) rfl (hb hby d1_60) rfl ((if0 _ _).trans (feq (own_bls2 b0 b1 b2 b3)).2) (by decide) (by decide) ?_
          refine XS.iload X321.here hx rfl (hb hby d1_83) rfl ?_
          refine XS.iconst X321.here hx rfl (hb hby d1_85) ?_
          refine XS.iadd X321.here hx rfl (hb hby d1_86) rfl ?_
          refine XS.istoreN X321.here hx rfl (hb hby d1_87) rfl (l' := #[.val (.ref a1), .val (.ref b4), .val (.int 2), .val (.int 3), .val (.int 2)]) rfl ?_
          refine XS.goto X321.here hx rfl (pc0 := 88) (pc' := 19) rfl (hb hby d1_88) (by decide) (by decide) ?_
          refine XS.iloadN X321.here hx rfl (hb hby d1_19) rfl ?_
          refine XS.aloadN X321.here hx rfl (hb hby d1_20) rfl rfl ?_
          refine X321.arraylength hx (by rw [e321]; exact Ar322.1) (State.isArrayOf_alike hZ.alike Ar322.2.1) (g := (mkF m 21 #[.val (.ref a1), .val (.ref b4), .val (.int 2), .val (.int 3), .val (.int 2)] [(.ref a1), (.int 3)])) rfl rfl (hb hby d1_21) _ ?_
          rw [len_of S322 N322']
          exact k)
        by_cases hc324 : (3 : Int32) < nn
        ·skip
         have pre325 : ∀ t, Steps p.tables e below (T321.setTop (mkF m 31 #[.val (.ref a1), .val (.ref b4), .val (.int 3), .val (.int 3), .val (.int 3)] [])) t → Steps p.tables e below (s₁.setTop (entryFrame m #[(.ref a1)] 5)) t := fun t k => pre323 t (by
           refine XS.icmpNo X321.here hx rfl (hb hby d1_22) rfl (tlt hc324).2.1 ?_
           refine XS.iinc X321.here hx rfl (hb hby d1_25) rfl (l' := #[.val (.ref a1), .val (.ref b4), .val (.int 3), .val (.int 3), .val (.int 2)]) rfl ?_
           refine XS.iloadN X321.here hx rfl (hb hby d1_28) rfl ?_
           refine XS.istore X321.here hx rfl (hb hby d1_29) rfl (l' := #[.val (.ref a1), .val (.ref b4), .val (.int 3), .val (.int 3), .val (.int 3)]) rfl ?_
           exact k)
         by_cases hc326 : (3 : Int32) < nn ∧ ¬ (own_b b0 b1 b2 b3 (3 : Int32)) = (10 : Int32)
         ·skip
          obtain ⟨cl327, Ar327, -, S327, N327', -, -⟩ := id f233
          obtain ⟨cl328, Ar328, q328, S328, N328', H328, G328⟩ := id f233
          have hin328 : ¬ ((3 : Int32) < 0 ∨ cl328.slots.size ≤ ((3 : Int32)).toNatClampNeg) := inb_of S328 ⟨by decide, hc326.1⟩
          have hat328 : cl328.slots[((3 : Int32)).toNatClampNeg]? = some (.int (own_b b0 b1 b2 b3 (3 : Int32))) := H328.at hin328 (own_is_getD _ _)
          obtain ⟨cl329, Ar329, -, S329, N329', -, -⟩ := id f233
          obtain ⟨_, _, ⟨T330, L330, k330, n330⟩, -, X330, ⟨Lc330, hQ330, l330, y330, z330⟩, st330⟩ := Jvm.LawKit.callS X321 hx (y := (⟨"com/example/rank_keeper/rankkeeper/BodyLines", "isBlank", "([BII)Z"⟩ : MethodName)) hown (mvT hZ (kw66 hw)) (mvT hZ (kw67 hw)) (mvT hZ (kw3 hw)) (mvT hZ (kw68 hw)) (by decide) (backOf (W := 0) (rmBl_3 l Z a0 hw [] a1 (4 : Int32) nn b0 b1 b2 b3 kk T224.heap n0 Z224 f233 hn (own_lt1 hc326.1 (by decide))) hZ (kw68 hw) (kw3 hw) (by decide) (by decide)) (g := (mkF m 57 #[.val (.ref a1), .val (.ref b4), .val (.int 3), .val (.int 3), .val (.int 4)] [(.int 4), (.int 3), (.ref a1)])) rfl (by rw [hml]; rfl) (argsL := [(.ref a1), (.int 3), (.int 4)]) (rest := []) (lenOf pd_3 rfl) rfl (by show 2 * 0 + _ ≤ _; exact Nat.le_of_eq rfl) (hb hby d1_57) (fun _ _ => ⟨rfl, e321, (by decide : 5 + 0 ≤ _), (by decide : 36 + 0 ≤ _)⟩)
          dsimp only [Pt.U, Pt.locs, Pt.cells, Pt.slots] at X330 l330 y330 z330 st330 hQ330
          subst l330 y330 z330
          obtain ⟨rfl, N330q, e330⟩ := hQ330
          have N330 := Fr.app N321 N330q
          have pre331 : ∀ t, Steps p.tables e below (T330.setTop (mkF m 60 #[.val (.ref a1), .val (.ref b4), .val (.int 3), .val (.int 3), .val (.int 4)] [(.int (own_bl_3 b0 b1 b2 b3 (4 : Int32)))])) t → Steps p.tables e below (s₁.setTop (entryFrame m #[(.ref a1)] 5)) t := fun t k => pre325 t (by
            refine XS.iload X321.here hx rfl (hb hby d1_31) rfl ?_
            refine XS.aloadN X321.here hx rfl (hb hby d1_33) rfl rfl ?_
            refine X321.arraylength hx (by rw [e321]; exact Ar327.1) (State.isArrayOf_alike hZ.alike Ar327.2.1) (g := (mkF m 34 #[.val (.ref a1), .val (.ref b4), .val (.int 3), .val (.int 3), .val (.int 3)] [(.ref a1), (.int 3)])) rfl rfl (hb hby d1_34) _ ?_
            rw [len_of S327 N327']
            refine XS.icmpNo X321.here hx rfl (hb hby d1_35) rfl (tlt hc326.1).2.1 ?_
            refine XS.aloadN X321.here hx rfl (hb hby d1_38) rfl rfl ?_
            refine XS.iload X321.here hx rfl (hb hby d1_39) rfl ?_
            refine X321.baloadBytes hx (j := (3 : Int32)) (v := (.int (own_b b0 b1 b2 b3 (3 : Int32)))) (by rw [e321]; exact Ar328.1) (State.isArrayOf_alike hZ.alike Ar328.2.1) Ar328.2.2 hin328 hat328 (g := (mkF m 41 #[.val (.ref a1), .val (.ref b4), .val (.int 3), .val (.int 3), .val (.int 3)] [(.int 3), (.ref a1)])) rfl rfl (hb hby d1_41) _ ?_
            refine XS.bipush X321.here hx rfl (hb hby d1_42) ?_
            refine XS.icmpNo X321.here hx rfl (hb hby d1_44) rfl (feq hc326.2).1 ?_
            refine XS.iinc X321.here hx rfl (hb hby d1_47) rfl (l' := #[.val (.ref a1), .val (.ref b4), .val (.int 3), .val (.int 3), .val (.int 4)]) rfl ?_
            refine XS.goto X321.here hx rfl (pc0 := 50) (pc' := 31) rfl (hb hby d1_50) (by decide) (by decide) ?_
            refine XS.iload X321.here hx rfl (hb hby d1_31) rfl ?_
            refine XS.aloadN X321.here hx rfl (hb hby d1_33) rfl rfl ?_
            refine X321.arraylength hx (by rw [e321]; exact Ar329.1) (State.isArrayOf_alike hZ.alike Ar329.2.1) (g := (mkF m 34 #[.val (.ref a1), .val (.ref b4), .val (.int 3), .val (.int 3), .val (.int 4)] [(.ref a1), (.int 4)])) rfl rfl (hb hby d1_34) _ ?_
            rw [len_of S329 N329']
            refine XS.icmpYes X321.here hx rfl (pc0 := 35) (pc' := 53) rfl (hb hby d1_35) rfl (flt (own_ge4 hn (by decide))).2.1 (by decide) (by decide) ?_
            refine XS.aloadN X321.here hx rfl (hb hby d1_53) rfl rfl ?_
            refine XS.iloadN X321.here hx rfl (hb hby d1_54) rfl ?_
            refine XS.iload X321.here hx rfl (hb hby d1_55) rfl ?_
            refine st330 _ ?_
            exact k)
          by_cases hc332 : (own_bl_3 b0 b1 b2 b3 (4 : Int32)) = (0 : Int32)
          ·skip
           have f334 := (f227.keep Kq224)
           have f335 := (f226.keep Kq224)
           have f336 := (f231.keep Kq224 (ninS ne4_w_DEF nin0))
           obtain ⟨T333, h333, X333, e333, E333, A333, D333, -, st333⟩ := newO X330 hx hZ hown (kw69 hw) (kw70 hw) (kw71 hw) e330 (g := (mkF m 64 #[.val (.ref a1), .val (.ref b4), .val (.int 3), .val (.int 3), .val (.int 4)] [(.ref b4)])) rfl (hb hby d1_64) (by decide) (by decide)
           obtain ⟨b333, g333⟩ : ∃ z, z = T224.heap.size := ⟨_, rfl⟩
           rw [← g333] at A333 D333 st333
           have ne333_a1 : a1 ≠ b333 := Nat.ne_of_lt (Nat.lt_of_lt_of_le f233.lt (Nat.le_of_eq g333.symm))
           have ne333_b220 : b220 ≠ b333 := Nat.ne_of_lt (Nat.lt_of_lt_of_le f334.lt (Nat.le_of_eq g333.symm))
           have ne333_b4 : b4 ≠ b333 := Nat.ne_of_lt (Nat.lt_of_lt_of_le f335.lt (Nat.le_of_eq g333.symm))
           have ne333_ed_224 : ed_224 ≠ b333 := Nat.ne_of_lt (Nat.lt_of_lt_of_le p224_2.lt (Nat.le_of_eq g333.symm))
           have ne333_w_DEF : w_DEF ≠ b333 := Nat.ne_of_lt (Nat.lt_of_lt_of_le f336.lt (Nat.le_of_eq g333.symm))
           have g_b333 : n0 ≤ b333 := Nat.le_trans Z224 (Nat.le_of_eq g333.symm)
           have sz_b333 : h0.size ≤ b333 := Nat.le_trans K224.1 (Nat.le_of_eq g333.symm)
           have Z333 : n0 ≤ h333.size := Nat.le_trans Z224 E333.1
           have Y333 : kS2 ≤ h333.size := Nat.le_trans Y224 E333.1
           have K333 : Keep h0 h333 [] := K224.ext E333
           have F333_number : Fld Z h333 b333 "com/example/rank_keeper/rankkeeper/BodyLines$Line" "number" "I" (.int 0) := D333 (Or.inr (kw82 hw)) (ty := .int) (by decide)
           have F333_offset : Fld Z h333 b333 "com/example/rank_keeper/rankkeeper/BodyLines$Line" "offset" "I" (.int 0) := D333 (Or.inr (kw84 hw)) (ty := .int) (by decide)
           have F333_length : Fld Z h333 b333 "com/example/rank_keeper/rankkeeper/BodyLines$Line" "length" "I" (.int 0) := D333 (Or.inr (kw86 hw)) (ty := .int) (by decide)
           obtain ⟨_, _, ⟨T337, L337, k337, n337⟩, -, X337, ⟨Lc337, hQ337, l337, y337, z337⟩, st337⟩ := X333.specialBack hx (y := (⟨"com/example/rank_keeper/rankkeeper/BodyLines$Line", "<init>", "(III)V"⟩ : MethodName)) rfl hown (mvT hZ (kw72 hw)) (mvT hZ (kw73 hw)) (mvT hZ (kw74 hw)) (by decide) (backOf (W := 2) (rm13 l Z a0 hw [] b333 (3 : Int32) (3 : Int32) (1 : Int32) h333 n0 Z333 A333 g_b333 F333_number F333_offset F333_length) hZ (kw74 hw) (kw71 hw) (by decide) (by decide)) (g := (mkF m 74 #[.val (.ref a1), .val (.ref b4), .val (.int 3), .val (.int 3), .val (.int 4)] [(.int 1), (.int 3), (.int 3), (.ref b333), (.ref b333), (.ref b4)])) rfl (by rw [hml]; rfl) (Steps.refl _) (a := b333) (argsL := [(.int 3), (.int 3), (.int 1)]) (rest := [(.ref b333), (.ref b4)]) (lenOf pd_13 rfl) rfl (by show 2 * 0 + _ ≤ _; exact Nat.le_of_eq rfl) (hb hby d1_74) (fun _ _ => ⟨rfl, e333, (by decide : 6 + 0 ≤ _), (by decide : 39 + 0 ≤ _)⟩)
           dsimp only [Pt.U, Pt.locs, Pt.cells, Pt.slots] at X337 l337 y337 z337 st337 hQ337
           subst l337 y337 z337
           obtain ⟨rfl, N337q, Kq337, p337_0, p337_1, p337_2⟩ := hQ337
           have N337 := Fr.app N330 N337q
           have Z337 : n0 ≤ T337.heap.size := Nat.le_trans Z333 Kq337.1
           have Y337 : kS2 ≤ T337.heap.size := Nat.le_trans Y333 Kq337.1
           have K337 : Keep h0 T337.heap [] := K333.trans Kq337 (allS (Or.inr sz_b333) all0)
           have f339 := ((f335.ext E333).keep Kq337)
           have f340 := (A333.keep Kq337)
           have f341 := ((p224_3.ext E333).keep Kq337 (ninS ne333_b4 nin0))
           have f342 := ((p224_4.ext E333).keep Kq337 (ninS ne333_b4 nin0))
           have f343 := ((p224_5.ext E333).keep Kq337 (ninS ne333_b4 nin0))
           have f344 := ((p224_2.ext E333).keep Kq337 (ninS ne333_ed_224 nin0))
           obtain ⟨cq338, kq338, q338a, q338b, q338c⟩ := isOf hZ rfl f339
           obtain ⟨_, _, ⟨T338, L338, k338, n338⟩, -, X338, ⟨Lc338, hQ338, l338, y338, z338⟩, st338⟩ := X337.interfaceBack hx (xi := (⟨"java/util/List", "add", "(Ljava/lang/Object;)Z"⟩ : MethodName)) (y := (⟨"java/util/ArrayList", "add", "(Ljava/lang/Object;)Z"⟩ : MethodName)) hown (mvT hZ (kw87 hw)) (mvT hZ (kw88 hw)) (mvT hZ (kw89 hw)) (mvT hZ (kw90 hw)) (mvT hZ (kw91 hw)) (mvT hZ (kw92 hw)) (mvT hZ (kw93 hw)) (mvT hZ (kw56 hw)) (by decide) (backOf (W := 0) (rmAdd1 l Z a0 hw [] b4 b333 ed_224 kd_224 ((0 : Int32) + (1 : Int32)) b220 T337.heap n0 Z337 f339 g_b4 f340 f341 f342 f343 f344 p224_0 (Ne.symm ne224_b4_ed_224) p224_6) hZ (kw94 hw) (kw18 hw) (by decide) (by decide)) q338a q338b q338c (g := (mkF m 77 #[.val (.ref a1), .val (.ref b4), .val (.int 3), .val (.int 3), .val (.int 4)] [(.ref b333), (.ref b4)])) rfl (by rw [hml]; rfl) (Steps.refl _) (argsL := [(.ref b333)]) (rest := []) (lenOf pd_14 rfl) rfl (by show 2 * 0 + _ ≤ _; exact Nat.le_of_eq rfl) (hb hby d1_77) (fun _ _ => ⟨rfl, rfl, (by decide : 6 + 0 ≤ _), (by decide : 39 + 0 ≤ _)⟩)
           dsimp only [Pt.U, Pt.locs, Pt.cells, Pt.slots] at X338 l338 y338 z338 st338 hQ338
           subst l338 y338 z338
           obtain ⟨rfl, N338q, Kq338, p338_0, p338_1, p338_2, p338_3⟩ := hQ338
           have N338 := Fr.app N337 N338q
           have Z338 : n0 ≤ T338.heap.size := Nat.le_trans Z337 Kq338.1
           have Y338 : kS2 ≤ T338.heap.size := Nat.le_trans Y337 Kq338.1
           have K338 : Keep h0 T338.heap [] := K337.trans Kq338 (allS (Or.inr sz_b4) (allS (Or.inr sz_ed_224) all0))
           have f345 := (((f233.ext E333).keep Kq337 (ninS ne333_a1 nin0)).keep Kq338 (ninS ne4_a1 (ninS ne224_a1_ed_224 nin0)))
           obtain ⟨cl346, Ar346, -, S346, N346', -, -⟩ := id f345
           have hsp : own_split nn b0 b1 b2 b3 = [((1 : Int32), (0 : Int32), (1 : Int32)), ((3 : Int32), (3 : Int32), (1 : Int32))] := by unfold own_split; rw [if_pos hc12, if_pos hc14, if_neg hc18, if_pos hc219, if_pos hc236, if_neg hc238, if_pos hc324, if_pos hc326, if_pos hc332]
           have f347 := (f339.keep Kq338)
           have f348 := (((f334.ext E333).keep Kq337).keep Kq338)
           have f349 := ((((p223_0.keep Kq224 (ninS (Ne.symm ne220_b4) nin0)).ext E333).keep Kq337 (ninS ne333_b220 nin0)).keep Kq338 (ninS (Ne.symm ne220_b4) (ninS ne224_b220_ed_224 nin0)))
           have f350 := ((((p223_1.keep Kq224 (ninS (Ne.symm ne220_b4) nin0)).ext E333).keep Kq337 (ninS ne333_b220 nin0)).keep Kq338 (ninS (Ne.symm ne220_b4) (ninS ne224_b220_ed_224 nin0)))
           have f351 := ((((p223_2.keep Kq224 (ninS (Ne.symm ne220_b4) nin0)).ext E333).keep Kq337 (ninS ne333_b220 nin0)).keep Kq338 (ninS (Ne.symm ne220_b4) (ninS ne224_b220_ed_224 nin0)))
           have f352 := (f340.keep Kq338)
           have f353 := (p337_0.keep Kq338 (ninS (Ne.symm ne333_b4) (ninS (Ne.symm ne333_ed_224) nin0)))
           have f354 := (p337_1.keep Kq338 (ninS (Ne.symm ne333_b4) (ninS (Ne.symm ne333_ed_224) nin0)))
           have f355 := (p337_2.keep Kq338 (ninS (Ne.symm ne333_b4) (ninS (Ne.symm ne333_ed_224) nin0)))
           obtain ⟨fs, hr, hrun, hended, hRE⟩ := X338.leaveW hS2 Y338 (v := some (.ref b4)) (fun h => by rw [Bd.returns] at h; cases h)
           refine ⟨_, _, pre331 _ ?_, hrun, hended, _, _, rfl, ?_, hRE.1, hRE.2.1, hRE.2.2.1, hRE.2.2.2.mono (by decide) (by decide)⟩
           · skip
             refine XS.ifNo X330.here hx rfl (hb hby d1_60) rfl ((if0 _ _).trans (teq hc332).2) ?_
             refine XS.aloadN X330.here hx rfl (hb hby d1_63) rfl rfl ?_
             refine st333 _ ?_
             refine XS.dup X333.here hx rfl (hb hby d1_67) rfl rfl ?_
             refine XS.iloadN X333.here hx rfl (hb hby d1_68) rfl ?_
             refine XS.iloadN X333.here hx rfl (hb hby d1_69) rfl ?_
             refine XS.iload X333.here hx rfl (hb hby d1_70) rfl ?_
             refine XS.iloadN X333.here hx rfl (hb hby d1_72) rfl ?_
             refine XS.isub X333.here hx rfl (hb hby d1_73) rfl ?_
             refine st337.trans ?_
             refine st338.trans ?_
             refine XS.pop X338.here hx rfl (hb hby d1_82) rfl rfl ?_
             refine XS.iload X338.here hx rfl (hb hby d1_83) rfl ?_
             refine XS.iconst X338.here hx rfl (hb hby d1_85) ?_
             refine XS.iadd X338.here hx rfl (hb hby d1_86) rfl ?_
             refine XS.istoreN X338.here hx rfl (hb hby d1_87) rfl (l' := #[.val (.ref a1), .val (.ref b4), .val (.int 3), .val (.int 5), .val (.int 4)]) rfl ?_
             refine XS.goto X338.here hx rfl (pc0 := 88) (pc' := 19) rfl (hb hby d1_88) (by decide) (by decide) ?_
             refine XS.iloadN X338.here hx rfl (hb hby d1_19) rfl ?_
             refine XS.aloadN X338.here hx rfl (hb hby d1_20) rfl rfl ?_
             refine X338.arraylength hx Ar346.1 (State.isArrayOf_alike hZ.alike Ar346.2.1) (g := (mkF m 21 #[.val (.ref a1), .val (.ref b4), .val (.int 3), .val (.int 5), .val (.int 4)] [(.ref a1), (.int 5)])) rfl rfl (hb hby d1_21) _ ?_
             rw [len_of S346 N346']
             refine XS.icmpYes X338.here hx rfl (pc0 := 22) (pc' := 91) rfl (hb hby d1_22) rfl (flt (own_ge4 hn (by decide))).2.1 (by decide) (by decide) ?_
             refine XS.aloadN X338.here hx rfl (hb hby d1_91) rfl rfl ?_
             show Steps p.tables e below (T338.setTop (mkF m 92 #[.val (.ref a1), .val (.ref b4), .val (.int 3), .val (.int 5), .val (.int 4)] [(.ref b4)])) _
             jvm_step X338.here [X338.here.top, hx, (hb hby d1_92), X338.method', Bd.returns, Value.isRef, FieldType.isReference]
             first | (intro acts; rw [hr _ acts rfl rfl rfl]) | rw [hr _ _ rfl rfl rfl]
             exact Steps.refl _
           · show Q_rmSplit Z a1 nn b0 b1 b2 b3 kk w_DEF kD h0 n0 _ T338.heap _
             exact ⟨b4, rfl, N338, K338, g_b4, sz_b4, f347, (by rw [hsp]; exact p338_2), (by rw [hsp]; exact own_lines2 p338_3 p338_0 f348 f349 f350 f351 f352 f353 f354 f355)⟩
          ·skip
           obtain ⟨cl357, Ar357, -, S357, N357', -, -⟩ := id f233
           have hsp : own_split nn b0 b1 b2 b3 = [((1 : Int32), (0 : Int32), (1 : Int32))] := by unfold own_split; rw [if_pos hc12, if_pos hc14, if_neg hc18, if_pos hc219, if_pos hc236, if_neg hc238, if_pos hc324, if_pos hc326, if_neg hc332]
           have f358 := (f226.keep Kq224)
           have f359 := (f227.keep Kq224)
           have f360 := (p223_0.keep Kq224 (ninS (Ne.symm ne220_b4) nin0))
           have f361 := (p223_1.keep Kq224 (ninS (Ne.symm ne220_b4) nin0))
           have f362 := (p223_2.keep Kq224 (ninS (Ne.symm ne220_b4) nin0))
           obtain ⟨fs, hr, hrun, hended, hRE⟩ := X330.leaveW hS2 (by rw [e330]; exact Y224) (v := some (.ref b4)) (fun h => by rw [Bd.returns] at h; cases h)
           refine ⟨_, _, pre331 _ ?_, hrun, hended, _, _, rfl, ?_, hRE.1, hRE.2.1, hRE.2.2.1, hRE.2.2.2.mono (by decide) (by decide)⟩
           · skip
             refine XS.ifYes X330.here hx rfl (pc0 := 60) (pc' := 83) rfl (hb hby d1_60) rfl ((if0 _ _).trans (feq hc332).2) (by decide) (by decide) ?_
             refine XS.iload X330.here hx rfl (hb hby d1_83) rfl ?_
             refine XS.iconst X330.here hx rfl (hb hby d1_85) ?_
             refine XS.iadd X330.here hx rfl (hb hby d1_86) rfl ?_
             refine XS.istoreN X330.here hx rfl (hb hby d1_87) rfl (l' := #[.val (.ref a1), .val (.ref b4), .val (.int 3), .val (.int 5), .val (.int 4)]) rfl ?_
             refine XS.goto X330.here hx rfl (pc0 := 88) (pc' := 19) rfl (hb hby d1_88) (by decide) (by decide) ?_
             refine XS.iloadN X330.here hx rfl (hb hby d1_19) rfl ?_
             refine XS.aloadN X330.here hx rfl (hb hby d1_20) rfl rfl ?_
             refine X330.arraylength hx (by rw [e330]; exact Ar357.1) (State.isArrayOf_alike hZ.alike Ar357.2.1) (g := (mkF m 21 #[.val (.ref a1), .val (.ref b4), .val (.int 3), .val (.int 5), .val (.int 4)] [(.ref a1), (.int 5)])) rfl rfl (hb hby d1_21) _ ?_
             rw [len_of S357 N357']
             refine XS.icmpYes X330.here hx rfl (pc0 := 22) (pc' := 91) rfl (hb hby d1_22) rfl (flt (own_ge4 hn (by decide))).2.1 (by decide) (by decide) ?_
             refine XS.aloadN X330.here hx rfl (hb hby d1_91) rfl rfl ?_
             show Steps p.tables e below (T330.setTop (mkF m 92 #[.val (.ref a1), .val (.ref b4), .val (.int 3), .val (.int 5), .val (.int 4)] [(.ref b4)])) _
             jvm_step X330.here [X330.here.top, hx, (hb hby d1_92), X330.method', Bd.returns, Value.isRef, FieldType.isReference]
             first | (intro acts; rw [hr _ acts rfl rfl rfl]) | rw [hr _ _ rfl rfl rfl]
             exact Steps.refl _
           · show Q_rmSplit Z a1 nn b0 b1 b2 b3 kk w_DEF kD h0 n0 _ T330.heap _
             rw [e330]
             exact ⟨b4, rfl, N330, K224, g_b4, sz_b4, f358, (by rw [hsp]; exact p224_4), (by rw [hsp]; exact own_lines1 p224_5 p224_2 f359 f360 f361 f362)⟩
         ·skip
          obtain ⟨cl364, Ar364, -, S364, N364', -, -⟩ := id f233
          obtain ⟨cl365, Ar365, q365, S365, N365', H365, G365⟩ := id f233
          have hin365 : ¬ ((3 : Int32) < 0 ∨ cl365.slots.size ≤ ((3 : Int32)).toNatClampNeg) := inb_of S365 ⟨by decide, hc324⟩
          have hat365 : cl365.slots[((3 : Int32)).toNatClampNeg]? = some (.int (own_b b0 b1 b2 b3 (3 : Int32))) := H365.at hin365 (own_is_getD _ _)
          obtain ⟨_, _, ⟨T366, L366, k366, n366⟩, -, X366, ⟨Lc366, hQ366, l366, y366, z366⟩, st366⟩ := Jvm.LawKit.callS X321 hx (y := (⟨"com/example/rank_keeper/rankkeeper/BodyLines", "isBlank", "([BII)Z"⟩ : MethodName)) hown (mvT hZ (kw66 hw)) (mvT hZ (kw67 hw)) (mvT hZ (kw3 hw)) (mvT hZ (kw68 hw)) (by decide) (backOf (W := 0) (rmBl_3 l Z a0 hw [] a1 (3 : Int32) nn b0 b1 b2 b3 kk T224.heap n0 Z224 f233 hn (own_lt1 hc236 (by decide))) hZ (kw68 hw) (kw3 hw) (by decide) (by decide)) (g := (mkF m 57 #[.val (.ref a1), .val (.ref b4), .val (.int 3), .val (.int 3), .val (.int 3)] [(.int 3), (.int 3), (.ref a1)])) rfl (by rw [hml]; rfl) (argsL := [(.ref a1), (.int 3), (.int 3)]) (rest := []) (lenOf pd_3 rfl) rfl (by show 2 * 0 + _ ≤ _; exact Nat.le_of_eq rfl) (hb hby d1_57) (fun _ _ => ⟨rfl, e321, (by decide : 5 + 0 ≤ _), (by decide : 36 + 0 ≤ _)⟩)
          dsimp only [Pt.U, Pt.locs, Pt.cells, Pt.slots] at X366 l366 y366 z366 st366 hQ366
          subst l366 y366 z366
          obtain ⟨rfl, N366q, e366⟩ := hQ366
          have N366 := Fr.app N321 N366q
          obtain ⟨cl367, Ar367, -, S367, N367', -, -⟩ := id f233
          have hsp : own_split nn b0 b1 b2 b3 = [((1 : Int32), (0 : Int32), (1 : Int32))] := by unfold own_split; rw [if_pos hc12, if_pos hc14, if_neg hc18, if_pos hc219, if_pos hc236, if_neg hc238, if_pos hc324, if_neg hc326]
          have f368 := (f226.keep Kq224)
          have f369 := (f227.keep Kq224)
          have f370 := (p223_0.keep Kq224 (ninS (Ne.symm ne220_b4) nin0))
          have f371 := (p223_1.keep Kq224 (ninS (Ne.symm ne220_b4) nin0))
          have f372 := (p223_2.keep Kq224 (ninS (Ne.symm ne220_b4) nin0))
          obtain ⟨fs, hr, hrun, hended, hRE⟩ := X366.leaveW hS2 (by rw [e366]; exact Y224) (v := some (.ref b4)) (fun h => by rw [Bd.returns] at h; cases h)
          refine ⟨_, _, pre325 _ ?_, hrun, hended, _, _, rfl, ?_, hRE.1, hRE.2.1, hRE.2.2.1, hRE.2.2.2.mono (by decide) (by decide)⟩
          · skip
            refine XS.iload X321.here hx rfl (hb hby d1_31) rfl ?_
            refine XS.aloadN X321.here hx rfl (hb hby d1_33) rfl rfl ?_
            refine X321.arraylength hx (by rw [e321]; exact Ar364.1) (State.isArrayOf_alike hZ.alike Ar364.2.1) (g := (mkF m 34 #[.val (.ref a1), .val (.ref b4), .val (.int 3), .val (.int 3), .val (.int 3)] [(.ref a1), (.int 3)])) rfl rfl (hb hby d1_34) _ ?_
            rw [len_of S364 N364']
            refine XS.icmpNo X321.here hx rfl (hb hby d1_35) rfl (tlt hc324).2.1 ?_
            refine XS.aloadN X321.here hx rfl (hb hby d1_38) rfl rfl ?_
            refine XS.iload X321.here hx rfl (hb hby d1_39) rfl ?_
            refine X321.baloadBytes hx (j := (3 : Int32)) (v := (.int (own_b b0 b1 b2 b3 (3 : Int32)))) (by rw [e321]; exact Ar365.1) (State.isArrayOf_alike hZ.alike Ar365.2.1) Ar365.2.2 hin365 hat365 (g := (mkF m 41 #[.val (.ref a1), .val (.ref b4), .val (.int 3), .val (.int 3), .val (.int 3)] [(.int 3), (.ref a1)])) rfl rfl (hb hby d1_41) _ ?_
            refine XS.bipush X321.here hx rfl (hb hby d1_42) ?_
            refine XS.icmpYes X321.here hx rfl (pc0 := 44) (pc' := 53) rfl (hb hby d1_44) rfl (teq (Decidable.byContradiction fun q => hc326 ⟨hc324, q⟩)).1 (by decide) (by decide) ?_
            refine XS.aloadN X321.here hx rfl (hb hby d1_53) rfl rfl ?_
            refine XS.iloadN X321.here hx rfl (hb hby d1_54) rfl ?_
            refine XS.iload X321.here hx rfl (hb hby d1_55) rfl ?_
            refine st366 _ ?_
            refine XS.ifYes X366.here hx rfl (pc0 := 60) (pc' := 83) rfl (hb hby d1_60) rfl ((if0 _ _).trans (feq (own_bls3 b0 b1 b2 b3)).2) (by decide) (by decide) ?_
            refine XS.iload X366.here hx rfl (hb hby d1_83) rfl ?_
            refine XS.iconst X366.here hx rfl (hb hby d1_85) ?_
            refine XS.iadd X366.here hx rfl (hb hby d1_86) rfl ?_
            refine XS.istoreN X366.here hx rfl (hb hby d1_87) rfl (l' := #[.val (.ref a1), .val (.ref b4), .val (.int 3), .val (.int 4), .val (.int 3)]) rfl ?_
            refine XS.goto X366.here hx rfl (pc0 := 88) (pc' := 19) rfl (hb hby d1_88) (by decide) (by decide) ?_
            refine XS.iloadN X366.here hx rfl (hb hby d1_19) rfl ?_
            refine XS.aloadN X366.here hx rfl (hb hby d1_20) rfl rfl ?_
            refine X366.arraylength hx (by rw [e366]; exact Ar367.1) (State.isArrayOf_alike hZ.alike Ar367.2.1) (g := (mkF m 21 #[.val (.ref a1), .val (.ref b4), .val (.int 3), .val (.int 4), .val (.int 3)] [(.ref a1), (.int 4)])) rfl rfl (hb hby d1_21) _ ?_
            rw [len_of S367 N367']
            refine XS.icmpYes X366.here hx rfl (pc0 := 22) (pc' := 91) rfl (hb hby d1_22) rfl (flt (own_ge4 hn (by decide))).2.1 (by decide) (by decide) ?_
            show Steps p.tables e below (T366.setTop (mkF m 91 #[.val (.ref a1), .val (.ref b4), .val (.int 3), .val (.int 4), .val (.int 3)] [])) _
            refine XS.aloadN X366.here hx rfl (hb hby d1_91) rfl rfl ?_
            show Steps p.tables e below (T366.setTop (mkF m 92 #[.val (.ref a1), .val (.ref b4), .val (.int 3), .val (.int 4), .val (.int 3)] [(.ref b4)])) _
            jvm_step X366.here [X366.here.top, hx, (hb hby d1_92), X366.method', Bd.returns, Value.isRef, FieldType.isReference]
            first | (intro acts; rw [hr _ acts rfl rfl rfl]) | rw [hr _ _ rfl rfl rfl]
            exact Steps.refl _
          · show Q_rmSplit Z a1 nn b0 b1 b2 b3 kk w_DEF kD h0 n0 _ T366.heap _
            rw [e366]
            exact ⟨b4, rfl, N366, K224, g_b4, sz_b4, f368, (by rw [hsp]; exact p224_4), (by rw [hsp]; exact own_lines1 p224_5 p224_2 f369 f370 f371 f372)⟩
        ·skip
         have hsp : own_split nn b0 b1 b2 b3 = [((1 : Int32), (0 : Int32), (1 : Int32))] := by unfold own_split; rw [if_pos hc12, if_pos hc14, if_neg hc18, if_pos hc219, if_pos hc236, if_neg hc238, if_neg hc324]
         have f374 := (f226.keep Kq224)
         have f375 := (f227.keep Kq224)
         have f376 := (p223_0.keep Kq224 (ninS (Ne.symm ne220_b4) nin0))
         have f377 := (p223_1.keep Kq224 (ninS (Ne.symm ne220_b4) nin0))
         have f378 := (p223_2.keep Kq224 (ninS (Ne.symm ne220_b4) nin0))
         obtain ⟨fs, hr, hrun, hended, hRE⟩ := X321.leaveW hS2 (by rw [e321]; exact Y224) (v := some (.ref b4)) (fun h => by rw [Bd.returns] at h; cases h)
         refine ⟨_, _, pre323 _ ?_, hrun, hended, _, _, rfl, ?_, hRE.1, hRE.2.1, hRE.2.2.1, hRE.2.2.2.mono (by decide) (by decide)⟩
         · skip
           refine XS.icmpYes X321.here hx rfl (pc0 := 22) (pc' := 91) rfl (hb hby d1_22) rfl (flt hc324).2.1 (by decide) (by decide) ?_
           refine XS.aloadN X321.here hx rfl (hb hby d1_91) rfl rfl ?_
           show Steps p.tables e below (T321.setTop (mkF m 92 #[.val (.ref a1), .val (.ref b4), .val (.int 2), .val (.int 3), .val (.int 2)] [(.ref b4)])) _
           jvm_step X321.here [X321.here.top, hx, (hb hby d1_92), X321.method', Bd.returns, Value.isRef, FieldType.isReference]
           first | (intro acts; rw [hr _ acts rfl rfl rfl]) | rw [hr _ _ rfl rfl rfl]
           exact Steps.refl _
         · show Q_rmSplit Z a1 nn b0 b1 b2 b3 kk w_DEF kD h0 n0 _ T321.heap _
           rw [e321]
           exact ⟨b4, rfl, N321, K224, g_b4, sz_b4, f374, (by rw [hsp]; exact p224_4), (by rw [hsp]; exact own_lines1 p224_5 p224_2 f375 f376 f377 f378)⟩
      ·skip
       have hsp : own_split nn b0 b1 b2 b3 = [((1 : Int32), (0 : Int32), (1 : Int32))] := by unfold own_split; rw [if_pos hc12, if_pos hc14, if_neg hc18, if_pos hc219, if_neg hc236]
       have f380 := (f226.keep Kq224)
       have f381 := (f227.keep Kq224)
       have f382 := (p223_0.keep Kq224 (ninS (Ne.symm ne220_b4) nin0))
       have f383 := (p223_1.keep Kq224 (ninS (Ne.symm ne220_b4) nin0))
       have f384 := (p223_2.keep Kq224 (ninS (Ne.symm ne220_b4) nin0))
       obtain ⟨fs, hr, hrun, hended, hRE⟩ := X224.leaveW hS2 Y224 (v := some (.ref b4)) (fun h => by rw [Bd.returns] at h; cases h)
       refine ⟨_, _, pre235 _ ?_, hrun, hended, _, _, rfl, ?_, hRE.1, hRE.2.1, hRE.2.2.1, hRE.2.2.2.mono (by decide) (by decide)⟩
       · skip
         refine XS.icmpYes X224.here hx rfl (pc0 := 22) (pc' := 91) rfl (hb hby d1_22) rfl (flt hc236).2.1 (by decide) (by decide) ?_
         refine XS.aloadN X224.here hx rfl (hb hby d1_91) rfl rfl ?_
         show Steps p.tables e below (T224.setTop (mkF m 92 #[.val (.ref a1), .val (.ref b4), .val (.int 1), .val (.int 2), .val (.int 1)] [(.ref b4)])) _
         jvm_step X224.here [X224.here.top, hx, (hb hby d1_92), X224.method', Bd.returns, Value.isRef, FieldType.isReference]
         first | (intro acts; rw [hr _ acts rfl rfl rfl]) | rw [hr _ _ rfl rfl rfl]
         exact Steps.refl _
       · show Q_rmSplit Z a1 nn b0 b1 b2 b3 kk w_DEF kD h0 n0 _ T224.heap _
         exact ⟨b4, rfl, N224, K224, g_b4, sz_b4, f380, (by rw [hsp]; exact p224_4), (by rw [hsp]; exact own_lines1 p224_5 p224_2 f381 f382 f383 f384)⟩
     ·skip
      obtain ⟨cl386, Ar386, -, S386, N386', -, -⟩ := id f9
      have pre387 : ∀ t, Steps p.tables e below (T217.setTop (mkF m 22 #[.val (.ref a1), .val (.ref b4), .val (.int 1), .val (.int 2), .val (.int 1)] [(.int nn), (.int 2)])) t → Steps p.tables e below (s₁.setTop (entryFrame m #[(.ref a1)] 5)) t := fun t k => pre218 t (by
        refine XS.ifYes X217.here hx rfl (pc0 := 60) (pc' := 83) rfl (hb hby d1_60) rfl ((if0 _ _).trans (feq hc219).2) (by decide) (by decide) ?_
        refine XS.iload X217.here hx rfl (hb hby d1_83) rfl ?_
        refine XS.iconst X217.here hx rfl (hb hby d1_85) ?_
        refine XS.iadd X217.here hx rfl (hb hby d1_86) rfl ?_
        refine XS.istoreN X217.here hx rfl (hb hby d1_87) rfl (l' := #[.val (.ref a1), .val (.ref b4), .val (.int 1), .val (.int 2), .val (.int 1)]) rfl ?_
        refine XS.goto X217.here hx rfl (pc0 := 88) (pc' := 19) rfl (hb hby d1_88) (by decide) (by decide) ?_
        refine XS.iloadN X217.here hx rfl (hb hby d1_19) rfl ?_
        refine XS.aloadN X217.here hx rfl (hb hby d1_20) rfl rfl ?_
        refine X217.arraylength hx (by rw [e217]; exact Ar386.1) (State.isArrayOf_alike hZ.alike Ar386.2.1) (g := (mkF m 21 #[.val (.ref a1), .val (.ref b4), .val (.int 1), .val (.int 2), .val (.int 1)] [(.ref a1), (.int 2)])) rfl rfl (hb hby d1_21) _ ?_
        rw [len_of S386 N386']
        exact k)
      by_cases hc388 : (2 : Int32) < nn
      ·skip
       have pre389 : ∀ t, Steps p.tables e below (T217.setTop (mkF m 31 #[.val (.ref a1), .val (.ref b4), .val (.int 2), .val (.int 2), .val (.int 2)] [])) t → Steps p.tables e below (s₁.setTop (entryFrame m #[(.ref a1)] 5)) t := fun t k => pre387 t (by
         refine XS.icmpNo X217.here hx rfl (hb hby d1_22) rfl (tlt hc388).2.1 ?_
         refine XS.iinc X217.here hx rfl (hb hby d1_25) rfl (l' := #[.val (.ref a1), .val (.ref b4), .val (.int 2), .val (.int 2), .val (.int 1)]) rfl ?_
         refine XS.iloadN X217.here hx rfl (hb hby d1_28) rfl ?_
         refine XS.istore X217.here hx rfl (hb hby d1_29) rfl (l' := #[.val (.ref a1), .val (.ref b4), .val (.int 2), .val (.int 2), .val (.int 2)]) rfl ?_
         exact k)
       by_cases hc390 : (2 : Int32) < nn ∧ ¬ (own_b b0 b1 b2 b3 (2 : Int32)) = (10 : Int32)
       ·skip
        obtain ⟨cl391, Ar391, -, S391, N391', -, -⟩ := id f9
        obtain ⟨cl392, Ar392, q392, S392, N392', H392, G392⟩ := id f9
        have hin392 : ¬ ((2 : Int32) < 0 ∨ cl392.slots.size ≤ ((2 : Int32)).toNatClampNeg) := inb_of S392 ⟨by decide, hc390.1⟩
        have hat392 : cl392.slots[((2 : Int32)).toNatClampNeg]? = some (.int (own_b b0 b1 b2 b3 (2 : Int32))) := H392.at hin392 (own_is_getD _ _)
        have pre393 : ∀ t, Steps p.tables e below (T217.setTop (mkF m 31 #[.val (.ref a1), .val (.ref b4), .val (.int 2), .val (.int 2), .val (.int 3)] [])) t → Steps p.tables e below (s₁.setTop (entryFrame m #[(.ref a1)] 5)) t := fun t k => pre389 t (by
          refine XS.iload X217.here hx rfl (hb hby d1_31) rfl ?_
          refine XS.aloadN X217.here hx rfl (hb hby d1_33) rfl rfl ?_
          refine X217.arraylength hx (by rw [e217]; exact Ar391.1) (State.isArrayOf_alike hZ.alike Ar391.2.1) (g := (mkF m 34 #[.val (.ref a1), .val (.ref b4), .val (.int 2), .val (.int 2), .val (.int 2)] [(.ref a1), (.int 2)])) rfl rfl (hb hby d1_34) _ ?_
          rw [len_of S391 N391']
          refine XS.icmpNo X217.here hx rfl (hb hby d1_35) rfl (tlt hc390.1).2.1 ?_
          refine XS.aloadN X217.here hx rfl (hb hby d1_38) rfl rfl ?_
          refine XS.iload X217.here hx rfl (hb hby d1_39) rfl ?_
          refine X217.baloadBytes hx (j := (2 : Int32)) (v := (.int (own_b b0 b1 b2 b3 (2 : Int32)))) (by rw [e217]; exact Ar392.1) (State.isArrayOf_alike hZ.alike Ar392.2.1) Ar392.2.2 hin392 hat392 (g := (mkF m 41 #[.val (.ref a1), .val (.ref b4), .val (.int 2), .val (.int 2), .val (.int 2)] [(.int 2), (.ref a1)])) rfl rfl (hb hby d1_41) _ ?_
          refine XS.bipush X217.here hx rfl (hb hby d1_42) ?_
          refine XS.icmpNo X217.here hx rfl (hb hby d1_44) rfl (feq hc390.2).1 ?_
          refine XS.iinc X217.here hx rfl (hb hby d1_47) rfl (l' := #[.val (.ref a1), .val (.ref b4), .val (.int 2), .val (.int 2), .val (.int 3)]) rfl ?_
          refine XS.goto X217.here hx rfl (pc0 := 50) (pc' := 31) rfl (hb hby d1_50) (by decide) (by decide) ?_
          exact k)
        by_cases hc394 : (3 : Int32) < nn ∧ ¬ (own_b b0 b1 b2 b3 (3 : Int32)) = (10 : Int32)
        ·skip
         obtain ⟨cl395, Ar395, -, S395, N395', -, -⟩ := id f9
         obtain ⟨cl396, Ar396, q396, S396, N396', H396, G396⟩ := id f9
         have hin396 : ¬ ((3 : Int32) < 0 ∨ cl396.slots.size ≤ ((3 : Int32)).toNatClampNeg) := inb_of S396 ⟨by decide, hc394.1⟩
         have hat396 : cl396.slots[((3 : Int32)).toNatClampNeg]? = some (.int (own_b b0 b1 b2 b3 (3 : Int32))) := H396.at hin396 (own_is_getD _ _)
         obtain ⟨cl397, Ar397, -, S397, N397', -, -⟩ := id f9
         obtain ⟨_, _, ⟨T398, L398, k398, n398⟩, -, X398, ⟨Lc398, hQ398, l398, y398, z398⟩, st398⟩ := Jvm.LawKit.callS X217 hx (y := (⟨"com/example/rank_keeper/rankkeeper/BodyLines", "isBlank", "([BII)Z"⟩ : MethodName)) hown (mvT hZ (kw66 hw)) (mvT hZ (kw67 hw)) (mvT hZ (kw3 hw)) (mvT hZ (kw68 hw)) (by decide) (backOf (W := 0) (rmBl_2 l Z a0 hw [] a1 (4 : Int32) nn b0 b1 b2 b3 kk T7.heap n0 Z7 f9 hn (own_lt1 hc394.1 (by decide))) hZ (kw68 hw) (kw3 hw) (by decide) (by decide)) (g := (mkF m 57 #[.val (.ref a1), .val (.ref b4), .val (.int 2), .val (.int 2), .val (.int 4)] [(.int 4), (.int 2), (.ref a1)])) rfl (by rw [hml]; rfl) (argsL := [(.ref a1), (.int 2), (.int 4)]) (rest := []) (lenOf pd_3 rfl) rfl (by show 2 * 0 + _ ≤ _; exact Nat.le_of_eq rfl) (hb hby d1_57) (fun _ _ => ⟨rfl, e217, (by decide : 3 + 0 ≤ _), (by decide : 23 + 0 ≤ _)⟩)
         dsimp only [Pt.U, Pt.locs, Pt.cells, Pt.slots] at X398 l398 y398 z398 st398 hQ398
         subst l398 y398 z398
         obtain ⟨rfl, N398q, e398⟩ := hQ398
         have N398 := Fr.app N217 N398q
         have pre399 : ∀ t, Steps p.tables e below (T398.setTop (mkF m 60 #[.val (.ref a1), .val (.ref b4), .val (.int 2), .val (.int 2), .val (.int 4)] [(.int (own_bl_2 b0 b1 b2 b3 (4 : Int32)))])) t → Steps p.tables e below (s₁.setTop (entryFrame m #[(.ref a1)] 5)) t := fun t k => pre393 t (by
           refine XS.iload X217.here hx rfl (hb hby d1_31) rfl ?_
           refine XS.aloadN X217.here hx rfl (hb hby d1_33) rfl rfl ?_
           refine X217.arraylength hx (by rw [e217]; exact Ar395.1) (State.isArrayOf_alike hZ.alike Ar395.2.1) (g := (mkF m 34 #[.val (.ref a1), .val (.ref b4), .val (.int 2), .val (.int 2), .val (.int 3)] [(.ref a1), (.int 3)])) rfl rfl (hb hby d1_34) _ ?_
           rw [len_of S395 N395']
           refine XS.icmpNo X217.here hx rfl (hb hby d1_35) rfl (tlt hc394.1).2.1 ?_
           refine XS.aloadN X217.here hx rfl (hb hby d1_38) rfl rfl ?_
           refine XS.iload X217.here hx rfl (hb hby d1_39) rfl ?_
           refine X217.baloadBytes hx (j := (3 : Int32)) (v := (.int (own_b b0 b1 b2 b3 (3 : Int32)))) (by rw [e217]; exact Ar396.1) (State.isArrayOf_alike hZ.alike Ar396.2.1) Ar396.2.2 hin396 hat396 (g := (mkF m 41 #[.val (.ref a1), .val (.ref b4), .val (.int 2), .val (.int 2), .val (.int 3)] [(.int 3), (.ref a1)])) rfl rfl (hb hby d1_41) _ ?_
           refine XS.bipush X217.here hx rfl (hb hby d1_42) ?_
           refine XS.icmpNo X217.here hx rfl (hb hby d1_44) rfl (feq hc394.2).1 ?_
           refine XS.iinc X217.here hx rfl (hb hby d1_47) rfl (l' := #[.val (.ref a1), .val (.ref b4), .val (.int 2), .val (.int 2), .val (.int 4)]) rfl ?_
           refine XS.goto X217.here hx rfl (pc0 := 50) (pc' := 31) rfl (hb hby d1_50) (by decide) (by decide) ?_
           refine XS.iload X217.here hx rfl (hb hby d1_31) rfl ?_
           refine XS.aloadN X217.here hx rfl (hb hby d1_33) rfl rfl ?_
           refine X217.arraylength hx (by rw [e217]; exact Ar397.1) (State.isArrayOf_alike hZ.alike Ar397.2.1) (g := (mkF m 34 #[.val (.ref a1), .val (.ref b4), .val (.int 2), .val (.int 2), .val (.int 4)] [(.ref a1), (.int 4)])) rfl rfl (hb hby d1_34) _ ?_
           rw [len_of S397 N397']
           refine XS.icmpYes X217.here hx rfl (pc0 := 35) (pc' := 53) rfl (hb hby d1_35) rfl (flt (own_ge4 hn (by decide))).2.1 (by decide) (by decide) ?_
           refine XS.aloadN X217.here hx rfl (hb hby d1_53) rfl rfl ?_
           refine XS.iloadN X217.here hx rfl (hb hby d1_54) rfl ?_
           refine XS.iload X217.here hx rfl (hb hby d1_55) rfl ?_
           refine st398 _ ?_
           exact k)
         by_cases hc400 : (own_bl_2 b0 b1 b2 b3 (4 : Int32)) = (0 : Int32)
         ·skip
          have f402 := (A4.keep Kq7)
          have f403 := ((f6.ext E4).keep Kq7 (ninS ne4_w_DEF nin0))
          obtain ⟨T401, h401, X401, e401, E401, A401, D401, -, st401⟩ := newO X398 hx hZ hown (kw69 hw) (kw70 hw) (kw71 hw) e398 (g := (mkF m 64 #[.val (.ref a1), .val (.ref b4), .val (.int 2), .val (.int 2), .val (.int 4)] [(.ref b4)])) rfl (hb hby d1_64) (by decide) (by decide)
          obtain ⟨b401, g401⟩ : ∃ z, z = T7.heap.size := ⟨_, rfl⟩
          rw [← g401] at A401 D401 st401
          have ne401_a1 : a1 ≠ b401 := Nat.ne_of_lt (Nat.lt_of_lt_of_le f9.lt (Nat.le_of_eq g401.symm))
          have ne401_b4 : b4 ≠ b401 := Nat.ne_of_lt (Nat.lt_of_lt_of_le f402.lt (Nat.le_of_eq g401.symm))
          have ne401_w_DEF : w_DEF ≠ b401 := Nat.ne_of_lt (Nat.lt_of_lt_of_le f403.lt (Nat.le_of_eq g401.symm))
          have g_b401 : n0 ≤ b401 := Nat.le_trans Z7 (Nat.le_of_eq g401.symm)
          have sz_b401 : h0.size ≤ b401 := Nat.le_trans K7.1 (Nat.le_of_eq g401.symm)
          have Z401 : n0 ≤ h401.size := Nat.le_trans Z7 E401.1
          have Y401 : kS2 ≤ h401.size := Nat.le_trans Y7 E401.1
          have K401 : Keep h0 h401 [] := K7.ext E401
          have F401_number : Fld Z h401 b401 "com/example/rank_keeper/rankkeeper/BodyLines$Line" "number" "I" (.int 0) := D401 (Or.inr (kw82 hw)) (ty := .int) (by decide)
          have F401_offset : Fld Z h401 b401 "com/example/rank_keeper/rankkeeper/BodyLines$Line" "offset" "I" (.int 0) := D401 (Or.inr (kw84 hw)) (ty := .int) (by decide)
          have F401_length : Fld Z h401 b401 "com/example/rank_keeper/rankkeeper/BodyLines$Line" "length" "I" (.int 0) := D401 (Or.inr (kw86 hw)) (ty := .int) (by decide)
          obtain ⟨_, _, ⟨T404, L404, k404, n404⟩, -, X404, ⟨Lc404, hQ404, l404, y404, z404⟩, st404⟩ := X401.specialBack hx (y := (⟨"com/example/rank_keeper/rankkeeper/BodyLines$Line", "<init>", "(III)V"⟩ : MethodName)) rfl hown (mvT hZ (kw72 hw)) (mvT hZ (kw73 hw)) (mvT hZ (kw74 hw)) (by decide) (backOf (W := 2) (rm13 l Z a0 hw [] b401 (2 : Int32) (2 : Int32) (2 : Int32) h401 n0 Z401 A401 g_b401 F401_number F401_offset F401_length) hZ (kw74 hw) (kw71 hw) (by decide) (by decide)) (g := (mkF m 74 #[.val (.ref a1), .val (.ref b4), .val (.int 2), .val (.int 2), .val (.int 4)] [(.int 2), (.int 2), (.int 2), (.ref b401), (.ref b401), (.ref b4)])) rfl (by rw [hml]; rfl) (Steps.refl _) (a := b401) (argsL := [(.int 2), (.int 2), (.int 2)]) (rest := [(.ref b401), (.ref b4)]) (lenOf pd_13 rfl) rfl (by show 2 * 0 + _ ≤ _; exact Nat.le_of_eq rfl) (hb hby d1_74) (fun _ _ => ⟨rfl, e401, (by decide : 4 + 0 ≤ _), (by decide : 26 + 0 ≤ _)⟩)
          dsimp only [Pt.U, Pt.locs, Pt.cells, Pt.slots] at X404 l404 y404 z404 st404 hQ404
          subst l404 y404 z404
          obtain ⟨rfl, N404q, Kq404, p404_0, p404_1, p404_2⟩ := hQ404
          have N404 := Fr.app N398 N404q
          have Z404 : n0 ≤ T404.heap.size := Nat.le_trans Z401 Kq404.1
          have Y404 : kS2 ≤ T404.heap.size := Nat.le_trans Y401 Kq404.1
          have K404 : Keep h0 T404.heap [] := K401.trans Kq404 (allS (Or.inr sz_b401) all0)
          have f406 := (((f8.keep Kq7 (allS g_b4 all0)).ext E401).keep Kq404 (allS g_b401 all0))
          have f407 := ((f402.ext E401).keep Kq404)
          have f408 := (A401.keep Kq404)
          have f409 := ((p7_1.ext E401).keep Kq404 (ninS ne401_b4 nin0))
          have f410 := ((p7_2.ext E401).keep Kq404 (ninS ne401_b4 nin0))
          have f411 := ((p7_0.ext E401).keep Kq404 (ninS ne401_b4 nin0))
          have f412 := ((f403.ext E401).keep Kq404 (ninS ne401_w_DEF nin0))
          have f413 := ((f9.ext E401).keep Kq404 (ninS ne401_a1 nin0))
          obtain ⟨cq405, kq405, q405a, q405b, q405c⟩ := isOf hZ rfl f407
          obtain ⟨_, _, ⟨T405, L405, k405, n405⟩, -, X405, ⟨Lc405, hQ405, l405, y405, z405⟩, st405⟩ := X404.interfaceBack hx (xi := (⟨"java/util/List", "add", "(Ljava/lang/Object;)Z"⟩ : MethodName)) (y := (⟨"java/util/ArrayList", "add", "(Ljava/lang/Object;)Z"⟩ : MethodName)) hown (mvT hZ (kw87 hw)) (mvT hZ (kw88 hw)) (mvT hZ (kw89 hw)) (mvT hZ (kw90 hw)) (mvT hZ (kw91 hw)) (mvT hZ (kw92 hw)) (mvT hZ (kw93 hw)) (mvT hZ (kw56 hw)) (by decide) (backOf (W := 0) (rmAdd0 l Z a0 hw [] b4 b401 w_DEF kD (0 : Int32) T404.heap n0 Z404 f406 P1 f407 g_b4 f408 f409 f410 f411 f412 ne4_w_DEF) hZ (kw94 hw) (kw18 hw) (by decide) (by decide)) q405a q405b q405c (g := (mkF m 77 #[.val (.ref a1), .val (.ref b4), .val (.int 2), .val (.int 2), .val (.int 4)] [(.ref b401), (.ref b4)])) rfl (by rw [hml]; rfl) (Steps.refl _) (argsL := [(.ref b401)]) (rest := []) (lenOf pd_14 rfl) rfl (by show 2 * 0 + _ ≤ _; exact Nat.le_of_eq rfl) (hb hby d1_77) (fun _ _ => ⟨rfl, rfl, (by decide : 4 + 1 ≤ _), (by decide : 26 + 10 ≤ _)⟩)
          dsimp only [Pt.U, Pt.locs, Pt.cells, Pt.slots] at X405 l405 y405 z405 st405 hQ405
          subst l405 y405 z405
          obtain ⟨ed_405, kd_405, rfl, N405q, Kq405, p405_0, p405_1, p405_2, p405_3, p405_4, p405_5, p405_6⟩ := hQ405
          have N405 := Fr.app N404 N405q
          have Z405 : n0 ≤ T405.heap.size := Nat.le_trans Z404 Kq405.1
          have Y405 : kS2 ≤ T405.heap.size := Nat.le_trans Y404 Kq405.1
          have K405 : Keep h0 T405.heap [] := K404.trans Kq405 (allS (Or.inr sz_b4) all0)
          have sz_ed_405 : h0.size ≤ ed_405 := Nat.le_trans K404.1 p405_1
          have ne405_a1_ed_405 : a1 ≠ ed_405 := Nat.ne_of_lt (Nat.lt_of_lt_of_le f413.lt p405_1)
          have ne405_b4_ed_405 : b4 ≠ ed_405 := Nat.ne_of_lt (Nat.lt_of_lt_of_le f407.lt p405_1)
          have ne405_b401_ed_405 : b401 ≠ ed_405 := Nat.ne_of_lt (Nat.lt_of_lt_of_le f408.lt p405_1)
          have ne405_w_DEF_ed_405 : w_DEF ≠ ed_405 := Nat.ne_of_lt (Nat.lt_of_lt_of_le f412.lt p405_1)
          have f414 := (f413.keep Kq405 (ninS ne4_a1 nin0))
          obtain ⟨cl415, Ar415, -, S415, N415', -, -⟩ := id f414
          have hsp : own_split nn b0 b1 b2 b3 = [((2 : Int32), (2 : Int32), (2 : Int32))] := by unfold own_split; rw [if_pos hc12, if_pos hc14, if_neg hc18, if_neg hc219, if_pos hc388, if_pos hc390, if_pos hc394, if_pos hc400]
          have f416 := (f407.keep Kq405)
          have f417 := (f408.keep Kq405)
          have f418 := (p404_0.keep Kq405 (ninS (Ne.symm ne401_b4) nin0))
          have f419 := (p404_1.keep Kq405 (ninS (Ne.symm ne401_b4) nin0))
          have f420 := (p404_2.keep Kq405 (ninS (Ne.symm ne401_b4) nin0))
          obtain ⟨fs, hr, hrun, hended, hRE⟩ := X405.leaveW hS2 Y405 (v := some (.ref b4)) (fun h => by rw [Bd.returns] at h; cases h)
          refine ⟨_, _, pre399 _ ?_, hrun, hended, _, _, rfl, ?_, hRE.1, hRE.2.1, hRE.2.2.1, hRE.2.2.2.mono (by decide) (by decide)⟩
          · skip
            refine XS.ifNo X398.here hx rfl (hb hby d1_60) rfl ((if0 _ _).trans (teq hc400).2) ?_
            refine XS.aloadN X398.here hx rfl (hb hby d1_63) rfl rfl ?_
            refine st401 _ ?_
            refine XS.dup X401.here hx rfl (hb hby d1_67) rfl rfl ?_
            refine XS.iloadN X401.here hx rfl (hb hby d1_68) rfl ?_
            refine XS.iloadN X401.here hx rfl (hb hby d1_69) rfl ?_
            refine XS.iload X401.here hx rfl (hb hby d1_70) rfl ?_
            refine XS.iloadN X401.here hx rfl (hb hby d1_72) rfl ?_
            refine XS.isub X401.here hx rfl (hb hby d1_73) rfl ?_
            refine st404.trans ?_
            refine st405.trans ?_
            refine XS.pop X405.here hx rfl (hb hby d1_82) rfl rfl ?_
            refine XS.iload X405.here hx rfl (hb hby d1_83) rfl ?_
            refine XS.iconst X405.here hx rfl (hb hby d1_85) ?_
            refine XS.iadd X405.here hx rfl (hb hby d1_86) rfl ?_
            refine XS.istoreN X405.here hx rfl (hb hby d1_87) rfl (l' := #[.val (.ref a1), .val (.ref b4), .val (.int 2), .val (.int 5), .val (.int 4)]) rfl ?_
            refine XS.goto X405.here hx rfl (pc0 := 88) (pc' := 19) rfl (hb hby d1_88) (by decide) (by decide) ?_
            refine XS.iloadN X405.here hx rfl (hb hby d1_19) rfl ?_
            refine XS.aloadN X405.here hx rfl (hb hby d1_20) rfl rfl ?_
            refine X405.arraylength hx Ar415.1 (State.isArrayOf_alike hZ.alike Ar415.2.1) (g := (mkF m 21 #[.val (.ref a1), .val (.ref b4), .val (.int 2), .val (.int 5), .val (.int 4)] [(.ref a1), (.int 5)])) rfl rfl (hb hby d1_21) _ ?_
            rw [len_of S415 N415']
            refine XS.icmpYes X405.here hx rfl (pc0 := 22) (pc' := 91) rfl (hb hby d1_22) rfl (flt (own_ge4 hn (by decide))).2.1 (by decide) (by decide) ?_
            refine XS.aloadN X405.here hx rfl (hb hby d1_91) rfl rfl ?_
            show Steps p.tables e below (T405.setTop (mkF m 92 #[.val (.ref a1), .val (.ref b4), .val (.int 2), .val (.int 5), .val (.int 4)] [(.ref b4)])) _
            jvm_step X405.here [X405.here.top, hx, (hb hby d1_92), X405.method', Bd.returns, Value.isRef, FieldType.isReference]
            first | (intro acts; rw [hr _ acts rfl rfl rfl]) | rw [hr _ _ rfl rfl rfl]
            exact Steps.refl _
          · show Q_rmSplit Z a1 nn b0 b1 b2 b3 kk w_DEF kD h0 n0 _ T405.heap _
            exact ⟨b4, rfl, N405, K405, g_b4, sz_b4, f416, (by rw [hsp]; exact p405_4), (by rw [hsp]; exact own_lines1 p405_5 p405_2 f417 f418 f419 f420)⟩
         ·skip
          obtain ⟨cl422, Ar422, -, S422, N422', -, -⟩ := id f9
          have hsp : own_split nn b0 b1 b2 b3 = [] := by unfold own_split; rw [if_pos hc12, if_pos hc14, if_neg hc18, if_neg hc219, if_pos hc388, if_pos hc390, if_pos hc394, if_neg hc400]
          have f423 := (A4.keep Kq7)
          obtain ⟨fs, hr, hrun, hended, hRE⟩ := X398.leaveW hS2 (by rw [e398]; exact Y7) (v := some (.ref b4)) (fun h => by rw [Bd.returns] at h; cases h)
          refine ⟨_, _, pre399 _ ?_, hrun, hended, _, _, rfl, ?_, hRE.1, hRE.2.1, hRE.2.2.1, hRE.2.2.2.mono (by decide) (by decide)⟩
          · skip
            refine XS.ifYes X398.here hx rfl (pc0 := 60) (pc' := 83) rfl (hb hby d1_60) rfl ((if0 _ _).trans (feq hc400).2) (by decide) (by decide) ?_
            refine XS.iload X398.here hx rfl (hb hby d1_83) rfl ?_
            refine XS.iconst X398.here hx rfl (hb hby d1_85) ?_
            refine XS.iadd X398.here hx rfl (hb hby d1_86) rfl ?_
            refine XS.istoreN X398.here hx rfl (hb hby d1_87) rfl (l' := #[.val (.ref a1), .val (.ref b4), .val (.int 2), .val (.int 5), .val (.int 4)]) rfl ?_
            refine XS.goto X398.here hx rfl (pc0 := 88) (pc' := 19) rfl (hb hby d1_88) (by decide) (by decide) ?_
            refine XS.iloadN X398.here hx rfl (hb hby d1_19) rfl ?_
            refine XS.aloadN X398.here hx rfl (hb hby d1_20) rfl rfl ?_
            refine X398.arraylength hx (by rw [e398]; exact Ar422.1) (State.isArrayOf_alike hZ.alike Ar422.2.1) (g := (mkF m 21 #[.val (.ref a1), .val (.ref b4), .val (.int 2), .val (.int 5), .val (.int 4)] [(.ref a1), (.int 5)])) rfl rfl (hb hby d1_21) _ ?_
            rw [len_of S422 N422']
            refine XS.icmpYes X398.here hx rfl (pc0 := 22) (pc' := 91) rfl (hb hby d1_22) rfl (flt (own_ge4 hn (by decide))).2.1 (by decide) (by decide) ?_
            refine XS.aloadN X398.here hx rfl (hb hby d1_91) rfl rfl ?_
            show Steps p.tables e below (T398.setTop (mkF m 92 #[.val (.ref a1), .val (.ref b4), .val (.int 2), .val (.int 5), .val (.int 4)] [(.ref b4)])) _
            jvm_step X398.here [X398.here.top, hx, (hb hby d1_92), X398.method', Bd.returns, Value.isRef, FieldType.isReference]
            first | (intro acts; rw [hr _ acts rfl rfl rfl]) | rw [hr _ _ rfl rfl rfl]
            exact Steps.refl _
          · show Q_rmSplit Z a1 nn b0 b1 b2 b3 kk w_DEF kD h0 n0 _ T398.heap _
            rw [e398]
            exact ⟨b4, rfl, N398, K7, g_b4, sz_b4, f423, (by rw [hsp]; exact p7_2), (by rw [hsp]; exact own_lines0)⟩
        ·skip
         obtain ⟨cl425, Ar425, -, S425, N425', -, -⟩ := id f9
         have pre426 : ∀ t, Steps p.tables e below (T217.setTop (mkF m 35 #[.val (.ref a1), .val (.ref b4), .val (.int 2), .val (.int 2), .val (.int 3)] [(.int nn), (.int 3)])) t → Steps p.tables e below (s₁.setTop (entryFrame m #[(.ref a1)] 5)) t := fun t k => pre393 t (by
           refine XS.iload X217.here hx rfl (hb hby d1_31) rfl ?_
           refine XS.aloadN X217.here hx rfl (hb hby d1_33) rfl rfl ?_
           refine X217.arraylength hx (by rw [e217]; exact Ar425.1) (State.isArrayOf_alike hZ.alike Ar425.2.1) (g := (mkF m 34 #[.val (.ref a1), .val (.ref b4), .val (.int 2), .val (.int 2), .val (.int 3)] [(.ref a1), (.int 3)])) rfl rfl (hb hby d1_34) _ ?_
           rw [len_of S425 N425']
           exact k)
         obtain ⟨LJ427, TJ427, XJ427, NJ427, eJ427, pre427⟩ : ∃ (LL : List Loc) (T' : State), Stand p l e ({ frames := 5, cells := 6, slots := 39, locals := 69 } : Room) (s.setVm T2.vm) m #[(.ref a1)] below meth c T' LL 3 23 ∧ Fr n0 LL ∧ T'.heap = T7.heap ∧ ∀ t, Steps p.tables e below (T'.setTop (mkF m 53 #[.val (.ref a1), .val (.ref b4), .val (.int 2), .val (.int 2), .val (.int 3)] [])) t → Steps p.tables e below (s₁.setTop (entryFrame m #[(.ref a1)] 5)) t := by
           by_cases hc428 : (3 : Int32) < nn
           ·skip
            obtain ⟨cl429, Ar429, q429, S429, N429', H429, G429⟩ := id f9
            have hin429 : ¬ ((3 : Int32) < 0 ∨ cl429.slots.size ≤ ((3 : Int32)).toNatClampNeg) := inb_of S429 ⟨by decide, hc428⟩
            have hat429 : cl429.slots[((3 : Int32)).toNatClampNeg]? = some (.int (own_b b0 b1 b2 b3 (3 : Int32))) := H429.at hin429 (own_is_getD _ _)
            refine ⟨_, _, X217, N217, e217, fun t k => pre426 t ?_⟩
            refine XS.icmpNo X217.here hx rfl (hb hby d1_35) rfl (tlt hc428).2.1 ?_
            refine XS.aloadN X217.here hx rfl (hb hby d1_38) rfl rfl ?_
            refine XS.iload X217.here hx rfl (hb hby d1_39) rfl ?_
            refine X217.baloadBytes hx (j := (3 : Int32)) (v := (.int (own_b b0 b1 b2 b3 (3 : Int32)))) (by rw [e217]; exact Ar429.1) (State.isArrayOf_alike hZ.alike Ar429.2.1) Ar429.2.2 hin429 hat429 (g := (mkF m 41 #[.val (.ref a1), .val (.ref b4), .val (.int 2), .val (.int 2), .val (.int 3)] [(.int 3), (.ref a1)])) rfl rfl (hb hby d1_41) _ ?_
            refine XS.bipush X217.here hx rfl (hb hby d1_42) ?_
            refine XS.icmpYes X217.here hx rfl (pc0 := 44) (pc' := 53) rfl (hb hby d1_44) rfl (teq (Decidable.byContradiction fun q => hc394 ⟨hc428, q⟩)).1 (by decide) (by decide) ?_
            exact k
           ·skip
            refine ⟨_, _, X217, N217, e217, fun t k => pre426 t ?_⟩
            refine XS.icmpYes X217.here hx rfl (pc0 := 35) (pc' := 53) rfl (hb hby d1_35) rfl (flt hc428).2.1 (by decide) (by decide) ?_
            exact k
         obtain ⟨_, _, ⟨T430, L430, k430, n430⟩, -, X430, ⟨Lc430, hQ430, l430, y430, z430⟩, st430⟩ := Jvm.LawKit.callS XJ427 hx (y := (⟨"com/example/rank_keeper/rankkeeper/BodyLines", "isBlank", "([BII)Z"⟩ : MethodName)) hown (mvT hZ (kw66 hw)) (mvT hZ (kw67 hw)) (mvT hZ (kw3 hw)) (mvT hZ (kw68 hw)) (by decide) (backOf (W := 0) (rmBl_2 l Z a0 hw [] a1 (3 : Int32) nn b0 b1 b2 b3 kk T7.heap n0 Z7 f9 hn (own_lt1 hc390.1 (by decide))) hZ (kw68 hw) (kw3 hw) (by decide) (by decide)) (g := (mkF m 57 #[.val (.ref a1), .val (.ref b4), .val (.int 2), .val (.int 2), .val (.int 3)] [(.int 3), (.int 2), (.ref a1)])) rfl (by rw [hml]; rfl) (argsL := [(.ref a1), (.int 2), (.int 3)]) (rest := []) (lenOf pd_3 rfl) rfl (by show 2 * 0 + _ ≤ _; exact Nat.le_of_eq rfl) (hb hby d1_57) (fun _ _ => ⟨rfl, eJ427, (by decide : 3 + 0 ≤ _), (by decide : 23 + 0 ≤ _)⟩)
         dsimp only [Pt.U, Pt.locs, Pt.cells, Pt.slots] at X430 l430 y430 z430 st430 hQ430
         subst l430 y430 z430
         obtain ⟨rfl, N430q, e430⟩ := hQ430
         have N430 := Fr.app NJ427 N430q
         have pre431 : ∀ t, Steps p.tables e below (T430.setTop (mkF m 60 #[.val (.ref a1), .val (.ref b4), .val (.int 2), .val (.int 2), .val (.int 3)] [(.int (own_bl_2 b0 b1 b2 b3 (3 : Int32)))])) t → Steps p.tables e below (s₁.setTop (entryFrame m #[(.ref a1)] 5)) t := fun t k => pre427 t (by
           refine XS.aloadN XJ427.here hx rfl (hb hby d1_53) rfl rfl ?_
           refine XS.iloadN XJ427.here hx rfl (hb hby d1_54) rfl ?_
           refine XS.iload XJ427.here hx rfl (hb hby d1_55) rfl ?_
           refine st430 _ ?_
           exact k)
         by_cases hc432 : (own_bl_2 b0 b1 b2 b3 (3 : Int32)) = (0 : Int32)
         ·skip
          have f434 := (A4.keep Kq7)
          have f435 := ((f6.ext E4).keep Kq7 (ninS ne4_w_DEF nin0))
          obtain ⟨T433, h433, X433, e433, E433, A433, D433, -, st433⟩ := newO X430 hx hZ hown (kw69 hw) (kw70 hw) (kw71 hw) e430 (g := (mkF m 64 #[.val (.ref a1), .val (.ref b4), .val (.int 2), .val (.int 2), .val (.int 3)] [(.ref b4)])) rfl (hb hby d1_64) (by decide) (by decide)
          obtain ⟨b433, g433⟩ : ∃ z, z = T7.heap.size := ⟨_, rfl⟩
          rw [← g433] at A433 D433 st433
          have ne433_a1 : a1 ≠ b433 := Nat.ne_of_lt (Nat.lt_of_lt_of_le f9.lt (Nat.le_of_eq g433.symm))
          have ne433_b4 : b4 ≠ b433 := Nat.ne_of_lt (Nat.lt_of_lt_of_le f434.lt (Nat.le_of_eq g433.symm))
          have ne433_w_DEF : w_DEF ≠ b433 := Nat.ne_of_lt (Nat.lt_of_lt_of_le f435.lt (Nat.le_of_eq g433.symm))
          have g_b433 : n0 ≤ b433 := Nat.le_trans Z7 (Nat.le_of_eq g433.symm)
          have sz_b433 : h0.size ≤ b433 := Nat.le_trans K7.1 (Nat.le_of_eq g433.symm)
          have Z433 : n0 ≤ h433.size := Nat.le_trans Z7 E433.1
          have Y433 : kS2 ≤ h433.size := Nat.le_trans Y7 E433.1
          have K433 : Keep h0 h433 [] := K7.ext E433
          have F433_number : Fld Z h433 b433 "com/example/rank_keeper/rankkeeper/BodyLines$Line" "number" "I" (.int 0) := D433 (Or.inr (kw82 hw)) (ty := .int) (by decide)
          have F433_offset : Fld Z h433 b433 "com/example/rank_keeper/rankkeeper/BodyLines$Line" "offset" "I" (.int 0) := D433 (Or.inr (kw84 hw)) (ty := .int) (by decide)
          have F433_length : Fld Z h433 b433 "com/example/rank_keeper/rankkeeper/BodyLines$Line" "length" "I" (.int 0) := D433 (Or.inr (kw86 hw)) (ty := .int) (by decide)
          obtain ⟨_, _, ⟨T436, L436, k436, n436⟩, -, X436, ⟨Lc436, hQ436, l436, y436, z436⟩, st436⟩ := X433.specialBack hx (y := (⟨"com/example/rank_keeper/rankkeeper/BodyLines$Line", "<init>", "(III)V"⟩ : MethodName)) rfl hown (mvT hZ (kw72 hw)) (mvT hZ (kw73 hw)) (mvT hZ (kw74 hw)) (by decide) (backOf (W := 2) (rm13 l Z a0 hw [] b433 (2 : Int32) (2 : Int32) (1 : Int32) h433 n0 Z433 A433 g_b433 F433_number F433_offset F433_length) hZ (kw74 hw) (kw71 hw) (by decide) (by decide)) (g := (mkF m 74 #[.val (.ref a1), .val (.ref b4), .val (.int 2), .val (.int 2), .val (.int 3)] [(.int 1), (.int 2), (.int 2), (.ref b433), (.ref b433), (.ref b4)])) rfl (by rw [hml]; rfl) (Steps.refl _) (a := b433) (argsL := [(.int 2), (.int 2), (.int 1)]) (rest := [(.ref b433), (.ref b4)]) (lenOf pd_13 rfl) rfl (by show 2 * 0 + _ ≤ _; exact Nat.le_of_eq rfl) (hb hby d1_74) (fun _ _ => ⟨rfl, e433, (by decide : 4 + 0 ≤ _), (by decide : 26 + 0 ≤ _)⟩)
          dsimp only [Pt.U, Pt.locs, Pt.cells, Pt.slots] at X436 l436 y436 z436 st436 hQ436
          subst l436 y436 z436
          obtain ⟨rfl, N436q, Kq436, p436_0, p436_1, p436_2⟩ := hQ436
          have N436 := Fr.app N430 N436q
          have Z436 : n0 ≤ T436.heap.size := Nat.le_trans Z433 Kq436.1
          have Y436 : kS2 ≤ T436.heap.size := Nat.le_trans Y433 Kq436.1
          have K436 : Keep h0 T436.heap [] := K433.trans Kq436 (allS (Or.inr sz_b433) all0)
          have f438 := (((f8.keep Kq7 (allS g_b4 all0)).ext E433).keep Kq436 (allS g_b433 all0))
          have f439 := ((f434.ext E433).keep Kq436)
          have f440 := (A433.keep Kq436)
          have f441 := ((p7_1.ext E433).keep Kq436 (ninS ne433_b4 nin0))
          have f442 := ((p7_2.ext E433).keep Kq436 (ninS ne433_b4 nin0))
          have f443 := ((p7_0.ext E433).keep Kq436 (ninS ne433_b4 nin0))
          have f444 := ((f435.ext E433).keep Kq436 (ninS ne433_w_DEF nin0))
          have f445 := ((f9.ext E433).keep Kq436 (ninS ne433_a1 nin0))
          obtain ⟨cq437, kq437, q437a, q437b, q437c⟩ := isOf hZ rfl f439
          obtain ⟨_, _, ⟨T437, L437, k437, n437⟩, -, X437, ⟨Lc437, hQ437, l437, y437, z437⟩, st437⟩ := X436.interfaceBack hx (xi := (⟨"java/util/List", "add", "(Ljava/lang/Object;)Z"⟩ : MethodName)) (y := (⟨"java/util/ArrayList", "add", "(Ljava/lang/Object;)Z"⟩ : MethodName)) hown (mvT hZ (kw87 hw)) (mvT hZ (kw88 hw)) (mvT hZ (kw89 hw)) (mvT hZ (kw90 hw)) (mvT hZ (kw91 hw)) (mvT hZ (kw92 hw)) (mvT hZ (kw93 hw)) (mvT hZ (kw56 hw)) (by decide) (backOf (W := 0) (rmAdd0 l Z a0 hw [] b4 b433 w_DEF kD (0 : Int32) T436.heap n0 Z436 f438 P1 f439 g_b4 f440 f441 f442 f443 f444 ne4_w_DEF) hZ (kw94 hw) (kw18 hw) (by decide) (by decide)) q437a q437b q437c (g := (mkF m 77 #[.val (.ref a1), .val (.ref b4), .val (.int 2), .val (.int 2), .val (.int 3)] [(.ref b433), (.ref b4)])) rfl (by rw [hml]; rfl) (Steps.refl _) (argsL := [(.ref b433)]) (rest := []) (lenOf pd_14 rfl) rfl (by show 2 * 0 + _ ≤ _; exact Nat.le_of_eq rfl) (hb hby d1_77) (fun _ _ => ⟨rfl, rfl, (by decide : 4 + 1 ≤ _), (by decide : 26 + 10 ≤ _)⟩)
          dsimp only [Pt.U, Pt.locs, Pt.cells, Pt.slots] at X437 l437 y437 z437 st437 hQ437
          subst l437 y437 z437
          obtain ⟨ed_437, kd_437, rfl, N437q, Kq437, p437_0, p437_1, p437_2, p437_3, p437_4, p437_5, p437_6⟩ := hQ437
          have N437 := Fr.app N436 N437q
          have Z437 : n0 ≤ T437.heap.size := Nat.le_trans Z436 Kq437.1
          have Y437 : kS2 ≤ T437.heap.size := Nat.le_trans Y436 Kq437.1
          have K437 : Keep h0 T437.heap [] := K436.trans Kq437 (allS (Or.inr sz_b4) all0)
          have sz_ed_437 : h0.size ≤ ed_437 := Nat.le_trans K436.1 p437_1
          have ne437_a1_ed_437 : a1 ≠ ed_437 := Nat.ne_of_lt (Nat.lt_of_lt_of_le f445.lt p437_1)
          have ne437_b4_ed_437 : b4 ≠ ed_437 := Nat.ne_of_lt (Nat.lt_of_lt_of_le f439.lt p437_1)
          have ne437_b433_ed_437 : b433 ≠ ed_437 := Nat.ne_of_lt (Nat.lt_of_lt_of_le f440.lt p437_1)
          have ne437_w_DEF_ed_437 : w_DEF ≠ ed_437 := Nat.ne_of_lt (Nat.lt_of_lt_of_le f444.lt p437_1)
          have f446 := (f445.keep Kq437 (ninS ne4_a1 nin0))
          obtain ⟨cl447, Ar447, -, S447, N447', -, -⟩ := id f446
          have hsp : own_split nn b0 b1 b2 b3 = [((2 : Int32), (2 : Int32), (1 : Int32))] := by unfold own_split; rw [if_pos hc12, if_pos hc14, if_neg hc18, if_neg hc219, if_pos hc388, if_pos hc390, if_neg hc394, if_pos hc432]
          have f448 := (f439.keep Kq437)
          have f449 := (f440.keep Kq437)
          have f450 := (p436_0.keep Kq437 (ninS (Ne.symm ne433_b4) nin0))
          have f451 := (p436_1.keep Kq437 (ninS (Ne.symm ne433_b4) nin0))
          have f452 := (p436_2.keep Kq437 (ninS (Ne.symm ne433_b4) nin0))
          obtain ⟨fs, hr, hrun, hended, hRE⟩ := X437.leaveW hS2 Y437 (v := some (.ref b4)) (fun h => by rw [Bd.returns] at h; cases h)
          refine ⟨_, _, pre431 _ ?_, hrun, hended, _, _, rfl, ?_, hRE.1, hRE.2.1, hRE.2.2.1, hRE.2.2.2.mono (by decide) (by decide)⟩
          · skip
            refine XS.ifNo X430.here hx rfl (hb hby d1_60) rfl ((if0 _ _).trans (teq hc432).2) ?_
            refine XS.aloadN X430.here hx rfl (hb hby d1_63) rfl rfl ?_
            refine st433 _ ?_
            refine XS.dup X433.here hx rfl (hb hby d1_67) rfl rfl ?_
            refine XS.iloadN X433.here hx rfl (hb hby d1_68) rfl ?_
            refine XS.iloadN X433.here hx rfl (hb hby d1_69) rfl ?_
            refine XS.iload X433.here hx rfl (hb hby d1_70) rfl ?_
            refine XS.iloadN X433.here hx rfl (hb hby d1_72) rfl ?_
            refine XS.isub X433.here hx rfl (hb hby d1_73) rfl ?_
            refine st436.trans ?_
            refine st437.trans ?_
            refine XS.pop X437.here hx rfl (hb hby d1_82) rfl rfl ?_
            refine XS.iload X437.here hx rfl (hb hby d1_83) rfl ?_
            refine XS.iconst X437.here hx rfl (hb hby d1_85) ?_
            refine XS.iadd X437.here hx rfl (hb hby d1_86) rfl ?_
            refine XS.istoreN X437.here hx rfl (hb hby d1_87) rfl (l' := #[.val (.ref a1), .val (.ref b4), .val (.int 2), .val (.int 4), .val (.int 3)]) rfl ?_
            refine XS.goto X437.here hx rfl (pc0 := 88) (pc' := 19) rfl (hb hby d1_88) (by decide) (by decide) ?_
            refine XS.iloadN X437.here hx rfl (hb hby d1_19) rfl ?_
            refine XS.aloadN X437.here hx rfl (hb hby d1_20) rfl rfl ?_
            refine X437.arraylength hx Ar447.1 (State.isArrayOf_alike hZ.alike Ar447.2.1) (g := (mkF m 21 #[.val (.ref a1), .val (.ref b4), .val (.int 2), .val (.int 4), .val (.int 3)] [(.ref a1), (.int 4)])) rfl rfl (hb hby d1_21) _ ?_
            rw [len_of S447 N447']
            refine XS.icmpYes X437.here hx rfl (pc0 := 22) (pc' := 91) rfl (hb hby d1_22) rfl (flt (own_ge4 hn (by decide))).2.1 (by decide) (by decide) ?_
            refine XS.aloadN X437.here hx rfl (hb hby d1_91) rfl rfl ?_
            show Steps p.tables e below (T437.setTop (mkF m 92 #[.val (.ref a1), .val (.ref b4), .val (.int 2), .val (.int 4), .val (.int 3)] [(.ref b4)])) _
            jvm_step X437.here [X437.here.top, hx, (hb hby d1_92), X437.method', Bd.returns, Value.isRef, FieldType.isReference]
            first | (intro acts; rw [hr _ acts rfl rfl rfl]) | rw [hr _ _ rfl rfl rfl]
            exact Steps.refl _
          · show Q_rmSplit Z a1 nn b0 b1 b2 b3 kk w_DEF kD h0 n0 _ T437.heap _
            exact ⟨b4, rfl, N437, K437, g_b4, sz_b4, f448, (by rw [hsp]; exact p437_4), (by rw [hsp]; exact own_lines1 p437_5 p437_2 f449 f450 f451 f452)⟩
         ·skip
          obtain ⟨cl454, Ar454, -, S454, N454', -, -⟩ := id f9
          have hsp : own_split nn b0 b1 b2 b3 = [] := by unfold own_split; rw [if_pos hc12, if_pos hc14, if_neg hc18, if_neg hc219, if_pos hc388, if_pos hc390, if_neg hc394, if_neg hc432]
          have f455 := (A4.keep Kq7)
          obtain ⟨fs, hr, hrun, hended, hRE⟩ := X430.leaveW hS2 (by rw [e430]; exact Y7) (v := some (.ref b4)) (fun h => by rw [Bd.returns] at h; cases h)
          refine ⟨_, _, pre431 _ ?_, hrun, hended, _, _, rfl, ?_, hRE.1, hRE.2.1, hRE.2.2.1, hRE.2.2.2.mono (by decide) (by decide)⟩
          · skip
            refine XS.ifYes X430.here hx rfl (pc0 := 60) (pc' := 83) rfl (hb hby d1_60) rfl ((if0 _ _).trans (feq hc432).2) (by decide) (by decide) ?_
            refine XS.iload X430.here hx rfl (hb hby d1_83) rfl ?_
            refine XS.iconst X430.here hx rfl (hb hby d1_85) ?_
            refine XS.iadd X430.here hx rfl (hb hby d1_86) rfl ?_
            refine XS.istoreN X430.here hx rfl (hb hby d1_87) rfl (l' := #[.val (.ref a1), .val (.ref b4), .val (.int 2), .val (.int 4), .val (.int 3)]) rfl ?_
            refine XS.goto X430.here hx rfl (pc0 := 88) (pc' := 19) rfl (hb hby d1_88) (by decide) (by decide) ?_
            refine XS.iloadN X430.here hx rfl (hb hby d1_19) rfl ?_
            refine XS.aloadN X430.here hx rfl (hb hby d1_20) rfl rfl ?_
            refine X430.arraylength hx (by rw [e430]; exact Ar454.1) (State.isArrayOf_alike hZ.alike Ar454.2.1) (g := (mkF m 21 #[.val (.ref a1), .val (.ref b4), .val (.int 2), .val (.int 4), .val (.int 3)] [(.ref a1), (.int 4)])) rfl rfl (hb hby d1_21) _ ?_
            rw [len_of S454 N454']
            refine XS.icmpYes X430.here hx rfl (pc0 := 22) (pc' := 91) rfl (hb hby d1_22) rfl (flt (own_ge4 hn (by decide))).2.1 (by decide) (by decide) ?_
            refine XS.aloadN X430.here hx rfl (hb hby d1_91) rfl rfl ?_
            show Steps p.tables e below (T430.setTop (mkF m 92 #[.val (.ref a1), .val (.ref b4), .val (.int 2), .val (.int 4), .val (.int 3)] [(.ref b4)])) _
            jvm_step X430.here [X430.here.top, hx, (hb hby d1_92), X430.method', Bd.returns, Value.isRef, FieldType.isReference]
            first | (intro acts; rw [hr _ acts rfl rfl rfl]) | rw [hr _ _ rfl rfl rfl]
            exact Steps.refl _
          · show Q_rmSplit Z a1 nn b0 b1 b2 b3 kk w_DEF kD h0 n0 _ T430.heap _
            rw [e430]
            exact ⟨b4, rfl, N430, K7, g_b4, sz_b4, f455, (by rw [hsp]; exact p7_2), (by rw [hsp]; exact own_lines0)⟩
       ·skip
        obtain ⟨cl457, Ar457, -, S457, N457', -, -⟩ := id f9
        obtain ⟨cl458, Ar458, q458, S458, N458', H458, G458⟩ := id f9
        have hin458 : ¬ ((2 : Int32) < 0 ∨ cl458.slots.size ≤ ((2 : Int32)).toNatClampNeg) := inb_of S458 ⟨by decide, hc388⟩
        have hat458 : cl458.slots[((2 : Int32)).toNatClampNeg]? = some (.int (own_b b0 b1 b2 b3 (2 : Int32))) := H458.at hin458 (own_is_getD _ _)
        obtain ⟨_, _, ⟨T459, L459, k459, n459⟩, -, X459, ⟨Lc459, hQ459, l459, y459, z459⟩, st459⟩ := Jvm.LawKit.callS X217 hx (y := (⟨"com/example/rank_keeper/rankkeeper/BodyLines", "isBlank", "([BII)Z"⟩ : MethodName)) hown (mvT hZ (kw66 hw)) (mvT hZ (kw67 hw)) (mvT hZ (kw3 hw)) (mvT hZ (kw68 hw)) (by decide) (backOf (W := 0) (rmBl_2 l Z a0 hw [] a1 (2 : Int32) nn b0 b1 b2 b3 kk T7.heap n0 Z7 f9 hn (own_lt1 hc388 (by decide))) hZ (kw68 hw) (kw3 hw) (by decide) (by decide)) (g := (mkF m 57 #[.val (.ref a1), .val (.ref b4), .val (.int 2), .val (.int 2), .val (.int 2)] [(.int 2), (.int 2), (.ref a1)])) rfl (by rw [hml]; rfl) (argsL := [(.ref a1), (.int 2), (.int 2)]) (rest := []) (lenOf pd_3 rfl) rfl (by show 2 * 0 + _ ≤ _; exact Nat.le_of_eq rfl) (hb hby d1_57) (fun _ _ => ⟨rfl, e217, (by decide : 3 + 0 ≤ _), (by decide : 23 + 0 ≤ _)⟩)
        dsimp only [Pt.U, Pt.locs, Pt.cells, Pt.slots] at X459 l459 y459 z459 st459 hQ459
        subst l459 y459 z459
        obtain ⟨rfl, N459q, e459⟩ := hQ459
        have N459 := Fr.app N217 N459q
        obtain ⟨cl460, Ar460, -, S460, N460', -, -⟩ := id f9
        have pre461 : ∀ t, Steps p.tables e below (T459.setTop (mkF m 22 #[.val (.ref a1), .val (.ref b4), .val (.int 2), .val (.int 3), .val (.int 2)] [(.int nn), (.int 3)])) t → Steps p.tables e below (s₁.setTop (entryFrame m #[(.ref a1)] 5)) t := fun t k => pre389 t (by
          refine XS.iload X217.here hx rfl (hb hby d1_31) rfl ?_
          refine XS.aloadN X217.here hx rfl (hb hby d1_33) rfl rfl ?_
          refine X217.arraylength hx (by rw [e217]; exact Ar457.1) (State.isArrayOf_alike hZ.alike Ar457.2.1) (g := (mkF m 34 #[.val (.ref a1), .val (.ref b4), .val (.int 2), .val (.int 2), .val (.int 2)] [(.ref a1), (.int 2)])) rfl rfl (hb hby d1_34) _ ?_
          rw [len_of S457 N457']
          refine XS.icmpNo X217.here hx rfl (hb hby d1_35) rfl (tlt hc388).2.1 ?_
          refine XS.aloadN X217.here hx rfl (hb hby d1_38) rfl rfl ?_
          refine XS.iload X217.here hx rfl (hb hby d1_39) rfl ?_
          refine X217.baloadBytes hx (j := (2 : Int32)) (v := (.int (own_b b0 b1 b2 b3 (2 : Int32)))) (by rw [e217]; exact Ar458.1) (State.isArrayOf_alike hZ.alike Ar458.2.1) Ar458.2.2 hin458 hat458 (g := (mkF m 41 #[.val (.ref a1), .val (.ref b4), .val (.int 2), .val (.int 2), .val (.int 2)] [(.int 2), (.ref a1)])) rfl rfl (hb hby d1_41) _ ?_
          refine XS.bipush X217.here hx rfl (hb hby d1_42) ?_
          refine XS.icmpYes X217.here hx rfl (pc0 := 44) (pc' := 53) rfl (hb hby d1_44) rfl (teq (Decidable.byContradiction fun q => hc390 ⟨hc388, q⟩)).1 (by decide) (by decide) ?_
          refine XS.aloadN X217.here hx rfl (hb hby d1_53) rfl rfl ?_
          refine XS.iloadN X217.here hx rfl (hb hby d1_54) rfl ?_
          refine XS.iload X217.here hx rfl (hb hby d1_55) rfl ?_
          refine st459 _ ?_
          refine XS.ifYes X459.here hx rfl (pc0 := 60) (pc' := 83) rfl (hb hby d1_60) rfl ((if0 _ _).trans (feq (own_bls2 b0 b1 b2 b3)).2) (by decide) (by decide) ?_
          refine XS.iload X459.here hx rfl (hb hby d1_83) rfl ?_
          refine XS.iconst X459.here hx rfl (hb hby d1_85) ?_
          refine XS.iadd X459.here hx rfl (hb hby d1_86) rfl ?_
          refine XS.istoreN X459.here hx rfl (hb hby d1_87) rfl (l' := #[.val (.ref a1), .val (.ref b4), .val (.int 2), .val (.int 3), .val (.int 2)]) rfl ?_
          refine XS.goto X459.here hx rfl (pc0 := 88) (pc' := 19) rfl (hb hby d1_88) (by decide) (by decide) ?_
          refine XS.iloadN X459.here hx rfl (hb hby d1_19) rfl ?_
          refine XS.aloadN X459.here hx rfl (hb hby d1_20) rfl rfl ?_
          refine X459.arraylength hx (by rw [e459]; exact Ar460.1) (State.isArrayOf_alike hZ.alike Ar460.2.1) (g := (mkF m 21 #[.val (.ref a1), .val (.ref b4), .val (.int 2), .val (.int 3), .val (.int 2)] [(.ref a1), (.int 3)])) rfl rfl (hb hby d1_21) _ ?_
          rw [len_of S460 N460']
          exact k)
        by_cases hc462 : (3 : Int32) < nn
        ·skip
         have pre463 : ∀ t, Steps p.tables e below (T459.setTop (mkF m 31 #[.val (.ref a1), .val (.ref b4), .val (.int 3), .val (.int 3), .val (.int 3)] [])) t → Steps p.tables e below (s₁.setTop (entryFrame m #[(.ref a1)] 5)) t := fun t k => pre461 t (by
           refine XS.icmpNo X459.here hx rfl (hb hby d1_22) rfl (tlt hc462).2.1 ?_
           refine XS.iinc X459.here hx rfl (hb hby d1_25) rfl (l' := #[.val (.ref a1), .val (.ref b4), .val (.int 3), .val (.int 3), .val (.int 2)]) rfl ?_
           refine XS.iloadN X459.here hx rfl (hb hby d1_28) rfl ?_
           refine XS.istore X459.here hx rfl (hb hby d1_29) rfl (l' := #[.val (.ref a1), .val (.ref b4), .val (.int 3), .val (.int 3), .val (.int 3)]) rfl ?_
           exact k)
         by_cases hc464 : (3 : Int32) < nn ∧ ¬ (own_b b0 b1 b2 b3 (3 : Int32)) = (10 : Int32)
         ·skip
          obtain ⟨cl465, Ar465, -, S465, N465', -, -⟩ := id f9
          obtain ⟨cl466, Ar466, q466, S466, N466', H466, G466⟩ := id f9
          have hin466 : ¬ ((3 : Int32) < 0 ∨ cl466.slots.size ≤ ((3 : Int32)).toNatClampNeg) := inb_of S466 ⟨by decide, hc464.1⟩
          have hat466 : cl466.slots[((3 : Int32)).toNatClampNeg]? = some (.int (own_b b0 b1 b2 b3 (3 : Int32))) := H466.at hin466 (own_is_getD _ _)
          obtain ⟨cl467, Ar467, -, S467, N467', -, -⟩ := id f9
          obtain ⟨_, _, ⟨T468, L468, k468, n468⟩, -, X468, ⟨Lc468, hQ468, l468, y468, z468⟩, st468⟩ := Jvm.LawKit.callS X459 hx (y := (⟨"com/example/rank_keeper/rankkeeper/BodyLines", "isBlank", "([BII)Z"⟩ : MethodName)) hown (mvT hZ (kw66 hw)) (mvT hZ (kw67 hw)) (mvT hZ (kw3 hw)) (mvT hZ (kw68 hw)) (by decide) (backOf (W := 0) (rmBl_3 l Z a0 hw [] a1 (4 : Int32) nn b0 b1 b2 b3 kk T7.heap n0 Z7 f9 hn (own_lt1 hc464.1 (by decide))) hZ (kw68 hw) (kw3 hw) (by decide) (by decide)) (g := (mkF m 57 #[.val (.ref a1), .val (.ref b4), .val (.int 3), .val (.int 3), .val (.int 4)] [(.int 4), (.int 3), (.ref a1)])) rfl (by rw [hml]; rfl) (argsL := [(.ref a1), (.int 3), (.int 4)]) (rest := []) (lenOf pd_3 rfl) rfl (by show 2 * 0 + _ ≤ _; exact Nat.le_of_eq rfl) (hb hby d1_57) (fun _ _ => ⟨rfl, e459, (by decide : 3 + 0 ≤ _), (by decide : 23 + 0 ≤ _)⟩)
          dsimp only [Pt.U, Pt.locs, Pt.cells, Pt.slots] at X468 l468 y468 z468 st468 hQ468
          subst l468 y468 z468
          obtain ⟨rfl, N468q, e468⟩ := hQ468
          have N468 := Fr.app N459 N468q
          have pre469 : ∀ t, Steps p.tables e below (T468.setTop (mkF m 60 #[.val (.ref a1), .val (.ref b4), .val (.int 3), .val (.int 3), .val (.int 4)] [(.int (own_bl_3 b0 b1 b2 b3 (4 : Int32)))])) t → Steps p.tables e below (s₁.setTop (entryFrame m #[(.ref a1)] 5)) t := fun t k => pre463 t (by
            refine XS.iload X459.here hx rfl (hb hby d1_31) rfl ?_
            refine XS.aloadN X459.here hx rfl (hb hby d1_33) rfl rfl ?_
            refine X459.arraylength hx (by rw [e459]; exact Ar465.1) (State.isArrayOf_alike hZ.alike Ar465.2.1) (g := (mkF m 34 #[.val (.ref a1), .val (.ref b4), .val (.int 3), .val (.int 3), .val (.int 3)] [(.ref a1), (.int 3)])) rfl rfl (hb hby d1_34) _ ?_
            rw [len_of S465 N465']
            refine XS.icmpNo X459.here hx rfl (hb hby d1_35) rfl (tlt hc464.1).2.1 ?_
            refine XS.aloadN X459.here hx rfl (hb hby d1_38) rfl rfl ?_
            refine XS.iload X459.here hx rfl (hb hby d1_39) rfl ?_
            refine X459.baloadBytes hx (j := (3 : Int32)) (v := (.int (own_b b0 b1 b2 b3 (3 : Int32)))) (by rw [e459]; exact Ar466.1) (State.isArrayOf_alike hZ.alike Ar466.2.1) Ar466.2.2 hin466 hat466 (g := (mkF m 41 #[.val (.ref a1), .val (.ref b4), .val (.int 3), .val (.int 3), .val (.int 3)] [(.int 3), (.ref a1)])) rfl rfl (hb hby d1_41) _ ?_
            refine XS.bipush X459.here hx rfl (hb hby d1_42) ?_
            refine XS.icmpNo X459.here hx rfl (hb hby d1_44) rfl (feq hc464.2).1 ?_
            refine XS.iinc X459.here hx rfl (hb hby d1_47) rfl (l' := #[.val (.ref a1), .val (.ref b4), .val (.int 3), .val (.int 3), .val (.int 4)]) rfl ?_
            refine XS.goto X459.here hx rfl (pc0 := 50) (pc' := 31) rfl (hb hby d1_50) (by decide) (by decide) ?_
            refine XS.iload X459.here hx rfl (hb hby d1_31) rfl ?_
            refine XS.aloadN X459.here hx rfl (hb hby d1_33) rfl rfl ?_
            refine X459.arraylength hx (by rw [e459]; exact Ar467.1) (State.isArrayOf_alike hZ.alike Ar467.2.1) (g := (mkF m 34 #[.val (.ref a1), .val (.ref b4), .val (.int 3), .val (.int 3), .val (.int 4)] [(.ref a1), (.int 4)])) rfl rfl (hb hby d1_34) _ ?_
            rw [len_of S467 N467']
            refine XS.icmpYes X459.here hx rfl (pc0 := 35) (pc' := 53) rfl (hb hby d1_35) rfl (flt (own_ge4 hn (by decide))).2.1 (by decide) (by decide) ?_
            refine XS.aloadN X459.here hx rfl (hb hby d1_53) rfl rfl ?_
            refine XS.iloadN X459.here hx rfl (hb hby d1_54) rfl ?_
            refine XS.iload X459.here hx rfl (hb hby d1_55) rfl ?_
            refine st468 _ ?_
            exact k)
          by_cases hc470 : (own_bl_3 b0 b1 b2 b3 (4 : Int32)) = (0 : Int32)
          ·skip
           have f472 := (A4.keep Kq7)
           have f473 := ((f6.ext E4).keep Kq7 (ninS ne4_w_DEF nin0))
           obtain ⟨T471, h471, X471, e471, E471, A471, D471, -, st471⟩ := newO X468 hx hZ hown (kw69 hw) (kw70 hw) (kw71 hw) e468 (g := (mkF m 64 #[.val (.ref a1), .val (.ref b4), .val (.int 3), .val (.int 3), .val (.int 4)] [(.ref b4)])) rfl (hb hby d1_64) (by decide) (by decide)
           obtain ⟨b471, g471⟩ : ∃ z, z = T7.heap.size := ⟨_, rfl⟩
           rw [← g471] at A471 D471 st471
           have ne471_a1 : a1 ≠ b471 := Nat.ne_of_lt (Nat.lt_of_lt_of_le f9.lt (Nat.le_of_eq g471.symm))
           have ne471_b4 : b4 ≠ b471 := Nat.ne_of_lt (Nat.lt_of_lt_of_le f472.lt (Nat.le_of_eq g471.symm))
           have ne471_w_DEF : w_DEF ≠ b471 := Nat.ne_of_lt (Nat.lt_of_lt_of_le f473.lt (Nat.le_of_eq g471.symm))
           have g_b471 : n0 ≤ b471 := Nat.le_trans Z7 (Nat.le_of_eq g471.symm)
           have sz_b471 : h0.size ≤ b471 := Nat.le_trans K7.1 (Nat.le_of_eq g471.symm)
           have Z471 : n0 ≤ h471.size := Nat.le_trans Z7 E471.1
           have Y471 : kS2 ≤ h471.size := Nat.le_trans Y7 E471.1
           have K471 : Keep h0 h471 [] := K7.ext E471
           have F471_number : Fld Z h471 b471 "com/example/rank_keeper/rankkeeper/BodyLines$Line" "number" "I" (.int 0) := D471 (Or.inr (kw82 hw)) (ty := .int) (by decide)
           have F471_offset : Fld Z h471 b471 "com/example/rank_keeper/rankkeeper/BodyLines$Line" "offset" "I" (.int 0) := D471 (Or.inr (kw84 hw)) (ty := .int) (by decide)
           have F471_length : Fld Z h471 b471 "com/example/rank_keeper/rankkeeper/BodyLines$Line" "length" "I" (.int 0) := D471 (Or.inr (kw86 hw)) (ty := .int) (by decide)
           obtain ⟨_, _, ⟨T474, L474, k474, n474⟩, -, X474, ⟨Lc474, hQ474, l474, y474, z474⟩, st474⟩ := X471.specialBack hx (y := (⟨"com/example/rank_keeper/rankkeeper/BodyLines$Line", "<init>", "(III)V"⟩ : MethodName)) rfl hown (mvT hZ (kw72 hw)) (mvT hZ (kw73 hw)) (mvT hZ (kw74 hw)) (by decide) (backOf (W := 2) (rm13 l Z a0 hw [] b471 (3 : Int32) (3 : Int32) (1 : Int32) h471 n0 Z471 A471 g_b471 F471_number F471_offset F471_length) hZ (kw74 hw) (kw71 hw) (by decide) (by decide)) (g := (mkF m 74 #[.val (.ref a1), .val (.ref b4), .val (.int 3), .val (.int 3), .val (.int 4)] [(.int 1), (.int 3), (.int 3), (.ref b471), (.ref b471), (.ref b4)])) rfl (by rw [hml]; rfl) (Steps.refl _) (a := b471) (argsL := [(.int 3), (.int 3), (.int 1)]) (rest := [(.ref b471), (.ref b4)]) (lenOf pd_13 rfl) rfl (by show 2 * 0 + _ ≤ _; exact Nat.le_of_eq rfl) (hb hby d1_74) (fun _ _ => ⟨rfl, e471, (by decide : 4 + 0 ≤ _), (by decide : 26 + 0 ≤ _)⟩)
           dsimp only [Pt.U, Pt.locs, Pt.cells, Pt.slots] at X474 l474 y474 z474 st474 hQ474
           subst l474 y474 z474
           obtain ⟨rfl, N474q, Kq474, p474_0, p474_1, p474_2⟩ := hQ474
           have N474 := Fr.app N468 N474q
           have Z474 : n0 ≤ T474.heap.size := Nat.le_trans Z471 Kq474.1
           have Y474 : kS2 ≤ T474.heap.size := Nat.le_trans Y471 Kq474.1
           have K474 : Keep h0 T474.heap [] := K471.trans Kq474 (allS (Or.inr sz_b471) all0)
           have f476 := (((f8.keep Kq7 (allS g_b4 all0)).ext E471).keep Kq474 (allS g_b471 all0))
           have f477 := ((f472.ext E471).keep Kq474)
           have f478 := (A471.keep Kq474)
           have f479 := ((p7_1.ext E471).keep Kq474 (ninS ne471_b4 nin0))
           have f480 := ((p7_2.ext E471).keep Kq474 (ninS ne471_b4 nin0))
           have f481 := ((p7_0.ext E471).keep Kq474 (ninS ne471_b4 nin0))
           have f482 := ((f473.ext E471).keep Kq474 (ninS ne471_w_DEF nin0))
           have f483 := ((f9.ext E471).keep Kq474 (ninS ne471_a1 nin0))
           obtain ⟨cq475, kq475, q475a, q475b, q475c⟩ := isOf hZ rfl f477
           obtain ⟨_, _, ⟨T475, L475, k475, n475⟩, -, X475, ⟨Lc475, hQ475, l475, y475, z475⟩, st475⟩ := X474.interfaceBack hx (xi := (⟨"java/util/List", "add", "(Ljava/lang/Object;)Z"⟩ : MethodName)) (y := (⟨"java/util/ArrayList", "add", "(Ljava/lang/Object;)Z"⟩ : MethodName)) hown (mvT hZ (kw87 hw)) (mvT hZ (kw88 hw)) (mvT hZ (kw89 hw)) (mvT hZ (kw90 hw)) (mvT hZ (kw91 hw)) (mvT hZ (kw92 hw)) (mvT hZ (kw93 hw)) (mvT hZ (kw56 hw)) (by decide) (backOf (W := 0) (rmAdd0 l Z a0 hw [] b4 b471 w_DEF kD (0 : Int32) T474.heap n0 Z474 f476 P1 f477 g_b4 f478 f479 f480 f481 f482 ne4_w_DEF) hZ (kw94 hw) (kw18 hw) (by decide) (by decide)) q475a q475b q475c (g := (mkF m 77 #[.val (.ref a1), .val (.ref b4), .val (.int 3), .val (.int 3), .val (.int 4)] [(.ref b471), (.ref b4)])) rfl (by rw [hml]; rfl) (Steps.refl _) (argsL := [(.ref b471)]) (rest := []) (lenOf pd_14 rfl) rfl (by show 2 * 0 + _ ≤ _; exact Nat.le_of_eq rfl) (hb hby d1_77) (fun _ _ => ⟨rfl, rfl, (by decide : 4 + 1 ≤ _), (by decide : 26 + 10 ≤ _)⟩)
           dsimp only [Pt.U, Pt.locs, Pt.cells, Pt.slots] at X475 l475 y475 z475 st475 hQ475
           subst l475 y475 z475
           obtain ⟨ed_475, kd_475, rfl, N475q, Kq475, p475_0, p475_1, p475_2, p475_3, p475_4, p475_5, p475_6⟩ := hQ475
           have N475 := Fr.app N474 N475q
           have Z475 : n0 ≤ T475.heap.size := Nat.le_trans Z474 Kq475.1
           have Y475 : kS2 ≤ T475.heap.size := Nat.le_trans Y474 Kq475.1
           have K475 : Keep h0 T475.heap [] := K474.trans Kq475 (allS (Or.inr sz_b4) all0)
           have sz_ed_475 : h0.size ≤ ed_475 := Nat.le_trans K474.1 p475_1
           have ne475_a1_ed_475 : a1 ≠ ed_475 := Nat.ne_of_lt (Nat.lt_of_lt_of_le f483.lt p475_1)
           have ne475_b4_ed_475 : b4 ≠ ed_475 := Nat.ne_of_lt (Nat.lt_of_lt_of_le f477.lt p475_1)
           have ne475_b471_ed_475 : b471 ≠ ed_475 := Nat.ne_of_lt (Nat.lt_of_lt_of_le f478.lt p475_1)
           have ne475_w_DEF_ed_475 : w_DEF ≠ ed_475 := Nat.ne_of_lt (Nat.lt_of_lt_of_le f482.lt p475_1)
           have f484 := (f483.keep Kq475 (ninS ne4_a1 nin0))
           obtain ⟨cl485, Ar485, -, S485, N485', -, -⟩ := id f484
           have hsp : own_split nn b0 b1 b2 b3 = [((3 : Int32), (3 : Int32), (1 : Int32))] := by unfold own_split; rw [if_pos hc12, if_pos hc14, if_neg hc18, if_neg hc219, if_pos hc388, if_neg hc390, if_pos hc462, if_pos hc464, if_pos hc470]
           have f486 := (f477.keep Kq475)
           have f487 := (f478.keep Kq475)
           have f488 := (p474_0.keep Kq475 (ninS (Ne.symm ne471_b4) nin0))
           have f489 := (p474_1.keep Kq475 (ninS (Ne.symm ne471_b4) nin0))
           have f490 := (p474_2.keep Kq475 (ninS (Ne.symm ne471_b4) nin0))
           obtain ⟨fs, hr, hrun, hended, hRE⟩ := X475.leaveW hS2 Y475 (v := some (.ref b4)) (fun h => by rw [Bd.returns] at h; cases h)
           refine ⟨_, _, pre469 _ ?_, hrun, hended, _, _, rfl, ?_, hRE.1, hRE.2.1, hRE.2.2.1, hRE.2.2.2.mono (by decide) (by decide)⟩
           · skip
             refine XS.ifNo X468.here hx rfl (hb hby d1_60) rfl ((if0 _ _).trans (teq hc470).2) ?_
             refine XS.aloadN X468.here hx rfl (hb hby d1_63) rfl rfl ?_
             refine st471 _ ?_
             refine XS.dup X471.here hx rfl (hb hby d1_67) rfl rfl ?_
             refine XS.iloadN X471.here hx rfl (hb hby d1_68) rfl ?_
             refine XS.iloadN X471.here hx rfl (hb hby d1_69) rfl ?_
             refine XS.iload X471.here hx rfl (hb hby d1_70) rfl ?_
             refine XS.iloadN X471.here hx rfl (hb hby d1_72) rfl ?_
             refine XS.isub X471.here hx rfl (hb hby d1_73) rfl ?_
             refine st474.trans ?_
             refine st475.trans ?_
             refine XS.pop X475.here hx rfl (hb hby d1_82) rfl rfl ?_
             refine XS.iload X475.here hx rfl (hb hby d1_83) rfl ?_
             refine XS.iconst X475.here hx rfl (hb hby d1_85) ?_
             refine XS.iadd X475.here hx rfl (hb hby d1_86) rfl ?_
             refine XS.istoreN X475.here hx rfl (hb hby d1_87) rfl (l' := #[.val (.ref a1), .val (.ref b4), .val (.int 3), .val (.int 5), .val (.int 4)]) rfl ?_
             refine XS.goto X475.here hx rfl (pc0 := 88) (pc' := 19) rfl (hb hby d1_88) (by decide) (by decide) ?_
             refine XS.iloadN X475.here hx rfl (hb hby d1_19) rfl ?_
             refine XS.aloadN X475.here hx rfl (hb hby d1_20) rfl rfl ?_
             refine X475.arraylength hx Ar485.1 (State.isArrayOf_alike hZ.alike Ar485.2.1) (g := (mkF m 21 #[.val (.ref a1), .val (.ref b4), .val (.int 3), .val (.int 5), .val (.int 4)] [(.ref a1), (.int 5)])) rfl rfl (hb hby d1_21) _ ?_
             rw [len_of S485 N485']
             refine XS.icmpYes X475.here hx rfl (pc0 := 22) (pc' := 91) rfl (hb hby d1_22) rfl (flt (own_ge4 hn (by decide))).2.1 (by decide) (by decide) ?_
             refine XS.aloadN X475.here hx rfl (hb hby d1_91) rfl rfl ?_
             show Steps p.tables e below (T475.setTop (mkF m 92 #[.val (.ref a1), .val (.ref b4), .val (.int 3), .val (.int 5), .val (.int 4)] [(.ref b4)])) _
             jvm_step X475.here [X475.here.top, hx, (hb hby d1_92), X475.method', Bd.returns, Value.isRef, FieldType.isReference]
             first | (intro acts; rw [hr _ acts rfl rfl rfl]) | rw [hr _ _ rfl rfl rfl]
             exact Steps.refl _
           · show Q_rmSplit Z a1 nn b0 b1 b2 b3 kk w_DEF kD h0 n0 _ T475.heap _
             exact ⟨b4, rfl, N475, K475, g_b4, sz_b4, f486, (by rw [hsp]; exact p475_4), (by rw [hsp]; exact own_lines1 p475_5 p475_2 f487 f488 f489 f490)⟩
          ·skip
           obtain ⟨cl492, Ar492, -, S492, N492', -, -⟩ := id f9
           have hsp : own_split nn b0 b1 b2 b3 = [] := by unfold own_split; rw [if_pos hc12, if_pos hc14, if_neg hc18, if_neg hc219, if_pos hc388, if_neg hc390, if_pos hc462, if_pos hc464, if_neg hc470]
           have f493 := (A4.keep Kq7)
           obtain ⟨fs, hr, hrun, hended, hRE⟩ := X468.leaveW hS2 (by rw [e468]; exact Y7) (v := some (.ref b4)) (fun h => by rw [Bd.returns] at h; cases h)
           refine ⟨_, _, pre469 _ ?_, hrun, hended, _, _, rfl, ?_, hRE.1, hRE.2.1, hRE.2.2.1, hRE.2.2.2.mono (by decide) (by decide)⟩
           · skip
             refine XS.ifYes X468.here hx rfl (pc0 := 60) (pc' := 83) rfl (hb hby d1_60) rfl ((if0 _ _).trans (feq hc470).2) (by decide) (by decide) ?_
             refine XS.iload X468.here hx rfl (hb hby d1_83) rfl ?_
             refine XS.iconst X468.here hx rfl (hb hby d1_85) ?_
             refine XS.iadd X468.here hx rfl (hb hby d1_86) rfl ?_
             refine XS.istoreN X468.here hx rfl (hb hby d1_87) rfl (l' := #[.val (.ref a1), .val (.ref b4), .val (.int 3), .val (.int 5), .val (.int 4)]) rfl ?_
             refine XS.goto X468.here hx rfl (pc0 := 88) (pc' := 19) rfl (hb hby d1_88) (by decide) (by decide) ?_
             refine XS.iloadN X468.here hx rfl (hb hby d1_19) rfl ?_
             refine XS.aloadN X468.here hx rfl (hb hby d1_20) rfl rfl ?_
             refine X468.arraylength hx (by rw [e468]; exact Ar492.1) (State.isArrayOf_alike hZ.alike Ar492.2.1) (g := (mkF m 21 #[.val (.ref a1), .val (.ref b4), .val (.int 3), .val (.int 5), .val (.int 4)] [(.ref a1), (.int 5)])) rfl rfl (hb hby d1_21) _ ?_
             rw [len_of S492 N492']
             refine XS.icmpYes X468.here hx rfl (pc0 := 22) (pc' := 91) rfl (hb hby d1_22) rfl (flt (own_ge4 hn (by decide))).2.1 (by decide) (by decide) ?_
             refine XS.aloadN X468.here hx rfl (hb hby d1_91) rfl rfl ?_
             show Steps p.tables e below (T468.setTop (mkF m 92 #[.val (.ref a1), .val (.ref b4), .val (.int 3), .val (.int 5), .val (.int 4)] [(.ref b4)])) _
             jvm_step X468.here [X468.here.top, hx, (hb hby d1_92), X468.method', Bd.returns, Value.isRef, FieldType.isReference]
             first | (intro acts; rw [hr _ acts rfl rfl rfl]) | rw [hr _ _ rfl rfl rfl]
             exact Steps.refl _
           · show Q_rmSplit Z a1 nn b0 b1 b2 b3 kk w_DEF kD h0 n0 _ T468.heap _
             rw [e468]
             exact ⟨b4, rfl, N468, K7, g_b4, sz_b4, f493, (by rw [hsp]; exact p7_2), (by rw [hsp]; exact own_lines0)⟩
         ·skip
          obtain ⟨cl495, Ar495, -, S495, N495', -, -⟩ := id f9
          obtain ⟨cl496, Ar496, q496, S496, N496', H496, G496⟩ := id f9
          have hin496 : ¬ ((3 : Int32) < 0 ∨ cl496.slots.size ≤ ((3 : Int32)).toNatClampNeg) := inb_of S496 ⟨by decide, hc462⟩
          have hat496 : cl496.slots[((3 : Int32)).toNatClampNeg]? = some (.int (own_b b0 b1 b2 b3 (3 : Int32))) := H496.at hin496 (own_is_getD _ _)
          obtain ⟨_, _, ⟨T497, L497, k497, n497⟩, -, X497, ⟨Lc497, hQ497, l497, y497, z497⟩, st497⟩ := Jvm.LawKit.callS X459 hx (y := (⟨"com/example/rank_keeper/rankkeeper/BodyLines", "isBlank", "([BII)Z"⟩ : MethodName)) hown (mvT hZ (kw66 hw)) (mvT hZ (kw67 hw)) (mvT hZ (kw3 hw)) (mvT hZ (kw68 hw)) (by decide) (backOf (W := 0) (rmBl_3 l Z a0 hw [] a1 (3 : Int32) nn b0 b1 b2 b3 kk T7.heap n0 Z7 f9 hn (own_lt1 hc388 (by decide))) hZ (kw68 hw) (kw3 hw) (by decide) (by decide)) (g := (mkF m 57 #[.val (.ref a1), .val (.ref b4), .val (.int 3), .val (.int 3), .val (.int 3)] [(.int 3), (.int 3), (.ref a1)])) rfl (by rw [hml]; rfl) (argsL := [(.ref a1), (.int 3), (.int 3)]) (rest := []) (lenOf pd_3 rfl) rfl (by show 2 * 0 + _ ≤ _; exact Nat.le_of_eq rfl) (hb hby d1_57) (fun _ _ => ⟨rfl, e459, (by decide : 3 + 0 ≤ _), (by decide : 23 + 0 ≤ _)⟩)
          dsimp only [Pt.U, Pt.locs, Pt.cells, Pt.slots] at X497 l497 y497 z497 st497 hQ497
          subst l497 y497 z497
          obtain ⟨rfl, N497q, e497⟩ := hQ497
          have N497 := Fr.app N459 N497q
          obtain ⟨cl498, Ar498, -, S498, N498', -, -⟩ := id f9
          have hsp : own_split nn b0 b1 b2 b3 = [] := by unfold own_split; rw [if_pos hc12, if_pos hc14, if_neg hc18, if_neg hc219, if_pos hc388, if_neg hc390, if_pos hc462, if_neg hc464]
          have f499 := (A4.keep Kq7)
          obtain ⟨fs, hr, hrun, hended, hRE⟩ := X497.leaveW hS2 (by rw [e497]; exact Y7) (v := some (.ref b4)) (fun h => by rw [Bd.returns] at h; cases h)
          refine ⟨_, _, pre463 _ ?_, hrun, hended, _, _, rfl, ?_, hRE.1, hRE.2.1, hRE.2.2.1, hRE.2.2.2.mono (by decide) (by decide)⟩
          · skip
            refine XS.iload X459.here hx rfl (hb hby d1_31) rfl ?_
            refine XS.aloadN X459.here hx rfl (hb hby d1_33) rfl rfl ?_
            refine X459.arraylength hx (by rw [e459]; exact Ar495.1) (State.isArrayOf_alike hZ.alike Ar495.2.1) (g := (mkF m 34 #[.val (.ref a1), .val (.ref b4), .val (.int 3), .val (.int 3), .val (.int 3)] [(.ref a1), (.int 3)])) rfl rfl (hb hby d1_34) _ ?_
            rw [len_of S495 N495']
            refine XS.icmpNo X459.here hx rfl (hb hby d1_35) rfl (tlt hc462).2.1 ?_
            refine XS.aloadN X459.here hx rfl (hb hby d1_38) rfl rfl ?_
            refine XS.iload X459.here hx rfl (hb hby d1_39) rfl ?_
            refine X459.baloadBytes hx (j := (3 : Int32)) (v := (.int (own_b b0 b1 b2 b3 (3 : Int32)))) (by rw [e459]; exact Ar496.1) (State.isArrayOf_alike hZ.alike Ar496.2.1) Ar496.2.2 hin496 hat496 (g := (mkF m 41 #[.val (.ref a1), .val (.ref b4), .val (.int 3), .val (.int 3), .val (.int 3)] [(.int 3), (.ref a1)])) rfl rfl (hb hby d1_41) _ ?_
            refine XS.bipush X459.here hx rfl (hb hby d1_42) ?_
            refine XS.icmpYes X459.here hx rfl (pc0 := 44) (pc' := 53) rfl (hb hby d1_44) rfl (teq (Decidable.byContradiction fun q => hc464 ⟨hc462, q⟩)).1 (by decide) (by decide) ?_
            refine XS.aloadN X459.here hx rfl (hb hby d1_53) rfl rfl ?_
            refine XS.iloadN X459.here hx rfl (hb hby d1_54) rfl ?_
            refine XS.iload X459.here hx rfl (hb hby d1_55) rfl ?_
            refine st497 _ ?_
            refine XS.ifYes X497.here hx rfl (pc0 := 60) (pc' := 83) rfl (hb hby d1_60) rfl ((if0 _ _).trans (feq (own_bls3 b0 b1 b2 b3)).2) (by decide) (by decide) ?_
            refine XS.iload X497.here hx rfl (hb hby d1_83) rfl ?_
            refine XS.iconst X497.here hx rfl (hb hby d1_85) ?_
            refine XS.iadd X497.here hx rfl (hb hby d1_86) rfl ?_
            refine XS.istoreN X497.here hx rfl (hb hby d1_87) rfl (l' := #[.val (.ref a1), .val (.ref b4), .val (.int 3), .val (.int 4), .val (.int 3)]) rfl ?_
            refine XS.goto X497.here hx rfl (pc0 := 88) (pc' := 19) rfl (hb hby d1_88) (by decide) (by decide) ?_
            refine XS.iloadN X497.here hx rfl (hb hby d1_19) rfl ?_
            refine XS.aloadN X497.here hx rfl (hb hby d1_20) rfl rfl ?_
            refine X497.arraylength hx (by rw [e497]; exact Ar498.1) (State.isArrayOf_alike hZ.alike Ar498.2.1) (g := (mkF m 21 #[.val (.ref a1), .val (.ref b4), .val (.int 3), .val (.int 4), .val (.int 3)] [(.ref a1), (.int 4)])) rfl rfl (hb hby d1_21) _ ?_
            rw [len_of S498 N498']
            refine XS.icmpYes X497.here hx rfl (pc0 := 22) (pc' := 91) rfl (hb hby d1_22) rfl (flt (own_ge4 hn (by decide))).2.1 (by decide) (by decide) ?_
            show Steps p.tables e below (T497.setTop (mkF m 91 #[.val (.ref a1), .val (.ref b4), .val (.int 3), .val (.int 4), .val (.int 3)] [])) _
            refine XS.aloadN X497.here hx rfl (hb hby d1_91) rfl rfl ?_
            show Steps p.tables e below (T497.setTop (mkF m 92 #[.val (.ref a1), .val (.ref b4), .val (.int 3), .val (.int 4), .val (.int 3)] [(.ref b4)])) _
            jvm_step X497.here [X497.here.top, hx, (hb hby d1_92), X497.method', Bd.returns, Value.isRef, FieldType.isReference]
            first | (intro acts; rw [hr _ acts rfl rfl rfl]) | rw [hr _ _ rfl rfl rfl]
            exact Steps.refl _
          · show Q_rmSplit Z a1 nn b0 b1 b2 b3 kk w_DEF kD h0 n0 _ T497.heap _
            rw [e497]
            exact ⟨b4, rfl, N497, K7, g_b4, sz_b4, f499, (by rw [hsp]; exact p7_2), (by rw [hsp]; exact own_lines0)⟩
        ·skip
         have hsp : own_split nn b0 b1 b2 b3 = [] := by unfold own_split; rw [if_pos hc12, if_pos hc14, if_neg hc18, if_neg hc219, if_pos hc388, if_neg hc390, if_neg hc462]
         have f501 := (A4.keep Kq7)
         obtain ⟨fs, hr, hrun, hended, hRE⟩ := X459.leaveW hS2 (by rw [e459]; exact Y7) (v := some (.ref b4)) (fun h => by rw [Bd.returns] at h; cases h)
         refine ⟨_, _, pre461 _ ?_, hrun, hended, _, _, rfl, ?_, hRE.1, hRE.2.1, hRE.2.2.1, hRE.2.2.2.mono (by decide) (by decide)⟩
         · skip
           refine XS.icmpYes X459.here hx rfl (pc0 := 22) (pc' := 91) rfl (hb hby d1_22) rfl (flt hc462).2.1 (by decide) (by decide) ?_
           refine XS.aloadN X459.here hx rfl (hb hby d1_91) rfl rfl ?_
           show Steps p.tables e below (T459.setTop (mkF m 92 #[.val (.ref a1), .val (.ref b4), .val (.int 2), .val (.int 3), .val (.int 2)] [(.ref b4)])) _
           jvm_step X459.here [X459.here.top, hx, (hb hby d1_92), X459.method', Bd.returns, Value.isRef, FieldType.isReference]
           first | (intro acts; rw [hr _ acts rfl rfl rfl]) | rw [hr _ _ rfl rfl rfl]
           exact Steps.refl _
         · show Q_rmSplit Z a1 nn b0 b1 b2 b3 kk w_DEF kD h0 n0 _ T459.heap _
           rw [e459]
           exact ⟨b4, rfl, N459, K7, g_b4, sz_b4, f501, (by rw [hsp]; exact p7_2), (by rw [hsp]; exact own_lines0)⟩
      ·skip
       have hsp : own_split nn b0 b1 b2 b3 = [] := by unfold own_split; rw [if_pos hc12, if_pos hc14, if_neg hc18, if_neg hc219, if_neg hc388]
       have f503 := (A4.keep Kq7)
       obtain ⟨fs, hr, hrun, hended, hRE⟩ := X217.leaveW hS2 (by rw [e217]; exact Y7) (v := some (.ref b4)) (fun h => by rw [Bd.returns] at h; cases h)
       refine ⟨_, _, pre387 _ ?_, hrun, hended, _, _, rfl, ?_, hRE.1, hRE.2.1, hRE.2.2.1, hRE.2.2.2.mono (by decide) (by decide)⟩
       · skip
         refine XS.icmpYes X217.here hx rfl (pc0 := 22) (pc' := 91) rfl (hb hby d1_22) rfl (flt hc388).2.1 (by decide) (by decide) ?_
         refine XS.aloadN X217.here hx rfl (hb hby d1_91) rfl rfl ?_
         show Steps p.tables e below (T217.setTop (mkF m 92 #[.val (.ref a1), .val (.ref b4), .val (.int 1), .val (.int 2), .val (.int 1)] [(.ref b4)])) _
         jvm_step X217.here [X217.here.top, hx, (hb hby d1_92), X217.method', Bd.returns, Value.isRef, FieldType.isReference]
         first | (intro acts; rw [hr _ acts rfl rfl rfl]) | rw [hr _ _ rfl rfl rfl]
         exact Steps.refl _
       · show Q_rmSplit Z a1 nn b0 b1 b2 b3 kk w_DEF kD h0 n0 _ T217.heap _
         rw [e217]
         exact ⟨b4, rfl, N217, K7, g_b4, sz_b4, f503, (by rw [hsp]; exact p7_2), (by rw [hsp]; exact own_lines0)⟩
   ·skip
    obtain ⟨cl505, Ar505, -, S505, N505', -, -⟩ := id f9
    obtain ⟨cl506, Ar506, q506, S506, N506', H506, G506⟩ := id f9
    have hin506 : ¬ ((0 : Int32) < 0 ∨ cl506.slots.size ≤ ((0 : Int32)).toNatClampNeg) := inb_of S506 ⟨by decide, hc12⟩
    have hat506 : cl506.slots[((0 : Int32)).toNatClampNeg]? = some (.int (own_b b0 b1 b2 b3 (0 : Int32))) := H506.at hin506 (own_is_getD _ _)
    obtain ⟨_, _, ⟨T507, L507, k507, n507⟩, -, X507, ⟨Lc507, hQ507, l507, y507, z507⟩, st507⟩ := Jvm.LawKit.callS X7 hx (y := (⟨"com/example/rank_keeper/rankkeeper/BodyLines", "isBlank", "([BII)Z"⟩ : MethodName)) hown (mvT hZ (kw66 hw)) (mvT hZ (kw67 hw)) (mvT hZ (kw3 hw)) (mvT hZ (kw68 hw)) (by decide) (backOf (W := 0) (rmBl_0 l Z a0 hw [] a1 (0 : Int32) nn b0 b1 b2 b3 kk T7.heap n0 Z7 f9 hn (own_lt1 hc12 (by decide))) hZ (kw68 hw) (kw3 hw) (by decide) (by decide)) (g := (mkF m 57 #[.val (.ref a1), .val (.ref b4), .val (.int 1), .val (.int 0), .val (.int 0)] [(.int 0), (.int 0), (.ref a1)])) rfl (by rw [hml]; rfl) (argsL := [(.ref a1), (.int 0), (.int 0)]) (rest := []) (lenOf pd_3 rfl) rfl (by show 2 * 0 + _ ≤ _; exact Nat.le_of_eq rfl) (hb hby d1_57) (fun _ _ => ⟨rfl, rfl, (by decide : 3 + 0 ≤ _), (by decide : 23 + 0 ≤ _)⟩)
    dsimp only [Pt.U, Pt.locs, Pt.cells, Pt.slots] at X507 l507 y507 z507 st507 hQ507
    subst l507 y507 z507
    obtain ⟨rfl, N507q, e507⟩ := hQ507
    have N507 := Fr.app N7 N507q
    obtain ⟨cl508, Ar508, -, S508, N508', -, -⟩ := id f9
    have pre509 : ∀ t, Steps p.tables e below (T507.setTop (mkF m 22 #[.val (.ref a1), .val (.ref b4), .val (.int 1), .val (.int 1), .val (.int 0)] [(.int nn), (.int 1)])) t → Steps p.tables e below (s₁.setTop (entryFrame m #[(.ref a1)] 5)) t := fun t k => pre13 t (by
      refine XS.iload X7.here hx rfl (hb hby d1_31) rfl ?_
      refine XS.aloadN X7.here hx rfl (hb hby d1_33) rfl rfl ?_
      refine X7.arraylength hx Ar505.1 (State.isArrayOf_alike hZ.alike Ar505.2.1) (g := (mkF m 34 #[.val (.ref a1), .val (.ref b4), .val (.int 1), .val (.int 0), .val (.int 0)] [(.ref a1), (.int 0)])) rfl rfl (hb hby d1_34) _ ?_
      rw [len_of S505 N505']
      refine XS.icmpNo X7.here hx rfl (hb hby d1_35) rfl (tlt hc12).2.1 ?_
      refine XS.aloadN X7.here hx rfl (hb hby d1_38) rfl rfl ?_
      refine XS.iload X7.here hx rfl (hb hby d1_39) rfl ?_
      refine X7.baloadBytes hx (j := (0 : Int32)) (v := (.int (own_b b0 b1 b2 b3 (0 : Int32)))) Ar506.1 (State.isArrayOf_alike hZ.alike Ar506.2.1) Ar506.2.2 hin506 hat506 (g := (mkF m 41 #[.val (.ref a1), .val (.ref b4), .val (.int 1), .val (.int 0), .val (.int 0)] [(.int 0), (.ref a1)])) rfl rfl (hb hby d1_41) _ ?_
      refine XS.bipush X7.here hx rfl (hb hby d1_42) ?_
      refine XS.icmpYes X7.here hx rfl (pc0 := 44) (pc' := 53) rfl (hb hby d1_44) rfl (teq (Decidable.byContradiction fun q => hc14 ⟨hc12, q⟩)).1 (by decide) (by decide) ?_
      refine XS.aloadN X7.here hx rfl (hb hby d1_53) rfl rfl ?_
      refine XS.iloadN X7.here hx rfl (hb hby d1_54) rfl ?_
      refine XS.iload X7.here hx rfl (hb hby d1_55) rfl ?_
      refine st507 _ ?_
      refine XS.ifYes X507.here hx rfl (pc0 := 60) (pc' := 83) rfl (hb hby d1_60) rfl ((if0 _ _).trans (feq (own_bls0 b0 b1 b2 b3)).2) (by decide) (by decide) ?_
      refine XS.iload X507.here hx rfl (hb hby d1_83) rfl ?_
      refine XS.iconst X507.here hx rfl (hb hby d1_85) ?_
      refine XS.iadd X507.here hx rfl (hb hby d1_86) rfl ?_
      refine XS.istoreN X507.here hx rfl (hb hby d1_87) rfl (l' := #[.val (.ref a1), .val (.ref b4), .val (.int 1), .val (.int 1), .val (.int 0)]) rfl ?_
      refine XS.goto X507.here hx rfl (pc0 := 88) (pc' := 19) rfl (hb hby d1_88) (by decide) (by decide) ?_
      refine XS.iloadN X507.here hx rfl (hb hby d1_19) rfl ?_
      refine XS.aloadN X507.here hx rfl (hb hby d1_20) rfl rfl ?_
      refine X507.arraylength hx (by rw [e507]; exact Ar508.1) (State.isArrayOf_alike hZ.alike Ar508.2.1) (g := (mkF m 21 #[.val (.ref a1), .val (.ref b4), .val (.int 1), .val (.int 1), .val (.int 0)] [(.ref a1), (.int 1)])) rfl rfl (hb hby d1_21) _ ?_
      rw [len_of S508 N508']
      exact k)
    by_cases hc510 : (1 : Int32) < nn
    ·skip
     have pre511 : ∀ t, Steps p.tables e below (T507.setTop (mkF m 31 #[.val (.ref a1), .val (.ref b4), .val (.int 2), .val (.int 1), .val (.int 1)] [])) t → Steps p.tables e below (s₁.setTop (entryFrame m #[(.ref a1)] 5)) t := fun t k => pre509 t (by
       refine XS.icmpNo X507.here hx rfl (hb hby d1_22) rfl (tlt hc510).2.1 ?_
       refine XS.iinc X507.here hx rfl (hb hby d1_25) rfl (l' := #[.val (.ref a1), .val (.ref b4), .val (.int 2), .val (.int 1), .val (.int 0)]) rfl ?_
       refine XS.iloadN X507.here hx rfl (hb hby d1_28) rfl ?_
       refine XS.istore X507.here hx rfl (hb hby d1_29) rfl (l' := #[.val (.ref a1), .val (.ref b4), .val (.int 2), .val (.int 1), .val (.int 1)]) rfl ?_
       exact k)
     by_cases hc512 : (1 : Int32) < nn ∧ ¬ (own_b b0 b1 b2 b3 (1 : Int32)) = (10 : Int32)
     ·skip
      obtain ⟨cl513, Ar513, -, S513, N513', -, -⟩ := id f9
      obtain ⟨cl514, Ar514, q514, S514, N514', H514, G514⟩ := id f9
      have hin514 : ¬ ((1 : Int32) < 0 ∨ cl514.slots.size ≤ ((1 : Int32)).toNatClampNeg) := inb_of S514 ⟨by decide, hc512.1⟩
      have hat514 : cl514.slots[((1 : Int32)).toNatClampNeg]? = some (.int (own_b b0 b1 b2 b3 (1 : Int32))) := H514.at hin514 (own_is_getD _ _)
      have pre515 : ∀ t, Steps p.tables e below (T507.setTop (mkF m 31 #[.val (.ref a1), .val (.ref b4), .val (.int 2), .val (.int 1), .val (.int 2)] [])) t → Steps p.tables e below (s₁.setTop (entryFrame m #[(.ref a1)] 5)) t := fun t k => pre511 t (by
        refine XS.iload X507.here hx rfl (hb hby d1_31) rfl ?_
        refine XS.aloadN X507.here hx rfl (hb hby d1_33) rfl rfl ?_
        refine X507.arraylength hx (by rw [e507]; exact Ar513.1) (State.isArrayOf_alike hZ.alike Ar513.2.1) (g := (mkF m 34 #[.val (.ref a1), .val (.ref b4), .val (.int 2), .val (.int 1), .val (.int 1)] [(.ref a1), (.int 1)])) rfl rfl (hb hby d1_34) _ ?_
        rw [len_of S513 N513']
        refine XS.icmpNo X507.here hx rfl (hb hby d1_35) rfl (tlt hc512.1).2.1 ?_
        refine XS.aloadN X507.here hx rfl (hb hby d1_38) rfl rfl ?_
        refine XS.iload X507.here hx rfl (hb hby d1_39) rfl ?_
        refine X507.baloadBytes hx (j := (1 : Int32)) (v := (.int (own_b b0 b1 b2 b3 (1 : Int32)))) (by rw [e507]; exact Ar514.1) (State.isArrayOf_alike hZ.alike Ar514.2.1) Ar514.2.2 hin514 hat514 (g := (mkF m 41 #[.val (.ref a1), .val (.ref b4), .val (.int 2), .val (.int 1), .val (.int 1)] [(.int 1), (.ref a1)])) rfl rfl (hb hby d1_41) _ ?_
        refine XS.bipush X507.here hx rfl (hb hby d1_42) ?_
        refine XS.icmpNo X507.here hx rfl (hb hby d1_44) rfl (feq hc512.2).1 ?_
        refine XS.iinc X507.here hx rfl (hb hby d1_47) rfl (l' := #[.val (.ref a1), .val (.ref b4), .val (.int 2), .val (.int 1), .val (.int 2)]) rfl ?_
        refine XS.goto X507.here hx rfl (pc0 := 50) (pc' := 31) rfl (hb hby d1_50) (by decide) (by decide) ?_
        exact k)
      by_cases hc516 : (2 : Int32) < nn ∧ ¬ (own_b b0 b1 b2 b3 (2 : Int32)) = (10 : Int32)
      ·skip
       obtain ⟨cl517, Ar517, -, S517, N517', -, -⟩ := id f9
       obtain ⟨cl518, Ar518, q518, S518, N518', H518, G518⟩ := id f9
       have hin518 : ¬ ((2 : Int32) < 0 ∨ cl518.slots.size ≤ ((2 : Int32)).toNatClampNeg) := inb_of S518 ⟨by decide, hc516.1⟩
       have hat518 : cl518.slots[((2 : Int32)).toNatClampNeg]? = some (.int (own_b b0 b1 b2 b3 (2 : Int32))) := H518.at hin518 (own_is_getD _ _)
       have pre519 : ∀ t, Steps p.tables e below (T507.setTop (mkF m 31 #[.val (.ref a1), .val (.ref b4), .val (.int 2), .val (.int 1), .val (.int 3)] [])) t → Steps p.tables e below (s₁.setTop (entryFrame m #[(.ref a1)] 5)) t := fun t k => pre515 t (by
         refine XS.iload X507.here hx rfl (hb hby d1_31) rfl ?_
         refine XS.aloadN X507.here hx rfl (hb hby d1_33) rfl rfl ?_
         refine X507.arraylength hx (by rw [e507]; exact Ar517.1) (State.isArrayOf_alike hZ.alike Ar517.2.1) (g := (mkF m 34 #[.val (.ref a1), .val (.ref b4), .val (.int 2), .val (.int 1), .val (.int 2)] [(.ref a1), (.int 2)])) rfl rfl (hb hby d1_34) _ ?_
         rw [len_of S517 N517']
         refine XS.icmpNo X507.here hx rfl (hb hby d1_35) rfl (tlt hc516.1).2.1 ?_
         refine XS.aloadN X507.here hx rfl (hb hby d1_38) rfl rfl ?_
         refine XS.iload X507.here hx rfl (hb hby d1_39) rfl ?_
         refine X507.baloadBytes hx (j := (2 : Int32)) (v := (.int (own_b b0 b1 b2 b3 (2 : Int32)))) (by rw [e507]; exact Ar518.1) (State.isArrayOf_alike hZ.alike Ar518.2.1) Ar518.2.2 hin518 hat518 (g := (mkF m 41 #[.val (.ref a1), .val (.ref b4), .val (.int 2), .val (.int 1), .val (.int 2)] [(.int 2), (.ref a1)])) rfl rfl (hb hby d1_41) _ ?_
         refine XS.bipush X507.here hx rfl (hb hby d1_42) ?_
         refine XS.icmpNo X507.here hx rfl (hb hby d1_44) rfl (feq hc516.2).1 ?_
         refine XS.iinc X507.here hx rfl (hb hby d1_47) rfl (l' := #[.val (.ref a1), .val (.ref b4), .val (.int 2), .val (.int 1), .val (.int 3)]) rfl ?_
         refine XS.goto X507.here hx rfl (pc0 := 50) (pc' := 31) rfl (hb hby d1_50) (by decide) (by decide) ?_
         exact k)
       by_cases hc520 : (3 : Int32) < nn ∧ ¬ (own_b b0 b1 b2 b3 (3 : Int32)) = (10 : Int32)
       ·skip
        obtain ⟨cl521, Ar521, -, S521, N521', -, -⟩ := id f9
        obtain ⟨cl522, Ar522, q522, S522, N522', H522, G522⟩ := id f9
        have hin522 : ¬ ((3 : Int32) < 0 ∨ cl522.slots.size ≤ ((3 : Int32)).toNatClampNeg) := inb_of S522 ⟨by decide, hc520.1⟩
        have hat522 : cl522.slots[((3 : Int32)).toNatClampNeg]? = some (.int (own_b b0 b1 b2 b3 (3 : Int32))) := H522.at hin522 (own_is_getD _ _)
        obtain ⟨cl523, Ar523, -, S523, N523', -, -⟩ := id f9
        obtain ⟨_, _, ⟨T524, L524, k524, n524⟩, -, X524, ⟨Lc524, hQ524, l524, y524, z524⟩, st524⟩ := Jvm.LawKit.callS X507 hx (y := (⟨"com/example/rank_keeper/rankkeeper/BodyLines", "isBlank", "([BII)Z"⟩ : MethodName)) hown (mvT hZ (kw66 hw)) (mvT hZ (kw67 hw)) (mvT hZ (kw3 hw)) (mvT hZ (kw68 hw)) (by decide) (backOf (W := 0) (rmBl_1 l Z a0 hw [] a1 (4 : Int32) nn b0 b1 b2 b3 kk T7.heap n0 Z7 f9 hn (own_lt1 hc520.1 (by decide))) hZ (kw68 hw) (kw3 hw) (by decide) (by decide)) (g := (mkF m 57 #[.val (.ref a1), .val (.ref b4), .val (.int 2), .val (.int 1), .val (.int 4)] [(.int 4), (.int 1), (.ref a1)])) rfl (by rw [hml]; rfl) (argsL := [(.ref a1), (.int 1), (.int 4)]) (rest := []) (lenOf pd_3 rfl) rfl (by show 2 * 0 + _ ≤ _; exact Nat.le_of_eq rfl) (hb hby d1_57) (fun _ _ => ⟨rfl, e507, (by decide : 3 + 0 ≤ _), (by decide : 23 + 0 ≤ _)⟩)
        dsimp only [Pt.U, Pt.locs, Pt.cells, Pt.slots] at X524 l524 y524 z524 st524 hQ524
        subst l524 y524 z524
        obtain ⟨rfl, N524q, e524⟩ := hQ524
        have N524 := Fr.app N507 N524q
        have pre525 : ∀ t, Steps p.tables e below (T524.setTop (mkF m 60 #[.val (.ref a1), .val (.ref b4), .val (.int 2), .val (.int 1), .val (.int 4)] [(.int (own_bl_1 b0 b1 b2 b3 (4 : Int32)))])) t → Steps p.tables e below (s₁.setTop (entryFrame m #[(.ref a1)] 5)) t := fun t k => pre519 t (by
          refine XS.iload X507.here hx rfl (hb hby d1_31) rfl ?_
          refine XS.aloadN X507.here hx rfl (hb hby d1_33) rfl rfl ?_
          refine X507.arraylength hx (by rw [e507]; exact Ar521.1) (State.isArrayOf_alike hZ.alike Ar521.2.1) (g := (mkF m 34 #[.val (.ref a1), .val (.ref b4), .val (.int 2), .val (.int 1), .val (.int 3)] [(.ref a1), (.int 3)])) rfl rfl (hb hby d1_34) _ ?_
          rw [len_of S521 N521']
          refine XS.icmpNo X507.here hx rfl (hb hby d1_35) rfl (tlt hc520.1).2.1 ?_
          refine XS.aloadN X507.here hx rfl (hb hby d1_38) rfl rfl ?_
          refine XS.iload X507.here hx rfl (hb hby d1_39) rfl ?_
          refine X507.baloadBytes hx (j := (3 : Int32)) (v := (.int (own_b b0 b1 b2 b3 (3 : Int32)))) (by rw [e507]; exact Ar522.1) (State.isArrayOf_alike hZ.alike Ar522.2.1) Ar522.2.2 hin522 hat522 (g := (mkF m 41 #[.val (.ref a1), .val (.ref b4), .val (.int 2), .val (.int 1), .val (.int 3)] [(.int 3), (.ref a1)])) rfl rfl (hb hby d1_41) _ ?_
          refine XS.bipush X507.here hx rfl (hb hby d1_42) ?_
          refine XS.icmpNo X507.here hx rfl (hb hby d1_44) rfl (feq hc520.2).1 ?_
          refine XS.iinc X507.here hx rfl (hb hby d1_47) rfl (l' := #[.val (.ref a1), .val (.ref b4), .val (.int 2), .val (.int 1), .val (.int 4)]) rfl ?_
          refine XS.goto X507.here hx rfl (pc0 := 50) (pc' := 31) rfl (hb hby d1_50) (by decide) (by decide) ?_
          refine XS.iload X507.here hx rfl (hb hby d1_31) rfl ?_
          refine XS.aloadN X507.here hx rfl (hb hby d1_33) rfl rfl ?_
          refine X507.arraylength hx (by rw [e507]; exact Ar523.1) (State.isArrayOf_alike hZ.alike Ar523.2.1) (g := (mkF m 34 #[.val (.ref a1), .val (.ref b4), .val (.int 2), .val (.int 1), .val (.int 4)] [(.ref a1), (.int 4)])) rfl rfl (hb hby d1_34) _ ?_
          rw [len_of S523 N523']
          refine XS.icmpYes X507.here hx rfl (pc0 := 35) (pc' := 53) rfl (hb hby d1_35) rfl (flt (own_ge4 hn (by decide))).2.1 (by decide) (by decide) ?_
          refine XS.aloadN X507.here hx rfl (hb hby d1_53) rfl rfl ?_
          refine XS.iloadN X507.here hx rfl (hb hby d1_54) rfl ?_
          refine XS.iload X507.here hx rfl (hb hby d1_55) rfl ?_
          refine st524 _ ?_
          exact k)
        by_cases hc526 : (own_bl_1 b0 b1 b2 b3 (4 : Int32)) = (0 : Int32)
        ·skip
         have f528 := (A4.keep Kq7)
         have f529 := ((f6.ext E4).keep Kq7 (ninS ne4_w_DEF nin0))
         obtain ⟨T527, h527, X527, e527, E527, A527, D527, -, st527⟩ := newO X524 hx hZ hown (kw69 hw) (kw70 hw) (kw71 hw) e524 (g := (mkF m 64 #[.val (.ref a1), .val (.ref b4), .val (.int 2), .val (.int 1), .val (.int 4)] [(.ref b4)])) rfl (hb hby d1_64) (by decide) (by decide)
         obtain ⟨b527, g527⟩ : ∃ z, z = T7.heap.size := ⟨_, rfl⟩
         rw [← g527] at A527 D527 st527
         have ne527_a1 : a1 ≠ b527 := Nat.ne_of_lt (Nat.lt_of_lt_of_le f9.lt (Nat.le_of_eq g527.symm))
         have ne527_b4 : b4 ≠ b527 := Nat.ne_of_lt (Nat.lt_of_lt_of_le f528.lt (Nat.le_of_eq g527.symm))
         have ne527_w_DEF : w_DEF ≠ b527 := Nat.ne_of_lt (Nat.lt_of_lt_of_le f529.lt (Nat.le_of_eq g527.symm))
         have g_b527 : n0 ≤ b527 := Nat.le_trans Z7 (Nat.le_of_eq g527.symm)
         have sz_b527 : h0.size ≤ b527 := Nat.le_trans K7.1 (Nat.le_of_eq g527.symm)
         have Z527 : n0 ≤ h527.size := Nat.le_trans Z7 E527.1
         have Y527 : kS2 ≤ h527.size := Nat.le_trans Y7 E527.1
         have K527 : Keep h0 h527 [] := K7.ext E527
         have F527_number : Fld Z h527 b527 "com/example/rank_keeper/rankkeeper/BodyLines$Line" "number" "I" (.int 0) := D527 (Or.inr (kw82 hw)) (ty := .int) (by decide)
         have F527_offset : Fld Z h527 b527 "com/example/rank_keeper/rankkeeper/BodyLines$Line" "offset" "I" (.int 0) := D527 (Or.inr (kw84 hw)) (ty := .int) (by decide)
         have F527_length : Fld Z h527 b527 "com/example/rank_keeper/rankkeeper/BodyLines$Line" "length" "I" (.int 0) := D527 (Or.inr (kw86 hw)) (ty := .int) (by decide)
         obtain ⟨_, _, ⟨T530, L530, k530, n530⟩, -, X530, ⟨Lc530, hQ530, l530, y530, z530⟩, st530⟩ := X527.specialBack hx (y := (⟨"com/example/rank_keeper/rankkeeper/BodyLines$Line", "<init>", "(III)V"⟩ : MethodName)) rfl hown (mvT hZ (kw72 hw)) (mvT hZ (kw73 hw)) (mvT hZ (kw74 hw)) (by decide) (backOf (W := 2) (rm13 l Z a0 hw [] b527 (2 : Int32) (1 : Int32) (3 : Int32) h527 n0 Z527 A527 g_b527 F527_number F527_offset F527_length) hZ (kw74 hw) (kw71 hw) (by decide) (by decide)) (g := (mkF m 74 #[.val (.ref a1), .val (.ref b4), .val (.int 2), .val (.int 1), .val (.int 4)] [(.int 3), (.int 1), (.int 2), (.ref b527), (.ref b527), (.ref b4)])) rfl (by rw [hml]; rfl) (Steps.refl _) (a := b527) (argsL := [(.int 2), (.int 1), (.int 3)]) (rest := [(.ref b527), (.ref b4)]) (lenOf pd_13 rfl) rfl (by show 2 * 0 + _ ≤ _; exact Nat.le_of_eq rfl) (hb hby d1_74) (fun _ _ => ⟨rfl, e527, (by decide : 4 + 0 ≤ _), (by decide : 26 + 0 ≤ _)⟩)
         dsimp only [Pt.U, Pt.locs, Pt.cells, Pt.slots] at X530 l530 y530 z530 st530 hQ530
         subst l530 y530 z530
         obtain ⟨rfl, N530q, Kq530, p530_0, p530_1, p530_2⟩ := hQ530
         have N530 := Fr.app N524 N530q
         have Z530 : n0 ≤ T530.heap.size := Nat.le_trans Z527 Kq530.1
         have Y530 : kS2 ≤ T530.heap.size := Nat.le_trans Y527 Kq530.1
         have K530 : Keep h0 T530.heap [] := K527.trans Kq530 (allS (Or.inr sz_b527) all0)
         have f532 := (((f8.keep Kq7 (allS g_b4 all0)).ext E527).keep Kq530 (allS g_b527 all0))
         have f533 := ((f528.ext E527).keep Kq530)
         have f534 := (A527.keep Kq530)
         have f535 := ((p7_1.ext E527).keep Kq530 (ninS ne527_b4 nin0))
         have f536 := ((p7_2.ext E527).keep Kq530 (ninS ne527_b4 nin0))
         have f537 := ((p7_0.ext E527).keep Kq530 (ninS ne527_b4 nin0))
         have f538 := ((f529.ext E527).keep Kq530 (ninS ne527_w_DEF nin0))
         have f539 := ((f9.ext E527).keep Kq530 (ninS ne527_a1 nin0))
         obtain ⟨cq531, kq531, q531a, q531b, q531c⟩ := isOf hZ rfl f533
         obtain ⟨_, _, ⟨T531, L531, k531, n531⟩, -, X531, ⟨Lc531, hQ531, l531, y531, z531⟩, st531⟩ := X530.interfaceBack hx (xi := (⟨"java/util/List", "add", "(Ljava/lang/Object;)Z"⟩ : MethodName)) (y := (⟨"java/util/ArrayList", "add", "(Ljava/lang/Object;)Z"⟩ : MethodName)) hown (mvT hZ (kw87 hw)) (mvT hZ (kw88 hw)) (mvT hZ (kw89 hw)) (mvT hZ (kw90 hw)) (mvT hZ (kw91 hw)) (mvT hZ (kw92 hw)) (mvT hZ (kw93 hw)) (mvT hZ (kw56 hw)) (by decide) (backOf (W := 0) (rmAdd0 l Z a0 hw [] b4 b527 w_DEF kD (0 : Int32) T530.heap n0 Z530 f532 P1 f533 g_b4 f534 f535 f536 f537 f538 ne4_w_DEF) hZ (kw94 hw) (kw18 hw) (by decide) (by decide)) q531a q531b q531c (g := (mkF m 77 #[.val (.ref a1), .val (.ref b4), .val (.int 2), .val (.int 1), .val (.int 4)] [(.ref b527), (.ref b4)])) rfl (by rw [hml]; rfl) (Steps.refl _) (argsL := [(.ref b527)]) (rest := []) (lenOf pd_14 rfl) rfl (by show 2 * 0 + _ ≤ _; exact Nat.le_of_eq rfl) (hb hby d1_77) (fun _ _ => ⟨rfl, rfl, (by decide : 4 + 1 ≤ _), (by decide : 26 + 10 ≤ _)⟩)
         dsimp only [Pt.U, Pt.locs, Pt.cells, Pt.slots] at X531 l531 y531 z531 st531 hQ531
         subst l531 y531 z531
         obtain ⟨ed_531, kd_531, rfl, N531q, Kq531, p531_0, p531_1, p531_2, p531_3, p531_4, p531_5, p531_6⟩ := hQ531
         have N531 := Fr.app N530 N531q
         have Z531 : n0 ≤ T531.heap.size := Nat.le_trans Z530 Kq531.1
         have Y531 : kS2 ≤ T531.heap.size := Nat.le_trans Y530 Kq531.1
         have K531 : Keep h0 T531.heap [] := K530.trans Kq531 (allS (Or.inr sz_b4) all0)
         have sz_ed_531 : h0.size ≤ ed_531 := Nat.le_trans K530.1 p531_1
         have ne531_a1_ed_531 : a1 ≠ ed_531 := Nat.ne_of_lt (Nat.lt_of_lt_of_le f539.lt p531_1)
         have ne531_b4_ed_531 : b4 ≠ ed_531 := Nat.ne_of_lt (Nat.lt_of_lt_of_le f533.lt p531_1)
         have ne531_b527_ed_531 : b527 ≠ ed_531 := Nat.ne_of_lt (Nat.lt_of_lt_of_le f534.lt p531_1)
         have ne531_w_DEF_ed_531 : w_DEF ≠ ed_531 := Nat.ne_of_lt (Nat.lt_of_lt_of_le f538.lt p531_1)
         have f540 := (f539.keep Kq531 (ninS ne4_a1 nin0))
         obtain ⟨cl541, Ar541, -, S541, N541', -, -⟩ := id f540
         have hsp : own_split nn b0 b1 b2 b3 = [((2 : Int32), (1 : Int32), (3 : Int32))] := by unfold own_split; rw [if_pos hc12, if_neg hc14, if_pos hc510, if_pos hc512, if_pos hc516, if_pos hc520, if_pos hc526]
         have f542 := (f533.keep Kq531)
         have f543 := (f534.keep Kq531)
         have f544 := (p530_0.keep Kq531 (ninS (Ne.symm ne527_b4) nin0))
         have f545 := (p530_1.keep Kq531 (ninS (Ne.symm ne527_b4) nin0))
         have f546 := (p530_2.keep Kq531 (ninS (Ne.symm ne527_b4) nin0))
         obtain ⟨fs, hr, hrun, hended, hRE⟩ := X531.leaveW hS2 Y531 (v := some (.ref b4)) (fun h => by rw [Bd.returns] at h; cases h)
         refine ⟨_, _, pre525 _ ?_, hrun, hended, _, _, rfl, ?_, hRE.1, hRE.2.1, hRE.2.2.1, hRE.2.2.2.mono (by decide) (by decide)⟩
         · skip
           refine XS.ifNo X524.here hx rfl (hb hby d1_60) rfl ((if0 _ _).trans (teq hc526).2) ?_
           refine XS.aloadN X524.here hx rfl (hb hby d1_63) rfl rfl ?_
           refine st527 _ ?_
           refine XS.dup X527.here hx rfl (hb hby d1_67) rfl rfl ?_
           refine XS.iloadN X527.here hx rfl (hb hby d1_68) rfl ?_
           refine XS.iloadN X527.here hx rfl (hb hby d1_69) rfl ?_
           refine XS.iload X527.here hx rfl (hb hby d1_70) rfl ?_
           refine XS.iloadN X527.here hx rfl (hb hby d1_72) rfl ?_
           refine XS.isub X527.here hx rfl (hb hby d1_73) rfl ?_
           refine st530.trans ?_
           refine st531.trans ?_
           refine XS.pop X531.here hx rfl (hb hby d1_82) rfl rfl ?_
           refine XS.iload X531.here hx rfl (hb hby d1_83) rfl ?_
           refine XS.iconst X531.here hx rfl (hb hby d1_85) ?_
           refine XS.iadd X531.here hx rfl (hb hby d1_86) rfl ?_
           refine XS.istoreN X531.here hx rfl (hb hby d1_87) rfl (l' := #[.val (.ref a1), .val (.ref b4), .val (.int 2), .val (.int 5), .val (.int 4)]) rfl ?_
           refine XS.goto X531.here hx rfl (pc0 := 88) (pc' := 19) rfl (hb hby d1_88) (by decide) (by decide) ?_
           refine XS.iloadN X531.here hx rfl (hb hby d1_19) rfl ?_
           refine XS.aloadN X531.here hx rfl (hb hby d1_20) rfl rfl ?_
           refine X531.arraylength hx Ar541.1 (State.isArrayOf_alike hZ.alike Ar541.2.1) (g := (mkF m 21 #[.val (.ref a1), .val (.ref b4), .val (.int 2), .val (.int 5), .val (.int 4)] [(.ref a1), (.int 5)])) rfl rfl (hb hby d1_21) _ ?_
           rw [len_of S541 N541']
           refine XS.icmpYes X531.here hx rfl (pc0 := 22) (pc' := 91) rfl (hb hby d1_22) rfl (flt (own_ge4 hn (by decide))).2.1 (by decide) (by decide) ?_
           refine XS.aloadN X531.here hx rfl (hb hby d1_91) rfl rfl ?_
           show Steps p.tables e below (T531.setTop (mkF m 92 #[.val (.ref a1), .val (.ref b4), .val (.int 2), .val (.int 5), .val (.int 4)] [(.ref b4)])) _
           jvm_step X531.here [X531.here.top, hx, (hb hby d1_92), X531.method', Bd.returns, Value.isRef, FieldType.isReference]
           first | (intro acts; rw [hr _ acts rfl rfl rfl]) | rw [hr _ _ rfl rfl rfl]
           exact Steps.refl _
         · show Q_rmSplit Z a1 nn b0 b1 b2 b3 kk w_DEF kD h0 n0 _ T531.heap _
           exact ⟨b4, rfl, N531, K531, g_b4, sz_b4, f542, (by rw [hsp]; exact p531_4), (by rw [hsp]; exact own_lines1 p531_5 p531_2 f543 f544 f545 f546)⟩
        ·skip
         obtain ⟨cl548, Ar548, -, S548, N548', -, -⟩ := id f9
         have hsp : own_split nn b0 b1 b2 b3 = [] := by unfold own_split; rw [if_pos hc12, if_neg hc14, if_pos hc510, if_pos hc512, if_pos hc516, if_pos hc520, if_neg hc526]
         have f549 := (A4.keep Kq7)
         obtain ⟨fs, hr, hrun, hended, hRE⟩ := X524.leaveW hS2 (by rw [e524]; exact Y7) (v := some (.ref b4)) (fun h => by rw [Bd.returns] at h; cases h)
         refine ⟨_, _, pre525 _ ?_, hrun, hended, _, _, rfl, ?_, hRE.1, hRE.2.1, hRE.2.2.1, hRE.2.2.2.mono (by decide) (by decide)⟩
         · skip
           refine XS.ifYes X524.here hx rfl (pc0 := 60) (pc' := 83) rfl (hb hby d1_60) rfl ((if0 _ _).trans (feq hc526).2) (by decide) (by decide) ?_
           refine XS.iload X524.here hx rfl (hb hby d1_83) rfl ?_
           refine XS.iconst X524.here hx rfl (hb hby d1_85) ?_
           refine XS.iadd X524.here hx rfl (hb hby d1_86) rfl ?_
           refine XS.istoreN X524.here hx rfl (hb hby d1_87) rfl (l' := #[.val (.ref a1), .val (.ref b4), .val (.int 2), .val (.int 5), .val (.int 4)]) rfl ?_
           refine XS.goto X524.here hx rfl (pc0 := 88) (pc' := 19) rfl (hb hby d1_88) (by decide) (by decide) ?_
           refine XS.iloadN X524.here hx rfl (hb hby d1_19) rfl ?_
           refine XS.aloadN X524.here hx rfl (hb hby d1_20) rfl rfl ?_
           refine X524.arraylength hx (by rw [e524]; exact Ar548.1) (State.isArrayOf_alike hZ.alike Ar548.2.1) (g := (mkF m 21 #[.val (.ref a1), .val (.ref b4), .val (.int 2), .val (.int 5), .val (.int 4)] [(.ref a1), (.int 5)])) rfl rfl (hb hby d1_21) _ ?_
           rw [len_of S548 N548']
           refine XS.icmpYes X524.here hx rfl (pc0 := 22) (pc' := 91) rfl (hb hby d1_22) rfl (flt (own_ge4 hn (by decide))).2.1 (by decide) (by decide) ?_
           refine XS.aloadN X524.here hx rfl (hb hby d1_91) rfl rfl ?_
           show Steps p.tables e below (T524.setTop (mkF m 92 #[.val (.ref a1), .val (.ref b4), .val (.int 2), .val (.int 5), .val (.int 4)] [(.ref b4)])) _
           jvm_step X524.here [X524.here.top, hx, (hb hby d1_92), X524.method', Bd.returns, Value.isRef, FieldType.isReference]
           first | (intro acts; rw [hr _ acts rfl rfl rfl]) | rw [hr _ _ rfl rfl rfl]
           exact Steps.refl _
         · show Q_rmSplit Z a1 nn b0 b1 b2 b3 kk w_DEF kD h0 n0 _ T524.heap _
           rw [e524]
           exact ⟨b4, rfl, N524, K7, g_b4, sz_b4, f549, (by rw [hsp]; exact p7_2), (by rw [hsp]; exact own_lines0)⟩
       ·skip
        obtain ⟨cl551, Ar551, -, S551, N551', -, -⟩ := id f9
        have pre552 : ∀ t, Steps p.tables e below (T507.setTop (mkF m 35 #[.val (.ref a1), .val (.ref b4), .val (.int 2), .val (.int 1), .val (.int 3)] [(.int nn), (.int 3)])) t → Steps p.tables e below (s₁.setTop (entryFrame m #[(.ref a1)] 5)) t := fun t k => pre519 t (by
          refine XS.iload X507.here hx rfl (hb hby d1_31) rfl ?_
          refine XS.aloadN X507.here hx rfl (hb hby d1_33) rfl rfl ?_
          refine X507.arraylength hx (by rw [e507]; exact Ar551.1) (State.isArrayOf_alike hZ.alike Ar551.2.1) (g := (mkF m 34 #[.val (.ref a1), .val (.ref b4), .val (.int 2), .val (.int 1), .val (.int 3)] [(.ref a1), (.int 3)])) rfl rfl (hb hby d1_34) _ ?_
          rw [len_of S551 N551']
          exact k)
        obtain ⟨LJ553, TJ553, XJ553, NJ553, eJ553, pre553⟩ : ∃ (LL : List Loc) (T' : State), Stand p l e ({ frames := 5, cells := 6, slots := 39, locals := 69 } : Room) (s.setVm T2.vm) m #[(.ref a1)] below meth c T' LL 3 23 ∧ Fr n0 LL ∧ T'.heap = T7.heap ∧ ∀ t, Steps p.tables e below (T'.setTop (mkF m 53 #[.val (.ref a1), .val (.ref b4), .val (.int 2), .val (.int 1), .val (.int 3)] [])) t → Steps p.tables e below (s₁.setTop (entryFrame m #[(.ref a1)] 5)) t := by
          by_cases hc554 : (3 : Int32) < nn
          ·skip
           obtain ⟨cl555, Ar555, q555, S555, N555', H555, G555⟩ := id f9
           have hin555 : ¬ ((3 : Int32) < 0 ∨ cl555.slots.size ≤ ((3 : Int32)).toNatClampNeg) := inb_of S555 ⟨by decide, hc554⟩
           have hat555 : cl555.slots[((3 : Int32)).toNatClampNeg]? = some (.int (own_b b0 b1 b2 b3 (3 : Int32))) := H555.at hin555 (own_is_getD _ _)
           refine ⟨_, _, X507, N507, e507, fun t k => pre552 t ?_⟩
           refine XS.icmpNo X507.here hx rfl (hb hby d1_35) rfl (tlt hc554).2.1 ?_
           refine XS.aloadN X507.here hx rfl (hb hby d1_38) rfl rfl ?_
           refine XS.iload X507.here hx rfl (hb hby d1_39) rfl ?_
           refine X507.baloadBytes hx (j := (3 : Int32)) (v := (.int (own_b b0 b1 b2 b3 (3 : Int32)))) (by rw [e507]; exact Ar555.1) (State.isArrayOf_alike hZ.alike Ar555.2.1) Ar555.2.2 hin555 hat555 (g := (mkF m 41 #[.val (.ref a1), .val (.ref b4), .val (.int 2), .val (.int 1), .val (.int 3)] [(.int 3), (.ref a1)])) rfl rfl (hb hby d1_41) _ ?_
           refine XS.bipush X507.here hx rfl (hb hby d1_42) ?_
           refine XS.icmpYes X507.here hx rfl (pc0 := 44) (pc' := 53) rfl (hb hby d1_44) rfl (teq (Decidable.byContradiction fun q => hc520 ⟨hc554, q⟩)).1 (by decide) (by decide) ?_
           exact k
          ·skip
           refine ⟨_, _, X507, N507, e507, fun t k => pre552 t ?_⟩
           refine XS.icmpYes X507.here hx rfl (pc0 := 35) (pc' := 53) rfl (hb hby d1_35) rfl (flt hc554).2.1 (by decide) (by decide) ?_
           exact k
        obtain ⟨_, _, ⟨T556, L556, k556, n556⟩, -, X556, ⟨Lc556, hQ556, l556, y556, z556⟩, st556⟩ := Jvm.LawKit.callS XJ553 hx (y := (⟨"com/example/rank_keeper/rankkeeper/BodyLines", "isBlank", "([BII)Z"⟩ : MethodName)) hown (mvT hZ (kw66 hw)) (mvT hZ (kw67 hw)) (mvT hZ (kw3 hw)) (mvT hZ (kw68 hw)) (by decide) (backOf (W := 0) (rmBl_1 l Z a0 hw [] a1 (3 : Int32) nn b0 b1 b2 b3 kk T7.heap n0 Z7 f9 hn (own_lt1 hc516.1 (by decide))) hZ (kw68 hw) (kw3 hw) (by decide) (by decide)) (g := (mkF m 57 #[.val (.ref a1), .val (.ref b4), .val (.int 2), .val (.int 1), .val (.int 3)] [(.int 3), (.int 1), (.ref a1)])) rfl (by rw [hml]; rfl) (argsL := [(.ref a1), (.int 1), (.int 3)]) (rest := []) (lenOf pd_3 rfl) rfl (by show 2 * 0 + _ ≤ _; exact Nat.le_of_eq rfl) (hb hby d1_57) (fun _ _ => ⟨rfl, eJ553, (by decide : 3 + 0 ≤ _), (by decide : 23 + 0 ≤ _)⟩)
        dsimp only [Pt.U, Pt.locs, Pt.cells, Pt.slots] at X556 l556 y556 z556 st556 hQ556
        subst l556 y556 z556
        obtain ⟨rfl, N556q, e556⟩ := hQ556
        have N556 := Fr.app NJ553 N556q
        have pre557 : ∀ t, Steps p.tables e below (T556.setTop (mkF m 60 #[.val (.ref a1), .val (.ref b4), .val (.int 2), .val (.int 1), .val (.int 3)] [(.int (own_bl_1 b0 b1 b2 b3 (3 : Int32)))])) t → Steps p.tables e below (s₁.setTop (entryFrame m #[(.ref a1)] 5)) t := fun t k => pre553 t (by
          refine XS.aloadN XJ553.here hx rfl (hb hby d1_53) rfl rfl ?_
          refine XS.iloadN XJ553.here hx rfl (hb hby d1_54) rfl ?_
          refine XS.iload XJ553.here hx rfl (hb hby d1_55) rfl ?_
          refine st556 _ ?_
          exact k)
        by_cases hc558 : (own_bl_1 b0 b1 b2 b3 (3 : Int32)) = (0 : Int32)
        ·skip
         have f560 := (A4.keep Kq7)
         have f561 := ((f6.ext E4).keep Kq7 (ninS ne4_w_DEF nin0))
         obtain ⟨T559, h559, X559, e559, E559, A559, D559, -, st559⟩ := newO X556 hx hZ hown (kw69 hw) (kw70 hw) (kw71 hw) e556 (g := (mkF m 64 #[.val (.ref a1), .val (.ref b4), .val (.int 2), .val (.int 1), .val (.int 3)] [(.ref b4)])) rfl (hb hby d1_64) (by decide) (by decide)
         obtain ⟨b559, g559⟩ : ∃ z, z = T7.heap.size := ⟨_, rfl⟩
         rw [← g559] at A559 D559 st559
         have ne559_a1 : a1 ≠ b559 := Nat.ne_of_lt (Nat.lt_of_lt_of_le f9.lt (Nat.le_of_eq g559.symm))
         have ne559_b4 : b4 ≠ b559 := Nat.ne_of_lt (Nat.lt_of_lt_of_le f560.lt (Nat.le_of_eq g559.symm))
         have ne559_w_DEF : w_DEF ≠ b559 := Nat.ne_of_lt (Nat.lt_of_lt_of_le f561.lt (Nat.le_of_eq g559.symm))
         have g_b559 : n0 ≤ b559 := Nat.le_trans Z7 (Nat.le_of_eq g559.symm)
         have sz_b559 : h0.size ≤ b559 := Nat.le_trans K7.1 (Nat.le_of_eq g559.symm)
         have Z559 : n0 ≤ h559.size := Nat.le_trans Z7 E559.1
         have Y559 : kS2 ≤ h559.size := Nat.le_trans Y7 E559.1
         have K559 : Keep h0 h559 [] := K7.ext E559
         have F559_number : Fld Z h559 b559 "com/example/rank_keeper/rankkeeper/BodyLines$Line" "number" "I" (.int 0) := D559 (Or.inr (kw82 hw)) (ty := .int) (by decide)
         have F559_offset : Fld Z h559 b559 "com/example/rank_keeper/rankkeeper/BodyLines$Line" "offset" "I" (.int 0) := D559 (Or.inr (kw84 hw)) (ty := .int) (by decide)
         have F559_length : Fld Z h559 b559 "com/example/rank_keeper/rankkeeper/BodyLines$Line" "length" "I" (.int 0) := D559 (Or.inr (kw86 hw)) (ty := .int) (by decide)
         obtain ⟨_, _, ⟨T562, L562, k562, n562⟩, -, X562, ⟨Lc562, hQ562, l562, y562, z562⟩, st562⟩ := X559.specialBack hx (y := (⟨"com/example/rank_keeper/rankkeeper/BodyLines$Line", "<init>", "(III)V"⟩ : MethodName)) rfl hown (mvT hZ (kw72 hw)) (mvT hZ (kw73 hw)) (mvT hZ (kw74 hw)) (by decide) (backOf (W := 2) (rm13 l Z a0 hw [] b559 (2 : Int32) (1 : Int32) (2 : Int32) h559 n0 Z559 A559 g_b559 F559_number F559_offset F559_length) hZ (kw74 hw) (kw71 hw) (by decide) (by decide)) (g := (mkF m 74 #[.val (.ref a1), .val (.ref b4), .val (.int 2), .val (.int 1), .val (.int 3)] [(.int 2), (.int 1), (.int 2), (.ref b559), (.ref b559), (.ref b4)])) rfl (by rw [hml]; rfl) (Steps.refl _) (a := b559) (argsL := [(.int 2), (.int 1), (.int 2)]) (rest := [(.ref b559), (.ref b4)]) (lenOf pd_13 rfl) rfl (by show 2 * 0 + _ ≤ _; exact Nat.le_of_eq rfl) (hb hby d1_74) (fun _ _ => ⟨rfl, e559, (by decide : 4 + 0 ≤ _), (by decide : 26 + 0 ≤ _)⟩)
         dsimp only [Pt.U, Pt.locs, Pt.cells, Pt.slots] at X562 l562 y562 z562 st562 hQ562
         subst l562 y562 z562
         obtain ⟨rfl, N562q, Kq562, p562_0, p562_1, p562_2⟩ := hQ562
         have N562 := Fr.app N556 N562q
         have Z562 : n0 ≤ T562.heap.size := Nat.le_trans Z559 Kq562.1
         have Y562 : kS2 ≤ T562.heap.size := Nat.le_trans Y559 Kq562.1
         have K562 : Keep h0 T562.heap [] := K559.trans Kq562 (allS (Or.inr sz_b559) all0)
         have f564 := (((f8.keep Kq7 (allS g_b4 all0)).ext E559).keep Kq562 (allS g_b559 all0))
         have f565 := ((f560.ext E559).keep Kq562)
         have f566 := (A559.keep Kq562)
         have f567 := ((p7_1.ext E559).keep Kq562 (ninS ne559_b4 nin0))
         have f568 := ((p7_2.ext E559).keep Kq562 (ninS ne559_b4 nin0))
         have f569 := ((p7_0.ext E559).keep Kq562 (ninS ne559_b4 nin0))
         have f570 := ((f561.ext E559).keep Kq562 (ninS ne559_w_DEF nin0))
         have f571 := ((f9.ext E559).keep Kq562 (ninS ne559_a1 nin0))
         obtain ⟨cq563, kq563, q563a, q563b, q563c⟩ := isOf hZ rfl f565
         obtain ⟨_, _, ⟨T563, L563, k563, n563⟩, -, X563, ⟨Lc563, hQ563, l563, y563, z563⟩, st563⟩ := X562.interfaceBack hx (xi := (⟨"java/util/List", "add", "(Ljava/lang/Object;)Z"⟩ : MethodName)) (y := (⟨"java/util/ArrayList", "add", "(Ljava/lang/Object;)Z"⟩ : MethodName)) hown (mvT hZ (kw87 hw)) (mvT hZ (kw88 hw)) (mvT hZ (kw89 hw)) (mvT hZ (kw90 hw)) (mvT hZ (kw91 hw)) (mvT hZ (kw92 hw)) (mvT hZ (kw93 hw)) (mvT hZ (kw56 hw)) (by decide) (backOf (W := 0) (rmAdd0 l Z a0 hw [] b4 b559 w_DEF kD (0 : Int32) T562.heap n0 Z562 f564 P1 f565 g_b4 f566 f567 f568 f569 f570 ne4_w_DEF) hZ (kw94 hw) (kw18 hw) (by decide) (by decide)) q563a q563b q563c (g := (mkF m 77 #[.val (.ref a1), .val (.ref b4), .val (.int 2), .val (.int 1), .val (.int 3)] [(.ref b559), (.ref b4)])) rfl (by rw [hml]; rfl) (Steps.refl _) (argsL := [(.ref b559)]) (rest := []) (lenOf pd_14 rfl) rfl (by show 2 * 0 + _ ≤ _; exact Nat.le_of_eq rfl) (hb hby d1_77) (fun _ _ => ⟨rfl, rfl, (by decide : 4 + 1 ≤ _), (by decide : 26 + 10 ≤ _)⟩)
         dsimp only [Pt.U, Pt.locs, Pt.cells, Pt.slots] at X563 l563 y563 z563 st563 hQ563
         subst l563 y563 z563
         obtain ⟨ed_563, kd_563, rfl, N563q, Kq563, p563_0, p563_1, p563_2, p563_3, p563_4, p563_5, p563_6⟩ := hQ563
         have N563 := Fr.app N562 N563q
         have Z563 : n0 ≤ T563.heap.size := Nat.le_trans Z562 Kq563.1
         have Y563 : kS2 ≤ T563.heap.size := Nat.le_trans Y562 Kq563.1
         have K563 : Keep h0 T563.heap [] := K562.trans Kq563 (allS (Or.inr sz_b4) all0)
         have sz_ed_563 : h0.size ≤ ed_563 := Nat.le_trans K562.1 p563_1
         have ne563_a1_ed_563 : a1 ≠ ed_563 := Nat.ne_of_lt (Nat.lt_of_lt_of_le f571.lt p563_1)
         have ne563_b4_ed_563 : b4 ≠ ed_563 := Nat.ne_of_lt (Nat.lt_of_lt_of_le f565.lt p563_1)
         have ne563_b559_ed_563 : b559 ≠ ed_563 := Nat.ne_of_lt (Nat.lt_of_lt_of_le f566.lt p563_1)
         have ne563_w_DEF_ed_563 : w_DEF ≠ ed_563 := Nat.ne_of_lt (Nat.lt_of_lt_of_le f570.lt p563_1)
         have f572 := (f571.keep Kq563 (ninS ne4_a1 nin0))
         obtain ⟨cl573, Ar573, -, S573, N573', -, -⟩ := id f572
         have hsp : own_split nn b0 b1 b2 b3 = [((2 : Int32), (1 : Int32), (2 : Int32))] := by unfold own_split; rw [if_pos hc12, if_neg hc14, if_pos hc510, if_pos hc512, if_pos hc516, if_neg hc520, if_pos hc558]
         have f574 := (f565.keep Kq563)
         have f575 := (f566.keep Kq563)
         have f576 := (p562_0.keep Kq563 (ninS (Ne.symm ne559_b4) nin0))
         have f577 := (p562_1.keep Kq563 (ninS (Ne.symm ne559_b4) nin0))
         have f578 := (p562_2.keep Kq563 (ninS (Ne.symm ne559_b4) nin0))
         obtain ⟨fs, hr, hrun, hended, hRE⟩ := X563.leaveW hS2 Y563 (v := some (.ref b4)) (fun h => by rw [Bd.returns] at h; cases h)
         refine ⟨_, _, pre557 _ ?_, hrun, hended, _, _, rfl, ?_, hRE.1, hRE.2.1, hRE.2.2.1, hRE.2.2.2.mono (by decide) (by decide)⟩
         · skip
           refine XS.ifNo X556.here hx rfl (hb hby d1_60) rfl ((if0 _ _).trans (teq hc558).2) ?_
           refine XS.aloadN X556.here hx rfl (hb hby d1_63) rfl rfl ?_
           refine st559 _ ?_
           refine XS.dup X559.here hx rfl (hb hby d1_67) rfl rfl ?_
           refine XS.iloadN X559.here hx rfl (hb hby d1_68) rfl ?_
           refine XS.iloadN X559.here hx rfl (hb hby d1_69) rfl ?_
           refine XS.iload X559.here hx rfl (hb hby d1_70) rfl ?_
           refine XS.iloadN X559.here hx rfl (hb hby d1_72) rfl ?_
           refine XS.isub X559.here hx rfl (hb hby d1_73) rfl ?_
           refine st562.trans ?_
           refine st563.trans ?_
           refine XS.pop X563.here hx rfl (hb hby d1_82) rfl rfl ?_
           refine XS.iload X563.here hx rfl (hb hby d1_83) rfl ?_
           refine XS.iconst X563.here hx rfl (hb hby d1_85) ?_
           refine XS.iadd X563.here hx rfl (hb hby d1_86) rfl ?_
           refine XS.istoreN X563.here hx rfl (hb hby d1_87) rfl (l' := #[.val (.ref a1), .val (.ref b4), .val (.int 2), .val (.int 4), .val (.int 3)]) rfl ?_
           refine XS.goto X563.here hx rfl (pc0 := 88) (pc' := 19) rfl (hb hby d1_88) (by decide) (by decide) ?_
           refine XS.iloadN X563.here hx rfl (hb hby d1_19) rfl ?_
           refine XS.aloadN X563.here hx rfl (hb hby d1_20) rfl rfl ?_
           refine X563.arraylength hx Ar573.1 (State.isArrayOf_alike hZ.alike Ar573.2.1) (g := (mkF m 21 #[.val (.ref a1), .val (.ref b4), .val (.int 2), .val (.int 4), .val (.int 3)] [(.ref a1), (.int 4)])) rfl rfl (hb hby d1_21) _ ?_
           rw [len_of S573 N573']
           refine XS.icmpYes X563.here hx rfl (pc0 := 22) (pc' := 91) rfl (hb hby d1_22) rfl (flt (own_ge4 hn (by decide))).2.1 (by decide) (by decide) ?_
           refine XS.aloadN X563.here hx rfl (hb hby d1_91) rfl rfl ?_
           show Steps p.tables e below (T563.setTop (mkF m 92 #[.val (.ref a1), .val (.ref b4), .val (.int 2), .val (.int 4), .val (.int 3)] [(.ref b4)])) _
           jvm_step X563.here [X563.here.top, hx, (hb hby d1_92), X563.method', Bd.returns, Value.isRef, FieldType.isReference]
           first | (intro acts; rw [hr _ acts rfl rfl rfl]) | rw [hr _ _ rfl rfl rfl]
           exact Steps.refl _
         · show Q_rmSplit Z a1 nn b0 b1 b2 b3 kk w_DEF kD h0 n0 _ T563.heap _
           exact ⟨b4, rfl, N563, K563, g_b4, sz_b4, f574, (by rw [hsp]; exact p563_4), (by rw [hsp]; exact own_lines1 p563_5 p563_2 f575 f576 f577 f578)⟩
        ·skip
         obtain ⟨cl580, Ar580, -, S580, N580', -, -⟩ := id f9
         have hsp : own_split nn b0 b1 b2 b3 = [] := by unfold own_split; rw [if_pos hc12, if_neg hc14, if_pos hc510, if_pos hc512, if_pos hc516, if_neg hc520, if_neg hc558]
         have f581 := (A4.keep Kq7)
         obtain ⟨fs, hr, hrun, hended, hRE⟩ := X556.leaveW hS2 (by rw [e556]; exact Y7) (v := some (.ref b4)) (fun h => by rw [Bd.returns] at h; cases h)
         refine ⟨_, _, pre557 _ ?_, hrun, hended, _, _, rfl, ?_, hRE.1, hRE.2.1, hRE.2.2.1, hRE.2.2.2.mono (by decide) (by decide)⟩
         · skip
           refine XS.ifYes X556.here hx rfl (pc0 := 60) (pc' := 83) rfl (hb hby d1_60) rfl ((if0 _ _).trans (feq hc558).2) (by decide) (by decide) ?_
           refine XS.iload X556.here hx rfl (hb hby d1_83) rfl ?_
           refine XS.iconst X556.here hx rfl (hb hby d1_85) ?_
           refine XS.iadd X556.here hx rfl (hb hby d1_86) rfl ?_
           refine XS.istoreN X556.here hx rfl (hb hby d1_87) rfl (l' := #[.val (.ref a1), .val (.ref b4), .val (.int 2), .val (.int 4), .val (.int 3)]) rfl ?_
           refine XS.goto X556.here hx rfl (pc0 := 88) (pc' := 19) rfl (hb hby d1_88) (by decide) (by decide) ?_
           refine XS.iloadN X556.here hx rfl (hb hby d1_19) rfl ?_
           refine XS.aloadN X556.here hx rfl (hb hby d1_20) rfl rfl ?_
           refine X556.arraylength hx (by rw [e556]; exact Ar580.1) (State.isArrayOf_alike hZ.alike Ar580.2.1) (g := (mkF m 21 #[.val (.ref a1), .val (.ref b4), .val (.int 2), .val (.int 4), .val (.int 3)] [(.ref a1), (.int 4)])) rfl rfl (hb hby d1_21) _ ?_
           rw [len_of S580 N580']
           refine XS.icmpYes X556.here hx rfl (pc0 := 22) (pc' := 91) rfl (hb hby d1_22) rfl (flt (own_ge4 hn (by decide))).2.1 (by decide) (by decide) ?_
           refine XS.aloadN X556.here hx rfl (hb hby d1_91) rfl rfl ?_
           show Steps p.tables e below (T556.setTop (mkF m 92 #[.val (.ref a1), .val (.ref b4), .val (.int 2), .val (.int 4), .val (.int 3)] [(.ref b4)])) _
           jvm_step X556.here [X556.here.top, hx, (hb hby d1_92), X556.method', Bd.returns, Value.isRef, FieldType.isReference]
           first | (intro acts; rw [hr _ acts rfl rfl rfl]) | rw [hr _ _ rfl rfl rfl]
           exact Steps.refl _
         · show Q_rmSplit Z a1 nn b0 b1 b2 b3 kk w_DEF kD h0 n0 _ T556.heap _
           rw [e556]
           exact ⟨b4, rfl, N556, K7, g_b4, sz_b4, f581, (by rw [hsp]; exact p7_2), (by rw [hsp]; exact own_lines0)⟩
      ·skip
       obtain ⟨cl583, Ar583, -, S583, N583', -, -⟩ := id f9
       have pre584 : ∀ t, Steps p.tables e below (T507.setTop (mkF m 35 #[.val (.ref a1), .val (.ref b4), .val (.int 2), .val (.int 1), .val (.int 2)] [(.int nn), (.int 2)])) t → Steps p.tables e below (s₁.setTop (entryFrame m #[(.ref a1)] 5)) t := fun t k => pre515 t (by
         refine XS.iload X507.here hx rfl (hb hby d1_31) rfl ?_
         refine XS.aloadN X507.here hx rfl (hb hby d1_33) rfl rfl ?_
         refine X507.arraylength hx (by rw [e507]; exact Ar583.1) (State.isArrayOf_alike hZ.alike Ar583.2.1) (g := (mkF m 34 #[.val (.ref a1), .val (.ref b4), .val (.int 2), .val (.int 1), .val (.int 2)] [(.ref a1), (.int 2)])) rfl rfl (hb hby d1_34) _ ?_
         rw [len_of S583 N583']
         exact k)
       obtain ⟨LJ585, TJ585, XJ585, NJ585, eJ585, pre585⟩ : ∃ (LL : List Loc) (T' : State), Stand p l e ({ frames := 5, cells := 6, slots := 39, locals := 69 } : Room) (s.setVm T2.vm) m #[(.ref a1)] below meth c T' LL 3 23 ∧ Fr n0 LL ∧ T'.heap = T7.heap ∧ ∀ t, Steps p.tables e below (T'.setTop (mkF m 53 #[.val (.ref a1), .val (.ref b4), .val (.int 2), .val (.int 1), .val (.int 2)] [])) t → Steps p.tables e below (s₁.setTop (entryFrame m #[(.ref a1)] 5)) t := by
         by_cases hc586 : (2 : Int32) < nn
         ·skip
          obtain ⟨cl587, Ar587, q587, S587, N587', H587, G587⟩ := id f9
          have hin587 : ¬ ((2 : Int32) < 0 ∨ cl587.slots.size ≤ ((2 : Int32)).toNatClampNeg) := inb_of S587 ⟨by decide, hc586⟩
          have hat587 : cl587.slots[((2 : Int32)).toNatClampNeg]? = some (.int (own_b b0 b1 b2 b3 (2 : Int32))) := H587.at hin587 (own_is_getD _ _)
          refine ⟨_, _, X507, N507, e507, fun t k => pre584 t ?_⟩
          refine XS.icmpNo X507.here hx rfl (hb hby d1_35) rfl (tlt hc586).2.1 ?_
          refine XS.aloadN X507.here hx rfl (hb hby d1_38) rfl rfl ?_
          refine XS.iload X507.here hx rfl (hb hby d1_39) rfl ?_
          refine X507.baloadBytes hx (j := (2 : Int32)) (v := (.int (own_b b0 b1 b2 b3 (2 : Int32)))) (by rw [e507]; exact Ar587.1) (State.isArrayOf_alike hZ.alike Ar587.2.1) Ar587.2.2 hin587 hat587 (g := (mkF m 41 #[.val (.ref a1), .val (.ref b4), .val (.int 2), .val (.int 1), .val (.int 2)] [(.int 2), (.ref a1)])) rfl rfl (hb hby d1_41) _ ?_
          refine XS.bipush X507.here hx rfl (hb hby d1_42) ?_
          refine XS.icmpYes X507.here hx rfl (pc0 := 44) (pc' := 53) rfl (hb hby d1_44) rfl (teq (Decidable.byContradiction fun q => hc516 ⟨hc586, q⟩)).1 (by decide) (by decide) ?_
          exact k
         ·skip
          refine ⟨_, _, X507, N507, e507, fun t k => pre584 t ?_⟩
          refine XS.icmpYes X507.here hx rfl (pc0 := 35) (pc' := 53) rfl (hb hby d1_35) rfl (flt hc586).2.1 (by decide) (by decide) ?_
          exact k
       obtain ⟨_, _, ⟨T588, L588, k588, n588⟩, -, X588, ⟨Lc588, hQ588, l588, y588, z588⟩, st588⟩ := Jvm.LawKit.callS XJ585 hx (y := (⟨"com/example/rank_keeper/rankkeeper/BodyLines", "isBlank", "([BII)Z"⟩ : MethodName)) hown (mvT hZ (kw66 hw)) (mvT hZ (kw67 hw)) (mvT hZ (kw3 hw)) (mvT hZ (kw68 hw)) (by decide) (backOf (W := 0) (rmBl_1 l Z a0 hw [] a1 (2 : Int32) nn b0 b1 b2 b3 kk T7.heap n0 Z7 f9 hn (own_lt1 hc512.1 (by decide))) hZ (kw68 hw) (kw3 hw) (by decide) (by decide)) (g := (mkF m 57 #[.val (.ref a1), .val (.ref b4), .val (.int 2), .val (.int 1), .val (.int 2)] [(.int 2), (.int 1), (.ref a1)])) rfl (by rw [hml]; rfl) (argsL := [(.ref a1), (.int 1), (.int 2)]) (rest := []) (lenOf pd_3 rfl) rfl (by show 2 * 0 + _ ≤ _; exact Nat.le_of_eq rfl) (hb hby d1_57) (fun _ _ => ⟨rfl, eJ585, (by decide : 3 + 0 ≤ _), (by decide : 23 + 0 ≤ _)⟩)
       dsimp only [Pt.U, Pt.locs, Pt.cells, Pt.slots] at X588 l588 y588 z588 st588 hQ588
       subst l588 y588 z588
       obtain ⟨rfl, N588q, e588⟩ := hQ588
       have N588 := Fr.app NJ585 N588q
       have pre589 : ∀ t, Steps p.tables e below (T588.setTop (mkF m 60 #[.val (.ref a1), .val (.ref b4), .val (.int 2), .val (.int 1), .val (.int 2)] [(.int (own_bl_1 b0 b1 b2 b3 (2 : Int32)))])) t → Steps p.tables e below (s₁.setTop (entryFrame m #[(.ref a1)] 5)) t := fun t k => pre585 t (by
         refine XS.aloadN XJ585.here hx rfl (hb hby d1_53) rfl rfl ?_
         refine XS.iloadN XJ585.here hx rfl (hb hby d1_54) rfl ?_
         refine XS.iload XJ585.here hx rfl (hb hby d1_55) rfl ?_
         refine st588 _ ?_
         exact k)
       by_cases hc590 : (own_bl_1 b0 b1 b2 b3 (2 : Int32)) = (0 : Int32)
       ·skip
        have f592 := (A4.keep Kq7)
        have f593 := ((f6.ext E4).keep Kq7 (ninS ne4_w_DEF nin0))
        obtain ⟨T591, h591, X591, e591, E591, A591, D591, -, st591⟩ := newO X588 hx hZ hown (kw69 hw) (kw70 hw) (kw71 hw) e588 (g := (mkF m 64 #[.val (.ref a1), .val (.ref b4), .val (.int 2), .val (.int 1), .val (.int 2)] [(.ref b4)])) rfl (hb hby d1_64) (by decide) (by decide)
        obtain ⟨b591, g591⟩ : ∃ z, z = T7.heap.size := ⟨_, rfl⟩
        rw [← g591] at A591 D591 st591
        have ne591_a1 : a1 ≠ b591 := Nat.ne_of_lt (Nat.lt_of_lt_of_le f9.lt (Nat.le_of_eq g591.symm))
        have ne591_b4 : b4 ≠ b591 := Nat.ne_of_lt (Nat.lt_of_lt_of_le f592.lt (Nat.le_of_eq g591.symm))
        have ne591_w_DEF : w_DEF ≠ b591 := Nat.ne_of_lt (Nat.lt_of_lt_of_le f593.lt (Nat.le_of_eq g591.symm))
        have g_b591 : n0 ≤ b591 := Nat.le_trans Z7 (Nat.le_of_eq g591.symm)
        have sz_b591 : h0.size ≤ b591 := Nat.le_trans K7.1 (Nat.le_of_eq g591.symm)
        have Z591 : n0 ≤ h591.size := Nat.le_trans Z7 E591.1
        have Y591 : kS2 ≤ h591.size := Nat.le_trans Y7 E591.1
        have K591 : Keep h0 h591 [] := K7.ext E591
        have F591_number : Fld Z h591 b591 "com/example/rank_keeper/rankkeeper/BodyLines$Line" "number" "I" (.int 0) := D591 (Or.inr (kw82 hw)) (ty := .int) (by decide)
        have F591_offset : Fld Z h591 b591 "com/example/rank_keeper/rankkeeper/BodyLines$Line" "offset" "I" (.int 0) := D591 (Or.inr (kw84 hw)) (ty := .int) (by decide)
        have F591_length : Fld Z h591 b591 "com/example/rank_keeper/rankkeeper/BodyLines$Line" "length" "I" (.int 0) := D591 (Or.inr (kw86 hw)) (ty := .int) (by decide)
        obtain ⟨_, _, ⟨T594, L594, k594, n594⟩, -, X594, ⟨Lc594, hQ594, l594, y594, z594⟩, st594⟩ := X591.specialBack hx (y := (⟨"com/example/rank_keeper/rankkeeper/BodyLines$Line", "<init>", "(III)V"⟩ : MethodName)) rfl hown (mvT hZ (kw72 hw)) (mvT hZ (kw73 hw)) (mvT hZ (kw74 hw)) (by decide) (backOf (W := 2) (rm13 l Z a0 hw [] b591 (2 : Int32) (1 : Int32) (1 : Int32) h591 n0 Z591 A591 g_b591 F591_number F591_offset F591_length) hZ (kw74 hw) (kw71 hw) (by decide) (by decide)) (g := (mkF m 74 #[.val (.ref a1), .val (.ref b4), .val (.int 2), .val (.int 1), .val (.int 2)] [(.int 1), (.int 1), (.int 2), (.ref b591), (.ref b591), (.ref b4)])) rfl (by rw [hml]; rfl) (Steps.refl _) (a := b591) (argsL := [(.int 2), (.int 1), (.int 1)]) (rest := [(.ref b591), (.ref b4)]) (lenOf pd_13 rfl) rfl (by show 2 * 0 + _ ≤ _; exact Nat.le_of_eq rfl) (hb hby d1_74) (fun _ _ => ⟨rfl, e591, (by decide : 4 + 0 ≤ _), (by decide : 26 + 0 ≤ _)⟩)
        dsimp only [Pt.U, Pt.locs, Pt.cells, Pt.slots] at X594 l594 y594 z594 st594 hQ594
        subst l594 y594 z594
        obtain ⟨rfl, N594q, Kq594, p594_0, p594_1, p594_2⟩ := hQ594
        have N594 := Fr.app N588 N594q
        have Z594 : n0 ≤ T594.heap.size := Nat.le_trans Z591 Kq594.1
        have Y594 : kS2 ≤ T594.heap.size := Nat.le_trans Y591 Kq594.1
        have K594 : Keep h0 T594.heap [] := K591.trans Kq594 (allS (Or.inr sz_b591) all0)
        have f596 := (((f8.keep Kq7 (allS g_b4 all0)).ext E591).keep Kq594 (allS g_b591 all0))
        have f597 := ((f592.ext E591).keep Kq594)
        have f598 := (A591.keep Kq594)
        have f599 := ((p7_1.ext E591).keep Kq594 (ninS ne591_b4 nin0))
        have f600 := ((p7_2.ext E591).keep Kq594 (ninS ne591_b4 nin0))
        have f601 := ((p7_0.ext E591).keep Kq594 (ninS ne591_b4 nin0))
        have f602 := ((f593.ext E591).keep Kq594 (ninS ne591_w_DEF nin0))
        have f603 := ((f9.ext E591).keep Kq594 (ninS ne591_a1 nin0))
        obtain ⟨cq595, kq595, q595a, q595b, q595c⟩ := isOf hZ rfl f597
        obtain ⟨_, _, ⟨T595, L595, k595, n595⟩, -, X595, ⟨Lc595, hQ595, l595, y595, z595⟩, st595⟩ := X594.interfaceBack hx (xi := (⟨"java/util/List", "add", "(Ljava/lang/Object;)Z"⟩ : MethodName)) (y := (⟨"java/util/ArrayList", "add", "(Ljava/lang/Object;)Z"⟩ : MethodName)) hown (mvT hZ (kw87 hw)) (mvT hZ (kw88 hw)) (mvT hZ (kw89 hw)) (mvT hZ (kw90 hw)) (mvT hZ (kw91 hw)) (mvT hZ (kw92 hw)) (mvT hZ (kw93 hw)) (mvT hZ (kw56 hw)) (by decide) (backOf (W := 0) (rmAdd0 l Z a0 hw [] b4 b591 w_DEF kD (0 : Int32) T594.heap n0 Z594 f596 P1 f597 g_b4 f598 f599 f600 f601 f602 ne4_w_DEF) hZ (kw94 hw) (kw18 hw) (by decide) (by decide)) q595a q595b q595c (g := (mkF m 77 #[.val (.ref a1), .val (.ref b4), .val (.int 2), .val (.int 1), .val (.int 2)] [(.ref b591), (.ref b4)])) rfl (by rw [hml]; rfl) (Steps.refl _) (argsL := [(.ref b591)]) (rest := []) (lenOf pd_14 rfl) rfl (by show 2 * 0 + _ ≤ _; exact Nat.le_of_eq rfl) (hb hby d1_77) (fun _ _ => ⟨rfl, rfl, (by decide : 4 + 1 ≤ _), (by decide : 26 + 10 ≤ _)⟩)
        dsimp only [Pt.U, Pt.locs, Pt.cells, Pt.slots] at X595 l595 y595 z595 st595 hQ595
        subst l595 y595 z595
        obtain ⟨ed_595, kd_595, rfl, N595q, Kq595, p595_0, p595_1, p595_2, p595_3, p595_4, p595_5, p595_6⟩ := hQ595
        have N595 := Fr.app N594 N595q
        have Z595 : n0 ≤ T595.heap.size := Nat.le_trans Z594 Kq595.1
        have Y595 : kS2 ≤ T595.heap.size := Nat.le_trans Y594 Kq595.1
        have K595 : Keep h0 T595.heap [] := K594.trans Kq595 (allS (Or.inr sz_b4) all0)
        have sz_ed_595 : h0.size ≤ ed_595 := Nat.le_trans K594.1 p595_1
        have ne595_a1_ed_595 : a1 ≠ ed_595 := Nat.ne_of_lt (Nat.lt_of_lt_of_le f603.lt p595_1)
        have ne595_b4_ed_595 : b4 ≠ ed_595 := Nat.ne_of_lt (Nat.lt_of_lt_of_le f597.lt p595_1)
        have ne595_b591_ed_595 : b591 ≠ ed_595 := Nat.ne_of_lt (Nat.lt_of_lt_of_le f598.lt p595_1)
        have ne595_w_DEF_ed_595 : w_DEF ≠ ed_595 := Nat.ne_of_lt (Nat.lt_of_lt_of_le f602.lt p595_1)
        have f604 := (f603.keep Kq595 (ninS ne4_a1 nin0))
        obtain ⟨cl605, Ar605, -, S605, N605', -, -⟩ := id f604
        have pre606 : ∀ t, Steps p.tables e below (T595.setTop (mkF m 22 #[.val (.ref a1), .val (.ref b4), .val (.int 2), .val (.int 3), .val (.int 2)] [(.int nn), (.int 3)])) t → Steps p.tables e below (s₁.setTop (entryFrame m #[(.ref a1)] 5)) t := fun t k => pre589 t (by
          refine XS.ifNo X588.here hx rfl (hb hby d1_60) rfl ((if0 _ _).trans (teq hc590).2) ?_
          refine XS.aloadN X588.here hx rfl (hb hby d1_63) rfl rfl ?_
          refine st591 _ ?_
          refine XS.dup X591.here hx rfl (hb hby d1_67) rfl rfl ?_
          refine XS.iloadN X591.here hx rfl (hb hby d1_68) rfl ?_
          refine XS.iloadN X591.here hx rfl (hb hby d1_69) rfl ?_
          refine XS.iload X591.here hx rfl (hb hby d1_70) rfl ?_
          refine XS.iloadN X591.here hx rfl (hb hby d1_72) rfl ?_
          refine XS.isub X591.here hx rfl (hb hby d1_73) rfl ?_
          refine st594.trans ?_
          refine st595.trans ?_
          refine XS.pop X595.here hx rfl (hb hby d1_82) rfl rfl ?_
          refine XS.iload X595.here hx rfl (hb hby d1_83) rfl ?_
          refine XS.iconst X595.here hx rfl (hb hby d1_85) ?_
          refine XS.iadd X595.here hx rfl (hb hby d1_86) rfl ?_
          refine XS.istoreN X595.here hx rfl (hb hby d1_87) rfl (l' := #[.val (.ref a1), .val (.ref b4), .val (.int 2), .val (.int 3), .val (.int 2)]) rfl ?_
          refine XS.goto X595.here hx rfl (pc0 := 88) (pc' := 19) rfl (hb hby d1_88) (by decide) (by decide) ?_
          refine XS.iloadN X595.here hx rfl (hb hby d1_19) rfl ?_
          refine XS.aloadN X595.here hx rfl (hb hby d1_20) rfl rfl ?_
          refine X595.arraylength hx Ar605.1 (State.isArrayOf_alike hZ.alike Ar605.2.1) (g := (mkF m 21 #[.val (.ref a1), .val (.ref b4), .val (.int 2), .val (.int 3), .val (.int 2)] [(.ref a1), (.int 3)])) rfl rfl (hb hby d1_21) _ ?_
          rw [len_of S605 N605']
          exact k)
        by_cases hc607 : (3 : Int32) < nn
        ·skip
         have pre608 : ∀ t, Steps p.tables e below (T595.setTop (mkF m 31 #[.val (.ref a1), .val (.ref b4), .val (.int 3), .val (.int 3), .val (.int 3)] [])) t → Steps p.tables e below (s₁.setTop (entryFrame m #[(.ref a1)] 5)) t := fun t k => pre606 t (by
           refine XS.icmpNo X595.here hx rfl (hb hby d1_22) rfl (tlt hc607).2.1 ?_
           refine XS.iinc X595.here hx rfl (hb hby d1_25) rfl (l' := #[.val (.ref a1), .val (.ref b4), .val (.int 3), .val (.int 3), .val (.int 2)]) rfl ?_
           refine XS.iloadN X595.here hx rfl (hb hby d1_28) rfl ?_
           refine XS.istore X595.here hx rfl (hb hby d1_29) rfl (l' := #[.val (.ref a1), .val (.ref b4), .val (.int 3), .val (.int 3), .val (.int 3)]) rfl ?_
           exact k)
         by_cases hc609 : (3 : Int32) < nn ∧ ¬ (own_b b0 b1 b2 b3 (3 : Int32)) = (10 : Int32)
         ·skip
          obtain ⟨cl610, Ar610, -, S610, N610', -, -⟩ := id f604
          obtain ⟨cl611, Ar611, q611, S611, N611', H611, G611⟩ := id f604
          have hin611 : ¬ ((3 : Int32) < 0 ∨ cl611.slots.size ≤ ((3 : Int32)).toNatClampNeg) := inb_of S611 ⟨by decide, hc609.1⟩
          have hat611 : cl611.slots[((3 : Int32)).toNatClampNeg]? = some (.int (own_b b0 b1 b2 b3 (3 : Int32))) := H611.at hin611 (own_is_getD _ _)
          obtain ⟨cl612, Ar612, -, S612, N612', -, -⟩ := id f604
          obtain ⟨_, _, ⟨T613, L613, k613, n613⟩, -, X613, ⟨Lc613, hQ613, l613, y613, z613⟩, st613⟩ := Jvm.LawKit.callS X595 hx (y := (⟨"com/example/rank_keeper/rankkeeper/BodyLines", "isBlank", "([BII)Z"⟩ : MethodName)) hown (mvT hZ (kw66 hw)) (mvT hZ (kw67 hw)) (mvT hZ (kw3 hw)) (mvT hZ (kw68 hw)) (by decide) (backOf (W := 0) (rmBl_3 l Z a0 hw [] a1 (4 : Int32) nn b0 b1 b2 b3 kk T595.heap n0 Z595 f604 hn (own_lt1 hc609.1 (by decide))) hZ (kw68 hw) (kw3 hw) (by decide) (by decide)) (g := (mkF m 57 #[.val (.ref a1), .val (.ref b4), .val (.int 3), .val (.int 3), .val (.int 4)] [(.int 4), (.int 3), (.ref a1)])) rfl (by rw [hml]; rfl) (argsL := [(.ref a1), (.int 3), (.int 4)]) (rest := []) (lenOf pd_3 rfl) rfl (by show 2 * 0 + _ ≤ _; exact Nat.le_of_eq rfl) (hb hby d1_57) (fun _ _ => ⟨rfl, rfl, (by decide : 5 + 0 ≤ _), (by decide : 36 + 0 ≤ _)⟩)
          dsimp only [Pt.U, Pt.locs, Pt.cells, Pt.slots] at X613 l613 y613 z613 st613 hQ613
          subst l613 y613 z613
          obtain ⟨rfl, N613q, e613⟩ := hQ613
          have N613 := Fr.app N595 N613q
          have pre614 : ∀ t, Steps p.tables e below (T613.setTop (mkF m 60 #[.val (.ref a1), .val (.ref b4), .val (.int 3), .val (.int 3), .val (.int 4)] [(.int (own_bl_3 b0 b1 b2 b3 (4 : Int32)))])) t → Steps p.tables e below (s₁.setTop (entryFrame m #[(.ref a1)] 5)) t := fun t k => pre608 t (by
            refine XS.iload X595.here hx rfl (hb hby d1_31) rfl ?_
            refine XS.aloadN X595.here hx rfl (hb hby d1_33) rfl rfl ?_
            refine X595.arraylength hx Ar610.1 (State.isArrayOf_alike hZ.alike Ar610.2.1) (g := (mkF m 34 #[.val (.ref a1), .val (.ref b4), .val (.int 3), .val (.int 3), .val (.int 3)] [(.ref a1), (.int 3)])) rfl rfl (hb hby d1_34) _ ?_
            rw [len_of S610 N610']
            refine XS.icmpNo X595.here hx rfl (hb hby d1_35) rfl (tlt hc609.1).2.1 ?_
            refine XS.aloadN X595.here hx rfl (hb hby d1_38) rfl rfl ?_
            refine XS.iload X595.here hx rfl (hb hby d1_39) rfl ?_
            refine X595.baloadBytes hx (j := (3 : Int32)) (v := (.int (own_b b0 b1 b2 b3 (3 : Int32)))) Ar611.1 (State.isArrayOf_alike hZ.alike Ar611.2.1) Ar611.2.2 hin611 hat611 (g := (mkF m 41 #[.val (.ref a1), .val (.ref b4), .val (.int 3), .val (.int 3), .val (.int 3)] [(.int 3), (.ref a1)])) rfl rfl (hb hby d1_41) _ ?_
            refine XS.bipush X595.here hx rfl (hb hby d1_42) ?_
            refine XS.icmpNo X595.here hx rfl (hb hby d1_44) rfl (feq hc609.2).1 ?_
            refine XS.iinc X595.here hx rfl (hb hby d1_47) rfl (l' := #[.val (.ref a1), .val (.ref b4), .val (.int 3), .val (.int 3), .val (.int 4)]) rfl ?_
            refine XS.goto X595.here hx rfl (pc0 := 50) (pc' := 31) rfl (hb hby d1_50) (by decide) (by decide) ?_
            refine XS.iload X595.here hx rfl (hb hby d1_31) rfl ?_
            refine XS.aloadN X595.here hx rfl (hb hby d1_33) rfl rfl ?_
            refine X595.arraylength hx Ar612.1 (State.isArrayOf_alike hZ.alike Ar612.2.1) (g := (mkF m 34 #[.val (.ref a1), .val (.ref b4), .val (.int 3), .val (.int 3), .val (.int 4)] [(.ref a1), (.int 4)])) rfl rfl (hb hby d1_34) _ ?_
            rw [len_of S612 N612']
            refine XS.icmpYes X595.here hx rfl (pc0 := 35) (pc' := 53) rfl (hb hby d1_35) rfl (flt (own_ge4 hn (by decide))).2.1 (by decide) (by decide) ?_
            refine XS.aloadN X595.here hx rfl (hb hby d1_53) rfl rfl ?_
            refine XS.iloadN X595.here hx rfl (hb hby d1_54) rfl ?_
            refine XS.iload X595.here hx rfl (hb hby d1_55) rfl ?_
            refine st613 _ ?_
            exact k)
          by_cases hc615 : (own_bl_3 b0 b1 b2 b3 (4 : Int32)) = (0 : Int32)
          ·skip
           have f617 := (f597.keep Kq595)
           have f618 := (f598.keep Kq595)
           have f619 := (f602.keep Kq595 (ninS ne4_w_DEF nin0))
           obtain ⟨T616, h616, X616, e616, E616, A616, D616, -, st616⟩ := newO X613 hx hZ hown (kw69 hw) (kw70 hw) (kw71 hw) e613 (g := (mkF m 64 #[.val (.ref a1), .val (.ref b4), .val (.int 3), .val (.int 3), .val (.int 4)] [(.ref b4)])) rfl (hb hby d1_64) (by decide) (by decide)
           obtain ⟨b616, g616⟩ : ∃ z, z = T595.heap.size := ⟨_, rfl⟩
           rw [← g616] at A616 D616 st616
           have ne616_a1 : a1 ≠ b616 := Nat.ne_of_lt (Nat.lt_of_lt_of_le f604.lt (Nat.le_of_eq g616.symm))
           have ne616_b4 : b4 ≠ b616 := Nat.ne_of_lt (Nat.lt_of_lt_of_le f617.lt (Nat.le_of_eq g616.symm))
           have ne616_b591 : b591 ≠ b616 := Nat.ne_of_lt (Nat.lt_of_lt_of_le f618.lt (Nat.le_of_eq g616.symm))
           have ne616_ed_595 : ed_595 ≠ b616 := Nat.ne_of_lt (Nat.lt_of_lt_of_le p595_2.lt (Nat.le_of_eq g616.symm))
           have ne616_w_DEF : w_DEF ≠ b616 := Nat.ne_of_lt (Nat.lt_of_lt_of_le f619.lt (Nat.le_of_eq g616.symm))
           have g_b616 : n0 ≤ b616 := Nat.le_trans Z595 (Nat.le_of_eq g616.symm)
           have sz_b616 : h0.size ≤ b616 := Nat.le_trans K595.1 (Nat.le_of_eq g616.symm)
           have Z616 : n0 ≤ h616.size := Nat.le_trans Z595 E616.1
           have Y616 : kS2 ≤ h616.size := Nat.le_trans Y595 E616.1
           have K616 : Keep h0 h616 [] := K595.ext E616
           have F616_number : Fld Z h616 b616 "com/example/rank_keeper/rankkeeper/BodyLines$Line" "number" "I" (.int 0) := D616 (Or.inr (kw82 hw)) (ty := .int) (by decide)
           have F616_offset : Fld Z h616 b616 "com/example/rank_keeper/rankkeeper/BodyLines$Line" "offset" "I" (.int 0) := D616 (Or.inr (kw84 hw)) (ty := .int) (by decide)
           have F616_length : Fld Z h616 b616 "com/example/rank_keeper/rankkeeper/BodyLines$Line" "length" "I" (.int 0) := D616 (Or.inr (kw86 hw)) (ty := .int) (by decide)
           obtain ⟨_, _, ⟨T620, L620, k620, n620⟩, -, X620, ⟨Lc620, hQ620, l620, y620, z620⟩, st620⟩ := X616.specialBack hx (y := (⟨"com/example/rank_keeper/rankkeeper/BodyLines$Line", "<init>", "(III)V"⟩ : MethodName)) rfl hown (mvT hZ (kw72 hw)) (mvT hZ (kw73 hw)) (mvT hZ (kw74 hw)) (by decide) (backOf (W := 2) (rm13 l Z a0 hw [] b616 (3 : Int32) (3 : Int32) (1 : Int32) h616 n0 Z616 A616 g_b616 F616_number F616_offset F616_length) hZ (kw74 hw) (kw71 hw) (by decide) (by decide)) (g := (mkF m 74 #[.val (.ref a1), .val (.ref b4), .val (.int 3), .val (.int 3), .val (.int 4)] [(.int 1), (.int 3), (.int 3), (.ref b616), (.ref b616), (.ref b4)])) rfl (by rw [hml]; rfl) (Steps.refl _) (a := b616) (argsL := [(.int 3), (.int 3), (.int 1)]) (rest := [(.ref b616), (.ref b4)]) (lenOf pd_13 rfl) rfl (by show 2 * 0 + _ ≤ _; exact Nat.le_of_eq rfl) (hb hby d1_74) (fun _ _ => ⟨rfl, e616, (by decide : 6 + 0 ≤ _), (by decide : 39 + 0 ≤ _)⟩)
           dsimp only [Pt.U, Pt.locs, Pt.cells, Pt.slots] at X620 l620 y620 z620 st620 hQ620
           subst l620 y620 z620
           obtain ⟨rfl, N620q, Kq620, p620_0, p620_1, p620_2⟩ := hQ620
           have N620 := Fr.app N613 N620q
           have Z620 : n0 ≤ T620.heap.size := Nat.le_trans Z616 Kq620.1
           have Y620 : kS2 ≤ T620.heap.size := Nat.le_trans Y616 Kq620.1
           have K620 : Keep h0 T620.heap [] := K616.trans Kq620 (allS (Or.inr sz_b616) all0)
           have f622 := ((f617.ext E616).keep Kq620)
           have f623 := (A616.keep Kq620)
           have f624 := ((p595_3.ext E616).keep Kq620 (ninS ne616_b4 nin0))
           have f625 := ((p595_4.ext E616).keep Kq620 (ninS ne616_b4 nin0))
           have f626 := ((p595_5.ext E616).keep Kq620 (ninS ne616_b4 nin0))
           have f627 := ((p595_2.ext E616).keep Kq620 (ninS ne616_ed_595 nin0))
           obtain ⟨cq621, kq621, q621a, q621b, q621c⟩ := isOf hZ rfl f622
           obtain ⟨_, _, ⟨T621, L621, k621, n621⟩, -, X621, ⟨Lc621, hQ621, l621, y621, z621⟩, st621⟩ := X620.interfaceBack hx (xi := (⟨"java/util/List", "add", "(Ljava/lang/Object;)Z"⟩ : MethodName)) (y := (⟨"java/util/ArrayList", "add", "(Ljava/lang/Object;)Z"⟩ : MethodName)) hown (mvT hZ (kw87 hw)) (mvT hZ (kw88 hw)) (mvT hZ (kw89 hw)) (mvT hZ (kw90 hw)) (mvT hZ (kw91 hw)) (mvT hZ (kw92 hw)) (mvT hZ (kw93 hw)) (mvT hZ (kw56 hw)) (by decide) (backOf (W := 0) (rmAdd1 l Z a0 hw [] b4 b616 ed_595 kd_595 ((0 : Int32) + (1 : Int32)) b591 T620.heap n0 Z620 f622 g_b4 f623 f624 f625 f626 f627 p595_0 (Ne.symm ne595_b4_ed_595) p595_6) hZ (kw94 hw) (kw18 hw) (by decide) (by decide)) q621a q621b q621c (g := (mkF m 77 #[.val (.ref a1), .val (.ref b4), .val (.int 3), .val (.int 3), .val (.int 4)] [(.ref b616), (.ref b4)])) rfl (by rw [hml]; rfl) (Steps.refl _) (argsL := [(.ref b616)]) (rest := []) (lenOf pd_14 rfl) rfl (by show 2 * 0 + _ ≤ _; exact Nat.le_of_eq rfl) (hb hby d1_77) (fun _ _ => ⟨rfl, rfl, (by decide : 6 + 0 ≤ _), (by decide : 39 + 0 ≤ _)⟩)
           dsimp only [Pt.U, Pt.locs, Pt.cells, Pt.slots] at X621 l621 y621 z621 st621 hQ621
           subst l621 y621 z621
           obtain ⟨rfl, N621q, Kq621, p621_0, p621_1, p621_2, p621_3⟩ := hQ621
           have N621 := Fr.app N620 N621q
           have Z621 : n0 ≤ T621.heap.size := Nat.le_trans Z620 Kq621.1
           have Y621 : kS2 ≤ T621.heap.size := Nat.le_trans Y620 Kq621.1
           have K621 : Keep h0 T621.heap [] := K620.trans Kq621 (allS (Or.inr sz_b4) (allS (Or.inr sz_ed_595) all0))
           have f628 := (((f604.ext E616).keep Kq620 (ninS ne616_a1 nin0)).keep Kq621 (ninS ne4_a1 (ninS ne595_a1_ed_595 nin0)))
           obtain ⟨cl629, Ar629, -, S629, N629', -, -⟩ := id f628
           have hsp : own_split nn b0 b1 b2 b3 = [((2 : Int32), (1 : Int32), (1 : Int32)), ((3 : Int32), (3 : Int32), (1 : Int32))] := by unfold own_split; rw [if_pos hc12, if_neg hc14, if_pos hc510, if_pos hc512, if_neg hc516, if_pos hc590, if_pos hc607, if_pos hc609, if_pos hc615]
           have f630 := (f622.keep Kq621)
           have f631 := (((f618.ext E616).keep Kq620).keep Kq621)
           have f632 := ((((p594_0.keep Kq595 (ninS (Ne.symm ne591_b4) nin0)).ext E616).keep Kq620 (ninS ne616_b591 nin0)).keep Kq621 (ninS (Ne.symm ne591_b4) (ninS ne595_b591_ed_595 nin0)))
           have f633 := ((((p594_1.keep Kq595 (ninS (Ne.symm ne591_b4) nin0)).ext E616).keep Kq620 (ninS ne616_b591 nin0)).keep Kq621 (ninS (Ne.symm ne591_b4) (ninS ne595_b591_ed_595 nin0)))
           have f634 := ((((p594_2.keep Kq595 (ninS (Ne.symm ne591_b4) nin0)).ext E616).keep Kq620 (ninS ne616_b591 nin0)).keep Kq621 (ninS (Ne.symm ne591_b4) (ninS ne595_b591_ed_595 nin0)))
           have f635 := (f623.keep Kq621)
           have f636 := (p620_0.keep Kq621 (ninS (Ne.symm ne616_b4) (ninS (Ne.symm ne616_ed_595) nin0)))
           have f637 := (p620_1.keep Kq621 (ninS (Ne.symm ne616_b4) (ninS (Ne.symm ne616_ed_595) nin0)))
           have f638 := (p620_2.keep Kq621 (ninS (Ne.symm ne616_b4) (ninS (Ne.symm ne616_ed_595) nin0)))
           obtain ⟨fs, hr, hrun, hended, hRE⟩ := X621.leaveW hS2 Y621 (v := some (.ref b4)) (fun h => by rw [Bd.returns] at h; cases h)
           refine ⟨_, _, pre614 _ ?_, hrun, hended, _, _, rfl, ?_, hRE.1, hRE.2.1, hRE.2.2.1, hRE.2.2.2.mono (by decide) (by decide)⟩
           · skip
             refine XS.ifNo X613.here hx rfl (hb hby d1_60) rfl ((if0 _ _).trans (teq hc615).2) ?_
             refine XS.aloadN X613.here hx rfl (hb hby d1_63) rfl rfl ?_
             refine st616 _ ?_
             refine XS.dup X616.here hx rfl (hb hby d1_67) rfl rfl ?_
             refine XS.iloadN X616.here hx rfl (hb hby d1_68) rfl ?_
             refine XS.iloadN X616.here hx rfl (hb hby d1_69) rfl ?_
             refine XS.iload X616.here hx rfl (hb hby d1_70) rfl ?_
             refine XS.iloadN X616.here hx rfl (hb hby d1_72) rfl ?_
             refine XS.isub X616.here hx rfl (hb hby d1_73) rfl ?_
             refine st620.trans ?_
             refine st621.trans ?_
             refine XS.pop X621.here hx rfl (hb hby d1_82) rfl rfl ?_
             refine XS.iload X621.here hx rfl (hb hby d1_83) rfl ?_
             refine XS.iconst X621.here hx rfl (hb hby d1_85) ?_
             refine XS.iadd X621.here hx rfl (hb hby d1_86) rfl ?_
             refine XS.istoreN X621.here hx rfl (hb hby d1_87) rfl (l' := #[.val (.ref a1), .val (.ref b4), .val (.int 3), .val (.int 5), .val (.int 4)]) rfl ?_
             refine XS.goto X621.here hx rfl (pc0 := 88) (pc' := 19) rfl (hb hby d1_88) (by decide) (by decide) ?_
             refine XS.iloadN X621.here hx rfl (hb hby d1_19) rfl ?_
             refine XS.aloadN X621.here hx rfl (hb hby d1_20) rfl rfl ?_
             refine X621.arraylength hx Ar629.1 (State.isArrayOf_alike hZ.alike Ar629.2.1) (g := (mkF m 21 #[.val (.ref a1), .val (.ref b4), .val (.int 3), .val (.int 5), .val (.int 4)] [(.ref a1), (.int 5)])) rfl rfl (hb hby d1_21) _ ?_
             rw [len_of S629 N629']
             refine XS.icmpYes X621.here hx rfl (pc0 := 22) (pc' := 91) rfl (hb hby d1_22) rfl (flt (own_ge4 hn (by decide))).2.1 (by decide) (by decide) ?_
             refine XS.aloadN X621.here hx rfl (hb hby d1_91) rfl rfl ?_
             show Steps p.tables e below (T621.setTop (mkF m 92 #[.val (.ref a1), .val (.ref b4), .val (.int 3), .val (.int 5), .val (.int 4)] [(.ref b4)])) _
             jvm_step X621.here [X621.here.top, hx, (hb hby d1_92), X621.method', Bd.returns, Value.isRef, FieldType.isReference]
             first | (intro acts; rw [hr _ acts rfl rfl rfl]) | rw [hr _ _ rfl rfl rfl]
             exact Steps.refl _
           · show Q_rmSplit Z a1 nn b0 b1 b2 b3 kk w_DEF kD h0 n0 _ T621.heap _
             exact ⟨b4, rfl, N621, K621, g_b4, sz_b4, f630, (by rw [hsp]; exact p621_2), (by rw [hsp]; exact own_lines2 p621_3 p621_0 f631 f632 f633 f634 f635 f636 f637 f638)⟩
          ·skip
           obtain ⟨cl640, Ar640, -, S640, N640', -, -⟩ := id f604
           have hsp : own_split nn b0 b1 b2 b3 = [((2 : Int32), (1 : Int32), (1 : Int32))] := by unfold own_split; rw [if_pos hc12, if_neg hc14, if_pos hc510, if_pos hc512, if_neg hc516, if_pos hc590, if_pos hc607, if_pos hc609, if_neg hc615]
           have f641 := (f597.keep Kq595)
           have f642 := (f598.keep Kq595)
           have f643 := (p594_0.keep Kq595 (ninS (Ne.symm ne591_b4) nin0))
           have f644 := (p594_1.keep Kq595 (ninS (Ne.symm ne591_b4) nin0))
           have f645 := (p594_2.keep Kq595 (ninS (Ne.symm ne591_b4) nin0))
           obtain ⟨fs, hr, hrun, hended, hRE⟩ := X613.leaveW hS2 (by rw [e613]; exact Y595) (v := some (.ref b4)) (fun h => by rw [Bd.returns] at h; cases h)
           refine ⟨_, _, pre614 _ ?_, hrun, hended, _, _, rfl, ?_, hRE.1, hRE.2.1, hRE.2.2.1, hRE.2.2.2.mono (by decide) (by decide)⟩
           · skip
             refine XS.ifYes X613.here hx rfl (pc0 := 60) (pc' := 83) rfl (hb hby d1_60) rfl ((if0 _ _).trans (feq hc615).2) (by decide) (by decide) ?_
             refine XS.iload X613.here hx rfl (hb hby d1_83) rfl ?_
             refine XS.iconst X613.here hx rfl (hb hby d1_85) ?_
             refine XS.iadd X613.here hx rfl (hb hby d1_86) rfl ?_
             refine XS.istoreN X613.here hx rfl (hb hby d1_87) rfl (l' := #[.val (.ref a1), .val (.ref b4), .val (.int 3), .val (.int 5), .val (.int 4)]) rfl ?_
             refine XS.goto X613.here hx rfl (pc0 := 88) (pc' := 19) rfl (hb hby d1_88) (by decide) (by decide) ?_
             refine XS.iloadN X613.here hx rfl (hb hby d1_19) rfl ?_
             refine XS.aloadN X613.here hx rfl (hb hby d1_20) rfl rfl ?_
             refine X613.arraylength hx (by rw [e613]; exact Ar640.1) (State.isArrayOf_alike hZ.alike Ar640.2.1) (g := (mkF m 21 #[.val (.ref a1), .val (.ref b4), .val (.int 3), .val (.int 5), .val (.int 4)] [(.ref a1), (.int 5)])) rfl rfl (hb hby d1_21) _ ?_
             rw [len_of S640 N640']
             refine XS.icmpYes X613.here hx rfl (pc0 := 22) (pc' := 91) rfl (hb hby d1_22) rfl (flt (own_ge4 hn (by decide))).2.1 (by decide) (by decide) ?_
             refine XS.aloadN X613.here hx rfl (hb hby d1_91) rfl rfl ?_
             show Steps p.tables e below (T613.setTop (mkF m 92 #[.val (.ref a1), .val (.ref b4), .val (.int 3), .val (.int 5), .val (.int 4)] [(.ref b4)])) _
             jvm_step X613.here [X613.here.top, hx, (hb hby d1_92), X613.method', Bd.returns, Value.isRef, FieldType.isReference]
             first | (intro acts; rw [hr _ acts rfl rfl rfl]) | rw [hr _ _ rfl rfl rfl]
             exact Steps.refl _
           · show Q_rmSplit Z a1 nn b0 b1 b2 b3 kk w_DEF kD h0 n0 _ T613.heap _
             rw [e613]
             exact ⟨b4, rfl, N613, K595, g_b4, sz_b4, f641, (by rw [hsp]; exact p595_4), (by rw [hsp]; exact own_lines1 p595_5 p595_2 f642 f643 f644 f645)⟩
         ·skip
          obtain ⟨cl647, Ar647, -, S647, N647', -, -⟩ := id f604
          obtain ⟨cl648, Ar648, q648, S648, N648', H648, G648⟩ := id f604
          have hin648 : ¬ ((3 : Int32) < 0 ∨ cl648.slots.size ≤ ((3 : Int32)).toNatClampNeg) := inb_of S648 ⟨by decide, hc607⟩
          have hat648 : cl648.slots[((3 : Int32)).toNatClampNeg]? = some (.int (own_b b0 b1 b2 b3 (3 : Int32))) := H648.at hin648 (own_is_getD _ _)
          obtain ⟨_, _, ⟨T649, L649, k649, n649⟩, -, X649, ⟨Lc649, hQ649, l649, y649, z649⟩, st649⟩ := Jvm.LawKit.callS X595 hx (y := (⟨"com/example/rank_keeper/rankkeeper/BodyLines", "isBlank", "([BII)Z"⟩ : MethodName)) hown (mvT hZ (kw66 hw)) (mvT hZ (kw67 hw)) (mvT hZ (kw3 hw)) (mvT hZ (kw68 hw)) (by decide) (backOf (W := 0) (rmBl_3 l Z a0 hw [] a1 (3 : Int32) nn b0 b1 b2 b3 kk T595.heap n0 Z595 f604 hn (own_lt1 hc607 (by decide))) hZ (kw68 hw) (kw3 hw) (by decide) (by decide)) (g := (mkF m 57 #[.val (.ref a1), .val (.ref b4), .val (.int 3), .val (.int 3), .val (.int 3)] [(.int 3), (.int 3), (.ref a1)])) rfl (by rw [hml]; rfl) (argsL := [(.ref a1), (.int 3), (.int 3)]) (rest := []) (lenOf pd_3 rfl) rfl (by show 2 * 0 + _ ≤ _; exact Nat.le_of_eq rfl) (hb hby d1_57) (fun _ _ => ⟨rfl, rfl, (by decide : 5 + 0 ≤ _), (by decide : 36 + 0 ≤ _)⟩)
          dsimp only [Pt.U, Pt.locs, Pt.cells, Pt.slots] at X649 l649 y649 z649 st649 hQ649
          subst l649 y649 z649
          obtain ⟨rfl, N649q, e649⟩ := hQ649
          have N649 := Fr.app N595 N649q
          obtain ⟨cl650, Ar650, -, S650, N650', -, -⟩ := id f604
          have hsp : own_split nn b0 b1 b2 b3 = [((2 : Int32), (1 : Int32), (1 : Int32))] := by unfold own_split; rw [if_pos hc12, if_neg hc14, if_pos hc510, if_pos hc512, if_neg hc516, if_pos hc590, if_pos hc607, if_neg hc609]
          have f651 := (f597.keep Kq595)
          have f652 := (f598.keep Kq595)
          have f653 := (p594_0.keep Kq595 (ninS (Ne.symm ne591_b4) nin0))
          have f654 := (p594_1.keep Kq595 (ninS (Ne.symm ne591_b4) nin0))
          have f655 := (p594_2.keep Kq595 (ninS (Ne.symm ne591_b4) nin0))
          obtain ⟨fs, hr, hrun, hended, hRE⟩ := X649.leaveW hS2 (by rw [e649]; exact Y595) (v := some (.ref b4)) (fun h => by rw [Bd.returns] at h; cases h)
          refine ⟨_, _, pre608 _ ?_, hrun, hended, _, _, rfl, ?_, hRE.1, hRE.2.1, hRE.2.2.1, hRE.2.2.2.mono (by decide) (by decide)⟩
          · skip
            refine XS.iload X595.here hx rfl (hb hby d1_31) rfl ?_
            refine XS.aloadN X595.here hx rfl (hb hby d1_33) rfl rfl ?_
            refine X595.arraylength hx Ar647.1 (State.isArrayOf_alike hZ.alike Ar647.2.1) (g := (mkF m 34 #[.val (.ref a1), .val (.ref b4), .val (.int 3), .val (.int 3), .val (.int 3)] [(.ref a1), (.int 3)])) rfl rfl (hb hby d1_34) _ ?_
            rw [len_of S647 N647']
            refine XS.icmpNo X595.here hx rfl (hb hby d1_35) rfl (tlt hc607).2.1 ?_
            refine XS.aloadN X595.here hx rfl (hb hby d1_38) rfl rfl ?_
            refine XS.iload X595.here hx rfl (hb hby d1_39) rfl ?_
            refine X595.baloadBytes hx (j := (3 : Int32)) (v := (.int (own_b b0 b1 b2 b3 (3 : Int32)))) Ar648.1 (State.isArrayOf_alike hZ.alike Ar648.2.1) Ar648.2.2 hin648 hat648 (g := (mkF m 41 #[.val (.ref a1), .val (.ref b4), .val (.int 3), .val (.int 3), .val (.int 3)] [(.int 3), (.ref a1)])) rfl rfl (hb hby d1_41) _ ?_
            refine XS.bipush X595.here hx rfl (hb hby d1_42) ?_
            refine XS.icmpYes X595.here hx rfl (pc0 := 44) (pc' := 53) rfl (hb hby d1_44) rfl (teq (Decidable.byContradiction fun q => hc609 ⟨hc607, q⟩)).1 (by decide) (by decide) ?_
            refine XS.aloadN X595.here hx rfl (hb hby d1_53) rfl rfl ?_
            refine XS.iloadN X595.here hx rfl (hb hby d1_54) rfl ?_
            refine XS.iload X595.here hx rfl (hb hby d1_55) rfl ?_
            refine st649 _ ?_
            refine XS.ifYes X649.here hx rfl (pc0 := 60) (pc' := 83) rfl (hb hby d1_60) rfl ((if0 _ _).trans (feq (own_bls3 b0 b1 b2 b3)).2) (by decide) (by decide) ?_
            refine XS.iload X649.here hx rfl (hb hby d1_83) rfl ?_
            refine XS.iconst X649.here hx rfl (hb hby d1_85) ?_
            refine XS.iadd X649.here hx rfl (hb hby d1_86) rfl ?_
            refine XS.istoreN X649.here hx rfl (hb hby d1_87) rfl (l' := #[.val (.ref a1), .val (.ref b4), .val (.int 3), .val (.int 4), .val (.int 3)]) rfl ?_
            refine XS.goto X649.here hx rfl (pc0 := 88) (pc' := 19) rfl (hb hby d1_88) (by decide) (by decide) ?_
            refine XS.iloadN X649.here hx rfl (hb hby d1_19) rfl ?_
            refine XS.aloadN X649.here hx rfl (hb hby d1_20) rfl rfl ?_
            refine X649.arraylength hx (by rw [e649]; exact Ar650.1) (State.isArrayOf_alike hZ.alike Ar650.2.1) (g := (mkF m 21 #[.val (.ref a1), .val (.ref b4), .val (.int 3), .val (.int 4), .val (.int 3)] [(.ref a1), (.int 4)])) rfl rfl (hb hby d1_21) _ ?_
            rw [len_of S650 N650']
            refine XS.icmpYes X649.here hx rfl (pc0 := 22) (pc' := 91) rfl (hb hby d1_22) rfl (flt (own_ge4 hn (by decide))).2.1 (by decide) (by decide) ?_
            show Steps p.tables e below (T649.setTop (mkF m 91 #[.val (.ref a1), .val (.ref b4), .val (.int 3), .val (.int 4), .val (.int 3)] [])) _
            refine XS.aloadN X649.here hx rfl (hb hby d1_91) rfl rfl ?_
            show Steps p.tables e below (T649.setTop (mkF m 92 #[.val (.ref a1), .val (.ref b4), .val (.int 3), .val (.int 4), .val (.int 3)] [(.ref b4)])) _
            jvm_step X649.here [X649.here.top, hx, (hb hby d1_92), X649.method', Bd.returns, Value.isRef, FieldType.isReference]
            first | (intro acts; rw [hr _ acts rfl rfl rfl]) | rw [hr _ _ rfl rfl rfl]
            exact Steps.refl _
          · show Q_rmSplit Z a1 nn b0 b1 b2 b3 kk w_DEF kD h0 n0 _ T649.heap _
            rw [e649]
            exact ⟨b4, rfl, N649, K595, g_b4, sz_b4, f651, (by rw [hsp]; exact p595_4), (by rw [hsp]; exact own_lines1 p595_5 p595_2 f652 f653 f654 f655)⟩
        ·skip
         have hsp : own_split nn b0 b1 b2 b3 = [((2 : Int32), (1 : Int32), (1 : Int32))] := by unfold own_split; rw [if_pos hc12, if_neg hc14, if_pos hc510, if_pos hc512, if_neg hc516, if_pos hc590, if_neg hc607]
         have f657 := (f597.keep Kq595)
         have f658 := (f598.keep Kq595)
         have f659 := (p594_0.keep Kq595 (ninS (Ne.symm ne591_b4) nin0))
         have f660 := (p594_1.keep Kq595 (ninS (Ne.symm ne591_b4) nin0))
         have f661 := (p594_2.keep Kq595 (ninS (Ne.symm ne591_b4) nin0))
         obtain ⟨fs, hr, hrun, hended, hRE⟩ := X595.leaveW hS2 Y595 (v := some (.ref b4)) (fun h => by rw [Bd.returns] at h; cases h)
         refine ⟨_, _, pre606 _ ?_, hrun, hended, _, _, rfl, ?_, hRE.1, hRE.2.1, hRE.2.2.1, hRE.2.2.2.mono (by decide) (by decide)⟩
         · skip
           refine XS.icmpYes X595.here hx rfl (pc0 := 22) (pc' := 91) rfl (hb hby d1_22) rfl (flt hc607).2.1 (by decide) (by decide) ?_
           refine XS.aloadN X595.here hx rfl (hb hby d1_91) rfl rfl ?_
           show Steps p.tables e below (T595.setTop (mkF m 92 #[.val (.ref a1), .val (.ref b4), .val (.int 2), .val (.int 3), .val (.int 2)] [(.ref b4)])) _
           jvm_step X595.here [X595.here.top, hx, (hb hby d1_92), X595.method', Bd.returns, Value.isRef, FieldType.isReference]
           first | (intro acts; rw [hr _ acts rfl rfl rfl]) | rw [hr _ _ rfl rfl rfl]
           exact Steps.refl _
         · show Q_rmSplit Z a1 nn b0 b1 b2 b3 kk w_DEF kD h0 n0 _ T595.heap _
           exact ⟨b4, rfl, N595, K595, g_b4, sz_b4, f657, (by rw [hsp]; exact p595_4), (by rw [hsp]; exact own_lines1 p595_5 p595_2 f658 f659 f660 f661)⟩
       ·skip
        obtain ⟨cl663, Ar663, -, S663, N663', -, -⟩ := id f9
        have pre664 : ∀ t, Steps p.tables e below (T588.setTop (mkF m 22 #[.val (.ref a1), .val (.ref b4), .val (.int 2), .val (.int 3), .val (.int 2)] [(.int nn), (.int 3)])) t → Steps p.tables e below (s₁.setTop (entryFrame m #[(.ref a1)] 5)) t := fun t k => pre589 t (by
          refine XS.ifYes X588.here hx rfl (pc0 := 60) (pc' := 83) rfl (hb hby d1_60) rfl ((if0 _ _).trans (feq hc590).2) (by decide) (by decide) ?_
          refine XS.iload X588.here hx rfl (hb hby d1_83) rfl ?_
          refine XS.iconst X588.here hx rfl (hb hby d1_85) ?_
          refine XS.iadd X588.here hx rfl (hb hby d1_86) rfl ?_
          refine XS.istoreN X588.here hx rfl (hb hby d1_87) rfl (l' := #[.val (.ref a1), .val (.ref b4), .val (.int 2), .val (.int 3), .val (.int 2)]) rfl ?_
          refine XS.goto X588.here hx rfl (pc0 := 88) (pc' := 19) rfl (hb hby d1_88) (by decide) (by decide) ?_
          refine XS.iloadN X588.here hx rfl (hb hby d1_19) rfl ?_
          refine XS.aloadN X588.here hx rfl (hb hby d1_20) rfl rfl ?_
          refine X588.arraylength hx (by rw [e588]; exact Ar663.1) (State.isArrayOf_alike hZ.alike Ar663.2.1) (g := (mkF m 21 #[.val (.ref a1), .val (.ref b4), .val (.int 2), .val (.int 3), .val (.int 2)] [(.ref a1), (.int 3)])) rfl rfl (hb hby d1_21) _ ?_
          rw [len_of S663 N663']
          exact k)
        by_cases hc665 : (3 : Int32) < nn
        ·skip
         have pre666 : ∀ t, Steps p.tables e below (T588.setTop (mkF m 31 #[.val (.ref a1), .val (.ref b4), .val (.int 3), .val (.int 3), .val (.int 3)] [])) t → Steps p.tables e below (s₁.setTop (entryFrame m #[(.ref a1)] 5)) t := fun t k => pre664 t (by
           refine XS.icmpNo X588.here hx rfl (hb hby d1_22) rfl (tlt hc665).2.1 ?_
           refine XS.iinc X588.here hx rfl (hb hby d1_25) rfl (l' := #[.val (.ref a1), .val (.ref b4), .val (.int 3), .val (.int 3), .val (.int 2)]) rfl ?_
           refine XS.iloadN X588.here hx rfl (hb hby d1_28) rfl ?_
           refine XS.istore X588.here hx rfl (hb hby d1_29) rfl (l' := #[.val (.ref a1), .val (.ref b4), .val (.int 3), .val (.int 3), .val (.int 3)]) rfl ?_
           exact k)
         by_cases hc667 : (3 : Int32) < nn ∧ ¬ (own_b b0 b1 b2 b3 (3 : Int32)) = (10 : Int32)
         ·skip
          obtain ⟨cl668, Ar668, -, S668, N668', -, -⟩ := id f9
          obtain ⟨cl669, Ar669, q669, S669, N669', H669, G669⟩ := id f9
          have hin669 : ¬ ((3 : Int32) < 0 ∨ cl669.slots.size ≤ ((3 : Int32)).toNatClampNeg) := inb_of S669 ⟨by decide, hc667.1⟩
          have hat669 : cl669.slots[((3 : Int32)).toNatClampNeg]? = some (.int (own_b b0 b1 b2 b3 (3 : Int32))) := H669.at hin669 (own_is_getD _ _)
          obtain ⟨cl670, Ar670, -, S670, N670', -, -⟩ := id f9
          obtain ⟨_, _, ⟨T671, L671, k671, n671⟩, -, X671, ⟨Lc671, hQ671, l671, y671, z671⟩, st671⟩ := Jvm.LawKit.callS X588 hx (y := (⟨"com/example/rank_keeper/rankkeeper/BodyLines", "isBlank", "([BII)Z"⟩ : MethodName)) hown (mvT hZ (kw66 hw)) (mvT hZ (kw67 hw)) (mvT hZ (kw3 hw)) (mvT hZ (kw68 hw)) (by decide) (backOf (W := 0) (rmBl_3 l Z a0 hw [] a1 (4 : Int32) nn b0 b1 b2 b3 kk T7.heap n0 Z7 f9 hn (own_lt1 hc667.1 (by decide))) hZ (kw68 hw) (kw3 hw) (by decide) (by decide)) (g := (mkF m 57 #[.val (.ref a1), .val (.ref b4), .val (.int 3), .val (.int 3), .val (.int 4)] [(.int 4), (.int 3), (.ref a1)])) rfl (by rw [hml]; rfl) (argsL := [(.ref a1), (.int 3), (.int 4)]) (rest := []) (lenOf pd_3 rfl) rfl (by show 2 * 0 + _ ≤ _; exact Nat.le_of_eq rfl) (hb hby d1_57) (fun _ _ => ⟨rfl, e588, (by decide : 3 + 0 ≤ _), (by decide : 23 + 0 ≤ _)⟩)
          dsimp only [Pt.U, Pt.locs, Pt.cells, Pt.slots] at X671 l671 y671 z671 st671 hQ671
          subst l671 y671 z671
          obtain ⟨rfl, N671q, e671⟩ := hQ671
          have N671 := Fr.app N588 N671q
          have pre672 : ∀ t, Steps p.tables e below (T671.setTop (mkF m 60 #[.val (.ref a1), .val (.ref b4), .val (.int 3), .val (.int 3), .val (.int 4)] [(.int (own_bl_3 b0 b1 b2 b3 (4 : Int32)))])) t → Steps p.tables e below (s₁.setTop (entryFrame m #[(.ref a1)] 5)) t := fun t k => pre666 t (by
            refine XS.iload X588.here hx rfl (hb hby d1_31) rfl ?_
            refine XS.aloadN X588.here hx rfl (hb hby d1_33) rfl rfl ?_
            refine X588.arraylength hx (by rw [e588]; exact Ar668.1) (State.isArrayOf_alike hZ.alike Ar668.2.1) (g := (mkF m 34 #[.val (.ref a1), .val (.ref b4), .val (.int 3), .val (.int 3), .val (.int 3)] [(.ref a1), (.int 3)])) rfl rfl (hb hby d1_34) _ ?_
            rw [len_of S668 N668']
            refine XS.icmpNo X588.here hx rfl (hb hby d1_35) rfl (tlt hc667.1).2.1 ?_
            refine XS.aloadN X588.here hx rfl (hb hby d1_38) rfl rfl ?_
            refine XS.iload X588.here hx rfl (hb hby d1_39) rfl ?_
            refine X588.baloadBytes hx (j := (3 : Int32)) (v := (.int (own_b b0 b1 b2 b3 (3 : Int32)))) (by rw [e588]; exact Ar669.1) (State.isArrayOf_alike hZ.alike Ar669.2.1) Ar669.2.2 hin669 hat669 (g := (mkF m 41 #[.val (.ref a1), .val (.ref b4), .val (.int 3), .val (.int 3), .val (.int 3)] [(.int 3), (.ref a1)])) rfl rfl (hb hby d1_41) _ ?_
            refine XS.bipush X588.here hx rfl (hb hby d1_42) ?_
            refine XS.icmpNo X588.here hx rfl (hb hby d1_44) rfl (feq hc667.2).1 ?_
            refine XS.iinc X588.here hx rfl (hb hby d1_47) rfl (l' := #[.val (.ref a1), .val (.ref b4), .val (.int 3), .val (.int 3), .val (.int 4)]) rfl ?_
            refine XS.goto X588.here hx rfl (pc0 := 50) (pc' := 31) rfl (hb hby d1_50) (by decide) (by decide) ?_
            refine XS.iload X588.here hx rfl (hb hby d1_31) rfl ?_
            refine XS.aloadN X588.here hx rfl (hb hby d1_33) rfl rfl ?_
            refine X588.arraylength hx (by rw [e588]; exact Ar670.1) (State.isArrayOf_alike hZ.alike Ar670.2.1) (g := (mkF m 34 #[.val (.ref a1), .val (.ref b4), .val (.int 3), .val (.int 3), .val (.int 4)] [(.ref a1), (.int 4)])) rfl rfl (hb hby d1_34) _ ?_
            rw [len_of S670 N670']
            refine XS.icmpYes X588.here hx rfl (pc0 := 35) (pc' := 53) rfl (hb hby d1_35) rfl (flt (own_ge4 hn (by decide))).2.1 (by decide) (by decide) ?_
            refine XS.aloadN X588.here hx rfl (hb hby d1_53) rfl rfl ?_
            refine XS.iloadN X588.here hx rfl (hb hby d1_54) rfl ?_
            refine XS.iload X588.here hx rfl (hb hby d1_55) rfl ?_
            refine st671 _ ?_
            exact k)
          by_cases hc673 : (own_bl_3 b0 b1 b2 b3 (4 : Int32)) = (0 : Int32)
          ·skip
           have f675 := (A4.keep Kq7)
           have f676 := ((f6.ext E4).keep Kq7 (ninS ne4_w_DEF nin0))
           obtain ⟨T674, h674, X674, e674, E674, A674, D674, -, st674⟩ := newO X671 hx hZ hown (kw69 hw) (kw70 hw) (kw71 hw) e671 (g := (mkF m 64 #[.val (.ref a1), .val (.ref b4), .val (.int 3), .val (.int 3), .val (.int 4)] [(.ref b4)])) rfl (hb hby d1_64) (by decide) (by decide)
           obtain ⟨b674, g674⟩ : ∃ z, z = T7.heap.size := ⟨_, rfl⟩
           rw [← g674] at A674 D674 st674
           have ne674_a1 : a1 ≠ b674 := Nat.ne_of_lt (Nat.lt_of_lt_of_le f9.lt (Nat.le_of_eq g674.symm))
           have ne674_b4 : b4 ≠ b674 := Nat.ne_of_lt (Nat.lt_of_lt_of_le f675.lt (Nat.le_of_eq g674.symm))
           have ne674_w_DEF : w_DEF ≠ b674 := Nat.ne_of_lt (Nat.lt_of_lt_of_le f676.lt (Nat.le_of_eq g674.symm))
           have g_b674 : n0 ≤ b674 := Nat.le_trans Z7 (Nat.le_of_eq g674.symm)
           have sz_b674 : h0.size ≤ b674 := Nat.le_trans K7.1 (Nat.le_of_eq g674.symm)
           have Z674 : n0 ≤ h674.size := Nat.le_trans Z7 E674.1
           have Y674 : kS2 ≤ h674.size := Nat.le_trans Y7 E674.1
           have K674 : Keep h0 h674 [] := K7.ext E674
           have F674_number : Fld Z h674 b674 "com/example/rank_keeper/rankkeeper/BodyLines$Line" "number" "I" (.int 0) := D674 (Or.inr (kw82 hw)) (ty := .int) (by decide)
           have F674_offset : Fld Z h674 b674 "com/example/rank_keeper/rankkeeper/BodyLines$Line" "offset" "I" (.int 0) := D674 (Or.inr (kw84 hw)) (ty := .int) (by decide)
           have F674_length : Fld Z h674 b674 "com/example/rank_keeper/rankkeeper/BodyLines$Line" "length" "I" (.int 0) := D674 (Or.inr (kw86 hw)) (ty := .int) (by decide)
           obtain ⟨_, _, ⟨T677, L677, k677, n677⟩, -, X677, ⟨Lc677, hQ677, l677, y677, z677⟩, st677⟩ := X674.specialBack hx (y := (⟨"com/example/rank_keeper/rankkeeper/BodyLines$Line", "<init>", "(III)V"⟩ : MethodName)) rfl hown (mvT hZ (kw72 hw)) (mvT hZ (kw73 hw)) (mvT hZ (kw74 hw)) (by decide) (backOf (W := 2) (rm13 l Z a0 hw [] b674 (3 : Int32) (3 : Int32) (1 : Int32) h674 n0 Z674 A674 g_b674 F674_number F674_offset F674_length) hZ (kw74 hw) (kw71 hw) (by decide) (by decide)) (g := (mkF m 74 #[.val (.ref a1), .val (.ref b4), .val (.int 3), .val (.int 3), .val (.int 4)] [(.int 1), (.int 3), (.int 3), (.ref b674), (.ref b674), (.ref b4)])) rfl (by rw [hml]; rfl) (Steps.refl _) (a := b674) (argsL := [(.int 3), (.int 3), (.int 1)]) (rest := [(.ref b674), (.ref b4)]) (lenOf pd_13 rfl) rfl (by show 2 * 0 + _ ≤ _; exact Nat.le_of_eq rfl) (hb hby d1_74) (fun _ _ => ⟨rfl, e674, (by decide : 4 + 0 ≤ _), (by decide : 26 + 0 ≤ _)⟩)
           dsimp only [Pt.U, Pt.locs, Pt.cells, Pt.slots] at X677 l677 y677 z677 st677 hQ677
           subst l677 y677 z677
           obtain ⟨rfl, N677q, Kq677, p677_0, p677_1, p677_2⟩ := hQ677
           have N677 := Fr.app N671 N677q
           have Z677 : n0 ≤ T677.heap.size := Nat.le_trans Z674 Kq677.1
           have Y677 : kS2 ≤ T677.heap.size := Nat.le_trans Y674 Kq677.1
           have K677 : Keep h0 T677.heap [] := K674.trans Kq677 (allS (Or.inr sz_b674) all0)
           have f679 := (((f8.keep Kq7 (allS g_b4 all0)).ext E674).keep Kq677 (allS g_b674 all0))
           have f680 := ((f675.ext E674).keep Kq677)
           have f681 := (A674.keep Kq677)
           have f682 := ((p7_1.ext E674).keep Kq677 (ninS ne674_b4 nin0))
           have f683 := ((p7_2.ext E674).keep Kq677 (ninS ne674_b4 nin0))
           have f684 := ((p7_0.ext E674).keep Kq677 (ninS ne674_b4 nin0))
           have f685 := ((f676.ext E674).keep Kq677 (ninS ne674_w_DEF nin0))
           have f686 := ((f9.ext E674).keep Kq677 (ninS ne674_a1 nin0))
           obtain ⟨cq678, kq678, q678a, q678b, q678c⟩ := isOf hZ rfl f680
           obtain ⟨_, _, ⟨T678, L678, k678, n678⟩, -, X678, ⟨Lc678, hQ678, l678, y678, z678⟩, st678⟩ := X677.interfaceBack hx (xi := (⟨"java/util/List", "add", "(Ljava/lang/Object;)Z"⟩ : MethodName)) (y := (⟨"java/util/ArrayList", "add", "(Ljava/lang/Object;)Z"⟩ : MethodName)) hown (mvT hZ (kw87 hw)) (mvT hZ (kw88 hw)) (mvT hZ (kw89 hw)) (mvT hZ (kw90 hw)) (mvT hZ (kw91 hw)) (mvT hZ (kw92 hw)) (mvT hZ (kw93 hw)) (mvT hZ (kw56 hw)) (by decide) (backOf (W := 0) (rmAdd0 l Z a0 hw [] b4 b674 w_DEF kD (0 : Int32) T677.heap n0 Z677 f679 P1 f680 g_b4 f681 f682 f683 f684 f685 ne4_w_DEF) hZ (kw94 hw) (kw18 hw) (by decide) (by decide)) q678a q678b q678c (g := (mkF m 77 #[.val (.ref a1), .val (.ref b4), .val (.int 3), .val (.int 3), .val (.int 4)] [(.ref b674), (.ref b4)])) rfl (by rw [hml]; rfl) (Steps.refl _) (argsL := [(.ref b674)]) (rest := []) (lenOf pd_14 rfl) rfl (by show 2 * 0 + _ ≤ _; exact Nat.le_of_eq rfl) (hb hby d1_77) (fun _ _ => ⟨rfl, rfl, (by decide : 4 + 1 ≤ _), (by decide : 26 + 10 ≤ _)⟩)
           dsimp only [Pt.U, Pt.locs, Pt.cells, Pt.slots] at X678 l678 y678 z678 st678 hQ678
           subst l678 y678 z678
           obtain ⟨ed_678, kd_678, rfl, N678q, Kq678, p678_0, p678_1, p678_2, p678_3, p678_4, p678_5, p678_6⟩ := hQ678
           have N678 := Fr.app N677 N678q
           have Z678 : n0 ≤ T678.heap.size := Nat.le_trans Z677 Kq678.1
           have Y678 : kS2 ≤ T678.heap.size := Nat.le_trans Y677 Kq678.1
           have K678 : Keep h0 T678.heap [] := K677.trans Kq678 (allS (Or.inr sz_b4) all0)
           have sz_ed_678 : h0.size ≤ ed_678 := Nat.le_trans K677.1 p678_1
           have ne678_a1_ed_678 : a1 ≠ ed_678 := Nat.ne_of_lt (Nat.lt_of_lt_of_le f686.lt p678_1)
           have ne678_b4_ed_678 : b4 ≠ ed_678 := Nat.ne_of_lt (Nat.lt_of_lt_of_le f680.lt p678_1)
           have ne678_b674_ed_678 : b674 ≠ ed_678 := Nat.ne_of_lt (Nat.lt_of_lt_of_le f681.lt p678_1)
           have ne678_w_DEF_ed_678 : w_DEF ≠ ed_678 := Nat.ne_of_lt (Nat.lt_of_lt_of_le f685.lt p678_1)
           have f687 := (f686.keep Kq678 (ninS ne4_a1 nin0))
           obtain ⟨cl688, Ar688, -, S688, N688', -, -⟩ := id f687
           have hsp : own_split nn b0 b1 b2 b3 = [((3 : Int32), (3 : Int32), (1 : Int32))] := by unfold own_split; rw [if_pos hc12, if_neg hc14, if_pos hc510, if_pos hc512, if_neg hc516, if_neg hc590, if_pos hc665, if_pos hc667, if_pos hc673]
           have f689 := (f680.keep Kq678)
           have f690 := (f681.keep Kq678)
           have f691 := (p677_0.keep Kq678 (ninS (Ne.symm ne674_b4) nin0))
           have f692 := (p677_1.keep Kq678 (ninS (Ne.symm ne674_b4) nin0))
           have f693 := (p677_2.keep Kq678 (ninS (Ne.symm ne674_b4) nin0))
           obtain ⟨fs, hr, hrun, hended, hRE⟩ := X678.leaveW hS2 Y678 (v := some (.ref b4)) (fun h => by rw [Bd.returns] at h; cases h)
           refine ⟨_, _, pre672 _ ?_, hrun, hended, _, _, rfl, ?_, hRE.1, hRE.2.1, hRE.2.2.1, hRE.2.2.2.mono (by decide) (by decide)⟩
           · skip
             refine XS.ifNo X671.here hx rfl (hb hby d1_60) rfl ((if0 _ _).trans (teq hc673).2) ?_
             refine XS.aloadN X671.here hx rfl (hb hby d1_63) rfl rfl ?_
             refine st674 _ ?_
             refine XS.dup X674.here hx rfl (hb hby d1_67) rfl rfl ?_
             refine XS.iloadN X674.here hx rfl (hb hby d1_68) rfl ?_
             refine XS.iloadN X674.here hx rfl (hb hby d1_69) rfl ?_
             refine XS.iload X674.here hx rfl (hb hby d1_70) rfl ?_
             refine XS.iloadN X674.here hx rfl (hb hby d1_72) rfl ?_
             refine XS.isub X674.here hx rfl (hb hby d1_73) rfl ?_
             refine st677.trans ?_
             refine st678.trans ?_
             refine XS.pop X678.here hx rfl (hb hby d1_82) rfl rfl ?_
             refine XS.iload X678.here hx rfl (hb hby d1_83) rfl ?_
             refine XS.iconst X678.here hx rfl (hb hby d1_85) ?_
             refine XS.iadd X678.here hx rfl (hb hby d1_86) rfl ?_
             refine XS.istoreN X678.here hx rfl (hb hby d1_87) rfl (l' := #[.val (.ref a1), .val (.ref b4), .val (.int 3), .val (.int 5), .val (.int 4)]) rfl ?_
             refine XS.goto X678.here hx rfl (pc0 := 88) (pc' := 19) rfl (hb hby d1_88) (by decide) (by decide) ?_
             refine XS.iloadN X678.here hx rfl (hb hby d1_19) rfl ?_
             refine XS.aloadN X678.here hx rfl (hb hby d1_20) rfl rfl ?_
             refine X678.arraylength hx Ar688.1 (State.isArrayOf_alike hZ.alike Ar688.2.1) (g := (mkF m 21 #[.val (.ref a1), .val (.ref b4), .val (.int 3), .val (.int 5), .val (.int 4)] [(.ref a1), (.int 5)])) rfl rfl (hb hby d1_21) _ ?_
             rw [len_of S688 N688']
             refine XS.icmpYes X678.here hx rfl (pc0 := 22) (pc' := 91) rfl (hb hby d1_22) rfl (flt (own_ge4 hn (by decide))).2.1 (by decide) (by decide) ?_
             refine XS.aloadN X678.here hx rfl (hb hby d1_91) rfl rfl ?_
             show Steps p.tables e below (T678.setTop (mkF m 92 #[.val (.ref a1), .val (.ref b4), .val (.int 3), .val (.int 5), .val (.int 4)] [(.ref b4)])) _
             jvm_step X678.here [X678.here.top, hx, (hb hby d1_92), X678.method', Bd.returns, Value.isRef, FieldType.isReference]
             first | (intro acts; rw [hr _ acts rfl rfl rfl]) | rw [hr _ _ rfl rfl rfl]
             exact Steps.refl _
           · show Q_rmSplit Z a1 nn b0 b1 b2 b3 kk w_DEF kD h0 n0 _ T678.heap _
             exact ⟨b4, rfl, N678, K678, g_b4, sz_b4, f689, (by rw [hsp]; exact p678_4), (by rw [hsp]; exact own_lines1 p678_5 p678_2 f690 f691 f692 f693)⟩
          ·skip
           obtain ⟨cl695, Ar695, -, S695, N695', -, -⟩ := id f9
           have hsp : own_split nn b0 b1 b2 b3 = [] := by unfold own_split; rw [if_pos hc12, if_neg hc14, if_pos hc510, if_pos hc512, if_neg hc516, if_neg hc590, if_pos hc665, if_pos hc667, if_neg hc673]
           have f696 := (A4.keep Kq7)
           obtain ⟨fs, hr, hrun, hended, hRE⟩ := X671.leaveW hS2 (by rw [e671]; exact Y7) (v := some (.ref b4)) (fun h => by rw [Bd.returns] at h; cases h)
           refine ⟨_, _, pre672 _ ?_, hrun, hended, _, _, rfl, ?_, hRE.1, hRE.2.1, hRE.2.2.1, hRE.2.2.2.mono (by decide) (by decide)⟩
           · skip
             refine XS.ifYes X671.here hx rfl (pc0 := 60) (pc' := 83) rfl (hb hby d1_60) rfl ((if0 _ _).trans (feq hc673).2) (by decide) (by decide) ?_
             refine XS.iload X671.here hx rfl (hb hby d1_83) rfl ?_
             refine XS.iconst X671.here hx rfl (hb hby d1_85) ?_
             refine XS.iadd X671.here hx rfl (hb hby d1_86) rfl ?_
             refine XS.istoreN X671.here hx rfl (hb hby d1_87) rfl (l' := #[.val (.ref a1), .val (.ref b4), .val (.int 3), .val (.int 5), .val (.int 4)]) rfl ?_
             refine XS.goto X671.here hx rfl (pc0 := 88) (pc' := 19) rfl (hb hby d1_88) (by decide) (by decide) ?_
             refine XS.iloadN X671.here hx rfl (hb hby d1_19) rfl ?_
             refine XS.aloadN X671.here hx rfl (hb hby d1_20) rfl rfl ?_
             refine X671.arraylength hx (by rw [e671]; exact Ar695.1) (State.isArrayOf_alike hZ.alike Ar695.2.1) (g := (mkF m 21 #[.val (.ref a1), .val (.ref b4), .val (.int 3), .val (.int 5), .val (.int 4)] [(.ref a1), (.int 5)])) rfl rfl (hb hby d1_21) _ ?_
             rw [len_of S695 N695']
             refine XS.icmpYes X671.here hx rfl (pc0 := 22) (pc' := 91) rfl (hb hby d1_22) rfl (flt (own_ge4 hn (by decide))).2.1 (by decide) (by decide) ?_
             refine XS.aloadN X671.here hx rfl (hb hby d1_91) rfl rfl ?_
             show Steps p.tables e below (T671.setTop (mkF m 92 #[.val (.ref a1), .val (.ref b4), .val (.int 3), .val (.int 5), .val (.int 4)] [(.ref b4)])) _
             jvm_step X671.here [X671.here.top, hx, (hb hby d1_92), X671.method', Bd.returns, Value.isRef, FieldType.isReference]
             first | (intro acts; rw [hr _ acts rfl rfl rfl]) | rw [hr _ _ rfl rfl rfl]
             exact Steps.refl _
           · show Q_rmSplit Z a1 nn b0 b1 b2 b3 kk w_DEF kD h0 n0 _ T671.heap _
             rw [e671]
             exact ⟨b4, rfl, N671, K7, g_b4, sz_b4, f696, (by rw [hsp]; exact p7_2), (by rw [hsp]; exact own_lines0)⟩
         ·skip
          obtain ⟨cl698, Ar698, -, S698, N698', -, -⟩ := id f9
          obtain ⟨cl699, Ar699, q699, S699, N699', H699, G699⟩ := id f9
          have hin699 : ¬ ((3 : Int32) < 0 ∨ cl699.slots.size ≤ ((3 : Int32)).toNatClampNeg) := inb_of S699 ⟨by decide, hc665⟩
          have hat699 : cl699.slots[((3 : Int32)).toNatClampNeg]? = some (.int (own_b b0 b1 b2 b3 (3 : Int32))) := H699.at hin699 (own_is_getD _ _)
          obtain ⟨_, _, ⟨T700, L700, k700, n700⟩, -, X700, ⟨Lc700, hQ700, l700, y700, z700⟩, st700⟩ := Jvm.LawKit.callS X588 hx (y := (⟨"com/example/rank_keeper/rankkeeper/BodyLines", "isBlank", "([BII)Z"⟩ : MethodName)) hown (mvT hZ (kw66 hw)) (mvT hZ (kw67 hw)) (mvT hZ (kw3 hw)) (mvT hZ (kw68 hw)) (by decide) (backOf (W := 0) (rmBl_3 l Z a0 hw [] a1 (3 : Int32) nn b0 b1 b2 b3 kk T7.heap n0 Z7 f9 hn (own_lt1 hc665 (by decide))) hZ (kw68 hw) (kw3 hw) (by decide) (by decide)) (g := (mkF m 57 #[.val (.ref a1), .val (.ref b4), .val (.int 3), .val (.int 3), .val (.int 3)] [(.int 3), (.int 3), (.ref a1)])) rfl (by rw [hml]; rfl) (argsL := [(.ref a1), (.int 3), (.int 3)]) (rest := []) (lenOf pd_3 rfl) rfl (by show 2 * 0 + _ ≤ _; exact Nat.le_of_eq rfl) (hb hby d1_57) (fun _ _ => ⟨rfl, e588, (by decide : 3 + 0 ≤ _), (by decide : 23 + 0 ≤ _)⟩)
          dsimp only [Pt.U, Pt.locs, Pt.cells, Pt.slots] at X700 l700 y700 z700 st700 hQ700
          subst l700 y700 z700
          obtain ⟨rfl, N700q, e700⟩ := hQ700
          have N700 := Fr.app N588 N700q
          obtain ⟨cl701, Ar701, -, S701, N701', -, -⟩ := id f9
          have hsp : own_split nn b0 b1 b2 b3 = [] := by unfold own_split; rw [if_pos hc12, if_neg hc14, if_pos hc510, if_pos hc512, if_neg hc516, if_neg hc590, if_pos hc665, if_neg hc667]
          have f702 := (A4.keep Kq7)
          obtain ⟨fs, hr, hrun, hended, hRE⟩ := X700.leaveW hS2 (by rw [e700]; exact Y7) (v := some (.ref b4)) (fun h => by rw [Bd.returns] at h; cases h)
          refine ⟨_, _, pre666 _ ?_, hrun, hended, _, _, rfl, ?_, hRE.1, hRE.2.1, hRE.2.2.1, hRE.2.2.2.mono (by decide) (by decide)⟩
          · skip
            refine XS.iload X588.here hx rfl (hb hby d1_31) rfl ?_
            refine XS.aloadN X588.here hx rfl (hb hby d1_33) rfl rfl ?_
            refine X588.arraylength hx (by rw [e588]; exact Ar698.1) (State.isArrayOf_alike hZ.alike Ar698.2.1) (g := (mkF m 34 #[.val (.ref a1), .val (.ref b4), .val (.int 3), .val (.int 3), .val (.int 3)] [(.ref a1), (.int 3)])) rfl rfl (hb hby d1_34) _ ?_
            rw [len_of S698 N698']
            refine XS.icmpNo X588.here hx rfl (hb hby d1_35) rfl (tlt hc665).2.1 ?_
            refine XS.aloadN X588.here hx rfl (hb hby d1_38) rfl rfl ?_
            refine XS.iload X588.here hx rfl (hb hby d1_39) rfl ?_
            refine X588.baloadBytes hx (j := (3 : Int32)) (v := (.int (own_b b0 b1 b2 b3 (3 : Int32)))) (by rw [e588]; exact Ar699.1) (State.isArrayOf_alike hZ.alike Ar699.2.1) Ar699.2.2 hin699 hat699 (g := (mkF m 41 #[.val (.ref a1), .val (.ref b4), .val (.int 3), .val (.int 3), .val (.int 3)] [(.int 3), (.ref a1)])) rfl rfl (hb hby d1_41) _ ?_
            refine XS.bipush X588.here hx rfl (hb hby d1_42) ?_
            refine XS.icmpYes X588.here hx rfl (pc0 := 44) (pc' := 53) rfl (hb hby d1_44) rfl (teq (Decidable.byContradiction fun q => hc667 ⟨hc665, q⟩)).1 (by decide) (by decide) ?_
            refine XS.aloadN X588.here hx rfl (hb hby d1_53) rfl rfl ?_
            refine XS.iloadN X588.here hx rfl (hb hby d1_54) rfl ?_
            refine XS.iload X588.here hx rfl (hb hby d1_55) rfl ?_
            refine st700 _ ?_
            refine XS.ifYes X700.here hx rfl (pc0 := 60) (pc' := 83) rfl (hb hby d1_60) rfl ((if0 _ _).trans (feq (own_bls3 b0 b1 b2 b3)).2) (by decide) (by decide) ?_
            refine XS.iload X700.here hx rfl (hb hby d1_83) rfl ?_
            refine XS.iconst X700.here hx rfl (hb hby d1_85) ?_
            refine XS.iadd X700.here hx rfl (hb hby d1_86) rfl ?_
            refine XS.istoreN X700.here hx rfl (hb hby d1_87) rfl (l' := #[.val (.ref a1), .val (.ref b4), .val (.int 3), .val (.int 4), .val (.int 3)]) rfl ?_
            refine XS.goto X700.here hx rfl (pc0 := 88) (pc' := 19) rfl (hb hby d1_88) (by decide) (by decide) ?_
            refine XS.iloadN X700.here hx rfl (hb hby d1_19) rfl ?_
            refine XS.aloadN X700.here hx rfl (hb hby d1_20) rfl rfl ?_
            refine X700.arraylength hx (by rw [e700]; exact Ar701.1) (State.isArrayOf_alike hZ.alike Ar701.2.1) (g := (mkF m 21 #[.val (.ref a1), .val (.ref b4), .val (.int 3), .val (.int 4), .val (.int 3)] [(.ref a1), (.int 4)])) rfl rfl (hb hby d1_21) _ ?_
            rw [len_of S701 N701']
            refine XS.icmpYes X700.here hx rfl (pc0 := 22) (pc' := 91) rfl (hb hby d1_22) rfl (flt (own_ge4 hn (by decide))).2.1 (by decide) (by decide) ?_
            show Steps p.tables e below (T700.setTop (mkF m 91 #[.val (.ref a1), .val (.ref b4), .val (.int 3), .val (.int 4), .val (.int 3)] [])) _
            refine XS.aloadN X700.here hx rfl (hb hby d1_91) rfl rfl ?_
            show Steps p.tables e below (T700.setTop (mkF m 92 #[.val (.ref a1), .val (.ref b4), .val (.int 3), .val (.int 4), .val (.int 3)] [(.ref b4)])) _
            jvm_step X700.here [X700.here.top, hx, (hb hby d1_92), X700.method', Bd.returns, Value.isRef, FieldType.isReference]
            first | (intro acts; rw [hr _ acts rfl rfl rfl]) | rw [hr _ _ rfl rfl rfl]
            exact Steps.refl _
          · show Q_rmSplit Z a1 nn b0 b1 b2 b3 kk w_DEF kD h0 n0 _ T700.heap _
            rw [e700]
            exact ⟨b4, rfl, N700, K7, g_b4, sz_b4, f702, (by rw [hsp]; exact p7_2), (by rw [hsp]; exact own_lines0)⟩
        ·skip
         have hsp : own_split nn b0 b1 b2 b3 = [] := by unfold own_split; rw [if_pos hc12, if_neg hc14, if_pos hc510, if_pos hc512, if_neg hc516, if_neg hc590, if_neg hc665]
         have f704 := (A4.keep Kq7)
         obtain ⟨fs, hr, hrun, hended, hRE⟩ := X588.leaveW hS2 (by rw [e588]; exact Y7) (v := some (.ref b4)) (fun h => by rw [Bd.returns] at h; cases h)
         refine ⟨_, _, pre664 _ ?_, hrun, hended, _, _, rfl, ?_, hRE.1, hRE.2.1, hRE.2.2.1, hRE.2.2.2.mono (by decide) (by decide)⟩
         · skip
           refine XS.icmpYes X588.here hx rfl (pc0 := 22) (pc' := 91) rfl (hb hby d1_22) rfl (flt hc665).2.1 (by decide) (by decide) ?_
           refine XS.aloadN X588.here hx rfl (hb hby d1_91) rfl rfl ?_
           show Steps p.tables e below (T588.setTop (mkF m 92 #[.val (.ref a1), .val (.ref b4), .val (.int 2), .val (.int 3), .val (.int 2)] [(.ref b4)])) _
           jvm_step X588.here [X588.here.top, hx, (hb hby d1_92), X588.method', Bd.returns, Value.isRef, FieldType.isReference]
           first | (intro acts; rw [hr _ acts rfl rfl rfl]) | rw [hr _ _ rfl rfl rfl]
           exact Steps.refl _
         · show Q_rmSplit Z a1 nn b0 b1 b2 b3 kk w_DEF kD h0 n0 _ T588.heap _
           rw [e588]
           exact ⟨b4, rfl, N588, K7, g_b4, sz_b4, f704, (by rw [hsp]; exact p7_2), (by rw [hsp]; exact own_lines0)⟩
     ·skip
      obtain ⟨cl706, Ar706, -, S706, N706', -, -⟩ := id f9
      obtain ⟨cl707, Ar707, q707, S707, N707', H707, G707⟩ := id f9
      have hin707 : ¬ ((1 : Int32) < 0 ∨ cl707.slots.size ≤ ((1 : Int32)).toNatClampNeg) := inb_of S707 ⟨by decide, hc510⟩
      have hat707 : cl707.slots[((1 : Int32)).toNatClampNeg]? = some (.int (own_b b0 b1 b2 b3 (1 : Int32))) := H707.at hin707 (own_is_getD _ _)
      obtain ⟨_, _, ⟨T708, L708, k708, n708⟩, -, X708, ⟨Lc708, hQ708, l708, y708, z708⟩, st708⟩ := Jvm.LawKit.callS X507 hx (y := (⟨"com/example/rank_keeper/rankkeeper/BodyLines", "isBlank", "([BII)Z"⟩ : MethodName)) hown (mvT hZ (kw66 hw)) (mvT hZ (kw67 hw)) (mvT hZ (kw3 hw)) (mvT hZ (kw68 hw)) (by decide) (backOf (W := 0) (rmBl_1 l Z a0 hw [] a1 (1 : Int32) nn b0 b1 b2 b3 kk T7.heap n0 Z7 f9 hn (own_lt1 hc12 (by decide))) hZ (kw68 hw) (kw3 hw) (by decide) (by decide)) (g := (mkF m 57 #[.val (.ref a1), .val (.ref b4), .val (.int 2), .val (.int 1), .val (.int 1)] [(.int 1), (.int 1), (.ref a1)])) rfl (by rw [hml]; rfl) (argsL := [(.ref a1), (.int 1), (.int 1)]) (rest := []) (lenOf pd_3 rfl) rfl (by show 2 * 0 + _ ≤ _; exact Nat.le_of_eq rfl) (hb hby d1_57) (fun _ _ => ⟨rfl, e507, (by decide : 3 + 0 ≤ _), (by decide : 23 + 0 ≤ _)⟩)
      dsimp only [Pt.U, Pt.locs, Pt.cells, Pt.slots] at X708 l708 y708 z708 st708 hQ708
      subst l708 y708 z708
      obtain ⟨rfl, N708q, e708⟩ := hQ708
      have N708 := Fr.app N507 N708q
      obtain ⟨cl709, Ar709, -, S709, N709', -, -⟩ := id f9
      have pre710 : ∀ t, Steps p.tables e below (T708.setTop (mkF m 22 #[.val (.ref a1), .val (.ref b4), .val (.int 2), .val (.int 2), .val (.int 1)] [(.int nn), (.int 2)])) t → Steps p.tables e below (s₁.setTop (entryFrame m #[(.ref a1)] 5)) t := fun t k => pre511 t (by
        refine XS.iload X507.here hx rfl (hb hby d1_31) rfl ?_
        refine XS.aloadN X507.here hx rfl (hb hby d1_33) rfl rfl ?_
        refine X507.arraylength hx (by rw [e507]; exact Ar706.1) (State.isArrayOf_alike hZ.alike Ar706.2.1) (g := (mkF m 34 #[.val (.ref a1), .val (.ref b4), .val (.int 2), .val (.int 1), .val (.int 1)] [(.ref a1), (.int 1)])) rfl rfl (hb hby d1_34) _ ?_
        rw [len_of S706 N706']
        refine XS.icmpNo X507.here hx rfl (hb hby d1_35) rfl (tlt hc510).2.1 ?_
        refine XS.aloadN X507.here hx rfl (hb hby d1_38) rfl rfl ?_
        refine XS.iload X507.here hx rfl (hb hby d1_39) rfl ?_
        refine X507.baloadBytes hx (j := (1 : Int32)) (v := (.int (own_b b0 b1 b2 b3 (1 : Int32)))) (by rw [e507]; exact Ar707.1) (State.isArrayOf_alike hZ.alike Ar707.2.1) Ar707.2.2 hin707 hat707 (g := (mkF m 41 #[.val (.ref a1), .val (.ref b4), .val (.int 2), .val (.int 1), .val (.int 1)] [(.int 1), (.ref a1)])) rfl rfl (hb hby d1_41) _ ?_
        refine XS.bipush X507.here hx rfl (hb hby d1_42) ?_
        refine XS.icmpYes X507.here hx rfl (pc0 := 44) (pc' := 53) rfl (hb hby d1_44) rfl (teq (Decidable.byContradiction fun q => hc512 ⟨hc510, q⟩)).1 (by decide) (by decide) ?_
        refine XS.aloadN X507.here hx rfl (hb hby d1_53) rfl rfl ?_
        refine XS.iloadN X507.here hx rfl (hb hby d1_54) rfl ?_
        refine XS.iload X507.here hx rfl (hb hby d1_55) rfl ?_
        refine st708 _ ?_
        refine XS.ifYes X708.here hx rfl (pc0 := 60) (pc' := 83) rfl (hb hby d1_60) rfl ((if0 _ _).trans (feq (own_bls1 b0 b1 b2 b3)).2) (by decide) (by decide) ?_
        refine XS.iload X708.here hx rfl (hb hby d1_83) rfl ?_
        refine XS.iconst X708.here hx rfl (hb hby d1_85) ?_
        refine XS.iadd X708.here hx rfl (hb hby d1_86) rfl ?_
        refine XS.istoreN X708.here hx rfl (hb hby d1_87) rfl (l' := #[.val (.ref a1), .val (.ref b4), .val (.int 2), .val (.int 2), .val (.int 1)]) rfl ?_
        refine XS.goto X708.here hx rfl (pc0 := 88) (pc' := 19) rfl (hb hby d1_88) (by decide) (by decide) ?_
        refine XS.iloadN X708.here hx rfl (hb hby d1_19) rfl ?_
        refine XS.aloadN X708.here hx rfl (hb hby d1_20) rfl rfl ?_
        refine X708.arraylength hx (by rw [e708]; exact Ar709.1) (State.isArrayOf_alike hZ.alike Ar709.2.1) (g := (mkF m 21 #[.val (.ref a1), .val (.ref b4), .val (.int 2), .val (.int 2), .val (.int 1)] [(.ref a1), (.int 2)])) rfl rfl (hb hby d1_21) _ ?_
        rw [len_of S709 N709']
        exact k)
      by_cases hc711 : (2 : Int32) < nn
      ·skip
       have pre712 : ∀ t, Steps p.tables e below (T708.setTop (mkF m 31 #[.val (.ref a1), .val (.ref b4), .val (.int 3), .val (.int 2), .val (.int 2)] [])) t → Steps p.tables e below (s₁.setTop (entryFrame m #[(.ref a1)] 5)) t := fun t k => pre710 t (by
         refine XS.icmpNo X708.here hx rfl (hb hby d1_22) rfl (tlt hc711).2.1 ?_
         refine XS.iinc X708.here hx rfl (hb hby d1_25) rfl (l' := #[.val (.ref a1), .val (.ref b4), .val (.int 3), .val (.int 2), .val (.int 1)]) rfl ?_
         refine XS.iloadN X708.here hx rfl (hb hby d1_28) rfl ?_
         refine XS.istore X708.here hx rfl (hb hby d1_29) rfl (l' := #[.val (.ref a1), .val (.ref b4), .val (.int 3), .val (.int 2), .val (.int 2)]) rfl ?_
         exact k)
       by_cases hc713 : (2 : Int32) < nn ∧ ¬ (own_b b0 b1 b2 b3 (2 : Int32)) = (10 : Int32)
       ·skip
        obtain ⟨cl714, Ar714, -, S714, N714', -, -⟩ := id f9
        obtain ⟨cl715, Ar715, q715, S715, N715', H715, G715⟩ := id f9
        have hin715 : ¬ ((2 : Int32) < 0 ∨ cl715.slots.size ≤ ((2 : Int32)).toNatClampNeg) := inb_of S715 ⟨by decide, hc713.1⟩
        have hat715 : cl715.slots[((2 : Int32)).toNatClampNeg]? = some (.int (own_b b0 b1 b2 b3 (2 : Int32))) := H715.at hin715 (own_is_getD _ _)
        have pre716 : ∀ t, Steps p.tables e below (T708.setTop (mkF m 31 #[.val (.ref a1), .val (.ref b4), .val (.int 3), .val (.int 2), .val (.int 3)] [])) t → Steps p.tables e below (s₁.setTop (entryFrame m #[(.ref a1)] 5)) t := fun t k => pre712 t (by
          refine XS.iload X708.here hx rfl (hb hby d1_31) rfl ?_
          refine XS.aloadN X708.here hx rfl (hb hby d1_33) rfl rfl ?_
          refine X708.arraylength hx (by rw [e708]; exact Ar714.1) (State.isArrayOf_alike hZ.alike Ar714.2.1) (g := (mkF m 34 #[.val (.ref a1), .val (.ref b4), .val (.int 3), .val (.int 2), .val (.int 2)] [(.ref a1), (.int 2)])) rfl rfl (hb hby d1_34) _ ?_
          rw [len_of S714 N714']
          refine XS.icmpNo X708.here hx rfl (hb hby d1_35) rfl (tlt hc713.1).2.1 ?_
          refine XS.aloadN X708.here hx rfl (hb hby d1_38) rfl rfl ?_
          refine XS.iload X708.here hx rfl (hb hby d1_39) rfl ?_
          refine X708.baloadBytes hx (j := (2 : Int32)) (v := (.int (own_b b0 b1 b2 b3 (2 : Int32)))) (by rw [e708]; exact Ar715.1) (State.isArrayOf_alike hZ.alike Ar715.2.1) Ar715.2.2 hin715 hat715 (g := (mkF m 41 #[.val (.ref a1), .val (.ref b4), .val (.int 3), .val (.int 2), .val (.int 2)] [(.int 2), (.ref a1)])) rfl rfl (hb hby d1_41) _ ?_
          refine XS.bipush X708.here hx rfl (hb hby d1_42) ?_
          refine XS.icmpNo X708.here hx rfl (hb hby d1_44) rfl (feq hc713.2).1 ?_
          refine XS.iinc X708.here hx rfl (hb hby d1_47) rfl (l' := #[.val (.ref a1), .val (.ref b4), .val (.int 3), .val (.int 2), .val (.int 3)]) rfl ?_
          refine XS.goto X708.here hx rfl (pc0 := 50) (pc' := 31) rfl (hb hby d1_50) (by decide) (by decide) ?_
          exact k)
        by_cases hc717 : (3 : Int32) < nn ∧ ¬ (own_b b0 b1 b2 b3 (3 : Int32)) = (10 : Int32)
        ·skip
         obtain ⟨cl718, Ar718, -, S718, N718', -, -⟩ := id f9
         obtain ⟨cl719, Ar719, q719, S719, N719', H719, G719⟩ := id f9
         have hin719 : ¬ ((3 : Int32) < 0 ∨ cl719.slots.size ≤ ((3 : Int32)).toNatClampNeg) := inb_of S719 ⟨by decide, hc717.1⟩
         have hat719 : cl719.slots[((3 : Int32)).toNatClampNeg]? = some (.int (own_b b0 b1 b2 b3 (3 : Int32))) := H719.at hin719 (own_is_getD _ _)
         obtain ⟨cl720, Ar720, -, S720, N720', -, -⟩ := id f9
         obtain ⟨_, _, ⟨T721, L721, k721, n721⟩, -, X721, ⟨Lc721, hQ721, l721, y721, z721⟩, st721⟩ := Jvm.LawKit.callS X708 hx (y := (⟨"com/example/rank_keeper/rankkeeper/BodyLines", "isBlank", "([BII)Z"⟩ : MethodName)) hown (mvT hZ (kw66 hw)) (mvT hZ (kw67 hw)) (mvT hZ (kw3 hw)) (mvT hZ (kw68 hw)) (by decide) (backOf (W := 0) (rmBl_2 l Z a0 hw [] a1 (4 : Int32) nn b0 b1 b2 b3 kk T7.heap n0 Z7 f9 hn (own_lt1 hc717.1 (by decide))) hZ (kw68 hw) (kw3 hw) (by decide) (by decide)) (g := (mkF m 57 #[.val (.ref a1), .val (.ref b4), .val (.int 3), .val (.int 2), .val (.int 4)] [(.int 4), (.int 2), (.ref a1)])) rfl (by rw [hml]; rfl) (argsL := [(.ref a1), (.int 2), (.int 4)]) (rest := []) (lenOf pd_3 rfl) rfl (by show 2 * 0 + _ ≤ _; exact Nat.le_of_eq rfl) (hb hby d1_57) (fun _ _ => ⟨rfl, e708, (by decide : 3 + 0 ≤ _), (by decide : 23 + 0 ≤ _)⟩)
         dsimp only [Pt.U, Pt.locs, Pt.cells, Pt.slots] at X721 l721 y721 z721 st721 hQ721
         subst l721 y721 z721
         obtain ⟨rfl, N721q, e721⟩ := hQ721
         have N721 := Fr.app N708 N721q
         have pre722 : ∀ t, Steps p.tables e below (T721.setTop (mkF m 60 #[.val (.ref a1), .val (.ref b4), .val (.int 3), .val (.int 2), .val (.int 4)] [(.int (own_bl_2 b0 b1 b2 b3 (4 : Int32)))])) t → Steps p.tables e below (s₁.setTop (entryFrame m #[(.ref a1)] 5)) t := fun t k => pre716 t (by
           refine XS.iload X708.here hx rfl (hb hby d1_31) rfl ?_
           refine XS.aloadN X708.here hx rfl (hb hby d1_33) rfl rfl ?_
           refine X708.arraylength hx (by rw [e708]; exact Ar718.1) (State.isArrayOf_alike hZ.alike Ar718.2.1) (g := (mkF m 34 #[.val (.ref a1), .val (.ref b4), .val (.int 3), .val (.int 2), .val (.int 3)] [(.ref a1), (.int 3)])) rfl rfl (hb hby d1_34) _ ?_
           rw [len_of S718 N718']
           refine XS.icmpNo X708.here hx rfl (hb hby d1_35) rfl (tlt hc717.1).2.1 ?_
           refine XS.aloadN X708.here hx rfl (hb hby d1_38) rfl rfl ?_
           refine XS.iload X708.here hx rfl (hb hby d1_39) rfl ?_
           refine X708.baloadBytes hx (j := (3 : Int32)) (v := (.int (own_b b0 b1 b2 b3 (3 : Int32)))) (by rw [e708]; exact Ar719.1) (State.isArrayOf_alike hZ.alike Ar719.2.1) Ar719.2.2 hin719 hat719 (g := (mkF m 41 #[.val (.ref a1), .val (.ref b4), .val (.int 3), .val (.int 2), .val (.int 3)] [(.int 3), (.ref a1)])) rfl rfl (hb hby d1_41) _ ?_
           refine XS.bipush X708.here hx rfl (hb hby d1_42) ?_
           refine XS.icmpNo X708.here hx rfl (hb hby d1_44) rfl (feq hc717.2).1 ?_
           refine XS.iinc X708.here hx rfl (hb hby d1_47) rfl (l' := #[.val (.ref a1), .val (.ref b4), .val (.int 3), .val (.int 2), .val (.int 4)]) rfl ?_
           refine XS.goto X708.here hx rfl (pc0 := 50) (pc' := 31) rfl (hb hby d1_50) (by decide) (by decide) ?_
           refine XS.iload X708.here hx rfl (hb hby d1_31) rfl ?_
           refine XS.aloadN X708.here hx rfl (hb hby d1_33) rfl rfl ?_
           refine X708.arraylength hx (by rw [e708]; exact Ar720.1) (State.isArrayOf_alike hZ.alike Ar720.2.1) (g := (mkF m 34 #[.val (.ref a1), .val (.ref b4), .val (.int 3), .val (.int 2), .val (.int 4)] [(.ref a1), (.int 4)])) rfl rfl (hb hby d1_34) _ ?_
           rw [len_of S720 N720']
           refine XS.icmpYes X708.here hx rfl (pc0 := 35) (pc' := 53) rfl (hb hby d1_35) rfl (flt (own_ge4 hn (by decide))).2.1 (by decide) (by decide) ?_
           refine XS.aloadN X708.here hx rfl (hb hby d1_53) rfl rfl ?_
           refine XS.iloadN X708.here hx rfl (hb hby d1_54) rfl ?_
           refine XS.iload X708.here hx rfl (hb hby d1_55) rfl ?_
           refine st721 _ ?_
           exact k)
         by_cases hc723 : (own_bl_2 b0 b1 b2 b3 (4 : Int32)) = (0 : Int32)
         ·skip
          have f725 := (A4.keep Kq7)
          have f726 := ((f6.ext E4).keep Kq7 (ninS ne4_w_DEF nin0))
          obtain ⟨T724, h724, X724, e724, E724, A724, D724, -, st724⟩ := newO X721 hx hZ hown (kw69 hw) (kw70 hw) (kw71 hw) e721 (g := (mkF m 64 #[.val (.ref a1), .val (.ref b4), .val (.int 3), .val (.int 2), .val (.int 4)] [(.ref b4)])) rfl (hb hby d1_64) (by decide) (by decide)
          obtain ⟨b724, g724⟩ : ∃ z, z = T7.heap.size := ⟨_, rfl⟩
          rw [← g724] at A724 D724 st724
          have ne724_a1 : a1 ≠ b724 := Nat.ne_of_lt (Nat.lt_of_lt_of_le f9.lt (Nat.le_of_eq g724.symm))
          have ne724_b4 : b4 ≠ b724 := Nat.ne_of_lt (Nat.lt_of_lt_of_le f725.lt (Nat.le_of_eq g724.symm))
          have ne724_w_DEF : w_DEF ≠ b724 := Nat.ne_of_lt (Nat.lt_of_lt_of_le f726.lt (Nat.le_of_eq g724.symm))
          have g_b724 : n0 ≤ b724 := Nat.le_trans Z7 (Nat.le_of_eq g724.symm)
          have sz_b724 : h0.size ≤ b724 := Nat.le_trans K7.1 (Nat.le_of_eq g724.symm)
          have Z724 : n0 ≤ h724.size := Nat.le_trans Z7 E724.1
          have Y724 : kS2 ≤ h724.size := Nat.le_trans Y7 E724.1
          have K724 : Keep h0 h724 [] := K7.ext E724
          have F724_number : Fld Z h724 b724 "com/example/rank_keeper/rankkeeper/BodyLines$Line" "number" "I" (.int 0) := D724 (Or.inr (kw82 hw)) (ty := .int) (by decide)
          have F724_offset : Fld Z h724 b724 "com/example/rank_keeper/rankkeeper/BodyLines$Line" "offset" "I" (.int 0) := D724 (Or.inr (kw84 hw)) (ty := .int) (by decide)
          have F724_length : Fld Z h724 b724 "com/example/rank_keeper/rankkeeper/BodyLines$Line" "length" "I" (.int 0) := D724 (Or.inr (kw86 hw)) (ty := .int) (by decide)
          obtain ⟨_, _, ⟨T727, L727, k727, n727⟩, -, X727, ⟨Lc727, hQ727, l727, y727, z727⟩, st727⟩ := X724.specialBack hx (y := (⟨"com/example/rank_keeper/rankkeeper/BodyLines$Line", "<init>", "(III)V"⟩ : MethodName)) rfl hown (mvT hZ (kw72 hw)) (mvT hZ (kw73 hw)) (mvT hZ (kw74 hw)) (by decide) (backOf (W := 2) (rm13 l Z a0 hw [] b724 (3 : Int32) (2 : Int32) (2 : Int32) h724 n0 Z724 A724 g_b724 F724_number F724_offset F724_length) hZ (kw74 hw) (kw71 hw) (by decide) (by decide)) (g := (mkF m 74 #[.val (.ref a1), .val (.ref b4), .val (.int 3), .val (.int 2), .val (.int 4)] [(.int 2), (.int 2), (.int 3), (.ref b724), (.ref b724), (.ref b4)])) rfl (by rw [hml]; rfl) (Steps.refl _) (a := b724) (argsL := [(.int 3), (.int 2), (.int 2)]) (rest := [(.ref b724), (.ref b4)]) (lenOf pd_13 rfl) rfl (by show 2 * 0 + _ ≤ _; exact Nat.le_of_eq rfl) (hb hby d1_74) (fun _ _ => ⟨rfl, e724, (by decide : 4 + 0 ≤ _), (by decide : 26 + 0 ≤ _)⟩)
          dsimp only [Pt.U, Pt.locs, Pt.cells, Pt.slots] at X727 l727 y727 z727 st727 hQ727
          subst l727 y727 z727
          obtain ⟨rfl, N727q, Kq727, p727_0, p727_1, p727_2⟩ := hQ727
          have N727 := Fr.app N721 N727q
          have Z727 : n0 ≤ T727.heap.size := Nat.le_trans Z724 Kq727.1
          have Y727 : kS2 ≤ T727.heap.size := Nat.le_trans Y724 Kq727.1
          have K727 : Keep h0 T727.heap [] := K724.trans Kq727 (allS (Or.inr sz_b724) all0)
          have f729 := (((f8.keep Kq7 (allS g_b4 all0)).ext E724).keep Kq727 (allS g_b724 all0))
          have f730 := ((f725.ext E724).keep Kq727)
          have f731 := (A724.keep Kq727)
          have f732 := ((p7_1.ext E724).keep Kq727 (ninS ne724_b4 nin0))
          have f733 := ((p7_2.ext E724).keep Kq727 (ninS ne724_b4 nin0))
          have f734 := ((p7_0.ext E724).keep Kq727 (ninS ne724_b4 nin0))
          have f735 := ((f726.ext E724).keep Kq727 (ninS ne724_w_DEF nin0))
          have f736 := ((f9.ext E724).keep Kq727 (ninS ne724_a1 nin0))
          obtain ⟨cq728, kq728, q728a, q728b, q728c⟩ := isOf hZ rfl f730
          obtain ⟨_, _, ⟨T728, L728, k728, n728⟩, -, X728, ⟨Lc728, hQ728, l728, y728, z728⟩, st728⟩ := X727.interfaceBack hx (xi := (⟨"java/util/List", "add", "(Ljava/lang/Object;)Z"⟩ : MethodName)) (y := (⟨"java/util/ArrayList", "add", "(Ljava/lang/Object;)Z"⟩ : MethodName)) hown (mvT hZ (kw87 hw)) (mvT hZ (kw88 hw)) (mvT hZ (kw89 hw)) (mvT hZ (kw90 hw)) (mvT hZ (kw91 hw)) (mvT hZ (kw92 hw)) (mvT hZ (kw93 hw)) (mvT hZ (kw56 hw)) (by decide) (backOf (W := 0) (rmAdd0 l Z a0 hw [] b4 b724 w_DEF kD (0 : Int32) T727.heap n0 Z727 f729 P1 f730 g_b4 f731 f732 f733 f734 f735 ne4_w_DEF) hZ (kw94 hw) (kw18 hw) (by decide) (by decide)) q728a q728b q728c (g := (mkF m 77 #[.val (.ref a1), .val (.ref b4), .val (.int 3), .val (.int 2), .val (.int 4)] [(.ref b724), (.ref b4)])) rfl (by rw [hml]; rfl) (Steps.refl _) (argsL := [(.ref b724)]) (rest := []) (lenOf pd_14 rfl) rfl (by show 2 * 0 + _ ≤ _; exact Nat.le_of_eq rfl) (hb hby d1_77) (fun _ _ => ⟨rfl, rfl, (by decide : 4 + 1 ≤ _), (by decide : 26 + 10 ≤ _)⟩)
          dsimp only [Pt.U, Pt.locs, Pt.cells, Pt.slots] at X728 l728 y728 z728 st728 hQ728
          subst l728 y728 z728
          obtain ⟨ed_728, kd_728, rfl, N728q, Kq728, p728_0, p728_1, p728_2, p728_3, p728_4, p728_5, p728_6⟩ := hQ728
          have N728 := Fr.app N727 N728q
          have Z728 : n0 ≤ T728.heap.size := Nat.le_trans Z727 Kq728.1
          have Y728 : kS2 ≤ T728.heap.size := Nat.le_trans Y727 Kq728.1
          have K728 : Keep h0 T728.heap [] := K727.trans Kq728 (allS (Or.inr sz_b4) all0)
          have sz_ed_728 : h0.size ≤ ed_728 := Nat.le_trans K727.1 p728_1
          have ne728_a1_ed_728 : a1 ≠ ed_728 := Nat.ne_of_lt (Nat.lt_of_lt_of_le f736.lt p728_1)
          have ne728_b4_ed_728 : b4 ≠ ed_728 := Nat.ne_of_lt (Nat.lt_of_lt_of_le f730.lt p728_1)
          have ne728_b724_ed_728 : b724 ≠ ed_728 := Nat.ne_of_lt (Nat.lt_of_lt_of_le f731.lt p728_1)
          have ne728_w_DEF_ed_728 : w_DEF ≠ ed_728 := Nat.ne_of_lt (Nat.lt_of_lt_of_le f735.lt p728_1)
          have f737 := (f736.keep Kq728 (ninS ne4_a1 nin0))
          obtain ⟨cl738, Ar738, -, S738, N738', -, -⟩ := id f737
          have hsp : own_split nn b0 b1 b2 b3 = [((3 : Int32), (2 : Int32), (2 : Int32))] := by unfold own_split; rw [if_pos hc12, if_neg hc14, if_pos hc510, if_neg hc512, if_pos hc711, if_pos hc713, if_pos hc717, if_pos hc723]
          have f739 := (f730.keep Kq728)
          have f740 := (f731.keep Kq728)
          have f741 := (p727_0.keep Kq728 (ninS (Ne.symm ne724_b4) nin0))
          have f742 := (p727_1.keep Kq728 (ninS (Ne.symm ne724_b4) nin0))
          have f743 := (p727_2.keep Kq728 (ninS (Ne.symm ne724_b4) nin0))
          obtain ⟨fs, hr, hrun, hended, hRE⟩ := X728.leaveW hS2 Y728 (v := some (.ref b4)) (fun h => by rw [Bd.returns] at h; cases h)
          refine ⟨_, _, pre722 _ ?_, hrun, hended, _, _, rfl, ?_, hRE.1, hRE.2.1, hRE.2.2.1, hRE.2.2.2.mono (by decide) (by decide)⟩
          · skip
            refine XS.ifNo X721.here hx rfl (hb hby d1_60) rfl ((if0 _ _).trans (teq hc723).2) ?_
            refine XS.aloadN X721.here hx rfl (hb hby d1_63) rfl rfl ?_
            refine st724 _ ?_
            refine XS.dup X724.here hx rfl (hb hby d1_67) rfl rfl ?_
            refine XS.iloadN X724.here hx rfl (hb hby d1_68) rfl ?_
            refine XS.iloadN X724.here hx rfl (hb hby d1_69) rfl ?_
            refine XS.iload X724.here hx rfl (hb hby d1_70) rfl ?_
            refine XS.iloadN X724.here hx rfl (hb hby d1_72) rfl ?_
            refine XS.isub X724.here hx rfl (hb hby d1_73) rfl ?_
            refine st727.trans ?_
            refine st728.trans ?_
            refine XS.pop X728.here hx rfl (hb hby d1_82) rfl rfl ?_
            refine XS.iload X728.here hx rfl (hb hby d1_83) rfl ?_
            refine XS.iconst X728.here hx rfl (hb hby d1_85) ?_
            refine XS.iadd X728.here hx rfl (hb hby d1_86) rfl ?_
            refine XS.istoreN X728.here hx rfl (hb hby d1_87) rfl (l' := #[.val (.ref a1), .val (.ref b4), .val (.int 3), .val (.int 5), .val (.int 4)]) rfl ?_
            refine XS.goto X728.here hx rfl (pc0 := 88) (pc' := 19) rfl (hb hby d1_88) (by decide) (by decide) ?_
            refine XS.iloadN X728.here hx rfl (hb hby d1_19) rfl ?_
            refine XS.aloadN X728.here hx rfl (hb hby d1_20) rfl rfl ?_
            refine X728.arraylength hx Ar738.1 (State.isArrayOf_alike hZ.alike Ar738.2.1) (g := (mkF m 21 #[.val (.ref a1), .val (.ref b4), .val (.int 3), .val (.int 5), .val (.int 4)] [(.ref a1), (.int 5)])) rfl rfl (hb hby d1_21) _ ?_
            rw [len_of S738 N738']
            refine XS.icmpYes X728.here hx rfl (pc0 := 22) (pc' := 91) rfl (hb hby d1_22) rfl (flt (own_ge4 hn (by decide))).2.1 (by decide) (by decide) ?_
            refine XS.aloadN X728.here hx rfl (hb hby d1_91) rfl rfl ?_
            show Steps p.tables e below (T728.setTop (mkF m 92 #[.val (.ref a1), .val (.ref b4), .val (.int 3), .val (.int 5), .val (.int 4)] [(.ref b4)])) _
            jvm_step X728.here [X728.here.top, hx, (hb hby d1_92), X728.method', Bd.returns, Value.isRef, FieldType.isReference]
            first | (intro acts; rw [hr _ acts rfl rfl rfl]) | rw [hr _ _ rfl rfl rfl]
            exact Steps.refl _
          · show Q_rmSplit Z a1 nn b0 b1 b2 b3 kk w_DEF kD h0 n0 _ T728.heap _
            exact ⟨b4, rfl, N728, K728, g_b4, sz_b4, f739, (by rw [hsp]; exact p728_4), (by rw [hsp]; exact own_lines1 p728_5 p728_2 f740 f741 f742 f743)⟩
         ·skip
          obtain ⟨cl745, Ar745, -, S745, N745', -, -⟩ := id f9
          have hsp : own_split nn b0 b1 b2 b3 = [] := by unfold own_split; rw [if_pos hc12, if_neg hc14, if_pos hc510, if_neg hc512, if_pos hc711, if_pos hc713, if_pos hc717, if_neg hc723]
          have f746 := (A4.keep Kq7)
          obtain ⟨fs, hr, hrun, hended, hRE⟩ := X721.leaveW hS2 (by rw [e721]; exact Y7) (v := some (.ref b4)) (fun h => by rw [Bd.returns] at h; cases h)
          refine ⟨_, _, pre722 _ ?_, hrun, hended, _, _, rfl, ?_, hRE.1, hRE.2.1, hRE.2.2.1, hRE.2.2.2.mono (by decide) (by decide)⟩
          · skip
            refine XS.ifYes X721.here hx rfl (pc0 := 60) (pc' := 83) rfl (hb hby d1_60) rfl ((if0 _ _).trans (feq hc723).2) (by decide) (by decide) ?_
            refine XS.iload X721.here hx rfl (hb hby d1_83) rfl ?_
            refine XS.iconst X721.here hx rfl (hb hby d1_85) ?_
            refine XS.iadd X721.here hx rfl (hb hby d1_86) rfl ?_
            refine XS.istoreN X721.here hx rfl (hb hby d1_87) rfl (l' := #[.val (.ref a1), .val (.ref b4), .val (.int 3), .val (.int 5), .val (.int 4)]) rfl ?_
            refine XS.goto X721.here hx rfl (pc0 := 88) (pc' := 19) rfl (hb hby d1_88) (by decide) (by decide) ?_
            refine XS.iloadN X721.here hx rfl (hb hby d1_19) rfl ?_
            refine XS.aloadN X721.here hx rfl (hb hby d1_20) rfl rfl ?_
            refine X721.arraylength hx (by rw [e721]; exact Ar745.1) (State.isArrayOf_alike hZ.alike Ar745.2.1) (g := (mkF m 21 #[.val (.ref a1), .val (.ref b4), .val (.int 3), .val (.int 5), .val (.int 4)] [(.ref a1), (.int 5)])) rfl rfl (hb hby d1_21) _ ?_
            rw [len_of S745 N745']
            refine XS.icmpYes X721.here hx rfl (pc0 := 22) (pc' := 91) rfl (hb hby d1_22) rfl (flt (own_ge4 hn (by decide))).2.1 (by decide) (by decide) ?_
            refine XS.aloadN X721.here hx rfl (hb hby d1_91) rfl rfl ?_
            show Steps p.tables e below (T721.setTop (mkF m 92 #[.val (.ref a1), .val (.ref b4), .val (.int 3), .val (.int 5), .val (.int 4)] [(.ref b4)])) _
            jvm_step X721.here [X721.here.top, hx, (hb hby d1_92), X721.method', Bd.returns, Value.isRef, FieldType.isReference]
            first | (intro acts; rw [hr _ acts rfl rfl rfl]) | rw [hr _ _ rfl rfl rfl]
            exact Steps.refl _
          · show Q_rmSplit Z a1 nn b0 b1 b2 b3 kk w_DEF kD h0 n0 _ T721.heap _
            rw [e721]
            exact ⟨b4, rfl, N721, K7, g_b4, sz_b4, f746, (by rw [hsp]; exact p7_2), (by rw [hsp]; exact own_lines0)⟩
        ·skip
         obtain ⟨cl748, Ar748, -, S748, N748', -, -⟩ := id f9
         have pre749 : ∀ t, Steps p.tables e below (T708.setTop (mkF m 35 #[.val (.ref a1), .val (.ref b4), .val (.int 3), .val (.int 2), .val (.int 3)] [(.int nn), (.int 3)])) t → Steps p.tables e below (s₁.setTop (entryFrame m #[(.ref a1)] 5)) t := fun t k => pre716 t (by
           refine XS.iload X708.here hx rfl (hb hby d1_31) rfl ?_
           refine XS.aloadN X708.here hx rfl (hb hby d1_33) rfl rfl ?_
           refine X708.arraylength hx (by rw [e708]; exact Ar748.1) (State.isArrayOf_alike hZ.alike Ar748.2.1) (g := (mkF m 34 #[.val (.ref a1), .val (.ref b4), .val (.int 3), .val (.int 2), .val (.int 3)] [(.ref a1), (.int 3)])) rfl rfl (hb hby d1_34) _ ?_
           rw [len_of S748 N748']
           exact k)
         obtain ⟨LJ750, TJ750, XJ750, NJ750, eJ750, pre750⟩ : ∃ (LL : List Loc) (T' : State), Stand p l e ({ frames := 5, cells := 6, slots := 39, locals := 69 } : Room) (s.setVm T2.vm) m #[(.ref a1)] below meth c T' LL 3 23 ∧ Fr n0 LL ∧ T'.heap = T7.heap ∧ ∀ t, Steps p.tables e below (T'.setTop (mkF m 53 #[.val (.ref a1), .val (.ref b4), .val (.int 3), .val (.int 2), .val (.int 3)] [])) t → Steps p.tables e below (s₁.setTop (entryFrame m #[(.ref a1)] 5)) t := by
           by_cases hc751 : (3 : Int32) < nn
           ·skip
            obtain ⟨cl752, Ar752, q752, S752, N752', H752, G752⟩ := id f9
            have hin752 : ¬ ((3 : Int32) < 0 ∨ cl752.slots.size ≤ ((3 : Int32)).toNatClampNeg) := inb_of S752 ⟨by decide, hc751⟩
            have hat752 : cl752.slots[((3 : Int32)).toNatClampNeg]? = some (.int (own_b b0 b1 b2 b3 (3 : Int32))) := H752.at hin752 (own_is_getD _ _)
            refine ⟨_, _, X708, N708, e708, fun t k => pre749 t ?_⟩
            refine XS.icmpNo X708.here hx rfl (hb hby d1_35) rfl (tlt hc751).2.1 ?_
            refine XS.aloadN X708.here hx rfl (hb hby d1_38) rfl rfl ?_
            refine XS.iload X708.here hx rfl (hb hby d1_39) rfl ?_
            refine X708.baloadBytes hx (j := (3 : Int32)) (v := (.int (own_b b0 b1 b2 b3 (3 : Int32)))) (by rw [e708]; exact Ar752.1) (State.isArrayOf_alike hZ.alike Ar752.2.1) Ar752.2.2 hin752 hat752 (g := (mkF m 41 #[.val (.ref a1), .val (.ref b4), .val (.int 3), .val (.int 2), .val (.int 3)] [(.int 3), (.ref a1)])) rfl rfl (hb hby d1_41) _ ?_
            refine XS.bipush X708.here hx rfl (hb hby d1_42) ?_
            refine XS.icmpYes X708.here hx rfl (pc0 := 44) (pc' := 53) rfl (hb hby d1_44) rfl (teq (Decidable.byContradiction fun q => hc717 ⟨hc751, q⟩)).1 (by decide) (by decide) ?_
            exact k
           ·skip
            refine ⟨_, _, X708, N708, e708, fun t k => pre749 t ?_⟩
            refine XS.icmpYes X708.here hx rfl (pc0 := 35) (pc' := 53) rfl (hb hby d1_35) rfl (flt hc751).2.1 (by decide) (by decide) ?_
            exact k
         obtain ⟨_, _, ⟨T753, L753, k753, n753⟩, -, X753, ⟨Lc753, hQ753, l753, y753, z753⟩, st753⟩ := Jvm.LawKit.callS XJ750 hx (y := (⟨"com/example/rank_keeper/rankkeeper/BodyLines", "isBlank", "([BII)Z"⟩ : MethodName)) hown (mvT hZ (kw66 hw)) (mvT hZ (kw67 hw)) (mvT hZ (kw3 hw)) (mvT hZ (kw68 hw)) (by decide) (backOf (W := 0) (rmBl_2 l Z a0 hw [] a1 (3 : Int32) nn b0 b1 b2 b3 kk T7.heap n0 Z7 f9 hn (own_lt1 hc713.1 (by decide))) hZ (kw68 hw) (kw3 hw) (by decide) (by decide)) (g := (mkF m 57 #[.val (.ref a1), .val (.ref b4), .val (.int 3), .val (.int 2), .val (.int 3)] [(.int 3), (.int 2), (.ref a1)])) rfl (by rw [hml]; rfl) (argsL := [(.ref a1), (.int 2), (.int 3)]) (rest := []) (lenOf pd_3 rfl) rfl (by show 2 * 0 + _ ≤ _; exact Nat.le_of_eq rfl) (hb hby d1_57) (fun _ _ => ⟨rfl, eJ750, (by decide : 3 + 0 ≤ _), (by decide : 23 + 0 ≤ _)⟩)
         dsimp only [Pt.U, Pt.locs, Pt.cells, Pt.slots] at X753 l753 y753 z753 st753 hQ753
         subst l753 y753 z753
         obtain ⟨rfl, N753q, e753⟩ := hQ753
         have N753 := Fr.app NJ750 N753q
         have pre754 : ∀ t, Steps p.tables e below (T753.setTop (mkF m 60 #[.val (.ref a1), .val (.ref b4), .val (.int 3), .val (.int 2), .val (.int 3)] [(.int (own_bl_2 b0 b1 b2 b3 (3 : Int32)))])) t → Steps p.tables e below (s₁.setTop (entryFrame m #[(.ref a1)] 5)) t := fun t k => pre750 t (by
           refine XS.aloadN XJ750.here hx rfl (hb hby d1_53) rfl rfl ?_
           refine XS.iloadN XJ750.here hx rfl (hb hby d1_54) rfl ?_
           refine XS.iload XJ750.here hx rfl (hb hby d1_55) rfl ?_
           refine st753 _ ?_
           exact k)
         by_cases hc755 : (own_bl_2 b0 b1 b2 b3 (3 : Int32)) = (0 : Int32)
         ·skip
          have f757 := (A4.keep Kq7)
          have f758 := ((f6.ext E4).keep Kq7 (ninS ne4_w_DEF nin0))
          obtain ⟨T756, h756, X756, e756, E756, A756, D756, -, st756⟩ := newO X753 hx hZ hown (kw69 hw) (kw70 hw) (kw71 hw) e753 (g := (mkF m 64 #[.val (.ref a1), .val (.ref b4), .val (.int 3), .val (.int 2), .val (.int 3)] [(.ref b4)])) rfl (hb hby d1_64) (by decide) (by decide)
          obtain ⟨b756, g756⟩ : ∃ z, z = T7.heap.size := ⟨_, rfl⟩
          rw [← g756] at A756 D756 st756
          have ne756_a1 : a1 ≠ b756 := Nat.ne_of_lt (Nat.lt_of_lt_of_le f9.lt (Nat.le_of_eq g756.symm))
          have ne756_b4 : b4 ≠ b756 := Nat.ne_of_lt (Nat.lt_of_lt_of_le f757.lt (Nat.le_of_eq g756.symm))
          have ne756_w_DEF : w_DEF ≠ b756 := Nat.ne_of_lt (Nat.lt_of_lt_of_le f758.lt (Nat.le_of_eq g756.symm))
          have g_b756 : n0 ≤ b756 := Nat.le_trans Z7 (Nat.le_of_eq g756.symm)
          have sz_b756 : h0.size ≤ b756 := Nat.le_trans K7.1 (Nat.le_of_eq g756.symm)
          have Z756 : n0 ≤ h756.size := Nat.le_trans Z7 E756.1
          have Y756 : kS2 ≤ h756.size := Nat.le_trans Y7 E756.1
          have K756 : Keep h0 h756 [] := K7.ext E756
          have F756_number : Fld Z h756 b756 "com/example/rank_keeper/rankkeeper/BodyLines$Line" "number" "I" (.int 0) := D756 (Or.inr (kw82 hw)) (ty := .int) (by decide)
          have F756_offset : Fld Z h756 b756 "com/example/rank_keeper/rankkeeper/BodyLines$Line" "offset" "I" (.int 0) := D756 (Or.inr (kw84 hw)) (ty := .int) (by decide)
          have F756_length : Fld Z h756 b756 "com/example/rank_keeper/rankkeeper/BodyLines$Line" "length" "I" (.int 0) := D756 (Or.inr (kw86 hw)) (ty := .int) (by decide)
          obtain ⟨_, _, ⟨T759, L759, k759, n759⟩, -, X759, ⟨Lc759, hQ759, l759, y759, z759⟩, st759⟩ := X756.specialBack hx (y := (⟨"com/example/rank_keeper/rankkeeper/BodyLines$Line", "<init>", "(III)V"⟩ : MethodName)) rfl hown (mvT hZ (kw72 hw)) (mvT hZ (kw73 hw)) (mvT hZ (kw74 hw)) (by decide) (backOf (W := 2) (rm13 l Z a0 hw [] b756 (3 : Int32) (2 : Int32) (1 : Int32) h756 n0 Z756 A756 g_b756 F756_number F756_offset F756_length) hZ (kw74 hw) (kw71 hw) (by decide) (by decide)) (g := (mkF m 74 #[.val (.ref a1), .val (.ref b4), .val (.int 3), .val (.int 2), .val (.int 3)] [(.int 1), (.int 2), (.int 3), (.ref b756), (.ref b756), (.ref b4)])) rfl (by rw [hml]; rfl) (Steps.refl _) (a := b756) (argsL := [(.int 3), (.int 2), (.int 1)]) (rest := [(.ref b756), (.ref b4)]) (lenOf pd_13 rfl) rfl (by show 2 * 0 + _ ≤ _; exact Nat.le_of_eq rfl) (hb hby d1_74) (fun _ _ => ⟨rfl, e756, (by decide : 4 + 0 ≤ _), (by decide : 26 + 0 ≤ _)⟩)
          dsimp only [Pt.U, Pt.locs, Pt.cells, Pt.slots] at X759 l759 y759 z759 st759 hQ759
          subst l759 y759 z759
          obtain ⟨rfl, N759q, Kq759, p759_0, p759_1, p759_2⟩ := hQ759
          have N759 := Fr.app N753 N759q
          have Z759 : n0 ≤ T759.heap.size := Nat.le_trans Z756 Kq759.1
          have Y759 : kS2 ≤ T759.heap.size := Nat.le_trans Y756 Kq759.1
          have K759 : Keep h0 T759.heap [] := K756.trans Kq759 (allS (Or.inr sz_b756) all0)
          have f761 := (((f8.keep Kq7 (allS g_b4 all0)).ext E756).keep Kq759 (allS g_b756 all0))
          have f762 := ((f757.ext E756).keep Kq759)
          have f763 := (A756.keep Kq759)
          have f764 := ((p7_1.ext E756).keep Kq759 (ninS ne756_b4 nin0))
          have f765 := ((p7_2.ext E756).keep Kq759 (ninS ne756_b4 nin0))
          have f766 := ((p7_0.ext E756).keep Kq759 (ninS ne756_b4 nin0))
          have f767 := ((f758.ext E756).keep Kq759 (ninS ne756_w_DEF nin0))
          have f768 := ((f9.ext E756).keep Kq759 (ninS ne756_a1 nin0))
          obtain ⟨cq760, kq760, q760a, q760b, q760c⟩ := isOf hZ rfl f762
          obtain ⟨_, _, ⟨T760, L760, k760, n760⟩, -, X760, ⟨Lc760, hQ760, l760, y760, z760⟩, st760⟩ := X759.interfaceBack hx (xi := (⟨"java/util/List", "add", "(Ljava/lang/Object;)Z"⟩ : MethodName)) (y := (⟨"java/util/ArrayList", "add", "(Ljava/lang/Object;)Z"⟩ : MethodName)) hown (mvT hZ (kw87 hw)) (mvT hZ (kw88 hw)) (mvT hZ (kw89 hw)) (mvT hZ (kw90 hw)) (mvT hZ (kw91 hw)) (mvT hZ (kw92 hw)) (mvT hZ (kw93 hw)) (mvT hZ (kw56 hw)) (by decide) (backOf (W := 0) (rmAdd0 l Z a0 hw [] b4 b756 w_DEF kD (0 : Int32) T759.heap n0 Z759 f761 P1 f762 g_b4 f763 f764 f765 f766 f767 ne4_w_DEF) hZ (kw94 hw) (kw18 hw) (by decide) (by decide)) q760a q760b q760c (g := (mkF m 77 #[.val (.ref a1), .val (.ref b4), .val (.int 3), .val (.int 2), .val (.int 3)] [(.ref b756), (.ref b4)])) rfl (by rw [hml]; rfl) (Steps.refl _) (argsL := [(.ref b756)]) (rest := []) (lenOf pd_14 rfl) rfl (by show 2 * 0 + _ ≤ _; exact Nat.le_of_eq rfl) (hb hby d1_77) (fun _ _ => ⟨rfl, rfl, (by decide : 4 + 1 ≤ _), (by decide : 26 + 10 ≤ _)⟩)
          dsimp only [Pt.U, Pt.locs, Pt.cells, Pt.slots] at X760 l760 y760 z760 st760 hQ760
          subst l760 y760 z760
          obtain ⟨ed_760, kd_760, rfl, N760q, Kq760, p760_0, p760_1, p760_2, p760_3, p760_4, p760_5, p760_6⟩ := hQ760
          have N760 := Fr.app N759 N760q
          have Z760 : n0 ≤ T760.heap.size := Nat.le_trans Z759 Kq760.1
          have Y760 : kS2 ≤ T760.heap.size := Nat.le_trans Y759 Kq760.1
          have K760 : Keep h0 T760.heap [] := K759.trans Kq760 (allS (Or.inr sz_b4) all0)
          have sz_ed_760 : h0.size ≤ ed_760 := Nat.le_trans K759.1 p760_1
          have ne760_a1_ed_760 : a1 ≠ ed_760 := Nat.ne_of_lt (Nat.lt_of_lt_of_le f768.lt p760_1)
          have ne760_b4_ed_760 : b4 ≠ ed_760 := Nat.ne_of_lt (Nat.lt_of_lt_of_le f762.lt p760_1)
          have ne760_b756_ed_760 : b756 ≠ ed_760 := Nat.ne_of_lt (Nat.lt_of_lt_of_le f763.lt p760_1)
          have ne760_w_DEF_ed_760 : w_DEF ≠ ed_760 := Nat.ne_of_lt (Nat.lt_of_lt_of_le f767.lt p760_1)
          have f769 := (f768.keep Kq760 (ninS ne4_a1 nin0))
          obtain ⟨cl770, Ar770, -, S770, N770', -, -⟩ := id f769
          have hsp : own_split nn b0 b1 b2 b3 = [((3 : Int32), (2 : Int32), (1 : Int32))] := by unfold own_split; rw [if_pos hc12, if_neg hc14, if_pos hc510, if_neg hc512, if_pos hc711, if_pos hc713, if_neg hc717, if_pos hc755]
          have f771 := (f762.keep Kq760)
          have f772 := (f763.keep Kq760)
          have f773 := (p759_0.keep Kq760 (ninS (Ne.symm ne756_b4) nin0))
          have f774 := (p759_1.keep Kq760 (ninS (Ne.symm ne756_b4) nin0))
          have f775 := (p759_2.keep Kq760 (ninS (Ne.symm ne756_b4) nin0))
          obtain ⟨fs, hr, hrun, hended, hRE⟩ := X760.leaveW hS2 Y760 (v := some (.ref b4)) (fun h => by rw [Bd.returns] at h; cases h)
          refine ⟨_, _, pre754 _ ?_, hrun, hended, _, _, rfl, ?_, hRE.1, hRE.2.1, hRE.2.2.1, hRE.2.2.2.mono (by decide) (by decide)⟩
          · skip
            refine XS.ifNo X753.here hx rfl (hb hby d1_60) rfl ((if0 _ _).trans (teq hc755).2) ?_
            refine XS.aloadN X753.here hx rfl (hb hby d1_63) rfl rfl ?_
            refine st756 _ ?_
            refine XS.dup X756.here hx rfl (hb hby d1_67) rfl rfl ?_
            refine XS.iloadN X756.here hx rfl (hb hby d1_68) rfl ?_
            refine XS.iloadN X756.here hx rfl (hb hby d1_69) rfl ?_
            refine XS.iload X756.here hx rfl (hb hby d1_70) rfl ?_
            refine XS.iloadN X756.here hx rfl (hb hby d1_72) rfl ?_
            refine XS.isub X756.here hx rfl (hb hby d1_73) rfl ?_
            refine st759.trans ?_
            refine st760.trans ?_
            refine XS.pop X760.here hx rfl (hb hby d1_82) rfl rfl ?_
            refine XS.iload X760.here hx rfl (hb hby d1_83) rfl ?_
            refine XS.iconst X760.here hx rfl (hb hby d1_85) ?_
            refine XS.iadd X760.here hx rfl (hb hby d1_86) rfl ?_
            refine XS.istoreN X760.here hx rfl (hb hby d1_87) rfl (l' := #[.val (.ref a1), .val (.ref b4), .val (.int 3), .val (.int 4), .val (.int 3)]) rfl ?_
            refine XS.goto X760.here hx rfl (pc0 := 88) (pc' := 19) rfl (hb hby d1_88) (by decide) (by decide) ?_
            refine XS.iloadN X760.here hx rfl (hb hby d1_19) rfl ?_
            refine XS.aloadN X760.here hx rfl (hb hby d1_20) rfl rfl ?_
            refine X760.arraylength hx Ar770.1 (State.isArrayOf_alike hZ.alike Ar770.2.1) (g := (mkF m 21 #[.val (.ref a1), .val (.ref b4), .val (.int 3), .val (.int 4), .val (.int 3)] [(.ref a1), (.int 4)])) rfl rfl (hb hby d1_21) _ ?_
            rw [len_of S770 N770']
            refine XS.icmpYes X760.here hx rfl (pc0 := 22) (pc' := 91) rfl (hb hby d1_22) rfl (flt (own_ge4 hn (by decide))).2.1 (by decide) (by decide) ?_
            refine XS.aloadN X760.here hx rfl (hb hby d1_91) rfl rfl ?_
            show Steps p.tables e below (T760.setTop (mkF m 92 #[.val (.ref a1), .val (.ref b4), .val (.int 3), .val (.int 4), .val (.int 3)] [(.ref b4)])) _
            jvm_step X760.here [X760.here.top, hx, (hb hby d1_92), X760.method', Bd.returns, Value.isRef, FieldType.isReference]
            first | (intro acts; rw [hr _ acts rfl rfl rfl]) | rw [hr _ _ rfl rfl rfl]
            exact Steps.refl _
          · show Q_rmSplit Z a1 nn b0 b1 b2 b3 kk w_DEF kD h0 n0 _ T760.heap _
            exact ⟨b4, rfl, N760, K760, g_b4, sz_b4, f771, (by rw [hsp]; exact p760_4), (by rw [hsp]; exact own_lines1 p760_5 p760_2 f772 f773 f774 f775)⟩
         ·skip
          obtain ⟨cl777, Ar777, -, S777, N777', -, -⟩ := id f9
          have hsp : own_split nn b0 b1 b2 b3 = [] := by unfold own_split; rw [if_pos hc12, if_neg hc14, if_pos hc510, if_neg hc512, if_pos hc711, if_pos hc713, if_neg hc717, if_neg hc755]
          have f778 := (A4.keep Kq7)
          obtain ⟨fs, hr, hrun, hended, hRE⟩ := X753.leaveW hS2 (by rw [e753]; exact Y7) (v := some (.ref b4)) (fun h => by rw [Bd.returns] at h; cases h)
          refine ⟨_, _, pre754 _ ?_, hrun, hended, _, _, rfl, ?_, hRE.1, hRE.2.1, hRE.2.2.1, hRE.2.2.2.mono (by decide) (by decide)⟩
          · skip
            refine XS.ifYes X753.here hx rfl (pc0 := 60) (pc' := 83) rfl (hb hby d1_60) rfl ((if0 _ _).trans (feq hc755).2) (by decide) (by decide) ?_
            refine XS.iload X753.here hx rfl (hb hby d1_83) rfl ?_
            refine XS.iconst X753.here hx rfl (hb hby d1_85) ?_
            refine XS.iadd X753.here hx rfl (hb hby d1_86) rfl ?_
            refine XS.istoreN X753.here hx rfl (hb hby d1_87) rfl (l' := #[.val (.ref a1), .val (.ref b4), .val (.int 3), .val (.int 4), .val (.int 3)]) rfl ?_
            refine XS.goto X753.here hx rfl (pc0 := 88) (pc' := 19) rfl (hb hby d1_88) (by decide) (by decide) ?_
            refine XS.iloadN X753.here hx rfl (hb hby d1_19) rfl ?_
            refine XS.aloadN X753.here hx rfl (hb hby d1_20) rfl rfl ?_
            refine X753.arraylength hx (by rw [e753]; exact Ar777.1) (State.isArrayOf_alike hZ.alike Ar777.2.1) (g := (mkF m 21 #[.val (.ref a1), .val (.ref b4), .val (.int 3), .val (.int 4), .val (.int 3)] [(.ref a1), (.int 4)])) rfl rfl (hb hby d1_21) _ ?_
            rw [len_of S777 N777']
            refine XS.icmpYes X753.here hx rfl (pc0 := 22) (pc' := 91) rfl (hb hby d1_22) rfl (flt (own_ge4 hn (by decide))).2.1 (by decide) (by decide) ?_
            refine XS.aloadN X753.here hx rfl (hb hby d1_91) rfl rfl ?_
            show Steps p.tables e below (T753.setTop (mkF m 92 #[.val (.ref a1), .val (.ref b4), .val (.int 3), .val (.int 4), .val (.int 3)] [(.ref b4)])) _
            jvm_step X753.here [X753.here.top, hx, (hb hby d1_92), X753.method', Bd.returns, Value.isRef, FieldType.isReference]
            first | (intro acts; rw [hr _ acts rfl rfl rfl]) | rw [hr _ _ rfl rfl rfl]
            exact Steps.refl _
          · show Q_rmSplit Z a1 nn b0 b1 b2 b3 kk w_DEF kD h0 n0 _ T753.heap _
            rw [e753]
            exact ⟨b4, rfl, N753, K7, g_b4, sz_b4, f778, (by rw [hsp]; exact p7_2), (by rw [hsp]; exact own_lines0)⟩
       ·skip
        obtain ⟨cl780, Ar780, -, S780, N780', -, -⟩ := id f9
        obtain ⟨cl781, Ar781, q781, S781, N781', H781, G781⟩ := id f9
        have hin781 : ¬ ((2 : Int32) < 0 ∨ cl781.slots.size ≤ ((2 : Int32)).toNatClampNeg) := inb_of S781 ⟨by decide, hc711⟩
        have hat781 : cl781.slots[((2 : Int32)).toNatClampNeg]? = some (.int (own_b b0 b1 b2 b3 (2 : Int32))) := H781.at hin781 (own_is_getD _ _)
        obtain ⟨_, _, ⟨T782, L782, k782, n782⟩, -, X782, ⟨Lc782, hQ782, l782, y782, z782⟩, st782⟩ := Jvm.LawKit.callS X708 hx (y := (⟨"com/example/rank_keeper/rankkeeper/BodyLines", "isBlank", "([BII)Z"⟩ : MethodName)) hown (mvT hZ (kw66 hw)) (mvT hZ (kw67 hw)) (mvT hZ (kw3 hw)) (mvT hZ (kw68 hw)) (by decide) (backOf (W := 0) (rmBl_2 l Z a0 hw [] a1 (2 : Int32) nn b0 b1 b2 b3 kk T7.heap n0 Z7 f9 hn (own_lt1 hc510 (by decide))) hZ (kw68 hw) (kw3 hw) (by decide) (by decide)) (g := (mkF m 57 #[.val (.ref a1), .val (.ref b4), .val (.int 3), .val (.int 2), .val (.int 2)] [(.int 2), (.int 2), (.ref a1)])) rfl (by rw [hml]; rfl) (argsL := [(.ref a1), (.int 2), (.int 2)]) (rest := []) (lenOf pd_3 rfl) rfl (by show 2 * 0 + _ ≤ _; exact Nat.le_of_eq rfl) (hb hby d1_57) (fun _ _ => ⟨rfl, e708, (by decide : 3 + 0 ≤ _), (by decide : 23 + 0 ≤ _)⟩)
        dsimp only [Pt.U, Pt.locs, Pt.cells, Pt.slots] at X782 l782 y782 z782 st782 hQ782
        subst l782 y782 z782
        obtain ⟨rfl, N782q, e782⟩ := hQ782
        have N782 := Fr.app N708 N782q
        obtain ⟨cl783, Ar783, -, S783, N783', -, -⟩ := id f9
        have pre784 : ∀ t, Steps p.tables e below (T782.setTop (mkF m 22 #[.val (.ref a1), .val (.ref b4), .val (.int 3), .val (.int 3), .val (.int 2)] [(.int nn), (.int 3)])) t → Steps p.tables e below (s₁.setTop (entryFrame m #[(.ref a1)] 5)) t := fun t k => pre712 t (by
          refine XS.iload X708.here hx rfl (hb hby d1_31) rfl ?_
          refine XS.aloadN X708.here hx rfl (hb hby d1_33) rfl rfl ?_
          refine X708.arraylength hx (by rw [e708]; exact Ar780.1) (State.isArrayOf_alike hZ.alike Ar780.2.1) (g := (mkF m 34 #[.val (.ref a1), .val (.ref b4), .val (.int 3), .val (.int 2), .val (.int 2)] [(.ref a1), (.int 2)])) rfl rfl (hb hby d1_34) _ ?_
          rw [len_of S780 N780']
          refine XS.icmpNo X708.here hx rfl (hb hby d1_35) rfl (tlt hc711).2.1 ?_
          refine XS.aloadN X708.here hx rfl (hb hby d1_38) rfl rfl ?_
          refine XS.iload X708.here hx rfl (hb hby d1_39) rfl ?_
          refine X708.baloadBytes hx (j := (2 : Int32)) (v := (.int (own_b b0 b1 b2 b3 (2 : Int32)))) (by rw [e708]; exact Ar781.1) (State.isArrayOf_alike hZ.alike Ar781.2.1) Ar781.2.2 hin781 hat781 (g := (mkF m 41 #[.val (.ref a1), .val (.ref b4), .val (.int 3), .val (.int 2), .val (.int 2)] [(.int 2), (.ref a1)])) rfl rfl (hb hby d1_41) _ ?_
          refine XS.bipush X708.here hx rfl (hb hby d1_42) ?_
          refine XS.icmpYes X708.here hx rfl (pc0 := 44) (pc' := 53) rfl (hb hby d1_44) rfl (teq (Decidable.byContradiction fun q => hc713 ⟨hc711, q⟩)).1 (by decide) (by decide) ?_
          refine XS.aloadN X708.here hx rfl (hb hby d1_53) rfl rfl ?_
          refine XS.iloadN X708.here hx rfl (hb hby d1_54) rfl ?_
          refine XS.iload X708.here hx rfl (hb hby d1_55) rfl ?_
          refine st782 _ ?_
          refine XS.ifYes X782.here hx rfl (pc0 := 60) (pc' := 83) rfl (hb hby d1_60) rfl ((if0 _ _).trans (feq (own_bls2 b0 b1 b2 b3)).2) (by decide) (by decide) ?_
          refine XS.iload X782.here hx rfl (hb hby d1_83) rfl ?_
          refine XS.iconst X782.here hx rfl (hb hby d1_85) ?_
          refine XS.iadd X782.here hx rfl (hb hby d1_86) rfl ?_
          refine XS.istoreN X782.here hx rfl (hb hby d1_87) rfl (l' := #[.val (.ref a1), .val (.ref b4), .val (.int 3), .val (.int 3), .val (.int 2)]) rfl ?_
          refine XS.goto X782.here hx rfl (pc0 := 88) (pc' := 19) rfl (hb hby d1_88) (by decide) (by decide) ?_
          refine XS.iloadN X782.here hx rfl (hb hby d1_19) rfl ?_
          refine XS.aloadN X782.here hx rfl (hb hby d1_20) rfl rfl ?_
          refine X782.arraylength hx (by rw [e782]; exact Ar783.1) (State.isArrayOf_alike hZ.alike Ar783.2.1) (g := (mkF m 21 #[.val (.ref a1), .val (.ref b4), .val (.int 3), .val (.int 3), .val (.int 2)] [(.ref a1), (.int 3)])) rfl rfl (hb hby d1_21) _ ?_
          rw [len_of S783 N783']
          exact k)
        by_cases hc785 : (3 : Int32) < nn
        ·skip
         have pre786 : ∀ t, Steps p.tables e below (T782.setTop (mkF m 31 #[.val (.ref a1), .val (.ref b4), .val (.int 4), .val (.int 3), .val (.int 3)] [])) t → Steps p.tables e below (s₁.setTop (entryFrame m #[(.ref a1)] 5)) t := fun t k => pre784 t (by
           refine XS.icmpNo X782.here hx rfl (hb hby d1_22) rfl (tlt hc785).2.1 ?_
           refine XS.iinc X782.here hx rfl (hb hby d1_25) rfl (l' := #[.val (.ref a1), .val (.ref b4), .val (.int 4), .val (.int 3), .val (.int 2)]) rfl ?_
           refine XS.iloadN X782.here hx rfl (hb hby d1_28) rfl ?_
           refine XS.istore X782.here hx rfl (hb hby d1_29) rfl (l' := #[.val (.ref a1), .val (.ref b4), .val (.int 4), .val (.int 3), .val (.int 3)]) rfl ?_
           exact k)
         by_cases hc787 : (3 : Int32) < nn ∧ ¬ (own_b b0 b1 b2 b3 (3 : Int32)) = (10 : Int32)
         ·skip
          obtain ⟨cl788, Ar788, -, S788, N788', -, -⟩ := id f9
          obtain ⟨cl789, Ar789, q789, S789, N789', H789, G789⟩ := id f9
          have hin789 : ¬ ((3 : Int32) < 0 ∨ cl789.slots.size ≤ ((3 : Int32)).toNatClampNeg) := inb_of S789 ⟨by decide, hc787.1⟩
          have hat789 : cl789.slots[((3 : Int32)).toNatClampNeg]? = some (.int (own_b b0 b1 b2 b3 (3 : Int32))) := H789.at hin789 (own_is_getD _ _)
          obtain ⟨cl790, Ar790, -, S790, N790', -, -⟩ := id f9
          obtain ⟨_, _, ⟨T791, L791, k791, n791⟩, -, X791, ⟨Lc791, hQ791, l791, y791, z791⟩, st791⟩ := Jvm.LawKit.callS X782 hx (y := (⟨"com/example/rank_keeper/rankkeeper/BodyLines", "isBlank", "([BII)Z"⟩ : MethodName)) hown (mvT hZ (kw66 hw)) (mvT hZ (kw67 hw)) (mvT hZ (kw3 hw)) (mvT hZ (kw68 hw)) (by decide) (backOf (W := 0) (rmBl_3 l Z a0 hw [] a1 (4 : Int32) nn b0 b1 b2 b3 kk T7.heap n0 Z7 f9 hn (own_lt1 hc787.1 (by decide))) hZ (kw68 hw) (kw3 hw) (by decide) (by decide)) (g := (mkF m 57 #[.val (.ref a1), .val (.ref b4), .val (.int 4), .val (.int 3), .val (.int 4)] [(.int 4), (.int 3), (.ref a1)])) rfl (by rw [hml]; rfl) (argsL := [(.ref a1), (.int 3), (.int 4)]) (rest := []) (lenOf pd_3 rfl) rfl (by show 2 * 0 + _ ≤ _; exact Nat.le_of_eq rfl) (hb hby d1_57) (fun _ _ => ⟨rfl, e782, (by decide : 3 + 0 ≤ _), (by decide : 23 + 0 ≤ _)⟩)
          dsimp only [Pt.U, Pt.locs, Pt.cells, Pt.slots] at X791 l791 y791 z791 st791 hQ791
          subst l791 y791 z791
          obtain ⟨rfl, N791q, e791⟩ := hQ791
          have N791 := Fr.app N782 N791q
          have pre792 : ∀ t, Steps p.tables e below (T791.setTop (mkF m 60 #[.val (.ref a1), .val (.ref b4), .val (.int 4), .val (.int 3), .val (.int 4)] [(.int (own_bl_3 b0 b1 b2 b3 (4 : Int32)))])) t → Steps p.tables e below (s₁.setTop (entryFrame m #[(.ref a1)] 5)) t := fun t k => pre786 t (by
            refine XS.iload X782.here hx rfl (hb hby d1_31) rfl ?_
            refine XS.aloadN X782.here hx rfl (hb hby d1_33) rfl rfl ?_
            refine X782.arraylength hx (by rw [e782]; exact Ar788.1) (State.isArrayOf_alike hZ.alike Ar788.2.1) (g := (mkF m 34 #[.val (.ref a1), .val (.ref b4), .val (.int 4), .val (.int 3), .val (.int 3)] [(.ref a1), (.int 3)])) rfl rfl (hb hby d1_34) _ ?_
            rw [len_of S788 N788']
            refine XS.icmpNo X782.here hx rfl (hb hby d1_35) rfl (tlt hc787.1).2.1 ?_
            refine XS.aloadN X782.here hx rfl (hb hby d1_38) rfl rfl ?_
            refine XS.iload X782.here hx rfl (hb hby d1_39) rfl ?_
            refine X782.baloadBytes hx (j := (3 : Int32)) (v := (.int (own_b b0 b1 b2 b3 (3 : Int32)))) (by rw [e782]; exact Ar789.1) (State.isArrayOf_alike hZ.alike Ar789.2.1) Ar789.2.2 hin789 hat789 (g := (mkF m 41 #[.val (.ref a1), .val (.ref b4), .val (.int 4), .val (.int 3), .val (.int 3)] [(.int 3), (.ref a1)])) rfl rfl (hb hby d1_41) _ ?_
            refine XS.bipush X782.here hx rfl (hb hby d1_42) ?_
            refine XS.icmpNo X782.here hx rfl (hb hby d1_44) rfl (feq hc787.2).1 ?_
            refine XS.iinc X782.here hx rfl (hb hby d1_47) rfl (l' := #[.val (.ref a1), .val (.ref b4), .val (.int 4), .val (.int 3), .val (.int 4)]) rfl ?_
            refine XS.goto X782.here hx rfl (pc0 := 50) (pc' := 31) rfl (hb hby d1_50) (by decide) (by decide) ?_
            refine XS.iload X782.here hx rfl (hb hby d1_31) rfl ?_
            refine XS.aloadN X782.here hx rfl (hb hby d1_33) rfl rfl ?_
            refine X782.arraylength hx (by rw [e782]; exact Ar790.1) (State.isArrayOf_alike hZ.alike Ar790.2.1) (g := (mkF m 34 #[.val (.ref a1), .val (.ref b4), .val (.int 4), .val (.int 3), .val (.int 4)] [(.ref a1), (.int 4)])) rfl rfl (hb hby d1_34) _ ?_
            rw [len_of S790 N790']
            refine XS.icmpYes X782.here hx rfl (pc0 := 35) (pc' := 53) rfl (hb hby d1_35) rfl (flt (own_ge4 hn (by decide))).2.1 (by decide) (by decide) ?_
            refine XS.aloadN X782.here hx rfl (hb hby d1_53) rfl rfl ?_
            refine XS.iloadN X782.here hx rfl (hb hby d1_54) rfl ?_
            refine XS.iload X782.here hx rfl (hb hby d1_55) rfl ?_
            refine st791 _ ?_
            exact k)
          by_cases hc793 : (own_bl_3 b0 b1 b2 b3 (4 : Int32)) = (0 : Int32)
          ·skip
           have f795 := (A4.keep Kq7)
           have f796 := ((f6.ext E4).keep Kq7 (ninS ne4_w_DEF nin0))
           obtain ⟨T794, h794, X794, e794, E794, A794, D794, -, st794⟩ := newO X791 hx hZ hown (kw69 hw) (kw70 hw) (kw71 hw) e791 (g := (mkF m 64 #[.val (.ref a1), .val (.ref b4), .val (.int 4), .val (.int 3), .val (.int 4)] [(.ref b4)])) rfl (hb hby d1_64) (by decide) (by decide)
           obtain ⟨b794, g794⟩ : ∃ z, z = T7.heap.size := ⟨_, rfl⟩
           rw [← g794] at A794 D794 st794
           have ne794_a1 : a1 ≠ b794 := Nat.ne_of_lt (Nat.lt_of_lt_of_le f9.lt (Nat.le_of_eq g794.symm))
           have ne794_b4 : b4 ≠ b794 := Nat.ne_of_lt (Nat.lt_of_lt_of_le f795.lt (Nat.le_of_eq g794.symm))
           have ne794_w_DEF : w_DEF ≠ b794 := Nat.ne_of_lt (Nat.lt_of_lt_of_le f796.lt (Nat.le_of_eq g794.symm))
           have g_b794 : n0 ≤ b794 := Nat.le_trans Z7 (Nat.le_of_eq g794.symm)
           have sz_b794 : h0.size ≤ b794 := Nat.le_trans K7.1 (Nat.le_of_eq g794.symm)
           have Z794 : n0 ≤ h794.size := Nat.le_trans Z7 E794.1
           have Y794 : kS2 ≤ h794.size := Nat.le_trans Y7 E794.1
           have K794 : Keep h0 h794 [] := K7.ext E794
           have F794_number : Fld Z h794 b794 "com/example/rank_keeper/rankkeeper/BodyLines$Line" "number" "I" (.int 0) := D794 (Or.inr (kw82 hw)) (ty := .int) (by decide)
           have F794_offset : Fld Z h794 b794 "com/example/rank_keeper/rankkeeper/BodyLines$Line" "offset" "I" (.int 0) := D794 (Or.inr (kw84 hw)) (ty := .int) (by decide)
           have F794_length : Fld Z h794 b794 "com/example/rank_keeper/rankkeeper/BodyLines$Line" "length" "I" (.int 0) := D794 (Or.inr (kw86 hw)) (ty := .int) (by decide)
           obtain ⟨_, _, ⟨T797, L797, k797, n797⟩, -, X797, ⟨Lc797, hQ797, l797, y797, z797⟩, st797⟩ := X794.specialBack hx (y := (⟨"com/example/rank_keeper/rankkeeper/BodyLines$Line", "<init>", "(III)V"⟩ : MethodName)) rfl hown (mvT hZ (kw72 hw)) (mvT hZ (kw73 hw)) (mvT hZ (kw74 hw)) (by decide) (backOf (W := 2) (rm13 l Z a0 hw [] b794 (4 : Int32) (3 : Int32) (1 : Int32) h794 n0 Z794 A794 g_b794 F794_number F794_offset F794_length) hZ (kw74 hw) (kw71 hw) (by decide) (by decide)) (g := (mkF m 74 #[.val (.ref a1), .val (.ref b4), .val (.int 4), .val (.int 3), .val (.int 4)] [(.int 1), (.int 3), (.int 4), (.ref b794), (.ref b794), (.ref b4)])) rfl (by rw [hml]; rfl) (Steps.refl _) (a := b794) (argsL := [(.int 4), (.int 3), (.int 1)]) (rest := [(.ref b794), (.ref b4)]) (lenOf pd_13 rfl) rfl (by show 2 * 0 + _ ≤ _; exact Nat.le_of_eq rfl) (hb hby d1_74) (fun _ _ => ⟨rfl, e794, (by decide : 4 + 0 ≤ _), (by decide : 26 + 0 ≤ _)⟩)
           dsimp only [Pt.U, Pt.locs, Pt.cells, Pt.slots] at X797 l797 y797 z797 st797 hQ797
           subst l797 y797 z797
           obtain ⟨rfl, N797q, Kq797, p797_0, p797_1, p797_2⟩ := hQ797
           have N797 := Fr.app N791 N797q
           have Z797 : n0 ≤ T797.heap.size := Nat.le_trans Z794 Kq797.1
           have Y797 : kS2 ≤ T797.heap.size := Nat.le_trans Y794 Kq797.1
           have K797 : Keep h0 T797.heap [] := K794.trans Kq797 (allS (Or.inr sz_b794) all0)
           have f799 := (((f8.keep Kq7 (allS g_b4 all0)).ext E794).keep Kq797 (allS g_b794 all0))
           have f800 := ((f795.ext E794).keep Kq797)
           have f801 := (A794.keep Kq797)
           have f802 := ((p7_1.ext E794).keep Kq797 (ninS ne794_b4 nin0))
           have f803 := ((p7_2.ext E794).keep Kq797 (ninS ne794_b4 nin0))
           have f804 := ((p7_0.ext E794).keep Kq797 (ninS ne794_b4 nin0))
           have f805 := ((f796.ext E794).keep Kq797 (ninS ne794_w_DEF nin0))
           have f806 := ((f9.ext E794).keep Kq797 (ninS ne794_a1 nin0))
           obtain ⟨cq798, kq798, q798a, q798b, q798c⟩ := isOf hZ rfl f800
           obtain ⟨_, _, ⟨T798, L798, k798, n798⟩, -, X798, ⟨Lc798, hQ798, l798, y798, z798⟩, st798⟩ := X797.interfaceBack hx (xi := (⟨"java/util/List", "add", "(Ljava/lang/Object;)Z"⟩ : MethodName)) (y := (⟨"java/util/ArrayList", "add", "(Ljava/lang/Object;)Z"⟩ : MethodName)) hown (mvT hZ (kw87 hw)) (mvT hZ (kw88 hw)) (mvT hZ (kw89 hw)) (mvT hZ (kw90 hw)) (mvT hZ (kw91 hw)) (mvT hZ (kw92 hw)) (mvT hZ (kw93 hw)) (mvT hZ (kw56 hw)) (by decide) (backOf (W := 0) (rmAdd0 l Z a0 hw [] b4 b794 w_DEF kD (0 : Int32) T797.heap n0 Z797 f799 P1 f800 g_b4 f801 f802 f803 f804 f805 ne4_w_DEF) hZ (kw94 hw) (kw18 hw) (by decide) (by decide)) q798a q798b q798c (g := (mkF m 77 #[.val (.ref a1), .val (.ref b4), .val (.int 4), .val (.int 3), .val (.int 4)] [(.ref b794), (.ref b4)])) rfl (by rw [hml]; rfl) (Steps.refl _) (argsL := [(.ref b794)]) (rest := []) (lenOf pd_14 rfl) rfl (by show 2 * 0 + _ ≤ _; exact Nat.le_of_eq rfl) (hb hby d1_77) (fun _ _ => ⟨rfl, rfl, (by decide : 4 + 1 ≤ _), (by decide : 26 + 10 ≤ _)⟩)
           dsimp only [Pt.U, Pt.locs, Pt.cells, Pt.slots] at X798 l798 y798 z798 st798 hQ798
           subst l798 y798 z798
           obtain ⟨ed_798, kd_798, rfl, N798q, Kq798, p798_0, p798_1, p798_2, p798_3, p798_4, p798_5, p798_6⟩ := hQ798
           have N798 := Fr.app N797 N798q
           have Z798 : n0 ≤ T798.heap.size := Nat.le_trans Z797 Kq798.1
           have Y798 : kS2 ≤ T798.heap.size := Nat.le_trans Y797 Kq798.1
           have K798 : Keep h0 T798.heap [] := K797.trans Kq798 (allS (Or.inr sz_b4) all0)
           have sz_ed_798 : h0.size ≤ ed_798 := Nat.le_trans K797.1 p798_1
           have ne798_a1_ed_798 : a1 ≠ ed_798 := Nat.ne_of_lt (Nat.lt_of_lt_of_le f806.lt p798_1)
           have ne798_b4_ed_798 : b4 ≠ ed_798 := Nat.ne_of_lt (Nat.lt_of_lt_of_le f800.lt p798_1)
           have ne798_b794_ed_798 : b794 ≠ ed_798 := Nat.ne_of_lt (Nat.lt_of_lt_of_le f801.lt p798_1)
           have ne798_w_DEF_ed_798 : w_DEF ≠ ed_798 := Nat.ne_of_lt (Nat.lt_of_lt_of_le f805.lt p798_1)
           have f807 := (f806.keep Kq798 (ninS ne4_a1 nin0))
           obtain ⟨cl808, Ar808, -, S808, N808', -, -⟩ := id f807
           have hsp : own_split nn b0 b1 b2 b3 = [((4 : Int32), (3 : Int32), (1 : Int32))] := by unfold own_split; rw [if_pos hc12, if_neg hc14, if_pos hc510, if_neg hc512, if_pos hc711, if_neg hc713, if_pos hc785, if_pos hc787, if_pos hc793]
           have f809 := (f800.keep Kq798)
           have f810 := (f801.keep Kq798)
           have f811 := (p797_0.keep Kq798 (ninS (Ne.symm ne794_b4) nin0))
           have f812 := (p797_1.keep Kq798 (ninS (Ne.symm ne794_b4) nin0))
           have f813 := (p797_2.keep Kq798 (ninS (Ne.symm ne794_b4) nin0))
           obtain ⟨fs, hr, hrun, hended, hRE⟩ := X798.leaveW hS2 Y798 (v := some (.ref b4)) (fun h => by rw [Bd.returns] at h; cases h)
           refine ⟨_, _, pre792 _ ?_, hrun, hended, _, _, rfl, ?_, hRE.1, hRE.2.1, hRE.2.2.1, hRE.2.2.2.mono (by decide) (by decide)⟩
           · skip
             refine XS.ifNo X791.here hx rfl (hb hby d1_60) rfl ((if0 _ _).trans (teq hc793).2) ?_
             refine XS.aloadN X791.here hx rfl (hb hby d1_63) rfl rfl ?_
             refine st794 _ ?_
             refine XS.dup X794.here hx rfl (hb hby d1_67) rfl rfl ?_
             refine XS.iloadN X794.here hx rfl (hb hby d1_68) rfl ?_
             refine XS.iloadN X794.here hx rfl (hb hby d1_69) rfl ?_
             refine XS.iload X794.here hx rfl (hb hby d1_70) rfl ?_
             refine XS.iloadN X794.here hx rfl (hb hby d1_72) rfl ?_
             refine XS.isub X794.here hx rfl (hb hby d1_73) rfl ?_
             refine st797.trans ?_
             refine st798.trans ?_
             refine XS.pop X798.here hx rfl (hb hby d1_82) rfl rfl ?_
             refine XS.iload X798.here hx rfl (hb hby d1_83) rfl ?_
             refine XS.iconst X798.here hx rfl (hb hby d1_85) ?_
             refine XS.iadd X798.here hx rfl (hb hby d1_86) rfl ?_
             refine XS.istoreN X798.here hx rfl (hb hby d1_87) rfl (l' := #[.val (.ref a1), .val (.ref b4), .val (.int 4), .val (.int 5), .val (.int 4)]) rfl ?_
             refine XS.goto X798.here hx rfl (pc0 := 88) (pc' := 19) rfl (hb hby d1_88) (by decide) (by decide) ?_
             refine XS.iloadN X798.here hx rfl (hb hby d1_19) rfl ?_
             refine XS.aloadN X798.here hx rfl (hb hby d1_20) rfl rfl ?_
             refine X798.arraylength hx Ar808.1 (State.isArrayOf_alike hZ.alike Ar808.2.1) (g := (mkF m 21 #[.val (.ref a1), .val (.ref b4), .val (.int 4), .val (.int 5), .val (.int 4)] [(.ref a1), (.int 5)])) rfl rfl (hb hby d1_21) _ ?_
             rw [len_of S808 N808']
             refine XS.icmpYes X798.here hx rfl (pc0 := 22) (pc' := 91) rfl (hb hby d1_22) rfl (flt (own_ge4 hn (by decide))).2.1 (by decide) (by decide) ?_
             refine XS.aloadN X798.here hx rfl (hb hby d1_91) rfl rfl ?_
             show Steps p.tables e below (T798.setTop (mkF m 92 #[.val (.ref a1), .val (.ref b4), .val (.int 4), .val (.int 5), .val (.int 4)] [(.ref b4)])) _
             jvm_step X798.here [X798.here.top, hx, (hb hby d1_92), X798.method', Bd.returns, Value.isRef, FieldType.isReference]
             first | (intro acts; rw [hr _ acts rfl rfl rfl]) | rw [hr _ _ rfl rfl rfl]
             exact Steps.refl _
           · show Q_rmSplit Z a1 nn b0 b1 b2 b3 kk w_DEF kD h0 n0 _ T798.heap _
             exact ⟨b4, rfl, N798, K798, g_b4, sz_b4, f809, (by rw [hsp]; exact p798_4), (by rw [hsp]; exact own_lines1 p798_5 p798_2 f810 f811 f812 f813)⟩
          ·skip
           obtain ⟨cl815, Ar815, -, S815, N815', -, -⟩ := id f9
           have hsp : own_split nn b0 b1 b2 b3 = [] := by unfold own_split; rw [if_pos hc12, if_neg hc14, if_pos hc510, if_neg hc512, if_pos hc711, if_neg hc713, if_pos hc785, if_pos hc787, if_neg hc793]
           have f816 := (A4.keep Kq7)
           obtain ⟨fs, hr, hrun, hended, hRE⟩ := X791.leaveW hS2 (by rw [e791]; exact Y7) (v := some (.ref b4)) (fun h => by rw [Bd.returns] at h; cases h)
           refine ⟨_, _, pre792 _ ?_, hrun, hended, _, _, rfl, ?_, hRE.1, hRE.2.1, hRE.2.2.1, hRE.2.2.2.mono (by decide) (by decide)⟩
           · skip
             refine XS.ifYes X791.here hx rfl (pc0 := 60) (pc' := 83) rfl (hb hby d1_60) rfl ((if0 _ _).trans (feq hc793).2) (by decide) (by decide) ?_
             refine XS.iload X791.here hx rfl (hb hby d1_83) rfl ?_
             refine XS.iconst X791.here hx rfl (hb hby d1_85) ?_
             refine XS.iadd X791.here hx rfl (hb hby d1_86) rfl ?_
             refine XS.istoreN X791.here hx rfl (hb hby d1_87) rfl (l' := #[.val (.ref a1), .val (.ref b4), .val (.int 4), .val (.int 5), .val (.int 4)]) rfl ?_
             refine XS.goto X791.here hx rfl (pc0 := 88) (pc' := 19) rfl (hb hby d1_88) (by decide) (by decide) ?_
             refine XS.iloadN X791.here hx rfl (hb hby d1_19) rfl ?_
             refine XS.aloadN X791.here hx rfl (hb hby d1_20) rfl rfl ?_
             refine X791.arraylength hx (by rw [e791]; exact Ar815.1) (State.isArrayOf_alike hZ.alike Ar815.2.1) (g := (mkF m 21 #[.val (.ref a1), .val (.ref b4), .val (.int 4), .val (.int 5), .val (.int 4)] [(.ref a1), (.int 5)])) rfl rfl (hb hby d1_21) _ ?_
             rw [len_of S815 N815']
             refine XS.icmpYes X791.here hx rfl (pc0 := 22) (pc' := 91) rfl (hb hby d1_22) rfl (flt (own_ge4 hn (by decide))).2.1 (by decide) (by decide) ?_
             refine XS.aloadN X791.here hx rfl (hb hby d1_91) rfl rfl ?_
             show Steps p.tables e below (T791.setTop (mkF m 92 #[.val (.ref a1), .val (.ref b4), .val (.int 4), .val (.int 5), .val (.int 4)] [(.ref b4)])) _
             jvm_step X791.here [X791.here.top, hx, (hb hby d1_92), X791.method', Bd.returns, Value.isRef, FieldType.isReference]
             first | (intro acts; rw [hr _ acts rfl rfl rfl]) | rw [hr _ _ rfl rfl rfl]
             exact Steps.refl _
           · show Q_rmSplit Z a1 nn b0 b1 b2 b3 kk w_DEF kD h0 n0 _ T791.heap _
             rw [e791]
             exact ⟨b4, rfl, N791, K7, g_b4, sz_b4, f816, (by rw [hsp]; exact p7_2), (by rw [hsp]; exact own_lines0)⟩
         ·skip
          obtain ⟨cl818, Ar818, -, S818, N818', -, -⟩ := id f9
          obtain ⟨cl819, Ar819, q819, S819, N819', H819, G819⟩ := id f9
          have hin819 : ¬ ((3 : Int32) < 0 ∨ cl819.slots.size ≤ ((3 : Int32)).toNatClampNeg) := inb_of S819 ⟨by decide, hc785⟩
          have hat819 : cl819.slots[((3 : Int32)).toNatClampNeg]? = some (.int (own_b b0 b1 b2 b3 (3 : Int32))) := H819.at hin819 (own_is_getD _ _)
          obtain ⟨_, _, ⟨T820, L820, k820, n820⟩, -, X820, ⟨Lc820, hQ820, l820, y820, z820⟩, st820⟩ := Jvm.LawKit.callS X782 hx (y := (⟨"com/example/rank_keeper/rankkeeper/BodyLines", "isBlank", "([BII)Z"⟩ : MethodName)) hown (mvT hZ (kw66 hw)) (mvT hZ (kw67 hw)) (mvT hZ (kw3 hw)) (mvT hZ (kw68 hw)) (by decide) (backOf (W := 0) (rmBl_3 l Z a0 hw [] a1 (3 : Int32) nn b0 b1 b2 b3 kk T7.heap n0 Z7 f9 hn (own_lt1 hc711 (by decide))) hZ (kw68 hw) (kw3 hw) (by decide) (by decide)) (g := (mkF m 57 #[.val (.ref a1), .val (.ref b4), .val (.int 4), .val (.int 3), .val (.int 3)] [(.int 3), (.int 3), (.ref a1)])) rfl (by rw [hml]; rfl) (argsL := [(.ref a1), (.int 3), (.int 3)]) (rest := []) (lenOf pd_3 rfl) rfl (by show 2 * 0 + _ ≤ _; exact Nat.le_of_eq rfl) (hb hby d1_57) (fun _ _ => ⟨rfl, e782, (by decide : 3 + 0 ≤ _), (by decide : 23 + 0 ≤ _)⟩)
          dsimp only [Pt.U, Pt.locs, Pt.cells, Pt.slots] at X820 l820 y820 z820 st820 hQ820
          subst l820 y820 z820
          obtain ⟨rfl, N820q, e820⟩ := hQ820
          have N820 := Fr.app N782 N820q
          obtain ⟨cl821, Ar821, -, S821, N821', -, -⟩ := id f9
          have hsp : own_split nn b0 b1 b2 b3 = [] := by unfold own_split; rw [if_pos hc12, if_neg hc14, if_pos hc510, if_neg hc512, if_pos hc711, if_neg hc713, if_pos hc785, if_neg hc787]
          have f822 := (A4.keep Kq7)
          obtain ⟨fs, hr, hrun, hended, hRE⟩ := X820.leaveW hS2 (by rw [e820]; exact Y7) (v := some (.ref b4)) (fun h => by rw [Bd.returns] at h; cases h)
          refine ⟨_, _, pre786 _ ?_, hrun, hended, _, _, rfl, ?_, hRE.1, hRE.2.1, hRE.2.2.1, hRE.2.2.2.mono (by decide) (by decide)⟩
          · skip
            refine XS.iload X782.here hx rfl (hb hby d1_31) rfl ?_
            refine XS.aloadN X782.here hx rfl (hb hby d1_33) rfl rfl ?_
            refine X782.arraylength hx (by rw [e782]; exact Ar818.1) (State.isArrayOf_alike hZ.alike Ar818.2.1) (g := (mkF m 34 #[.val (.ref a1), .val (.ref b4), .val (.int 4), .val (.int 3), .val (.int 3)] [(.ref a1), (.int 3)])) rfl rfl (hb hby d1_34) _ ?_
            rw [len_of S818 N818']
            refine XS.icmpNo X782.here hx rfl (hb hby d1_35) rfl (tlt hc785).2.1 ?_
            refine XS.aloadN X782.here hx rfl (hb hby d1_38) rfl rfl ?_
            refine XS.iload X782.here hx rfl (hb hby d1_39) rfl ?_
            refine X782.baloadBytes hx (j := (3 : Int32)) (v := (.int (own_b b0 b1 b2 b3 (3 : Int32)))) (by rw [e782]; exact Ar819.1) (State.isArrayOf_alike hZ.alike Ar819.2.1) Ar819.2.2 hin819 hat819 (g := (mkF m 41 #[.val (.ref a1), .val (.ref b4), .val (.int 4), .val (.int 3), .val (.int 3)] [(.int 3), (.ref a1)])) rfl rfl (hb hby d1_41) _ ?_
            refine XS.bipush X782.here hx rfl (hb hby d1_42) ?_
            refine XS.icmpYes X782.here hx rfl (pc0 := 44) (pc' := 53) rfl (hb hby d1_44) rfl (teq (Decidable.byContradiction fun q => hc787 ⟨hc785, q⟩)).1 (by decide) (by decide) ?_
            refine XS.aloadN X782.here hx rfl (hb hby d1_53) rfl rfl ?_
            refine XS.iloadN X782.here hx rfl (hb hby d1_54) rfl ?_
            refine XS.iload X782.here hx rfl (hb hby d1_55) rfl ?_
            refine st820 _ ?_
            refine XS.ifYes X820.here hx rfl (pc0 := 60) (pc' := 83) rfl (hb hby d1_60) rfl ((if0 _ _).trans (feq (own_bls3 b0 b1 b2 b3)).2) (by decide) (by decide) ?_
            refine XS.iload X820.here hx rfl (hb hby d1_83) rfl ?_
            refine XS.iconst X820.here hx rfl (hb hby d1_85) ?_
            refine XS.iadd X820.here hx rfl (hb hby d1_86) rfl ?_
            refine XS.istoreN X820.here hx rfl (hb hby d1_87) rfl (l' := #[.val (.ref a1), .val (.ref b4), .val (.int 4), .val (.int 4), .val (.int 3)]) rfl ?_
            refine XS.goto X820.here hx rfl (pc0 := 88) (pc' := 19) rfl (hb hby d1_88) (by decide) (by decide) ?_
            refine XS.iloadN X820.here hx rfl (hb hby d1_19) rfl ?_
            refine XS.aloadN X820.here hx rfl (hb hby d1_20) rfl rfl ?_
            refine X820.arraylength hx (by rw [e820]; exact Ar821.1) (State.isArrayOf_alike hZ.alike Ar821.2.1) (g := (mkF m 21 #[.val (.ref a1), .val (.ref b4), .val (.int 4), .val (.int 4), .val (.int 3)] [(.ref a1), (.int 4)])) rfl rfl (hb hby d1_21) _ ?_
            rw [len_of S821 N821']
            refine XS.icmpYes X820.here hx rfl (pc0 := 22) (pc' := 91) rfl (hb hby d1_22) rfl (flt (own_ge4 hn (by decide))).2.1 (by decide) (by decide) ?_
            show Steps p.tables e below (T820.setTop (mkF m 91 #[.val (.ref a1), .val (.ref b4), .val (.int 4), .val (.int 4), .val (.int 3)] [])) _
            refine XS.aloadN X820.here hx rfl (hb hby d1_91) rfl rfl ?_
            show Steps p.tables e below (T820.setTop (mkF m 92 #[.val (.ref a1), .val (.ref b4), .val (.int 4), .val (.int 4), .val (.int 3)] [(.ref b4)])) _
            jvm_step X820.here [X820.here.top, hx, (hb hby d1_92), X820.method', Bd.returns, Value.isRef, FieldType.isReference]
            first | (intro acts; rw [hr _ acts rfl rfl rfl]) | rw [hr _ _ rfl rfl rfl]
            exact Steps.refl _
          · show Q_rmSplit Z a1 nn b0 b1 b2 b3 kk w_DEF kD h0 n0 _ T820.heap _
            rw [e820]
            exact ⟨b4, rfl, N820, K7, g_b4, sz_b4, f822, (by rw [hsp]; exact p7_2), (by rw [hsp]; exact own_lines0)⟩
        ·skip
         have hsp : own_split nn b0 b1 b2 b3 = [] := by unfold own_split; rw [if_pos hc12, if_neg hc14, if_pos hc510, if_neg hc512, if_pos hc711, if_neg hc713, if_neg hc785]
         have f824 := (A4.keep Kq7)
         obtain ⟨fs, hr, hrun, hended, hRE⟩ := X782.leaveW hS2 (by rw [e782]; exact Y7) (v := some (.ref b4)) (fun h => by rw [Bd.returns] at h; cases h)
         refine ⟨_, _, pre784 _ ?_, hrun, hended, _, _, rfl, ?_, hRE.1, hRE.2.1, hRE.2.2.1, hRE.2.2.2.mono (by decide) (by decide)⟩
         · skip
           refine XS.icmpYes X782.here hx rfl (pc0 := 22) (pc' := 91) rfl (hb hby d1_22) rfl (flt hc785).2.1 (by decide) (by decide) ?_
           refine XS.aloadN X782.here hx rfl (hb hby d1_91) rfl rfl ?_
           show Steps p.tables e below (T782.setTop (mkF m 92 #[.val (.ref a1), .val (.ref b4), .val (.int 3), .val (.int 3), .val (.int 2)] [(.ref b4)])) _
           jvm_step X782.here [X782.here.top, hx, (hb hby d1_92), X782.method', Bd.returns, Value.isRef, FieldType.isReference]
           first | (intro acts; rw [hr _ acts rfl rfl rfl]) | rw [hr _ _ rfl rfl rfl]
           exact Steps.refl _
         · show Q_rmSplit Z a1 nn b0 b1 b2 b3 kk w_DEF kD h0 n0 _ T782.heap _
           rw [e782]
           exact ⟨b4, rfl, N782, K7, g_b4, sz_b4, f824, (by rw [hsp]; exact p7_2), (by rw [hsp]; exact own_lines0)⟩
      ·skip
       have hsp : own_split nn b0 b1 b2 b3 = [] := by unfold own_split; rw [if_pos hc12, if_neg hc14, if_pos hc510, if_neg hc512, if_neg hc711]
       have f826 := (A4.keep Kq7)
       obtain ⟨fs, hr, hrun, hended, hRE⟩ := X708.leaveW hS2 (by rw [e708]; exact Y7) (v := some (.ref b4)) (fun h => by rw [Bd.returns] at h; cases h)
       refine ⟨_, _, pre710 _ ?_, hrun, hended, _, _, rfl, ?_, hRE.1, hRE.2.1, hRE.2.2.1, hRE.2.2.2.mono (by decide) (by decide)⟩
       · skip
         refine XS.icmpYes X708.here hx rfl (pc0 := 22) (pc' := 91) rfl (hb hby d1_22) rfl (flt hc711).2.1 (by decide) (by decide) ?_
         refine XS.aloadN X708.here hx rfl (hb hby d1_91) rfl rfl ?_
         show Steps p.tables e below (T708.setTop (mkF m 92 #[.val (.ref a1), .val (.ref b4), .val (.int 2), .val (.int 2), .val (.int 1)] [(.ref b4)])) _
         jvm_step X708.here [X708.here.top, hx, (hb hby d1_92), X708.method', Bd.returns, Value.isRef, FieldType.isReference]
         first | (intro acts; rw [hr _ acts rfl rfl rfl]) | rw [hr _ _ rfl rfl rfl]
         exact Steps.refl _
       · show Q_rmSplit Z a1 nn b0 b1 b2 b3 kk w_DEF kD h0 n0 _ T708.heap _
         rw [e708]
         exact ⟨b4, rfl, N708, K7, g_b4, sz_b4, f826, (by rw [hsp]; exact p7_2), (by rw [hsp]; exact own_lines0)⟩
    ·skip
     have hsp : own_split nn b0 b1 b2 b3 = [] := by unfold own_split; rw [if_pos hc12, if_neg hc14, if_neg hc510]
     have f828 := (A4.keep Kq7)
     obtain ⟨fs, hr, hrun, hended, hRE⟩ := X507.leaveW hS2 (by rw [e507]; exact Y7) (v := some (.ref b4)) (fun h => by rw [Bd.returns] at h; cases h)
     refine ⟨_, _, pre509 _ ?_, hrun, hended, _, _, rfl, ?_, hRE.1, hRE.2.1, hRE.2.2.1, hRE.2.2.2.mono (by decide) (by decide)⟩
     · skip
       refine XS.icmpYes X507.here hx rfl (pc0 := 22) (pc' := 91) rfl (hb hby d1_22) rfl (flt hc510).2.1 (by decide) (by decide) ?_
       refine XS.aloadN X507.here hx rfl (hb hby d1_91) rfl rfl ?_
       show Steps p.tables e below (T507.setTop (mkF m 92 #[.val (.ref a1), .val (.ref b4), .val (.int 1), .val (.int 1), .val (.int 0)] [(.ref b4)])) _
       jvm_step X507.here [X507.here.top, hx, (hb hby d1_92), X507.method', Bd.returns, Value.isRef, FieldType.isReference]
       first | (intro acts; rw [hr _ acts rfl rfl rfl]) | rw [hr _ _ rfl rfl rfl]
       exact Steps.refl _
     · show Q_rmSplit Z a1 nn b0 b1 b2 b3 kk w_DEF kD h0 n0 _ T507.heap _
       rw [e507]
       exact ⟨b4, rfl, N507, K7, g_b4, sz_b4, f828, (by rw [hsp]; exact p7_2), (by rw [hsp]; exact own_lines0)⟩
  ·skip
   have hsp : own_split nn b0 b1 b2 b3 = [] := by unfold own_split; rw [if_neg hc12]
   have f830 := (A4.keep Kq7)
   obtain ⟨fs, hr, hrun, hended, hRE⟩ := X7.leaveW hS2 Y7 (v := some (.ref b4)) (fun h => by rw [Bd.returns] at h; cases h)
   refine ⟨_, _, pre11 _ ?_, hrun, hended, _, _, rfl, ?_, hRE.1, hRE.2.1, hRE.2.2.1, hRE.2.2.2.mono (by decide) (by decide)⟩
   · skip
     refine XS.icmpYes X7.here hx rfl (pc0 := 22) (pc' := 91) rfl (hb hby d1_22) rfl (flt hc12).2.1 (by decide) (by decide) ?_
     refine XS.aloadN X7.here hx rfl (hb hby d1_91) rfl rfl ?_
     show Steps p.tables e below (T7.setTop (mkF m 92 #[.val (.ref a1), .val (.ref b4), .val (.int 0), .val (.int 0), .unset] [(.ref b4)])) _
     jvm_step X7.here [X7.here.top, hx, (hb hby d1_92), X7.method', Bd.returns, Value.isRef, FieldType.isReference]
     first | (intro acts; rw [hr _ acts rfl rfl rfl]) | rw [hr _ _ rfl rfl rfl]
     exact Steps.refl _
   · show Q_rmSplit Z a1 nn b0 b1 b2 b3 kk w_DEF kD h0 n0 _ T7.heap _
     exact ⟨b4, rfl, N7, K7, g_b4, sz_b4, f830, (by rw [hsp]; exact p7_2), (by rw [hsp]; exact own_lines0)⟩
theorem ef_rm0 (m : MethodId) (x0 : Int32) (x1 : Int32) (x2 : Int32) : entryFrame m #[(.int x0), (.int x1), (.int x2)] maxLocals = mkF m 0 #[.val (.int x0), .val (.int x1), .val (.int x2), .unset, .unset, .unset, .unset, .unset, .unset, .unset, .unset] [] := by first | (simp [entryFrame, mkF, argsToLocals, Value.category, maxLocals]; done) | rfl
def Q_rm0 (Z : State) (p1 : Int32) (p2 : Int32) (p3 : Int32) (w_DEF : Addr) (kD : ClassId) (h0 : Heap) (n0 : Nat) (v : Option Value) (h : Heap) (L : List Loc) : Prop := v = some (.int 1) ∧ Fr n0 L ∧ Keep h0 h []
set_option maxRecDepth 65536 in
set_option maxHeartbeats 40000000 in
theorem rm0 (l : Launch) (Z : State) (a0 : Array Value) (hw : ∀ d ∈ own_tab, d.before a0 Z = true) (ws : List Jvm.Cond) (p1 : Int32) (p2 : Int32) (p3 : Int32) (w_DEF : Addr) (kD : ClassId) (h0 : Heap) (n0 : Nat) (Z0 : n0 ≤ h0.size) (P0 : Old Z n0 h0) (P1 : Sta Z Z.heap "java/util/ArrayList" "DEFAULTCAPACITY_EMPTY_ELEMENTDATA" "[Ljava/lang/Object;" (.ref w_DEF)) (P2 : Arv Z h0 w_DEF kD (.object "java/lang/Object") (0 : Int32) [] .null) :
    MetFree l x (head1 (Jvm.Cond.code x code maxLocals ret :: ws) room_1) (fun a U => a = #[(.int p1), (.int p2), (.int p3)] ∧ Z.Warmed39 U.vm ∧ U.heap = h0) (fun _ _ _ _ _ => True) (fun _ U o U' => ∃ v L, o = .returned v ∧ Q_rm0 Z p1 p2 p3 w_DEF kD h0 n0 v U'.heap L ∧ ReturnedEndW U o U' L room_1.cells room_1.slots) := by
  refine MetFree.of_bodySF (plainFor_of_name pn_0) hisR ?_
  intro p e s m args below meth c s₁ Bd hml0 hP hK
  obtain ⟨rfl, hZ, hh⟩ := hP
  have hx := Bd.exec
  have hby := Bd.bytes
  have hml : c.maxLocals = 11 := hml0
  have hown : s.vm.findClass "com/example/rank_keeper/rankkeeper/BodyLinesSplitPinLaw" = some m.cls := findClass_of_methodNamed Bd.named
  have hnm := (name_of_methodNamed Bd.named Bd.method).1
  have X0 : Stand p l e room_1 s m #[(.int p1), (.int p2), (.int p3)] below meth c s₁ [] 0 0 := Stand.of_body Bd
  have e0 : s₁.heap = h0 := by rw [← hh, Bd.state]; rfl
  have N0 := Fr.nil n0
  have KR : Keep h0 h0 [] := Keep.refl h0 _
  have pre0 : ∀ t, Steps p.tables e below (s₁.setTop (mkF m 0 #[.val (.int p1), .val (.int p2), .val (.int p3), .unset, .unset, .unset, .unset, .unset, .unset, .unset, .unset] [])) t → Steps p.tables e below (s₁.setTop (entryFrame m #[(.int p1), (.int p2), (.int p3)] maxLocals)) t := fun t k => castTop (ef_rm0 m (p1) (p2) (p3)) k
  have pre1 : ∀ t, Steps p.tables e below (s₁.setTop (mkF m 7 #[.val (.int p1), .val (.int p2), .val (.int p3), .val (.int ((p1 &&& (7 : Int32)) % (5 : Int32))), .unset, .unset, .unset, .unset, .unset, .unset, .unset] [])) t → Steps p.tables e below (s₁.setTop (entryFrame m #[(.int p1), (.int p2), (.int p3)] maxLocals)) t := fun t k => pre0 t (by
    refine XS.iloadN X0.here hx rfl (hb hby at_0) rfl ?_
    refine XS.bipush X0.here hx rfl (hb hby at_1) ?_
    refine XS.iand X0.here hx rfl (hb hby at_3) rfl ?_
    refine XS.iconst X0.here hx rfl (hb hby at_4) ?_
    refine iremM X0 hx rfl (hb hby at_5) rfl (by decide) ?_
    refine XS.istoreN X0.here hx rfl (hb hby at_6) rfl (l' := #[.val (.int p1), .val (.int p2), .val (.int p3), .val (.int ((p1 &&& (7 : Int32)) % (5 : Int32))), .unset, .unset, .unset, .unset, .unset, .unset, .unset]) rfl ?_
    exact k)
  obtain ⟨nn, h_nn⟩ : ∃ z : Int32, z = ((p1 &&& (7 : Int32)) % (5 : Int32)) := ⟨_, rfl⟩
  rw [← h_nn] at pre1
  have hn : 0 ≤ nn.toInt ∧ nn.toInt ≤ 4 := by rw [h_nn]; exact own_n7 _
  obtain ⟨T2, h2, k2, X2, e2, E2, A2, st2⟩ := newP X0 hx hZ (aty := .byte) (kw0 hw) e0 (g := (mkF m 8 #[.val (.int p1), .val (.int p2), .val (.int p3), .val (.int nn), .unset, .unset, .unset, .unset, .unset, .unset, .unset] [(.int nn)])) rfl (hb hby at_8) rfl (own_nneg hn) (cap := 4) (own_ncap hn) (by decide) (by decide) (by decide)
  obtain ⟨b2, g2⟩ : ∃ z, z = h0.size := ⟨_, rfl⟩
  rw [← g2] at A2 st2
  have ne2_w_DEF : w_DEF ≠ b2 := Nat.ne_of_lt (Nat.lt_of_lt_of_le P2.lt (Nat.le_of_eq g2.symm))
  have g_b2 : n0 ≤ b2 := Nat.le_trans Z0 (Nat.le_of_eq g2.symm)
  have sz_b2 : h0.size ≤ b2 := Nat.le_trans KR.1 (Nat.le_of_eq g2.symm)
  have Z2 : n0 ≤ h2.size := Nat.le_trans Z0 E2.1
  have K2 : Keep h0 h2 [] := KR.ext E2
  have V2 : Arv Z h2 b2 k2 .byte nn [(.int 0), (.int 0), (.int 0), (.int 0)] (.int 0) := (Arv.new A2 (own_nneg hn)).pad (pad_rep [] (.int 0) 4)
  have pre3 : ∀ t, Steps p.tables e below (T2.setTop (mkF m 12 #[.val (.int p1), .val (.int p2), .val (.int p3), .val (.int nn), .val (.ref b2), .unset, .unset, .unset, .unset, .unset, .unset] [])) t → Steps p.tables e below (s₁.setTop (entryFrame m #[(.int p1), (.int p2), (.int p3)] maxLocals)) t := fun t k => pre1 t (by
    refine XS.iloadN X0.here hx rfl (hb hby at_7) rfl ?_
    refine st2 _ ?_
    refine XS.astore X2.here hx rfl (hb hby at_10) rfl rfl (l' := #[.val (.int p1), .val (.int p2), .val (.int p3), .val (.int nn), .val (.ref b2), .unset, .unset, .unset, .unset, .unset, .unset]) rfl ?_
    exact k)
  obtain ⟨u0, u1, u2, u3, TF, LF, hF, XF, eF, ZF, KF, NF, VF, VDF, OF, preF⟩ : ∃ (u0 u1 u2 u3 : Int32) (TF : State) (LF : List Loc) (hF : Heap), Stand p l e room_1 s m #[(.int p1), (.int p2), (.int p3)] below meth c TF LF 1 4 ∧ TF.heap = hF ∧ n0 ≤ hF.size ∧ Keep h0 hF [] ∧ Fr n0 LF ∧ Arv Z hF b2 k2 .byte nn (own_is [u0, u1, u2, u3]) (.int 0) ∧ Arv Z hF w_DEF kD (.object "java/lang/Object") (0 : Int32) [] .null ∧ Old Z n0 hF ∧ ∀ t, Steps p.tables e below (TF.setTop (mkF m 71 #[.val (.int p1), .val (.int p2), .val (.int p3), .val (.int nn), .val (.ref b2), .unset, .unset, .unset, .unset, .unset, .unset] [])) t → Steps p.tables e below (s₁.setTop (entryFrame m #[(.int p1), (.int p2), (.int p3)] maxLocals)) t := by
   have pre4 : ∀ t, Steps p.tables e below (T2.setTop (mkF m 13 #[.val (.int p1), .val (.int p2), .val (.int p3), .val (.int nn), .val (.ref b2), .unset, .unset, .unset, .unset, .unset, .unset] [(.int nn)])) t → Steps p.tables e below (s₁.setTop (entryFrame m #[(.int p1), (.int p2), (.int p3)] maxLocals)) t := fun t k => pre3 t (by
     refine XS.iloadN X2.here hx rfl (hb hby at_12) rfl ?_
     exact k)
   by_cases hc5 : (0 : Int32) < nn
   ·skip
    have f7 := (P2.ext E2)
    obtain ⟨_, _, ⟨T6, L6, k6, n6⟩, -, X6, ⟨Lc6, hQ6, l6, y6, z6⟩, st6⟩ := Jvm.LawKit.callS X2 hx (y := (⟨"com/example/rank_keeper/rankkeeper/BodyLinesSplitPinLaw", "pick", "(III)B"⟩ : MethodName)) hown (mvT hZ (kw63 hw)) (mvT hZ (kw64 hw)) (mvT hZ (kw44 hw)) (mvT hZ (kw65 hw)) (by decide) (backOf (W := 2) (rm11 l Z a0 hw [] p2 p3 (0 : Int32) h2 n0 Z2 ) hZ (kw65 hw) (kw44 hw) (by decide) (by decide)) (g := (mkF m 22 #[.val (.int p1), .val (.int p2), .val (.int p3), .val (.int nn), .val (.ref b2), .unset, .unset, .unset, .unset, .unset, .unset] [(.int 0), (.int p3), (.int p2), (.int 0), (.ref b2)])) rfl (by rw [hml]; rfl) (argsL := [(.int p2), (.int p3), (.int 0)]) (rest := [(.int 0), (.ref b2)]) (lenOf pd_15 rfl) rfl (by show 2 * 0 + _ ≤ _; exact Nat.le_of_eq rfl) (hb hby at_22) (fun _ _ => ⟨rfl, e2, (by decide : 1 + 0 ≤ _), (by decide : 4 + 0 ≤ _)⟩)
    dsimp only [Pt.U, Pt.locs, Pt.cells, Pt.slots] at X6 l6 y6 z6 st6 hQ6
    subst l6 y6 z6
    obtain ⟨bv_6, rfl, N6q, e6⟩ := hQ6
    have N6 := Fr.app N0 N6q
    obtain ⟨cl8, Ar8, q8, S8, N8', H8, G8⟩ := id V2
    have hin8 : ¬ ((0 : Int32) < 0 ∨ cl8.slots.size ≤ ((0 : Int32)).toNatClampNeg) := inb_of S8 ⟨by decide, hc5⟩
    obtain ⟨T8, h8, X8, e8, W8, st8⟩ := stB X6 hx hZ e6 Ar8 (j := (0 : Int32)) hin8 (g := (mkF m 25 #[.val (.int p1), .val (.int p2), .val (.int p3), .val (.int nn), .val (.ref b2), .unset, .unset, .unset, .unset, .unset, .unset] [(.int bv_6), (.int 0), (.ref b2)])) rfl rfl (hb hby at_25)
    have Z8 : n0 ≤ h8.size := Nat.le_trans Z2 (Keep.of_wr W8).1
    have K8 : Keep h0 h8 [] := K2.wr W8 (Or.inr sz_b2)
    have N8 := Fr.snoc X8 N6 g_b2
    have V8 : Arv Z h8 b2 k2 .byte nn ([(.int 0), (.int 0), (.int 0), (.int 0)].set 0 (.int (nar .byte bv_6))) (.int 0) := Arv.set Ar8 q8 S8 N8' H8 G8 (fits_nar_byte _) W8 0 rfl (Nat.le_of_ble_eq_true rfl)
    have Vs8 : Arv Z h8 b2 k2 .byte nn [(.int (nar .byte bv_6)), (.int 0), (.int 0), (.int 0)] (.int 0) := V8
    have pre9 : ∀ t, Steps p.tables e below (T8.setTop (mkF m 28 #[.val (.int p1), .val (.int p2), .val (.int p3), .val (.int nn), .val (.ref b2), .unset, .unset, .unset, .unset, .unset, .unset] [(.int 1), (.int nn)])) t → Steps p.tables e below (s₁.setTop (entryFrame m #[(.int p1), (.int p2), (.int p3)] maxLocals)) t := fun t k => pre4 t (by
      refine XS.ifNo X2.here hx rfl (hb hby at_13) rfl ((if0 _ _).trans (tlt hc5).2.2.2) ?_
      refine XS.aload X2.here hx rfl (hb hby at_16) rfl rfl ?_
      refine XS.iconst X2.here hx rfl (hb hby at_18) ?_
      refine XS.iloadN X2.here hx rfl (hb hby at_19) rfl ?_
      refine XS.iloadN X2.here hx rfl (hb hby at_20) rfl ?_
      refine XS.iconst X2.here hx rfl (hb hby at_21) ?_
      refine st6 _ ?_
      refine st8 _ ?_
      refine XS.iloadN X8.here hx rfl (hb hby at_26) rfl ?_
      refine XS.iconst X8.here hx rfl (hb hby at_27) ?_
      exact k)
    by_cases hc10 : (1 : Int32) < nn
    ·skip
     have f12 := (f7.other W8 ne2_w_DEF)
     obtain ⟨_, _, ⟨T11, L11, k11, n11⟩, -, X11, ⟨Lc11, hQ11, l11, y11, z11⟩, st11⟩ := Jvm.LawKit.callS X8 hx (y := (⟨"com/example/rank_keeper/rankkeeper/BodyLinesSplitPinLaw", "pick", "(III)B"⟩ : MethodName)) hown (mvT hZ (kw63 hw)) (mvT hZ (kw64 hw)) (mvT hZ (kw44 hw)) (mvT hZ (kw65 hw)) (by decide) (backOf (W := 2) (rm11 l Z a0 hw [] p2 p3 (1 : Int32) h8 n0 Z8 ) hZ (kw65 hw) (kw44 hw) (by decide) (by decide)) (g := (mkF m 37 #[.val (.int p1), .val (.int p2), .val (.int p3), .val (.int nn), .val (.ref b2), .unset, .unset, .unset, .unset, .unset, .unset] [(.int 1), (.int p3), (.int p2), (.int 1), (.ref b2)])) rfl (by rw [hml]; rfl) (argsL := [(.int p2), (.int p3), (.int 1)]) (rest := [(.int 1), (.ref b2)]) (lenOf pd_15 rfl) rfl (by show 2 * 0 + _ ≤ _; exact Nat.le_of_eq rfl) (hb hby at_37) (fun _ _ => ⟨rfl, e8, (by decide : 1 + 0 ≤ _), (by decide : 4 + 0 ≤ _)⟩)
     dsimp only [Pt.U, Pt.locs, Pt.cells, Pt.slots] at X11 l11 y11 z11 st11 hQ11
     subst l11 y11 z11
     obtain ⟨bv_11, rfl, N11q, e11⟩ := hQ11
     have N11 := Fr.app N8 N11q
     obtain ⟨cl13, Ar13, q13, S13, N13', H13, G13⟩ := id Vs8
     have hin13 : ¬ ((1 : Int32) < 0 ∨ cl13.slots.size ≤ ((1 : Int32)).toNatClampNeg) := inb_of S13 ⟨by decide, hc10⟩
     obtain ⟨T13, h13, X13, e13, W13, st13⟩ := stB X11 hx hZ e11 Ar13 (j := (1 : Int32)) hin13 (g := (mkF m 40 #[.val (.int p1), .val (.int p2), .val (.int p3), .val (.int nn), .val (.ref b2), .unset, .unset, .unset, .unset, .unset, .unset] [(.int bv_11), (.int 1), (.ref b2)])) rfl rfl (hb hby at_40)
     have Z13 : n0 ≤ h13.size := Nat.le_trans Z8 (Keep.of_wr W13).1
     have K13 : Keep h0 h13 [] := K8.wr W13 (Or.inr sz_b2)
     have N13 := Fr.snoc X13 N11 g_b2
     have V13 : Arv Z h13 b2 k2 .byte nn ([(.int (nar .byte bv_6)), (.int 0), (.int 0), (.int 0)].set 1 (.int (nar .byte bv_11))) (.int 0) := Arv.set Ar13 q13 S13 N13' H13 G13 (fits_nar_byte _) W13 1 rfl (Nat.le_of_ble_eq_true rfl)
     have Vs13 : Arv Z h13 b2 k2 .byte nn [(.int (nar .byte bv_6)), (.int (nar .byte bv_11)), (.int 0), (.int 0)] (.int 0) := V13
     have pre14 : ∀ t, Steps p.tables e below (T13.setTop (mkF m 43 #[.val (.int p1), .val (.int p2), .val (.int p3), .val (.int nn), .val (.ref b2), .unset, .unset, .unset, .unset, .unset, .unset] [(.int 2), (.int nn)])) t → Steps p.tables e below (s₁.setTop (entryFrame m #[(.int p1), (.int p2), (.int p3)] maxLocals)) t := fun t k => pre9 t (by
       refine XS.icmpNo X8.here hx rfl (hb hby at_28) rfl (tlt hc10).2.2.2 ?_
       refine XS.aload X8.here hx rfl (hb hby at_31) rfl rfl ?_
       refine XS.iconst X8.here hx rfl (hb hby at_33) ?_
       refine XS.iloadN X8.here hx rfl (hb hby at_34) rfl ?_
       refine XS.iloadN X8.here hx rfl (hb hby at_35) rfl ?_
       refine XS.iconst X8.here hx rfl (hb hby at_36) ?_
       refine st11 _ ?_
       refine st13 _ ?_
       refine XS.iloadN X13.here hx rfl (hb hby at_41) rfl ?_
       refine XS.iconst X13.here hx rfl (hb hby at_42) ?_
       exact k)
     by_cases hc15 : (2 : Int32) < nn
     ·skip
      have f17 := (f12.other W13 ne2_w_DEF)
      obtain ⟨_, _, ⟨T16, L16, k16, n16⟩, -, X16, ⟨Lc16, hQ16, l16, y16, z16⟩, st16⟩ := Jvm.LawKit.callS X13 hx (y := (⟨"com/example/rank_keeper/rankkeeper/BodyLinesSplitPinLaw", "pick", "(III)B"⟩ : MethodName)) hown (mvT hZ (kw63 hw)) (mvT hZ (kw64 hw)) (mvT hZ (kw44 hw)) (mvT hZ (kw65 hw)) (by decide) (backOf (W := 2) (rm11 l Z a0 hw [] p2 p3 (2 : Int32) h13 n0 Z13 ) hZ (kw65 hw) (kw44 hw) (by decide) (by decide)) (g := (mkF m 52 #[.val (.int p1), .val (.int p2), .val (.int p3), .val (.int nn), .val (.ref b2), .unset, .unset, .unset, .unset, .unset, .unset] [(.int 2), (.int p3), (.int p2), (.int 2), (.ref b2)])) rfl (by rw [hml]; rfl) (argsL := [(.int p2), (.int p3), (.int 2)]) (rest := [(.int 2), (.ref b2)]) (lenOf pd_15 rfl) rfl (by show 2 * 0 + _ ≤ _; exact Nat.le_of_eq rfl) (hb hby at_52) (fun _ _ => ⟨rfl, e13, (by decide : 1 + 0 ≤ _), (by decide : 4 + 0 ≤ _)⟩)
      dsimp only [Pt.U, Pt.locs, Pt.cells, Pt.slots] at X16 l16 y16 z16 st16 hQ16
      subst l16 y16 z16
      obtain ⟨bv_16, rfl, N16q, e16⟩ := hQ16
      have N16 := Fr.app N13 N16q
      obtain ⟨cl18, Ar18, q18, S18, N18', H18, G18⟩ := id Vs13
      have hin18 : ¬ ((2 : Int32) < 0 ∨ cl18.slots.size ≤ ((2 : Int32)).toNatClampNeg) := inb_of S18 ⟨by decide, hc15⟩
      obtain ⟨T18, h18, X18, e18, W18, st18⟩ := stB X16 hx hZ e16 Ar18 (j := (2 : Int32)) hin18 (g := (mkF m 55 #[.val (.int p1), .val (.int p2), .val (.int p3), .val (.int nn), .val (.ref b2), .unset, .unset, .unset, .unset, .unset, .unset] [(.int bv_16), (.int 2), (.ref b2)])) rfl rfl (hb hby at_55)
      have Z18 : n0 ≤ h18.size := Nat.le_trans Z13 (Keep.of_wr W18).1
      have K18 : Keep h0 h18 [] := K13.wr W18 (Or.inr sz_b2)
      have N18 := Fr.snoc X18 N16 g_b2
      have V18 : Arv Z h18 b2 k2 .byte nn ([(.int (nar .byte bv_6)), (.int (nar .byte bv_11)), (.int 0), (.int 0)].set 2 (.int (nar .byte bv_16))) (.int 0) := Arv.set Ar18 q18 S18 N18' H18 G18 (fits_nar_byte _) W18 2 rfl (Nat.le_of_ble_eq_true rfl)
      have Vs18 : Arv Z h18 b2 k2 .byte nn [(.int (nar .byte bv_6)), (.int (nar .byte bv_11)), (.int (nar .byte bv_16)), (.int 0)] (.int 0) := V18
      have pre19 : ∀ t, Steps p.tables e below (T18.setTop (mkF m 58 #[.val (.int p1), .val (.int p2), .val (.int p3), .val (.int nn), .val (.ref b2), .unset, .unset, .unset, .unset, .unset, .unset] [(.int 3), (.int nn)])) t → Steps p.tables e below (s₁.setTop (entryFrame m #[(.int p1), (.int p2), (.int p3)] maxLocals)) t := fun t k => pre14 t (by
        refine XS.icmpNo X13.here hx rfl (hb hby at_43) rfl (tlt hc15).2.2.2 ?_
        refine XS.aload X13.here hx rfl (hb hby at_46) rfl rfl ?_
        refine XS.iconst X13.here hx rfl (hb hby at_48) ?_
        refine XS.iloadN X13.here hx rfl (hb hby at_49) rfl ?_
        refine XS.iloadN X13.here hx rfl (hb hby at_50) rfl ?_
        refine XS.iconst X13.here hx rfl (hb hby at_51) ?_
        refine st16 _ ?_
        refine st18 _ ?_
        refine XS.iloadN X18.here hx rfl (hb hby at_56) rfl ?_
        refine XS.iconst X18.here hx rfl (hb hby at_57) ?_
        exact k)
      by_cases hc20 : (3 : Int32) < nn
      ·skip
       have f22 := (f17.other W18 ne2_w_DEF)
       obtain ⟨_, _, ⟨T21, L21, k21, n21⟩, -, X21, ⟨Lc21, hQ21, l21, y21, z21⟩, st21⟩ := Jvm.LawKit.callS X18 hx (y := (⟨"com/example/rank_keeper/rankkeeper/BodyLinesSplitPinLaw", "pick", "(III)B"⟩ : MethodName)) hown (mvT hZ (kw63 hw)) (mvT hZ (kw64 hw)) (mvT hZ (kw44 hw)) (mvT hZ (kw65 hw)) (by decide) (backOf (W := 2) (rm11 l Z a0 hw [] p2 p3 (3 : Int32) h18 n0 Z18 ) hZ (kw65 hw) (kw44 hw) (by decide) (by decide)) (g := (mkF m 67 #[.val (.int p1), .val (.int p2), .val (.int p3), .val (.int nn), .val (.ref b2), .unset, .unset, .unset, .unset, .unset, .unset] [(.int 3), (.int p3), (.int p2), (.int 3), (.ref b2)])) rfl (by rw [hml]; rfl) (argsL := [(.int p2), (.int p3), (.int 3)]) (rest := [(.int 3), (.ref b2)]) (lenOf pd_15 rfl) rfl (by show 2 * 0 + _ ≤ _; exact Nat.le_of_eq rfl) (hb hby at_67) (fun _ _ => ⟨rfl, e18, (by decide : 1 + 0 ≤ _), (by decide : 4 + 0 ≤ _)⟩)
       dsimp only [Pt.U, Pt.locs, Pt.cells, Pt.slots] at X21 l21 y21 z21 st21 hQ21
       subst l21 y21 z21
       obtain ⟨bv_21, rfl, N21q, e21⟩ := hQ21
       have N21 := Fr.app N18 N21q
       obtain ⟨cl23, Ar23, q23, S23, N23', H23, G23⟩ := id Vs18
       have hin23 : ¬ ((3 : Int32) < 0 ∨ cl23.slots.size ≤ ((3 : Int32)).toNatClampNeg) := inb_of S23 ⟨by decide, hc20⟩
       obtain ⟨T23, h23, X23, e23, W23, st23⟩ := stB X21 hx hZ e21 Ar23 (j := (3 : Int32)) hin23 (g := (mkF m 70 #[.val (.int p1), .val (.int p2), .val (.int p3), .val (.int nn), .val (.ref b2), .unset, .unset, .unset, .unset, .unset, .unset] [(.int bv_21), (.int 3), (.ref b2)])) rfl rfl (hb hby at_70)
       have Z23 : n0 ≤ h23.size := Nat.le_trans Z18 (Keep.of_wr W23).1
       have K23 : Keep h0 h23 [] := K18.wr W23 (Or.inr sz_b2)
       have N23 := Fr.snoc X23 N21 g_b2
       have V23 : Arv Z h23 b2 k2 .byte nn ([(.int (nar .byte bv_6)), (.int (nar .byte bv_11)), (.int (nar .byte bv_16)), (.int 0)].set 3 (.int (nar .byte bv_21))) (.int 0) := Arv.set Ar23 q23 S23 N23' H23 G23 (fits_nar_byte _) W23 3 rfl (Nat.le_of_ble_eq_true rfl)
       have Vs23 : Arv Z h23 b2 k2 .byte nn [(.int (nar .byte bv_6)), (.int (nar .byte bv_11)), (.int (nar .byte bv_16)), (.int (nar .byte bv_21))] (.int 0) := V23
       have Vc24 : Arv Z h23 b2 k2 .byte nn (own_is [(nar .byte bv_6), (nar .byte bv_11), (nar .byte bv_16), (nar .byte bv_21)]) (.int 0) := Vs23
       have f25 := (f22.other W23 ne2_w_DEF)
       have f26 := (((((P0.ext E2).wr W8 g_b2).wr W13 g_b2).wr W18 g_b2).wr W23 g_b2)
       refine ⟨(nar .byte bv_6), (nar .byte bv_11), (nar .byte bv_16), (nar .byte bv_21), _, _, _, X23, e23, Z23, K23, N23, Vc24, f25, f26, fun t k => pre19 t ?_⟩
       refine XS.icmpNo X18.here hx rfl (hb hby at_58) rfl (tlt hc20).2.2.2 ?_
       refine XS.aload X18.here hx rfl (hb hby at_61) rfl rfl ?_
       refine XS.iconst X18.here hx rfl (hb hby at_63) ?_
       refine XS.iloadN X18.here hx rfl (hb hby at_64) rfl ?_
       refine XS.iloadN X18.here hx rfl (hb hby at_65) rfl ?_
       refine XS.iconst X18.here hx rfl (hb hby at_66) ?_
       refine st21 _ ?_
       refine st23 _ ?_
       exact k
      ·skip
       have Vc27 : Arv Z h18 b2 k2 .byte nn (own_is [(nar .byte bv_6), (nar .byte bv_11), (nar .byte bv_16), (0 : Int32)]) (.int 0) := Vs18
       have f28 := (f17.other W18 ne2_w_DEF)
       have f29 := ((((P0.ext E2).wr W8 g_b2).wr W13 g_b2).wr W18 g_b2)
       refine ⟨(nar .byte bv_6), (nar .byte bv_11), (nar .byte bv_16), (0 : Int32), _, _, _, X18, e18, Z18, K18, N18, Vc27, f28, f29, fun t k => pre19 t ?_⟩
       refine XS.icmpYes X18.here hx rfl (pc0 := 58) (pc' := 71) rfl (hb hby at_58) rfl (flt hc20).2.2.2 (by decide) (by decide) ?_
       exact k
     ·skip
      have Vc30 : Arv Z h13 b2 k2 .byte nn (own_is [(nar .byte bv_6), (nar .byte bv_11), (0 : Int32), (0 : Int32)]) (.int 0) := Vs13
      have f31 := (f12.other W13 ne2_w_DEF)
      have f32 := (((P0.ext E2).wr W8 g_b2).wr W13 g_b2)
      refine ⟨(nar .byte bv_6), (nar .byte bv_11), (0 : Int32), (0 : Int32), _, _, _, X13, e13, Z13, K13, N13, Vc30, f31, f32, fun t k => pre14 t ?_⟩
      refine XS.icmpYes X13.here hx rfl (pc0 := 43) (pc' := 56) rfl (hb hby at_43) rfl (flt hc15).2.2.2 (by decide) (by decide) ?_
      refine XS.iloadN X13.here hx rfl (hb hby at_56) rfl ?_
      refine XS.iconst X13.here hx rfl (hb hby at_57) ?_
      refine XS.icmpYes X13.here hx rfl (pc0 := 58) (pc' := 71) rfl (hb hby at_58) rfl (flt (own_mono hc15 (by decide))).2.2.2 (by decide) (by decide) ?_
      exact k
    ·skip
     have Vc33 : Arv Z h8 b2 k2 .byte nn (own_is [(nar .byte bv_6), (0 : Int32), (0 : Int32), (0 : Int32)]) (.int 0) := Vs8
     have f34 := (f7.other W8 ne2_w_DEF)
     have f35 := ((P0.ext E2).wr W8 g_b2)
     refine ⟨(nar .byte bv_6), (0 : Int32), (0 : Int32), (0 : Int32), _, _, _, X8, e8, Z8, K8, N8, Vc33, f34, f35, fun t k => pre9 t ?_⟩
     refine XS.icmpYes X8.here hx rfl (pc0 := 28) (pc' := 41) rfl (hb hby at_28) rfl (flt hc10).2.2.2 (by decide) (by decide) ?_
     refine XS.iloadN X8.here hx rfl (hb hby at_41) rfl ?_
     refine XS.iconst X8.here hx rfl (hb hby at_42) ?_
     refine XS.icmpYes X8.here hx rfl (pc0 := 43) (pc' := 56) rfl (hb hby at_43) rfl (flt (own_mono hc10 (by decide))).2.2.2 (by decide) (by decide) ?_
     refine XS.iloadN X8.here hx rfl (hb hby at_56) rfl ?_
     refine XS.iconst X8.here hx rfl (hb hby at_57) ?_
     refine XS.icmpYes X8.here hx rfl (pc0 := 58) (pc' := 71) rfl (hb hby at_58) rfl (flt (own_mono hc10 (by decide))).2.2.2 (by decide) (by decide) ?_
     exact k
   ·skip
    have Vc36 : Arv Z h2 b2 k2 .byte nn (own_is [(0 : Int32), (0 : Int32), (0 : Int32), (0 : Int32)]) (.int 0) := V2
    have f37 := (P2.ext E2)
    have f38 := (P0.ext E2)
    refine ⟨(0 : Int32), (0 : Int32), (0 : Int32), (0 : Int32), _, _, _, X2, e2, Z2, K2, N0, Vc36, f37, f38, fun t k => pre4 t ?_⟩
    refine XS.ifYes X2.here hx rfl (pc0 := 13) (pc' := 26) rfl (hb hby at_13) rfl ((if0 _ _).trans (flt hc5).2.2.2) (by decide) (by decide) ?_
    refine XS.iloadN X2.here hx rfl (hb hby at_26) rfl ?_
    refine XS.iconst X2.here hx rfl (hb hby at_27) ?_
    refine XS.icmpYes X2.here hx rfl (pc0 := 28) (pc' := 41) rfl (hb hby at_28) rfl (flt (own_mono hc5 (by decide))).2.2.2 (by decide) (by decide) ?_
    refine XS.iloadN X2.here hx rfl (hb hby at_41) rfl ?_
    refine XS.iconst X2.here hx rfl (hb hby at_42) ?_
    refine XS.icmpYes X2.here hx rfl (pc0 := 43) (pc' := 56) rfl (hb hby at_43) rfl (flt (own_mono hc5 (by decide))).2.2.2 (by decide) (by decide) ?_
    refine XS.iloadN X2.here hx rfl (hb hby at_56) rfl ?_
    refine XS.iconst X2.here hx rfl (hb hby at_57) ?_
    refine XS.icmpYes X2.here hx rfl (pc0 := 58) (pc' := 71) rfl (hb hby at_58) rfl (flt (own_mono hc5 (by decide))).2.2.2 (by decide) (by decide) ?_
    exact k
  obtain ⟨_, _, ⟨T39, L39, k39, n39⟩, -, X39, hS39, -, ⟨Lc39, hQ39, l39, y39, z39⟩, st39⟩ := Jvm.RoadKit.callSS XF hx (y := (⟨"com/example/rank_keeper/rankkeeper/BodyLines", "split", "([B)Ljava/util/List;"⟩ : MethodName)) hown (mvT hZ (kw1 hw)) (mvT hZ (kw2 hw)) (mvT hZ (kw3 hw)) (mvT hZ (kw4 hw)) (by decide) (backOfS (W := 0) (rmSplit l Z a0 hw [] b2 nn u0 u1 u2 u3 k2 w_DEF kD hF n0 ZF OF P1 VF VDF hn) hZ (kw4 hw) (kw3 hw) (by decide) (by decide)) (g := (mkF m 73 #[.val (.int p1), .val (.int p2), .val (.int p3), .val (.int nn), .val (.ref b2), .unset, .unset, .unset, .unset, .unset, .unset] [(.ref b2)])) rfl (by rw [hml]; rfl) (argsL := [(.ref b2)]) (rest := []) (lenOf pd_16 rfl) rfl (by show 2 * 0 + _ ≤ _; exact Nat.le_of_eq rfl) (hb hby at_73) (fun _ _ => ⟨rfl, eF, (by decide : 1 + 6 ≤ _), (by decide : 4 + 39 ≤ _)⟩)
  dsimp only [Pt.U] at hS39
  dsimp only [Pt.U, Pt.locs, Pt.cells, Pt.slots] at X39 l39 y39 z39 st39 hQ39
  subst l39 y39 z39
  obtain ⟨rl_39, rfl, N39q, Kq39, p39_0, p39_1, p39_2, p39_3, p39_4⟩ := hQ39
  have N39 := Fr.app NF N39q
  have Z39 : n0 ≤ T39.heap.size := Nat.le_trans ZF Kq39.1
  have K39 : Keep h0 T39.heap [] := KF.trans Kq39 all0
  have sz_rl_39 : h0.size ≤ rl_39 := Nat.le_trans KF.1 p39_1
  have ne39_b2_rl_39 : b2 ≠ rl_39 := Nat.ne_of_lt (Nat.lt_of_lt_of_le VF.lt p39_1)
  have ne39_w_DEF_rl_39 : w_DEF ≠ rl_39 := Nat.ne_of_lt (Nat.lt_of_lt_of_le VDF.lt p39_1)
  have pre40 : ∀ t, Steps p.tables e below (T39.setTop (mkF m 76 #[.val (.int p1), .val (.int p2), .val (.int p3), .val (.int nn), .val (.ref b2), .unset, .unset, .unset, .unset, .unset, .unset] [(.ref rl_39)])) t → Steps p.tables e below (s₁.setTop (entryFrame m #[(.int p1), (.int p2), (.int p3)] maxLocals)) t := fun t k => preF t (by
    refine XS.aload XF.here hx rfl (hb hby at_71) rfl rfl ?_
    refine st39.trans ?_
    exact k)
  have hZ : Z.Warmed39 (s.setVm T39.vm).vm := State.Warmed39.trans (t := s) hZ hS39.1
  have hown : (s.setVm T39.vm).vm.findClass "com/example/rank_keeper/rankkeeper/BodyLinesSplitPinLaw" = some m.cls := by rw [show (s.setVm T39.vm).vm = T39.vm from rfl, hS39.1.alike.findClass]; exact hown
  have Y39 : T39.heap.size ≤ T39.heap.size := Nat.le_refl _
  have f42 := (VF.keep Kq39 nin0)
  obtain ⟨_, _, ⟨T41, L41, k41, n41⟩, -, X41, ⟨Lc41, hQ41, l41, y41, z41⟩, st41⟩ := Jvm.LawKit.callS X39 hx (y := (⟨"com/example/rank_keeper/rankkeeper/BodyLinesSplitPinLaw", "good", "([BI)I"⟩ : MethodName)) hown (mvT hZ (kw42 hw)) (mvT hZ (kw43 hw)) (mvT hZ (kw44 hw)) (mvT hZ (kw45 hw)) (by decide) (backOf (W := 0) (rm7 l Z a0 hw [] b2 (0 : Int32) nn u0 u1 u2 u3 k2 T39.heap n0 Z39 f42) hZ (kw45 hw) (kw44 hw) (by decide) (by decide)) (g := (mkF m 81 #[.val (.int p1), .val (.int p2), .val (.int p3), .val (.int nn), .val (.ref b2), .val (.ref rl_39), .unset, .unset, .unset, .unset, .unset] [(.int 0), (.ref b2)])) rfl (by rw [hml]; rfl) (argsL := [(.ref b2), (.int 0)]) (rest := []) (lenOf pd_2 rfl) rfl (by show 2 * 0 + _ ≤ _; exact Nat.le_of_eq rfl) (hb hby at_81) (fun _ _ => ⟨rfl, rfl, (by decide : 7 + 0 ≤ _), (by decide : 43 + 0 ≤ _)⟩)
  dsimp only [Pt.U, Pt.locs, Pt.cells, Pt.slots] at X41 l41 y41 z41 st41 hQ41
  subst l41 y41 z41
  obtain ⟨rfl, N41q, e41⟩ := hQ41
  have N41 := Fr.app N39 N41q
  obtain ⟨_, _, ⟨T43, L43, k43, n43⟩, -, X43, ⟨Lc43, hQ43, l43, y43, z43⟩, st43⟩ := Jvm.LawKit.callS X41 hx (y := (⟨"com/example/rank_keeper/rankkeeper/BodyLinesSplitPinLaw", "good", "([BI)I"⟩ : MethodName)) hown (mvT hZ (kw42 hw)) (mvT hZ (kw43 hw)) (mvT hZ (kw44 hw)) (mvT hZ (kw45 hw)) (by decide) (backOf (W := 1) (rm7 l Z a0 hw [] b2 (1 : Int32) nn u0 u1 u2 u3 k2 T39.heap n0 Z39 f42) hZ (kw45 hw) (kw44 hw) (by decide) (by decide)) (g := (mkF m 87 #[.val (.int p1), .val (.int p2), .val (.int p3), .val (.int nn), .val (.ref b2), .val (.ref rl_39), .unset, .unset, .unset, .unset, .unset] [(.int 1), (.ref b2), (.int (own_good nn u0 u1 u2 u3 (0 : Int32)))])) rfl (by rw [hml]; rfl) (argsL := [(.ref b2), (.int 1)]) (rest := [(.int (own_good nn u0 u1 u2 u3 (0 : Int32)))]) (lenOf pd_2 rfl) rfl (by show 2 * 0 + _ ≤ _; exact Nat.le_of_eq rfl) (hb hby at_87) (fun _ _ => ⟨rfl, e41, (by decide : 7 + 0 ≤ _), (by decide : 43 + 0 ≤ _)⟩)
  dsimp only [Pt.U, Pt.locs, Pt.cells, Pt.slots] at X43 l43 y43 z43 st43 hQ43
  subst l43 y43 z43
  obtain ⟨rfl, N43q, e43⟩ := hQ43
  have N43 := Fr.app N41 N43q
  obtain ⟨_, _, ⟨T44, L44, k44, n44⟩, -, X44, ⟨Lc44, hQ44, l44, y44, z44⟩, st44⟩ := Jvm.LawKit.callS X43 hx (y := (⟨"com/example/rank_keeper/rankkeeper/BodyLinesSplitPinLaw", "good", "([BI)I"⟩ : MethodName)) hown (mvT hZ (kw42 hw)) (mvT hZ (kw43 hw)) (mvT hZ (kw44 hw)) (mvT hZ (kw45 hw)) (by decide) (backOf (W := 1) (rm7 l Z a0 hw [] b2 (2 : Int32) nn u0 u1 u2 u3 k2 T39.heap n0 Z39 f42) hZ (kw45 hw) (kw44 hw) (by decide) (by decide)) (g := (mkF m 94 #[.val (.int p1), .val (.int p2), .val (.int p3), .val (.int nn), .val (.ref b2), .val (.ref rl_39), .unset, .unset, .unset, .unset, .unset] [(.int 2), (.ref b2), (.int ((own_good nn u0 u1 u2 u3 (0 : Int32)) + (own_good nn u0 u1 u2 u3 (1 : Int32))))])) rfl (by rw [hml]; rfl) (argsL := [(.ref b2), (.int 2)]) (rest := [(.int ((own_good nn u0 u1 u2 u3 (0 : Int32)) + (own_good nn u0 u1 u2 u3 (1 : Int32))))]) (lenOf pd_2 rfl) rfl (by show 2 * 0 + _ ≤ _; exact Nat.le_of_eq rfl) (hb hby at_94) (fun _ _ => ⟨rfl, e43, (by decide : 7 + 0 ≤ _), (by decide : 43 + 0 ≤ _)⟩)
  dsimp only [Pt.U, Pt.locs, Pt.cells, Pt.slots] at X44 l44 y44 z44 st44 hQ44
  subst l44 y44 z44
  obtain ⟨rfl, N44q, e44⟩ := hQ44
  have N44 := Fr.app N43 N44q
  obtain ⟨_, _, ⟨T45, L45, k45, n45⟩, -, X45, ⟨Lc45, hQ45, l45, y45, z45⟩, st45⟩ := Jvm.LawKit.callS X44 hx (y := (⟨"com/example/rank_keeper/rankkeeper/BodyLinesSplitPinLaw", "good", "([BI)I"⟩ : MethodName)) hown (mvT hZ (kw42 hw)) (mvT hZ (kw43 hw)) (mvT hZ (kw44 hw)) (mvT hZ (kw45 hw)) (by decide) (backOf (W := 1) (rm7 l Z a0 hw [] b2 (3 : Int32) nn u0 u1 u2 u3 k2 T39.heap n0 Z39 f42) hZ (kw45 hw) (kw44 hw) (by decide) (by decide)) (g := (mkF m 101 #[.val (.int p1), .val (.int p2), .val (.int p3), .val (.int nn), .val (.ref b2), .val (.ref rl_39), .unset, .unset, .unset, .unset, .unset] [(.int 3), (.ref b2), (.int (((own_good nn u0 u1 u2 u3 (0 : Int32)) + (own_good nn u0 u1 u2 u3 (1 : Int32))) + (own_good nn u0 u1 u2 u3 (2 : Int32))))])) rfl (by rw [hml]; rfl) (argsL := [(.ref b2), (.int 3)]) (rest := [(.int (((own_good nn u0 u1 u2 u3 (0 : Int32)) + (own_good nn u0 u1 u2 u3 (1 : Int32))) + (own_good nn u0 u1 u2 u3 (2 : Int32))))]) (lenOf pd_2 rfl) rfl (by show 2 * 0 + _ ≤ _; exact Nat.le_of_eq rfl) (hb hby at_101) (fun _ _ => ⟨rfl, e44, (by decide : 7 + 0 ≤ _), (by decide : 43 + 0 ≤ _)⟩)
  dsimp only [Pt.U, Pt.locs, Pt.cells, Pt.slots] at X45 l45 y45 z45 st45 hQ45
  subst l45 y45 z45
  obtain ⟨rfl, N45q, e45⟩ := hQ45
  have N45 := Fr.app N44 N45q
  obtain ⟨cq46, kq46, q46a, q46b, q46c⟩ := isOf hZ e45 p39_2
  obtain ⟨_, _, ⟨T46, L46, k46, n46⟩, -, X46, ⟨Lc46, hQ46, l46, y46, z46⟩, st46⟩ := X45.interfaceBack hx (xi := (⟨"java/util/List", "size", "()I"⟩ : MethodName)) (y := (⟨"java/util/ArrayList", "size", "()I"⟩ : MethodName)) hown (mvT hZ (kw49 hw)) (mvT hZ (kw50 hw)) (mvT hZ (kw51 hw)) (mvT hZ (kw52 hw)) (mvT hZ (kw53 hw)) (mvT hZ (kw54 hw)) (mvT hZ (kw55 hw)) (mvT hZ (kw56 hw)) (by decide) (backOf (W := 0) (rm9 l Z a0 hw [] rl_39 (own_sz (own_split nn u0 u1 u2 u3)) T39.heap n0 Z39 p39_3) hZ (kw57 hw) (kw18 hw) (by decide) (by decide)) q46a q46b q46c (g := (mkF m 109 #[.val (.int p1), .val (.int p2), .val (.int p3), .val (.int nn), .val (.ref b2), .val (.ref rl_39), .val (.int ((((own_good nn u0 u1 u2 u3 (0 : Int32)) + (own_good nn u0 u1 u2 u3 (1 : Int32))) + (own_good nn u0 u1 u2 u3 (2 : Int32))) + (own_good nn u0 u1 u2 u3 (3 : Int32)))), .unset, .unset, .unset, .unset] [(.ref rl_39)])) rfl (by rw [hml]; rfl) (Steps.refl _) (argsL := []) (rest := []) (lenOf pd_11 rfl) rfl (by show 2 * 0 + _ ≤ _; exact Nat.le_of_eq rfl) (hb hby at_109) (fun _ _ => ⟨rfl, e45, (by decide : 7 + 0 ≤ _), (by decide : 43 + 0 ≤ _)⟩)
  dsimp only [Pt.U, Pt.locs, Pt.cells, Pt.slots] at X46 l46 y46 z46 st46 hQ46
  subst l46 y46 z46
  obtain ⟨rfl, N46q, e46⟩ := hQ46
  have N46 := Fr.app N45 N46q
  obtain ⟨_, _, ⟨T47, L47, k47, n47⟩, -, X47, ⟨Lc47, hQ47, l47, y47, z47⟩, st47⟩ := Jvm.LawKit.callS X46 hx (y := (⟨"com/example/rank_keeper/rankkeeper/BodyLinesSplitPinLaw", "at", "(Ljava/util/List;I[BI)I"⟩ : MethodName)) hown (mvT hZ (kw60 hw)) (mvT hZ (kw61 hw)) (mvT hZ (kw44 hw)) (mvT hZ (kw62 hw)) (by decide) (backOf (W := 0) (rm10 l Z a0 hw [] rl_39 (0 : Int32) b2 (-1 : Int32) nn u0 u1 u2 u3 k2 (own_split nn u0 u1 u2 u3) T39.heap n0 Z39 p39_2 p39_3 f42 (by decide) p39_4) hZ (kw62 hw) (kw44 hw) (by decide) (by decide)) (g := (mkF m 127 #[.val (.int p1), .val (.int p2), .val (.int p3), .val (.int nn), .val (.ref b2), .val (.ref rl_39), .val (.int ((((own_good nn u0 u1 u2 u3 (0 : Int32)) + (own_good nn u0 u1 u2 u3 (1 : Int32))) + (own_good nn u0 u1 u2 u3 (2 : Int32))) + (own_good nn u0 u1 u2 u3 (3 : Int32)))), .unset, .unset, .unset, .unset] [(.int (-1 : Int32)), (.ref b2), (.int 0), (.ref rl_39)])) rfl (by rw [hml]; rfl) (argsL := [(.ref rl_39), (.int 0), (.ref b2), (.int (-1 : Int32))]) (rest := []) (lenOf pd_17 rfl) rfl (by show 2 * 0 + _ ≤ _; exact Nat.le_of_eq rfl) (hb hby at_127) (fun _ _ => ⟨rfl, e46, (by decide : 7 + 0 ≤ _), (by decide : 43 + 0 ≤ _)⟩)
  dsimp only [Pt.U, Pt.locs, Pt.cells, Pt.slots] at X47 l47 y47 z47 st47 hQ47
  subst l47 y47 z47
  obtain ⟨rfl, N47q, e47⟩ := hQ47
  have N47 := Fr.app N46 N47q
  obtain ⟨_, _, ⟨T48, L48, k48, n48⟩, -, X48, ⟨Lc48, hQ48, l48, y48, z48⟩, st48⟩ := Jvm.LawKit.callS X47 hx (y := (⟨"com/example/rank_keeper/rankkeeper/BodyLinesSplitPinLaw", "at", "(Ljava/util/List;I[BI)I"⟩ : MethodName)) hown (mvT hZ (kw60 hw)) (mvT hZ (kw61 hw)) (mvT hZ (kw44 hw)) (mvT hZ (kw62 hw)) (by decide) (backOf (W := 0) (rm10 l Z a0 hw [] rl_39 (1 : Int32) b2 (own_at nn u0 u1 u2 u3 (own_split nn u0 u1 u2 u3) (0 : Int32) (-1 : Int32)) nn u0 u1 u2 u3 k2 (own_split nn u0 u1 u2 u3) T39.heap n0 Z39 p39_2 p39_3 f42 (by decide) p39_4) hZ (kw62 hw) (kw44 hw) (by decide) (by decide)) (g := (mkF m 139 #[.val (.int p1), .val (.int p2), .val (.int p3), .val (.int nn), .val (.ref b2), .val (.ref rl_39), .val (.int ((((own_good nn u0 u1 u2 u3 (0 : Int32)) + (own_good nn u0 u1 u2 u3 (1 : Int32))) + (own_good nn u0 u1 u2 u3 (2 : Int32))) + (own_good nn u0 u1 u2 u3 (3 : Int32)))), .val (.int (own_at nn u0 u1 u2 u3 (own_split nn u0 u1 u2 u3) (0 : Int32) (-1 : Int32))), .unset, .unset, .unset] [(.int (own_at nn u0 u1 u2 u3 (own_split nn u0 u1 u2 u3) (0 : Int32) (-1 : Int32))), (.ref b2), (.int 1), (.ref rl_39)])) rfl (by rw [hml]; rfl) (argsL := [(.ref rl_39), (.int 1), (.ref b2), (.int (own_at nn u0 u1 u2 u3 (own_split nn u0 u1 u2 u3) (0 : Int32) (-1 : Int32)))]) (rest := []) (lenOf pd_17 rfl) rfl (by show 2 * 0 + _ ≤ _; exact Nat.le_of_eq rfl) (hb hby at_139) (fun _ _ => ⟨rfl, e47, (by decide : 7 + 0 ≤ _), (by decide : 43 + 0 ≤ _)⟩)
  dsimp only [Pt.U, Pt.locs, Pt.cells, Pt.slots] at X48 l48 y48 z48 st48 hQ48
  subst l48 y48 z48
  obtain ⟨rfl, N48q, e48⟩ := hQ48
  have N48 := Fr.app N47 N48q
  obtain ⟨_, _, ⟨T49, L49, k49, n49⟩, -, X49, ⟨Lc49, hQ49, l49, y49, z49⟩, st49⟩ := Jvm.LawKit.callS X48 hx (y := (⟨"com/example/rank_keeper/rankkeeper/BodyLinesSplitPinLaw", "at", "(Ljava/util/List;I[BI)I"⟩ : MethodName)) hown (mvT hZ (kw60 hw)) (mvT hZ (kw61 hw)) (mvT hZ (kw44 hw)) (mvT hZ (kw62 hw)) (by decide) (backOf (W := 0) (rm10 l Z a0 hw [] rl_39 (2 : Int32) b2 (own_at nn u0 u1 u2 u3 (own_split nn u0 u1 u2 u3) (1 : Int32) (own_at nn u0 u1 u2 u3 (own_split nn u0 u1 u2 u3) (0 : Int32) (-1 : Int32))) nn u0 u1 u2 u3 k2 (own_split nn u0 u1 u2 u3) T39.heap n0 Z39 p39_2 p39_3 f42 (by decide) p39_4) hZ (kw62 hw) (kw44 hw) (by decide) (by decide)) (g := (mkF m 151 #[.val (.int p1), .val (.int p2), .val (.int p3), .val (.int nn), .val (.ref b2), .val (.ref rl_39), .val (.int ((((own_good nn u0 u1 u2 u3 (0 : Int32)) + (own_good nn u0 u1 u2 u3 (1 : Int32))) + (own_good nn u0 u1 u2 u3 (2 : Int32))) + (own_good nn u0 u1 u2 u3 (3 : Int32)))), .val (.int (own_at nn u0 u1 u2 u3 (own_split nn u0 u1 u2 u3) (0 : Int32) (-1 : Int32))), .val (.int (own_at nn u0 u1 u2 u3 (own_split nn u0 u1 u2 u3) (1 : Int32) (own_at nn u0 u1 u2 u3 (own_split nn u0 u1 u2 u3) (0 : Int32) (-1 : Int32)))), .unset, .unset] [(.int (own_at nn u0 u1 u2 u3 (own_split nn u0 u1 u2 u3) (1 : Int32) (own_at nn u0 u1 u2 u3 (own_split nn u0 u1 u2 u3) (0 : Int32) (-1 : Int32)))), (.ref b2), (.int 2), (.ref rl_39)])) rfl (by rw [hml]; rfl) (argsL := [(.ref rl_39), (.int 2), (.ref b2), (.int (own_at nn u0 u1 u2 u3 (own_split nn u0 u1 u2 u3) (1 : Int32) (own_at nn u0 u1 u2 u3 (own_split nn u0 u1 u2 u3) (0 : Int32) (-1 : Int32))))]) (rest := []) (lenOf pd_17 rfl) rfl (by show 2 * 0 + _ ≤ _; exact Nat.le_of_eq rfl) (hb hby at_151) (fun _ _ => ⟨rfl, e48, (by decide : 7 + 0 ≤ _), (by decide : 43 + 0 ≤ _)⟩)
  dsimp only [Pt.U, Pt.locs, Pt.cells, Pt.slots] at X49 l49 y49 z49 st49 hQ49
  subst l49 y49 z49
  obtain ⟨rfl, N49q, e49⟩ := hQ49
  have N49 := Fr.app N48 N49q
  obtain ⟨_, _, ⟨T50, L50, k50, n50⟩, -, X50, ⟨Lc50, hQ50, l50, y50, z50⟩, st50⟩ := Jvm.LawKit.callS X49 hx (y := (⟨"com/example/rank_keeper/rankkeeper/BodyLinesSplitPinLaw", "at", "(Ljava/util/List;I[BI)I"⟩ : MethodName)) hown (mvT hZ (kw60 hw)) (mvT hZ (kw61 hw)) (mvT hZ (kw44 hw)) (mvT hZ (kw62 hw)) (by decide) (backOf (W := 0) (rm10 l Z a0 hw [] rl_39 (3 : Int32) b2 (own_at nn u0 u1 u2 u3 (own_split nn u0 u1 u2 u3) (2 : Int32) (own_at nn u0 u1 u2 u3 (own_split nn u0 u1 u2 u3) (1 : Int32) (own_at nn u0 u1 u2 u3 (own_split nn u0 u1 u2 u3) (0 : Int32) (-1 : Int32)))) nn u0 u1 u2 u3 k2 (own_split nn u0 u1 u2 u3) T39.heap n0 Z39 p39_2 p39_3 f42 (by decide) p39_4) hZ (kw62 hw) (kw44 hw) (by decide) (by decide)) (g := (mkF m 163 #[.val (.int p1), .val (.int p2), .val (.int p3), .val (.int nn), .val (.ref b2), .val (.ref rl_39), .val (.int ((((own_good nn u0 u1 u2 u3 (0 : Int32)) + (own_good nn u0 u1 u2 u3 (1 : Int32))) + (own_good nn u0 u1 u2 u3 (2 : Int32))) + (own_good nn u0 u1 u2 u3 (3 : Int32)))), .val (.int (own_at nn u0 u1 u2 u3 (own_split nn u0 u1 u2 u3) (0 : Int32) (-1 : Int32))), .val (.int (own_at nn u0 u1 u2 u3 (own_split nn u0 u1 u2 u3) (1 : Int32) (own_at nn u0 u1 u2 u3 (own_split nn u0 u1 u2 u3) (0 : Int32) (-1 : Int32)))), .val (.int (own_at nn u0 u1 u2 u3 (own_split nn u0 u1 u2 u3) (2 : Int32) (own_at nn u0 u1 u2 u3 (own_split nn u0 u1 u2 u3) (1 : Int32) (own_at nn u0 u1 u2 u3 (own_split nn u0 u1 u2 u3) (0 : Int32) (-1 : Int32))))), .unset] [(.int (own_at nn u0 u1 u2 u3 (own_split nn u0 u1 u2 u3) (2 : Int32) (own_at nn u0 u1 u2 u3 (own_split nn u0 u1 u2 u3) (1 : Int32) (own_at nn u0 u1 u2 u3 (own_split nn u0 u1 u2 u3) (0 : Int32) (-1 : Int32))))), (.ref b2), (.int 3), (.ref rl_39)])) rfl (by rw [hml]; rfl) (argsL := [(.ref rl_39), (.int 3), (.ref b2), (.int (own_at nn u0 u1 u2 u3 (own_split nn u0 u1 u2 u3) (2 : Int32) (own_at nn u0 u1 u2 u3 (own_split nn u0 u1 u2 u3) (1 : Int32) (own_at nn u0 u1 u2 u3 (own_split nn u0 u1 u2 u3) (0 : Int32) (-1 : Int32)))))]) (rest := []) (lenOf pd_17 rfl) rfl (by show 2 * 0 + _ ≤ _; exact Nat.le_of_eq rfl) (hb hby at_163) (fun _ _ => ⟨rfl, e49, (by decide : 7 + 0 ≤ _), (by decide : 43 + 0 ≤ _)⟩)
  dsimp only [Pt.U, Pt.locs, Pt.cells, Pt.slots] at X50 l50 y50 z50 st50 hQ50
  subst l50 y50 z50
  obtain ⟨rfl, N50q, e50⟩ := hQ50
  have N50 := Fr.app N49 N50q
  have pre51 : ∀ t, Steps p.tables e below (T50.setTop (mkF m 180 #[.val (.int p1), .val (.int p2), .val (.int p3), .val (.int nn), .val (.ref b2), .val (.ref rl_39), .val (.int ((((own_good nn u0 u1 u2 u3 (0 : Int32)) + (own_good nn u0 u1 u2 u3 (1 : Int32))) + (own_good nn u0 u1 u2 u3 (2 : Int32))) + (own_good nn u0 u1 u2 u3 (3 : Int32)))), .val (.int (own_at nn u0 u1 u2 u3 (own_split nn u0 u1 u2 u3) (0 : Int32) (-1 : Int32))), .val (.int (own_at nn u0 u1 u2 u3 (own_split nn u0 u1 u2 u3) (1 : Int32) (own_at nn u0 u1 u2 u3 (own_split nn u0 u1 u2 u3) (0 : Int32) (-1 : Int32)))), .val (.int (own_at nn u0 u1 u2 u3 (own_split nn u0 u1 u2 u3) (2 : Int32) (own_at nn u0 u1 u2 u3 (own_split nn u0 u1 u2 u3) (1 : Int32) (own_at nn u0 u1 u2 u3 (own_split nn u0 u1 u2 u3) (0 : Int32) (-1 : Int32))))), .val (.int (own_at nn u0 u1 u2 u3 (own_split nn u0 u1 u2 u3) (3 : Int32) (own_at nn u0 u1 u2 u3 (own_split nn u0 u1 u2 u3) (2 : Int32) (own_at nn u0 u1 u2 u3 (own_split nn u0 u1 u2 u3) (1 : Int32) (own_at nn u0 u1 u2 u3 (own_split nn u0 u1 u2 u3) (0 : Int32) (-1 : Int32))))))] [(.int 1)])) t → Steps p.tables e below (s₁.setTop (entryFrame m #[(.int p1), (.int p2), (.int p3)] maxLocals)) t := fun t k => pre40 t (by
    refine XS.astore X39.here hx rfl (hb hby at_76) rfl rfl (l' := #[.val (.int p1), .val (.int p2), .val (.int p3), .val (.int nn), .val (.ref b2), .val (.ref rl_39), .unset, .unset, .unset, .unset, .unset]) rfl ?_
    refine XS.aload X39.here hx rfl (hb hby at_78) rfl rfl ?_
    refine XS.iconst X39.here hx rfl (hb hby at_80) ?_
    refine st41 _ ?_
    refine XS.aload X41.here hx rfl (hb hby at_84) rfl rfl ?_
    refine XS.iconst X41.here hx rfl (hb hby at_86) ?_
    refine st43 _ ?_
    refine XS.iadd X43.here hx rfl (hb hby at_90) rfl ?_
    refine XS.aload X43.here hx rfl (hb hby at_91) rfl rfl ?_
    refine XS.iconst X43.here hx rfl (hb hby at_93) ?_
    refine st44 _ ?_
    refine XS.iadd X44.here hx rfl (hb hby at_97) rfl ?_
    refine XS.aload X44.here hx rfl (hb hby at_98) rfl rfl ?_
    refine XS.iconst X44.here hx rfl (hb hby at_100) ?_
    refine st45 _ ?_
    refine XS.iadd X45.here hx rfl (hb hby at_104) rfl ?_
    refine XS.istore X45.here hx rfl (hb hby at_105) rfl (l' := #[.val (.int p1), .val (.int p2), .val (.int p3), .val (.int nn), .val (.ref b2), .val (.ref rl_39), .val (.int ((((own_good nn u0 u1 u2 u3 (0 : Int32)) + (own_good nn u0 u1 u2 u3 (1 : Int32))) + (own_good nn u0 u1 u2 u3 (2 : Int32))) + (own_good nn u0 u1 u2 u3 (3 : Int32)))), .unset, .unset, .unset, .unset]) rfl ?_
    refine XS.aload X45.here hx rfl (hb hby at_107) rfl rfl ?_
    refine st46.trans ?_
    refine XS.iload X46.here hx rfl (hb hby at_114) rfl ?_
    refine XS.icmpYes X46.here hx rfl (pc0 := 116) (pc' := 121) rfl (hb hby at_116) rfl (teq (own_lawA hn)).1 (by decide) (by decide) ?_
    refine XS.aload X46.here hx rfl (hb hby at_121) rfl rfl ?_
    refine XS.iconst X46.here hx rfl (hb hby at_123) ?_
    refine XS.aload X46.here hx rfl (hb hby at_124) rfl rfl ?_
    refine XS.iconst X46.here hx rfl (hb hby at_126) ?_
    show Steps p.tables e below (T46.setTop (mkF m 127 #[.val (.int p1), .val (.int p2), .val (.int p3), .val (.int nn), .val (.ref b2), .val (.ref rl_39), .val (.int ((((own_good nn u0 u1 u2 u3 (0 : Int32)) + (own_good nn u0 u1 u2 u3 (1 : Int32))) + (own_good nn u0 u1 u2 u3 (2 : Int32))) + (own_good nn u0 u1 u2 u3 (3 : Int32)))), .unset, .unset, .unset, .unset] [(.int (-1 : Int32)), (.ref b2), (.int 0), (.ref rl_39)])) _
    refine st47 _ ?_
    refine XS.istore X47.here hx rfl (hb hby at_130) rfl (l' := #[.val (.int p1), .val (.int p2), .val (.int p3), .val (.int nn), .val (.ref b2), .val (.ref rl_39), .val (.int ((((own_good nn u0 u1 u2 u3 (0 : Int32)) + (own_good nn u0 u1 u2 u3 (1 : Int32))) + (own_good nn u0 u1 u2 u3 (2 : Int32))) + (own_good nn u0 u1 u2 u3 (3 : Int32)))), .val (.int (own_at nn u0 u1 u2 u3 (own_split nn u0 u1 u2 u3) (0 : Int32) (-1 : Int32))), .unset, .unset, .unset]) rfl ?_
    refine XS.aload X47.here hx rfl (hb hby at_132) rfl rfl ?_
    refine XS.iconst X47.here hx rfl (hb hby at_134) ?_
    refine XS.aload X47.here hx rfl (hb hby at_135) rfl rfl ?_
    refine XS.iload X47.here hx rfl (hb hby at_137) rfl ?_
    refine st48 _ ?_
    refine XS.istore X48.here hx rfl (hb hby at_142) rfl (l' := #[.val (.int p1), .val (.int p2), .val (.int p3), .val (.int nn), .val (.ref b2), .val (.ref rl_39), .val (.int ((((own_good nn u0 u1 u2 u3 (0 : Int32)) + (own_good nn u0 u1 u2 u3 (1 : Int32))) + (own_good nn u0 u1 u2 u3 (2 : Int32))) + (own_good nn u0 u1 u2 u3 (3 : Int32)))), .val (.int (own_at nn u0 u1 u2 u3 (own_split nn u0 u1 u2 u3) (0 : Int32) (-1 : Int32))), .val (.int (own_at nn u0 u1 u2 u3 (own_split nn u0 u1 u2 u3) (1 : Int32) (own_at nn u0 u1 u2 u3 (own_split nn u0 u1 u2 u3) (0 : Int32) (-1 : Int32)))), .unset, .unset]) rfl ?_
    refine XS.aload X48.here hx rfl (hb hby at_144) rfl rfl ?_
    refine XS.iconst X48.here hx rfl (hb hby at_146) ?_
    refine XS.aload X48.here hx rfl (hb hby at_147) rfl rfl ?_
    refine XS.iload X48.here hx rfl (hb hby at_149) rfl ?_
    refine st49 _ ?_
    refine XS.istore X49.here hx rfl (hb hby at_154) rfl (l' := #[.val (.int p1), .val (.int p2), .val (.int p3), .val (.int nn), .val (.ref b2), .val (.ref rl_39), .val (.int ((((own_good nn u0 u1 u2 u3 (0 : Int32)) + (own_good nn u0 u1 u2 u3 (1 : Int32))) + (own_good nn u0 u1 u2 u3 (2 : Int32))) + (own_good nn u0 u1 u2 u3 (3 : Int32)))), .val (.int (own_at nn u0 u1 u2 u3 (own_split nn u0 u1 u2 u3) (0 : Int32) (-1 : Int32))), .val (.int (own_at nn u0 u1 u2 u3 (own_split nn u0 u1 u2 u3) (1 : Int32) (own_at nn u0 u1 u2 u3 (own_split nn u0 u1 u2 u3) (0 : Int32) (-1 : Int32)))), .val (.int (own_at nn u0 u1 u2 u3 (own_split nn u0 u1 u2 u3) (2 : Int32) (own_at nn u0 u1 u2 u3 (own_split nn u0 u1 u2 u3) (1 : Int32) (own_at nn u0 u1 u2 u3 (own_split nn u0 u1 u2 u3) (0 : Int32) (-1 : Int32))))), .unset]) rfl ?_
    refine XS.aload X49.here hx rfl (hb hby at_156) rfl rfl ?_
    refine XS.iconst X49.here hx rfl (hb hby at_158) ?_
    refine XS.aload X49.here hx rfl (hb hby at_159) rfl rfl ?_
    refine XS.iload X49.here hx rfl (hb hby at_161) rfl ?_
    refine st50 _ ?_
    refine XS.istore X50.here hx rfl (hb hby at_166) rfl (l' := #[.val (.int p1), .val (.int p2), .val (.int p3), .val (.int nn), .val (.ref b2), .val (.ref rl_39), .val (.int ((((own_good nn u0 u1 u2 u3 (0 : Int32)) + (own_good nn u0 u1 u2 u3 (1 : Int32))) + (own_good nn u0 u1 u2 u3 (2 : Int32))) + (own_good nn u0 u1 u2 u3 (3 : Int32)))), .val (.int (own_at nn u0 u1 u2 u3 (own_split nn u0 u1 u2 u3) (0 : Int32) (-1 : Int32))), .val (.int (own_at nn u0 u1 u2 u3 (own_split nn u0 u1 u2 u3) (1 : Int32) (own_at nn u0 u1 u2 u3 (own_split nn u0 u1 u2 u3) (0 : Int32) (-1 : Int32)))), .val (.int (own_at nn u0 u1 u2 u3 (own_split nn u0 u1 u2 u3) (2 : Int32) (own_at nn u0 u1 u2 u3 (own_split nn u0 u1 u2 u3) (1 : Int32) (own_at nn u0 u1 u2 u3 (own_split nn u0 u1 u2 u3) (0 : Int32) (-1 : Int32))))), .val (.int (own_at nn u0 u1 u2 u3 (own_split nn u0 u1 u2 u3) (3 : Int32) (own_at nn u0 u1 u2 u3 (own_split nn u0 u1 u2 u3) (2 : Int32) (own_at nn u0 u1 u2 u3 (own_split nn u0 u1 u2 u3) (1 : Int32) (own_at nn u0 u1 u2 u3 (own_split nn u0 u1 u2 u3) (0 : Int32) (-1 : Int32))))))]) rfl ?_
    refine XS.iload X50.here hx rfl (hb hby at_168) rfl ?_
    refine XS.bipush X50.here hx rfl (hb hby at_170) ?_
    refine XS.icmpNo X50.here hx rfl (hb hby at_172) rfl (feq (own_lawB hn)).1 ?_
    refine XS.iconst X50.here hx rfl (hb hby at_175) ?_
    refine XS.goto X50.here hx rfl (pc0 := 176) (pc' := 180) rfl (hb hby at_176) (by decide) (by decide) ?_
    show Steps p.tables e below (T50.setTop (mkF m 180 #[.val (.int p1), .val (.int p2), .val (.int p3), .val (.int nn), .val (.ref b2), .val (.ref rl_39), .val (.int ((((own_good nn u0 u1 u2 u3 (0 : Int32)) + (own_good nn u0 u1 u2 u3 (1 : Int32))) + (own_good nn u0 u1 u2 u3 (2 : Int32))) + (own_good nn u0 u1 u2 u3 (3 : Int32)))), .val (.int (own_at nn u0 u1 u2 u3 (own_split nn u0 u1 u2 u3) (0 : Int32) (-1 : Int32))), .val (.int (own_at nn u0 u1 u2 u3 (own_split nn u0 u1 u2 u3) (1 : Int32) (own_at nn u0 u1 u2 u3 (own_split nn u0 u1 u2 u3) (0 : Int32) (-1 : Int32)))), .val (.int (own_at nn u0 u1 u2 u3 (own_split nn u0 u1 u2 u3) (2 : Int32) (own_at nn u0 u1 u2 u3 (own_split nn u0 u1 u2 u3) (1 : Int32) (own_at nn u0 u1 u2 u3 (own_split nn u0 u1 u2 u3) (0 : Int32) (-1 : Int32))))), .val (.int (own_at nn u0 u1 u2 u3 (own_split nn u0 u1 u2 u3) (3 : Int32) (own_at nn u0 u1 u2 u3 (own_split nn u0 u1 u2 u3) (2 : Int32) (own_at nn u0 u1 u2 u3 (own_split nn u0 u1 u2 u3) (1 : Int32) (own_at nn u0 u1 u2 u3 (own_split nn u0 u1 u2 u3) (0 : Int32) (-1 : Int32))))))] [(.int 1)])) _
    exact k)
  obtain ⟨fs, hr, hrun, hended, hRE⟩ := X50.leaveW hS39 (by rw [e50]; exact Y39) (v := some (.int 1)) (fun h => by rw [Bd.returns] at h; cases h)
  refine ⟨_, _, pre51 _ ?_, hrun, hended, _, _, rfl, ?_, hRE.1, hRE.2.1, hRE.2.2.1, hRE.2.2.2.mono (by decide) (by decide)⟩
  · skip
    show Steps p.tables e below (T50.setTop (mkF m 180 #[.val (.int p1), .val (.int p2), .val (.int p3), .val (.int nn), .val (.ref b2), .val (.ref rl_39), .val (.int ((((own_good nn u0 u1 u2 u3 (0 : Int32)) + (own_good nn u0 u1 u2 u3 (1 : Int32))) + (own_good nn u0 u1 u2 u3 (2 : Int32))) + (own_good nn u0 u1 u2 u3 (3 : Int32)))), .val (.int (own_at nn u0 u1 u2 u3 (own_split nn u0 u1 u2 u3) (0 : Int32) (-1 : Int32))), .val (.int (own_at nn u0 u1 u2 u3 (own_split nn u0 u1 u2 u3) (1 : Int32) (own_at nn u0 u1 u2 u3 (own_split nn u0 u1 u2 u3) (0 : Int32) (-1 : Int32)))), .val (.int (own_at nn u0 u1 u2 u3 (own_split nn u0 u1 u2 u3) (2 : Int32) (own_at nn u0 u1 u2 u3 (own_split nn u0 u1 u2 u3) (1 : Int32) (own_at nn u0 u1 u2 u3 (own_split nn u0 u1 u2 u3) (0 : Int32) (-1 : Int32))))), .val (.int (own_at nn u0 u1 u2 u3 (own_split nn u0 u1 u2 u3) (3 : Int32) (own_at nn u0 u1 u2 u3 (own_split nn u0 u1 u2 u3) (2 : Int32) (own_at nn u0 u1 u2 u3 (own_split nn u0 u1 u2 u3) (1 : Int32) (own_at nn u0 u1 u2 u3 (own_split nn u0 u1 u2 u3) (0 : Int32) (-1 : Int32))))))] [(.int 1)])) _
    exact retN X50 hx (t := .boolean) Bd.returns (by simp) (hb hby at_180) hr
  · show Q_rm0 Z p1 p2 p3 w_DEF kD h0 n0 _ T50.heap _
    rw [e50]
    exact ⟨rfl, N50, K39⟩
set_option maxRecDepth 65536 in
set_option maxHeartbeats 40000000 in
theorem comes_1 {Post : Tables → Env → Array Value → State → Outcome → State → Prop} (hpost : ∀ tb e args s v u, (limb_1_1.after args s (.returned v) u = true ∧ limb_1_2.after args s (.returned v) u = true ∧ True) → ReturnedEndW s (.returned v) u (Jvm.fieldLocs frame_1_writes args s ++ Jvm.arrayLocs frame_1_arrays args s ++ Jvm.staticLocs frame_1_statics s) 24 1152 → Post tb e args s (.returned v) u) :
    ArmFor flags0 classFile x code maxLocals ret World_1 tables_1 room_1 Calls_1 rest_1 Pre_1 Post := by
  intro l hfl _ _ p e ha hc hk s m args below hf hA hF happ hP
  obtain ⟨hcalls, hrest, hpre⟩ := hP
  obtain ⟨-, -, -, hnamed, -, -, -, hat⟩ := (Spec.applies_iff hf).mp happ
  obtain ⟨hg, hn⟩ := and_e (Cond.before_iff.mp (show (Jvm.Cond.and given_1 narrow_1).before args s = true from hpre))
  obtain ⟨g1, g2⟩ := and_e hg
  obtain ⟨g3, g4⟩ := and_e g2
  obtain ⟨g5, g6⟩ := and_e g4
  obtain ⟨w0, w1, w2, rfl⟩ : ∃ w0 w1 w2 : Value, args = #[w0, w1, w2] := by
    have hs : args.size = 3 := by simpa [Cond.value, given_1] using g1
    obtain ⟨L⟩ := args
    match L, hs with
    | [w0, w1, w2], _ => exact ⟨w0, w1, w2, rfl⟩
  have hw0 := fun d (hd : d ∈ tables_1) => atoms_spec (ws := Jvm.Cond.code x code maxLocals ret :: tables_1) hat d (List.mem_cons_of_mem _ hd)
  have hfit : Fit s := fun {y c} hc i hi => by
    obtain ⟨ha, rfl⟩ := Array.getElem?_eq_some_iff.mp hc
    have q := List.all_eq_true.mp ((Array.all_eq_true_iff_forall_mem.mp hF) _ (Array.getElem_mem ha)) i (List.mem_range.mpr hi)
    simpa [Array.getElem?_eq_getElem hi] using q
  obtain ⟨hsets, hown0⟩ := atoms_of _ (rest_1_c_eq ▸ (show rest_1_c.before _ s = true from hrest))
  have hw : ∀ d ∈ own_tab, d.before _ s = true := fun d hd => (List.mem_append.mp hd).elim (hw0 d) (hsets d)
  obtain ⟨i0, ei0⟩ := is_v g3
  obtain rfl : w0 = (.int i0) := Option.some.inj ei0
  obtain ⟨i1, ei1⟩ := is_v g5
  obtain rfl : w1 = (.int i1) := Option.some.inj ei1
  obtain ⟨i2, ei2⟩ := is_v g6
  obtain rfl : w2 = (.int i2) := Option.some.inj ei2
  have j7 := Cond.before_iff.mp (hsets _ (List.mem_of_getElem? (i := 3) rfl))
  have j8 := Cond.before_iff.mp (hsets _ (List.mem_of_getElem? (i := 4) rfl))
  have j9 := Cond.before_iff.mp (hsets _ (List.mem_of_getElem? (i := 5) rfl))
  have j10 := Cond.before_iff.mp (hsets _ (List.mem_of_getElem? (i := 6) rfl))
  have j11 := Cond.before_iff.mp (hsets _ (List.mem_of_getElem? (i := 7) rfl))
  have j12 := Cond.before_iff.mp (hsets _ (List.mem_of_getElem? (i := 8) rfl))
  obtain ⟨w_EMPTY_ELEMENTDATA, ev_w_EMPTY_ELEMENTDATA⟩ := exa_v j8
  have S_w_EMPTY_ELEMENTDATA := Sta.start ev_w_EMPTY_ELEMENTDATA (Or.inl (kw172 hw))
  have Ex_w_EMPTY_ELEMENTDATA : Exa s s.heap w_EMPTY_ELEMENTDATA "[Ljava/lang/Object;" := Exa.start ev_w_EMPTY_ELEMENTDATA j8
  obtain ⟨w_DEFAULTCAPACITY_EMPTY_ELEMENTDATA, ev_w_DEFAULTCAPACITY_EMPTY_ELEMENTDATA⟩ := exa_v j11
  have S_w_DEFAULTCAPACITY_EMPTY_ELEMENTDATA := Sta.start ev_w_DEFAULTCAPACITY_EMPTY_ELEMENTDATA (Or.inr ⟨(kw18 hw), (kw173 hw)⟩)
  have Ex_w_DEFAULTCAPACITY_EMPTY_ELEMENTDATA : Exa s s.heap w_DEFAULTCAPACITY_EMPTY_ELEMENTDATA "[Ljava/lang/Object;" := Exa.start ev_w_DEFAULTCAPACITY_EMPTY_ELEMENTDATA j11
  obtain ⟨cl_w_EMPTY_ELEMENTDATA, Ar_w_EMPTY_ELEMENTDATA⟩ := Arr.start ev_w_EMPTY_ELEMENTDATA j7
  obtain ⟨cl_w_DEFAULTCAPACITY_EMPTY_ELEMENTDATA, Ar_w_DEFAULTCAPACITY_EMPTY_ELEMENTDATA⟩ := Arr.start ev_w_DEFAULTCAPACITY_EMPTY_ELEMENTDATA j10
  have ln_w_EMPTY_ELEMENTDATA := own_len0 hfit ev_w_EMPTY_ELEMENTDATA Ar_w_EMPTY_ELEMENTDATA j9
  have ln_w_DEFAULTCAPACITY_EMPTY_ELEMENTDATA := own_len0 hfit ev_w_DEFAULTCAPACITY_EMPTY_ELEMENTDATA Ar_w_DEFAULTCAPACITY_EMPTY_ELEMENTDATA j12
  obtain ⟨n, o, h1, h2, h3, _, L, rfl, ⟨rfl, N, -⟩, hq⟩ := rm0 l s _ hw tables_1 i0 i1 i2 w_DEFAULTCAPACITY_EMPTY_ELEMENTDATA cl_w_DEFAULTCAPACITY_EMPTY_ELEMENTDATA.cls s.heap s.heap.size (Nat.le_refl _) (Old.start s) S_w_DEFAULTCAPACITY_EMPTY_ELEMENTDATA ln_w_DEFAULTCAPACITY_EMPTY_ELEMENTDATA p e ha hc hk s m _ below hf ((Spec.applies_iff_loose hf).mp happ).1 ⟨rfl, State.Warmed39.refl s, rfl⟩ trivial
  refine ⟨n, _, h1, h2, h3, hpost _ _ _ _ _ _ ⟨Cond.after_iff.mpr rfl, Cond.after_iff.mpr (eq_i res_at (Term.int_eval (1)) rfl), trivial⟩ ⟨hq.1, hq.2.1, hq.2.2.1, (hq.2.2.2.sift fun y hy => Or.inr (N y hy)).mono (by decide) (by decide)⟩⟩
theorem main_1_1 : Claimed_1_1 := comes_1 fun _ _ _ _ _ _ h hF => ⟨h.1, hF⟩
theorem main_1_2 : Claimed_1_2 := comes_1 fun _ _ _ _ _ _ h hF => ⟨h.2.1, hF⟩
end Jvm.Pilot.@@N@@
namespace Jvm.Pilot.@@N@@
open Jvm Jvm.ClassFile Sem Op Lib Jvm.Free Jvm.Stand Jvm.Pilot.@@N@@.Jvm.D
/-! MADE BY PROGRAM (witnessworld.py) out of the Statement's table words and the real class files: 28 classes; the members and pool entries that the words name. The judged class is class 1, her method 1. -/
namespace start1
open Jvm.ClassFile
def u (s : String) : CpInfo := .utf8 (stringToUtf16 s)
/-- a pool by its gaps: so many unusable entries, then the entry; so many at the end -/
def gap : Nat → List CpInfo → List CpInfo
  | 0, r => r
  | n + 1, r => .unusable :: gap n r
def poolList (es : List (Nat × CpInfo)) (last : Nat) : List CpInfo := es.foldr (fun e r => gap e.1 (e.2 :: r)) (gap last [])
def pool (es : List (Nat × CpInfo)) (last : Nat) : Array CpInfo := ⟨poolList es last⟩
def fileOf (pool : Array CpInfo) (this : Nat) (attrs : Array Attribute := #[]) (ms : Array MethodInfo := #[]) (fl : Nat := 33) (sup : Nat := 0) (ifs : Array Nat := #[]) (fds : Array FieldInfo := #[]) : ClassFile where
  minorVersion := 0
  majorVersion := 65
  constantPool := pool
  accessFlags := fl
  thisClass := this
  superClass := sup
  interfaces := ifs
  fields := fds
  methods := ms
  attributes := attrs
def plain (name : String) (sup : Option ClassId) : Class where
  name := name
  kind := .ordinary
  loader := none
  accessFlags := 33
  super := sup
  interfaces := #[]
  cf := none
  fields := #[]
  methods := #[]
  instanceTypes := #[]
  staticTypes := #[]
  resolved := #[]
  callSites := []
  init := .initialized
  statics := none
  mirror := none

def pool0 : Array CpInfo := pool [(5, u "<init>"), (0, u "()V"), (1, .class_ 10), (1, u "java/lang/Object")] 113

def k0c0 : Code := { maxStack := 0, maxLocals := 1, code := object_method_1_code, exceptionTable := #[], attributes := #[] }
def k0m0 : Method := { name := "<init>", desc := "()V", sig := { parameters := [], returnType := none }, accessFlags := 1, code := some k0c0 }
/-- java/lang/Object -/
def k0 : Class := { plain "java/lang/Object" none with
  accessFlags := 33
  interfaces := #[]
  cf := some (fileOf pool0 8 #[] #[{ accessFlags := 1, nameIndex := 5, descriptorIndex := 6, attributes := #[] }] 33 0 #[] #[])
  fields := #[]
  methods := #[k0m0]
  instanceTypes := #[]
  staticTypes := #[]
  resolved := Array.replicate 124 none
  statics := none }

def pool1 : Array CpInfo := pool [(2, .class_ 4), (1, u "java/lang/Object"), (0, u "<init>"), (0, u "()V"), (0, .methodref 8 9), (0, .class_ 10), (0, .nameAndType 11 12), (0, u "com/example/rank_keeper/rankkeeper/BodyLinesSplitPinLaw"), (0, u "pick"), (0, u "(III)B"), (0, .methodref 14 15), (0, .class_ 16), (0, .nameAndType 17 18), (0, u "com/example/rank_keeper/rankkeeper/BodyLines"), (0, u "split"), (0, u "([B)Ljava/util/List;"), (0, .methodref 8 20), (0, .nameAndType 21 22), (0, u "good"), (0, u "([BI)I"), (0, .interfaceMethodref 24 25), (0, .class_ 26), (0, .nameAndType 27 28), (0, u "java/util/List"), (0, u "size"), (0, u "()I"), (0, .methodref 8 30), (0, .nameAndType 31 32), (0, u "at"), (0, u "(Ljava/util/List;I[BI)I"), (0, .methodref 8 34), (0, .nameAndType 35 36), (0, u "isNl"), (0, u "([BI)Z"), (0, .methodref 8 38), (0, .nameAndType 39 40), (0, u "inkAt"), (0, u "([BIII)Z"), (0, .methodref 8 42), (0, .nameAndType 43 36), (0, u "isStart"), (0, .methodref 8 45), (0, .nameAndType 46 22), (0, u "endFrom"), (0, .methodref 8 48), (0, .nameAndType 49 50), (0, u "hasInk"), (0, u "([BII)Z"), (0, .interfaceMethodref 24 52), (0, .nameAndType 53 54), (0, u "get"), (0, u "(I)Ljava/lang/Object;"), (0, .class_ 56), (0, u "com/example/rank_keeper/rankkeeper/BodyLines$Line"), (0, .methodref 55 58), (0, .nameAndType 59 28), (0, u "offset"), (0, .methodref 55 61), (0, .nameAndType 62 28), (0, u "length"), (0, .methodref 55 64), (0, .nameAndType 65 28), (0, u "number"), (0, .methodref 8 67), (0, .nameAndType 68 22), (0, u "nlBefore"), (2, u "law"), (0, u "(III)Z")] 9

def k1m0 : Method := { name := "<init>", desc := "()V", sig := { parameters := [], returnType := none }, accessFlags := 2, code := none }
def k1c1 : Code := { maxStack := 5, maxLocals := 11, code := code, exceptionTable := #[], attributes := #[] }
def k1m1 : Method := { name := "law", desc := "(III)Z", sig := { parameters := [.int, .int, .int], returnType := some .boolean }, accessFlags := 9, code := some k1c1 }
def k1c2 : Code := { maxStack := 3, maxLocals := 4, code := method_3_code, exceptionTable := #[], attributes := #[] }
def k1m2 : Method := { name := "pick", desc := "(III)B", sig := { parameters := [.int, .int, .int], returnType := some .byte }, accessFlags := 10, code := some k1c2 }
def k1c3 : Code := { maxStack := 2, maxLocals := 2, code := method_4_code, exceptionTable := #[], attributes := #[] }
def k1m3 : Method := { name := "isNl", desc := "([BI)Z", sig := { parameters := [(.array .byte), .int], returnType := some .boolean }, accessFlags := 10, code := some k1c3 }
def k1c4 : Code := { maxStack := 3, maxLocals := 2, code := method_5_code, exceptionTable := #[], attributes := #[] }
def k1m4 : Method := { name := "isStart", desc := "([BI)Z", sig := { parameters := [(.array .byte), .int], returnType := some .boolean }, accessFlags := 10, code := some k1c4 }
def k1c5 : Code := { maxStack := 2, maxLocals := 3, code := method_6_code, exceptionTable := #[], attributes := #[] }
def k1m5 : Method := { name := "endFrom", desc := "([BI)I", sig := { parameters := [(.array .byte), .int], returnType := some .int }, accessFlags := 10, code := some k1c5 }
def k1c6 : Code := { maxStack := 2, maxLocals := 4, code := method_7_code, exceptionTable := #[], attributes := #[] }
def k1m6 : Method := { name := "inkAt", desc := "([BIII)Z", sig := { parameters := [(.array .byte), .int, .int, .int], returnType := some .boolean }, accessFlags := 10, code := some k1c6 }
def k1c7 : Code := { maxStack := 4, maxLocals := 3, code := method_8_code, exceptionTable := #[], attributes := #[] }
def k1m7 : Method := { name := "hasInk", desc := "([BII)Z", sig := { parameters := [(.array .byte), .int, .int], returnType := some .boolean }, accessFlags := 10, code := some k1c7 }
def k1c8 : Code := { maxStack := 2, maxLocals := 3, code := method_9_code, exceptionTable := #[], attributes := #[] }
def k1m8 : Method := { name := "nlBefore", desc := "([BI)I", sig := { parameters := [(.array .byte), .int], returnType := some .int }, accessFlags := 10, code := some k1c8 }
def k1c9 : Code := { maxStack := 4, maxLocals := 2, code := method_10_code, exceptionTable := #[], attributes := #[] }
def k1m9 : Method := { name := "good", desc := "([BI)I", sig := { parameters := [(.array .byte), .int], returnType := some .int }, accessFlags := 10, code := some k1c9 }
def k1c10 : Code := { maxStack := 4, maxLocals := 6, code := method_11_code, exceptionTable := #[], attributes := #[] }
def k1m10 : Method := { name := "at", desc := "(Ljava/util/List;I[BI)I", sig := { parameters := [(.object "java/util/List"), .int, (.array .byte), .int], returnType := some .int }, accessFlags := 10, code := some k1c10 }
/-- com/example/rank_keeper/rankkeeper/BodyLinesSplitPinLaw -/
def k1 : Class := { plain "com/example/rank_keeper/rankkeeper/BodyLinesSplitPinLaw" (some 0) with
  accessFlags := 49
  interfaces := #[]
  cf := some (fileOf pool1 8 #[] #[{ accessFlags := 2, nameIndex := 5, descriptorIndex := 6, attributes := #[] }, { accessFlags := 9, nameIndex := 71, descriptorIndex := 72, attributes := #[] }, { accessFlags := 10, nameIndex := 11, descriptorIndex := 12, attributes := #[] }, { accessFlags := 10, nameIndex := 35, descriptorIndex := 36, attributes := #[] }, { accessFlags := 10, nameIndex := 43, descriptorIndex := 36, attributes := #[] }, { accessFlags := 10, nameIndex := 46, descriptorIndex := 22, attributes := #[] }, { accessFlags := 10, nameIndex := 39, descriptorIndex := 40, attributes := #[] }, { accessFlags := 10, nameIndex := 49, descriptorIndex := 50, attributes := #[] }, { accessFlags := 10, nameIndex := 68, descriptorIndex := 22, attributes := #[] }, { accessFlags := 10, nameIndex := 21, descriptorIndex := 22, attributes := #[] }, { accessFlags := 10, nameIndex := 31, descriptorIndex := 32, attributes := #[] }] 49 2 #[] #[])
  fields := #[]
  methods := #[k1m0, k1m1, k1m2, k1m3, k1m4, k1m5, k1m6, k1m7, k1m8, k1m9, k1m10]
  instanceTypes := #[]
  staticTypes := #[]
  resolved := Array.replicate 82 none
  statics := none }

def pool2 : Array CpInfo := pool [(2, .class_ 4), (0, .nameAndType 5 6), (0, u "java/lang/Object"), (0, u "<init>"), (0, u "()V"), (0, .string 8), (0, u "body"), (0, .methodref 10 11), (0, .class_ 12), (0, .nameAndType 13 14), (0, u "java/util/Objects"), (0, u "requireNonNull"), (0, u "(Ljava/lang/Object;Ljava/lang/String;)Ljava/lang/Object;"), (0, .class_ 16), (0, u "java/util/ArrayList"), (0, .methodref 15 3), (0, .methodref 19 20), (0, .class_ 21), (0, .nameAndType 22 23), (0, u "com/example/rank_keeper/rankkeeper/BodyLines"), (0, u "isBlank"), (0, u "([BII)Z"), (0, .class_ 25), (0, u "com/example/rank_keeper/rankkeeper/BodyLines$Line"), (0, .methodref 24 27), (0, .nameAndType 5 28), (0, u "(III)V"), (0, .interfaceMethodref 30 31), (0, .class_ 32), (0, .nameAndType 33 34), (0, u "java/util/List"), (0, u "add"), (0, u "(Ljava/lang/Object;)Z"), (2, u "split"), (0, u "([B)Ljava/util/List;")] 8

def k2m0 : Method := { name := "<init>", desc := "()V", sig := { parameters := [], returnType := none }, accessFlags := 2, code := none }
def k2c1 : Code := { maxStack := 7, maxLocals := 5, code := prog_2_method_2_code, exceptionTable := #[], attributes := #[] }
def k2m1 : Method := { name := "split", desc := "([B)Ljava/util/List;", sig := { parameters := [(.array .byte)], returnType := some (.object "java/util/List") }, accessFlags := 9, code := some k2c1 }
def k2c2 : Code := { maxStack := 2, maxLocals := 5, code := prog_2_method_3_code, exceptionTable := #[], attributes := #[] }
def k2m2 : Method := { name := "isBlank", desc := "([BII)Z", sig := { parameters := [(.array .byte), .int, .int], returnType := some .boolean }, accessFlags := 10, code := some k2c2 }
/-- com/example/rank_keeper/rankkeeper/BodyLines -/
def k2 : Class := { plain "com/example/rank_keeper/rankkeeper/BodyLines" (some 0) with
  accessFlags := 49
  interfaces := #[]
  cf := some (fileOf pool2 19 #[.nestMembers #[24]] #[{ accessFlags := 2, nameIndex := 5, descriptorIndex := 6, attributes := #[] }, { accessFlags := 9, nameIndex := 37, descriptorIndex := 38, attributes := #[] }, { accessFlags := 10, nameIndex := 22, descriptorIndex := 23, attributes := #[] }] 49 2 #[] #[])
  fields := #[]
  methods := #[k2m0, k2m1, k2m2]
  instanceTypes := #[]
  staticTypes := #[]
  resolved := Array.replicate 47 none
  statics := none }

def pool3 : Array CpInfo := pool [(1, .class_ 2), (0, u "java/io/Serializable"), (0, .class_ 4), (0, u "java/lang/Object")] 2

/-- java/io/Serializable -/
def k3 : Class := { plain "java/io/Serializable" (some 0) with
  accessFlags := 1537
  interfaces := #[]
  cf := some (fileOf pool3 1 #[] #[] 1537 3 #[] #[])
  fields := #[]
  methods := #[]
  instanceTypes := #[]
  staticTypes := #[]
  resolved := Array.replicate 7 none
  statics := none }

def pool4 : Array CpInfo := pool [(1, .class_ 2), (0, u "java/lang/Comparable"), (0, .class_ 4), (0, u "java/lang/Object")] 7

/-- java/lang/Comparable -/
def k4 : Class := { plain "java/lang/Comparable" (some 0) with
  accessFlags := 1537
  interfaces := #[]
  cf := some (fileOf pool4 1 #[] #[] 1537 3 #[] #[])
  fields := #[]
  methods := #[]
  instanceTypes := #[]
  staticTypes := #[]
  resolved := Array.replicate 12 none
  statics := none }

def pool5 : Array CpInfo := pool [(2, .class_ 4), (1, u "java/lang/CharSequence"), (42, .class_ 48), (0, u "java/lang/CharSequence$1CodePointIterator"), (10, .class_ 60), (0, u "java/lang/CharSequence$1CharIterator"), (5, .class_ 67), (0, u "java/lang/Object")] 63

/-- java/lang/CharSequence -/
def k5 : Class := { plain "java/lang/CharSequence" (some 0) with
  accessFlags := 1537
  interfaces := #[]
  cf := some (fileOf pool5 2 #[.nestMembers #[47, 59]] #[] 1537 66 #[] #[])
  fields := #[]
  methods := #[]
  instanceTypes := #[]
  staticTypes := #[]
  resolved := Array.replicate 131 none
  statics := none }

def pool6 : Array CpInfo := pool [(1, .class_ 2), (0, u "java/lang/constant/Constable"), (0, .class_ 4), (0, u "java/lang/Object")] 6

/-- java/lang/constant/Constable -/
def k6 : Class := { plain "java/lang/constant/Constable" (some 0) with
  accessFlags := 1537
  interfaces := #[]
  cf := some (fileOf pool6 1 #[] #[] 1537 3 #[] #[])
  fields := #[]
  methods := #[]
  instanceTypes := #[]
  staticTypes := #[]
  resolved := Array.replicate 11 none
  statics := none }

def pool7 : Array CpInfo := pool [(1, .class_ 2), (0, u "java/lang/constant/ConstantDesc"), (0, .class_ 4), (0, u "java/lang/Object")] 32

/-- java/lang/constant/ConstantDesc -/
def k7 : Class := { plain "java/lang/constant/ConstantDesc" (some 0) with
  accessFlags := 1537
  interfaces := #[]
  cf := some (fileOf pool7 1 #[] #[] 1537 3 #[] #[])
  fields := #[]
  methods := #[]
  instanceTypes := #[]
  staticTypes := #[]
  resolved := Array.replicate 37 none
  statics := none }

def pool8 : Array CpInfo := pool [(2, .class_ 4), (1, u "java/lang/Object"), (0, u "<init>"), (0, u "()V"), (3, .class_ 12), (1, u "java/lang/String"), (0, u "value"), (0, u "[B"), (2, u "coder"), (0, u "B"), (2, u "hash"), (0, u "I"), (2, u "hashIsZero"), (0, u "Z"), (13, u "COMPACT_STRINGS"), (534, .class_ 576), (0, u "java/lang/CharSequence"), (22, u "CASE_INSENSITIVE_ORDER"), (0, u "Ljava/util/Comparator;"), (500, u "serialPersistentFields"), (0, u "[Ljava/io/ObjectStreamField;"), (0, .class_ 1104), (0, u "java/lang/String$CaseInsensitiveComparator"), (1, .class_ 1107), (0, u "java/io/Serializable"), (0, .class_ 1109), (0, u "java/lang/Comparable"), (0, .class_ 1111), (0, u "java/lang/constant/Constable"), (0, .class_ 1113), (0, u "java/lang/constant/ConstantDesc"), (2, u "serialVersionUID"), (0, u "J"), (3, u "REPL"), (0, u "C"), (2, u "LATIN1"), (1, u "UTF16")] 323

def k8m0 : Method := { name := "<init>", desc := "()V", sig := { parameters := [], returnType := none }, accessFlags := 1, code := none }
/-- java/lang/String -/
def k8 : Class := { plain "java/lang/String" (some 0) with
  accessFlags := 49
  interfaces := #[3, 4, 5, 6, 7]
  cf := some (fileOf pool8 10 #[.nestMembers #[1103]] #[{ accessFlags := 1, nameIndex := 5, descriptorIndex := 6, attributes := #[] }] 49 2 #[1106, 1108, 575, 1110, 1112] #[{ accessFlags := 18, nameIndex := 13, descriptorIndex := 14, attributes := #[] }, { accessFlags := 18, nameIndex := 17, descriptorIndex := 18, attributes := #[] }, { accessFlags := 2, nameIndex := 21, descriptorIndex := 22, attributes := #[] }, { accessFlags := 2, nameIndex := 25, descriptorIndex := 26, attributes := #[] }, { accessFlags := 26, nameIndex := 1116, descriptorIndex := 1117, attributes := #[] }, { accessFlags := 24, nameIndex := 40, descriptorIndex := 26, attributes := #[] }, { accessFlags := 26, nameIndex := 1101, descriptorIndex := 1102, attributes := #[] }, { accessFlags := 26, nameIndex := 1121, descriptorIndex := 1122, attributes := #[] }, { accessFlags := 25, nameIndex := 599, descriptorIndex := 600, attributes := #[] }, { accessFlags := 24, nameIndex := 1125, descriptorIndex := 18, attributes := #[] }, { accessFlags := 24, nameIndex := 1127, descriptorIndex := 18, attributes := #[] }])
  fields := #[{ name := "value", type := (.array .byte), accessFlags := 18, slot := 0, constantValue := 0 }, { name := "coder", type := .byte, accessFlags := 18, slot := 1, constantValue := 0 }, { name := "hash", type := .int, accessFlags := 2, slot := 2, constantValue := 0 }, { name := "hashIsZero", type := .boolean, accessFlags := 2, slot := 3, constantValue := 0 }, { name := "serialVersionUID", type := .long, accessFlags := 26, slot := 0, constantValue := 0 }, { name := "COMPACT_STRINGS", type := .boolean, accessFlags := 24, slot := 1, constantValue := 0 }, { name := "serialPersistentFields", type := (.array (.object "java/io/ObjectStreamField")), accessFlags := 26, slot := 2, constantValue := 0 }, { name := "REPL", type := .char, accessFlags := 26, slot := 3, constantValue := 0 }, { name := "CASE_INSENSITIVE_ORDER", type := (.object "java/util/Comparator"), accessFlags := 25, slot := 4, constantValue := 0 }, { name := "LATIN1", type := .byte, accessFlags := 24, slot := 5, constantValue := 0 }, { name := "UTF16", type := .byte, accessFlags := 24, slot := 6, constantValue := 0 }]
  methods := #[k8m0]
  instanceTypes := #[(.array .byte), .byte, .int, .boolean]
  staticTypes := #[.long, .boolean, (.array (.object "java/io/ObjectStreamField")), .char, (.object "java/util/Comparator"), .byte, .byte]
  resolved := Array.replicate 1451 none
  statics := none }

def pool9 : Array CpInfo := pool [(2, .class_ 4), (1, u "java/lang/Object"), (0, u "<init>"), (0, u "()V"), (35, .class_ 44), (1, u "java/util/Objects"), (0, u "requireNonNull"), (48, u "(Ljava/lang/Object;Ljava/lang/String;)Ljava/lang/Object;"), (10, .methodref 106 107), (0, .class_ 108), (0, .nameAndType 109 110), (0, u "jdk/internal/util/Preconditions"), (0, u "checkIndex"), (0, u "(IILjava/util/function/BiFunction;)I"), (60, u "(II)I")] 12

def k9m0 : Method := { name := "<init>", desc := "()V", sig := { parameters := [], returnType := none }, accessFlags := 2, code := none }
def k9c1 : Code := { maxStack := 3, maxLocals := 2, code := jdk_31_method_11_code, exceptionTable := #[], attributes := #[] }
def k9m1 : Method := { name := "requireNonNull", desc := "(Ljava/lang/Object;Ljava/lang/String;)Ljava/lang/Object;", sig := { parameters := [(.object "java/lang/Object"), (.object "java/lang/String")], returnType := some (.object "java/lang/Object") }, accessFlags := 9, code := some k9c1 }
def k9c2 : Code := { maxStack := 3, maxLocals := 2, code := jdk_31_method_17_code, exceptionTable := #[], attributes := #[] }
def k9m2 : Method := { name := "checkIndex", desc := "(II)I", sig := { parameters := [.int, .int], returnType := some .int }, accessFlags := 9, code := some k9c2 }
/-- java/util/Objects -/
def k9 : Class := { plain "java/util/Objects" (some 0) with
  accessFlags := 49
  interfaces := #[]
  cf := some (fileOf pool9 42 #[] #[{ accessFlags := 2, nameIndex := 5, descriptorIndex := 6, attributes := #[] }, { accessFlags := 9, nameIndex := 45, descriptorIndex := 94, attributes := #[] }, { accessFlags := 9, nameIndex := 109, descriptorIndex := 171, attributes := #[] }] 49 2 #[] #[])
  fields := #[]
  methods := #[k9m0, k9m1, k9m2]
  instanceTypes := #[]
  staticTypes := #[]
  resolved := Array.replicate 184 none
  statics := none }

def pool10 : Array CpInfo := pool [(8, .class_ 10), (1, u "java/lang/Iterable"), (24, .class_ 36), (0, u "java/lang/Object")] 25

/-- java/lang/Iterable -/
def k10 : Class := { plain "java/lang/Iterable" (some 0) with
  accessFlags := 1537
  interfaces := #[]
  cf := some (fileOf pool10 8 #[] #[] 1537 35 #[] #[])
  fields := #[]
  methods := #[]
  instanceTypes := #[]
  staticTypes := #[]
  resolved := Array.replicate 62 none
  statics := none }

def pool11 : Array CpInfo := pool [(10, .class_ 12), (1, u "java/util/Collection"), (47, .class_ 61), (0, u "java/lang/Object"), (0, .class_ 63), (0, u "java/lang/Iterable")] 51

/-- java/util/Collection -/
def k11 : Class := { plain "java/util/Collection" (some 0) with
  accessFlags := 1537
  interfaces := #[10]
  cf := some (fileOf pool11 10 #[] #[] 1537 60 #[62] #[])
  fields := #[]
  methods := #[]
  instanceTypes := #[]
  staticTypes := #[]
  resolved := Array.replicate 115 none
  statics := none }

def pool12 : Array CpInfo := pool [(1, .methodref 2 3), (0, .class_ 4), (0, .nameAndType 5 6), (0, u "java/lang/Object"), (0, u "<init>"), (0, u "()V"), (1, .class_ 10), (1, u "java/util/AbstractCollection"), (66, .class_ 78), (0, u "java/util/Collection")] 81

def k12c0 : Code := { maxStack := 1, maxLocals := 1, code := jdk_22_method_1_code, exceptionTable := #[], attributes := #[] }
def k12m0 : Method := { name := "<init>", desc := "()V", sig := { parameters := [], returnType := none }, accessFlags := 4, code := some k12c0 }
/-- java/util/AbstractCollection -/
def k12 : Class := { plain "java/util/AbstractCollection" (some 0) with
  accessFlags := 1057
  interfaces := #[11]
  cf := some (fileOf pool12 8 #[] #[{ accessFlags := 4, nameIndex := 5, descriptorIndex := 6, attributes := #[] }] 1057 2 #[77] #[])
  fields := #[]
  methods := #[k12m0]
  instanceTypes := #[]
  staticTypes := #[]
  resolved := Array.replicate 160 none
  statics := none }

def pool13 : Array CpInfo := pool [(8, .class_ 10), (1, u "java/util/SequencedCollection"), (15, .class_ 27), (0, u "java/lang/Object"), (0, .class_ 29), (0, u "java/util/Collection")] 27

/-- java/util/SequencedCollection -/
def k13 : Class := { plain "java/util/SequencedCollection" (some 0) with
  accessFlags := 1537
  interfaces := #[11]
  cf := some (fileOf pool13 8 #[] #[] 1537 26 #[28] #[])
  fields := #[]
  methods := #[]
  instanceTypes := #[]
  staticTypes := #[]
  resolved := Array.replicate 57 none
  statics := none }

def pool14 : Array CpInfo := pool [(8, .class_ 10), (1, u "java/util/List"), (49, u "add"), (3, u "(Ljava/lang/Object;)Z"), (10, u "get"), (0, u "(I)Ljava/lang/Object;"), (2, u "size"), (0, u "()I"), (22, .class_ 104), (0, u "java/lang/Object"), (15, .class_ 121), (0, u "java/util/SequencedCollection")] 129

def k14m0 : Method := { name := "size", desc := "()I", sig := { parameters := [], returnType := some .int }, accessFlags := 1025, code := none }
def k14m1 : Method := { name := "add", desc := "(Ljava/lang/Object;)Z", sig := { parameters := [(.object "java/lang/Object")], returnType := some .boolean }, accessFlags := 1025, code := none }
def k14m2 : Method := { name := "get", desc := "(I)Ljava/lang/Object;", sig := { parameters := [.int], returnType := some (.object "java/lang/Object") }, accessFlags := 1025, code := none }
/-- java/util/List -/
def k14 : Class := { plain "java/util/List" (some 0) with
  accessFlags := 1537
  interfaces := #[13]
  cf := some (fileOf pool14 8 #[] #[{ accessFlags := 1025, nameIndex := 79, descriptorIndex := 80, attributes := #[] }, { accessFlags := 1025, nameIndex := 60, descriptorIndex := 64, attributes := #[] }, { accessFlags := 1025, nameIndex := 75, descriptorIndex := 76, attributes := #[] }] 1537 103 #[120] #[])
  fields := #[]
  methods := #[k14m0, k14m1, k14m2]
  instanceTypes := #[]
  staticTypes := #[]
  resolved := Array.replicate 251 none
  statics := none }

def pool15 : Array CpInfo := pool [(1, .methodref 2 3), (0, .class_ 4), (0, .nameAndType 5 6), (0, u "java/util/AbstractCollection"), (0, u "<init>"), (0, u "()V"), (0, .fieldref 8 9), (0, .class_ 10), (0, .nameAndType 11 12), (0, u "java/util/AbstractList"), (0, u "modCount"), (0, u "I"), (64, .class_ 78), (0, u "java/util/AbstractList$Itr"), (3, .class_ 83), (0, u "java/util/AbstractList$ListItr"), (9, .class_ 94), (0, u "java/util/AbstractList$RandomAccessSubList"), (3, .class_ 99), (0, u "java/util/AbstractList$SubList"), (33, .class_ 134), (0, u "java/util/List"), (73, .class_ 209), (0, u "java/util/AbstractList$SubList$1"), (0, .class_ 211), (0, u "java/util/AbstractList$RandomAccessSpliterator")] 6

def k15c0 : Code := { maxStack := 2, maxLocals := 1, code := jdk_39_method_1_code, exceptionTable := #[], attributes := #[] }
def k15m0 : Method := { name := "<init>", desc := "()V", sig := { parameters := [], returnType := none }, accessFlags := 4, code := some k15c0 }
/-- java/util/AbstractList -/
def k15 : Class := { plain "java/util/AbstractList" (some 12) with
  accessFlags := 1057
  interfaces := #[14]
  cf := some (fileOf pool15 8 #[.nestMembers #[93, 98, 208, 210, 82, 77]] #[{ accessFlags := 4, nameIndex := 5, descriptorIndex := 6, attributes := #[] }] 1057 2 #[133] #[{ accessFlags := 132, nameIndex := 11, descriptorIndex := 12, attributes := #[] }])
  fields := #[{ name := "modCount", type := .int, accessFlags := 132, slot := 0, constantValue := 0 }]
  methods := #[k15m0]
  instanceTypes := #[.int]
  staticTypes := #[]
  resolved := Array.replicate 218 none
  statics := none }

def pool16 : Array CpInfo := pool [(1, .class_ 2), (0, u "java/util/RandomAccess"), (0, .class_ 4), (0, u "java/lang/Object")] 2

/-- java/util/RandomAccess -/
def k16 : Class := { plain "java/util/RandomAccess" (some 0) with
  accessFlags := 1537
  interfaces := #[]
  cf := some (fileOf pool16 1 #[] #[] 1537 3 #[] #[])
  fields := #[]
  methods := #[]
  instanceTypes := #[]
  staticTypes := #[]
  resolved := Array.replicate 7 none
  statics := none }

def pool17 : Array CpInfo := pool [(1, .class_ 2), (0, u "java/lang/Cloneable"), (0, .class_ 4), (0, u "java/lang/Object")] 2

/-- java/lang/Cloneable -/
def k17 : Class := { plain "java/lang/Cloneable" (some 0) with
  accessFlags := 1537
  interfaces := #[]
  cf := some (fileOf pool17 1 #[] #[] 1537 3 #[] #[])
  fields := #[]
  methods := #[]
  instanceTypes := #[]
  staticTypes := #[]
  resolved := Array.replicate 7 none
  statics := none }

def pool18 : Array CpInfo := pool [(1, .methodref 2 3), (0, .class_ 4), (0, .nameAndType 5 6), (0, u "java/util/AbstractList"), (0, u "<init>"), (0, u "()V"), (0, .class_ 8), (0, u "java/lang/Object"), (0, .fieldref 10 11), (0, .class_ 12), (0, .nameAndType 13 14), (0, u "java/util/ArrayList"), (0, u "elementData"), (0, u "[Ljava/lang/Object;"), (2, u "EMPTY_ELEMENTDATA"), (21, .fieldref 10 40), (0, .nameAndType 41 14), (0, u "DEFAULTCAPACITY_EMPTY_ELEMENTDATA"), (5, u "()[Ljava/lang/Object;"), (0, .fieldref 10 49), (0, .nameAndType 50 51), (0, u "size"), (0, u "I"), (11, .fieldref 10 64), (0, .nameAndType 65 51), (0, u "modCount"), (3, .methodref 10 70), (0, .nameAndType 71 72), (0, u "grow"), (0, u "(I)[Ljava/lang/Object;"), (6, .methodref 80 81), (0, .class_ 82), (0, .nameAndType 83 84), (0, u "java/lang/Math"), (0, u "max"), (0, u "(II)I"), (11, u "(Ljava/lang/Object;)Z"), (21, .methodref 119 120), (0, .class_ 121), (0, .nameAndType 122 84), (0, u "java/util/Objects"), (0, u "checkIndex"), (0, .methodref 10 124), (0, .nameAndType 13 125), (0, u "(I)Ljava/lang/Object;"), (3, .methodref 10 130), (0, .nameAndType 71 47), (0, .methodref 10 132), (0, .nameAndType 133 134), (0, u "add"), (0, u "(Ljava/lang/Object;[Ljava/lang/Object;I)V"), (13, .class_ 149), (0, u "java/util/List"), (36, u "()I"), (75, .class_ 263), (0, u "java/util/ArrayList$ListItr"), (3, .class_ 268), (0, u "java/util/ArrayList$Itr"), (7, .class_ 277), (0, u "java/util/ArrayList$SubList"), (12, .class_ 291), (0, u "java/util/ArrayList$ArrayListSpliterator"), (37, .class_ 330), (0, u "java/util/RandomAccess"), (0, .class_ 332), (0, u "java/lang/Cloneable"), (0, .class_ 334), (0, u "java/io/Serializable"), (0, u "serialVersionUID"), (0, u "J"), (3, u "DEFAULT_CAPACITY"), (40, u "get"), (118, .class_ 501), (0, u "java/util/ArrayList$SubList$2"), (0, .class_ 503), (0, u "java/util/ArrayList$SubList$1")] 5

def k18c0 : Code := { maxStack := 2, maxLocals := 1, code := jdk_38_method_2_code, exceptionTable := #[], attributes := #[] }
def k18m0 : Method := { name := "<init>", desc := "()V", sig := { parameters := [], returnType := none }, accessFlags := 1, code := some k18c0 }
def k18c1 : Code := { maxStack := 4, maxLocals := 4, code := jdk_38_method_6_code, exceptionTable := #[], attributes := #[] }
def k18m1 : Method := { name := "grow", desc := "(I)[Ljava/lang/Object;", sig := { parameters := [.int], returnType := some (.array (.object "java/lang/Object")) }, accessFlags := 2, code := some k18c1 }
def k18c2 : Code := { maxStack := 3, maxLocals := 1, code := jdk_38_method_7_code, exceptionTable := #[], attributes := #[] }
def k18m2 : Method := { name := "grow", desc := "()[Ljava/lang/Object;", sig := { parameters := [], returnType := some (.array (.object "java/lang/Object")) }, accessFlags := 2, code := some k18c2 }
def k18c3 : Code := { maxStack := 1, maxLocals := 1, code := jdk_38_method_8_code, exceptionTable := #[], attributes := #[] }
def k18m3 : Method := { name := "size", desc := "()I", sig := { parameters := [], returnType := some .int }, accessFlags := 1, code := some k18c3 }
def k18c4 : Code := { maxStack := 2, maxLocals := 2, code := jdk_38_method_18_code, exceptionTable := #[], attributes := #[] }
def k18m4 : Method := { name := "elementData", desc := "(I)Ljava/lang/Object;", sig := { parameters := [.int], returnType := some (.object "java/lang/Object") }, accessFlags := 0, code := some k18c4 }
def k18c5 : Code := { maxStack := 2, maxLocals := 2, code := jdk_38_method_20_code, exceptionTable := #[], attributes := #[] }
def k18m5 : Method := { name := "get", desc := "(I)Ljava/lang/Object;", sig := { parameters := [.int], returnType := some (.object "java/lang/Object") }, accessFlags := 1, code := some k18c5 }
def k18c6 : Code := { maxStack := 3, maxLocals := 4, code := jdk_38_method_24_code, exceptionTable := #[], attributes := #[] }
def k18m6 : Method := { name := "add", desc := "(Ljava/lang/Object;[Ljava/lang/Object;I)V", sig := { parameters := [(.object "java/lang/Object"), (.array (.object "java/lang/Object")), .int], returnType := none }, accessFlags := 2, code := some k18c6 }
def k18c7 : Code := { maxStack := 4, maxLocals := 2, code := jdk_38_method_25_code, exceptionTable := #[], attributes := #[] }
def k18m7 : Method := { name := "add", desc := "(Ljava/lang/Object;)Z", sig := { parameters := [(.object "java/lang/Object")], returnType := some .boolean }, accessFlags := 1, code := some k18c7 }
/-- java/util/ArrayList -/
def k18 : Class := { plain "java/util/ArrayList" (some 15) with
  accessFlags := 33
  interfaces := #[14, 16, 17, 3]
  cf := some (fileOf pool18 10 #[.nestMembers #[290, 276, 500, 502, 262, 267]] #[{ accessFlags := 1, nameIndex := 5, descriptorIndex := 6, attributes := #[] }, { accessFlags := 2, nameIndex := 71, descriptorIndex := 72, attributes := #[] }, { accessFlags := 2, nameIndex := 71, descriptorIndex := 47, attributes := #[] }, { accessFlags := 1, nameIndex := 50, descriptorIndex := 186, attributes := #[] }, { accessFlags := 0, nameIndex := 13, descriptorIndex := 125, attributes := #[] }, { accessFlags := 1, nameIndex := 381, descriptorIndex := 125, attributes := #[] }, { accessFlags := 2, nameIndex := 133, descriptorIndex := 134, attributes := #[] }, { accessFlags := 1, nameIndex := 133, descriptorIndex := 96, attributes := #[] }] 33 2 #[148, 329, 331, 333] #[{ accessFlags := 26, nameIndex := 335, descriptorIndex := 336, attributes := #[] }, { accessFlags := 26, nameIndex := 340, descriptorIndex := 51, attributes := #[] }, { accessFlags := 26, nameIndex := 17, descriptorIndex := 14, attributes := #[] }, { accessFlags := 26, nameIndex := 41, descriptorIndex := 14, attributes := #[] }, { accessFlags := 128, nameIndex := 13, descriptorIndex := 14, attributes := #[] }, { accessFlags := 2, nameIndex := 50, descriptorIndex := 51, attributes := #[] }])
  fields := #[{ name := "serialVersionUID", type := .long, accessFlags := 26, slot := 0, constantValue := 0 }, { name := "DEFAULT_CAPACITY", type := .int, accessFlags := 26, slot := 1, constantValue := 0 }, { name := "EMPTY_ELEMENTDATA", type := (.array (.object "java/lang/Object")), accessFlags := 26, slot := 2, constantValue := 0 }, { name := "DEFAULTCAPACITY_EMPTY_ELEMENTDATA", type := (.array (.object "java/lang/Object")), accessFlags := 26, slot := 3, constantValue := 0 }, { name := "elementData", type := (.array (.object "java/lang/Object")), accessFlags := 128, slot := 1, constantValue := 0 }, { name := "size", type := .int, accessFlags := 2, slot := 2, constantValue := 0 }]
  methods := #[k18m0, k18m1, k18m2, k18m3, k18m4, k18m5, k18m6, k18m7]
  instanceTypes := #[.int, (.array (.object "java/lang/Object")), .int]
  staticTypes := #[.long, .int, (.array (.object "java/lang/Object")), (.array (.object "java/lang/Object"))]
  resolved := Array.replicate 509 none
  statics := some 0 }

def pool19 : Array CpInfo := pool [(1, .methodref 2 3), (0, .class_ 4), (0, .nameAndType 5 6), (0, u "java/lang/Object"), (0, u "<init>"), (0, u "()V"), (0, .class_ 8), (0, u "java/lang/Record")] 13

def k19c0 : Code := { maxStack := 1, maxLocals := 1, code := jdk_30_method_1_code, exceptionTable := #[], attributes := #[] }
def k19m0 : Method := { name := "<init>", desc := "()V", sig := { parameters := [], returnType := none }, accessFlags := 4, code := some k19c0 }
/-- java/lang/Record -/
def k19 : Class := { plain "java/lang/Record" (some 0) with
  accessFlags := 1057
  interfaces := #[]
  cf := some (fileOf pool19 7 #[] #[{ accessFlags := 4, nameIndex := 5, descriptorIndex := 6, attributes := #[] }] 1057 2 #[] #[])
  fields := #[]
  methods := #[k19m0]
  instanceTypes := #[]
  staticTypes := #[]
  resolved := Array.replicate 22 none
  statics := none }

def pool20 : Array CpInfo := pool [(1, .methodref 2 3), (0, .class_ 4), (0, .nameAndType 5 6), (0, u "java/lang/Record"), (0, u "<init>"), (0, u "()V"), (0, .fieldref 8 9), (0, .class_ 10), (0, .nameAndType 11 12), (0, u "com/example/rank_keeper/rankkeeper/BodyLines$Line"), (0, u "number"), (0, u "I"), (0, .fieldref 8 14), (0, .nameAndType 15 12), (0, u "offset"), (0, .fieldref 8 17), (0, .nameAndType 18 12), (0, u "length"), (12, u "(III)V"), (4, u "()I"), (4, .class_ 42), (0, u "com/example/rank_keeper/rankkeeper/BodyLines")] 21

def k20c0 : Code := { maxStack := 2, maxLocals := 4, code := prog_3_method_1_code, exceptionTable := #[], attributes := #[] }
def k20m0 : Method := { name := "<init>", desc := "(III)V", sig := { parameters := [.int, .int, .int], returnType := none }, accessFlags := 1, code := some k20c0 }
def k20c1 : Code := { maxStack := 1, maxLocals := 1, code := prog_3_method_5_code, exceptionTable := #[], attributes := #[] }
def k20m1 : Method := { name := "number", desc := "()I", sig := { parameters := [], returnType := some .int }, accessFlags := 1, code := some k20c1 }
def k20c2 : Code := { maxStack := 1, maxLocals := 1, code := prog_3_method_6_code, exceptionTable := #[], attributes := #[] }
def k20m2 : Method := { name := "offset", desc := "()I", sig := { parameters := [], returnType := some .int }, accessFlags := 1, code := some k20c2 }
def k20c3 : Code := { maxStack := 1, maxLocals := 1, code := prog_3_method_7_code, exceptionTable := #[], attributes := #[] }
def k20m3 : Method := { name := "length", desc := "()I", sig := { parameters := [], returnType := some .int }, accessFlags := 1, code := some k20c3 }
/-- com/example/rank_keeper/rankkeeper/BodyLines$Line -/
def k20 : Class := { plain "com/example/rank_keeper/rankkeeper/BodyLines$Line" (some 19) with
  accessFlags := 49
  interfaces := #[]
  cf := some (fileOf pool20 8 #[.nestHost 41] #[{ accessFlags := 1, nameIndex := 5, descriptorIndex := 31, attributes := #[] }, { accessFlags := 1, nameIndex := 11, descriptorIndex := 36, attributes := #[] }, { accessFlags := 1, nameIndex := 15, descriptorIndex := 36, attributes := #[] }, { accessFlags := 1, nameIndex := 18, descriptorIndex := 36, attributes := #[] }] 49 2 #[] #[{ accessFlags := 18, nameIndex := 11, descriptorIndex := 12, attributes := #[] }, { accessFlags := 18, nameIndex := 15, descriptorIndex := 12, attributes := #[] }, { accessFlags := 18, nameIndex := 18, descriptorIndex := 12, attributes := #[] }])
  fields := #[{ name := "number", type := .int, accessFlags := 18, slot := 0, constantValue := 0 }, { name := "offset", type := .int, accessFlags := 18, slot := 1, constantValue := 0 }, { name := "length", type := .int, accessFlags := 18, slot := 2, constantValue := 0 }]
  methods := #[k20m0, k20m1, k20m2, k20m3]
  instanceTypes := #[.int, .int, .int]
  staticTypes := #[]
  resolved := Array.replicate 64 none
  statics := none }

def pool21 : Array CpInfo := pool [(1, .class_ 2), (0, u "java/lang/Math"), (1, .class_ 6), (1, u "java/lang/Object"), (0, u "<init>"), (0, u "()V"), (89, .class_ 100), (1, u "java/lang/Math$RandomNumberGeneratorHolder"), (71, u "negativeZeroFloatBits"), (0, u "J"), (2, u "negativeZeroDoubleBits"), (21, u "max"), (46, u "$assertionsDisabled"), (0, u "Z"), (88, u "(II)I"), (2, u "twoToTheDoubleScaleDown"), (0, u "D"), (4, u "twoToTheDoubleScaleUp"), (9, u "E"), (3, u "PI"), (2, u "TAU"), (2, u "DEGREES_TO_RADIANS"), (0, u "RADIANS_TO_DEGREES")] 94

def k21m0 : Method := { name := "<init>", desc := "()V", sig := { parameters := [], returnType := none }, accessFlags := 2, code := none }
def k21c1 : Code := { maxStack := 2, maxLocals := 2, code := jdk_29_method_65_code, exceptionTable := #[], attributes := #[] }
def k21m1 : Method := { name := "max", desc := "(II)I", sig := { parameters := [.int, .int], returnType := some .int }, accessFlags := 9, code := some k21c1 }
/-- java/lang/Math -/
def k21 : Class := { plain "java/lang/Math" (some 0) with
  accessFlags := 49
  interfaces := #[]
  cf := some (fileOf pool21 1 #[.nestMembers #[98]] #[{ accessFlags := 2, nameIndex := 7, descriptorIndex := 8, attributes := #[] }, { accessFlags := 9, nameIndex := 198, descriptorIndex := 335, attributes := #[] }] 49 4 #[] #[{ accessFlags := 25, nameIndex := 354, descriptorIndex := 339, attributes := #[] }, { accessFlags := 25, nameIndex := 358, descriptorIndex := 339, attributes := #[] }, { accessFlags := 25, nameIndex := 361, descriptorIndex := 339, attributes := #[] }, { accessFlags := 26, nameIndex := 364, descriptorIndex := 339, attributes := #[] }, { accessFlags := 26, nameIndex := 365, descriptorIndex := 339, attributes := #[] }, { accessFlags := 26, nameIndex := 172, descriptorIndex := 173, attributes := #[] }, { accessFlags := 26, nameIndex := 176, descriptorIndex := 173, attributes := #[] }, { accessFlags := 8, nameIndex := 344, descriptorIndex := 339, attributes := #[] }, { accessFlags := 8, nameIndex := 338, descriptorIndex := 339, attributes := #[] }, { accessFlags := 4120, nameIndex := 245, descriptorIndex := 246, attributes := #[] }])
  fields := #[{ name := "E", type := .double, accessFlags := 25, slot := 0, constantValue := 0 }, { name := "PI", type := .double, accessFlags := 25, slot := 1, constantValue := 0 }, { name := "TAU", type := .double, accessFlags := 25, slot := 2, constantValue := 0 }, { name := "DEGREES_TO_RADIANS", type := .double, accessFlags := 26, slot := 3, constantValue := 0 }, { name := "RADIANS_TO_DEGREES", type := .double, accessFlags := 26, slot := 4, constantValue := 0 }, { name := "negativeZeroFloatBits", type := .long, accessFlags := 26, slot := 5, constantValue := 0 }, { name := "negativeZeroDoubleBits", type := .long, accessFlags := 26, slot := 6, constantValue := 0 }, { name := "twoToTheDoubleScaleUp", type := .double, accessFlags := 8, slot := 7, constantValue := 0 }, { name := "twoToTheDoubleScaleDown", type := .double, accessFlags := 8, slot := 8, constantValue := 0 }, { name := "$assertionsDisabled", type := .boolean, accessFlags := 4120, slot := 9, constantValue := 0 }]
  methods := #[k21m0, k21m1]
  instanceTypes := #[]
  staticTypes := #[.double, .double, .double, .double, .double, .long, .long, .double, .double, .boolean]
  resolved := Array.replicate 460 none
  statics := none }

def pool22 : Array CpInfo := pool [(2, .class_ 4), (1, u "java/lang/Object"), (0, u "<init>"), (0, u "()V"), (17, .class_ 26), (1, u "jdk/internal/util/Preconditions"), (6, u "checkIndex"), (21, .class_ 56), (0, u "jdk/internal/util/Preconditions$4"), (57, .class_ 115), (0, u "jdk/internal/util/Preconditions$1"), (7, u "SIOOBE_FORMATTER"), (0, u "Ljava/util/function/BiFunction;"), (0, .class_ 126), (0, u "jdk/internal/util/Preconditions$2"), (3, u "AIOOBE_FORMATTER"), (0, .class_ 132), (0, u "jdk/internal/util/Preconditions$3"), (3, u "IOOBE_FORMATTER"), (41, u "(IILjava/util/function/BiFunction;)I")] 15

def k22m0 : Method := { name := "<init>", desc := "()V", sig := { parameters := [], returnType := none }, accessFlags := 1, code := none }
def k22c1 : Code := { maxStack := 3, maxLocals := 3, code := jdk_41_method_11_code, exceptionTable := #[], attributes := #[] }
def k22m1 : Method := { name := "checkIndex", desc := "(IILjava/util/function/BiFunction;)I", sig := { parameters := [.int, .int, (.object "java/util/function/BiFunction")], returnType := some .int }, accessFlags := 9, code := some k22c1 }
/-- jdk/internal/util/Preconditions -/
def k22 : Class := { plain "jdk/internal/util/Preconditions" (some 0) with
  accessFlags := 33
  interfaces := #[]
  cf := some (fileOf pool22 24 #[.nestMembers #[55, 131, 125, 114]] #[{ accessFlags := 1, nameIndex := 5, descriptorIndex := 6, attributes := #[] }, { accessFlags := 9, nameIndex := 33, descriptorIndex := 178, attributes := #[] }] 33 2 #[] #[{ accessFlags := 25, nameIndex := 123, descriptorIndex := 124, attributes := #[] }, { accessFlags := 25, nameIndex := 130, descriptorIndex := 124, attributes := #[] }, { accessFlags := 25, nameIndex := 136, descriptorIndex := 124, attributes := #[] }])
  fields := #[{ name := "SIOOBE_FORMATTER", type := (.object "java/util/function/BiFunction"), accessFlags := 25, slot := 0, constantValue := 0 }, { name := "AIOOBE_FORMATTER", type := (.object "java/util/function/BiFunction"), accessFlags := 25, slot := 1, constantValue := 0 }, { name := "IOOBE_FORMATTER", type := (.object "java/util/function/BiFunction"), accessFlags := 25, slot := 2, constantValue := 0 }]
  methods := #[k22m0, k22m1]
  instanceTypes := #[]
  staticTypes := #[(.object "java/util/function/BiFunction"), (.object "java/util/function/BiFunction"), (.object "java/util/function/BiFunction")]
  resolved := Array.replicate 194 none
  statics := none }

/-- the primitive byte -/
def k23 : Class := { plain "byte" none with kind := .primitive 'B', accessFlags := 0x411 }
/-- [B -/
def k24 : Class := { plain "[B" (some 0) with kind := .array 23 .byte, interfaces := #[17, 3], accessFlags := 1041 }

/-- the primitive int -/
def k25 : Class := { plain "int" none with kind := .primitive 'I', accessFlags := 0x411 }
/-- [I -/
def k26 : Class := { plain "[I" (some 0) with kind := .array 25 .int, interfaces := #[17, 3], accessFlags := 1041 }

/-- [Ljava/lang/Object; -/
def k27 : Class := { plain "[Ljava/lang/Object;" (some 0) with kind := .array 0 (.object "java/lang/Object"), interfaces := #[17, 3], accessFlags := 1041 }

def heap : Heap := #[{ cls := 18, slots := #[.long 0, .int 0, .ref 1, .ref 2], vm := .statics 18 },
  { cls := 27, slots := #[], vm := .none },
  { cls := 27, slots := #[], vm := .none }]
def classes : Array Class := #[k0, k1, k2, k3, k4, k5, k6, k7, k8, k9, k10, k11, k12, k13, k14, k15, k16, k17, k18, k19, k20, k21, k22, k23, k24, k25, k26, k27]
def interned : List (Array UInt16 × Addr) := []
def slotsUsed : Nat := 4
def theMethod : MethodId := ⟨1, 1⟩
def args0 : Array Value := #[.int 5, .int 6, .int 7]
def aboutOver (below : List Frame) : State where
  vm := { classes := classes, interned := interned.toArray }
  heap := heap
  slotsUsed := slotsUsed
  threads := #[{ frames := .invoking theMethod args0 :: below }]
def below0 : List Frame := [.native { method := ⟨0, 0⟩, args := #[] }]
def about1 : State := aboutOver below0
def p0 : Program := .bare "" "" ""
def e0 : Env := launch0.env 0 0 0
theorem w_frames : about1.frames = Frame.invoking theMethod args0 :: below0 := rfl
set_option maxRecDepth 65536 in
theorem w_args : argsFit about1.vm theMethod args0 = true := by decide +kernel
set_option maxRecDepth 65536 in
theorem w_heap : heapFits about1 = true := by decide +kernel
set_option maxRecDepth 65536 in
theorem w_runnable : about1.curStatus? = some .runnable := by decide +kernel
set_option maxRecDepth 65536 in
theorem w_alone : about1.alone = true := by decide +kernel
set_option maxRecDepth 65536 in
theorem w_named : about1.methodNamed? x = some theMethod := by decide +kernel
set_option maxRecDepth 65536 in
theorem w_hears : about1.hears theMethod below0 = true := by decide +kernel
set_option maxRecDepth 65536 in
theorem w_ripe : about1.ripe theMethod args0 below0 = true := by decide +kernel
theorem w_running : about1.status = .running := rfl
set_option maxRecDepth 65536 in
theorem w_room : about1.hasRoom e0.platform room_1 = true :=
  launch0.hasRoom_least _ room_1 (by decide +kernel) (by decide +kernel) (by decide +kernel) (by decide +kernel) (by decide +kernel) (by decide +kernel)
theorem allAtoms_all (ts : List Jvm.Cond) (a : Array Jvm.Value) (st : Jvm.State) : (allAtoms ts).before a st = ts.all (fun c => c.before a st) := by
  induction ts with
  | nil => rfl
  | cons c t ih =>
    show (Jvm.Cond.and c (allAtoms t)).before a st = _
    rw [Jvm.Cond.before_and, ih, List.all_cons]
def words1 : List Jvm.Cond := Jvm.Cond.code x code maxLocals ret :: tables_1
/-- a 'code' word, met by the world's own term for the bytes: nothing is compared byte by byte -/
theorem code_word {y : MethodName} {bytes : ByteArray} {mx : Nat} {rt : Option FieldType} {a : Array Value} {s : State} {m : MethodId} {meth : Method} {c : Code} (h1 : s.methodNamed? y = some m) (h2 : s.vm.method? m = some meth) (h3 : meth.code = some c) (h4 : c.code = bytes)
    (h5 : (c.maxLocals == mx && c.exceptionTable.isEmpty && decide (c.maxStack ≤ mostOperands) && decide (meth.sig.returnType = rt) && !meth.locks && decide (parseMethodDescriptor y.desc = some meth.sig)) = true) : (Jvm.Cond.code y bytes mx rt).before a s = true := by
  simp only [Bool.and_eq_true, beq_iff_eq, Bool.not_eq_true', decide_eq_true_eq] at h5
  obtain ⟨⟨⟨⟨⟨g1, g2⟩, g3⟩, g4⟩, g5⟩, g6⟩ := h5
  simp [Cond.before, Cond.holds, Cond.value, h1, h2, h3, h4, g1, g2, g3, g4, g5, g6]
def isCode : Jvm.Cond → Bool
  | .code _ _ _ _ => true
  | _ => false
theorem all_split {L : List Jvm.Cond} {P : Jvm.Cond → Bool} (h1 : L.all (fun c => isCode c || P c) = true) (h2 : ∀ c ∈ L.filter isCode, P c = true) : L.all P = true := by
  refine List.all_eq_true.mpr fun c hc => ?_
  have h := List.all_eq_true.mp h1 c hc
  rcases Bool.eq_false_or_eq_true (isCode c) with hi | hi
  · exact h2 c (List.mem_filter.mpr ⟨hc, hi⟩)
  · simpa [hi] using h
set_option maxRecDepth 65536 in
theorem w_c0 : (Jvm.Cond.code x code maxLocals ret).before args0 about1 = true := code_word (m := ⟨1, 1⟩) (meth := k1m1) (c := k1c1) (by decide +kernel) rfl rfl rfl (by decide +kernel)
set_option maxRecDepth 65536 in
theorem w_c1 : (Jvm.Cond.code ({ cls := "com/example/rank_keeper/rankkeeper/BodyLines", name := "split", desc := "([B)Ljava/util/List;" } : Jvm.MethodName) prog_2_method_2_code (5 : Nat) (Option.some (Jvm.ClassFile.FieldType.object "java/util/List"))).before args0 about1 = true := code_word (m := ⟨2, 1⟩) (meth := k2m1) (c := k2c1) (by decide +kernel) rfl rfl rfl (by decide +kernel)
set_option maxRecDepth 65536 in
theorem w_c2 : (Jvm.Cond.code ({ cls := "java/util/Objects", name := "requireNonNull", desc := "(Ljava/lang/Object;Ljava/lang/String;)Ljava/lang/Object;" } : Jvm.MethodName) jdk_31_method_11_code (2 : Nat) (Option.some (Jvm.ClassFile.FieldType.object "java/lang/Object"))).before args0 about1 = true := code_word (m := ⟨9, 1⟩) (meth := k9m1) (c := k9c1) (by decide +kernel) rfl rfl rfl (by decide +kernel)
set_option maxRecDepth 65536 in
theorem w_c3 : (Jvm.Cond.code ({ cls := "java/util/ArrayList", name := "<init>", desc := "()V" } : Jvm.MethodName) jdk_38_method_2_code (1 : Nat) (Option.none : Option Jvm.ClassFile.FieldType)).before args0 about1 = true := code_word (m := ⟨18, 0⟩) (meth := k18m0) (c := k18c0) (by decide +kernel) rfl rfl rfl (by decide +kernel)
set_option maxRecDepth 65536 in
theorem w_c4 : (Jvm.Cond.code ({ cls := "java/util/AbstractList", name := "<init>", desc := "()V" } : Jvm.MethodName) jdk_39_method_1_code (1 : Nat) (Option.none : Option Jvm.ClassFile.FieldType)).before args0 about1 = true := code_word (m := ⟨15, 0⟩) (meth := k15m0) (c := k15c0) (by decide +kernel) rfl rfl rfl (by decide +kernel)
set_option maxRecDepth 65536 in
theorem w_c5 : (Jvm.Cond.code ({ cls := "java/util/AbstractCollection", name := "<init>", desc := "()V" } : Jvm.MethodName) jdk_22_method_1_code (1 : Nat) (Option.none : Option Jvm.ClassFile.FieldType)).before args0 about1 = true := code_word (m := ⟨12, 0⟩) (meth := k12m0) (c := k12c0) (by decide +kernel) rfl rfl rfl (by decide +kernel)
set_option maxRecDepth 65536 in
theorem w_c6 : (Jvm.Cond.code ({ cls := "java/lang/Object", name := "<init>", desc := "()V" } : Jvm.MethodName) object_method_1_code (1 : Nat) (Option.none : Option Jvm.ClassFile.FieldType)).before args0 about1 = true := code_word (m := ⟨0, 0⟩) (meth := k0m0) (c := k0c0) (by decide +kernel) rfl rfl rfl (by decide +kernel)
set_option maxRecDepth 65536 in
theorem w_c7 : (Jvm.Cond.code ({ cls := "com/example/rank_keeper/rankkeeper/BodyLinesSplitPinLaw", name := "good", desc := "([BI)I" } : Jvm.MethodName) method_10_code (2 : Nat) (Option.some Jvm.ClassFile.FieldType.int)).before args0 about1 = true := code_word (m := ⟨1, 9⟩) (meth := k1m9) (c := k1c9) (by decide +kernel) rfl rfl rfl (by decide +kernel)
set_option maxRecDepth 65536 in
theorem w_c8 : (Jvm.Cond.code ({ cls := "com/example/rank_keeper/rankkeeper/BodyLinesSplitPinLaw", name := "isStart", desc := "([BI)Z" } : Jvm.MethodName) method_5_code (2 : Nat) (Option.some Jvm.ClassFile.FieldType.boolean)).before args0 about1 = true := code_word (m := ⟨1, 4⟩) (meth := k1m4) (c := k1c4) (by decide +kernel) rfl rfl rfl (by decide +kernel)
set_option maxRecDepth 65536 in
theorem w_c9 : (Jvm.Cond.code ({ cls := "java/util/ArrayList", name := "size", desc := "()I" } : Jvm.MethodName) jdk_38_method_8_code (1 : Nat) (Option.some Jvm.ClassFile.FieldType.int)).before args0 about1 = true := code_word (m := ⟨18, 3⟩) (meth := k18m3) (c := k18c3) (by decide +kernel) rfl rfl rfl (by decide +kernel)
set_option maxRecDepth 65536 in
theorem w_c10 : (Jvm.Cond.code ({ cls := "com/example/rank_keeper/rankkeeper/BodyLinesSplitPinLaw", name := "at", desc := "(Ljava/util/List;I[BI)I" } : Jvm.MethodName) method_11_code (6 : Nat) (Option.some Jvm.ClassFile.FieldType.int)).before args0 about1 = true := code_word (m := ⟨1, 10⟩) (meth := k1m10) (c := k1c10) (by decide +kernel) rfl rfl rfl (by decide +kernel)
set_option maxRecDepth 65536 in
theorem w_c11 : (Jvm.Cond.code ({ cls := "com/example/rank_keeper/rankkeeper/BodyLinesSplitPinLaw", name := "pick", desc := "(III)B" } : Jvm.MethodName) method_3_code (4 : Nat) (Option.some Jvm.ClassFile.FieldType.byte)).before args0 about1 = true := code_word (m := ⟨1, 2⟩) (meth := k1m2) (c := k1c2) (by decide +kernel) rfl rfl rfl (by decide +kernel)
set_option maxRecDepth 65536 in
theorem w_c12 : (Jvm.Cond.code ({ cls := "com/example/rank_keeper/rankkeeper/BodyLines", name := "isBlank", desc := "([BII)Z" } : Jvm.MethodName) prog_2_method_3_code (5 : Nat) (Option.some Jvm.ClassFile.FieldType.boolean)).before args0 about1 = true := code_word (m := ⟨2, 2⟩) (meth := k2m2) (c := k2c2) (by decide +kernel) rfl rfl rfl (by decide +kernel)
set_option maxRecDepth 65536 in
theorem w_c13 : (Jvm.Cond.code ({ cls := "com/example/rank_keeper/rankkeeper/BodyLines$Line", name := "<init>", desc := "(III)V" } : Jvm.MethodName) prog_3_method_1_code (4 : Nat) (Option.none : Option Jvm.ClassFile.FieldType)).before args0 about1 = true := code_word (m := ⟨20, 0⟩) (meth := k20m0) (c := k20c0) (by decide +kernel) rfl rfl rfl (by decide +kernel)
set_option maxRecDepth 65536 in
theorem w_c14 : (Jvm.Cond.code ({ cls := "java/lang/Record", name := "<init>", desc := "()V" } : Jvm.MethodName) jdk_30_method_1_code (1 : Nat) (Option.none : Option Jvm.ClassFile.FieldType)).before args0 about1 = true := code_word (m := ⟨19, 0⟩) (meth := k19m0) (c := k19c0) (by decide +kernel) rfl rfl rfl (by decide +kernel)
set_option maxRecDepth 65536 in
theorem w_c15 : (Jvm.Cond.code ({ cls := "java/util/ArrayList", name := "add", desc := "(Ljava/lang/Object;)Z" } : Jvm.MethodName) jdk_38_method_25_code (2 : Nat) (Option.some Jvm.ClassFile.FieldType.boolean)).before args0 about1 = true := code_word (m := ⟨18, 7⟩) (meth := k18m7) (c := k18c7) (by decide +kernel) rfl rfl rfl (by decide +kernel)
set_option maxRecDepth 65536 in
theorem w_c16 : (Jvm.Cond.code ({ cls := "java/util/ArrayList", name := "add", desc := "(Ljava/lang/Object;[Ljava/lang/Object;I)V" } : Jvm.MethodName) jdk_38_method_24_code (4 : Nat) (Option.none : Option Jvm.ClassFile.FieldType)).before args0 about1 = true := code_word (m := ⟨18, 6⟩) (meth := k18m6) (c := k18c6) (by decide +kernel) rfl rfl rfl (by decide +kernel)
set_option maxRecDepth 65536 in
theorem w_c17 : (Jvm.Cond.code ({ cls := "java/util/ArrayList", name := "grow", desc := "()[Ljava/lang/Object;" } : Jvm.MethodName) jdk_38_method_7_code (1 : Nat) (Option.some (Jvm.ClassFile.FieldType.array (Jvm.ClassFile.FieldType.object "java/lang/Object")))).before args0 about1 = true := code_word (m := ⟨18, 2⟩) (meth := k18m2) (c := k18c2) (by decide +kernel) rfl rfl rfl (by decide +kernel)
set_option maxRecDepth 65536 in
theorem w_c18 : (Jvm.Cond.code ({ cls := "java/util/ArrayList", name := "grow", desc := "(I)[Ljava/lang/Object;" } : Jvm.MethodName) jdk_38_method_6_code (4 : Nat) (Option.some (Jvm.ClassFile.FieldType.array (Jvm.ClassFile.FieldType.object "java/lang/Object")))).before args0 about1 = true := code_word (m := ⟨18, 1⟩) (meth := k18m1) (c := k18c1) (by decide +kernel) rfl rfl rfl (by decide +kernel)
set_option maxRecDepth 65536 in
theorem w_c19 : (Jvm.Cond.code ({ cls := "java/lang/Math", name := "max", desc := "(II)I" } : Jvm.MethodName) jdk_29_method_65_code (2 : Nat) (Option.some Jvm.ClassFile.FieldType.int)).before args0 about1 = true := code_word (m := ⟨21, 1⟩) (meth := k21m1) (c := k21c1) (by decide +kernel) rfl rfl rfl (by decide +kernel)
set_option maxRecDepth 65536 in
theorem w_c20 : (Jvm.Cond.code ({ cls := "com/example/rank_keeper/rankkeeper/BodyLinesSplitPinLaw", name := "endFrom", desc := "([BI)I" } : Jvm.MethodName) method_6_code (3 : Nat) (Option.some Jvm.ClassFile.FieldType.int)).before args0 about1 = true := code_word (m := ⟨1, 5⟩) (meth := k1m5) (c := k1c5) (by decide +kernel) rfl rfl rfl (by decide +kernel)
set_option maxRecDepth 65536 in
theorem w_c21 : (Jvm.Cond.code ({ cls := "com/example/rank_keeper/rankkeeper/BodyLinesSplitPinLaw", name := "isNl", desc := "([BI)Z" } : Jvm.MethodName) method_4_code (2 : Nat) (Option.some Jvm.ClassFile.FieldType.boolean)).before args0 about1 = true := code_word (m := ⟨1, 3⟩) (meth := k1m3) (c := k1c3) (by decide +kernel) rfl rfl rfl (by decide +kernel)
set_option maxRecDepth 65536 in
theorem w_c22 : (Jvm.Cond.code ({ cls := "com/example/rank_keeper/rankkeeper/BodyLinesSplitPinLaw", name := "hasInk", desc := "([BII)Z" } : Jvm.MethodName) method_8_code (3 : Nat) (Option.some Jvm.ClassFile.FieldType.boolean)).before args0 about1 = true := code_word (m := ⟨1, 7⟩) (meth := k1m7) (c := k1c7) (by decide +kernel) rfl rfl rfl (by decide +kernel)
set_option maxRecDepth 65536 in
theorem w_c23 : (Jvm.Cond.code ({ cls := "com/example/rank_keeper/rankkeeper/BodyLinesSplitPinLaw", name := "inkAt", desc := "([BIII)Z" } : Jvm.MethodName) method_7_code (4 : Nat) (Option.some Jvm.ClassFile.FieldType.boolean)).before args0 about1 = true := code_word (m := ⟨1, 6⟩) (meth := k1m6) (c := k1c6) (by decide +kernel) rfl rfl rfl (by decide +kernel)
set_option maxRecDepth 65536 in
theorem w_c24 : (Jvm.Cond.code ({ cls := "java/util/ArrayList", name := "get", desc := "(I)Ljava/lang/Object;" } : Jvm.MethodName) jdk_38_method_20_code (2 : Nat) (Option.some (Jvm.ClassFile.FieldType.object "java/lang/Object"))).before args0 about1 = true := code_word (m := ⟨18, 5⟩) (meth := k18m5) (c := k18c5) (by decide +kernel) rfl rfl rfl (by decide +kernel)
set_option maxRecDepth 65536 in
theorem w_c25 : (Jvm.Cond.code ({ cls := "java/util/Objects", name := "checkIndex", desc := "(II)I" } : Jvm.MethodName) jdk_31_method_17_code (2 : Nat) (Option.some Jvm.ClassFile.FieldType.int)).before args0 about1 = true := code_word (m := ⟨9, 2⟩) (meth := k9m2) (c := k9c2) (by decide +kernel) rfl rfl rfl (by decide +kernel)
set_option maxRecDepth 65536 in
theorem w_c26 : (Jvm.Cond.code ({ cls := "jdk/internal/util/Preconditions", name := "checkIndex", desc := "(IILjava/util/function/BiFunction;)I" } : Jvm.MethodName) jdk_41_method_11_code (3 : Nat) (Option.some Jvm.ClassFile.FieldType.int)).before args0 about1 = true := code_word (m := ⟨22, 1⟩) (meth := k22m1) (c := k22c1) (by decide +kernel) rfl rfl rfl (by decide +kernel)
set_option maxRecDepth 65536 in
theorem w_c27 : (Jvm.Cond.code ({ cls := "java/util/ArrayList", name := "elementData", desc := "(I)Ljava/lang/Object;" } : Jvm.MethodName) jdk_38_method_18_code (2 : Nat) (Option.some (Jvm.ClassFile.FieldType.object "java/lang/Object"))).before args0 about1 = true := code_word (m := ⟨18, 4⟩) (meth := k18m4) (c := k18c4) (by decide +kernel) rfl rfl rfl (by decide +kernel)
set_option maxRecDepth 65536 in
theorem w_c28 : (Jvm.Cond.code ({ cls := "com/example/rank_keeper/rankkeeper/BodyLines$Line", name := "offset", desc := "()I" } : Jvm.MethodName) prog_3_method_6_code (1 : Nat) (Option.some Jvm.ClassFile.FieldType.int)).before args0 about1 = true := code_word (m := ⟨20, 2⟩) (meth := k20m2) (c := k20c2) (by decide +kernel) rfl rfl rfl (by decide +kernel)
set_option maxRecDepth 65536 in
theorem w_c29 : (Jvm.Cond.code ({ cls := "com/example/rank_keeper/rankkeeper/BodyLines$Line", name := "length", desc := "()I" } : Jvm.MethodName) prog_3_method_7_code (1 : Nat) (Option.some Jvm.ClassFile.FieldType.int)).before args0 about1 = true := code_word (m := ⟨20, 3⟩) (meth := k20m3) (c := k20c3) (by decide +kernel) rfl rfl rfl (by decide +kernel)
set_option maxRecDepth 65536 in
theorem w_c30 : (Jvm.Cond.code ({ cls := "com/example/rank_keeper/rankkeeper/BodyLines$Line", name := "number", desc := "()I" } : Jvm.MethodName) prog_3_method_5_code (1 : Nat) (Option.some Jvm.ClassFile.FieldType.int)).before args0 about1 = true := code_word (m := ⟨20, 1⟩) (meth := k20m1) (c := k20c1) (by decide +kernel) rfl rfl rfl (by decide +kernel)
set_option maxRecDepth 65536 in
theorem w_c31 : (Jvm.Cond.code ({ cls := "com/example/rank_keeper/rankkeeper/BodyLinesSplitPinLaw", name := "nlBefore", desc := "([BI)I" } : Jvm.MethodName) method_9_code (3 : Nat) (Option.some Jvm.ClassFile.FieldType.int)).before args0 about1 = true := code_word (m := ⟨1, 8⟩) (meth := k1m8) (c := k1c8) (by decide +kernel) rfl rfl rfl (by decide +kernel)
def codes1 : List Jvm.Cond := [Jvm.Cond.code x code maxLocals ret, Jvm.Cond.code ({ cls := "com/example/rank_keeper/rankkeeper/BodyLines", name := "split", desc := "([B)Ljava/util/List;" } : Jvm.MethodName) prog_2_method_2_code (5 : Nat) (Option.some (Jvm.ClassFile.FieldType.object "java/util/List")), Jvm.Cond.code ({ cls := "java/util/Objects", name := "requireNonNull", desc := "(Ljava/lang/Object;Ljava/lang/String;)Ljava/lang/Object;" } : Jvm.MethodName) jdk_31_method_11_code (2 : Nat) (Option.some (Jvm.ClassFile.FieldType.object "java/lang/Object")), Jvm.Cond.code ({ cls := "java/util/ArrayList", name := "<init>", desc := "()V" } : Jvm.MethodName) jdk_38_method_2_code (1 : Nat) (Option.none : Option Jvm.ClassFile.FieldType), Jvm.Cond.code ({ cls := "java/util/AbstractList", name := "<init>", desc := "()V" } : Jvm.MethodName) jdk_39_method_1_code (1 : Nat) (Option.none : Option Jvm.ClassFile.FieldType), Jvm.Cond.code ({ cls := "java/util/AbstractCollection", name := "<init>", desc := "()V" } : Jvm.MethodName) jdk_22_method_1_code (1 : Nat) (Option.none : Option Jvm.ClassFile.FieldType), Jvm.Cond.code ({ cls := "java/lang/Object", name := "<init>", desc := "()V" } : Jvm.MethodName) object_method_1_code (1 : Nat) (Option.none : Option Jvm.ClassFile.FieldType), Jvm.Cond.code ({ cls := "com/example/rank_keeper/rankkeeper/BodyLinesSplitPinLaw", name := "good", desc := "([BI)I" } : Jvm.MethodName) method_10_code (2 : Nat) (Option.some Jvm.ClassFile.FieldType.int), Jvm.Cond.code ({ cls := "com/example/rank_keeper/rankkeeper/BodyLinesSplitPinLaw", name := "isStart", desc := "([BI)Z" } : Jvm.MethodName) method_5_code (2 : Nat) (Option.some Jvm.ClassFile.FieldType.boolean), Jvm.Cond.code ({ cls := "java/util/ArrayList", name := "size", desc := "()I" } : Jvm.MethodName) jdk_38_method_8_code (1 : Nat) (Option.some Jvm.ClassFile.FieldType.int), Jvm.Cond.code ({ cls := "com/example/rank_keeper/rankkeeper/BodyLinesSplitPinLaw", name := "at", desc := "(Ljava/util/List;I[BI)I" } : Jvm.MethodName) method_11_code (6 : Nat) (Option.some Jvm.ClassFile.FieldType.int), Jvm.Cond.code ({ cls := "com/example/rank_keeper/rankkeeper/BodyLinesSplitPinLaw", name := "pick", desc := "(III)B" } : Jvm.MethodName) method_3_code (4 : Nat) (Option.some Jvm.ClassFile.FieldType.byte), Jvm.Cond.code ({ cls := "com/example/rank_keeper/rankkeeper/BodyLines", name := "isBlank", desc := "([BII)Z" } : Jvm.MethodName) prog_2_method_3_code (5 : Nat) (Option.some Jvm.ClassFile.FieldType.boolean), Jvm.Cond.code ({ cls := "com/example/rank_keeper/rankkeeper/BodyLines$Line", name := "<init>", desc := "(III)V" } : Jvm.MethodName) prog_3_method_1_code (4 : Nat) (Option.none : Option Jvm.ClassFile.FieldType), Jvm.Cond.code ({ cls := "java/lang/Record", name := "<init>", desc := "()V" } : Jvm.MethodName) jdk_30_method_1_code (1 : Nat) (Option.none : Option Jvm.ClassFile.FieldType), Jvm.Cond.code ({ cls := "java/util/ArrayList", name := "add", desc := "(Ljava/lang/Object;)Z" } : Jvm.MethodName) jdk_38_method_25_code (2 : Nat) (Option.some Jvm.ClassFile.FieldType.boolean), Jvm.Cond.code ({ cls := "java/util/ArrayList", name := "add", desc := "(Ljava/lang/Object;[Ljava/lang/Object;I)V" } : Jvm.MethodName) jdk_38_method_24_code (4 : Nat) (Option.none : Option Jvm.ClassFile.FieldType), Jvm.Cond.code ({ cls := "java/util/ArrayList", name := "grow", desc := "()[Ljava/lang/Object;" } : Jvm.MethodName) jdk_38_method_7_code (1 : Nat) (Option.some (Jvm.ClassFile.FieldType.array (Jvm.ClassFile.FieldType.object "java/lang/Object"))), Jvm.Cond.code ({ cls := "java/util/ArrayList", name := "grow", desc := "(I)[Ljava/lang/Object;" } : Jvm.MethodName) jdk_38_method_6_code (4 : Nat) (Option.some (Jvm.ClassFile.FieldType.array (Jvm.ClassFile.FieldType.object "java/lang/Object"))), Jvm.Cond.code ({ cls := "java/lang/Math", name := "max", desc := "(II)I" } : Jvm.MethodName) jdk_29_method_65_code (2 : Nat) (Option.some Jvm.ClassFile.FieldType.int), Jvm.Cond.code ({ cls := "com/example/rank_keeper/rankkeeper/BodyLinesSplitPinLaw", name := "endFrom", desc := "([BI)I" } : Jvm.MethodName) method_6_code (3 : Nat) (Option.some Jvm.ClassFile.FieldType.int), Jvm.Cond.code ({ cls := "com/example/rank_keeper/rankkeeper/BodyLinesSplitPinLaw", name := "isNl", desc := "([BI)Z" } : Jvm.MethodName) method_4_code (2 : Nat) (Option.some Jvm.ClassFile.FieldType.boolean), Jvm.Cond.code ({ cls := "com/example/rank_keeper/rankkeeper/BodyLinesSplitPinLaw", name := "hasInk", desc := "([BII)Z" } : Jvm.MethodName) method_8_code (3 : Nat) (Option.some Jvm.ClassFile.FieldType.boolean), Jvm.Cond.code ({ cls := "com/example/rank_keeper/rankkeeper/BodyLinesSplitPinLaw", name := "inkAt", desc := "([BIII)Z" } : Jvm.MethodName) method_7_code (4 : Nat) (Option.some Jvm.ClassFile.FieldType.boolean), Jvm.Cond.code ({ cls := "java/util/ArrayList", name := "get", desc := "(I)Ljava/lang/Object;" } : Jvm.MethodName) jdk_38_method_20_code (2 : Nat) (Option.some (Jvm.ClassFile.FieldType.object "java/lang/Object")), Jvm.Cond.code ({ cls := "java/util/Objects", name := "checkIndex", desc := "(II)I" } : Jvm.MethodName) jdk_31_method_17_code (2 : Nat) (Option.some Jvm.ClassFile.FieldType.int), Jvm.Cond.code ({ cls := "jdk/internal/util/Preconditions", name := "checkIndex", desc := "(IILjava/util/function/BiFunction;)I" } : Jvm.MethodName) jdk_41_method_11_code (3 : Nat) (Option.some Jvm.ClassFile.FieldType.int), Jvm.Cond.code ({ cls := "java/util/ArrayList", name := "elementData", desc := "(I)Ljava/lang/Object;" } : Jvm.MethodName) jdk_38_method_18_code (2 : Nat) (Option.some (Jvm.ClassFile.FieldType.object "java/lang/Object")), Jvm.Cond.code ({ cls := "com/example/rank_keeper/rankkeeper/BodyLines$Line", name := "offset", desc := "()I" } : Jvm.MethodName) prog_3_method_6_code (1 : Nat) (Option.some Jvm.ClassFile.FieldType.int), Jvm.Cond.code ({ cls := "com/example/rank_keeper/rankkeeper/BodyLines$Line", name := "length", desc := "()I" } : Jvm.MethodName) prog_3_method_7_code (1 : Nat) (Option.some Jvm.ClassFile.FieldType.int), Jvm.Cond.code ({ cls := "com/example/rank_keeper/rankkeeper/BodyLines$Line", name := "number", desc := "()I" } : Jvm.MethodName) prog_3_method_5_code (1 : Nat) (Option.some Jvm.ClassFile.FieldType.int), Jvm.Cond.code ({ cls := "com/example/rank_keeper/rankkeeper/BodyLinesSplitPinLaw", name := "nlBefore", desc := "([BI)I" } : Jvm.MethodName) method_9_code (3 : Nat) (Option.some Jvm.ClassFile.FieldType.int)]
set_option maxRecDepth 65536 in
theorem codes_eq : words1.filter isCode = codes1 := rfl
theorem w_codes : ∀ c ∈ words1.filter isCode, c.before args0 about1 = true := by
  rw [codes_eq]
  intro c hc
  simp only [codes1, List.mem_cons, List.not_mem_nil, or_false] at hc
  rcases hc with rfl | rfl | rfl | rfl | rfl | rfl | rfl | rfl | rfl | rfl | rfl | rfl | rfl | rfl | rfl | rfl | rfl | rfl | rfl | rfl | rfl | rfl | rfl | rfl | rfl | rfl | rfl | rfl | rfl | rfl | rfl | rfl
  · exact w_c0
  · exact w_c1
  · exact w_c2
  · exact w_c3
  · exact w_c4
  · exact w_c5
  · exact w_c6
  · exact w_c7
  · exact w_c8
  · exact w_c9
  · exact w_c10
  · exact w_c11
  · exact w_c12
  · exact w_c13
  · exact w_c14
  · exact w_c15
  · exact w_c16
  · exact w_c17
  · exact w_c18
  · exact w_c19
  · exact w_c20
  · exact w_c21
  · exact w_c22
  · exact w_c23
  · exact w_c24
  · exact w_c25
  · exact w_c26
  · exact w_c27
  · exact w_c28
  · exact w_c29
  · exact w_c30
  · exact w_c31
set_option maxRecDepth 65536 in
theorem w_t1 : (words1.take 24).all (fun c => isCode c || c.before args0 about1) = true := by decide +kernel
set_option maxRecDepth 65536 in
theorem w_t2 : ((words1.drop 24).take 24).all (fun c => isCode c || c.before args0 about1) = true := by decide +kernel
set_option maxRecDepth 65536 in
theorem w_t3 : (((words1.drop 24).drop 24).take 24).all (fun c => isCode c || c.before args0 about1) = true := by decide +kernel
set_option maxRecDepth 65536 in
theorem w_t4 : ((((words1.drop 24).drop 24).drop 24).take 24).all (fun c => isCode c || c.before args0 about1) = true := by decide +kernel
set_option maxRecDepth 65536 in
theorem w_t5 : (((((words1.drop 24).drop 24).drop 24).drop 24).take 24).all (fun c => isCode c || c.before args0 about1) = true := by decide +kernel
set_option maxRecDepth 65536 in
theorem w_t6 : ((((((words1.drop 24).drop 24).drop 24).drop 24).drop 24).take 24).all (fun c => isCode c || c.before args0 about1) = true := by decide +kernel
set_option maxRecDepth 65536 in
theorem w_t7 : (((((((words1.drop 24).drop 24).drop 24).drop 24).drop 24).drop 24).take 24).all (fun c => isCode c || c.before args0 about1) = true := by decide +kernel
set_option maxRecDepth 65536 in
theorem w_t8 : (((((((words1.drop 24).drop 24).drop 24).drop 24).drop 24).drop 24).drop 24).all (fun c => isCode c || c.before args0 about1) = true := by decide +kernel
theorem w_tables : (allAtoms (Jvm.Cond.code x code maxLocals ret :: tables_1)).before args0 about1 = true := by
  rw [allAtoms_all]
  show words1.all (fun c => c.before args0 about1) = true
  refine all_split ?_ w_codes
  rw [← List.take_append_drop 24 words1, List.all_append, w_t1, ← List.take_append_drop 24 (words1.drop 24), List.all_append, w_t2, ← List.take_append_drop 24 ((words1.drop 24).drop 24), List.all_append, w_t3, ← List.take_append_drop 24 (((words1.drop 24).drop 24).drop 24), List.all_append, w_t4, ← List.take_append_drop 24 ((((words1.drop 24).drop 24).drop 24).drop 24), List.all_append, w_t5, ← List.take_append_drop 24 (((((words1.drop 24).drop 24).drop 24).drop 24).drop 24), List.all_append, w_t6, ← List.take_append_drop 24 ((((((words1.drop 24).drop 24).drop 24).drop 24).drop 24).drop 24), List.all_append, w_t7, w_t8]
  rfl
set_option maxRecDepth 65536 in
theorem w_rest : rest_1_c.before args0 about1 = true := by decide +kernel
set_option maxRecDepth 65536 in
theorem w_case : (Jvm.Cond.and given_1 narrow_1).before args0 about1 = true := by decide +kernel
theorem w_applies : (headSpec (Jvm.Cond.code x code maxLocals ret :: tables_1) room_1).applies x e0.platform about1 = true :=
  (Spec.applies_iff w_frames).mpr ⟨w_running, w_runnable, w_alone, w_named, w_hears, w_ripe, w_room, w_tables⟩
theorem atStart : AtStart classFile x code maxLocals ret World_1 tables_1 room_1 Calls_1 rest_1 Pre_1 launch0 p0 e0 about1 theMethod args0 below0 :=
  ⟨lists_1, trivial, launch0.admits_env _ _ _, launch0.least_env, fairChoices_fair.cas, fairChoices_fair.clock, w_frames, w_args, w_heap, w_applies, trivial, w_rest, w_case⟩
end start1
theorem witness_1 : WitnessClaimed_1 := ⟨start1.p0, start1.e0, start1.about1, start1.theMethod, start1.args0, start1.below0, start1.atStart⟩
end Jvm.Pilot.@@N@@
