import JvmDerived
import JvmDerived.Pilot.@@N@@Statement
import JvmDerived.Pilot.@@N@@Code
set_option linter.unusedVariables false
set_option linter.unusedSimpArgs false
namespace Jvm.RoadKit
open Sem ClassFile Op Lib Jvm.Stand Jvm.Free Jvm.LawKit
section New
variable {p : Program} {l : Launch} {e : Env} {R : Room} {s : State} {m : MethodId} {args : Array Value} {below : List Frame} {meth : Method} {c : Code} {T : State} {locs : List Loc} {cells slots : Nat}
theorem retI (X : Stand p l e R s m args below meth c T locs cells slots) (hx : p.tables.exec = Jvm.exec) {pc : Nat} {Ls : Array Slot} {z : Int32} {rest : List Value} (hret : meth.sig.returnType = some .int) (hd : decode c.code pc = .ok (.ireturn, 1)) {fs : List Frame}
    (hl : ∀ (f : JFrame) (acts : List Action), f.method = m → f.locked = none → f.entered = [] → (doReturn e (T.setTop f) acts (some (.int z))).1 = T.setFrames fs) : Steps p.tables e below (T.setTop (mkF m pc Ls (.int z :: rest))) (T.setFrames fs) := by
  have hm' : T.vm.method? m = some meth := X.method'
  have hn : narrow .int (.int z) = .int z := rfl
  show Steps p.tables e below (T.setTop { method := m, pc := pc, locals := Ls, stack := _ :: rest, locked := none }) _
  jvm_step X.here [X.here.top, hx, hd, hm', hret, hn]
  first | (intro acts; rw [hl _ acts rfl rfl rfl]) | rw [hl _ _ rfl rfl rfl]
  exact Steps.refl _
theorem own_lremM {g : JFrame} {target : State} (X : Stand p l e R s m args below meth c T locs cells slots) (hx : p.tables.exec = Jvm.exec) (hg : g.method = m) {x y : Int64} {rest : List Value} (hd : decode c.code g.pc = .ok (.lrem, 1)) (hs : g.stack = .long y :: .long x :: rest) (hy : y ≠ 0)
    (hr : Steps p.tables e below (T.setTop { g with pc := g.pc + 1, stack := .long (x % y) :: rest }) target) : Steps p.tables e below (T.setTop g) target := by
  have q : x - x / y * y = x % y := lrem_mod x y
  exact XS.lrem X.here hx hg hd hs hy (by rw [q]; exact hr)
theorem own_selP {Z : State} {a0 : Array Value} {C : String} {n : Nat} {y : MethodName} (hC : y.cls = C) (wi : (Cond.instantiable C n).before a0 Z = true) (wm : (Cond.instanceMethod y).before a0 Z = true) (wp : (Cond.privateMethod y).before a0 Z = true) (hy : y.cls ≠ "java/lang/invoke/MethodHandle" ∧ y.cls ≠ "java/lang/invoke/VarHandle") : (Cond.selects y.cls y y).before a0 Z = true := by
  obtain ⟨c, k, h1, h2, h3, h4, -⟩ := Cond.instantiable_spec wi
  simp only [Bool.or_eq_false_iff] at h4
  subst hC
  exact selects_self_of_private h1 h2 h4.1 (Cond.privateMethod_at wp) wm hy
end New
end Jvm.RoadKit
namespace Jvm.Pilot.@@N@@
open Jvm Jvm.ClassFile Sem Op Lib Jvm.Free Jvm.Stand Jvm.LawKit Jvm.RoadKit Bundle Jvm.Pilot.@@N@@.Jvm.D
def own_fd (a b : Int64) : Int64 := if (a ^^^ b) < (0 : Int64) then (if ((a / b) * b) = a then (a / b) else ((a / b) - (1 : Int64))) else (a / b)
theorem own_len {s : State} {args : Array Value} {t : Term} {a : Addr} {c : Cell} {ty : FieldType} {n : Int32} (ev : t.eval args s none [] s = some (.ref a)) (A : Arr s s.heap a c ty) (h : (Jvm.Cond.eq (Term.length t) (Term.int n)).value args s none s [] = some true) : c.slots.size < 2 ^ 31 ∧ c.slots.size.toInt32 = n := by
  obtain ⟨x, y, h1, h2, h3, h4⟩ := cmp_v (Or.inl h)
  have e2 : y = .int n := (Option.some.inj h2).symm
  subst e2
  obtain ⟨z, rfl⟩ := h4
  have q : z = n := by
    simp only [Cond.value, h1, h2] at h; simpa using h
  subst q
  have hat : s.arrayAt? a = some c := A.fin (Vm.Alike.refl _)
  simp only [Term.eval, ev, hat, Option.bind_eq_bind, Option.bind_some] at h1
  split at h1
  · rename_i g3
    exact ⟨g3, Value.int.inj (Option.some.inj h1)⟩
  · cases h1
theorem own_size {c : Cell} {n : Int32} (h : c.slots.size < 2 ^ 31 ∧ c.slots.size.toInt32 = n) : (c.slots.size : Int) = n.toInt := by
  rw [← h.2]; exact (Int32.toInt_ofNat_of_lt h.1).symm
theorem own_len0 {s : State} {args : Array Value} {t : Term} {a : Addr} {c : Cell} {ty : FieldType} (hf : Fit s) (ev : t.eval args s none [] s = some (.ref a)) (A : Arr s s.heap a c ty) (h : (Jvm.Cond.eq (Term.length t) (Term.int (0 : Int32))).value args s none s [] = some true) : Arv s s.heap a c.cls ty (0 : Int32) [] (defaultValue ty) := by
  have q := own_len ev A h
  have hz : c.slots.size = 0 := by
    have e := own_size q
    have k0 : (0 : Int32).toInt = 0 := by decide
    omega
  exact Arv.start hf A q.1 q.2 (by decide) rfl trivial
def own_mn (a b : Int64) : Int64 := if b < a then b else a
theorem own_xneg {a g : Int64} (hg : 1 ≤ g.toInt ∧ g.toInt ≤ 4) : (a ^^^ g) < (0 : Int64) ↔ a < (0 : Int64) := by
  have h := c_xorSL a g
  have k0 : (0 : Int64).toInt = 0 := by decide
  rw [Int64.lt_iff_toInt_lt, Int64.lt_iff_toInt_lt, k0]
  constructor
  · intro q
    apply Classical.byContradiction
    intro r
    have := h.2.2.2 (by omega) (by omega)
    omega
  · intro q
    exact h.2.1 q (by omega)
theorem own_mulq {a g : Int64} : ((a / g) * g) = a ↔ (a % g) = (0 : Int64) := by
  have h := lrem_mod a g
  have e := c_lsub a ((a / g) * g)
  rw [h] at e
  have r1 := rng64 a
  have r2 := rng64 ((a / g) * g)
  have r3 := rng64 (a % g)
  have k0 : (0 : Int64).toInt = 0 := by decide
  rw [← Int64.toInt_inj, ← Int64.toInt_inj, k0]
  omega
theorem own_fdp0 {a g : Int64} (hg : 1 ≤ g.toInt ∧ g.toInt ≤ 4) (h : (a % g) = (0 : Int64)) : (a / g) = own_fd a g := by
  unfold own_fd
  rw [if_pos (own_mulq.mpr h)]
  split <;> rfl
theorem own_fdp1 {a g : Int64} (hg : 1 ≤ g.toInt ∧ g.toInt ≤ 4) (h : ¬ (a % g) = (0 : Int64)) (h2 : a < (0 : Int64)) : ((a / g) - (1 : Int64)) = own_fd a g := by
  unfold own_fd
  rw [if_pos ((own_xneg hg).mpr h2), if_neg (fun q => h (own_mulq.mp q))]
theorem own_fdp2 {a g : Int64} (hg : 1 ≤ g.toInt ∧ g.toInt ≤ 4) (h : ¬ (a % g) = (0 : Int64)) (h2 : ¬ a < (0 : Int64)) : (a / g) = own_fd a g := by
  unfold own_fd
  rw [if_neg (fun q => h2 ((own_xneg hg).mp q))]
def own_end (sw t g : Int64) : Int64 := if t < ((sw + (1 : Int64)) * g) then ((sw + (1 : Int64)) * g) else (9223372036854775807 : Int64)
theorem own_ib {p : Int32} (h : p = (0 : Int32) ∨ p = (1 : Int32)) : ¬ ((2 : Int32) * p) < 0 ∧ ((2 : Int32) * p) < (4 : Int32) := by
  rcases h with rfl | rfl <;> decide
theorem own_ib1 {p : Int32} (h : p = (0 : Int32) ∨ p = (1 : Int32)) : ¬ (((2 : Int32) * p) + (1 : Int32)) < 0 ∧ (((2 : Int32) * p) + (1 : Int32)) < (4 : Int32) := by
  rcases h with rfl | rfl <;> decide
theorem own_ix {p : Int32} {n : Nat} (h : p = (0 : Int32) ∨ p = (1 : Int32)) (hl : n = 4) : ((2 : Int32) * p).toNatClampNeg < n := by
  subst hl; rcases h with rfl | rfl <;> decide
theorem own_ix1 {p : Int32} {n : Nat} (h : p = (0 : Int32) ∨ p = (1 : Int32)) (hl : n = 4) : (((2 : Int32) * p) + (1 : Int32)).toNatClampNeg < n := by
  subst hl; rcases h with rfl | rfl <;> decide
def own_stot (r c tt ot : Int64) : Int64 := if (0 : Int64) < c then ((r + tt) - ot) else r
def own_fr0 (r q ns x0 x1 y0 y1 : Int64) : Int64 := (if ns < q then (r - (0 : Int64)) else r)
def own_fc0 (r q ns x0 x1 y0 y1 : Int64) : Int64 := (if ns < q then (0 : Int64) else (1 : Int64))
def own_fr1 (r q ns x0 x1 y0 y1 : Int64) : Int64 := (if x0 < q then (if ns < q then ((r - y0) - (0 : Int64)) else (r - y0)) else r)
def own_fc1 (r q ns x0 x1 y0 y1 : Int64) : Int64 := (if x0 < q then (if ns < q then (0 : Int64) else (1 : Int64)) else (2 : Int64))
def own_fr2 (r q ns x0 x1 y0 y1 : Int64) : Int64 := (if x0 < q then (if x1 < q then (if ns < q then (((r - y0) - y1) - (0 : Int64)) else ((r - y0) - y1)) else (r - y0)) else r)
def own_fc2 (r q ns x0 x1 y0 y1 : Int64) : Int64 := (if x0 < q then (if x1 < q then (if ns < q then (0 : Int64) else (1 : Int64)) else (2 : Int64)) else (3 : Int64))
theorem own_badd {x y : Int64} {l1 u1 l2 u2 : Int} (h1 : l1 ≤ x.toInt ∧ x.toInt ≤ u1) (h2 : l2 ≤ y.toInt ∧ y.toInt ≤ u2) (hl : -4611686018427387904 ≤ l1 + l2) (hu : u1 + u2 ≤ 4611686018427387904) : l1 + l2 ≤ (x + y).toInt ∧ (x + y).toInt ≤ u1 + u2 := by
  have e := c_ladd x y
  have r := rng64 (x + y)
  omega
theorem own_nov {t a : Int64} {l1 u1 l2 u2 : Int} (h1 : l1 ≤ t.toInt ∧ t.toInt ≤ u1) (h2 : l2 ≤ a.toInt ∧ a.toInt ≤ u2) (k1 : 0 ≤ l1) (k2 : 0 ≤ l2) (hu : u1 + u2 ≤ 4611686018427387904) : ¬ ((t ^^^ (t + a)) &&& (a ^^^ (t + a))) < (0 : Int64) := by
  have e := own_badd h1 h2 (by omega) hu
  have q := (c_xorSL t (t + a)).2.2.2 (by omega) (by omega)
  have q2 := (c_andSL (t ^^^ (t + a)) (a ^^^ (t + a))).2.1 q
  have k0 : (0 : Int64).toInt = 0 := by decide
  rw [Int64.lt_iff_toInt_lt]; omega
theorem own_bne {t : Int64} {l1 u1 : Int} (h1 : l1 ≤ t.toInt ∧ t.toInt ≤ u1) (k1 : 1 ≤ l1) : t ≠ (0 : Int64) := by
  intro q
  have k0 : (0 : Int64).toInt = 0 := by decide
  rw [q] at h1; omega
theorem own_amt (p : Int32) : 1 ≤ ((p.toInt64 &&& (2147483647 : Int64)) + (1 : Int64)).toInt ∧ ((p.toInt64 &&& (2147483647 : Int64)) + (1 : Int64)).toInt ≤ 2147483648 := by
  have h := c_maskL p.toInt64 2147483647 31 (by decide) (by decide)
  have h2 : (2 ^ 31 : Nat) = 2147483648 := by decide
  rw [h2] at h
  have e := c_ladd (p.toInt64 &&& 2147483647) 1
  have r := rng64 ((p.toInt64 &&& 2147483647) + 1)
  have k1 : (1 : Int64).toInt = 1 := by decide
  omega
theorem own_gr (x : Int64) : 1 ≤ ((1 : Int64) + (x &&& (3 : Int64))).toInt ∧ ((1 : Int64) + (x &&& (3 : Int64))).toInt ≤ 4 := by
  have h := c_maskL x 3 2 (by decide) (by decide)
  have h2 : (2 ^ 2 : Nat) = 4 := by decide
  rw [h2] at h
  have e := c_ladd 1 (x &&& 3)
  have r := rng64 ((1 : Int64) + (x &&& 3))
  have k1 : (1 : Int64).toInt = 1 := by decide
  omega
theorem own_d7 (x : Int64) : 0 ≤ (x &&& (7 : Int64)).toInt ∧ (x &&& (7 : Int64)).toInt ≤ 7 := by
  have h := c_maskL x 7 3 (by decide) (by decide)
  have h2 : (2 ^ 3 : Nat) = 8 := by decide
  rw [h2] at h
  omega
theorem own_w01 (x : Int64) : ((x &&& (1 : Int64)).toInt32) = (0 : Int32) ∨ ((x &&& (1 : Int64)).toInt32) = (1 : Int32) := by
  have h := c_maskL x 1 1 (by decide) (by decide)
  have h2 : (2 ^ 1 : Nat) = 2 := by decide
  rw [h2] at h
  have e := c_l2i (x &&& 1)
  have r := rng32 (x &&& 1).toInt32
  have k0 : (0 : Int32).toInt = 0 := by decide
  have k1 : (1 : Int32).toInt = 1 := by decide
  rw [← Int32.toInt_inj, ← Int32.toInt_inj]
  omega
theorem own_1w {p : Int32} (h : p = (0 : Int32) ∨ p = (1 : Int32)) : ((1 : Int32) - p) = (0 : Int32) ∨ ((1 : Int32) - p) = (1 : Int32) := by
  rcases h with rfl | rfl <;> decide
theorem own_min64 (t : Int64) : (own_mn t (9223372036854775743 : Int64)).toInt ≤ 9223372036854775743 := by
  have k : (9223372036854775743 : Int64).toInt = 9223372036854775743 := by decide
  unfold own_mn
  split
  · omega
  · rename_i h
    rw [Int64.lt_iff_toInt_lt] at h; omega
theorem own_fdv {a g : Int64} (hg : 1 ≤ g.toInt ∧ g.toInt ≤ 4) : (own_fd a g).toInt = a.toInt / g.toInt := by
  have k0 : (0 : Int64).toInt = 0 := by decide
  have k1 : (1 : Int64).toInt = 1 := by decide
  have hm : g ≠ -1 := by
    intro q
    have : (-1 : Int64).toInt = -1 := by decide
    rw [q] at hg; omega
  have d := c_ldiv a g g.toInt rfl hm
  have e := lrem_mod a g
  have t := Int64.toInt_mod a g
  have m := tr a.toInt g.toInt
  have r := rng64 a
  by_cases ha : a < (0 : Int64)
  · have ha' := Int64.lt_iff_toInt_lt.mp ha
    rw [k0] at ha'
    have d2 := d.2 ha'
    have m2 := m.2 ha'
    unfold own_fd
    rw [if_pos ((own_xneg hg).mpr ha)]
    by_cases hq : ((a / g) * g) = a
    · rw [if_pos hq, d2]
      have h0 := own_mulq.mp hq
      rw [h0, k0, m2] at t
      have : g.toInt = 1 ∨ g.toInt = 2 ∨ g.toInt = 3 ∨ g.toInt = 4 := by omega
      rcases this with q | q | q | q <;> rw [q] at t ⊢ <;> omega
    · rw [if_neg hq]
      have h0 : ¬ (a % g) = (0 : Int64) := fun z => hq (own_mulq.mpr z)
      rw [← Int64.toInt_inj, k0, t, m2] at h0
      have s := c_lsub (a / g) 1
      have rs := rng64 ((a / g) - 1)
      rw [d2, k1] at s
      have : g.toInt = 1 ∨ g.toInt = 2 ∨ g.toInt = 3 ∨ g.toInt = 4 := by omega
      rcases this with q | q | q | q <;> rw [q] at h0 s ⊢ <;> omega
  · have ha' : 0 ≤ a.toInt := by
      rw [Int64.lt_iff_toInt_lt, k0] at ha; omega
    unfold own_fd
    rw [if_neg (fun z => ha ((own_xneg hg).mp z))]
    exact d.1 ha'
theorem own_mono {a d g : Int64} (hg : 1 ≤ g.toInt ∧ g.toInt ≤ 4) (hd : 0 ≤ d.toInt ∧ d.toInt ≤ 7) (ha : a.toInt ≤ 9223372036854775780) : ¬ (own_fd (a + d) g) < (own_fd a g) := by
  have e := c_ladd a d
  have r := rng64 (a + d)
  have r2 := rng64 a
  rw [Int64.lt_iff_toInt_lt, own_fdv hg, own_fdv hg]
  have : g.toInt = 1 ∨ g.toInt = 2 ∨ g.toInt = 3 ∨ g.toInt = 4 := by omega
  rcases this with q | q | q | q <;> rw [q] <;> omega
theorem own_addle {a d : Int64} (hd : 0 ≤ d.toInt ∧ d.toInt ≤ 7) (ha : a.toInt ≤ 9223372036854775743) : (a + d).toInt ≤ 9223372036854775780 := by
  have e := c_ladd a d
  have r := rng64 (a + d)
  have r2 := rng64 a
  omega
theorem own_fin0 (s0 s1 s2 ea eb ec fh : Int64) (m01 : ¬ s1 < s0) (m12 : ¬ s2 < s1) : (own_stot (0 : Int64) (0 : Int64) (0 : Int64) (0 : Int64)) = (0 : Int64) := by
  have c01 : s1 < fh → s0 < fh := fun q => by
    rw [Int64.lt_iff_toInt_lt] at m01 q ⊢; omega
  have c12 : s2 < fh → s1 < fh := fun q => by
    rw [Int64.lt_iff_toInt_lt] at m12 q ⊢; omega
  have k1 : (0 : Int64) < 1 := by decide
  have k2 : (0 : Int64) < 2 := by decide
  have k3 : (0 : Int64) < 3 := by decide
  have k0 : ¬ (0 : Int64) < 0 := by decide
  by_cases h2 : s2 < fh
  · have h1 := c12 h2
    have h0 := c01 h1
    simp only [own_stot, own_fr0, own_fc0, own_fr1, own_fc1, own_fr2, own_fc2, h0, h1, h2, k0, k1, k2, k3, if_true, if_false]
    try grind
  · skip
    by_cases h1 : s1 < fh
    · have h0 := c01 h1
      simp only [own_stot, own_fr0, own_fc0, own_fr1, own_fc1, own_fr2, own_fc2, h0, h1, h2, k0, k1, k2, k3, if_true, if_false]
      try grind
    · skip
      by_cases h0 : s0 < fh
      · skip
        simp only [own_stot, own_fr0, own_fc0, own_fr1, own_fc1, own_fr2, own_fc2, h0, h1, h2, k0, k1, k2, k3, if_true, if_false]
        try grind
      · skip
        simp only [own_stot, own_fr0, own_fc0, own_fr1, own_fc1, own_fr2, own_fc2, h0, h1, h2, k0, k1, k2, k3, if_true, if_false]
        try grind
theorem own_fin1 (s0 s1 s2 ea eb ec fh : Int64) (m01 : ¬ s1 < s0) (m12 : ¬ s2 < s1) : (own_stot (0 : Int64) (0 : Int64) (0 : Int64) (0 : Int64)) = (0 : Int64) := by
  have c01 : s1 < fh → s0 < fh := fun q => by
    rw [Int64.lt_iff_toInt_lt] at m01 q ⊢; omega
  have c12 : s2 < fh → s1 < fh := fun q => by
    rw [Int64.lt_iff_toInt_lt] at m12 q ⊢; omega
  have k1 : (0 : Int64) < 1 := by decide
  have k2 : (0 : Int64) < 2 := by decide
  have k3 : (0 : Int64) < 3 := by decide
  have k0 : ¬ (0 : Int64) < 0 := by decide
  by_cases h2 : s2 < fh
  · have h1 := c12 h2
    have h0 := c01 h1
    simp only [own_stot, own_fr0, own_fc0, own_fr1, own_fc1, own_fr2, own_fc2, h0, h1, h2, k0, k1, k2, k3, if_true, if_false]
    try grind
  · skip
    by_cases h1 : s1 < fh
    · have h0 := c01 h1
      simp only [own_stot, own_fr0, own_fc0, own_fr1, own_fc1, own_fr2, own_fc2, h0, h1, h2, k0, k1, k2, k3, if_true, if_false]
      try grind
    · skip
      by_cases h0 : s0 < fh
      · skip
        simp only [own_stot, own_fr0, own_fc0, own_fr1, own_fc1, own_fr2, own_fc2, h0, h1, h2, k0, k1, k2, k3, if_true, if_false]
        try grind
      · skip
        simp only [own_stot, own_fr0, own_fc0, own_fr1, own_fc1, own_fr2, own_fc2, h0, h1, h2, k0, k1, k2, k3, if_true, if_false]
        try grind
theorem own_fin2 (s0 s1 s2 ea eb ec fh : Int64) (m01 : ¬ s1 < s0) (m12 : ¬ s2 < s1) : (own_stot (own_fr0 (0 : Int64) fh s0 (0 : Int64) (0 : Int64) (0 : Int64) (0 : Int64)) (own_fc0 (0 : Int64) fh s0 (0 : Int64) (0 : Int64) (0 : Int64) (0 : Int64)) ((0 : Int64) + ea) (0 : Int64)) = (if s0 < fh then (0 : Int64) else ((0 : Int64) + ea)) := by
  have c01 : s1 < fh → s0 < fh := fun q => by
    rw [Int64.lt_iff_toInt_lt] at m01 q ⊢; omega
  have c12 : s2 < fh → s1 < fh := fun q => by
    rw [Int64.lt_iff_toInt_lt] at m12 q ⊢; omega
  have k1 : (0 : Int64) < 1 := by decide
  have k2 : (0 : Int64) < 2 := by decide
  have k3 : (0 : Int64) < 3 := by decide
  have k0 : ¬ (0 : Int64) < 0 := by decide
  by_cases h2 : s2 < fh
  · have h1 := c12 h2
    have h0 := c01 h1
    simp only [own_stot, own_fr0, own_fc0, own_fr1, own_fc1, own_fr2, own_fc2, h0, h1, h2, k0, k1, k2, k3, if_true, if_false]
    try grind
  · skip
    by_cases h1 : s1 < fh
    · have h0 := c01 h1
      simp only [own_stot, own_fr0, own_fc0, own_fr1, own_fc1, own_fr2, own_fc2, h0, h1, h2, k0, k1, k2, k3, if_true, if_false]
      try grind
    · skip
      by_cases h0 : s0 < fh
      · skip
        simp only [own_stot, own_fr0, own_fc0, own_fr1, own_fc1, own_fr2, own_fc2, h0, h1, h2, k0, k1, k2, k3, if_true, if_false]
        try grind
      · skip
        simp only [own_stot, own_fr0, own_fc0, own_fr1, own_fc1, own_fr2, own_fc2, h0, h1, h2, k0, k1, k2, k3, if_true, if_false]
        try grind
theorem own_fin3 (s0 s1 s2 ea eb ec fh : Int64) (m01 : ¬ s1 < s0) (m12 : ¬ s2 < s1) : (own_stot (0 : Int64) (1 : Int64) ((0 : Int64) + ea) (0 : Int64)) = ((0 : Int64) + ea) := by
  have c01 : s1 < fh → s0 < fh := fun q => by
    rw [Int64.lt_iff_toInt_lt] at m01 q ⊢; omega
  have c12 : s2 < fh → s1 < fh := fun q => by
    rw [Int64.lt_iff_toInt_lt] at m12 q ⊢; omega
  have k1 : (0 : Int64) < 1 := by decide
  have k2 : (0 : Int64) < 2 := by decide
  have k3 : (0 : Int64) < 3 := by decide
  have k0 : ¬ (0 : Int64) < 0 := by decide
  by_cases h2 : s2 < fh
  · have h1 := c12 h2
    have h0 := c01 h1
    simp only [own_stot, own_fr0, own_fc0, own_fr1, own_fc1, own_fr2, own_fc2, h0, h1, h2, k0, k1, k2, k3, if_true, if_false]
    try grind
  · skip
    by_cases h1 : s1 < fh
    · have h0 := c01 h1
      simp only [own_stot, own_fr0, own_fc0, own_fr1, own_fc1, own_fr2, own_fc2, h0, h1, h2, k0, k1, k2, k3, if_true, if_false]
      try grind
    · skip
      by_cases h0 : s0 < fh
      · skip
        simp only [own_stot, own_fr0, own_fc0, own_fr1, own_fc1, own_fr2, own_fc2, h0, h1, h2, k0, k1, k2, k3, if_true, if_false]
        try grind
      · skip
        simp only [own_stot, own_fr0, own_fc0, own_fr1, own_fc1, own_fr2, own_fc2, h0, h1, h2, k0, k1, k2, k3, if_true, if_false]
        try grind
theorem own_fin4 (s0 s1 s2 ea eb ec fh : Int64) (m01 : ¬ s1 < s0) (m12 : ¬ s2 < s1) (z0 : s1 = s0) : (own_stot (own_fr0 (0 : Int64) fh s0 (0 : Int64) (0 : Int64) (0 : Int64) (0 : Int64)) (own_fc0 (0 : Int64) fh s0 (0 : Int64) (0 : Int64) (0 : Int64) (0 : Int64)) (((0 : Int64) + ea) + eb) (0 : Int64)) = (if s1 < fh then (if s0 < fh then (0 : Int64) else ((0 : Int64) + ea)) else ((if s0 < fh then (0 : Int64) else ((0 : Int64) + ea)) + eb)) := by
  have c01 : s1 < fh → s0 < fh := fun q => by
    rw [Int64.lt_iff_toInt_lt] at m01 q ⊢; omega
  have c12 : s2 < fh → s1 < fh := fun q => by
    rw [Int64.lt_iff_toInt_lt] at m12 q ⊢; omega
  have k1 : (0 : Int64) < 1 := by decide
  have k2 : (0 : Int64) < 2 := by decide
  have k3 : (0 : Int64) < 3 := by decide
  have k0 : ¬ (0 : Int64) < 0 := by decide
  by_cases h2 : s2 < fh
  · have h1 := c12 h2
    have h0 := c01 h1
    simp only [own_stot, own_fr0, own_fc0, own_fr1, own_fc1, own_fr2, own_fc2, h0, h1, h2, k0, k1, k2, k3, if_true, if_false]
    try grind
  · skip
    by_cases h1 : s1 < fh
    · have h0 := c01 h1
      simp only [own_stot, own_fr0, own_fc0, own_fr1, own_fc1, own_fr2, own_fc2, h0, h1, h2, k0, k1, k2, k3, if_true, if_false]
      try grind
    · skip
      have h0 : ¬ s0 < fh := by rw [← z0]; exact h1
      simp only [own_stot, own_fr0, own_fc0, own_fr1, own_fc1, own_fr2, own_fc2, h0, h1, h2, k0, k1, k2, k3, if_true, if_false]
      try grind
theorem own_fin5 (s0 s1 s2 ea eb ec fh : Int64) (m01 : ¬ s1 < s0) (m12 : ¬ s2 < s1) (z0 : s1 = s0) : (own_stot (0 : Int64) (1 : Int64) (((0 : Int64) + ea) + eb) (0 : Int64)) = (((0 : Int64) + ea) + eb) := by
  have c01 : s1 < fh → s0 < fh := fun q => by
    rw [Int64.lt_iff_toInt_lt] at m01 q ⊢; omega
  have c12 : s2 < fh → s1 < fh := fun q => by
    rw [Int64.lt_iff_toInt_lt] at m12 q ⊢; omega
  have k1 : (0 : Int64) < 1 := by decide
  have k2 : (0 : Int64) < 2 := by decide
  have k3 : (0 : Int64) < 3 := by decide
  have k0 : ¬ (0 : Int64) < 0 := by decide
  by_cases h2 : s2 < fh
  · have h1 := c12 h2
    have h0 := c01 h1
    simp only [own_stot, own_fr0, own_fc0, own_fr1, own_fc1, own_fr2, own_fc2, h0, h1, h2, k0, k1, k2, k3, if_true, if_false]
    try grind
  · skip
    by_cases h1 : s1 < fh
    · have h0 := c01 h1
      simp only [own_stot, own_fr0, own_fc0, own_fr1, own_fc1, own_fr2, own_fc2, h0, h1, h2, k0, k1, k2, k3, if_true, if_false]
      try grind
    · skip
      have h0 : ¬ s0 < fh := by rw [← z0]; exact h1
      simp only [own_stot, own_fr0, own_fc0, own_fr1, own_fc1, own_fr2, own_fc2, h0, h1, h2, k0, k1, k2, k3, if_true, if_false]
      try grind
theorem own_fin6 (s0 s1 s2 ea eb ec fh : Int64) (m01 : ¬ s1 < s0) (m12 : ¬ s2 < s1) (z0 : s1 = s0) (z1 : s2 = s0) : (own_stot (own_fr0 (0 : Int64) fh s0 (0 : Int64) (0 : Int64) (0 : Int64) (0 : Int64)) (own_fc0 (0 : Int64) fh s0 (0 : Int64) (0 : Int64) (0 : Int64) (0 : Int64)) ((((0 : Int64) + ea) + eb) + ec) (0 : Int64)) = (if s2 < fh then (if s1 < fh then (if s0 < fh then (0 : Int64) else ((0 : Int64) + ea)) else ((if s0 < fh then (0 : Int64) else ((0 : Int64) + ea)) + eb)) else ((if s1 < fh then (if s0 < fh then (0 : Int64) else ((0 : Int64) + ea)) else ((if s0 < fh then (0 : Int64) else ((0 : Int64) + ea)) + eb)) + ec)) := by
  have c01 : s1 < fh → s0 < fh := fun q => by
    rw [Int64.lt_iff_toInt_lt] at m01 q ⊢; omega
  have c12 : s2 < fh → s1 < fh := fun q => by
    rw [Int64.lt_iff_toInt_lt] at m12 q ⊢; omega
  have k1 : (0 : Int64) < 1 := by decide
  have k2 : (0 : Int64) < 2 := by decide
  have k3 : (0 : Int64) < 3 := by decide
  have k0 : ¬ (0 : Int64) < 0 := by decide
  by_cases h2 : s2 < fh
  · have h1 := c12 h2
    have h0 := c01 h1
    simp only [own_stot, own_fr0, own_fc0, own_fr1, own_fc1, own_fr2, own_fc2, h0, h1, h2, k0, k1, k2, k3, if_true, if_false]
    try grind
  · skip
    have h1 : ¬ s1 < fh := by rw [z0, ← z1]; exact h2
    have h0 : ¬ s0 < fh := by rw [← z0]; exact h1
    simp only [own_stot, own_fr0, own_fc0, own_fr1, own_fc1, own_fr2, own_fc2, h0, h1, h2, k0, k1, k2, k3, if_true, if_false]
    try grind
theorem own_fin7 (s0 s1 s2 ea eb ec fh : Int64) (m01 : ¬ s1 < s0) (m12 : ¬ s2 < s1) (z0 : s1 = s0) (z1 : s2 = s0) : (own_stot (0 : Int64) (1 : Int64) ((((0 : Int64) + ea) + eb) + ec) (0 : Int64)) = ((((0 : Int64) + ea) + eb) + ec) := by
  have c01 : s1 < fh → s0 < fh := fun q => by
    rw [Int64.lt_iff_toInt_lt] at m01 q ⊢; omega
  have c12 : s2 < fh → s1 < fh := fun q => by
    rw [Int64.lt_iff_toInt_lt] at m12 q ⊢; omega
  have k1 : (0 : Int64) < 1 := by decide
  have k2 : (0 : Int64) < 2 := by decide
  have k3 : (0 : Int64) < 3 := by decide
  have k0 : ¬ (0 : Int64) < 0 := by decide
  by_cases h2 : s2 < fh
  · have h1 := c12 h2
    have h0 := c01 h1
    simp only [own_stot, own_fr0, own_fc0, own_fr1, own_fc1, own_fr2, own_fc2, h0, h1, h2, k0, k1, k2, k3, if_true, if_false]
    try grind
  · skip
    have h1 : ¬ s1 < fh := by rw [z0, ← z1]; exact h2
    have h0 : ¬ s0 < fh := by rw [← z0]; exact h1
    simp only [own_stot, own_fr0, own_fc0, own_fr1, own_fc1, own_fr2, own_fc2, h0, h1, h2, k0, k1, k2, k3, if_true, if_false]
    try grind
theorem own_fin8 (s0 s1 s2 ea eb ec fh : Int64) (m01 : ¬ s1 < s0) (m12 : ¬ s2 < s1) (z0 : s1 = s0) : (own_stot (own_fr1 ((0 : Int64) + ((((0 : Int64) + ea) + eb) - (0 : Int64))) fh s2 s0 (0 : Int64) ((((0 : Int64) + ea) + eb) - (0 : Int64)) (0 : Int64)) (own_fc1 ((0 : Int64) + ((((0 : Int64) + ea) + eb) - (0 : Int64))) fh s2 s0 (0 : Int64) ((((0 : Int64) + ea) + eb) - (0 : Int64)) (0 : Int64)) ((((0 : Int64) + ea) + eb) + ec) ((0 : Int64) + ((((0 : Int64) + ea) + eb) - (0 : Int64)))) = (if s2 < fh then (if s1 < fh then (if s0 < fh then (0 : Int64) else ((0 : Int64) + ea)) else ((if s0 < fh then (0 : Int64) else ((0 : Int64) + ea)) + eb)) else ((if s1 < fh then (if s0 < fh then (0 : Int64) else ((0 : Int64) + ea)) else ((if s0 < fh then (0 : Int64) else ((0 : Int64) + ea)) + eb)) + ec)) := by
  have c01 : s1 < fh → s0 < fh := fun q => by
    rw [Int64.lt_iff_toInt_lt] at m01 q ⊢; omega
  have c12 : s2 < fh → s1 < fh := fun q => by
    rw [Int64.lt_iff_toInt_lt] at m12 q ⊢; omega
  have k1 : (0 : Int64) < 1 := by decide
  have k2 : (0 : Int64) < 2 := by decide
  have k3 : (0 : Int64) < 3 := by decide
  have k0 : ¬ (0 : Int64) < 0 := by decide
  by_cases h2 : s2 < fh
  · have h1 := c12 h2
    have h0 := c01 h1
    simp only [own_stot, own_fr0, own_fc0, own_fr1, own_fc1, own_fr2, own_fc2, h0, h1, h2, k0, k1, k2, k3, if_true, if_false]
    try grind
  · skip
    by_cases h1 : s1 < fh
    · have h0 := c01 h1
      simp only [own_stot, own_fr0, own_fc0, own_fr1, own_fc1, own_fr2, own_fc2, h0, h1, h2, k0, k1, k2, k3, if_true, if_false]
      try grind
    · skip
      have h0 : ¬ s0 < fh := by rw [← z0]; exact h1
      simp only [own_stot, own_fr0, own_fc0, own_fr1, own_fc1, own_fr2, own_fc2, h0, h1, h2, k0, k1, k2, k3, if_true, if_false]
      try grind
theorem own_fin9 (s0 s1 s2 ea eb ec fh : Int64) (m01 : ¬ s1 < s0) (m12 : ¬ s2 < s1) (z0 : s1 = s0) : (own_stot ((0 : Int64) + ((((0 : Int64) + ea) + eb) - (0 : Int64))) (2 : Int64) ((((0 : Int64) + ea) + eb) + ec) ((0 : Int64) + ((((0 : Int64) + ea) + eb) - (0 : Int64)))) = ((((0 : Int64) + ea) + eb) + ec) := by
  have c01 : s1 < fh → s0 < fh := fun q => by
    rw [Int64.lt_iff_toInt_lt] at m01 q ⊢; omega
  have c12 : s2 < fh → s1 < fh := fun q => by
    rw [Int64.lt_iff_toInt_lt] at m12 q ⊢; omega
  have k1 : (0 : Int64) < 1 := by decide
  have k2 : (0 : Int64) < 2 := by decide
  have k3 : (0 : Int64) < 3 := by decide
  have k0 : ¬ (0 : Int64) < 0 := by decide
  by_cases h2 : s2 < fh
  · have h1 := c12 h2
    have h0 := c01 h1
    simp only [own_stot, own_fr0, own_fc0, own_fr1, own_fc1, own_fr2, own_fc2, h0, h1, h2, k0, k1, k2, k3, if_true, if_false]
    try grind
  · skip
    by_cases h1 : s1 < fh
    · have h0 := c01 h1
      simp only [own_stot, own_fr0, own_fc0, own_fr1, own_fc1, own_fr2, own_fc2, h0, h1, h2, k0, k1, k2, k3, if_true, if_false]
      try grind
    · skip
      have h0 : ¬ s0 < fh := by rw [← z0]; exact h1
      simp only [own_stot, own_fr0, own_fc0, own_fr1, own_fc1, own_fr2, own_fc2, h0, h1, h2, k0, k1, k2, k3, if_true, if_false]
      try grind
theorem own_fin10 (s0 s1 s2 ea eb ec fh : Int64) (m01 : ¬ s1 < s0) (m12 : ¬ s2 < s1) : (own_stot (own_fr1 ((0 : Int64) + (((0 : Int64) + ea) - (0 : Int64))) fh s1 s0 (0 : Int64) (((0 : Int64) + ea) - (0 : Int64)) (0 : Int64)) (own_fc1 ((0 : Int64) + (((0 : Int64) + ea) - (0 : Int64))) fh s1 s0 (0 : Int64) (((0 : Int64) + ea) - (0 : Int64)) (0 : Int64)) (((0 : Int64) + ea) + eb) ((0 : Int64) + (((0 : Int64) + ea) - (0 : Int64)))) = (if s1 < fh then (if s0 < fh then (0 : Int64) else ((0 : Int64) + ea)) else ((if s0 < fh then (0 : Int64) else ((0 : Int64) + ea)) + eb)) := by
  have c01 : s1 < fh → s0 < fh := fun q => by
    rw [Int64.lt_iff_toInt_lt] at m01 q ⊢; omega
  have c12 : s2 < fh → s1 < fh := fun q => by
    rw [Int64.lt_iff_toInt_lt] at m12 q ⊢; omega
  have k1 : (0 : Int64) < 1 := by decide
  have k2 : (0 : Int64) < 2 := by decide
  have k3 : (0 : Int64) < 3 := by decide
  have k0 : ¬ (0 : Int64) < 0 := by decide
  by_cases h2 : s2 < fh
  · have h1 := c12 h2
    have h0 := c01 h1
    simp only [own_stot, own_fr0, own_fc0, own_fr1, own_fc1, own_fr2, own_fc2, h0, h1, h2, k0, k1, k2, k3, if_true, if_false]
    try grind
  · skip
    by_cases h1 : s1 < fh
    · have h0 := c01 h1
      simp only [own_stot, own_fr0, own_fc0, own_fr1, own_fc1, own_fr2, own_fc2, h0, h1, h2, k0, k1, k2, k3, if_true, if_false]
      try grind
    · skip
      by_cases h0 : s0 < fh
      · skip
        simp only [own_stot, own_fr0, own_fc0, own_fr1, own_fc1, own_fr2, own_fc2, h0, h1, h2, k0, k1, k2, k3, if_true, if_false]
        try grind
      · skip
        simp only [own_stot, own_fr0, own_fc0, own_fr1, own_fc1, own_fr2, own_fc2, h0, h1, h2, k0, k1, k2, k3, if_true, if_false]
        try grind
theorem own_fin11 (s0 s1 s2 ea eb ec fh : Int64) (m01 : ¬ s1 < s0) (m12 : ¬ s2 < s1) : (own_stot ((0 : Int64) + (((0 : Int64) + ea) - (0 : Int64))) (2 : Int64) (((0 : Int64) + ea) + eb) ((0 : Int64) + (((0 : Int64) + ea) - (0 : Int64)))) = (((0 : Int64) + ea) + eb) := by
  have c01 : s1 < fh → s0 < fh := fun q => by
    rw [Int64.lt_iff_toInt_lt] at m01 q ⊢; omega
  have c12 : s2 < fh → s1 < fh := fun q => by
    rw [Int64.lt_iff_toInt_lt] at m12 q ⊢; omega
  have k1 : (0 : Int64) < 1 := by decide
  have k2 : (0 : Int64) < 2 := by decide
  have k3 : (0 : Int64) < 3 := by decide
  have k0 : ¬ (0 : Int64) < 0 := by decide
  by_cases h2 : s2 < fh
  · have h1 := c12 h2
    have h0 := c01 h1
    simp only [own_stot, own_fr0, own_fc0, own_fr1, own_fc1, own_fr2, own_fc2, h0, h1, h2, k0, k1, k2, k3, if_true, if_false]
    try grind
  · skip
    by_cases h1 : s1 < fh
    · have h0 := c01 h1
      simp only [own_stot, own_fr0, own_fc0, own_fr1, own_fc1, own_fr2, own_fc2, h0, h1, h2, k0, k1, k2, k3, if_true, if_false]
      try grind
    · skip
      by_cases h0 : s0 < fh
      · skip
        simp only [own_stot, own_fr0, own_fc0, own_fr1, own_fc1, own_fr2, own_fc2, h0, h1, h2, k0, k1, k2, k3, if_true, if_false]
        try grind
      · skip
        simp only [own_stot, own_fr0, own_fc0, own_fr1, own_fc1, own_fr2, own_fc2, h0, h1, h2, k0, k1, k2, k3, if_true, if_false]
        try grind
theorem own_fin12 (s0 s1 s2 ea eb ec fh : Int64) (m01 : ¬ s1 < s0) (m12 : ¬ s2 < s1) (z0 : s2 = s1) : (own_stot (own_fr1 ((0 : Int64) + (((0 : Int64) + ea) - (0 : Int64))) fh s1 s0 (0 : Int64) (((0 : Int64) + ea) - (0 : Int64)) (0 : Int64)) (own_fc1 ((0 : Int64) + (((0 : Int64) + ea) - (0 : Int64))) fh s1 s0 (0 : Int64) (((0 : Int64) + ea) - (0 : Int64)) (0 : Int64)) ((((0 : Int64) + ea) + eb) + ec) ((0 : Int64) + (((0 : Int64) + ea) - (0 : Int64)))) = (if s2 < fh then (if s1 < fh then (if s0 < fh then (0 : Int64) else ((0 : Int64) + ea)) else ((if s0 < fh then (0 : Int64) else ((0 : Int64) + ea)) + eb)) else ((if s1 < fh then (if s0 < fh then (0 : Int64) else ((0 : Int64) + ea)) else ((if s0 < fh then (0 : Int64) else ((0 : Int64) + ea)) + eb)) + ec)) := by
  have c01 : s1 < fh → s0 < fh := fun q => by
    rw [Int64.lt_iff_toInt_lt] at m01 q ⊢; omega
  have c12 : s2 < fh → s1 < fh := fun q => by
    rw [Int64.lt_iff_toInt_lt] at m12 q ⊢; omega
  have k1 : (0 : Int64) < 1 := by decide
  have k2 : (0 : Int64) < 2 := by decide
  have k3 : (0 : Int64) < 3 := by decide
  have k0 : ¬ (0 : Int64) < 0 := by decide
  by_cases h2 : s2 < fh
  · have h1 := c12 h2
    have h0 := c01 h1
    simp only [own_stot, own_fr0, own_fc0, own_fr1, own_fc1, own_fr2, own_fc2, h0, h1, h2, k0, k1, k2, k3, if_true, if_false]
    try grind
  · skip
    have h1 : ¬ s1 < fh := by rw [← z0]; exact h2
    by_cases h0 : s0 < fh
    · skip
      simp only [own_stot, own_fr0, own_fc0, own_fr1, own_fc1, own_fr2, own_fc2, h0, h1, h2, k0, k1, k2, k3, if_true, if_false]
      try grind
    · skip
      simp only [own_stot, own_fr0, own_fc0, own_fr1, own_fc1, own_fr2, own_fc2, h0, h1, h2, k0, k1, k2, k3, if_true, if_false]
      try grind
theorem own_fin13 (s0 s1 s2 ea eb ec fh : Int64) (m01 : ¬ s1 < s0) (m12 : ¬ s2 < s1) (z0 : s2 = s1) : (own_stot ((0 : Int64) + (((0 : Int64) + ea) - (0 : Int64))) (2 : Int64) ((((0 : Int64) + ea) + eb) + ec) ((0 : Int64) + (((0 : Int64) + ea) - (0 : Int64)))) = ((((0 : Int64) + ea) + eb) + ec) := by
  have c01 : s1 < fh → s0 < fh := fun q => by
    rw [Int64.lt_iff_toInt_lt] at m01 q ⊢; omega
  have c12 : s2 < fh → s1 < fh := fun q => by
    rw [Int64.lt_iff_toInt_lt] at m12 q ⊢; omega
  have k1 : (0 : Int64) < 1 := by decide
  have k2 : (0 : Int64) < 2 := by decide
  have k3 : (0 : Int64) < 3 := by decide
  have k0 : ¬ (0 : Int64) < 0 := by decide
  by_cases h2 : s2 < fh
  · have h1 := c12 h2
    have h0 := c01 h1
    simp only [own_stot, own_fr0, own_fc0, own_fr1, own_fc1, own_fr2, own_fc2, h0, h1, h2, k0, k1, k2, k3, if_true, if_false]
    try grind
  · skip
    have h1 : ¬ s1 < fh := by rw [← z0]; exact h2
    by_cases h0 : s0 < fh
    · skip
      simp only [own_stot, own_fr0, own_fc0, own_fr1, own_fc1, own_fr2, own_fc2, h0, h1, h2, k0, k1, k2, k3, if_true, if_false]
      try grind
    · skip
      simp only [own_stot, own_fr0, own_fc0, own_fr1, own_fc1, own_fr2, own_fc2, h0, h1, h2, k0, k1, k2, k3, if_true, if_false]
      try grind
theorem own_fin14 (s0 s1 s2 ea eb ec fh : Int64) (m01 : ¬ s1 < s0) (m12 : ¬ s2 < s1) : (own_stot (own_fr2 (((0 : Int64) + (((0 : Int64) + ea) - (0 : Int64))) + ((((0 : Int64) + ea) + eb) - ((0 : Int64) + (((0 : Int64) + ea) - (0 : Int64))))) fh s2 s0 s1 (((0 : Int64) + ea) - (0 : Int64)) ((((0 : Int64) + ea) + eb) - ((0 : Int64) + (((0 : Int64) + ea) - (0 : Int64))))) (own_fc2 (((0 : Int64) + (((0 : Int64) + ea) - (0 : Int64))) + ((((0 : Int64) + ea) + eb) - ((0 : Int64) + (((0 : Int64) + ea) - (0 : Int64))))) fh s2 s0 s1 (((0 : Int64) + ea) - (0 : Int64)) ((((0 : Int64) + ea) + eb) - ((0 : Int64) + (((0 : Int64) + ea) - (0 : Int64))))) ((((0 : Int64) + ea) + eb) + ec) (((0 : Int64) + (((0 : Int64) + ea) - (0 : Int64))) + ((((0 : Int64) + ea) + eb) - ((0 : Int64) + (((0 : Int64) + ea) - (0 : Int64)))))) = (if s2 < fh then (if s1 < fh then (if s0 < fh then (0 : Int64) else ((0 : Int64) + ea)) else ((if s0 < fh then (0 : Int64) else ((0 : Int64) + ea)) + eb)) else ((if s1 < fh then (if s0 < fh then (0 : Int64) else ((0 : Int64) + ea)) else ((if s0 < fh then (0 : Int64) else ((0 : Int64) + ea)) + eb)) + ec)) := by
  have c01 : s1 < fh → s0 < fh := fun q => by
    rw [Int64.lt_iff_toInt_lt] at m01 q ⊢; omega
  have c12 : s2 < fh → s1 < fh := fun q => by
    rw [Int64.lt_iff_toInt_lt] at m12 q ⊢; omega
  have k1 : (0 : Int64) < 1 := by decide
  have k2 : (0 : Int64) < 2 := by decide
  have k3 : (0 : Int64) < 3 := by decide
  have k0 : ¬ (0 : Int64) < 0 := by decide
  by_cases h2 : s2 < fh
  · have h1 := c12 h2
    have h0 := c01 h1
    simp only [own_stot, own_fr0, own_fc0, own_fr1, own_fc1, own_fr2, own_fc2, h0, h1, h2, k0, k1, k2, k3, if_true, if_false]
    try grind
  · skip
    by_cases h1 : s1 < fh
    · have h0 := c01 h1
      simp only [own_stot, own_fr0, own_fc0, own_fr1, own_fc1, own_fr2, own_fc2, h0, h1, h2, k0, k1, k2, k3, if_true, if_false]
      try grind
    · skip
      by_cases h0 : s0 < fh
      · skip
        simp only [own_stot, own_fr0, own_fc0, own_fr1, own_fc1, own_fr2, own_fc2, h0, h1, h2, k0, k1, k2, k3, if_true, if_false]
        try grind
      · skip
        simp only [own_stot, own_fr0, own_fc0, own_fr1, own_fc1, own_fr2, own_fc2, h0, h1, h2, k0, k1, k2, k3, if_true, if_false]
        try grind
theorem own_fin15 (s0 s1 s2 ea eb ec fh : Int64) (m01 : ¬ s1 < s0) (m12 : ¬ s2 < s1) : (own_stot (((0 : Int64) + (((0 : Int64) + ea) - (0 : Int64))) + ((((0 : Int64) + ea) + eb) - ((0 : Int64) + (((0 : Int64) + ea) - (0 : Int64))))) (3 : Int64) ((((0 : Int64) + ea) + eb) + ec) (((0 : Int64) + (((0 : Int64) + ea) - (0 : Int64))) + ((((0 : Int64) + ea) + eb) - ((0 : Int64) + (((0 : Int64) + ea) - (0 : Int64)))))) = ((((0 : Int64) + ea) + eb) + ec) := by
  have c01 : s1 < fh → s0 < fh := fun q => by
    rw [Int64.lt_iff_toInt_lt] at m01 q ⊢; omega
  have c12 : s2 < fh → s1 < fh := fun q => by
    rw [Int64.lt_iff_toInt_lt] at m12 q ⊢; omega
  have k1 : (0 : Int64) < 1 := by decide
  have k2 : (0 : Int64) < 2 := by decide
  have k3 : (0 : Int64) < 3 := by decide
  have k0 : ¬ (0 : Int64) < 0 := by decide
  by_cases h2 : s2 < fh
  · have h1 := c12 h2
    have h0 := c01 h1
    simp only [own_stot, own_fr0, own_fc0, own_fr1, own_fc1, own_fr2, own_fc2, h0, h1, h2, k0, k1, k2, k3, if_true, if_false]
    try grind
  · skip
    by_cases h1 : s1 < fh
    · have h0 := c01 h1
      simp only [own_stot, own_fr0, own_fc0, own_fr1, own_fc1, own_fr2, own_fc2, h0, h1, h2, k0, k1, k2, k3, if_true, if_false]
      try grind
    · skip
      by_cases h0 : s0 < fh
      · skip
        simp only [own_stot, own_fr0, own_fc0, own_fr1, own_fc1, own_fr2, own_fc2, h0, h1, h2, k0, k1, k2, k3, if_true, if_false]
        try grind
      · skip
        simp only [own_stot, own_fr0, own_fc0, own_fr1, own_fc1, own_fr2, own_fc2, h0, h1, h2, k0, k1, k2, k3, if_true, if_false]
        try grind
theorem kw0 {Z : State} {a0 : Array Value} (hw : ∀ d ∈ tables_1, d.before a0 Z = true) : (Jvm.Cond.constantLong "com/example/okno/okno/AdmissionLogShorterTotalPinLaw" (9 : Nat) (3 : Int64)).before a0 Z = true := hw _ (List.mem_of_getElem? (i := 0) rfl)
theorem kw1 {Z : State} {a0 : Array Value} (hw : ∀ d ∈ tables_1, d.before a0 Z = true) : (Jvm.Cond.constantLong "com/example/okno/okno/AdmissionLogShorterTotalPinLaw" (11 : Nat) (7 : Int64)).before a0 Z = true := hw _ (List.mem_of_getElem? (i := 1) rfl)
theorem kw2 {Z : State} {a0 : Array Value} (hw : ∀ d ∈ tables_1, d.before a0 Z = true) : (Jvm.Cond.constantLong "com/example/okno/okno/AdmissionLogShorterTotalPinLaw" (13 : Nat) (15 : Int64)).before a0 Z = true := hw _ (List.mem_of_getElem? (i := 2) rfl)
theorem kw3 {Z : State} {a0 : Array Value} (hw : ∀ d ∈ tables_1, d.before a0 Z = true) : (Jvm.Cond.constantLong "com/example/okno/okno/AdmissionLogShorterTotalPinLaw" (17 : Nat) (9223372036854775743 : Int64)).before a0 Z = true := hw _ (List.mem_of_getElem? (i := 3) rfl)
theorem kw4 {Z : State} {a0 : Array Value} (hw : ∀ d ∈ tables_1, d.before a0 Z = true) : (Jvm.Cond.methodLink "com/example/okno/okno/AdmissionLogShorterTotalPinLaw" (19 : Nat) ({ cls := "java/lang/Math", name := "min", desc := "(JJ)J" } : Jvm.MethodName)).before a0 Z = true := hw _ (List.mem_of_getElem? (i := 4) rfl)
theorem kw5 {Z : State} {a0 : Array Value} (hw : ∀ d ∈ tables_1, d.before a0 Z = true) : (Jvm.Cond.static ({ cls := "java/lang/Math", name := "min", desc := "(JJ)J" } : Jvm.MethodName)).before a0 Z = true := hw _ (List.mem_of_getElem? (i := 5) rfl)
theorem kw6 {Z : State} {a0 : Array Value} (hw : ∀ d ∈ tables_1, d.before a0 Z = true) : (Jvm.Cond.initialized "java/lang/Math").before a0 Z = true := hw _ (List.mem_of_getElem? (i := 6) rfl)
theorem kw7 {Z : State} {a0 : Array Value} (hw : ∀ d ∈ tables_1, d.before a0 Z = true) : (Jvm.Cond.code ({ cls := "java/lang/Math", name := "min", desc := "(JJ)J" } : Jvm.MethodName) jdk_29_method_70_code (4 : Nat) (Option.some Jvm.ClassFile.FieldType.long)).before a0 Z = true := hw _ (List.mem_of_getElem? (i := 7) rfl)
theorem kw8 {Z : State} {a0 : Array Value} (hw : ∀ d ∈ tables_1, d.before a0 Z = true) : (Jvm.Cond.methodLink "com/example/okno/okno/AdmissionLogShorterTotalPinLaw" (25 : Nat) ({ cls := "com/example/okno/okno/AdmissionLogShorterTotalPinLaw", name := "amountOf", desc := "(I)J" } : Jvm.MethodName)).before a0 Z = true := hw _ (List.mem_of_getElem? (i := 8) rfl)
theorem kw9 {Z : State} {a0 : Array Value} (hw : ∀ d ∈ tables_1, d.before a0 Z = true) : (Jvm.Cond.static ({ cls := "com/example/okno/okno/AdmissionLogShorterTotalPinLaw", name := "amountOf", desc := "(I)J" } : Jvm.MethodName)).before a0 Z = true := hw _ (List.mem_of_getElem? (i := 9) rfl)
theorem kw10 {Z : State} {a0 : Array Value} (hw : ∀ d ∈ tables_1, d.before a0 Z = true) : (Jvm.Cond.initialized "com/example/okno/okno/AdmissionLogShorterTotalPinLaw").before a0 Z = true := hw _ (List.mem_of_getElem? (i := 10) rfl)
theorem kw11 {Z : State} {a0 : Array Value} (hw : ∀ d ∈ tables_1, d.before a0 Z = true) : (Jvm.Cond.code ({ cls := "com/example/okno/okno/AdmissionLogShorterTotalPinLaw", name := "amountOf", desc := "(I)J" } : Jvm.MethodName) method_3_code (1 : Nat) (Option.some Jvm.ClassFile.FieldType.long)).before a0 Z = true := hw _ (List.mem_of_getElem? (i := 11) rfl)
theorem kw12 {Z : State} {a0 : Array Value} (hw : ∀ d ∈ tables_1, d.before a0 Z = true) : (Jvm.Cond.constantLong "com/example/okno/okno/AdmissionLogShorterTotalPinLaw" (7 : Nat) (2147483647 : Int64)).before a0 Z = true := hw _ (List.mem_of_getElem? (i := 12) rfl)
theorem kw13 {Z : State} {a0 : Array Value} (hw : ∀ d ∈ tables_1, d.before a0 Z = true) : (Jvm.Cond.methodLink "com/example/okno/okno/AdmissionLogShorterTotalPinLaw" (31 : Nat) ({ cls := "com/example/okno/okno/AdmissionLogShorterTotalPinLaw", name := "floorDivPositive", desc := "(JJ)J" } : Jvm.MethodName)).before a0 Z = true := hw _ (List.mem_of_getElem? (i := 13) rfl)
theorem kw14 {Z : State} {a0 : Array Value} (hw : ∀ d ∈ tables_1, d.before a0 Z = true) : (Jvm.Cond.static ({ cls := "com/example/okno/okno/AdmissionLogShorterTotalPinLaw", name := "floorDivPositive", desc := "(JJ)J" } : Jvm.MethodName)).before a0 Z = true := hw _ (List.mem_of_getElem? (i := 14) rfl)
theorem kw15 {Z : State} {a0 : Array Value} (hw : ∀ d ∈ tables_1, d.before a0 Z = true) : (Jvm.Cond.code ({ cls := "com/example/okno/okno/AdmissionLogShorterTotalPinLaw", name := "floorDivPositive", desc := "(JJ)J" } : Jvm.MethodName) method_2_code (6 : Nat) (Option.some Jvm.ClassFile.FieldType.long)).before a0 Z = true := hw _ (List.mem_of_getElem? (i := 15) rfl)
theorem kw16 {Z : State} {a0 : Array Value} (hw : ∀ d ∈ tables_1, d.before a0 Z = true) : (Jvm.Cond.classLink "com/example/okno/okno/AdmissionLogShorterTotalPinLaw" (34 : Nat) "com/example/okno/okno/AdmissionLog").before a0 Z = true := hw _ (List.mem_of_getElem? (i := 16) rfl)
theorem kw17 {Z : State} {a0 : Array Value} (hw : ∀ d ∈ tables_1, d.before a0 Z = true) : (Jvm.Cond.instantiable "com/example/okno/okno/AdmissionLog" (18 : Nat)).before a0 Z = true := hw _ (List.mem_of_getElem? (i := 17) rfl)
theorem kw18 {Z : State} {a0 : Array Value} (hw : ∀ d ∈ tables_1, d.before a0 Z = true) : (Jvm.Cond.initialized "com/example/okno/okno/AdmissionLog").before a0 Z = true := hw _ (List.mem_of_getElem? (i := 18) rfl)
theorem kw19 {Z : State} {a0 : Array Value} (hw : ∀ d ∈ tables_1, d.before a0 Z = true) : (Jvm.Cond.methodLink "com/example/okno/okno/AdmissionLogShorterTotalPinLaw" (36 : Nat) ({ cls := "com/example/okno/okno/AdmissionLog", name := "<init>", desc := "(JI)V" } : Jvm.MethodName)).before a0 Z = true := hw _ (List.mem_of_getElem? (i := 19) rfl)
theorem kw20 {Z : State} {a0 : Array Value} (hw : ∀ d ∈ tables_1, d.before a0 Z = true) : (Jvm.Cond.instanceMethod ({ cls := "com/example/okno/okno/AdmissionLog", name := "<init>", desc := "(JI)V" } : Jvm.MethodName)).before a0 Z = true := hw _ (List.mem_of_getElem? (i := 20) rfl)
theorem kw21 {Z : State} {a0 : Array Value} (hw : ∀ d ∈ tables_1, d.before a0 Z = true) : (Jvm.Cond.code ({ cls := "com/example/okno/okno/AdmissionLog", name := "<init>", desc := "(JI)V" } : Jvm.MethodName) prog_2_method_1_code (4 : Nat) (Option.none : Option Jvm.ClassFile.FieldType)).before a0 Z = true := hw _ (List.mem_of_getElem? (i := 21) rfl)
theorem kw22 {Z : State} {a0 : Array Value} (hw : ∀ d ∈ tables_1, d.before a0 Z = true) : (Jvm.Cond.methodLink "com/example/okno/okno/AdmissionLog" (1 : Nat) ({ cls := "com/example/okno/okno/KeyTurn", name := "<init>", desc := "()V" } : Jvm.MethodName)).before a0 Z = true := hw _ (List.mem_of_getElem? (i := 22) rfl)
theorem kw23 {Z : State} {a0 : Array Value} (hw : ∀ d ∈ tables_1, d.before a0 Z = true) : (Jvm.Cond.instanceMethod ({ cls := "com/example/okno/okno/KeyTurn", name := "<init>", desc := "()V" } : Jvm.MethodName)).before a0 Z = true := hw _ (List.mem_of_getElem? (i := 23) rfl)
theorem kw25 {Z : State} {a0 : Array Value} (hw : ∀ d ∈ tables_1, d.before a0 Z = true) : (Jvm.Cond.initialized "com/example/okno/okno/KeyTurn").before a0 Z = true := hw _ (List.mem_of_getElem? (i := 25) rfl)
theorem kw26 {Z : State} {a0 : Array Value} (hw : ∀ d ∈ tables_1, d.before a0 Z = true) : (Jvm.Cond.code ({ cls := "com/example/okno/okno/KeyTurn", name := "<init>", desc := "()V" } : Jvm.MethodName) prog_8_method_1_code (1 : Nat) (Option.none : Option Jvm.ClassFile.FieldType)).before a0 Z = true := hw _ (List.mem_of_getElem? (i := 26) rfl)
theorem kw27 {Z : State} {a0 : Array Value} (hw : ∀ d ∈ tables_1, d.before a0 Z = true) : (Jvm.Cond.methodLink "com/example/okno/okno/KeyTurn" (1 : Nat) ({ cls := "java/lang/Object", name := "<init>", desc := "()V" } : Jvm.MethodName)).before a0 Z = true := hw _ (List.mem_of_getElem? (i := 27) rfl)
theorem kw28 {Z : State} {a0 : Array Value} (hw : ∀ d ∈ tables_1, d.before a0 Z = true) : (Jvm.Cond.instanceMethod ({ cls := "java/lang/Object", name := "<init>", desc := "()V" } : Jvm.MethodName)).before a0 Z = true := hw _ (List.mem_of_getElem? (i := 28) rfl)
theorem kw29 {Z : State} {a0 : Array Value} (hw : ∀ d ∈ tables_1, d.before a0 Z = true) : (Jvm.Cond.code ({ cls := "java/lang/Object", name := "<init>", desc := "()V" } : Jvm.MethodName) object_method_1_code (1 : Nat) (Option.none : Option Jvm.ClassFile.FieldType)).before a0 Z = true := hw _ (List.mem_of_getElem? (i := 29) rfl)
theorem kw30 {Z : State} {a0 : Array Value} (hw : ∀ d ∈ tables_1, d.before a0 Z = true) : (Jvm.Cond.constantLong "com/example/okno/okno/AdmissionLog" (9 : Nat) (-9223372036854775808 : Int64)).before a0 Z = true := hw _ (List.mem_of_getElem? (i := 30) rfl)
theorem kw31 {Z : State} {a0 : Array Value} (hw : ∀ d ∈ tables_1, d.before a0 Z = true) : (Jvm.Cond.fieldLink "com/example/okno/okno/AdmissionLog" (11 : Nat) "com/example/okno/okno/AdmissionLog" "newest" "J").before a0 Z = true := hw _ (List.mem_of_getElem? (i := 31) rfl)
theorem kw32 {Z : State} {a0 : Array Value} (hw : ∀ d ∈ tables_1, d.before a0 Z = true) : (Jvm.Cond.lays "com/example/okno/okno/AdmissionLog" "com/example/okno/okno/AdmissionLog" "newest" "J").before a0 Z = true := hw _ (List.mem_of_getElem? (i := 32) rfl)
theorem kw33 {Z : State} {a0 : Array Value} (hw : ∀ d ∈ tables_1, d.before a0 Z = true) : (Jvm.Cond.fieldLink "com/example/okno/okno/AdmissionLog" (17 : Nat) "com/example/okno/okno/AdmissionLog" "NO_ENTRIES" "[J").before a0 Z = true := hw _ (List.mem_of_getElem? (i := 33) rfl)
theorem kw34 {Z : State} {a0 : Array Value} (hw : ∀ d ∈ tables_1, d.before a0 Z = true) : (Jvm.Cond.laysStatic "com/example/okno/okno/AdmissionLog" "NO_ENTRIES" "[J").before a0 Z = true := hw _ (List.mem_of_getElem? (i := 34) rfl)
theorem kw35 {Z : State} {a0 : Array Value} (hw : ∀ d ∈ tables_1, d.before a0 Z = true) : (Jvm.Cond.fieldLink "com/example/okno/okno/AdmissionLog" (21 : Nat) "com/example/okno/okno/AdmissionLog" "subWindows" "[J").before a0 Z = true := hw _ (List.mem_of_getElem? (i := 35) rfl)
theorem kw36 {Z : State} {a0 : Array Value} (hw : ∀ d ∈ tables_1, d.before a0 Z = true) : (Jvm.Cond.lays "com/example/okno/okno/AdmissionLog" "com/example/okno/okno/AdmissionLog" "subWindows" "[J").before a0 Z = true := hw _ (List.mem_of_getElem? (i := 36) rfl)
theorem kw37 {Z : State} {a0 : Array Value} (hw : ∀ d ∈ tables_1, d.before a0 Z = true) : (Jvm.Cond.fieldLink "com/example/okno/okno/AdmissionLog" (24 : Nat) "com/example/okno/okno/AdmissionLog" "amounts" "[J").before a0 Z = true := hw _ (List.mem_of_getElem? (i := 37) rfl)
theorem kw38 {Z : State} {a0 : Array Value} (hw : ∀ d ∈ tables_1, d.before a0 Z = true) : (Jvm.Cond.lays "com/example/okno/okno/AdmissionLog" "com/example/okno/okno/AdmissionLog" "amounts" "[J").before a0 Z = true := hw _ (List.mem_of_getElem? (i := 38) rfl)
theorem kw39 {Z : State} {a0 : Array Value} (hw : ∀ d ∈ tables_1, d.before a0 Z = true) : (Jvm.Cond.constantLong "com/example/okno/okno/AdmissionLog" (27 : Nat) (9223372036854775807 : Int64)).before a0 Z = true := hw _ (List.mem_of_getElem? (i := 39) rfl)
theorem kw40 {Z : State} {a0 : Array Value} (hw : ∀ d ∈ tables_1, d.before a0 Z = true) : (Jvm.Cond.fieldLink "com/example/okno/okno/AdmissionLog" (29 : Nat) "com/example/okno/okno/AdmissionLog" "oldestSubWindow" "J").before a0 Z = true := hw _ (List.mem_of_getElem? (i := 40) rfl)
theorem kw41 {Z : State} {a0 : Array Value} (hw : ∀ d ∈ tables_1, d.before a0 Z = true) : (Jvm.Cond.lays "com/example/okno/okno/AdmissionLog" "com/example/okno/okno/AdmissionLog" "oldestSubWindow" "J").before a0 Z = true := hw _ (List.mem_of_getElem? (i := 41) rfl)
theorem kw42 {Z : State} {a0 : Array Value} (hw : ∀ d ∈ tables_1, d.before a0 Z = true) : (Jvm.Cond.fieldLink "com/example/okno/okno/AdmissionLog" (32 : Nat) "com/example/okno/okno/AdmissionLog" "lastTime" "J").before a0 Z = true := hw _ (List.mem_of_getElem? (i := 42) rfl)
theorem kw43 {Z : State} {a0 : Array Value} (hw : ∀ d ∈ tables_1, d.before a0 Z = true) : (Jvm.Cond.lays "com/example/okno/okno/AdmissionLog" "com/example/okno/okno/AdmissionLog" "lastTime" "J").before a0 Z = true := hw _ (List.mem_of_getElem? (i := 43) rfl)
theorem kw44 {Z : State} {a0 : Array Value} (hw : ∀ d ∈ tables_1, d.before a0 Z = true) : (Jvm.Cond.fieldLink "com/example/okno/okno/AdmissionLog" (35 : Nat) "com/example/okno/okno/AdmissionLog" "subWindowMillis" "J").before a0 Z = true := hw _ (List.mem_of_getElem? (i := 44) rfl)
theorem kw45 {Z : State} {a0 : Array Value} (hw : ∀ d ∈ tables_1, d.before a0 Z = true) : (Jvm.Cond.laysFinal "com/example/okno/okno/AdmissionLog" "com/example/okno/okno/AdmissionLog" "subWindowMillis" "J").before a0 Z = true := hw _ (List.mem_of_getElem? (i := 45) rfl)
theorem kw46 {Z : State} {a0 : Array Value} (hw : ∀ d ∈ tables_1, d.before a0 Z = true) : (Jvm.Cond.methodLink "com/example/okno/okno/AdmissionLog" (38 : Nat) ({ cls := "java/lang/Math", name := "floorDiv", desc := "(JJ)J" } : Jvm.MethodName)).before a0 Z = true := hw _ (List.mem_of_getElem? (i := 46) rfl)
theorem kw47 {Z : State} {a0 : Array Value} (hw : ∀ d ∈ tables_1, d.before a0 Z = true) : (Jvm.Cond.static ({ cls := "java/lang/Math", name := "floorDiv", desc := "(JJ)J" } : Jvm.MethodName)).before a0 Z = true := hw _ (List.mem_of_getElem? (i := 47) rfl)
theorem kw48 {Z : State} {a0 : Array Value} (hw : ∀ d ∈ tables_1, d.before a0 Z = true) : (Jvm.Cond.code ({ cls := "java/lang/Math", name := "floorDiv", desc := "(JJ)J" } : Jvm.MethodName) jdk_29_method_49_code (6 : Nat) (Option.some Jvm.ClassFile.FieldType.long)).before a0 Z = true := hw _ (List.mem_of_getElem? (i := 48) rfl)
theorem kw49 {Z : State} {a0 : Array Value} (hw : ∀ d ∈ tables_1, d.before a0 Z = true) : (Jvm.Cond.fieldLink "com/example/okno/okno/AdmissionLog" (44 : Nat) "com/example/okno/okno/AdmissionLog" "lastSubWindow" "J").before a0 Z = true := hw _ (List.mem_of_getElem? (i := 49) rfl)
theorem kw50 {Z : State} {a0 : Array Value} (hw : ∀ d ∈ tables_1, d.before a0 Z = true) : (Jvm.Cond.lays "com/example/okno/okno/AdmissionLog" "com/example/okno/okno/AdmissionLog" "lastSubWindow" "J").before a0 Z = true := hw _ (List.mem_of_getElem? (i := 50) rfl)
theorem kw51 {Z : State} {a0 : Array Value} (hw : ∀ d ∈ tables_1, d.before a0 Z = true) : (Jvm.Cond.arrayClass Jvm.ClassFile.FieldType.long).before a0 Z = true := hw _ (List.mem_of_getElem? (i := 51) rfl)
theorem kw52 {Z : State} {a0 : Array Value} (hw : ∀ d ∈ tables_1, d.before a0 Z = true) : (Jvm.Cond.fieldLink "com/example/okno/okno/AdmissionLog" (47 : Nat) "com/example/okno/okno/AdmissionLog" "shorterWindows" "[J").before a0 Z = true := hw _ (List.mem_of_getElem? (i := 52) rfl)
theorem kw53 {Z : State} {a0 : Array Value} (hw : ∀ d ∈ tables_1, d.before a0 Z = true) : (Jvm.Cond.laysFinal "com/example/okno/okno/AdmissionLog" "com/example/okno/okno/AdmissionLog" "shorterWindows" "[J").before a0 Z = true := hw _ (List.mem_of_getElem? (i := 53) rfl)
theorem kw54 {Z : State} {a0 : Array Value} (hw : ∀ d ∈ tables_1, d.before a0 Z = true) : (Jvm.Cond.methodLink "com/example/okno/okno/AdmissionLogShorterTotalPinLaw" (43 : Nat) ({ cls := "com/example/okno/okno/AdmissionLog", name := "fitShorterWindow", desc := "(IJ)V" } : Jvm.MethodName)).before a0 Z = true := hw _ (List.mem_of_getElem? (i := 54) rfl)
theorem kw55 {Z : State} {a0 : Array Value} (hw : ∀ d ∈ tables_1, d.before a0 Z = true) : (Jvm.Cond.declares ({ cls := "com/example/okno/okno/AdmissionLog", name := "fitShorterWindow", desc := "(IJ)V" } : Jvm.MethodName)).before a0 Z = true := hw _ (List.mem_of_getElem? (i := 55) rfl)
theorem kw56 {Z : State} {a0 : Array Value} (hw : ∀ d ∈ tables_1, d.before a0 Z = true) : (Jvm.Cond.instanceMethod ({ cls := "com/example/okno/okno/AdmissionLog", name := "fitShorterWindow", desc := "(IJ)V" } : Jvm.MethodName)).before a0 Z = true := hw _ (List.mem_of_getElem? (i := 56) rfl)
theorem kw57 {Z : State} {a0 : Array Value} (hw : ∀ d ∈ tables_1, d.before a0 Z = true) : (Jvm.Cond.selects "com/example/okno/okno/AdmissionLog" ({ cls := "com/example/okno/okno/AdmissionLog", name := "fitShorterWindow", desc := "(IJ)V" } : Jvm.MethodName) ({ cls := "com/example/okno/okno/AdmissionLog", name := "fitShorterWindow", desc := "(IJ)V" } : Jvm.MethodName)).before a0 Z = true := hw _ (List.mem_of_getElem? (i := 57) rfl)
theorem kw58 {Z : State} {a0 : Array Value} (hw : ∀ d ∈ tables_1, d.before a0 Z = true) : (Jvm.Cond.code ({ cls := "com/example/okno/okno/AdmissionLog", name := "fitShorterWindow", desc := "(IJ)V" } : Jvm.MethodName) prog_2_method_18_code (8 : Nat) (Option.none : Option Jvm.ClassFile.FieldType)).before a0 Z = true := hw _ (List.mem_of_getElem? (i := 58) rfl)
theorem kw59 {Z : State} {a0 : Array Value} (hw : ∀ d ∈ tables_1, d.before a0 Z = true) : (Jvm.Cond.methodLink "com/example/okno/okno/AdmissionLog" (104 : Nat) ({ cls := "com/example/okno/okno/AdmissionLog", name := "entryCount", desc := "()I" } : Jvm.MethodName)).before a0 Z = true := hw _ (List.mem_of_getElem? (i := 59) rfl)
theorem kw60 {Z : State} {a0 : Array Value} (hw : ∀ d ∈ tables_1, d.before a0 Z = true) : (Jvm.Cond.instanceMethod ({ cls := "com/example/okno/okno/AdmissionLog", name := "entryCount", desc := "()I" } : Jvm.MethodName)).before a0 Z = true := hw _ (List.mem_of_getElem? (i := 60) rfl)
theorem kw61 {Z : State} {a0 : Array Value} (hw : ∀ d ∈ tables_1, d.before a0 Z = true) : (Jvm.Cond.privateMethod ({ cls := "com/example/okno/okno/AdmissionLog", name := "entryCount", desc := "()I" } : Jvm.MethodName)).before a0 Z = true := hw _ (List.mem_of_getElem? (i := 61) rfl)
theorem kw62 {Z : State} {a0 : Array Value} (hw : ∀ d ∈ tables_1, d.before a0 Z = true) : (Jvm.Cond.code ({ cls := "com/example/okno/okno/AdmissionLog", name := "entryCount", desc := "()I" } : Jvm.MethodName) prog_2_method_20_code (1 : Nat) (Option.some Jvm.ClassFile.FieldType.int)).before a0 Z = true := hw _ (List.mem_of_getElem? (i := 62) rfl)
theorem kw63 {Z : State} {a0 : Array Value} (hw : ∀ d ∈ tables_1, d.before a0 Z = true) : (Jvm.Cond.methodLink "com/example/okno/okno/AdmissionLog" (72 : Nat) ({ cls := "com/example/okno/okno/AdmissionLog", name := "isEmpty", desc := "()Z" } : Jvm.MethodName)).before a0 Z = true := hw _ (List.mem_of_getElem? (i := 63) rfl)
theorem kw64 {Z : State} {a0 : Array Value} (hw : ∀ d ∈ tables_1, d.before a0 Z = true) : (Jvm.Cond.declares ({ cls := "com/example/okno/okno/AdmissionLog", name := "isEmpty", desc := "()Z" } : Jvm.MethodName)).before a0 Z = true := hw _ (List.mem_of_getElem? (i := 64) rfl)
theorem kw65 {Z : State} {a0 : Array Value} (hw : ∀ d ∈ tables_1, d.before a0 Z = true) : (Jvm.Cond.instanceMethod ({ cls := "com/example/okno/okno/AdmissionLog", name := "isEmpty", desc := "()Z" } : Jvm.MethodName)).before a0 Z = true := hw _ (List.mem_of_getElem? (i := 65) rfl)
theorem kw66 {Z : State} {a0 : Array Value} (hw : ∀ d ∈ tables_1, d.before a0 Z = true) : (Jvm.Cond.selects "com/example/okno/okno/AdmissionLog" ({ cls := "com/example/okno/okno/AdmissionLog", name := "isEmpty", desc := "()Z" } : Jvm.MethodName) ({ cls := "com/example/okno/okno/AdmissionLog", name := "isEmpty", desc := "()Z" } : Jvm.MethodName)).before a0 Z = true := hw _ (List.mem_of_getElem? (i := 66) rfl)
theorem kw67 {Z : State} {a0 : Array Value} (hw : ∀ d ∈ tables_1, d.before a0 Z = true) : (Jvm.Cond.code ({ cls := "com/example/okno/okno/AdmissionLog", name := "isEmpty", desc := "()Z" } : Jvm.MethodName) prog_2_method_3_code (1 : Nat) (Option.some Jvm.ClassFile.FieldType.boolean)).before a0 Z = true := hw _ (List.mem_of_getElem? (i := 67) rfl)
theorem kw68 {Z : State} {a0 : Array Value} (hw : ∀ d ∈ tables_1, d.before a0 Z = true) : (Jvm.Cond.fieldLink "com/example/okno/okno/AdmissionLog" (50 : Nat) "com/example/okno/okno/AdmissionLog" "total" "J").before a0 Z = true := hw _ (List.mem_of_getElem? (i := 68) rfl)
theorem kw69 {Z : State} {a0 : Array Value} (hw : ∀ d ∈ tables_1, d.before a0 Z = true) : (Jvm.Cond.lays "com/example/okno/okno/AdmissionLog" "com/example/okno/okno/AdmissionLog" "total" "J").before a0 Z = true := hw _ (List.mem_of_getElem? (i := 69) rfl)
theorem kw70 {Z : State} {a0 : Array Value} (hw : ∀ d ∈ tables_1, d.before a0 Z = true) : (Jvm.Cond.methodLink "com/example/okno/okno/AdmissionLogShorterTotalPinLaw" (47 : Nat) ({ cls := "com/example/okno/okno/AdmissionLog", name := "shorterTotal", desc := "(I)J" } : Jvm.MethodName)).before a0 Z = true := hw _ (List.mem_of_getElem? (i := 70) rfl)
theorem kw71 {Z : State} {a0 : Array Value} (hw : ∀ d ∈ tables_1, d.before a0 Z = true) : (Jvm.Cond.declares ({ cls := "com/example/okno/okno/AdmissionLog", name := "shorterTotal", desc := "(I)J" } : Jvm.MethodName)).before a0 Z = true := hw _ (List.mem_of_getElem? (i := 71) rfl)
theorem kw72 {Z : State} {a0 : Array Value} (hw : ∀ d ∈ tables_1, d.before a0 Z = true) : (Jvm.Cond.instanceMethod ({ cls := "com/example/okno/okno/AdmissionLog", name := "shorterTotal", desc := "(I)J" } : Jvm.MethodName)).before a0 Z = true := hw _ (List.mem_of_getElem? (i := 72) rfl)
theorem kw73 {Z : State} {a0 : Array Value} (hw : ∀ d ∈ tables_1, d.before a0 Z = true) : (Jvm.Cond.selects "com/example/okno/okno/AdmissionLog" ({ cls := "com/example/okno/okno/AdmissionLog", name := "shorterTotal", desc := "(I)J" } : Jvm.MethodName) ({ cls := "com/example/okno/okno/AdmissionLog", name := "shorterTotal", desc := "(I)J" } : Jvm.MethodName)).before a0 Z = true := hw _ (List.mem_of_getElem? (i := 73) rfl)
theorem kw74 {Z : State} {a0 : Array Value} (hw : ∀ d ∈ tables_1, d.before a0 Z = true) : (Jvm.Cond.code ({ cls := "com/example/okno/okno/AdmissionLog", name := "shorterTotal", desc := "(I)J" } : Jvm.MethodName) prog_2_method_16_code (4 : Nat) (Option.some Jvm.ClassFile.FieldType.long)).before a0 Z = true := hw _ (List.mem_of_getElem? (i := 74) rfl)
theorem kw75 {Z : State} {a0 : Array Value} (hw : ∀ d ∈ tables_1, d.before a0 Z = true) : (Jvm.Cond.methodLink "com/example/okno/okno/AdmissionLogShorterTotalPinLaw" (39 : Nat) ({ cls := "com/example/okno/okno/AdmissionLog", name := "append", desc := "(JJ)V" } : Jvm.MethodName)).before a0 Z = true := hw _ (List.mem_of_getElem? (i := 75) rfl)
theorem kw76 {Z : State} {a0 : Array Value} (hw : ∀ d ∈ tables_1, d.before a0 Z = true) : (Jvm.Cond.declares ({ cls := "com/example/okno/okno/AdmissionLog", name := "append", desc := "(JJ)V" } : Jvm.MethodName)).before a0 Z = true := hw _ (List.mem_of_getElem? (i := 76) rfl)
theorem kw77 {Z : State} {a0 : Array Value} (hw : ∀ d ∈ tables_1, d.before a0 Z = true) : (Jvm.Cond.instanceMethod ({ cls := "com/example/okno/okno/AdmissionLog", name := "append", desc := "(JJ)V" } : Jvm.MethodName)).before a0 Z = true := hw _ (List.mem_of_getElem? (i := 77) rfl)
theorem kw78 {Z : State} {a0 : Array Value} (hw : ∀ d ∈ tables_1, d.before a0 Z = true) : (Jvm.Cond.selects "com/example/okno/okno/AdmissionLog" ({ cls := "com/example/okno/okno/AdmissionLog", name := "append", desc := "(JJ)V" } : Jvm.MethodName) ({ cls := "com/example/okno/okno/AdmissionLog", name := "append", desc := "(JJ)V" } : Jvm.MethodName)).before a0 Z = true := hw _ (List.mem_of_getElem? (i := 78) rfl)
theorem kw79 {Z : State} {a0 : Array Value} (hw : ∀ d ∈ tables_1, d.before a0 Z = true) : (Jvm.Cond.code ({ cls := "com/example/okno/okno/AdmissionLog", name := "append", desc := "(JJ)V" } : Jvm.MethodName) prog_2_method_12_code (11 : Nat) (Option.none : Option Jvm.ClassFile.FieldType)).before a0 Z = true := hw _ (List.mem_of_getElem? (i := 79) rfl)
theorem kw80 {Z : State} {a0 : Array Value} (hw : ∀ d ∈ tables_1, d.before a0 Z = true) : (Jvm.Cond.methodLink "com/example/okno/okno/AdmissionLog" (65 : Nat) ({ cls := "java/lang/Math", name := "addExact", desc := "(JJ)J" } : Jvm.MethodName)).before a0 Z = true := hw _ (List.mem_of_getElem? (i := 80) rfl)
theorem kw81 {Z : State} {a0 : Array Value} (hw : ∀ d ∈ tables_1, d.before a0 Z = true) : (Jvm.Cond.static ({ cls := "java/lang/Math", name := "addExact", desc := "(JJ)J" } : Jvm.MethodName)).before a0 Z = true := hw _ (List.mem_of_getElem? (i := 81) rfl)
theorem kw82 {Z : State} {a0 : Array Value} (hw : ∀ d ∈ tables_1, d.before a0 Z = true) : (Jvm.Cond.code ({ cls := "java/lang/Math", name := "addExact", desc := "(JJ)J" } : Jvm.MethodName) jdk_29_method_25_code (6 : Nat) (Option.some Jvm.ClassFile.FieldType.long)).before a0 Z = true := hw _ (List.mem_of_getElem? (i := 82) rfl)
theorem kw83 {Z : State} {a0 : Array Value} (hw : ∀ d ∈ tables_1, d.before a0 Z = true) : (Jvm.Cond.methodLink "com/example/okno/okno/AdmissionLog" (68 : Nat) ({ cls := "com/example/okno/okno/AdmissionLog", name := "subWindowOf", desc := "(J)J" } : Jvm.MethodName)).before a0 Z = true := hw _ (List.mem_of_getElem? (i := 83) rfl)
theorem kw84 {Z : State} {a0 : Array Value} (hw : ∀ d ∈ tables_1, d.before a0 Z = true) : (Jvm.Cond.declares ({ cls := "com/example/okno/okno/AdmissionLog", name := "subWindowOf", desc := "(J)J" } : Jvm.MethodName)).before a0 Z = true := hw _ (List.mem_of_getElem? (i := 84) rfl)
theorem kw85 {Z : State} {a0 : Array Value} (hw : ∀ d ∈ tables_1, d.before a0 Z = true) : (Jvm.Cond.instanceMethod ({ cls := "com/example/okno/okno/AdmissionLog", name := "subWindowOf", desc := "(J)J" } : Jvm.MethodName)).before a0 Z = true := hw _ (List.mem_of_getElem? (i := 85) rfl)
theorem kw86 {Z : State} {a0 : Array Value} (hw : ∀ d ∈ tables_1, d.before a0 Z = true) : (Jvm.Cond.selects "com/example/okno/okno/AdmissionLog" ({ cls := "com/example/okno/okno/AdmissionLog", name := "subWindowOf", desc := "(J)J" } : Jvm.MethodName) ({ cls := "com/example/okno/okno/AdmissionLog", name := "subWindowOf", desc := "(J)J" } : Jvm.MethodName)).before a0 Z = true := hw _ (List.mem_of_getElem? (i := 86) rfl)
theorem kw87 {Z : State} {a0 : Array Value} (hw : ∀ d ∈ tables_1, d.before a0 Z = true) : (Jvm.Cond.code ({ cls := "com/example/okno/okno/AdmissionLog", name := "subWindowOf", desc := "(J)J" } : Jvm.MethodName) prog_2_method_11_code (3 : Nat) (Option.some Jvm.ClassFile.FieldType.long)).before a0 Z = true := hw _ (List.mem_of_getElem? (i := 87) rfl)
theorem kw88 {Z : State} {a0 : Array Value} (hw : ∀ d ∈ tables_1, d.before a0 Z = true) : (Jvm.Cond.methodLink "com/example/okno/okno/AdmissionLog" (76 : Nat) ({ cls := "com/example/okno/okno/AdmissionLog", name := "startNewestEntry", desc := "(JJ)V" } : Jvm.MethodName)).before a0 Z = true := hw _ (List.mem_of_getElem? (i := 88) rfl)
theorem kw89 {Z : State} {a0 : Array Value} (hw : ∀ d ∈ tables_1, d.before a0 Z = true) : (Jvm.Cond.instanceMethod ({ cls := "com/example/okno/okno/AdmissionLog", name := "startNewestEntry", desc := "(JJ)V" } : Jvm.MethodName)).before a0 Z = true := hw _ (List.mem_of_getElem? (i := 89) rfl)
theorem kw90 {Z : State} {a0 : Array Value} (hw : ∀ d ∈ tables_1, d.before a0 Z = true) : (Jvm.Cond.privateMethod ({ cls := "com/example/okno/okno/AdmissionLog", name := "startNewestEntry", desc := "(JJ)V" } : Jvm.MethodName)).before a0 Z = true := hw _ (List.mem_of_getElem? (i := 90) rfl)
theorem kw91 {Z : State} {a0 : Array Value} (hw : ∀ d ∈ tables_1, d.before a0 Z = true) : (Jvm.Cond.code ({ cls := "com/example/okno/okno/AdmissionLog", name := "startNewestEntry", desc := "(JJ)V" } : Jvm.MethodName) prog_2_method_23_code (7 : Nat) (Option.none : Option Jvm.ClassFile.FieldType)).before a0 Z = true := hw _ (List.mem_of_getElem? (i := 91) rfl)
theorem kw92 {Z : State} {a0 : Array Value} (hw : ∀ d ∈ tables_1, d.before a0 Z = true) : (Jvm.Cond.fieldLink "com/example/okno/okno/AdmissionLog" (84 : Nat) "com/example/okno/okno/AdmissionLog" "newestSubWindow" "J").before a0 Z = true := hw _ (List.mem_of_getElem? (i := 92) rfl)
theorem kw93 {Z : State} {a0 : Array Value} (hw : ∀ d ∈ tables_1, d.before a0 Z = true) : (Jvm.Cond.lays "com/example/okno/okno/AdmissionLog" "com/example/okno/okno/AdmissionLog" "newestSubWindow" "J").before a0 Z = true := hw _ (List.mem_of_getElem? (i := 93) rfl)
theorem kw94 {Z : State} {a0 : Array Value} (hw : ∀ d ∈ tables_1, d.before a0 Z = true) : (Jvm.Cond.fieldLink "com/example/okno/okno/AdmissionLog" (53 : Nat) "com/example/okno/okno/AdmissionLog" "newestSubWindowEnd" "J").before a0 Z = true := hw _ (List.mem_of_getElem? (i := 94) rfl)
theorem kw95 {Z : State} {a0 : Array Value} (hw : ∀ d ∈ tables_1, d.before a0 Z = true) : (Jvm.Cond.lays "com/example/okno/okno/AdmissionLog" "com/example/okno/okno/AdmissionLog" "newestSubWindowEnd" "J").before a0 Z = true := hw _ (List.mem_of_getElem? (i := 95) rfl)
theorem kw96 {Z : State} {a0 : Array Value} (hw : ∀ d ∈ tables_1, d.before a0 Z = true) : (Jvm.Cond.methodLink "com/example/okno/okno/AdmissionLog" (80 : Nat) ({ cls := "com/example/okno/okno/AdmissionLog", name := "countNewEntryInShorterWindows", desc := "(J)V" } : Jvm.MethodName)).before a0 Z = true := hw _ (List.mem_of_getElem? (i := 96) rfl)
theorem kw97 {Z : State} {a0 : Array Value} (hw : ∀ d ∈ tables_1, d.before a0 Z = true) : (Jvm.Cond.instanceMethod ({ cls := "com/example/okno/okno/AdmissionLog", name := "countNewEntryInShorterWindows", desc := "(J)V" } : Jvm.MethodName)).before a0 Z = true := hw _ (List.mem_of_getElem? (i := 97) rfl)
theorem kw98 {Z : State} {a0 : Array Value} (hw : ∀ d ∈ tables_1, d.before a0 Z = true) : (Jvm.Cond.privateMethod ({ cls := "com/example/okno/okno/AdmissionLog", name := "countNewEntryInShorterWindows", desc := "(J)V" } : Jvm.MethodName)).before a0 Z = true := hw _ (List.mem_of_getElem? (i := 98) rfl)
theorem kw99 {Z : State} {a0 : Array Value} (hw : ∀ d ∈ tables_1, d.before a0 Z = true) : (Jvm.Cond.code ({ cls := "com/example/okno/okno/AdmissionLog", name := "countNewEntryInShorterWindows", desc := "(J)V" } : Jvm.MethodName) prog_2_method_19_code (4 : Nat) (Option.none : Option Jvm.ClassFile.FieldType)).before a0 Z = true := hw _ (List.mem_of_getElem? (i := 99) rfl)
theorem kw100 {Z : State} {a0 : Array Value} (hw : ∀ d ∈ tables_1, d.before a0 Z = true) : (Jvm.Cond.fieldLink "com/example/okno/okno/AdmissionLog" (87 : Nat) "com/example/okno/okno/AdmissionLog" "olderTotal" "J").before a0 Z = true := hw _ (List.mem_of_getElem? (i := 100) rfl)
theorem kw101 {Z : State} {a0 : Array Value} (hw : ∀ d ∈ tables_1, d.before a0 Z = true) : (Jvm.Cond.lays "com/example/okno/okno/AdmissionLog" "com/example/okno/okno/AdmissionLog" "olderTotal" "J").before a0 Z = true := hw _ (List.mem_of_getElem? (i := 101) rfl)
theorem kw102 {Z : State} {a0 : Array Value} (hw : ∀ d ∈ tables_1, d.before a0 Z = true) : (Jvm.Cond.methodLink "com/example/okno/okno/AdmissionLog" (90 : Nat) ({ cls := "com/example/okno/okno/AdmissionLog", name := "pushOlder", desc := "(JJ)V" } : Jvm.MethodName)).before a0 Z = true := hw _ (List.mem_of_getElem? (i := 102) rfl)
theorem kw103 {Z : State} {a0 : Array Value} (hw : ∀ d ∈ tables_1, d.before a0 Z = true) : (Jvm.Cond.instanceMethod ({ cls := "com/example/okno/okno/AdmissionLog", name := "pushOlder", desc := "(JJ)V" } : Jvm.MethodName)).before a0 Z = true := hw _ (List.mem_of_getElem? (i := 103) rfl)
theorem kw104 {Z : State} {a0 : Array Value} (hw : ∀ d ∈ tables_1, d.before a0 Z = true) : (Jvm.Cond.privateMethod ({ cls := "com/example/okno/okno/AdmissionLog", name := "pushOlder", desc := "(JJ)V" } : Jvm.MethodName)).before a0 Z = true := hw _ (List.mem_of_getElem? (i := 104) rfl)
theorem kw105 {Z : State} {a0 : Array Value} (hw : ∀ d ∈ tables_1, d.before a0 Z = true) : (Jvm.Cond.code ({ cls := "com/example/okno/okno/AdmissionLog", name := "pushOlder", desc := "(JJ)V" } : Jvm.MethodName) prog_2_method_24_code (5 : Nat) (Option.none : Option Jvm.ClassFile.FieldType)).before a0 Z = true := hw _ (List.mem_of_getElem? (i := 105) rfl)
theorem kw106 {Z : State} {a0 : Array Value} (hw : ∀ d ∈ tables_1, d.before a0 Z = true) : (Jvm.Cond.fieldLink "com/example/okno/okno/AdmissionLog" (93 : Nat) "com/example/okno/okno/AdmissionLog" "size" "I").before a0 Z = true := hw _ (List.mem_of_getElem? (i := 106) rfl)
theorem kw107 {Z : State} {a0 : Array Value} (hw : ∀ d ∈ tables_1, d.before a0 Z = true) : (Jvm.Cond.lays "com/example/okno/okno/AdmissionLog" "com/example/okno/okno/AdmissionLog" "size" "I").before a0 Z = true := hw _ (List.mem_of_getElem? (i := 107) rfl)
theorem kw108 {Z : State} {a0 : Array Value} (hw : ∀ d ∈ tables_1, d.before a0 Z = true) : (Jvm.Cond.methodLink "com/example/okno/okno/AdmissionLog" (115 : Nat) ({ cls := "com/example/okno/okno/AdmissionLog", name := "grow", desc := "()V" } : Jvm.MethodName)).before a0 Z = true := hw _ (List.mem_of_getElem? (i := 108) rfl)
theorem kw109 {Z : State} {a0 : Array Value} (hw : ∀ d ∈ tables_1, d.before a0 Z = true) : (Jvm.Cond.instanceMethod ({ cls := "com/example/okno/okno/AdmissionLog", name := "grow", desc := "()V" } : Jvm.MethodName)).before a0 Z = true := hw _ (List.mem_of_getElem? (i := 109) rfl)
theorem kw110 {Z : State} {a0 : Array Value} (hw : ∀ d ∈ tables_1, d.before a0 Z = true) : (Jvm.Cond.privateMethod ({ cls := "com/example/okno/okno/AdmissionLog", name := "grow", desc := "()V" } : Jvm.MethodName)).before a0 Z = true := hw _ (List.mem_of_getElem? (i := 110) rfl)
theorem kw111 {Z : State} {a0 : Array Value} (hw : ∀ d ∈ tables_1, d.before a0 Z = true) : (Jvm.Cond.code ({ cls := "com/example/okno/okno/AdmissionLog", name := "grow", desc := "()V" } : Jvm.MethodName) prog_2_method_26_code (5 : Nat) (Option.none : Option Jvm.ClassFile.FieldType)).before a0 Z = true := hw _ (List.mem_of_getElem? (i := 111) rfl)
theorem kw112 {Z : State} {a0 : Array Value} (hw : ∀ d ∈ tables_1, d.before a0 Z = true) : (Jvm.Cond.methodLink "com/example/okno/okno/AdmissionLog" (118 : Nat) ({ cls := "java/lang/Math", name := "max", desc := "(II)I" } : Jvm.MethodName)).before a0 Z = true := hw _ (List.mem_of_getElem? (i := 112) rfl)
theorem kw113 {Z : State} {a0 : Array Value} (hw : ∀ d ∈ tables_1, d.before a0 Z = true) : (Jvm.Cond.static ({ cls := "java/lang/Math", name := "max", desc := "(II)I" } : Jvm.MethodName)).before a0 Z = true := hw _ (List.mem_of_getElem? (i := 113) rfl)
theorem kw114 {Z : State} {a0 : Array Value} (hw : ∀ d ∈ tables_1, d.before a0 Z = true) : (Jvm.Cond.code ({ cls := "java/lang/Math", name := "max", desc := "(II)I" } : Jvm.MethodName) jdk_29_method_65_code (2 : Nat) (Option.some Jvm.ClassFile.FieldType.int)).before a0 Z = true := hw _ (List.mem_of_getElem? (i := 114) rfl)
theorem kw115 {Z : State} {a0 : Array Value} (hw : ∀ d ∈ tables_1, d.before a0 Z = true) : (Jvm.Cond.fieldLink "com/example/okno/okno/AdmissionLog" (97 : Nat) "com/example/okno/okno/AdmissionLog" "head" "I").before a0 Z = true := hw _ (List.mem_of_getElem? (i := 115) rfl)
theorem kw116 {Z : State} {a0 : Array Value} (hw : ∀ d ∈ tables_1, d.before a0 Z = true) : (Jvm.Cond.lays "com/example/okno/okno/AdmissionLog" "com/example/okno/okno/AdmissionLog" "head" "I").before a0 Z = true := hw _ (List.mem_of_getElem? (i := 116) rfl)
theorem kw117 {Z : State} {a0 : Array Value} (hw : ∀ d ∈ tables_1, d.before a0 Z = true) : (Jvm.Cond.methodLink "com/example/okno/okno/AdmissionLog" (100 : Nat) ({ cls := "com/example/okno/okno/AdmissionLog", name := "index", desc := "(I)I" } : Jvm.MethodName)).before a0 Z = true := hw _ (List.mem_of_getElem? (i := 117) rfl)
theorem kw118 {Z : State} {a0 : Array Value} (hw : ∀ d ∈ tables_1, d.before a0 Z = true) : (Jvm.Cond.instanceMethod ({ cls := "com/example/okno/okno/AdmissionLog", name := "index", desc := "(I)I" } : Jvm.MethodName)).before a0 Z = true := hw _ (List.mem_of_getElem? (i := 118) rfl)
theorem kw119 {Z : State} {a0 : Array Value} (hw : ∀ d ∈ tables_1, d.before a0 Z = true) : (Jvm.Cond.privateMethod ({ cls := "com/example/okno/okno/AdmissionLog", name := "index", desc := "(I)I" } : Jvm.MethodName)).before a0 Z = true := hw _ (List.mem_of_getElem? (i := 119) rfl)
theorem kw120 {Z : State} {a0 : Array Value} (hw : ∀ d ∈ tables_1, d.before a0 Z = true) : (Jvm.Cond.code ({ cls := "com/example/okno/okno/AdmissionLog", name := "index", desc := "(I)I" } : Jvm.MethodName) prog_2_method_25_code (2 : Nat) (Option.some Jvm.ClassFile.FieldType.int)).before a0 Z = true := hw _ (List.mem_of_getElem? (i := 120) rfl)
theorem kw121 {Z : State} {a0 : Array Value} (hw : ∀ d ∈ tables_1, d.before a0 Z = true) : (Jvm.Cond.methodLink "com/example/okno/okno/AdmissionLog" (108 : Nat) ({ cls := "com/example/okno/okno/AdmissionLog", name := "subWindowAt", desc := "(I)J" } : Jvm.MethodName)).before a0 Z = true := hw _ (List.mem_of_getElem? (i := 121) rfl)
theorem kw122 {Z : State} {a0 : Array Value} (hw : ∀ d ∈ tables_1, d.before a0 Z = true) : (Jvm.Cond.instanceMethod ({ cls := "com/example/okno/okno/AdmissionLog", name := "subWindowAt", desc := "(I)J" } : Jvm.MethodName)).before a0 Z = true := hw _ (List.mem_of_getElem? (i := 122) rfl)
theorem kw123 {Z : State} {a0 : Array Value} (hw : ∀ d ∈ tables_1, d.before a0 Z = true) : (Jvm.Cond.privateMethod ({ cls := "com/example/okno/okno/AdmissionLog", name := "subWindowAt", desc := "(I)J" } : Jvm.MethodName)).before a0 Z = true := hw _ (List.mem_of_getElem? (i := 123) rfl)
theorem kw124 {Z : State} {a0 : Array Value} (hw : ∀ d ∈ tables_1, d.before a0 Z = true) : (Jvm.Cond.code ({ cls := "com/example/okno/okno/AdmissionLog", name := "subWindowAt", desc := "(I)J" } : Jvm.MethodName) prog_2_method_21_code (2 : Nat) (Option.some Jvm.ClassFile.FieldType.long)).before a0 Z = true := hw _ (List.mem_of_getElem? (i := 124) rfl)
theorem kw125 {Z : State} {a0 : Array Value} (hw : ∀ d ∈ tables_1, d.before a0 Z = true) : (Jvm.Cond.methodLink "com/example/okno/okno/AdmissionLog" (112 : Nat) ({ cls := "com/example/okno/okno/AdmissionLog", name := "ringAmountAt", desc := "(I)J" } : Jvm.MethodName)).before a0 Z = true := hw _ (List.mem_of_getElem? (i := 125) rfl)
theorem kw126 {Z : State} {a0 : Array Value} (hw : ∀ d ∈ tables_1, d.before a0 Z = true) : (Jvm.Cond.instanceMethod ({ cls := "com/example/okno/okno/AdmissionLog", name := "ringAmountAt", desc := "(I)J" } : Jvm.MethodName)).before a0 Z = true := hw _ (List.mem_of_getElem? (i := 126) rfl)
theorem kw127 {Z : State} {a0 : Array Value} (hw : ∀ d ∈ tables_1, d.before a0 Z = true) : (Jvm.Cond.privateMethod ({ cls := "com/example/okno/okno/AdmissionLog", name := "ringAmountAt", desc := "(I)J" } : Jvm.MethodName)).before a0 Z = true := hw _ (List.mem_of_getElem? (i := 127) rfl)
theorem kw128 {Z : State} {a0 : Array Value} (hw : ∀ d ∈ tables_1, d.before a0 Z = true) : (Jvm.Cond.code ({ cls := "com/example/okno/okno/AdmissionLog", name := "ringAmountAt", desc := "(I)J" } : Jvm.MethodName) prog_2_method_22_code (2 : Nat) (Option.some Jvm.ClassFile.FieldType.long)).before a0 Z = true := hw _ (List.mem_of_getElem? (i := 128) rfl)
theorem pn_0 : plainName "com/example/okno/okno/KeyTurn" = true := by first | (simp [plainName, overriddenIn]; done) | decide +kernel
theorem pn_1 : plainName "com/example/okno/okno/AdmissionLogShorterTotalPinLaw" = true := by first | (simp [plainName, overriddenIn]; done) | decide +kernel
theorem pn_2 : plainName "com/example/okno/okno/AdmissionLog" = true := by first | (simp [plainName, overriddenIn]; done) | decide +kernel
theorem pd_0 : parseMethodDescriptor "(JJ)J" = some ⟨[.long, .long], some .long⟩ := by decide +kernel
theorem pd_1 : parseMethodDescriptor "(I)J" = some ⟨[.int], some .long⟩ := by decide +kernel
theorem pd_2 : parseMethodDescriptor "()V" = some ⟨[], none⟩ := by decide +kernel
theorem pd_3 : parseMethodDescriptor "(JI)V" = some ⟨[.long, .int], none⟩ := by decide +kernel
theorem pd_4 : parseMethodDescriptor "()Z" = some ⟨[], some .boolean⟩ := by decide +kernel
theorem pd_5 : parseMethodDescriptor "()I" = some ⟨[], some .int⟩ := by decide +kernel
theorem pd_6 : parseMethodDescriptor "(IJ)V" = some ⟨[.int, .long], none⟩ := by decide +kernel
theorem pd_7 : parseMethodDescriptor "(J)J" = some ⟨[.long], some .long⟩ := by decide +kernel
theorem pd_8 : parseMethodDescriptor "(JJ)V" = some ⟨[.long, .long], none⟩ := by decide +kernel
theorem pd_9 : parseMethodDescriptor "(J)V" = some ⟨[.long], none⟩ := by decide +kernel
theorem pd_10 : parseMethodDescriptor "(II)I" = some ⟨[.int, .int], some .int⟩ := by decide +kernel
theorem pd_11 : parseMethodDescriptor "(I)I" = some ⟨[.int], some .int⟩ := by decide +kernel
theorem d1_0 : decode jdk_29_method_70_code 0 = .ok (.lload_n 0, 1) := by decide +kernel
theorem d1_1 : decode jdk_29_method_70_code 1 = .ok (.lload_n 2, 1) := by decide +kernel
theorem d1_2 : decode jdk_29_method_70_code 2 = .ok (.lcmp, 1) := by decide +kernel
theorem d1_3 : decode jdk_29_method_70_code 3 = .ok (.ifCond .gt 7, 3) := by decide +kernel
theorem d1_6 : decode jdk_29_method_70_code 6 = .ok (.lload_n 0, 1) := by decide +kernel
theorem d1_7 : decode jdk_29_method_70_code 7 = .ok (.goto 4, 3) := by decide +kernel
theorem d1_10 : decode jdk_29_method_70_code 10 = .ok (.lload_n 2, 1) := by decide +kernel
theorem d1_11 : decode jdk_29_method_70_code 11 = .ok (.lreturn, 1) := by decide +kernel
theorem d2_0 : decode method_3_code 0 = .ok (.iload_n 0, 1) := by decide +kernel
theorem d2_1 : decode method_3_code 1 = .ok (.i2l, 1) := by decide +kernel
theorem d2_2 : decode method_3_code 2 = .ok (.ldc2_w 7, 3) := by decide +kernel
theorem d2_5 : decode method_3_code 5 = .ok (.land, 1) := by decide +kernel
theorem d2_6 : decode method_3_code 6 = .ok (.lconst 1, 1) := by decide +kernel
theorem d2_7 : decode method_3_code 7 = .ok (.ladd, 1) := by decide +kernel
theorem d2_8 : decode method_3_code 8 = .ok (.lreturn, 1) := by decide +kernel
theorem d3_0 : decode method_2_code 0 = .ok (.lload_n 0, 1) := by decide +kernel
theorem d3_1 : decode method_2_code 1 = .ok (.lload_n 2, 1) := by decide +kernel
theorem d3_2 : decode method_2_code 2 = .ok (.ldiv, 1) := by decide +kernel
theorem d3_3 : decode method_2_code 3 = .ok (.lstore 4, 2) := by decide +kernel
theorem d3_5 : decode method_2_code 5 = .ok (.lload_n 0, 1) := by decide +kernel
theorem d3_6 : decode method_2_code 6 = .ok (.lload_n 2, 1) := by decide +kernel
theorem d3_7 : decode method_2_code 7 = .ok (.lrem, 1) := by decide +kernel
theorem d3_8 : decode method_2_code 8 = .ok (.lconst 0, 1) := by decide +kernel
theorem d3_9 : decode method_2_code 9 = .ok (.lcmp, 1) := by decide +kernel
theorem d3_10 : decode method_2_code 10 = .ok (.ifCond .eq 15, 3) := by decide +kernel
theorem d3_13 : decode method_2_code 13 = .ok (.lload_n 0, 1) := by decide +kernel
theorem d3_14 : decode method_2_code 14 = .ok (.lconst 0, 1) := by decide +kernel
theorem d3_15 : decode method_2_code 15 = .ok (.lcmp, 1) := by decide +kernel
theorem d3_16 : decode method_2_code 16 = .ok (.ifCond .ge 9, 3) := by decide +kernel
theorem d3_19 : decode method_2_code 19 = .ok (.lload 4, 2) := by decide +kernel
theorem d3_21 : decode method_2_code 21 = .ok (.lconst 1, 1) := by decide +kernel
theorem d3_22 : decode method_2_code 22 = .ok (.lsub, 1) := by decide +kernel
theorem d3_23 : decode method_2_code 23 = .ok (.lstore 4, 2) := by decide +kernel
theorem d3_25 : decode method_2_code 25 = .ok (.lload 4, 2) := by decide +kernel
theorem d3_27 : decode method_2_code 27 = .ok (.lreturn, 1) := by decide +kernel
theorem d4_0 : decode prog_2_method_1_code 0 = .ok (.aload_n 0, 1) := by decide +kernel
theorem d4_1 : decode prog_2_method_1_code 1 = .ok (.invokespecial 1, 3) := by decide +kernel
theorem d4_4 : decode prog_2_method_1_code 4 = .ok (.aload_n 0, 1) := by decide +kernel
theorem d4_5 : decode prog_2_method_1_code 5 = .ok (.ldc2_w 9, 3) := by decide +kernel
theorem d4_8 : decode prog_2_method_1_code 8 = .ok (.putfield 11, 3) := by decide +kernel
theorem d4_11 : decode prog_2_method_1_code 11 = .ok (.aload_n 0, 1) := by decide +kernel
theorem d4_12 : decode prog_2_method_1_code 12 = .ok (.getstatic 17, 3) := by decide +kernel
theorem d4_15 : decode prog_2_method_1_code 15 = .ok (.putfield 21, 3) := by decide +kernel
theorem d4_18 : decode prog_2_method_1_code 18 = .ok (.aload_n 0, 1) := by decide +kernel
theorem d4_19 : decode prog_2_method_1_code 19 = .ok (.getstatic 17, 3) := by decide +kernel
theorem d4_22 : decode prog_2_method_1_code 22 = .ok (.putfield 24, 3) := by decide +kernel
theorem d4_25 : decode prog_2_method_1_code 25 = .ok (.aload_n 0, 1) := by decide +kernel
theorem d4_26 : decode prog_2_method_1_code 26 = .ok (.ldc2_w 27, 3) := by decide +kernel
theorem d4_29 : decode prog_2_method_1_code 29 = .ok (.putfield 29, 3) := by decide +kernel
theorem d4_32 : decode prog_2_method_1_code 32 = .ok (.aload_n 0, 1) := by decide +kernel
theorem d4_33 : decode prog_2_method_1_code 33 = .ok (.ldc2_w 9, 3) := by decide +kernel
theorem d4_36 : decode prog_2_method_1_code 36 = .ok (.putfield 32, 3) := by decide +kernel
theorem d4_39 : decode prog_2_method_1_code 39 = .ok (.aload_n 0, 1) := by decide +kernel
theorem d4_40 : decode prog_2_method_1_code 40 = .ok (.lload_n 1, 1) := by decide +kernel
theorem d4_41 : decode prog_2_method_1_code 41 = .ok (.putfield 35, 3) := by decide +kernel
theorem d4_44 : decode prog_2_method_1_code 44 = .ok (.aload_n 0, 1) := by decide +kernel
theorem d4_45 : decode prog_2_method_1_code 45 = .ok (.aload_n 0, 1) := by decide +kernel
theorem d4_46 : decode prog_2_method_1_code 46 = .ok (.getfield 32, 3) := by decide +kernel
theorem d4_49 : decode prog_2_method_1_code 49 = .ok (.lload_n 1, 1) := by decide +kernel
theorem d4_50 : decode prog_2_method_1_code 50 = .ok (.invokestatic 38, 3) := by decide +kernel
theorem d4_53 : decode prog_2_method_1_code 53 = .ok (.putfield 44, 3) := by decide +kernel
theorem d4_56 : decode prog_2_method_1_code 56 = .ok (.aload_n 0, 1) := by decide +kernel
theorem d4_57 : decode prog_2_method_1_code 57 = .ok (.iload_n 3, 1) := by decide +kernel
theorem d4_58 : decode prog_2_method_1_code 58 = .ok (.ifCond .ne 9, 3) := by decide +kernel
theorem d4_67 : decode prog_2_method_1_code 67 = .ok (.iconst 2, 1) := by decide +kernel
theorem d4_68 : decode prog_2_method_1_code 68 = .ok (.iload_n 3, 1) := by decide +kernel
theorem d4_69 : decode prog_2_method_1_code 69 = .ok (.imul, 1) := by decide +kernel
theorem d4_70 : decode prog_2_method_1_code 70 = .ok (.newarray .long, 2) := by decide +kernel
theorem d4_72 : decode prog_2_method_1_code 72 = .ok (.putfield 47, 3) := by decide +kernel
theorem d4_75 : decode prog_2_method_1_code 75 = .ok (.return_, 1) := by decide +kernel
theorem d5_0 : decode prog_8_method_1_code 0 = .ok (.aload_n 0, 1) := by decide +kernel
theorem d5_1 : decode prog_8_method_1_code 1 = .ok (.invokespecial 1, 3) := by decide +kernel
theorem d5_4 : decode prog_8_method_1_code 4 = .ok (.return_, 1) := by decide +kernel
theorem d7_0 : decode jdk_29_method_49_code 0 = .ok (.lload_n 0, 1) := by decide +kernel
theorem d7_1 : decode jdk_29_method_49_code 1 = .ok (.lload_n 2, 1) := by decide +kernel
theorem d7_2 : decode jdk_29_method_49_code 2 = .ok (.ldiv, 1) := by decide +kernel
theorem d7_3 : decode jdk_29_method_49_code 3 = .ok (.lstore 4, 2) := by decide +kernel
theorem d7_5 : decode jdk_29_method_49_code 5 = .ok (.lload_n 0, 1) := by decide +kernel
theorem d7_6 : decode jdk_29_method_49_code 6 = .ok (.lload_n 2, 1) := by decide +kernel
theorem d7_7 : decode jdk_29_method_49_code 7 = .ok (.lxor, 1) := by decide +kernel
theorem d7_8 : decode jdk_29_method_49_code 8 = .ok (.lconst 0, 1) := by decide +kernel
theorem d7_9 : decode jdk_29_method_49_code 9 = .ok (.lcmp, 1) := by decide +kernel
theorem d7_10 : decode jdk_29_method_49_code 10 = .ok (.ifCond .ge 17, 3) := by decide +kernel
theorem d7_13 : decode jdk_29_method_49_code 13 = .ok (.lload 4, 2) := by decide +kernel
theorem d7_15 : decode jdk_29_method_49_code 15 = .ok (.lload_n 2, 1) := by decide +kernel
theorem d7_16 : decode jdk_29_method_49_code 16 = .ok (.lmul, 1) := by decide +kernel
theorem d7_17 : decode jdk_29_method_49_code 17 = .ok (.lload_n 0, 1) := by decide +kernel
theorem d7_18 : decode jdk_29_method_49_code 18 = .ok (.lcmp, 1) := by decide +kernel
theorem d7_19 : decode jdk_29_method_49_code 19 = .ok (.ifCond .eq 8, 3) := by decide +kernel
theorem d7_22 : decode jdk_29_method_49_code 22 = .ok (.lload 4, 2) := by decide +kernel
theorem d7_24 : decode jdk_29_method_49_code 24 = .ok (.lconst 1, 1) := by decide +kernel
theorem d7_25 : decode jdk_29_method_49_code 25 = .ok (.lsub, 1) := by decide +kernel
theorem d7_26 : decode jdk_29_method_49_code 26 = .ok (.lreturn, 1) := by decide +kernel
theorem d7_27 : decode jdk_29_method_49_code 27 = .ok (.lload 4, 2) := by decide +kernel
theorem d7_29 : decode jdk_29_method_49_code 29 = .ok (.lreturn, 1) := by decide +kernel
theorem d8_0 : decode prog_2_method_18_code 0 = .ok (.aload_n 0, 1) := by decide +kernel
theorem d8_1 : decode prog_2_method_18_code 1 = .ok (.invokevirtual 104, 3) := by decide +kernel
theorem d8_4 : decode prog_2_method_18_code 4 = .ok (.istore 4, 2) := by decide +kernel
theorem d8_6 : decode prog_2_method_18_code 6 = .ok (.aload_n 0, 1) := by decide +kernel
theorem d8_7 : decode prog_2_method_18_code 7 = .ok (.getfield 47, 3) := by decide +kernel
theorem d8_10 : decode prog_2_method_18_code 10 = .ok (.iconst 2, 1) := by decide +kernel
theorem d8_11 : decode prog_2_method_18_code 11 = .ok (.iload_n 1, 1) := by decide +kernel
theorem d8_12 : decode prog_2_method_18_code 12 = .ok (.imul, 1) := by decide +kernel
theorem d8_13 : decode prog_2_method_18_code 13 = .ok (.laload, 1) := by decide +kernel
theorem d8_14 : decode prog_2_method_18_code 14 = .ok (.lstore 5, 2) := by decide +kernel
theorem d8_16 : decode prog_2_method_18_code 16 = .ok (.aload_n 0, 1) := by decide +kernel
theorem d8_17 : decode prog_2_method_18_code 17 = .ok (.getfield 47, 3) := by decide +kernel
theorem d8_20 : decode prog_2_method_18_code 20 = .ok (.iconst 2, 1) := by decide +kernel
theorem d8_21 : decode prog_2_method_18_code 21 = .ok (.iload_n 1, 1) := by decide +kernel
theorem d8_22 : decode prog_2_method_18_code 22 = .ok (.imul, 1) := by decide +kernel
theorem d8_23 : decode prog_2_method_18_code 23 = .ok (.iconst 1, 1) := by decide +kernel
theorem d8_24 : decode prog_2_method_18_code 24 = .ok (.iadd, 1) := by decide +kernel
theorem d8_25 : decode prog_2_method_18_code 25 = .ok (.laload, 1) := by decide +kernel
theorem d8_26 : decode prog_2_method_18_code 26 = .ok (.l2i, 1) := by decide +kernel
theorem d8_27 : decode prog_2_method_18_code 27 = .ok (.istore 7, 2) := by decide +kernel
theorem d8_29 : decode prog_2_method_18_code 29 = .ok (.iload 7, 2) := by decide +kernel
theorem d8_31 : decode prog_2_method_18_code 31 = .ok (.ifCond .le 37, 3) := by decide +kernel
theorem d8_34 : decode prog_2_method_18_code 34 = .ok (.aload_n 0, 1) := by decide +kernel
theorem d8_35 : decode prog_2_method_18_code 35 = .ok (.iload 4, 2) := by decide +kernel
theorem d8_37 : decode prog_2_method_18_code 37 = .ok (.iload 7, 2) := by decide +kernel
theorem d8_39 : decode prog_2_method_18_code 39 = .ok (.isub, 1) := by decide +kernel
theorem d8_40 : decode prog_2_method_18_code 40 = .ok (.invokevirtual 108, 3) := by decide +kernel
theorem d8_43 : decode prog_2_method_18_code 43 = .ok (.lload_n 2, 1) := by decide +kernel
theorem d8_44 : decode prog_2_method_18_code 44 = .ok (.lcmp, 1) := by decide +kernel
theorem d8_45 : decode prog_2_method_18_code 45 = .ok (.ifCond .ge 23, 3) := by decide +kernel
theorem d8_48 : decode prog_2_method_18_code 48 = .ok (.lload 5, 2) := by decide +kernel
theorem d8_50 : decode prog_2_method_18_code 50 = .ok (.aload_n 0, 1) := by decide +kernel
theorem d8_51 : decode prog_2_method_18_code 51 = .ok (.iload 4, 2) := by decide +kernel
theorem d8_53 : decode prog_2_method_18_code 53 = .ok (.iload 7, 2) := by decide +kernel
theorem d8_55 : decode prog_2_method_18_code 55 = .ok (.isub, 1) := by decide +kernel
theorem d8_56 : decode prog_2_method_18_code 56 = .ok (.invokevirtual 112, 3) := by decide +kernel
theorem d8_59 : decode prog_2_method_18_code 59 = .ok (.lsub, 1) := by decide +kernel
theorem d8_60 : decode prog_2_method_18_code 60 = .ok (.lstore 5, 2) := by decide +kernel
theorem d8_62 : decode prog_2_method_18_code 62 = .ok (.iinc 7 (-1), 3) := by decide +kernel
theorem d8_65 : decode prog_2_method_18_code 65 = .ok (.goto (-36), 3) := by decide +kernel
theorem d8_68 : decode prog_2_method_18_code 68 = .ok (.iload 7, 2) := by decide +kernel
theorem d8_70 : decode prog_2_method_18_code 70 = .ok (.iload 4, 2) := by decide +kernel
theorem d8_72 : decode prog_2_method_18_code 72 = .ok (.if_icmp .ge 39, 3) := by decide +kernel
theorem d8_75 : decode prog_2_method_18_code 75 = .ok (.aload_n 0, 1) := by decide +kernel
theorem d8_76 : decode prog_2_method_18_code 76 = .ok (.iload 4, 2) := by decide +kernel
theorem d8_78 : decode prog_2_method_18_code 78 = .ok (.iload 7, 2) := by decide +kernel
theorem d8_80 : decode prog_2_method_18_code 80 = .ok (.isub, 1) := by decide +kernel
theorem d8_81 : decode prog_2_method_18_code 81 = .ok (.iconst 1, 1) := by decide +kernel
theorem d8_82 : decode prog_2_method_18_code 82 = .ok (.isub, 1) := by decide +kernel
theorem d8_83 : decode prog_2_method_18_code 83 = .ok (.invokevirtual 108, 3) := by decide +kernel
theorem d8_86 : decode prog_2_method_18_code 86 = .ok (.lload_n 2, 1) := by decide +kernel
theorem d8_87 : decode prog_2_method_18_code 87 = .ok (.lcmp, 1) := by decide +kernel
theorem d8_88 : decode prog_2_method_18_code 88 = .ok (.ifCond .lt 23, 3) := by decide +kernel
theorem d8_111 : decode prog_2_method_18_code 111 = .ok (.aload_n 0, 1) := by decide +kernel
theorem d8_112 : decode prog_2_method_18_code 112 = .ok (.getfield 47, 3) := by decide +kernel
theorem d8_115 : decode prog_2_method_18_code 115 = .ok (.iconst 2, 1) := by decide +kernel
theorem d8_116 : decode prog_2_method_18_code 116 = .ok (.iload_n 1, 1) := by decide +kernel
theorem d8_117 : decode prog_2_method_18_code 117 = .ok (.imul, 1) := by decide +kernel
theorem d8_118 : decode prog_2_method_18_code 118 = .ok (.lload 5, 2) := by decide +kernel
theorem d8_120 : decode prog_2_method_18_code 120 = .ok (.lastore, 1) := by decide +kernel
theorem d8_121 : decode prog_2_method_18_code 121 = .ok (.aload_n 0, 1) := by decide +kernel
theorem d8_122 : decode prog_2_method_18_code 122 = .ok (.getfield 47, 3) := by decide +kernel
theorem d8_125 : decode prog_2_method_18_code 125 = .ok (.iconst 2, 1) := by decide +kernel
theorem d8_126 : decode prog_2_method_18_code 126 = .ok (.iload_n 1, 1) := by decide +kernel
theorem d8_127 : decode prog_2_method_18_code 127 = .ok (.imul, 1) := by decide +kernel
theorem d8_128 : decode prog_2_method_18_code 128 = .ok (.iconst 1, 1) := by decide +kernel
theorem d8_129 : decode prog_2_method_18_code 129 = .ok (.iadd, 1) := by decide +kernel
theorem d8_130 : decode prog_2_method_18_code 130 = .ok (.iload 7, 2) := by decide +kernel
theorem d8_132 : decode prog_2_method_18_code 132 = .ok (.i2l, 1) := by decide +kernel
theorem d8_133 : decode prog_2_method_18_code 133 = .ok (.lastore, 1) := by decide +kernel
theorem d8_134 : decode prog_2_method_18_code 134 = .ok (.return_, 1) := by decide +kernel
theorem d9_0 : decode prog_2_method_20_code 0 = .ok (.aload_n 0, 1) := by decide +kernel
theorem d9_1 : decode prog_2_method_20_code 1 = .ok (.invokevirtual 72, 3) := by decide +kernel
theorem d9_4 : decode prog_2_method_20_code 4 = .ok (.ifCond .eq 7, 3) := by decide +kernel
theorem d9_7 : decode prog_2_method_20_code 7 = .ok (.iconst 0, 1) := by decide +kernel
theorem d9_8 : decode prog_2_method_20_code 8 = .ok (.goto 9, 3) := by decide +kernel
theorem d9_11 : decode prog_2_method_20_code 11 = .ok (.aload_n 0, 1) := by decide +kernel
theorem d9_12 : decode prog_2_method_20_code 12 = .ok (.getfield 93, 3) := by decide +kernel
theorem d9_15 : decode prog_2_method_20_code 15 = .ok (.iconst 1, 1) := by decide +kernel
theorem d9_16 : decode prog_2_method_20_code 16 = .ok (.iadd, 1) := by decide +kernel
theorem d9_17 : decode prog_2_method_20_code 17 = .ok (.ireturn, 1) := by decide +kernel
theorem d10_0 : decode prog_2_method_3_code 0 = .ok (.aload_n 0, 1) := by decide +kernel
theorem d10_1 : decode prog_2_method_3_code 1 = .ok (.getfield 50, 3) := by decide +kernel
theorem d10_4 : decode prog_2_method_3_code 4 = .ok (.lconst 0, 1) := by decide +kernel
theorem d10_5 : decode prog_2_method_3_code 5 = .ok (.lcmp, 1) := by decide +kernel
theorem d10_6 : decode prog_2_method_3_code 6 = .ok (.ifCond .ne 7, 3) := by decide +kernel
theorem d10_9 : decode prog_2_method_3_code 9 = .ok (.iconst 1, 1) := by decide +kernel
theorem d10_10 : decode prog_2_method_3_code 10 = .ok (.goto 4, 3) := by decide +kernel
theorem d10_13 : decode prog_2_method_3_code 13 = .ok (.iconst 0, 1) := by decide +kernel
theorem d10_14 : decode prog_2_method_3_code 14 = .ok (.ireturn, 1) := by decide +kernel
theorem d11_0 : decode prog_2_method_16_code 0 = .ok (.aload_n 0, 1) := by decide +kernel
theorem d11_1 : decode prog_2_method_16_code 1 = .ok (.getfield 47, 3) := by decide +kernel
theorem d11_4 : decode prog_2_method_16_code 4 = .ok (.iconst 2, 1) := by decide +kernel
theorem d11_5 : decode prog_2_method_16_code 5 = .ok (.iload_n 1, 1) := by decide +kernel
theorem d11_6 : decode prog_2_method_16_code 6 = .ok (.imul, 1) := by decide +kernel
theorem d11_7 : decode prog_2_method_16_code 7 = .ok (.laload, 1) := by decide +kernel
theorem d11_8 : decode prog_2_method_16_code 8 = .ok (.lstore_n 2, 1) := by decide +kernel
theorem d11_9 : decode prog_2_method_16_code 9 = .ok (.aload_n 0, 1) := by decide +kernel
theorem d11_10 : decode prog_2_method_16_code 10 = .ok (.getfield 47, 3) := by decide +kernel
theorem d11_13 : decode prog_2_method_16_code 13 = .ok (.iconst 2, 1) := by decide +kernel
theorem d11_14 : decode prog_2_method_16_code 14 = .ok (.iload_n 1, 1) := by decide +kernel
theorem d11_15 : decode prog_2_method_16_code 15 = .ok (.imul, 1) := by decide +kernel
theorem d11_16 : decode prog_2_method_16_code 16 = .ok (.iconst 1, 1) := by decide +kernel
theorem d11_17 : decode prog_2_method_16_code 17 = .ok (.iadd, 1) := by decide +kernel
theorem d11_18 : decode prog_2_method_16_code 18 = .ok (.laload, 1) := by decide +kernel
theorem d11_19 : decode prog_2_method_16_code 19 = .ok (.lconst 0, 1) := by decide +kernel
theorem d11_20 : decode prog_2_method_16_code 20 = .ok (.lcmp, 1) := by decide +kernel
theorem d11_21 : decode prog_2_method_16_code 21 = .ok (.ifCond .le 17, 3) := by decide +kernel
theorem d11_24 : decode prog_2_method_16_code 24 = .ok (.lload_n 2, 1) := by decide +kernel
theorem d11_25 : decode prog_2_method_16_code 25 = .ok (.aload_n 0, 1) := by decide +kernel
theorem d11_26 : decode prog_2_method_16_code 26 = .ok (.getfield 50, 3) := by decide +kernel
theorem d11_29 : decode prog_2_method_16_code 29 = .ok (.ladd, 1) := by decide +kernel
theorem d11_30 : decode prog_2_method_16_code 30 = .ok (.aload_n 0, 1) := by decide +kernel
theorem d11_31 : decode prog_2_method_16_code 31 = .ok (.getfield 87, 3) := by decide +kernel
theorem d11_34 : decode prog_2_method_16_code 34 = .ok (.lsub, 1) := by decide +kernel
theorem d11_35 : decode prog_2_method_16_code 35 = .ok (.goto 4, 3) := by decide +kernel
theorem d11_38 : decode prog_2_method_16_code 38 = .ok (.lload_n 2, 1) := by decide +kernel
theorem d11_39 : decode prog_2_method_16_code 39 = .ok (.lreturn, 1) := by decide +kernel
theorem d12_0 : decode prog_2_method_12_code 0 = .ok (.aload_n 0, 1) := by decide +kernel
theorem d12_1 : decode prog_2_method_12_code 1 = .ok (.getfield 50, 3) := by decide +kernel
theorem d12_4 : decode prog_2_method_12_code 4 = .ok (.lload_n 3, 1) := by decide +kernel
theorem d12_5 : decode prog_2_method_12_code 5 = .ok (.invokestatic 65, 3) := by decide +kernel
theorem d12_8 : decode prog_2_method_12_code 8 = .ok (.lstore 5, 2) := by decide +kernel
theorem d12_10 : decode prog_2_method_12_code 10 = .ok (.aload_n 0, 1) := by decide +kernel
theorem d12_11 : decode prog_2_method_12_code 11 = .ok (.lload_n 1, 1) := by decide +kernel
theorem d12_12 : decode prog_2_method_12_code 12 = .ok (.invokevirtual 68, 3) := by decide +kernel
theorem d12_15 : decode prog_2_method_12_code 15 = .ok (.lstore 7, 2) := by decide +kernel
theorem d12_17 : decode prog_2_method_12_code 17 = .ok (.aload_n 0, 1) := by decide +kernel
theorem d12_18 : decode prog_2_method_12_code 18 = .ok (.invokevirtual 72, 3) := by decide +kernel
theorem d12_21 : decode prog_2_method_12_code 21 = .ok (.ifCond .eq 24, 3) := by decide +kernel
theorem d12_24 : decode prog_2_method_12_code 24 = .ok (.aload_n 0, 1) := by decide +kernel
theorem d12_25 : decode prog_2_method_12_code 25 = .ok (.lload 7, 2) := by decide +kernel
theorem d12_27 : decode prog_2_method_12_code 27 = .ok (.putfield 29, 3) := by decide +kernel
theorem d12_30 : decode prog_2_method_12_code 30 = .ok (.aload_n 0, 1) := by decide +kernel
theorem d12_31 : decode prog_2_method_12_code 31 = .ok (.lload 7, 2) := by decide +kernel
theorem d12_33 : decode prog_2_method_12_code 33 = .ok (.lload_n 1, 1) := by decide +kernel
theorem d12_34 : decode prog_2_method_12_code 34 = .ok (.invokevirtual 76, 3) := by decide +kernel
theorem d12_37 : decode prog_2_method_12_code 37 = .ok (.aload_n 0, 1) := by decide +kernel
theorem d12_38 : decode prog_2_method_12_code 38 = .ok (.lconst 0, 1) := by decide +kernel
theorem d12_39 : decode prog_2_method_12_code 39 = .ok (.invokevirtual 80, 3) := by decide +kernel
theorem d12_42 : decode prog_2_method_12_code 42 = .ok (.goto 47, 3) := by decide +kernel
theorem d12_45 : decode prog_2_method_12_code 45 = .ok (.lload 7, 2) := by decide +kernel
theorem d12_47 : decode prog_2_method_12_code 47 = .ok (.aload_n 0, 1) := by decide +kernel
theorem d12_48 : decode prog_2_method_12_code 48 = .ok (.getfield 84, 3) := by decide +kernel
theorem d12_51 : decode prog_2_method_12_code 51 = .ok (.lcmp, 1) := by decide +kernel
theorem d12_52 : decode prog_2_method_12_code 52 = .ok (.ifCond .eq 37, 3) := by decide +kernel
theorem d12_55 : decode prog_2_method_12_code 55 = .ok (.aload_n 0, 1) := by decide +kernel
theorem d12_56 : decode prog_2_method_12_code 56 = .ok (.getfield 50, 3) := by decide +kernel
theorem d12_59 : decode prog_2_method_12_code 59 = .ok (.aload_n 0, 1) := by decide +kernel
theorem d12_60 : decode prog_2_method_12_code 60 = .ok (.getfield 87, 3) := by decide +kernel
theorem d12_63 : decode prog_2_method_12_code 63 = .ok (.lsub, 1) := by decide +kernel
theorem d12_64 : decode prog_2_method_12_code 64 = .ok (.lstore 9, 2) := by decide +kernel
theorem d12_66 : decode prog_2_method_12_code 66 = .ok (.aload_n 0, 1) := by decide +kernel
theorem d12_67 : decode prog_2_method_12_code 67 = .ok (.aload_n 0, 1) := by decide +kernel
theorem d12_68 : decode prog_2_method_12_code 68 = .ok (.getfield 84, 3) := by decide +kernel
theorem d12_71 : decode prog_2_method_12_code 71 = .ok (.lload 9, 2) := by decide +kernel
theorem d12_73 : decode prog_2_method_12_code 73 = .ok (.invokevirtual 90, 3) := by decide +kernel
theorem d12_76 : decode prog_2_method_12_code 76 = .ok (.aload_n 0, 1) := by decide +kernel
theorem d12_77 : decode prog_2_method_12_code 77 = .ok (.lload 7, 2) := by decide +kernel
theorem d12_79 : decode prog_2_method_12_code 79 = .ok (.lload_n 1, 1) := by decide +kernel
theorem d12_80 : decode prog_2_method_12_code 80 = .ok (.invokevirtual 76, 3) := by decide +kernel
theorem d12_83 : decode prog_2_method_12_code 83 = .ok (.aload_n 0, 1) := by decide +kernel
theorem d12_84 : decode prog_2_method_12_code 84 = .ok (.lload 9, 2) := by decide +kernel
theorem d12_86 : decode prog_2_method_12_code 86 = .ok (.invokevirtual 80, 3) := by decide +kernel
theorem d12_89 : decode prog_2_method_12_code 89 = .ok (.aload_n 0, 1) := by decide +kernel
theorem d12_90 : decode prog_2_method_12_code 90 = .ok (.lload 5, 2) := by decide +kernel
theorem d12_92 : decode prog_2_method_12_code 92 = .ok (.putfield 50, 3) := by decide +kernel
theorem d12_95 : decode prog_2_method_12_code 95 = .ok (.aload_n 0, 1) := by decide +kernel
theorem d12_96 : decode prog_2_method_12_code 96 = .ok (.lload_n 1, 1) := by decide +kernel
theorem d12_97 : decode prog_2_method_12_code 97 = .ok (.putfield 11, 3) := by decide +kernel
theorem d12_100 : decode prog_2_method_12_code 100 = .ok (.return_, 1) := by decide +kernel
theorem d13_0 : decode jdk_29_method_25_code 0 = .ok (.lload_n 0, 1) := by decide +kernel
theorem d13_1 : decode jdk_29_method_25_code 1 = .ok (.lload_n 2, 1) := by decide +kernel
theorem d13_2 : decode jdk_29_method_25_code 2 = .ok (.ladd, 1) := by decide +kernel
theorem d13_3 : decode jdk_29_method_25_code 3 = .ok (.lstore 4, 2) := by decide +kernel
theorem d13_5 : decode jdk_29_method_25_code 5 = .ok (.lload_n 0, 1) := by decide +kernel
theorem d13_6 : decode jdk_29_method_25_code 6 = .ok (.lload 4, 2) := by decide +kernel
theorem d13_8 : decode jdk_29_method_25_code 8 = .ok (.lxor, 1) := by decide +kernel
theorem d13_9 : decode jdk_29_method_25_code 9 = .ok (.lload_n 2, 1) := by decide +kernel
theorem d13_10 : decode jdk_29_method_25_code 10 = .ok (.lload 4, 2) := by decide +kernel
theorem d13_12 : decode jdk_29_method_25_code 12 = .ok (.lxor, 1) := by decide +kernel
theorem d13_13 : decode jdk_29_method_25_code 13 = .ok (.land, 1) := by decide +kernel
theorem d13_14 : decode jdk_29_method_25_code 14 = .ok (.lconst 0, 1) := by decide +kernel
theorem d13_15 : decode jdk_29_method_25_code 15 = .ok (.lcmp, 1) := by decide +kernel
theorem d13_16 : decode jdk_29_method_25_code 16 = .ok (.ifCond .ge 13, 3) := by decide +kernel
theorem d13_29 : decode jdk_29_method_25_code 29 = .ok (.lload 4, 2) := by decide +kernel
theorem d13_31 : decode jdk_29_method_25_code 31 = .ok (.lreturn, 1) := by decide +kernel
theorem d14_0 : decode prog_2_method_11_code 0 = .ok (.lload_n 1, 1) := by decide +kernel
theorem d14_1 : decode prog_2_method_11_code 1 = .ok (.aload_n 0, 1) := by decide +kernel
theorem d14_2 : decode prog_2_method_11_code 2 = .ok (.getfield 32, 3) := by decide +kernel
theorem d14_5 : decode prog_2_method_11_code 5 = .ok (.lcmp, 1) := by decide +kernel
theorem d14_6 : decode prog_2_method_11_code 6 = .ok (.ifCond .eq 20, 3) := by decide +kernel
theorem d14_9 : decode prog_2_method_11_code 9 = .ok (.aload_n 0, 1) := by decide +kernel
theorem d14_10 : decode prog_2_method_11_code 10 = .ok (.lload_n 1, 1) := by decide +kernel
theorem d14_11 : decode prog_2_method_11_code 11 = .ok (.aload_n 0, 1) := by decide +kernel
theorem d14_12 : decode prog_2_method_11_code 12 = .ok (.getfield 35, 3) := by decide +kernel
theorem d14_15 : decode prog_2_method_11_code 15 = .ok (.invokestatic 38, 3) := by decide +kernel
theorem d14_18 : decode prog_2_method_11_code 18 = .ok (.putfield 44, 3) := by decide +kernel
theorem d14_21 : decode prog_2_method_11_code 21 = .ok (.aload_n 0, 1) := by decide +kernel
theorem d14_22 : decode prog_2_method_11_code 22 = .ok (.lload_n 1, 1) := by decide +kernel
theorem d14_23 : decode prog_2_method_11_code 23 = .ok (.putfield 32, 3) := by decide +kernel
theorem d14_26 : decode prog_2_method_11_code 26 = .ok (.aload_n 0, 1) := by decide +kernel
theorem d14_27 : decode prog_2_method_11_code 27 = .ok (.getfield 44, 3) := by decide +kernel
theorem d14_30 : decode prog_2_method_11_code 30 = .ok (.lreturn, 1) := by decide +kernel
theorem d15_0 : decode prog_2_method_23_code 0 = .ok (.lload_n 1, 1) := by decide +kernel
theorem d15_1 : decode prog_2_method_23_code 1 = .ok (.lconst 1, 1) := by decide +kernel
theorem d15_2 : decode prog_2_method_23_code 2 = .ok (.ladd, 1) := by decide +kernel
theorem d15_3 : decode prog_2_method_23_code 3 = .ok (.aload_n 0, 1) := by decide +kernel
theorem d15_4 : decode prog_2_method_23_code 4 = .ok (.getfield 35, 3) := by decide +kernel
theorem d15_7 : decode prog_2_method_23_code 7 = .ok (.lmul, 1) := by decide +kernel
theorem d15_8 : decode prog_2_method_23_code 8 = .ok (.lstore 5, 2) := by decide +kernel
theorem d15_10 : decode prog_2_method_23_code 10 = .ok (.aload_n 0, 1) := by decide +kernel
theorem d15_11 : decode prog_2_method_23_code 11 = .ok (.lload_n 1, 1) := by decide +kernel
theorem d15_12 : decode prog_2_method_23_code 12 = .ok (.putfield 84, 3) := by decide +kernel
theorem d15_15 : decode prog_2_method_23_code 15 = .ok (.aload_n 0, 1) := by decide +kernel
theorem d15_16 : decode prog_2_method_23_code 16 = .ok (.lload 5, 2) := by decide +kernel
theorem d15_18 : decode prog_2_method_23_code 18 = .ok (.lload_n 3, 1) := by decide +kernel
theorem d15_19 : decode prog_2_method_23_code 19 = .ok (.lcmp, 1) := by decide +kernel
theorem d15_20 : decode prog_2_method_23_code 20 = .ok (.ifCond .le 8, 3) := by decide +kernel
theorem d15_23 : decode prog_2_method_23_code 23 = .ok (.lload 5, 2) := by decide +kernel
theorem d15_25 : decode prog_2_method_23_code 25 = .ok (.goto 6, 3) := by decide +kernel
theorem d15_28 : decode prog_2_method_23_code 28 = .ok (.ldc2_w 27, 3) := by decide +kernel
theorem d15_31 : decode prog_2_method_23_code 31 = .ok (.putfield 53, 3) := by decide +kernel
theorem d15_34 : decode prog_2_method_23_code 34 = .ok (.return_, 1) := by decide +kernel
theorem d16_0 : decode prog_2_method_19_code 0 = .ok (.iconst 0, 1) := by decide +kernel
theorem d16_1 : decode prog_2_method_19_code 1 = .ok (.istore_n 3, 1) := by decide +kernel
theorem d16_2 : decode prog_2_method_19_code 2 = .ok (.iload_n 3, 1) := by decide +kernel
theorem d16_3 : decode prog_2_method_19_code 3 = .ok (.aload_n 0, 1) := by decide +kernel
theorem d16_4 : decode prog_2_method_19_code 4 = .ok (.getfield 47, 3) := by decide +kernel
theorem d16_7 : decode prog_2_method_19_code 7 = .ok (.arraylength, 1) := by decide +kernel
theorem d16_8 : decode prog_2_method_19_code 8 = .ok (.if_icmp .ge 44, 3) := by decide +kernel
theorem d16_11 : decode prog_2_method_19_code 11 = .ok (.aload_n 0, 1) := by decide +kernel
theorem d16_12 : decode prog_2_method_19_code 12 = .ok (.getfield 47, 3) := by decide +kernel
theorem d16_15 : decode prog_2_method_19_code 15 = .ok (.iload_n 3, 1) := by decide +kernel
theorem d16_16 : decode prog_2_method_19_code 16 = .ok (.iconst 1, 1) := by decide +kernel
theorem d16_17 : decode prog_2_method_19_code 17 = .ok (.iadd, 1) := by decide +kernel
theorem d16_18 : decode prog_2_method_19_code 18 = .ok (.laload, 1) := by decide +kernel
theorem d16_19 : decode prog_2_method_19_code 19 = .ok (.lconst 0, 1) := by decide +kernel
theorem d16_20 : decode prog_2_method_19_code 20 = .ok (.lcmp, 1) := by decide +kernel
theorem d16_21 : decode prog_2_method_19_code 21 = .ok (.ifCond .le 13, 3) := by decide +kernel
theorem d16_24 : decode prog_2_method_19_code 24 = .ok (.aload_n 0, 1) := by decide +kernel
theorem d16_25 : decode prog_2_method_19_code 25 = .ok (.getfield 47, 3) := by decide +kernel
theorem d16_28 : decode prog_2_method_19_code 28 = .ok (.iload_n 3, 1) := by decide +kernel
theorem d16_29 : decode prog_2_method_19_code 29 = .ok (.dup2, 1) := by decide +kernel
theorem d16_30 : decode prog_2_method_19_code 30 = .ok (.laload, 1) := by decide +kernel
theorem d16_31 : decode prog_2_method_19_code 31 = .ok (.lload_n 1, 1) := by decide +kernel
theorem d16_32 : decode prog_2_method_19_code 32 = .ok (.ladd, 1) := by decide +kernel
theorem d16_33 : decode prog_2_method_19_code 33 = .ok (.lastore, 1) := by decide +kernel
theorem d16_34 : decode prog_2_method_19_code 34 = .ok (.aload_n 0, 1) := by decide +kernel
theorem d16_35 : decode prog_2_method_19_code 35 = .ok (.getfield 47, 3) := by decide +kernel
theorem d16_38 : decode prog_2_method_19_code 38 = .ok (.iload_n 3, 1) := by decide +kernel
theorem d16_39 : decode prog_2_method_19_code 39 = .ok (.iconst 1, 1) := by decide +kernel
theorem d16_40 : decode prog_2_method_19_code 40 = .ok (.iadd, 1) := by decide +kernel
theorem d16_41 : decode prog_2_method_19_code 41 = .ok (.dup2, 1) := by decide +kernel
theorem d16_42 : decode prog_2_method_19_code 42 = .ok (.laload, 1) := by decide +kernel
theorem d16_43 : decode prog_2_method_19_code 43 = .ok (.lconst 1, 1) := by decide +kernel
theorem d16_44 : decode prog_2_method_19_code 44 = .ok (.ladd, 1) := by decide +kernel
theorem d16_45 : decode prog_2_method_19_code 45 = .ok (.lastore, 1) := by decide +kernel
theorem d16_46 : decode prog_2_method_19_code 46 = .ok (.iinc 3 2, 3) := by decide +kernel
theorem d16_49 : decode prog_2_method_19_code 49 = .ok (.goto (-47), 3) := by decide +kernel
theorem d16_52 : decode prog_2_method_19_code 52 = .ok (.return_, 1) := by decide +kernel
theorem d17_0 : decode prog_2_method_24_code 0 = .ok (.aload_n 0, 1) := by decide +kernel
theorem d17_1 : decode prog_2_method_24_code 1 = .ok (.getfield 93, 3) := by decide +kernel
theorem d17_4 : decode prog_2_method_24_code 4 = .ok (.aload_n 0, 1) := by decide +kernel
theorem d17_5 : decode prog_2_method_24_code 5 = .ok (.getfield 21, 3) := by decide +kernel
theorem d17_8 : decode prog_2_method_24_code 8 = .ok (.arraylength, 1) := by decide +kernel
theorem d17_9 : decode prog_2_method_24_code 9 = .ok (.if_icmp .ne 7, 3) := by decide +kernel
theorem d17_12 : decode prog_2_method_24_code 12 = .ok (.aload_n 0, 1) := by decide +kernel
theorem d17_13 : decode prog_2_method_24_code 13 = .ok (.invokevirtual 115, 3) := by decide +kernel
theorem d17_16 : decode prog_2_method_24_code 16 = .ok (.aload_n 0, 1) := by decide +kernel
theorem d17_17 : decode prog_2_method_24_code 17 = .ok (.getfield 21, 3) := by decide +kernel
theorem d17_20 : decode prog_2_method_24_code 20 = .ok (.aload_n 0, 1) := by decide +kernel
theorem d17_21 : decode prog_2_method_24_code 21 = .ok (.aload_n 0, 1) := by decide +kernel
theorem d17_22 : decode prog_2_method_24_code 22 = .ok (.getfield 93, 3) := by decide +kernel
theorem d17_25 : decode prog_2_method_24_code 25 = .ok (.invokevirtual 100, 3) := by decide +kernel
theorem d17_28 : decode prog_2_method_24_code 28 = .ok (.lload_n 1, 1) := by decide +kernel
theorem d17_29 : decode prog_2_method_24_code 29 = .ok (.lastore, 1) := by decide +kernel
theorem d17_30 : decode prog_2_method_24_code 30 = .ok (.aload_n 0, 1) := by decide +kernel
theorem d17_31 : decode prog_2_method_24_code 31 = .ok (.getfield 24, 3) := by decide +kernel
theorem d17_34 : decode prog_2_method_24_code 34 = .ok (.aload_n 0, 1) := by decide +kernel
theorem d17_35 : decode prog_2_method_24_code 35 = .ok (.aload_n 0, 1) := by decide +kernel
theorem d17_36 : decode prog_2_method_24_code 36 = .ok (.getfield 93, 3) := by decide +kernel
theorem d17_39 : decode prog_2_method_24_code 39 = .ok (.invokevirtual 100, 3) := by decide +kernel
theorem d17_42 : decode prog_2_method_24_code 42 = .ok (.lload_n 3, 1) := by decide +kernel
theorem d17_43 : decode prog_2_method_24_code 43 = .ok (.lastore, 1) := by decide +kernel
theorem d17_44 : decode prog_2_method_24_code 44 = .ok (.aload_n 0, 1) := by decide +kernel
theorem d17_45 : decode prog_2_method_24_code 45 = .ok (.dup, 1) := by decide +kernel
theorem d17_46 : decode prog_2_method_24_code 46 = .ok (.getfield 93, 3) := by decide +kernel
theorem d17_49 : decode prog_2_method_24_code 49 = .ok (.iconst 1, 1) := by decide +kernel
theorem d17_50 : decode prog_2_method_24_code 50 = .ok (.iadd, 1) := by decide +kernel
theorem d17_51 : decode prog_2_method_24_code 51 = .ok (.putfield 93, 3) := by decide +kernel
theorem d17_54 : decode prog_2_method_24_code 54 = .ok (.aload_n 0, 1) := by decide +kernel
theorem d17_55 : decode prog_2_method_24_code 55 = .ok (.dup, 1) := by decide +kernel
theorem d17_56 : decode prog_2_method_24_code 56 = .ok (.getfield 87, 3) := by decide +kernel
theorem d17_59 : decode prog_2_method_24_code 59 = .ok (.lload_n 3, 1) := by decide +kernel
theorem d17_60 : decode prog_2_method_24_code 60 = .ok (.ladd, 1) := by decide +kernel
theorem d17_61 : decode prog_2_method_24_code 61 = .ok (.putfield 87, 3) := by decide +kernel
theorem d17_64 : decode prog_2_method_24_code 64 = .ok (.return_, 1) := by decide +kernel
theorem d18_0 : decode prog_2_method_26_code 0 = .ok (.iconst 4, 1) := by decide +kernel
theorem d18_1 : decode prog_2_method_26_code 1 = .ok (.aload_n 0, 1) := by decide +kernel
theorem d18_2 : decode prog_2_method_26_code 2 = .ok (.getfield 21, 3) := by decide +kernel
theorem d18_5 : decode prog_2_method_26_code 5 = .ok (.arraylength, 1) := by decide +kernel
theorem d18_6 : decode prog_2_method_26_code 6 = .ok (.iconst 2, 1) := by decide +kernel
theorem d18_7 : decode prog_2_method_26_code 7 = .ok (.imul, 1) := by decide +kernel
theorem d18_8 : decode prog_2_method_26_code 8 = .ok (.invokestatic 118, 3) := by decide +kernel
theorem d18_11 : decode prog_2_method_26_code 11 = .ok (.istore_n 1, 1) := by decide +kernel
theorem d18_12 : decode prog_2_method_26_code 12 = .ok (.iload_n 1, 1) := by decide +kernel
theorem d18_13 : decode prog_2_method_26_code 13 = .ok (.newarray .long, 2) := by decide +kernel
theorem d18_15 : decode prog_2_method_26_code 15 = .ok (.astore_n 2, 1) := by decide +kernel
theorem d18_16 : decode prog_2_method_26_code 16 = .ok (.iload_n 1, 1) := by decide +kernel
theorem d18_17 : decode prog_2_method_26_code 17 = .ok (.newarray .long, 2) := by decide +kernel
theorem d18_19 : decode prog_2_method_26_code 19 = .ok (.astore_n 3, 1) := by decide +kernel
theorem d18_20 : decode prog_2_method_26_code 20 = .ok (.iconst 0, 1) := by decide +kernel
theorem d18_21 : decode prog_2_method_26_code 21 = .ok (.istore 4, 2) := by decide +kernel
theorem d18_23 : decode prog_2_method_26_code 23 = .ok (.iload 4, 2) := by decide +kernel
theorem d18_25 : decode prog_2_method_26_code 25 = .ok (.aload_n 0, 1) := by decide +kernel
theorem d18_26 : decode prog_2_method_26_code 26 = .ok (.getfield 93, 3) := by decide +kernel
theorem d18_29 : decode prog_2_method_26_code 29 = .ok (.if_icmp .ge 39, 3) := by decide +kernel
theorem d18_68 : decode prog_2_method_26_code 68 = .ok (.aload_n 0, 1) := by decide +kernel
theorem d18_69 : decode prog_2_method_26_code 69 = .ok (.aload_n 2, 1) := by decide +kernel
theorem d18_70 : decode prog_2_method_26_code 70 = .ok (.putfield 21, 3) := by decide +kernel
theorem d18_73 : decode prog_2_method_26_code 73 = .ok (.aload_n 0, 1) := by decide +kernel
theorem d18_74 : decode prog_2_method_26_code 74 = .ok (.aload_n 3, 1) := by decide +kernel
theorem d18_75 : decode prog_2_method_26_code 75 = .ok (.putfield 24, 3) := by decide +kernel
theorem d18_78 : decode prog_2_method_26_code 78 = .ok (.aload_n 0, 1) := by decide +kernel
theorem d18_79 : decode prog_2_method_26_code 79 = .ok (.iconst 0, 1) := by decide +kernel
theorem d18_80 : decode prog_2_method_26_code 80 = .ok (.putfield 97, 3) := by decide +kernel
theorem d18_83 : decode prog_2_method_26_code 83 = .ok (.return_, 1) := by decide +kernel
theorem d19_0 : decode jdk_29_method_65_code 0 = .ok (.iload_n 0, 1) := by decide +kernel
theorem d19_1 : decode jdk_29_method_65_code 1 = .ok (.iload_n 1, 1) := by decide +kernel
theorem d19_2 : decode jdk_29_method_65_code 2 = .ok (.if_icmp .lt 7, 3) := by decide +kernel
theorem d19_5 : decode jdk_29_method_65_code 5 = .ok (.iload_n 0, 1) := by decide +kernel
theorem d19_6 : decode jdk_29_method_65_code 6 = .ok (.goto 4, 3) := by decide +kernel
theorem d19_10 : decode jdk_29_method_65_code 10 = .ok (.ireturn, 1) := by decide +kernel
theorem d20_0 : decode prog_2_method_25_code 0 = .ok (.aload_n 0, 1) := by decide +kernel
theorem d20_1 : decode prog_2_method_25_code 1 = .ok (.getfield 97, 3) := by decide +kernel
theorem d20_4 : decode prog_2_method_25_code 4 = .ok (.iload_n 1, 1) := by decide +kernel
theorem d20_5 : decode prog_2_method_25_code 5 = .ok (.iadd, 1) := by decide +kernel
theorem d20_6 : decode prog_2_method_25_code 6 = .ok (.aload_n 0, 1) := by decide +kernel
theorem d20_7 : decode prog_2_method_25_code 7 = .ok (.getfield 21, 3) := by decide +kernel
theorem d20_10 : decode prog_2_method_25_code 10 = .ok (.arraylength, 1) := by decide +kernel
theorem d20_11 : decode prog_2_method_25_code 11 = .ok (.iconst 1, 1) := by decide +kernel
theorem d20_12 : decode prog_2_method_25_code 12 = .ok (.isub, 1) := by decide +kernel
theorem d20_13 : decode prog_2_method_25_code 13 = .ok (.iand, 1) := by decide +kernel
theorem d20_14 : decode prog_2_method_25_code 14 = .ok (.ireturn, 1) := by decide +kernel
theorem d21_0 : decode prog_2_method_21_code 0 = .ok (.iload_n 1, 1) := by decide +kernel
theorem d21_1 : decode prog_2_method_21_code 1 = .ok (.aload_n 0, 1) := by decide +kernel
theorem d21_2 : decode prog_2_method_21_code 2 = .ok (.getfield 93, 3) := by decide +kernel
theorem d21_5 : decode prog_2_method_21_code 5 = .ok (.if_icmp .ge 16, 3) := by decide +kernel
theorem d21_8 : decode prog_2_method_21_code 8 = .ok (.aload_n 0, 1) := by decide +kernel
theorem d21_9 : decode prog_2_method_21_code 9 = .ok (.getfield 21, 3) := by decide +kernel
theorem d21_12 : decode prog_2_method_21_code 12 = .ok (.aload_n 0, 1) := by decide +kernel
theorem d21_13 : decode prog_2_method_21_code 13 = .ok (.iload_n 1, 1) := by decide +kernel
theorem d21_14 : decode prog_2_method_21_code 14 = .ok (.invokevirtual 100, 3) := by decide +kernel
theorem d21_17 : decode prog_2_method_21_code 17 = .ok (.laload, 1) := by decide +kernel
theorem d21_18 : decode prog_2_method_21_code 18 = .ok (.goto 7, 3) := by decide +kernel
theorem d21_21 : decode prog_2_method_21_code 21 = .ok (.aload_n 0, 1) := by decide +kernel
theorem d21_22 : decode prog_2_method_21_code 22 = .ok (.getfield 84, 3) := by decide +kernel
theorem d21_25 : decode prog_2_method_21_code 25 = .ok (.lreturn, 1) := by decide +kernel
theorem d22_0 : decode prog_2_method_22_code 0 = .ok (.iload_n 1, 1) := by decide +kernel
theorem d22_1 : decode prog_2_method_22_code 1 = .ok (.aload_n 0, 1) := by decide +kernel
theorem d22_2 : decode prog_2_method_22_code 2 = .ok (.getfield 93, 3) := by decide +kernel
theorem d22_5 : decode prog_2_method_22_code 5 = .ok (.if_icmp .ge 16, 3) := by decide +kernel
theorem d22_8 : decode prog_2_method_22_code 8 = .ok (.aload_n 0, 1) := by decide +kernel
theorem d22_9 : decode prog_2_method_22_code 9 = .ok (.getfield 24, 3) := by decide +kernel
theorem d22_12 : decode prog_2_method_22_code 12 = .ok (.aload_n 0, 1) := by decide +kernel
theorem d22_13 : decode prog_2_method_22_code 13 = .ok (.iload_n 1, 1) := by decide +kernel
theorem d22_14 : decode prog_2_method_22_code 14 = .ok (.invokevirtual 100, 3) := by decide +kernel
theorem d22_17 : decode prog_2_method_22_code 17 = .ok (.laload, 1) := by decide +kernel
theorem d22_18 : decode prog_2_method_22_code 18 = .ok (.goto 4, 3) := by decide +kernel
theorem d22_21 : decode prog_2_method_22_code 21 = .ok (.lconst 0, 1) := by decide +kernel
theorem d22_22 : decode prog_2_method_22_code 22 = .ok (.lreturn, 1) := by decide +kernel
theorem ef_rm5 (m : MethodId) (x0 : Addr) : entryFrame m #[(.ref x0)] 1 = mkF m 0 #[.val (.ref x0)] [] := by first | (simp [entryFrame, mkF, argsToLocals, Value.category]; done) | rfl
def Q_rm5 (Z : State) (a1 : Addr) (h0 : Heap) (n0 : Nat) (v : Option Value) (h : Heap) (L : List Loc) : Prop := v = none ∧ Fr n0 L ∧ h = h0
set_option maxRecDepth 65536 in
set_option maxHeartbeats 40000000 in
theorem rm5 (l : Launch) (Z : State) (a0 : Array Value) (hw : ∀ d ∈ tables_1, d.before a0 Z = true) (ws : List Jvm.Cond) (a1 : Addr) (h0 : Heap) (n0 : Nat) (Z0 : n0 ≤ h0.size)  :
    MetFree l (⟨"com/example/okno/okno/KeyTurn", "<init>", "()V"⟩ : MethodName) (head1 (Jvm.Cond.code (⟨"com/example/okno/okno/KeyTurn", "<init>", "()V"⟩ : MethodName) prog_8_method_1_code 1 none :: ws) ({ frames := 1, cells := 0, slots := 0, locals := 12 } : Room)) (fun a U => a = #[(.ref a1)] ∧ Z.Warmed39 U.vm ∧ U.heap = h0) (fun _ _ _ _ _ => True) (fun _ U o U' => ∃ v L, o = .returned v ∧ Q_rm5 Z a1 h0 n0 v U'.heap L ∧ FrameEnd U o U' L ({ frames := 1, cells := 0, slots := 0, locals := 12 } : Room).cells ({ frames := 1, cells := 0, slots := 0, locals := 12 } : Room).slots) := by
  refine MetFree.of_bodySF (plainFor_of_name pn_0) hisR ?_
  intro p e s m args below meth c s₁ Bd hml0 hP hK
  obtain ⟨rfl, hZ, hh⟩ := hP
  have hx := Bd.exec
  have hby := Bd.bytes
  have hml : c.maxLocals = 1 := hml0
  have hown : s.vm.findClass "com/example/okno/okno/KeyTurn" = some m.cls := findClass_of_methodNamed Bd.named
  have hnm := (name_of_methodNamed Bd.named Bd.method).1
  have X0 : Stand p l e ({ frames := 1, cells := 0, slots := 0, locals := 12 } : Room) s m #[(.ref a1)] below meth c s₁ [] 0 0 := Stand.of_body Bd
  have e0 : s₁.heap = h0 := by rw [← hh, Bd.state]; rfl
  have N0 := Fr.nil n0
  have KR : Keep h0 h0 [] := Keep.refl h0 _
  have pre0 : ∀ t, Steps p.tables e below (s₁.setTop (mkF m 0 #[.val (.ref a1)] [])) t → Steps p.tables e below (s₁.setTop (entryFrame m #[(.ref a1)] 1)) t := fun t k => castTop (ef_rm5 m (a1)) k
  obtain ⟨T1, X1, e1, st1⟩ := initO X0 hx hZ hown (kw27 hw) (kw28 hw) (kw29 hw) e0 (g := (mkF m 1 #[.val (.ref a1)] [(.ref a1)])) rfl (by rw [hml]; rfl) rfl (hb hby d5_1) (by decide) (W := 0) (by show 2 * 0 + _ ≤ _; exact Nat.le_of_eq rfl) (by decide)
  obtain ⟨fs, hr, hrun, hended, hW, hsame⟩ := X1.leave (v := none) (fun _ => rfl)
  refine ⟨_, _, pre0 _ ?_, hrun, hended, _, _, rfl, ?_, ⟨_, rfl⟩, hW, hsame.mono (by decide) (by decide)⟩
  · skip
    show Steps p.tables e below (s₁.setTop (mkF m 0 #[.val (.ref a1)] [])) _
    refine XS.aloadN X0.here hx rfl (hb hby d5_0) rfl rfl ?_
    show Steps p.tables e below (s₁.setTop (mkF m 1 #[.val (.ref a1)] [(.ref a1)])) _
    refine st1 _ ?_
    show Steps p.tables e below (T1.setTop (mkF m 4 #[.val (.ref a1)] [])) _
    exact X1.returnOut hx Bd.returns (hb hby d5_4) hr
  · show Q_rm5 Z a1 h0 n0 _ T1.heap _
    rw [e1]
    exact ⟨rfl, N0, rfl⟩
theorem ef_rm7 (m : MethodId) (x0 : Int64) (x1 : Int64) : entryFrame m #[(.long x0), (.long x1)] 6 = mkF m 0 #[.val (.long x0), .second, .val (.long x1), .second, .unset, .unset] [] := by first | (simp [entryFrame, mkF, argsToLocals, Value.category]; done) | rfl
def Q_rm7 (Z : State) (q1 : Int64) (q2 : Int64) (h0 : Heap) (n0 : Nat) (v : Option Value) (h : Heap) (L : List Loc) : Prop := v = some (.long (own_fd q1 q2)) ∧ Fr n0 L ∧ h = h0
set_option maxRecDepth 65536 in
set_option maxHeartbeats 40000000 in
theorem rm7 (l : Launch) (Z : State) (a0 : Array Value) (hw : ∀ d ∈ tables_1, d.before a0 Z = true) (ws : List Jvm.Cond) (q1 : Int64) (q2 : Int64) (h0 : Heap) (n0 : Nat) (Z0 : n0 ≤ h0.size) (hz : q2 ≠ (0 : Int64)) :
    MetFree l (⟨"java/lang/Math", "floorDiv", "(JJ)J"⟩ : MethodName) (head1 (Jvm.Cond.code (⟨"java/lang/Math", "floorDiv", "(JJ)J"⟩ : MethodName) jdk_29_method_49_code 6 (some .long) :: ws) ({ frames := 0, cells := 0, slots := 0, locals := 0 } : Room)) (fun a U => a = #[(.long q1), (.long q2)] ∧ Z.Warmed39 U.vm ∧ U.heap = h0) (fun _ _ _ _ _ => True) (fun _ U o U' => ∃ v L, o = .returned v ∧ Q_rm7 Z q1 q2 h0 n0 v U'.heap L ∧ FrameEnd U o U' L ({ frames := 0, cells := 0, slots := 0, locals := 0 } : Room).cells ({ frames := 0, cells := 0, slots := 0, locals := 0 } : Room).slots) := by
  refine MetFree.of_bodySF (Jvm.Free.JP.mathPlain rfl (by decide +kernel)) hisR ?_
  intro p e s m args below meth c s₁ Bd hml0 hP hK
  obtain ⟨rfl, hZ, hh⟩ := hP
  have hx := Bd.exec
  have hby := Bd.bytes
  have hml : c.maxLocals = 6 := hml0
  have hown : s.vm.findClass "java/lang/Math" = some m.cls := findClass_of_methodNamed Bd.named
  have hnm := (name_of_methodNamed Bd.named Bd.method).1
  have X0 : Stand p l e ({ frames := 0, cells := 0, slots := 0, locals := 0 } : Room) s m #[(.long q1), (.long q2)] below meth c s₁ [] 0 0 := Stand.of_body Bd
  have e0 : s₁.heap = h0 := by rw [← hh, Bd.state]; rfl
  have N0 := Fr.nil n0
  have KR : Keep h0 h0 [] := Keep.refl h0 _
  have pre0 : ∀ t, Steps p.tables e below (s₁.setTop (mkF m 0 #[.val (.long q1), .second, .val (.long q2), .second, .unset, .unset] [])) t → Steps p.tables e below (s₁.setTop (entryFrame m #[(.long q1), (.long q2)] 6)) t := fun t k => castTop (ef_rm7 m (q1) (q2)) k
  have pre1 : ∀ t, Steps p.tables e below (s₁.setTop (mkF m 10 #[.val (.long q1), .second, .val (.long q2), .second, .val (.long (q1 / q2)), .second] [(.int (lcmpW (q1 ^^^ q2) (0 : Int64)))])) t → Steps p.tables e below (s₁.setTop (entryFrame m #[(.long q1), (.long q2)] 6)) t := fun t k => pre0 t (by
    show Steps p.tables e below (s₁.setTop (mkF m 0 #[.val (.long q1), .second, .val (.long q2), .second, .unset, .unset] [])) _
    refine XS.lloadN X0.here hx rfl (hb hby d7_0) rfl ?_
    show Steps p.tables e below (s₁.setTop (mkF m 1 #[.val (.long q1), .second, .val (.long q2), .second, .unset, .unset] [(.long q1)])) _
    refine XS.lloadN X0.here hx rfl (hb hby d7_1) rfl ?_
    show Steps p.tables e below (s₁.setTop (mkF m 2 #[.val (.long q1), .second, .val (.long q2), .second, .unset, .unset] [(.long q2), (.long q1)])) _
    refine XS.ldiv X0.here hx rfl (hb hby d7_2) rfl hz ?_
    show Steps p.tables e below (s₁.setTop (mkF m 3 #[.val (.long q1), .second, .val (.long q2), .second, .unset, .unset] [(.long (q1 / q2))])) _
    refine XS.lstore X0.here hx rfl (hb hby d7_3) rfl (l' := #[.val (.long q1), .second, .val (.long q2), .second, .val (.long (q1 / q2)), .second]) rfl ?_
    show Steps p.tables e below (s₁.setTop (mkF m 5 #[.val (.long q1), .second, .val (.long q2), .second, .val (.long (q1 / q2)), .second] [])) _
    refine XS.lloadN X0.here hx rfl (hb hby d7_5) rfl ?_
    show Steps p.tables e below (s₁.setTop (mkF m 6 #[.val (.long q1), .second, .val (.long q2), .second, .val (.long (q1 / q2)), .second] [(.long q1)])) _
    refine XS.lloadN X0.here hx rfl (hb hby d7_6) rfl ?_
    show Steps p.tables e below (s₁.setTop (mkF m 7 #[.val (.long q1), .second, .val (.long q2), .second, .val (.long (q1 / q2)), .second] [(.long q2), (.long q1)])) _
    refine XS.lxor X0.here hx rfl (hb hby d7_7) rfl ?_
    show Steps p.tables e below (s₁.setTop (mkF m 8 #[.val (.long q1), .second, .val (.long q2), .second, .val (.long (q1 / q2)), .second] [(.long (q1 ^^^ q2))])) _
    refine XS.lconst X0.here hx rfl (hb hby d7_8) ?_
    show Steps p.tables e below (s₁.setTop (mkF m 9 #[.val (.long q1), .second, .val (.long q2), .second, .val (.long (q1 / q2)), .second] [(.long (0 : Int64)), (.long (q1 ^^^ q2))])) _
    refine XS.lcmp X0.here hx rfl (hb hby d7_9) rfl ?_
    show Steps p.tables e below (s₁.setTop (mkF m 10 #[.val (.long q1), .second, .val (.long q2), .second, .val (.long (q1 / q2)), .second] [(.int (lcmpW (q1 ^^^ q2) (0 : Int64)))])) _
    exact k)
  by_cases hc2 : (q1 ^^^ q2) < (0 : Int64)
  · skip
    have pre3 : ∀ t, Steps p.tables e below (s₁.setTop (mkF m 19 #[.val (.long q1), .second, .val (.long q2), .second, .val (.long (q1 / q2)), .second] [(.int (lcmpW ((q1 / q2) * q2) q1))])) t → Steps p.tables e below (s₁.setTop (entryFrame m #[(.long q1), (.long q2)] 6)) t := fun t k => pre1 t (by
      refine XS.ifNo X0.here hx rfl (hb hby d7_10) rfl ((if0 _ _).trans (tlt ((lw_lt _ _).mpr hc2)).2.1) ?_
      show Steps p.tables e below (s₁.setTop (mkF m 13 #[.val (.long q1), .second, .val (.long q2), .second, .val (.long (q1 / q2)), .second] [])) _
      refine XS.lload X0.here hx rfl (hb hby d7_13) rfl ?_
      show Steps p.tables e below (s₁.setTop (mkF m 15 #[.val (.long q1), .second, .val (.long q2), .second, .val (.long (q1 / q2)), .second] [(.long (q1 / q2))])) _
      refine XS.lloadN X0.here hx rfl (hb hby d7_15) rfl ?_
      show Steps p.tables e below (s₁.setTop (mkF m 16 #[.val (.long q1), .second, .val (.long q2), .second, .val (.long (q1 / q2)), .second] [(.long q2), (.long (q1 / q2))])) _
      refine XS.lmul X0.here hx rfl (hb hby d7_16) rfl ?_
      show Steps p.tables e below (s₁.setTop (mkF m 17 #[.val (.long q1), .second, .val (.long q2), .second, .val (.long (q1 / q2)), .second] [(.long ((q1 / q2) * q2))])) _
      refine XS.lloadN X0.here hx rfl (hb hby d7_17) rfl ?_
      show Steps p.tables e below (s₁.setTop (mkF m 18 #[.val (.long q1), .second, .val (.long q2), .second, .val (.long (q1 / q2)), .second] [(.long q1), (.long ((q1 / q2) * q2))])) _
      refine XS.lcmp X0.here hx rfl (hb hby d7_18) rfl ?_
      show Steps p.tables e below (s₁.setTop (mkF m 19 #[.val (.long q1), .second, .val (.long q2), .second, .val (.long (q1 / q2)), .second] [(.int (lcmpW ((q1 / q2) * q2) q1))])) _
      exact k)
    by_cases hc4 : ((q1 / q2) * q2) = q1
    · skip
      obtain ⟨fs, hr, hrun, hended, hW, hsame⟩ := X0.leave (v := some (.long (q1 / q2))) (fun h => by rw [Bd.returns] at h; cases h)
      refine ⟨_, _, pre3 _ ?_, hrun, hended, _, _, rfl, ?_, ⟨_, rfl⟩, hW, hsame.mono (by decide) (by decide)⟩
      · skip
        refine XS.ifYes X0.here hx rfl (pc0 := 19) (pc' := 27) rfl (hb hby d7_19) rfl ((if0 _ _).trans (teq ((lw_eq _ _).mpr hc4)).1) (by decide) (by decide) ?_
        show Steps p.tables e below (s₁.setTop (mkF m 27 #[.val (.long q1), .second, .val (.long q2), .second, .val (.long (q1 / q2)), .second] [])) _
        refine XS.lload X0.here hx rfl (hb hby d7_27) rfl ?_
        show Steps p.tables e below (s₁.setTop (mkF m 29 #[.val (.long q1), .second, .val (.long q2), .second, .val (.long (q1 / q2)), .second] [(.long (q1 / q2))])) _
        jvm_step X0.here [X0.here.top, hx, (hb hby d7_29), X0.method', Bd.returns, narrow]
        first | (intro acts; rw [hr _ acts rfl rfl rfl]) | rw [hr _ _ rfl rfl rfl]
        exact Steps.refl _
      · show Q_rm7 Z q1 q2 h0 n0 _ s₁.heap _
        rw [e0]
        exact ⟨(by unfold own_fd; rw [if_pos hc2, if_pos hc4]), N0, rfl⟩
    · skip
      obtain ⟨fs, hr, hrun, hended, hW, hsame⟩ := X0.leave (v := some (.long ((q1 / q2) - (1 : Int64)))) (fun h => by rw [Bd.returns] at h; cases h)
      refine ⟨_, _, pre3 _ ?_, hrun, hended, _, _, rfl, ?_, ⟨_, rfl⟩, hW, hsame.mono (by decide) (by decide)⟩
      · skip
        refine XS.ifNo X0.here hx rfl (hb hby d7_19) rfl ((if0 _ _).trans (feq (fun q => hc4 ((lw_eq _ _).mp q))).1) ?_
        show Steps p.tables e below (s₁.setTop (mkF m 22 #[.val (.long q1), .second, .val (.long q2), .second, .val (.long (q1 / q2)), .second] [])) _
        refine XS.lload X0.here hx rfl (hb hby d7_22) rfl ?_
        show Steps p.tables e below (s₁.setTop (mkF m 24 #[.val (.long q1), .second, .val (.long q2), .second, .val (.long (q1 / q2)), .second] [(.long (q1 / q2))])) _
        refine XS.lconst X0.here hx rfl (hb hby d7_24) ?_
        show Steps p.tables e below (s₁.setTop (mkF m 25 #[.val (.long q1), .second, .val (.long q2), .second, .val (.long (q1 / q2)), .second] [(.long (1 : Int64)), (.long (q1 / q2))])) _
        refine XS.lsub X0.here hx rfl (hb hby d7_25) rfl ?_
        show Steps p.tables e below (s₁.setTop (mkF m 26 #[.val (.long q1), .second, .val (.long q2), .second, .val (.long (q1 / q2)), .second] [(.long ((q1 / q2) - (1 : Int64)))])) _
        jvm_step X0.here [X0.here.top, hx, (hb hby d7_26), X0.method', Bd.returns, narrow]
        first | (intro acts; rw [hr _ acts rfl rfl rfl]) | rw [hr _ _ rfl rfl rfl]
        exact Steps.refl _
      · show Q_rm7 Z q1 q2 h0 n0 _ s₁.heap _
        rw [e0]
        exact ⟨(by unfold own_fd; rw [if_pos hc2, if_neg hc4]), N0, rfl⟩
  · skip
    obtain ⟨fs, hr, hrun, hended, hW, hsame⟩ := X0.leave (v := some (.long (q1 / q2))) (fun h => by rw [Bd.returns] at h; cases h)
    refine ⟨_, _, pre1 _ ?_, hrun, hended, _, _, rfl, ?_, ⟨_, rfl⟩, hW, hsame.mono (by decide) (by decide)⟩
    · skip
      refine XS.ifYes X0.here hx rfl (pc0 := 10) (pc' := 27) rfl (hb hby d7_10) rfl ((if0 _ _).trans (flt (fun q => hc2 ((lw_lt _ _).mp q))).2.1) (by decide) (by decide) ?_
      show Steps p.tables e below (s₁.setTop (mkF m 27 #[.val (.long q1), .second, .val (.long q2), .second, .val (.long (q1 / q2)), .second] [])) _
      refine XS.lload X0.here hx rfl (hb hby d7_27) rfl ?_
      show Steps p.tables e below (s₁.setTop (mkF m 29 #[.val (.long q1), .second, .val (.long q2), .second, .val (.long (q1 / q2)), .second] [(.long (q1 / q2))])) _
      jvm_step X0.here [X0.here.top, hx, (hb hby d7_29), X0.method', Bd.returns, narrow]
      first | (intro acts; rw [hr _ acts rfl rfl rfl]) | rw [hr _ _ rfl rfl rfl]
      exact Steps.refl _
    · show Q_rm7 Z q1 q2 h0 n0 _ s₁.heap _
      rw [e0]
      exact ⟨(by unfold own_fd; rw [if_neg hc2]), N0, rfl⟩
theorem ef_rmMin (m : MethodId) (x0 : Int64) (x1 : Int64) : entryFrame m #[(.long x0), (.long x1)] 4 = mkF m 0 #[.val (.long x0), .second, .val (.long x1), .second] [] := by first | (simp [entryFrame, mkF, argsToLocals, Value.category]; done) | rfl
def Q_rmMin (Z : State) (q1 : Int64) (q2 : Int64) (h0 : Heap) (n0 : Nat) (v : Option Value) (h : Heap) (L : List Loc) : Prop := v = some (.long (own_mn q1 q2)) ∧ Fr n0 L ∧ h = h0
set_option maxRecDepth 65536 in
set_option maxHeartbeats 40000000 in
theorem rmMin (l : Launch) (Z : State) (a0 : Array Value) (hw : ∀ d ∈ tables_1, d.before a0 Z = true) (ws : List Jvm.Cond) (q1 : Int64) (q2 : Int64) (h0 : Heap) (n0 : Nat) (Z0 : n0 ≤ h0.size)  :
    MetFree l (⟨"java/lang/Math", "min", "(JJ)J"⟩ : MethodName) (head1 (Jvm.Cond.code (⟨"java/lang/Math", "min", "(JJ)J"⟩ : MethodName) jdk_29_method_70_code 4 (some .long) :: ws) ({ frames := 0, cells := 0, slots := 0, locals := 0 } : Room)) (fun a U => a = #[(.long q1), (.long q2)] ∧ Z.Warmed39 U.vm ∧ U.heap = h0) (fun _ _ _ _ _ => True) (fun _ U o U' => ∃ v L, o = .returned v ∧ Q_rmMin Z q1 q2 h0 n0 v U'.heap L ∧ FrameEnd U o U' L ({ frames := 0, cells := 0, slots := 0, locals := 0 } : Room).cells ({ frames := 0, cells := 0, slots := 0, locals := 0 } : Room).slots) := by
  refine MetFree.of_bodySF (Jvm.Free.JP.mathPlain rfl (by decide +kernel)) hisR ?_
  intro p e s m args below meth c s₁ Bd hml0 hP hK
  obtain ⟨rfl, hZ, hh⟩ := hP
  have hx := Bd.exec
  have hby := Bd.bytes
  have hml : c.maxLocals = 4 := hml0
  have hown : s.vm.findClass "java/lang/Math" = some m.cls := findClass_of_methodNamed Bd.named
  have hnm := (name_of_methodNamed Bd.named Bd.method).1
  have X0 : Stand p l e ({ frames := 0, cells := 0, slots := 0, locals := 0 } : Room) s m #[(.long q1), (.long q2)] below meth c s₁ [] 0 0 := Stand.of_body Bd
  have e0 : s₁.heap = h0 := by rw [← hh, Bd.state]; rfl
  have N0 := Fr.nil n0
  have KR : Keep h0 h0 [] := Keep.refl h0 _
  have pre0 : ∀ t, Steps p.tables e below (s₁.setTop (mkF m 0 #[.val (.long q1), .second, .val (.long q2), .second] [])) t → Steps p.tables e below (s₁.setTop (entryFrame m #[(.long q1), (.long q2)] 4)) t := fun t k => castTop (ef_rmMin m (q1) (q2)) k
  have pre1 : ∀ t, Steps p.tables e below (s₁.setTop (mkF m 3 #[.val (.long q1), .second, .val (.long q2), .second] [(.int (lcmpW q1 q2))])) t → Steps p.tables e below (s₁.setTop (entryFrame m #[(.long q1), (.long q2)] 4)) t := fun t k => pre0 t (by
    refine XS.lloadN X0.here hx rfl (hb hby d1_0) rfl ?_
    refine XS.lloadN X0.here hx rfl (hb hby d1_1) rfl ?_
    refine XS.lcmp X0.here hx rfl (hb hby d1_2) rfl ?_
    exact k)
  by_cases hc2 : q2 < q1
  · skip
    obtain ⟨fs, hr, hrun, hended, hW, hsame⟩ := X0.leave (v := some (.long q2)) (fun h => by rw [Bd.returns] at h; cases h)
    refine ⟨_, _, pre1 _ ?_, hrun, hended, _, _, rfl, ?_, ⟨_, rfl⟩, hW, hsame.mono (by decide) (by decide)⟩
    · skip
      refine XS.ifYes X0.here hx rfl (pc0 := 3) (pc' := 10) rfl (hb hby d1_3) rfl ((if0 _ _).trans (tlt ((lw_gt _ _).mpr hc2)).2.2.1) (by decide) (by decide) ?_
      refine XS.lloadN X0.here hx rfl (hb hby d1_10) rfl ?_
      show Steps p.tables e below (s₁.setTop (mkF m 11 #[.val (.long q1), .second, .val (.long q2), .second] [(.long q2)])) _
      jvm_step X0.here [X0.here.top, hx, (hb hby d1_11), X0.method', Bd.returns, narrow]
      first | (intro acts; rw [hr _ acts rfl rfl rfl]) | rw [hr _ _ rfl rfl rfl]
      exact Steps.refl _
    · show Q_rmMin Z q1 q2 h0 n0 _ s₁.heap _
      rw [e0]
      exact ⟨(by unfold own_mn; rw [if_pos hc2]), N0, rfl⟩
  · skip
    obtain ⟨fs, hr, hrun, hended, hW, hsame⟩ := X0.leave (v := some (.long q1)) (fun h => by rw [Bd.returns] at h; cases h)
    refine ⟨_, _, pre1 _ ?_, hrun, hended, _, _, rfl, ?_, ⟨_, rfl⟩, hW, hsame.mono (by decide) (by decide)⟩
    · skip
      refine XS.ifNo X0.here hx rfl (hb hby d1_3) rfl ((if0 _ _).trans (flt (fun q => hc2 ((lw_gt _ _).mp q))).2.2.1) ?_
      refine XS.lloadN X0.here hx rfl (hb hby d1_6) rfl ?_
      refine XS.goto X0.here hx rfl (pc0 := 7) (pc' := 11) rfl (hb hby d1_7) (by decide) (by decide) ?_
      show Steps p.tables e below (s₁.setTop (mkF m 11 #[.val (.long q1), .second, .val (.long q2), .second] [(.long q1)])) _
      jvm_step X0.here [X0.here.top, hx, (hb hby d1_11), X0.method', Bd.returns, narrow]
      first | (intro acts; rw [hr _ acts rfl rfl rfl]) | rw [hr _ _ rfl rfl rfl]
      exact Steps.refl _
    · show Q_rmMin Z q1 q2 h0 n0 _ s₁.heap _
      rw [e0]
      exact ⟨(by unfold own_mn; rw [if_neg hc2]), N0, rfl⟩
theorem ef_rmAmt (m : MethodId) (x0 : Int32) : entryFrame m #[(.int x0)] 1 = mkF m 0 #[.val (.int x0)] [] := by first | (simp [entryFrame, mkF, argsToLocals, Value.category]; done) | rfl
def Q_rmAmt (Z : State) (p1 : Int32) (h0 : Heap) (n0 : Nat) (v : Option Value) (h : Heap) (L : List Loc) : Prop := v = some (.long ((p1.toInt64 &&& (2147483647 : Int64)) + (1 : Int64))) ∧ Fr n0 L ∧ h = h0
set_option maxRecDepth 65536 in
set_option maxHeartbeats 40000000 in
theorem rmAmt (l : Launch) (Z : State) (a0 : Array Value) (hw : ∀ d ∈ tables_1, d.before a0 Z = true) (ws : List Jvm.Cond) (p1 : Int32) (h0 : Heap) (n0 : Nat) (Z0 : n0 ≤ h0.size)  :
    MetFree l (⟨"com/example/okno/okno/AdmissionLogShorterTotalPinLaw", "amountOf", "(I)J"⟩ : MethodName) (head1 (Jvm.Cond.code (⟨"com/example/okno/okno/AdmissionLogShorterTotalPinLaw", "amountOf", "(I)J"⟩ : MethodName) method_3_code 1 (some .long) :: ws) ({ frames := 0, cells := 0, slots := 0, locals := 0 } : Room)) (fun a U => a = #[(.int p1)] ∧ Z.Warmed39 U.vm ∧ U.heap = h0) (fun _ _ _ _ _ => True) (fun _ U o U' => ∃ v L, o = .returned v ∧ Q_rmAmt Z p1 h0 n0 v U'.heap L ∧ FrameEnd U o U' L ({ frames := 0, cells := 0, slots := 0, locals := 0 } : Room).cells ({ frames := 0, cells := 0, slots := 0, locals := 0 } : Room).slots) := by
  refine MetFree.of_bodySF (plainFor_of_name pn_1) hisR ?_
  intro p e s m args below meth c s₁ Bd hml0 hP hK
  obtain ⟨rfl, hZ, hh⟩ := hP
  have hx := Bd.exec
  have hby := Bd.bytes
  have hml : c.maxLocals = 1 := hml0
  have hown : s.vm.findClass "com/example/okno/okno/AdmissionLogShorterTotalPinLaw" = some m.cls := findClass_of_methodNamed Bd.named
  have hnm := (name_of_methodNamed Bd.named Bd.method).1
  have X0 : Stand p l e ({ frames := 0, cells := 0, slots := 0, locals := 0 } : Room) s m #[(.int p1)] below meth c s₁ [] 0 0 := Stand.of_body Bd
  have e0 : s₁.heap = h0 := by rw [← hh, Bd.state]; rfl
  have N0 := Fr.nil n0
  have KR : Keep h0 h0 [] := Keep.refl h0 _
  have pre0 : ∀ t, Steps p.tables e below (s₁.setTop (mkF m 0 #[.val (.int p1)] [])) t → Steps p.tables e below (s₁.setTop (entryFrame m #[(.int p1)] 1)) t := fun t k => castTop (ef_rmAmt m (p1)) k
  obtain ⟨fs, hr, hrun, hended, hW, hsame⟩ := X0.leave (v := some (.long (((p1.toInt64) &&& (2147483647 : Int64)) + (1 : Int64)))) (fun h => by rw [Bd.returns] at h; cases h)
  refine ⟨_, _, pre0 _ ?_, hrun, hended, _, _, rfl, ?_, ⟨_, rfl⟩, hW, hsame.mono (by decide) (by decide)⟩
  · skip
    refine XS.iloadN X0.here hx rfl (hb hby d2_0) rfl ?_
    refine XS.i2l X0.here hx rfl (hb hby d2_1) rfl ?_
    refine X0.ldc2Long hx hown (mvT hZ (kw12 hw)) (g := (mkF m 2 #[.val (.int p1)] [(.long (p1.toInt64))])) rfl (hb hby d2_2) _ ?_
    refine XS.land X0.here hx rfl (hb hby d2_5) rfl ?_
    refine XS.lconst X0.here hx rfl (hb hby d2_6) ?_
    refine XS.ladd X0.here hx rfl (hb hby d2_7) rfl ?_
    show Steps p.tables e below (s₁.setTop (mkF m 8 #[.val (.int p1)] [(.long (((p1.toInt64) &&& (2147483647 : Int64)) + (1 : Int64)))])) _
    jvm_step X0.here [X0.here.top, hx, (hb hby d2_8), X0.method', Bd.returns, narrow]
    first | (intro acts; rw [hr _ acts rfl rfl rfl]) | rw [hr _ _ rfl rfl rfl]
    exact Steps.refl _
  · show Q_rmAmt Z p1 h0 n0 _ s₁.heap _
    rw [e0]
    exact ⟨(by simp []), N0, rfl⟩
theorem ef_rmFdp (m : MethodId) (x0 : Int64) (x1 : Int64) : entryFrame m #[(.long x0), (.long x1)] 6 = mkF m 0 #[.val (.long x0), .second, .val (.long x1), .second, .unset, .unset] [] := by first | (simp [entryFrame, mkF, argsToLocals, Value.category]; done) | rfl
def Q_rmFdp (Z : State) (q1 : Int64) (g : Int64) (h0 : Heap) (n0 : Nat) (v : Option Value) (h : Heap) (L : List Loc) : Prop := v = some (.long (own_fd q1 g)) ∧ Fr n0 L ∧ h = h0
set_option maxRecDepth 65536 in
set_option maxHeartbeats 40000000 in
theorem rmFdp (l : Launch) (Z : State) (a0 : Array Value) (hw : ∀ d ∈ tables_1, d.before a0 Z = true) (ws : List Jvm.Cond) (q1 : Int64) (g : Int64) (h0 : Heap) (n0 : Nat) (Z0 : n0 ≤ h0.size) (hg : 1 ≤ g.toInt ∧ g.toInt ≤ 4) (hgz : g ≠ (0 : Int64)) :
    MetFree l (⟨"com/example/okno/okno/AdmissionLogShorterTotalPinLaw", "floorDivPositive", "(JJ)J"⟩ : MethodName) (head1 (Jvm.Cond.code (⟨"com/example/okno/okno/AdmissionLogShorterTotalPinLaw", "floorDivPositive", "(JJ)J"⟩ : MethodName) method_2_code 6 (some .long) :: ws) ({ frames := 0, cells := 0, slots := 0, locals := 0 } : Room)) (fun a U => a = #[(.long q1), (.long g)] ∧ Z.Warmed39 U.vm ∧ U.heap = h0) (fun _ _ _ _ _ => True) (fun _ U o U' => ∃ v L, o = .returned v ∧ Q_rmFdp Z q1 g h0 n0 v U'.heap L ∧ FrameEnd U o U' L ({ frames := 0, cells := 0, slots := 0, locals := 0 } : Room).cells ({ frames := 0, cells := 0, slots := 0, locals := 0 } : Room).slots) := by
  refine MetFree.of_bodySF (plainFor_of_name pn_1) hisR ?_
  intro p e s m args below meth c s₁ Bd hml0 hP hK
  obtain ⟨rfl, hZ, hh⟩ := hP
  have hx := Bd.exec
  have hby := Bd.bytes
  have hml : c.maxLocals = 6 := hml0
  have hown : s.vm.findClass "com/example/okno/okno/AdmissionLogShorterTotalPinLaw" = some m.cls := findClass_of_methodNamed Bd.named
  have hnm := (name_of_methodNamed Bd.named Bd.method).1
  have X0 : Stand p l e ({ frames := 0, cells := 0, slots := 0, locals := 0 } : Room) s m #[(.long q1), (.long g)] below meth c s₁ [] 0 0 := Stand.of_body Bd
  have e0 : s₁.heap = h0 := by rw [← hh, Bd.state]; rfl
  have N0 := Fr.nil n0
  have KR : Keep h0 h0 [] := Keep.refl h0 _
  have pre0 : ∀ t, Steps p.tables e below (s₁.setTop (mkF m 0 #[.val (.long q1), .second, .val (.long g), .second, .unset, .unset] [])) t → Steps p.tables e below (s₁.setTop (entryFrame m #[(.long q1), (.long g)] 6)) t := fun t k => castTop (ef_rmFdp m (q1) (g)) k
  have pre1 : ∀ t, Steps p.tables e below (s₁.setTop (mkF m 10 #[.val (.long q1), .second, .val (.long g), .second, .val (.long (q1 / g)), .second] [(.int (lcmpW (q1 % g) (0 : Int64)))])) t → Steps p.tables e below (s₁.setTop (entryFrame m #[(.long q1), (.long g)] 6)) t := fun t k => pre0 t (by
    refine XS.lloadN X0.here hx rfl (hb hby d3_0) rfl ?_
    refine XS.lloadN X0.here hx rfl (hb hby d3_1) rfl ?_
    refine XS.ldiv X0.here hx rfl (hb hby d3_2) rfl hgz ?_
    refine XS.lstore X0.here hx rfl (hb hby d3_3) rfl (l' := #[.val (.long q1), .second, .val (.long g), .second, .val (.long (q1 / g)), .second]) rfl ?_
    refine XS.lloadN X0.here hx rfl (hb hby d3_5) rfl ?_
    refine XS.lloadN X0.here hx rfl (hb hby d3_6) rfl ?_
    refine own_lremM X0 hx rfl (hb hby d3_7) rfl hgz ?_
    refine XS.lconst X0.here hx rfl (hb hby d3_8) ?_
    refine XS.lcmp X0.here hx rfl (hb hby d3_9) rfl ?_
    exact k)
  by_cases hc2 : (q1 % g) = (0 : Int64)
  · skip
    obtain ⟨fs, hr, hrun, hended, hW, hsame⟩ := X0.leave (v := some (.long (q1 / g))) (fun h => by rw [Bd.returns] at h; cases h)
    refine ⟨_, _, pre1 _ ?_, hrun, hended, _, _, rfl, ?_, ⟨_, rfl⟩, hW, hsame.mono (by decide) (by decide)⟩
    · skip
      refine XS.ifYes X0.here hx rfl (pc0 := 10) (pc' := 25) rfl (hb hby d3_10) rfl ((if0 _ _).trans (teq ((lw_eq _ _).mpr hc2)).1) (by decide) (by decide) ?_
      refine XS.lload X0.here hx rfl (hb hby d3_25) rfl ?_
      show Steps p.tables e below (s₁.setTop (mkF m 27 #[.val (.long q1), .second, .val (.long g), .second, .val (.long (q1 / g)), .second] [(.long (q1 / g))])) _
      jvm_step X0.here [X0.here.top, hx, (hb hby d3_27), X0.method', Bd.returns, narrow]
      first | (intro acts; rw [hr _ acts rfl rfl rfl]) | rw [hr _ _ rfl rfl rfl]
      exact Steps.refl _
    · show Q_rmFdp Z q1 g h0 n0 _ s₁.heap _
      rw [e0]
      exact ⟨(congrArg some (congrArg Value.long (own_fdp0 hg hc2))), N0, rfl⟩
  · skip
    have pre4 : ∀ t, Steps p.tables e below (s₁.setTop (mkF m 16 #[.val (.long q1), .second, .val (.long g), .second, .val (.long (q1 / g)), .second] [(.int (lcmpW q1 (0 : Int64)))])) t → Steps p.tables e below (s₁.setTop (entryFrame m #[(.long q1), (.long g)] 6)) t := fun t k => pre1 t (by
      refine XS.ifNo X0.here hx rfl (hb hby d3_10) rfl ((if0 _ _).trans (feq (fun q => hc2 ((lw_eq _ _).mp q))).1) ?_
      refine XS.lloadN X0.here hx rfl (hb hby d3_13) rfl ?_
      refine XS.lconst X0.here hx rfl (hb hby d3_14) ?_
      refine XS.lcmp X0.here hx rfl (hb hby d3_15) rfl ?_
      exact k)
    by_cases hc5 : q1 < (0 : Int64)
    · skip
      obtain ⟨fs, hr, hrun, hended, hW, hsame⟩ := X0.leave (v := some (.long ((q1 / g) - (1 : Int64)))) (fun h => by rw [Bd.returns] at h; cases h)
      refine ⟨_, _, pre4 _ ?_, hrun, hended, _, _, rfl, ?_, ⟨_, rfl⟩, hW, hsame.mono (by decide) (by decide)⟩
      · skip
        refine XS.ifNo X0.here hx rfl (hb hby d3_16) rfl ((if0 _ _).trans (tlt ((lw_lt _ _).mpr hc5)).2.1) ?_
        refine XS.lload X0.here hx rfl (hb hby d3_19) rfl ?_
        refine XS.lconst X0.here hx rfl (hb hby d3_21) ?_
        refine XS.lsub X0.here hx rfl (hb hby d3_22) rfl ?_
        refine XS.lstore X0.here hx rfl (hb hby d3_23) rfl (l' := #[.val (.long q1), .second, .val (.long g), .second, .val (.long ((q1 / g) - (1 : Int64))), .second]) rfl ?_
        refine XS.lload X0.here hx rfl (hb hby d3_25) rfl ?_
        show Steps p.tables e below (s₁.setTop (mkF m 27 #[.val (.long q1), .second, .val (.long g), .second, .val (.long ((q1 / g) - (1 : Int64))), .second] [(.long ((q1 / g) - (1 : Int64)))])) _
        jvm_step X0.here [X0.here.top, hx, (hb hby d3_27), X0.method', Bd.returns, narrow]
        first | (intro acts; rw [hr _ acts rfl rfl rfl]) | rw [hr _ _ rfl rfl rfl]
        exact Steps.refl _
      · show Q_rmFdp Z q1 g h0 n0 _ s₁.heap _
        rw [e0]
        exact ⟨(congrArg some (congrArg Value.long (own_fdp1 hg hc2 hc5))), N0, rfl⟩
    · skip
      obtain ⟨fs, hr, hrun, hended, hW, hsame⟩ := X0.leave (v := some (.long (q1 / g))) (fun h => by rw [Bd.returns] at h; cases h)
      refine ⟨_, _, pre4 _ ?_, hrun, hended, _, _, rfl, ?_, ⟨_, rfl⟩, hW, hsame.mono (by decide) (by decide)⟩
      · skip
        refine XS.ifYes X0.here hx rfl (pc0 := 16) (pc' := 25) rfl (hb hby d3_16) rfl ((if0 _ _).trans (flt (fun q => hc5 ((lw_lt _ _).mp q))).2.1) (by decide) (by decide) ?_
        refine XS.lload X0.here hx rfl (hb hby d3_25) rfl ?_
        show Steps p.tables e below (s₁.setTop (mkF m 27 #[.val (.long q1), .second, .val (.long g), .second, .val (.long (q1 / g)), .second] [(.long (q1 / g))])) _
        jvm_step X0.here [X0.here.top, hx, (hb hby d3_27), X0.method', Bd.returns, narrow]
        first | (intro acts; rw [hr _ acts rfl rfl rfl]) | rw [hr _ _ rfl rfl rfl]
        exact Steps.refl _
      · show Q_rmFdp Z q1 g h0 n0 _ s₁.heap _
        rw [e0]
        exact ⟨(congrArg some (congrArg Value.long (own_fdp2 hg hc2 hc5))), N0, rfl⟩
theorem ef_rmAddX (m : MethodId) (x0 : Int64) (x1 : Int64) : entryFrame m #[(.long x0), (.long x1)] 6 = mkF m 0 #[.val (.long x0), .second, .val (.long x1), .second, .unset, .unset] [] := by first | (simp [entryFrame, mkF, argsToLocals, Value.category]; done) | rfl
def Q_rmAddX (Z : State) (q1 : Int64) (q2 : Int64) (h0 : Heap) (n0 : Nat) (v : Option Value) (h : Heap) (L : List Loc) : Prop := v = some (.long (q1 + q2)) ∧ Fr n0 L ∧ h = h0
set_option maxRecDepth 65536 in
set_option maxHeartbeats 40000000 in
theorem rmAddX (l : Launch) (Z : State) (a0 : Array Value) (hw : ∀ d ∈ tables_1, d.before a0 Z = true) (ws : List Jvm.Cond) (q1 : Int64) (q2 : Int64) (h0 : Heap) (n0 : Nat) (Z0 : n0 ≤ h0.size) (hov : ¬ ((q1 ^^^ (q1 + q2)) &&& (q2 ^^^ (q1 + q2))) < (0 : Int64)) :
    MetFree l (⟨"java/lang/Math", "addExact", "(JJ)J"⟩ : MethodName) (head1 (Jvm.Cond.code (⟨"java/lang/Math", "addExact", "(JJ)J"⟩ : MethodName) jdk_29_method_25_code 6 (some .long) :: ws) ({ frames := 0, cells := 0, slots := 0, locals := 0 } : Room)) (fun a U => a = #[(.long q1), (.long q2)] ∧ Z.Warmed39 U.vm ∧ U.heap = h0) (fun _ _ _ _ _ => True) (fun _ U o U' => ∃ v L, o = .returned v ∧ Q_rmAddX Z q1 q2 h0 n0 v U'.heap L ∧ FrameEnd U o U' L ({ frames := 0, cells := 0, slots := 0, locals := 0 } : Room).cells ({ frames := 0, cells := 0, slots := 0, locals := 0 } : Room).slots) := by
  refine MetFree.of_bodySF (Jvm.Free.JP.mathPlain rfl (by decide +kernel)) hisR ?_
  intro p e s m args below meth c s₁ Bd hml0 hP hK
  obtain ⟨rfl, hZ, hh⟩ := hP
  have hx := Bd.exec
  have hby := Bd.bytes
  have hml : c.maxLocals = 6 := hml0
  have hown : s.vm.findClass "java/lang/Math" = some m.cls := findClass_of_methodNamed Bd.named
  have hnm := (name_of_methodNamed Bd.named Bd.method).1
  have X0 : Stand p l e ({ frames := 0, cells := 0, slots := 0, locals := 0 } : Room) s m #[(.long q1), (.long q2)] below meth c s₁ [] 0 0 := Stand.of_body Bd
  have e0 : s₁.heap = h0 := by rw [← hh, Bd.state]; rfl
  have N0 := Fr.nil n0
  have KR : Keep h0 h0 [] := Keep.refl h0 _
  have pre0 : ∀ t, Steps p.tables e below (s₁.setTop (mkF m 0 #[.val (.long q1), .second, .val (.long q2), .second, .unset, .unset] [])) t → Steps p.tables e below (s₁.setTop (entryFrame m #[(.long q1), (.long q2)] 6)) t := fun t k => castTop (ef_rmAddX m (q1) (q2)) k
  obtain ⟨fs, hr, hrun, hended, hW, hsame⟩ := X0.leave (v := some (.long (q1 + q2))) (fun h => by rw [Bd.returns] at h; cases h)
  refine ⟨_, _, pre0 _ ?_, hrun, hended, _, _, rfl, ?_, ⟨_, rfl⟩, hW, hsame.mono (by decide) (by decide)⟩
  · skip
    refine XS.lloadN X0.here hx rfl (hb hby d13_0) rfl ?_
    refine XS.lloadN X0.here hx rfl (hb hby d13_1) rfl ?_
    refine XS.ladd X0.here hx rfl (hb hby d13_2) rfl ?_
    refine XS.lstore X0.here hx rfl (hb hby d13_3) rfl (l' := #[.val (.long q1), .second, .val (.long q2), .second, .val (.long (q1 + q2)), .second]) rfl ?_
    refine XS.lloadN X0.here hx rfl (hb hby d13_5) rfl ?_
    refine XS.lload X0.here hx rfl (hb hby d13_6) rfl ?_
    refine XS.lxor X0.here hx rfl (hb hby d13_8) rfl ?_
    refine XS.lloadN X0.here hx rfl (hb hby d13_9) rfl ?_
    refine XS.lload X0.here hx rfl (hb hby d13_10) rfl ?_
    refine XS.lxor X0.here hx rfl (hb hby d13_12) rfl ?_
    refine XS.land X0.here hx rfl (hb hby d13_13) rfl ?_
    refine XS.lconst X0.here hx rfl (hb hby d13_14) ?_
    refine XS.lcmp X0.here hx rfl (hb hby d13_15) rfl ?_
    refine XS.ifYes X0.here hx rfl (pc0 := 16) (pc' := 29) rfl (hb hby d13_16) rfl ((if0 _ _).trans (flt (fun q => hov ((lw_lt _ _).mp q))).2.1) (by decide) (by decide) ?_
    refine XS.lload X0.here hx rfl (hb hby d13_29) rfl ?_
    show Steps p.tables e below (s₁.setTop (mkF m 31 #[.val (.long q1), .second, .val (.long q2), .second, .val (.long (q1 + q2)), .second] [(.long (q1 + q2))])) _
    jvm_step X0.here [X0.here.top, hx, (hb hby d13_31), X0.method', Bd.returns, narrow]
    first | (intro acts; rw [hr _ acts rfl rfl rfl]) | rw [hr _ _ rfl rfl rfl]
    exact Steps.refl _
  · show Q_rmAddX Z q1 q2 h0 n0 _ s₁.heap _
    rw [e0]
    exact ⟨rfl, N0, rfl⟩
theorem ef_rmEmp0 (m : MethodId) (x0 : Addr) : entryFrame m #[(.ref x0)] 1 = mkF m 0 #[.val (.ref x0)] [] := by first | (simp [entryFrame, mkF, argsToLocals, Value.category]; done) | rfl
def Q_rmEmp0 (Z : State) (a1 : Addr) (h0 : Heap) (n0 : Nat) (v : Option Value) (h : Heap) (L : List Loc) : Prop := v = some (.int (1 : Int32)) ∧ Fr n0 L ∧ h = h0
set_option maxRecDepth 65536 in
set_option maxHeartbeats 40000000 in
theorem rmEmp0 (l : Launch) (Z : State) (a0 : Array Value) (hw : ∀ d ∈ tables_1, d.before a0 Z = true) (ws : List Jvm.Cond) (a1 : Addr) (h0 : Heap) (n0 : Nat) (Z0 : n0 ≤ h0.size) (P0 : Fld Z h0 a1 "com/example/okno/okno/AdmissionLog" "total" "J" (.long (0 : Int64))) :
    MetFree l (⟨"com/example/okno/okno/AdmissionLog", "isEmpty", "()Z"⟩ : MethodName) (head1 (Jvm.Cond.code (⟨"com/example/okno/okno/AdmissionLog", "isEmpty", "()Z"⟩ : MethodName) prog_2_method_3_code 1 (some .boolean) :: ws) ({ frames := 0, cells := 0, slots := 0, locals := 0 } : Room)) (fun a U => a = #[(.ref a1)] ∧ Z.Warmed39 U.vm ∧ U.heap = h0) (fun _ _ _ _ _ => True) (fun _ U o U' => ∃ v L, o = .returned v ∧ Q_rmEmp0 Z a1 h0 n0 v U'.heap L ∧ FrameEnd U o U' L ({ frames := 0, cells := 0, slots := 0, locals := 0 } : Room).cells ({ frames := 0, cells := 0, slots := 0, locals := 0 } : Room).slots) := by
  refine MetFree.of_bodySF (plainFor_of_name pn_2) hisR ?_
  intro p e s m args below meth c s₁ Bd hml0 hP hK
  obtain ⟨rfl, hZ, hh⟩ := hP
  have hx := Bd.exec
  have hby := Bd.bytes
  have hml : c.maxLocals = 1 := hml0
  have hown : s.vm.findClass "com/example/okno/okno/AdmissionLog" = some m.cls := findClass_of_methodNamed Bd.named
  have hnm := (name_of_methodNamed Bd.named Bd.method).1
  have X0 : Stand p l e ({ frames := 0, cells := 0, slots := 0, locals := 0 } : Room) s m #[(.ref a1)] below meth c s₁ [] 0 0 := Stand.of_body Bd
  have e0 : s₁.heap = h0 := by rw [← hh, Bd.state]; rfl
  have N0 := Fr.nil n0
  have KR : Keep h0 h0 [] := Keep.refl h0 _
  have pre0 : ∀ t, Steps p.tables e below (s₁.setTop (mkF m 0 #[.val (.ref a1)] [])) t → Steps p.tables e below (s₁.setTop (entryFrame m #[(.ref a1)] 1)) t := fun t k => castTop (ef_rmEmp0 m (a1)) k
  obtain ⟨T1, X1, e1, st1⟩ := getF X0 hx hZ hown (host := "") (Or.inl (kw68 hw)) Via.refl e0 P0 (g := (mkF m 1 #[.val (.ref a1)] [(.ref a1)])) rfl rfl (hb hby d10_1)
  obtain ⟨fs, hr, hrun, hended, hW, hsame⟩ := X1.leave (v := some (.int (1 : Int32))) (fun h => by rw [Bd.returns] at h; cases h)
  refine ⟨_, _, pre0 _ ?_, hrun, hended, _, _, rfl, ?_, ⟨_, rfl⟩, hW, hsame.mono (by decide) (by decide)⟩
  · skip
    refine XS.aloadN X0.here hx rfl (hb hby d10_0) rfl rfl ?_
    refine st1 _ ?_
    refine XS.lconst X1.here hx rfl (hb hby d10_4) ?_
    refine XS.lcmp X1.here hx rfl (hb hby d10_5) rfl ?_
    refine XS.ifNo X1.here hx rfl (hb hby d10_6) rfl ((if0 _ _).trans (teq ((lw_eq _ _).mpr rfl)).2) ?_
    refine XS.iconst X1.here hx rfl (hb hby d10_9) ?_
    refine XS.goto X1.here hx rfl (pc0 := 10) (pc' := 14) rfl (hb hby d10_10) (by decide) (by decide) ?_
    show Steps p.tables e below (T1.setTop (mkF m 14 #[.val (.ref a1)] [(.int (1 : Int32))])) _
    exact retN X1 hx (t := .boolean) Bd.returns (by simp) (hb hby d10_14) hr
  · show Q_rmEmp0 Z a1 h0 n0 _ T1.heap _
    rw [e1]
    exact ⟨rfl, N0, rfl⟩
theorem ef_rmEmp1 (m : MethodId) (x0 : Addr) : entryFrame m #[(.ref x0)] 1 = mkF m 0 #[.val (.ref x0)] [] := by first | (simp [entryFrame, mkF, argsToLocals, Value.category]; done) | rfl
def Q_rmEmp1 (Z : State) (a1 : Addr) (tt : Int64) (h0 : Heap) (n0 : Nat) (v : Option Value) (h : Heap) (L : List Loc) : Prop := v = some (.int (0 : Int32)) ∧ Fr n0 L ∧ h = h0
set_option maxRecDepth 65536 in
set_option maxHeartbeats 40000000 in
theorem rmEmp1 (l : Launch) (Z : State) (a0 : Array Value) (hw : ∀ d ∈ tables_1, d.before a0 Z = true) (ws : List Jvm.Cond) (a1 : Addr) (tt : Int64) (h0 : Heap) (n0 : Nat) (Z0 : n0 ≤ h0.size) (P0 : Fld Z h0 a1 "com/example/okno/okno/AdmissionLog" "total" "J" (.long tt)) (htt : tt ≠ (0 : Int64)) :
    MetFree l (⟨"com/example/okno/okno/AdmissionLog", "isEmpty", "()Z"⟩ : MethodName) (head1 (Jvm.Cond.code (⟨"com/example/okno/okno/AdmissionLog", "isEmpty", "()Z"⟩ : MethodName) prog_2_method_3_code 1 (some .boolean) :: ws) ({ frames := 0, cells := 0, slots := 0, locals := 0 } : Room)) (fun a U => a = #[(.ref a1)] ∧ Z.Warmed39 U.vm ∧ U.heap = h0) (fun _ _ _ _ _ => True) (fun _ U o U' => ∃ v L, o = .returned v ∧ Q_rmEmp1 Z a1 tt h0 n0 v U'.heap L ∧ FrameEnd U o U' L ({ frames := 0, cells := 0, slots := 0, locals := 0 } : Room).cells ({ frames := 0, cells := 0, slots := 0, locals := 0 } : Room).slots) := by
  refine MetFree.of_bodySF (plainFor_of_name pn_2) hisR ?_
  intro p e s m args below meth c s₁ Bd hml0 hP hK
  obtain ⟨rfl, hZ, hh⟩ := hP
  have hx := Bd.exec
  have hby := Bd.bytes
  have hml : c.maxLocals = 1 := hml0
  have hown : s.vm.findClass "com/example/okno/okno/AdmissionLog" = some m.cls := findClass_of_methodNamed Bd.named
  have hnm := (name_of_methodNamed Bd.named Bd.method).1
  have X0 : Stand p l e ({ frames := 0, cells := 0, slots := 0, locals := 0 } : Room) s m #[(.ref a1)] below meth c s₁ [] 0 0 := Stand.of_body Bd
  have e0 : s₁.heap = h0 := by rw [← hh, Bd.state]; rfl
  have N0 := Fr.nil n0
  have KR : Keep h0 h0 [] := Keep.refl h0 _
  have pre0 : ∀ t, Steps p.tables e below (s₁.setTop (mkF m 0 #[.val (.ref a1)] [])) t → Steps p.tables e below (s₁.setTop (entryFrame m #[(.ref a1)] 1)) t := fun t k => castTop (ef_rmEmp1 m (a1)) k
  obtain ⟨T1, X1, e1, st1⟩ := getF X0 hx hZ hown (host := "") (Or.inl (kw68 hw)) Via.refl e0 P0 (g := (mkF m 1 #[.val (.ref a1)] [(.ref a1)])) rfl rfl (hb hby d10_1)
  obtain ⟨fs, hr, hrun, hended, hW, hsame⟩ := X1.leave (v := some (.int (0 : Int32))) (fun h => by rw [Bd.returns] at h; cases h)
  refine ⟨_, _, pre0 _ ?_, hrun, hended, _, _, rfl, ?_, ⟨_, rfl⟩, hW, hsame.mono (by decide) (by decide)⟩
  · skip
    refine XS.aloadN X0.here hx rfl (hb hby d10_0) rfl rfl ?_
    refine st1 _ ?_
    refine XS.lconst X1.here hx rfl (hb hby d10_4) ?_
    refine XS.lcmp X1.here hx rfl (hb hby d10_5) rfl ?_
    refine XS.ifYes X1.here hx rfl (pc0 := 6) (pc' := 13) rfl (hb hby d10_6) rfl ((if0 _ _).trans (feq (fun q => htt ((lw_eq _ _).mp q))).2) (by decide) (by decide) ?_
    refine XS.iconst X1.here hx rfl (hb hby d10_13) ?_
    show Steps p.tables e below (T1.setTop (mkF m 14 #[.val (.ref a1)] [(.int (0 : Int32))])) _
    exact retN X1 hx (t := .boolean) Bd.returns (by simp) (hb hby d10_14) hr
  · show Q_rmEmp1 Z a1 tt h0 n0 _ T1.heap _
    rw [e1]
    exact ⟨rfl, N0, rfl⟩
theorem ef_rmInit (m : MethodId) (x0 : Addr) (x1 : Int64) (x2 : Int32) : entryFrame m #[(.ref x0), (.long x1), (.int x2)] 4 = mkF m 0 #[.val (.ref x0), .val (.long x1), .second, .val (.int x2)] [] := by first | (simp [entryFrame, mkF, argsToLocals, Value.category]; done) | rfl
def Q_rmInit (Z : State) (a1 : Addr) (q1 : Int64) (w_NO_ENTRIES : Addr) (h0 : Heap) (n0 : Nat) (v : Option Value) (h : Heap) (L : List Loc) : Prop := ∃ fr0 : Addr, ∃ fk0 : ClassId, v = none ∧ Fr n0 L ∧ Keep h0 h [a1] ∧ n0 ≤ fr0 ∧ h0.size ≤ fr0 ∧ Arv Z h fr0 fk0 .long (4 : Int32) [(.long (0 : Int64)), (.long (0 : Int64)), (.long (0 : Int64)), (.long (0 : Int64))] (.long (0 : Int64)) ∧ Fld Z h a1 "com/example/okno/okno/AdmissionLog" "newest" "J" (.long (-9223372036854775808 : Int64)) ∧ Fld Z h a1 "com/example/okno/okno/AdmissionLog" "subWindows" "[J" (.ref w_NO_ENTRIES) ∧ Fld Z h a1 "com/example/okno/okno/AdmissionLog" "amounts" "[J" (.ref w_NO_ENTRIES) ∧ Fld Z h a1 "com/example/okno/okno/AdmissionLog" "oldestSubWindow" "J" (.long (9223372036854775807 : Int64)) ∧ Fld Z h a1 "com/example/okno/okno/AdmissionLog" "lastTime" "J" (.long (-9223372036854775808 : Int64)) ∧ Fld Z h a1 "com/example/okno/okno/AdmissionLog" "subWindowMillis" "J" (.long q1) ∧ Fld Z h a1 "com/example/okno/okno/AdmissionLog" "lastSubWindow" "J" (.long (own_fd (-9223372036854775808 : Int64) q1)) ∧ Fld Z h a1 "com/example/okno/okno/AdmissionLog" "shorterWindows" "[J" (.ref fr0) ∧ Fld Z h a1 "com/example/okno/okno/AdmissionLog" "total" "J" (.long (0 : Int64)) ∧ Fld Z h a1 "com/example/okno/okno/AdmissionLog" "newestSubWindow" "J" (.long (0 : Int64)) ∧ Fld Z h a1 "com/example/okno/okno/AdmissionLog" "newestSubWindowEnd" "J" (.long (0 : Int64)) ∧ Fld Z h a1 "com/example/okno/okno/AdmissionLog" "olderTotal" "J" (.long (0 : Int64)) ∧ Fld Z h a1 "com/example/okno/okno/AdmissionLog" "size" "I" (.int (0 : Int32)) ∧ Fld Z h a1 "com/example/okno/okno/AdmissionLog" "head" "I" (.int (0 : Int32))
set_option maxRecDepth 65536 in
set_option maxHeartbeats 40000000 in
theorem rmInit (l : Launch) (Z : State) (a0 : Array Value) (hw : ∀ d ∈ tables_1, d.before a0 Z = true) (ws : List Jvm.Cond) (a1 : Addr) (q1 : Int64) (w_NO_ENTRIES : Addr) (h0 : Heap) (n0 : Nat) (Z0 : n0 ≤ h0.size) (P0 : Exa Z h0 a1 "com/example/okno/okno/AdmissionLog") (P1 : n0 ≤ a1) (P2 : Old Z n0 h0) (P3 : Sta Z Z.heap "com/example/okno/okno/AdmissionLog" "NO_ENTRIES" "[J" (.ref w_NO_ENTRIES)) (hq : q1 ≠ (0 : Int64)) (P5 : Fld Z h0 a1 "com/example/okno/okno/AdmissionLog" "newest" "J" (.long (0 : Int64))) (P6 : Fld Z h0 a1 "com/example/okno/okno/AdmissionLog" "subWindows" "[J" .null) (P7 : Fld Z h0 a1 "com/example/okno/okno/AdmissionLog" "amounts" "[J" .null) (P8 : Fld Z h0 a1 "com/example/okno/okno/AdmissionLog" "oldestSubWindow" "J" (.long (0 : Int64))) (P9 : Fld Z h0 a1 "com/example/okno/okno/AdmissionLog" "lastTime" "J" (.long (0 : Int64))) (P10 : Fld Z h0 a1 "com/example/okno/okno/AdmissionLog" "subWindowMillis" "J" (.long (0 : Int64))) (P11 : Fld Z h0 a1 "com/example/okno/okno/AdmissionLog" "lastSubWindow" "J" (.long (0 : Int64))) (P12 : Fld Z h0 a1 "com/example/okno/okno/AdmissionLog" "shorterWindows" "[J" .null) (P13 : Fld Z h0 a1 "com/example/okno/okno/AdmissionLog" "total" "J" (.long (0 : Int64))) (P14 : Fld Z h0 a1 "com/example/okno/okno/AdmissionLog" "newestSubWindow" "J" (.long (0 : Int64))) (P15 : Fld Z h0 a1 "com/example/okno/okno/AdmissionLog" "newestSubWindowEnd" "J" (.long (0 : Int64))) (P16 : Fld Z h0 a1 "com/example/okno/okno/AdmissionLog" "olderTotal" "J" (.long (0 : Int64))) (P17 : Fld Z h0 a1 "com/example/okno/okno/AdmissionLog" "size" "I" (.int (0 : Int32))) (P18 : Fld Z h0 a1 "com/example/okno/okno/AdmissionLog" "head" "I" (.int (0 : Int32))) :
    MetFree l (⟨"com/example/okno/okno/AdmissionLog", "<init>", "(JI)V"⟩ : MethodName) (head1 (Jvm.Cond.code (⟨"com/example/okno/okno/AdmissionLog", "<init>", "(JI)V"⟩ : MethodName) prog_2_method_1_code 4 none :: ws) ({ frames := 2, cells := 1, slots := 4, locals := 24 } : Room)) (fun a U => a = #[(.ref a1), (.long q1), (.int (2 : Int32))] ∧ Z.Warmed39 U.vm ∧ U.heap = h0) (fun _ _ _ _ _ => True) (fun _ U o U' => ∃ v L, o = .returned v ∧ Q_rmInit Z a1 q1 w_NO_ENTRIES h0 n0 v U'.heap L ∧ FrameEnd U o U' L ({ frames := 2, cells := 1, slots := 4, locals := 24 } : Room).cells ({ frames := 2, cells := 1, slots := 4, locals := 24 } : Room).slots) := by
  refine MetFree.of_bodySF (plainFor_of_name pn_2) hisR ?_
  intro p e s m args below meth c s₁ Bd hml0 hP hK
  obtain ⟨rfl, hZ, hh⟩ := hP
  have hx := Bd.exec
  have hby := Bd.bytes
  have hml : c.maxLocals = 4 := hml0
  have hown : s.vm.findClass "com/example/okno/okno/AdmissionLog" = some m.cls := findClass_of_methodNamed Bd.named
  have hnm := (name_of_methodNamed Bd.named Bd.method).1
  have X0 : Stand p l e ({ frames := 2, cells := 1, slots := 4, locals := 24 } : Room) s m #[(.ref a1), (.long q1), (.int (2 : Int32))] below meth c s₁ [] 0 0 := Stand.of_body Bd
  have e0 : s₁.heap = h0 := by rw [← hh, Bd.state]; rfl
  have N0 := Fr.nil n0
  have KR : Keep h0 h0 [a1] := Keep.refl h0 _
  have pre0 : ∀ t, Steps p.tables e below (s₁.setTop (mkF m 0 #[.val (.ref a1), .val (.long q1), .second, .val (.int (2 : Int32))] [])) t → Steps p.tables e below (s₁.setTop (entryFrame m #[(.ref a1), (.long q1), (.int (2 : Int32))] 4)) t := fun t k => castTop (ef_rmInit m (a1) (q1) ((2 : Int32))) k
  obtain ⟨_, _, ⟨T1, L1, k1, n1⟩, -, X1, ⟨Lc1, hQ1, l1, y1, z1⟩, st1⟩ := X0.specialBack hx (y := (⟨"com/example/okno/okno/KeyTurn", "<init>", "()V"⟩ : MethodName)) rfl hown (mvT hZ (kw22 hw)) (mvT hZ (kw23 hw)) (mvT hZ (kw26 hw)) (by decide) (backOf (W := 0) (rm5 l Z a0 hw [] a1 h0 n0 Z0 ) hZ (kw26 hw) (kw25 hw) (by decide) (by decide)) (g := (mkF m 1 #[.val (.ref a1), .val (.long q1), .second, .val (.int (2 : Int32))] [(.ref a1)])) rfl (by rw [hml]; rfl) (Steps.refl _) (a := a1) (argsL := []) (rest := []) (lenOf pd_2 rfl) rfl (by show 2 * 0 + _ ≤ _; exact Nat.le_of_eq rfl) (hb hby d4_1) (fun _ _ => ⟨rfl, e0, (by decide : 0 + 0 ≤ _), (by decide : 0 + 0 ≤ _)⟩)
  dsimp only [Pt.U, Pt.locs, Pt.cells, Pt.slots] at X1 l1 y1 z1 st1 hQ1
  subst l1 y1 z1
  obtain ⟨rfl, N1q, e1⟩ := hQ1
  have N1 := Fr.app N0 N1q
  obtain ⟨T2, h2, X2, e2, W2, st2⟩ := putF X1 hx hZ hown (host := "") (Or.inl (kw31 hw)) Via.refl e1 P5 P0 (Or.inl (kw32 hw)) (kw17 hw) (ty := .long) (by decide) rfl rfl (g := (mkF m 8 #[.val (.ref a1), .val (.long q1), .second, .val (.int (2 : Int32))] [(.long (-9223372036854775808 : Int64)), (.ref a1)])) rfl rfl (hb hby d4_8)
  have Z2 : n0 ≤ h2.size := Nat.le_trans Z0 (Keep.of_wr W2).1
  have K2 : Keep h0 h2 [a1] := KR.wr W2 (Or.inl (List.mem_of_getElem? (i := 0) rfl))
  have N2 := Fr.snoc X2 N1 P1
  have Fw2 : Fld Z h2 a1 "com/example/okno/okno/AdmissionLog" "newest" "J" (.long (-9223372036854775808 : Int64)) := P5.same W2
  have f4 : Old Z n0 h2 := (P2.wr W2 P1)
  obtain ⟨T3, X3, e3, st3⟩ := getS2 X2 hx hZ hown (host := "") (Or.inl (kw33 hw)) Via.refl e2 (Sta.ext f4.2 P3) (g := (mkF m 12 #[.val (.ref a1), .val (.long q1), .second, .val (.int (2 : Int32))] [(.ref a1)])) rfl (hb hby d4_12)
  have f5 : Exa Z h2 a1 "com/example/okno/okno/AdmissionLog" := (P0.wr W2)
  have f6 : Fld Z h2 a1 "com/example/okno/okno/AdmissionLog" "subWindows" "[J" .null := (P6.other W2 (Or.inr (slot_ne (Or.inl (kw36 hw)) (Or.inl (kw32 hw)) (by decide) (t := (.array .long)) (t' := .long) (by decide) (by decide))))
  obtain ⟨T7, h7, X7, e7, W7, st7⟩ := putF X3 hx hZ hown (host := "") (Or.inl (kw35 hw)) Via.refl e3 f6 f5 (Or.inl (kw36 hw)) (kw17 hw) (ty := (.array .long)) (by decide) rfl rfl (g := (mkF m 15 #[.val (.ref a1), .val (.long q1), .second, .val (.int (2 : Int32))] [(.ref w_NO_ENTRIES), (.ref a1)])) rfl rfl (hb hby d4_15)
  have Z7 : n0 ≤ h7.size := Nat.le_trans Z2 (Keep.of_wr W7).1
  have K7 : Keep h0 h7 [a1] := K2.wr W7 (Or.inl (List.mem_of_getElem? (i := 0) rfl))
  have N7 := Fr.snoc X7 N2 P1
  have Fw7 : Fld Z h7 a1 "com/example/okno/okno/AdmissionLog" "subWindows" "[J" (.ref w_NO_ENTRIES) := f6.same W7
  have f9 : Old Z n0 h7 := (f4.wr W7 P1)
  obtain ⟨T8, X8, e8, st8⟩ := getS2 X7 hx hZ hown (host := "") (Or.inl (kw33 hw)) Via.refl e7 (Sta.ext f9.2 P3) (g := (mkF m 19 #[.val (.ref a1), .val (.long q1), .second, .val (.int (2 : Int32))] [(.ref a1)])) rfl (hb hby d4_19)
  have f10 : Exa Z h7 a1 "com/example/okno/okno/AdmissionLog" := (f5.wr W7)
  have f11 : Fld Z h7 a1 "com/example/okno/okno/AdmissionLog" "amounts" "[J" .null := ((P7.other W2 (Or.inr (slot_ne (Or.inl (kw38 hw)) (Or.inl (kw32 hw)) (by decide) (t := (.array .long)) (t' := .long) (by decide) (by decide)))).other W7 (Or.inr (slot_ne (Or.inl (kw38 hw)) (Or.inl (kw36 hw)) (by decide) (t := (.array .long)) (t' := (.array .long)) (by decide) (by decide))))
  obtain ⟨T12, h12, X12, e12, W12, st12⟩ := putF X8 hx hZ hown (host := "") (Or.inl (kw37 hw)) Via.refl e8 f11 f10 (Or.inl (kw38 hw)) (kw17 hw) (ty := (.array .long)) (by decide) rfl rfl (g := (mkF m 22 #[.val (.ref a1), .val (.long q1), .second, .val (.int (2 : Int32))] [(.ref w_NO_ENTRIES), (.ref a1)])) rfl rfl (hb hby d4_22)
  have Z12 : n0 ≤ h12.size := Nat.le_trans Z7 (Keep.of_wr W12).1
  have K12 : Keep h0 h12 [a1] := K7.wr W12 (Or.inl (List.mem_of_getElem? (i := 0) rfl))
  have N12 := Fr.snoc X12 N7 P1
  have Fw12 : Fld Z h12 a1 "com/example/okno/okno/AdmissionLog" "amounts" "[J" (.ref w_NO_ENTRIES) := f11.same W12
  have f13 : Exa Z h12 a1 "com/example/okno/okno/AdmissionLog" := (f10.wr W12)
  have f14 : Fld Z h12 a1 "com/example/okno/okno/AdmissionLog" "oldestSubWindow" "J" (.long (0 : Int64)) := (((P8.other W2 (Or.inr (slot_ne (Or.inl (kw41 hw)) (Or.inl (kw32 hw)) (by decide) (t := .long) (t' := .long) (by decide) (by decide)))).other W7 (Or.inr (slot_ne (Or.inl (kw41 hw)) (Or.inl (kw36 hw)) (by decide) (t := .long) (t' := (.array .long)) (by decide) (by decide)))).other W12 (Or.inr (slot_ne (Or.inl (kw41 hw)) (Or.inl (kw38 hw)) (by decide) (t := .long) (t' := (.array .long)) (by decide) (by decide))))
  obtain ⟨T15, h15, X15, e15, W15, st15⟩ := putF X12 hx hZ hown (host := "") (Or.inl (kw40 hw)) Via.refl e12 f14 f13 (Or.inl (kw41 hw)) (kw17 hw) (ty := .long) (by decide) rfl rfl (g := (mkF m 29 #[.val (.ref a1), .val (.long q1), .second, .val (.int (2 : Int32))] [(.long (9223372036854775807 : Int64)), (.ref a1)])) rfl rfl (hb hby d4_29)
  have Z15 : n0 ≤ h15.size := Nat.le_trans Z12 (Keep.of_wr W15).1
  have K15 : Keep h0 h15 [a1] := K12.wr W15 (Or.inl (List.mem_of_getElem? (i := 0) rfl))
  have N15 := Fr.snoc X15 N12 P1
  have Fw15 : Fld Z h15 a1 "com/example/okno/okno/AdmissionLog" "oldestSubWindow" "J" (.long (9223372036854775807 : Int64)) := f14.same W15
  have f16 : Exa Z h15 a1 "com/example/okno/okno/AdmissionLog" := (f13.wr W15)
  have f17 : Fld Z h15 a1 "com/example/okno/okno/AdmissionLog" "lastTime" "J" (.long (0 : Int64)) := ((((P9.other W2 (Or.inr (slot_ne (Or.inl (kw43 hw)) (Or.inl (kw32 hw)) (by decide) (t := .long) (t' := .long) (by decide) (by decide)))).other W7 (Or.inr (slot_ne (Or.inl (kw43 hw)) (Or.inl (kw36 hw)) (by decide) (t := .long) (t' := (.array .long)) (by decide) (by decide)))).other W12 (Or.inr (slot_ne (Or.inl (kw43 hw)) (Or.inl (kw38 hw)) (by decide) (t := .long) (t' := (.array .long)) (by decide) (by decide)))).other W15 (Or.inr (slot_ne (Or.inl (kw43 hw)) (Or.inl (kw41 hw)) (by decide) (t := .long) (t' := .long) (by decide) (by decide))))
  obtain ⟨T18, h18, X18, e18, W18, st18⟩ := putF X15 hx hZ hown (host := "") (Or.inl (kw42 hw)) Via.refl e15 f17 f16 (Or.inl (kw43 hw)) (kw17 hw) (ty := .long) (by decide) rfl rfl (g := (mkF m 36 #[.val (.ref a1), .val (.long q1), .second, .val (.int (2 : Int32))] [(.long (-9223372036854775808 : Int64)), (.ref a1)])) rfl rfl (hb hby d4_36)
  have Z18 : n0 ≤ h18.size := Nat.le_trans Z15 (Keep.of_wr W18).1
  have K18 : Keep h0 h18 [a1] := K15.wr W18 (Or.inl (List.mem_of_getElem? (i := 0) rfl))
  have N18 := Fr.snoc X18 N15 P1
  have Fw18 : Fld Z h18 a1 "com/example/okno/okno/AdmissionLog" "lastTime" "J" (.long (-9223372036854775808 : Int64)) := f17.same W18
  have f19 : Exa Z h18 a1 "com/example/okno/okno/AdmissionLog" := (f16.wr W18)
  have f20 : Fld Z h18 a1 "com/example/okno/okno/AdmissionLog" "subWindowMillis" "J" (.long (0 : Int64)) := (((((P10.other W2 (Or.inr (slot_ne (Or.inr (kw45 hw)) (Or.inl (kw32 hw)) (by decide) (t := .long) (t' := .long) (by decide) (by decide)))).other W7 (Or.inr (slot_ne (Or.inr (kw45 hw)) (Or.inl (kw36 hw)) (by decide) (t := .long) (t' := (.array .long)) (by decide) (by decide)))).other W12 (Or.inr (slot_ne (Or.inr (kw45 hw)) (Or.inl (kw38 hw)) (by decide) (t := .long) (t' := (.array .long)) (by decide) (by decide)))).other W15 (Or.inr (slot_ne (Or.inr (kw45 hw)) (Or.inl (kw41 hw)) (by decide) (t := .long) (t' := .long) (by decide) (by decide)))).other W18 (Or.inr (slot_ne (Or.inr (kw45 hw)) (Or.inl (kw43 hw)) (by decide) (t := .long) (t' := .long) (by decide) (by decide))))
  obtain ⟨T21, h21, X21, e21, W21, st21⟩ := putF X18 hx hZ hown (host := "") (Or.inl (kw44 hw)) Via.refl e18 f20 f19 (Or.inr ⟨(kw45 hw), rfl, hnm⟩) (kw17 hw) (ty := .long) (by decide) rfl rfl (g := (mkF m 41 #[.val (.ref a1), .val (.long q1), .second, .val (.int (2 : Int32))] [(.long q1), (.ref a1)])) rfl rfl (hb hby d4_41)
  have Z21 : n0 ≤ h21.size := Nat.le_trans Z18 (Keep.of_wr W21).1
  have K21 : Keep h0 h21 [a1] := K18.wr W21 (Or.inl (List.mem_of_getElem? (i := 0) rfl))
  have N21 := Fr.snoc X21 N18 P1
  have Fw21 : Fld Z h21 a1 "com/example/okno/okno/AdmissionLog" "subWindowMillis" "J" (.long q1) := f20.same W21
  have f22 : Fld Z h21 a1 "com/example/okno/okno/AdmissionLog" "lastTime" "J" (.long (-9223372036854775808 : Int64)) := (Fw18.other W21 (Or.inr (slot_ne (Or.inl (kw43 hw)) (Or.inr (kw45 hw)) (by decide) (t := .long) (t' := .long) (by decide) (by decide))))
  obtain ⟨T23, X23, e23, st23⟩ := getF X21 hx hZ hown (host := "") (Or.inl (kw42 hw)) Via.refl e21 f22 (g := (mkF m 46 #[.val (.ref a1), .val (.long q1), .second, .val (.int (2 : Int32))] [(.ref a1), (.ref a1)])) rfl rfl (hb hby d4_46)
  obtain ⟨_, _, ⟨T24, L24, k24, n24⟩, -, X24, ⟨Lc24, hQ24, l24, y24, z24⟩, st24⟩ := Jvm.LawKit.callS X23 hx (y := (⟨"java/lang/Math", "floorDiv", "(JJ)J"⟩ : MethodName)) hown (mvT hZ (kw46 hw)) (mvT hZ (kw47 hw)) (mvT hZ (kw6 hw)) (mvT hZ (kw48 hw)) (by decide) (backOf (W := 1) (rm7 l Z a0 hw [] (-9223372036854775808 : Int64) q1 h21 n0 Z21 hq) hZ (kw48 hw) (kw6 hw) (by decide) (by decide)) (g := (mkF m 50 #[.val (.ref a1), .val (.long q1), .second, .val (.int (2 : Int32))] [(.long q1), (.long (-9223372036854775808 : Int64)), (.ref a1)])) rfl (by rw [hml]; rfl) (argsL := [(.long (-9223372036854775808 : Int64)), (.long q1)]) (rest := [(.ref a1)]) (lenOf pd_0 rfl) rfl (by show 2 * 0 + _ ≤ _; exact Nat.le_of_eq rfl) (hb hby d4_50) (fun _ _ => ⟨rfl, e23, (by decide : 0 + 0 ≤ _), (by decide : 0 + 0 ≤ _)⟩)
  dsimp only [Pt.U, Pt.locs, Pt.cells, Pt.slots] at X24 l24 y24 z24 st24 hQ24
  subst l24 y24 z24
  obtain ⟨rfl, N24q, e24⟩ := hQ24
  have N24 := Fr.app N21 N24q
  have f25 : Exa Z h21 a1 "com/example/okno/okno/AdmissionLog" := (f19.wr W21)
  have f26 : Fld Z h21 a1 "com/example/okno/okno/AdmissionLog" "lastSubWindow" "J" (.long (0 : Int64)) := ((((((P11.other W2 (Or.inr (slot_ne (Or.inl (kw50 hw)) (Or.inl (kw32 hw)) (by decide) (t := .long) (t' := .long) (by decide) (by decide)))).other W7 (Or.inr (slot_ne (Or.inl (kw50 hw)) (Or.inl (kw36 hw)) (by decide) (t := .long) (t' := (.array .long)) (by decide) (by decide)))).other W12 (Or.inr (slot_ne (Or.inl (kw50 hw)) (Or.inl (kw38 hw)) (by decide) (t := .long) (t' := (.array .long)) (by decide) (by decide)))).other W15 (Or.inr (slot_ne (Or.inl (kw50 hw)) (Or.inl (kw41 hw)) (by decide) (t := .long) (t' := .long) (by decide) (by decide)))).other W18 (Or.inr (slot_ne (Or.inl (kw50 hw)) (Or.inl (kw43 hw)) (by decide) (t := .long) (t' := .long) (by decide) (by decide)))).other W21 (Or.inr (slot_ne (Or.inl (kw50 hw)) (Or.inr (kw45 hw)) (by decide) (t := .long) (t' := .long) (by decide) (by decide))))
  obtain ⟨T27, h27, X27, e27, W27, st27⟩ := putF X24 hx hZ hown (host := "") (Or.inl (kw49 hw)) Via.refl e24 f26 f25 (Or.inl (kw50 hw)) (kw17 hw) (ty := .long) (by decide) rfl rfl (g := (mkF m 53 #[.val (.ref a1), .val (.long q1), .second, .val (.int (2 : Int32))] [(.long (own_fd (-9223372036854775808 : Int64) q1)), (.ref a1)])) rfl rfl (hb hby d4_53)
  have Z27 : n0 ≤ h27.size := Nat.le_trans Z21 (Keep.of_wr W27).1
  have K27 : Keep h0 h27 [a1] := K21.wr W27 (Or.inl (List.mem_of_getElem? (i := 0) rfl))
  have N27 := Fr.snoc X27 N24 P1
  have Fw27 : Fld Z h27 a1 "com/example/okno/okno/AdmissionLog" "lastSubWindow" "J" (.long (own_fd (-9223372036854775808 : Int64) q1)) := f26.same W27
  have f29 : Exa Z h27 a1 "com/example/okno/okno/AdmissionLog" := (f25.wr W27)
  obtain ⟨T28, h28, k28, X28, e28, E28, A28, st28⟩ := newP X27 hx hZ (aty := .long) (kw51 hw) e27 (g := (mkF m 70 #[.val (.ref a1), .val (.long q1), .second, .val (.int (2 : Int32))] [(.int (4 : Int32)), (.ref a1)])) rfl (hb hby d4_70) rfl (by decide) (cap := 4) (by decide) (by decide) (by decide) (by decide)
  obtain ⟨b28, g28⟩ : ∃ z, z = h27.size := ⟨_, rfl⟩
  rw [← g28] at A28 st28
  have ne28_a1 : a1 ≠ b28 := Nat.ne_of_lt (Nat.lt_of_lt_of_le f29.lt (Nat.le_of_eq g28.symm))
  have g_b28 : n0 ≤ b28 := Nat.le_trans Z27 (Nat.le_of_eq g28.symm)
  have sz_b28 : h0.size ≤ b28 := Nat.le_trans K27.1 (Nat.le_of_eq g28.symm)
  have Z28 : n0 ≤ h28.size := Nat.le_trans Z27 E28.1
  have K28 : Keep h0 h28 [a1] := K27.ext E28
  have V28 : Arv Z h28 b28 k28 .long (4 : Int32) [(.long (0 : Int64)), (.long (0 : Int64)), (.long (0 : Int64)), (.long (0 : Int64))] (.long (0 : Int64)) := (Arv.new A28 (by decide)).pad (pad_rep [] (.long (0 : Int64)) 4)
  have f30 : Exa Z h28 a1 "com/example/okno/okno/AdmissionLog" := (f29.ext E28)
  have f31 : Fld Z h28 a1 "com/example/okno/okno/AdmissionLog" "shorterWindows" "[J" .null := ((((((((P12.other W2 (Or.inr (slot_ne (Or.inr (kw53 hw)) (Or.inl (kw32 hw)) (by decide) (t := (.array .long)) (t' := .long) (by decide) (by decide)))).other W7 (Or.inr (slot_ne (Or.inr (kw53 hw)) (Or.inl (kw36 hw)) (by decide) (t := (.array .long)) (t' := (.array .long)) (by decide) (by decide)))).other W12 (Or.inr (slot_ne (Or.inr (kw53 hw)) (Or.inl (kw38 hw)) (by decide) (t := (.array .long)) (t' := (.array .long)) (by decide) (by decide)))).other W15 (Or.inr (slot_ne (Or.inr (kw53 hw)) (Or.inl (kw41 hw)) (by decide) (t := (.array .long)) (t' := .long) (by decide) (by decide)))).other W18 (Or.inr (slot_ne (Or.inr (kw53 hw)) (Or.inl (kw43 hw)) (by decide) (t := (.array .long)) (t' := .long) (by decide) (by decide)))).other W21 (Or.inr (slot_ne (Or.inr (kw53 hw)) (Or.inr (kw45 hw)) (by decide) (t := (.array .long)) (t' := .long) (by decide) (by decide)))).other W27 (Or.inr (slot_ne (Or.inr (kw53 hw)) (Or.inl (kw50 hw)) (by decide) (t := (.array .long)) (t' := .long) (by decide) (by decide)))).ext E28)
  obtain ⟨T32, h32, X32, e32, W32, st32⟩ := putF X28 hx hZ hown (host := "") (Or.inl (kw52 hw)) Via.refl e28 f31 f30 (Or.inr ⟨(kw53 hw), rfl, hnm⟩) (kw17 hw) (ty := (.array .long)) (by decide) rfl rfl (g := (mkF m 72 #[.val (.ref a1), .val (.long q1), .second, .val (.int (2 : Int32))] [(.ref b28), (.ref a1)])) rfl rfl (hb hby d4_72)
  have Z32 : n0 ≤ h32.size := Nat.le_trans Z28 (Keep.of_wr W32).1
  have K32 : Keep h0 h32 [a1] := K28.wr W32 (Or.inl (List.mem_of_getElem? (i := 0) rfl))
  have N32 := Fr.snoc X32 N27 P1
  have Fw32 : Fld Z h32 a1 "com/example/okno/okno/AdmissionLog" "shorterWindows" "[J" (.ref b28) := f31.same W32
  have f33 : Arv Z h32 b28 k28 .long (4 : Int32) [(.long (0 : Int64)), (.long (0 : Int64)), (.long (0 : Int64)), (.long (0 : Int64))] (.long (0 : Int64)) := (V28.other W32 (Ne.symm ne28_a1))
  have f34 : Fld Z h32 a1 "com/example/okno/okno/AdmissionLog" "newest" "J" (.long (-9223372036854775808 : Int64)) := ((((((((Fw2.other W7 (Or.inr (slot_ne (Or.inl (kw32 hw)) (Or.inl (kw36 hw)) (by decide) (t := .long) (t' := (.array .long)) (by decide) (by decide)))).other W12 (Or.inr (slot_ne (Or.inl (kw32 hw)) (Or.inl (kw38 hw)) (by decide) (t := .long) (t' := (.array .long)) (by decide) (by decide)))).other W15 (Or.inr (slot_ne (Or.inl (kw32 hw)) (Or.inl (kw41 hw)) (by decide) (t := .long) (t' := .long) (by decide) (by decide)))).other W18 (Or.inr (slot_ne (Or.inl (kw32 hw)) (Or.inl (kw43 hw)) (by decide) (t := .long) (t' := .long) (by decide) (by decide)))).other W21 (Or.inr (slot_ne (Or.inl (kw32 hw)) (Or.inr (kw45 hw)) (by decide) (t := .long) (t' := .long) (by decide) (by decide)))).other W27 (Or.inr (slot_ne (Or.inl (kw32 hw)) (Or.inl (kw50 hw)) (by decide) (t := .long) (t' := .long) (by decide) (by decide)))).ext E28).other W32 (Or.inr (slot_ne (Or.inl (kw32 hw)) (Or.inr (kw53 hw)) (by decide) (t := .long) (t' := (.array .long)) (by decide) (by decide))))
  have f35 : Fld Z h32 a1 "com/example/okno/okno/AdmissionLog" "subWindows" "[J" (.ref w_NO_ENTRIES) := (((((((Fw7.other W12 (Or.inr (slot_ne (Or.inl (kw36 hw)) (Or.inl (kw38 hw)) (by decide) (t := (.array .long)) (t' := (.array .long)) (by decide) (by decide)))).other W15 (Or.inr (slot_ne (Or.inl (kw36 hw)) (Or.inl (kw41 hw)) (by decide) (t := (.array .long)) (t' := .long) (by decide) (by decide)))).other W18 (Or.inr (slot_ne (Or.inl (kw36 hw)) (Or.inl (kw43 hw)) (by decide) (t := (.array .long)) (t' := .long) (by decide) (by decide)))).other W21 (Or.inr (slot_ne (Or.inl (kw36 hw)) (Or.inr (kw45 hw)) (by decide) (t := (.array .long)) (t' := .long) (by decide) (by decide)))).other W27 (Or.inr (slot_ne (Or.inl (kw36 hw)) (Or.inl (kw50 hw)) (by decide) (t := (.array .long)) (t' := .long) (by decide) (by decide)))).ext E28).other W32 (Or.inr (slot_ne (Or.inl (kw36 hw)) (Or.inr (kw53 hw)) (by decide) (t := (.array .long)) (t' := (.array .long)) (by decide) (by decide))))
  have f36 : Fld Z h32 a1 "com/example/okno/okno/AdmissionLog" "amounts" "[J" (.ref w_NO_ENTRIES) := ((((((Fw12.other W15 (Or.inr (slot_ne (Or.inl (kw38 hw)) (Or.inl (kw41 hw)) (by decide) (t := (.array .long)) (t' := .long) (by decide) (by decide)))).other W18 (Or.inr (slot_ne (Or.inl (kw38 hw)) (Or.inl (kw43 hw)) (by decide) (t := (.array .long)) (t' := .long) (by decide) (by decide)))).other W21 (Or.inr (slot_ne (Or.inl (kw38 hw)) (Or.inr (kw45 hw)) (by decide) (t := (.array .long)) (t' := .long) (by decide) (by decide)))).other W27 (Or.inr (slot_ne (Or.inl (kw38 hw)) (Or.inl (kw50 hw)) (by decide) (t := (.array .long)) (t' := .long) (by decide) (by decide)))).ext E28).other W32 (Or.inr (slot_ne (Or.inl (kw38 hw)) (Or.inr (kw53 hw)) (by decide) (t := (.array .long)) (t' := (.array .long)) (by decide) (by decide))))
  have f37 : Fld Z h32 a1 "com/example/okno/okno/AdmissionLog" "oldestSubWindow" "J" (.long (9223372036854775807 : Int64)) := (((((Fw15.other W18 (Or.inr (slot_ne (Or.inl (kw41 hw)) (Or.inl (kw43 hw)) (by decide) (t := .long) (t' := .long) (by decide) (by decide)))).other W21 (Or.inr (slot_ne (Or.inl (kw41 hw)) (Or.inr (kw45 hw)) (by decide) (t := .long) (t' := .long) (by decide) (by decide)))).other W27 (Or.inr (slot_ne (Or.inl (kw41 hw)) (Or.inl (kw50 hw)) (by decide) (t := .long) (t' := .long) (by decide) (by decide)))).ext E28).other W32 (Or.inr (slot_ne (Or.inl (kw41 hw)) (Or.inr (kw53 hw)) (by decide) (t := .long) (t' := (.array .long)) (by decide) (by decide))))
  have f38 : Fld Z h32 a1 "com/example/okno/okno/AdmissionLog" "lastTime" "J" (.long (-9223372036854775808 : Int64)) := (((f22.other W27 (Or.inr (slot_ne (Or.inl (kw43 hw)) (Or.inl (kw50 hw)) (by decide) (t := .long) (t' := .long) (by decide) (by decide)))).ext E28).other W32 (Or.inr (slot_ne (Or.inl (kw43 hw)) (Or.inr (kw53 hw)) (by decide) (t := .long) (t' := (.array .long)) (by decide) (by decide))))
  have f39 : Fld Z h32 a1 "com/example/okno/okno/AdmissionLog" "subWindowMillis" "J" (.long q1) := (((Fw21.other W27 (Or.inr (slot_ne (Or.inr (kw45 hw)) (Or.inl (kw50 hw)) (by decide) (t := .long) (t' := .long) (by decide) (by decide)))).ext E28).other W32 (Or.inr (slot_ne (Or.inr (kw45 hw)) (Or.inr (kw53 hw)) (by decide) (t := .long) (t' := (.array .long)) (by decide) (by decide))))
  have f40 : Fld Z h32 a1 "com/example/okno/okno/AdmissionLog" "lastSubWindow" "J" (.long (own_fd (-9223372036854775808 : Int64) q1)) := ((Fw27.ext E28).other W32 (Or.inr (slot_ne (Or.inl (kw50 hw)) (Or.inr (kw53 hw)) (by decide) (t := .long) (t' := (.array .long)) (by decide) (by decide))))
  have f41 : Fld Z h32 a1 "com/example/okno/okno/AdmissionLog" "total" "J" (.long (0 : Int64)) := (((((((((P13.other W2 (Or.inr (slot_ne (Or.inl (kw69 hw)) (Or.inl (kw32 hw)) (by decide) (t := .long) (t' := .long) (by decide) (by decide)))).other W7 (Or.inr (slot_ne (Or.inl (kw69 hw)) (Or.inl (kw36 hw)) (by decide) (t := .long) (t' := (.array .long)) (by decide) (by decide)))).other W12 (Or.inr (slot_ne (Or.inl (kw69 hw)) (Or.inl (kw38 hw)) (by decide) (t := .long) (t' := (.array .long)) (by decide) (by decide)))).other W15 (Or.inr (slot_ne (Or.inl (kw69 hw)) (Or.inl (kw41 hw)) (by decide) (t := .long) (t' := .long) (by decide) (by decide)))).other W18 (Or.inr (slot_ne (Or.inl (kw69 hw)) (Or.inl (kw43 hw)) (by decide) (t := .long) (t' := .long) (by decide) (by decide)))).other W21 (Or.inr (slot_ne (Or.inl (kw69 hw)) (Or.inr (kw45 hw)) (by decide) (t := .long) (t' := .long) (by decide) (by decide)))).other W27 (Or.inr (slot_ne (Or.inl (kw69 hw)) (Or.inl (kw50 hw)) (by decide) (t := .long) (t' := .long) (by decide) (by decide)))).ext E28).other W32 (Or.inr (slot_ne (Or.inl (kw69 hw)) (Or.inr (kw53 hw)) (by decide) (t := .long) (t' := (.array .long)) (by decide) (by decide))))
  have f42 : Fld Z h32 a1 "com/example/okno/okno/AdmissionLog" "newestSubWindow" "J" (.long (0 : Int64)) := (((((((((P14.other W2 (Or.inr (slot_ne (Or.inl (kw93 hw)) (Or.inl (kw32 hw)) (by decide) (t := .long) (t' := .long) (by decide) (by decide)))).other W7 (Or.inr (slot_ne (Or.inl (kw93 hw)) (Or.inl (kw36 hw)) (by decide) (t := .long) (t' := (.array .long)) (by decide) (by decide)))).other W12 (Or.inr (slot_ne (Or.inl (kw93 hw)) (Or.inl (kw38 hw)) (by decide) (t := .long) (t' := (.array .long)) (by decide) (by decide)))).other W15 (Or.inr (slot_ne (Or.inl (kw93 hw)) (Or.inl (kw41 hw)) (by decide) (t := .long) (t' := .long) (by decide) (by decide)))).other W18 (Or.inr (slot_ne (Or.inl (kw93 hw)) (Or.inl (kw43 hw)) (by decide) (t := .long) (t' := .long) (by decide) (by decide)))).other W21 (Or.inr (slot_ne (Or.inl (kw93 hw)) (Or.inr (kw45 hw)) (by decide) (t := .long) (t' := .long) (by decide) (by decide)))).other W27 (Or.inr (slot_ne (Or.inl (kw93 hw)) (Or.inl (kw50 hw)) (by decide) (t := .long) (t' := .long) (by decide) (by decide)))).ext E28).other W32 (Or.inr (slot_ne (Or.inl (kw93 hw)) (Or.inr (kw53 hw)) (by decide) (t := .long) (t' := (.array .long)) (by decide) (by decide))))
  have f43 : Fld Z h32 a1 "com/example/okno/okno/AdmissionLog" "newestSubWindowEnd" "J" (.long (0 : Int64)) := (((((((((P15.other W2 (Or.inr (slot_ne (Or.inl (kw95 hw)) (Or.inl (kw32 hw)) (by decide) (t := .long) (t' := .long) (by decide) (by decide)))).other W7 (Or.inr (slot_ne (Or.inl (kw95 hw)) (Or.inl (kw36 hw)) (by decide) (t := .long) (t' := (.array .long)) (by decide) (by decide)))).other W12 (Or.inr (slot_ne (Or.inl (kw95 hw)) (Or.inl (kw38 hw)) (by decide) (t := .long) (t' := (.array .long)) (by decide) (by decide)))).other W15 (Or.inr (slot_ne (Or.inl (kw95 hw)) (Or.inl (kw41 hw)) (by decide) (t := .long) (t' := .long) (by decide) (by decide)))).other W18 (Or.inr (slot_ne (Or.inl (kw95 hw)) (Or.inl (kw43 hw)) (by decide) (t := .long) (t' := .long) (by decide) (by decide)))).other W21 (Or.inr (slot_ne (Or.inl (kw95 hw)) (Or.inr (kw45 hw)) (by decide) (t := .long) (t' := .long) (by decide) (by decide)))).other W27 (Or.inr (slot_ne (Or.inl (kw95 hw)) (Or.inl (kw50 hw)) (by decide) (t := .long) (t' := .long) (by decide) (by decide)))).ext E28).other W32 (Or.inr (slot_ne (Or.inl (kw95 hw)) (Or.inr (kw53 hw)) (by decide) (t := .long) (t' := (.array .long)) (by decide) (by decide))))
  have f44 : Fld Z h32 a1 "com/example/okno/okno/AdmissionLog" "olderTotal" "J" (.long (0 : Int64)) := (((((((((P16.other W2 (Or.inr (slot_ne (Or.inl (kw101 hw)) (Or.inl (kw32 hw)) (by decide) (t := .long) (t' := .long) (by decide) (by decide)))).other W7 (Or.inr (slot_ne (Or.inl (kw101 hw)) (Or.inl (kw36 hw)) (by decide) (t := .long) (t' := (.array .long)) (by decide) (by decide)))).other W12 (Or.inr (slot_ne (Or.inl (kw101 hw)) (Or.inl (kw38 hw)) (by decide) (t := .long) (t' := (.array .long)) (by decide) (by decide)))).other W15 (Or.inr (slot_ne (Or.inl (kw101 hw)) (Or.inl (kw41 hw)) (by decide) (t := .long) (t' := .long) (by decide) (by decide)))).other W18 (Or.inr (slot_ne (Or.inl (kw101 hw)) (Or.inl (kw43 hw)) (by decide) (t := .long) (t' := .long) (by decide) (by decide)))).other W21 (Or.inr (slot_ne (Or.inl (kw101 hw)) (Or.inr (kw45 hw)) (by decide) (t := .long) (t' := .long) (by decide) (by decide)))).other W27 (Or.inr (slot_ne (Or.inl (kw101 hw)) (Or.inl (kw50 hw)) (by decide) (t := .long) (t' := .long) (by decide) (by decide)))).ext E28).other W32 (Or.inr (slot_ne (Or.inl (kw101 hw)) (Or.inr (kw53 hw)) (by decide) (t := .long) (t' := (.array .long)) (by decide) (by decide))))
  have f45 : Fld Z h32 a1 "com/example/okno/okno/AdmissionLog" "size" "I" (.int (0 : Int32)) := (((((((((P17.other W2 (Or.inr (slot_ne (Or.inl (kw107 hw)) (Or.inl (kw32 hw)) (by decide) (t := .int) (t' := .long) (by decide) (by decide)))).other W7 (Or.inr (slot_ne (Or.inl (kw107 hw)) (Or.inl (kw36 hw)) (by decide) (t := .int) (t' := (.array .long)) (by decide) (by decide)))).other W12 (Or.inr (slot_ne (Or.inl (kw107 hw)) (Or.inl (kw38 hw)) (by decide) (t := .int) (t' := (.array .long)) (by decide) (by decide)))).other W15 (Or.inr (slot_ne (Or.inl (kw107 hw)) (Or.inl (kw41 hw)) (by decide) (t := .int) (t' := .long) (by decide) (by decide)))).other W18 (Or.inr (slot_ne (Or.inl (kw107 hw)) (Or.inl (kw43 hw)) (by decide) (t := .int) (t' := .long) (by decide) (by decide)))).other W21 (Or.inr (slot_ne (Or.inl (kw107 hw)) (Or.inr (kw45 hw)) (by decide) (t := .int) (t' := .long) (by decide) (by decide)))).other W27 (Or.inr (slot_ne (Or.inl (kw107 hw)) (Or.inl (kw50 hw)) (by decide) (t := .int) (t' := .long) (by decide) (by decide)))).ext E28).other W32 (Or.inr (slot_ne (Or.inl (kw107 hw)) (Or.inr (kw53 hw)) (by decide) (t := .int) (t' := (.array .long)) (by decide) (by decide))))
  have f46 : Fld Z h32 a1 "com/example/okno/okno/AdmissionLog" "head" "I" (.int (0 : Int32)) := (((((((((P18.other W2 (Or.inr (slot_ne (Or.inl (kw116 hw)) (Or.inl (kw32 hw)) (by decide) (t := .int) (t' := .long) (by decide) (by decide)))).other W7 (Or.inr (slot_ne (Or.inl (kw116 hw)) (Or.inl (kw36 hw)) (by decide) (t := .int) (t' := (.array .long)) (by decide) (by decide)))).other W12 (Or.inr (slot_ne (Or.inl (kw116 hw)) (Or.inl (kw38 hw)) (by decide) (t := .int) (t' := (.array .long)) (by decide) (by decide)))).other W15 (Or.inr (slot_ne (Or.inl (kw116 hw)) (Or.inl (kw41 hw)) (by decide) (t := .int) (t' := .long) (by decide) (by decide)))).other W18 (Or.inr (slot_ne (Or.inl (kw116 hw)) (Or.inl (kw43 hw)) (by decide) (t := .int) (t' := .long) (by decide) (by decide)))).other W21 (Or.inr (slot_ne (Or.inl (kw116 hw)) (Or.inr (kw45 hw)) (by decide) (t := .int) (t' := .long) (by decide) (by decide)))).other W27 (Or.inr (slot_ne (Or.inl (kw116 hw)) (Or.inl (kw50 hw)) (by decide) (t := .int) (t' := .long) (by decide) (by decide)))).ext E28).other W32 (Or.inr (slot_ne (Or.inl (kw116 hw)) (Or.inr (kw53 hw)) (by decide) (t := .int) (t' := (.array .long)) (by decide) (by decide))))
  obtain ⟨fs, hr, hrun, hended, hW, hsame⟩ := X32.leave (v := none) (fun _ => rfl)
  refine ⟨_, _, pre0 _ ?_, hrun, hended, _, _, rfl, ?_, ⟨_, rfl⟩, hW, hsame.mono (by decide) (by decide)⟩
  · skip
    refine XS.aloadN X0.here hx rfl (hb hby d4_0) rfl rfl ?_
    refine st1.trans ?_
    refine XS.aloadN X1.here hx rfl (hb hby d4_4) rfl rfl ?_
    refine X1.ldc2Long hx hown (mvT hZ (kw30 hw)) (g := (mkF m 5 #[.val (.ref a1), .val (.long q1), .second, .val (.int (2 : Int32))] [(.ref a1)])) rfl (hb hby d4_5) _ ?_
    refine st2 _ ?_
    refine XS.aloadN X2.here hx rfl (hb hby d4_11) rfl rfl ?_
    refine st3 _ ?_
    refine st7 _ ?_
    refine XS.aloadN X7.here hx rfl (hb hby d4_18) rfl rfl ?_
    refine st8 _ ?_
    refine st12 _ ?_
    refine XS.aloadN X12.here hx rfl (hb hby d4_25) rfl rfl ?_
    refine X12.ldc2Long hx hown (mvT hZ (kw39 hw)) (g := (mkF m 26 #[.val (.ref a1), .val (.long q1), .second, .val (.int (2 : Int32))] [(.ref a1)])) rfl (hb hby d4_26) _ ?_
    refine st15 _ ?_
    refine XS.aloadN X15.here hx rfl (hb hby d4_32) rfl rfl ?_
    refine X15.ldc2Long hx hown (mvT hZ (kw30 hw)) (g := (mkF m 33 #[.val (.ref a1), .val (.long q1), .second, .val (.int (2 : Int32))] [(.ref a1)])) rfl (hb hby d4_33) _ ?_
    refine st18 _ ?_
    refine XS.aloadN X18.here hx rfl (hb hby d4_39) rfl rfl ?_
    refine XS.lloadN X18.here hx rfl (hb hby d4_40) rfl ?_
    refine st21 _ ?_
    refine XS.aloadN X21.here hx rfl (hb hby d4_44) rfl rfl ?_
    refine XS.aloadN X21.here hx rfl (hb hby d4_45) rfl rfl ?_
    refine st23 _ ?_
    refine XS.lloadN X23.here hx rfl (hb hby d4_49) rfl ?_
    refine st24 _ ?_
    show Steps p.tables e below (T24.setTop (mkF m 53 #[.val (.ref a1), .val (.long q1), .second, .val (.int (2 : Int32))] [(.long (own_fd (-9223372036854775808 : Int64) q1)), (.ref a1)])) _
    refine st27 _ ?_
    refine XS.aloadN X27.here hx rfl (hb hby d4_56) rfl rfl ?_
    refine XS.iloadN X27.here hx rfl (hb hby d4_57) rfl ?_
    refine XS.ifYes X27.here hx rfl (pc0 := 58) (pc' := 67) rfl (hb hby d4_58) rfl ((if0 _ _).trans (feq (by decide : ¬ ((2 : Int32) = (0 : Int32)))).2) (by decide) (by decide) ?_
    refine XS.iconst X27.here hx rfl (hb hby d4_67) ?_
    refine XS.iloadN X27.here hx rfl (hb hby d4_68) rfl ?_
    refine XS.imul X27.here hx rfl (hb hby d4_69) rfl ?_
    refine st28 _ ?_
    refine st32 _ ?_
    show Steps p.tables e below (T32.setTop (mkF m 75 #[.val (.ref a1), .val (.long q1), .second, .val (.int (2 : Int32))] [])) _
    exact X32.returnOut hx Bd.returns (hb hby d4_75) hr
  · show Q_rmInit Z a1 q1 w_NO_ENTRIES h0 n0 _ T32.heap _
    rw [e32]
    exact ⟨b28, k28, rfl, N32, K32, g_b28, sz_b28, f33, f34, f35, f36, f37, f38, f39, f40, Fw32, f41, f42, f43, f44, f45, f46⟩
theorem ef_rmEnt_2 (m : MethodId) (x0 : Addr) : entryFrame m #[(.ref x0)] 1 = mkF m 0 #[.val (.ref x0)] [] := by first | (simp [entryFrame, mkF, argsToLocals, Value.category]; done) | rfl
def Q_rmEnt_2 (Z : State) (a1 : Addr) (h0 : Heap) (n0 : Nat) (v : Option Value) (h : Heap) (L : List Loc) : Prop := v = some (.int (0 : Int32)) ∧ Fr n0 L ∧ h = h0
set_option maxRecDepth 65536 in
set_option maxHeartbeats 40000000 in
theorem rmEnt_2 (l : Launch) (Z : State) (a0 : Array Value) (hw : ∀ d ∈ tables_1, d.before a0 Z = true) (ws : List Jvm.Cond) (a1 : Addr) (h0 : Heap) (n0 : Nat) (Z0 : n0 ≤ h0.size) (P0 : Exa Z h0 a1 "com/example/okno/okno/AdmissionLog") (P1 : Fld Z h0 a1 "com/example/okno/okno/AdmissionLog" "total" "J" (.long (0 : Int64))) :
    MetFree l (⟨"com/example/okno/okno/AdmissionLog", "entryCount", "()I"⟩ : MethodName) (head1 (Jvm.Cond.code (⟨"com/example/okno/okno/AdmissionLog", "entryCount", "()I"⟩ : MethodName) prog_2_method_20_code 1 (some .int) :: ws) ({ frames := 1, cells := 0, slots := 0, locals := 12 } : Room)) (fun a U => a = #[(.ref a1)] ∧ Z.Warmed39 U.vm ∧ U.heap = h0) (fun _ _ _ _ _ => True) (fun _ U o U' => ∃ v L, o = .returned v ∧ Q_rmEnt_2 Z a1 h0 n0 v U'.heap L ∧ FrameEnd U o U' L ({ frames := 1, cells := 0, slots := 0, locals := 12 } : Room).cells ({ frames := 1, cells := 0, slots := 0, locals := 12 } : Room).slots) := by
  refine MetFree.of_bodySF (plainFor_of_name pn_2) hisR ?_
  intro p e s m args below meth c s₁ Bd hml0 hP hK
  obtain ⟨rfl, hZ, hh⟩ := hP
  have hx := Bd.exec
  have hby := Bd.bytes
  have hml : c.maxLocals = 1 := hml0
  have hown : s.vm.findClass "com/example/okno/okno/AdmissionLog" = some m.cls := findClass_of_methodNamed Bd.named
  have hnm := (name_of_methodNamed Bd.named Bd.method).1
  have X0 : Stand p l e ({ frames := 1, cells := 0, slots := 0, locals := 12 } : Room) s m #[(.ref a1)] below meth c s₁ [] 0 0 := Stand.of_body Bd
  have e0 : s₁.heap = h0 := by rw [← hh, Bd.state]; rfl
  have N0 := Fr.nil n0
  have KR : Keep h0 h0 [] := Keep.refl h0 _
  have pre0 : ∀ t, Steps p.tables e below (s₁.setTop (mkF m 0 #[.val (.ref a1)] [])) t → Steps p.tables e below (s₁.setTop (entryFrame m #[(.ref a1)] 1)) t := fun t k => castTop (ef_rmEnt_2 m (a1)) k
  obtain ⟨cq1, kq1, q1a, q1b, q1c⟩ := isOf hZ e0 P0
  obtain ⟨_, _, ⟨T1, L1, k1, n1⟩, -, X1, ⟨Lc1, hQ1, l1, y1, z1⟩, st1⟩ := X0.virtualBack hx (y := (⟨"com/example/okno/okno/AdmissionLog", "isEmpty", "()Z"⟩ : MethodName)) (z := (⟨"com/example/okno/okno/AdmissionLog", "isEmpty", "()Z"⟩ : MethodName)) hown (mvT hZ (kw63 hw)) (mvT hZ (kw64 hw)) (notFace_of_selects (args := #[]) (mvT hZ (kw66 hw))) (mvT hZ (kw66 hw)) (mvT hZ (kw65 hw)) (by decide) (backOf (W := 0) (rmEmp0 l Z a0 hw [] a1 h0 n0 Z0 P1) hZ (kw67 hw) (kw18 hw) (by decide) (by decide)) q1a q1c (g := (mkF m 1 #[.val (.ref a1)] [(.ref a1)])) rfl (by rw [hml]; rfl) (Steps.refl _) (argsL := []) (rest := []) (lenOf pd_4 rfl) rfl (by show 2 * 0 + _ ≤ _; exact Nat.le_of_eq rfl) (hb hby d9_1) (fun _ _ => ⟨rfl, e0, (by decide : 0 + 0 ≤ _), (by decide : 0 + 0 ≤ _)⟩)
  dsimp only [Pt.U, Pt.locs, Pt.cells, Pt.slots] at X1 l1 y1 z1 st1 hQ1
  subst l1 y1 z1
  obtain ⟨rfl, N1q, e1⟩ := hQ1
  have N1 := Fr.app N0 N1q
  obtain ⟨fs, hr, hrun, hended, hW, hsame⟩ := X1.leave (v := some (.int (0 : Int32))) (fun h => by rw [Bd.returns] at h; cases h)
  refine ⟨_, _, pre0 _ ?_, hrun, hended, _, _, rfl, ?_, ⟨_, rfl⟩, hW, hsame.mono (by decide) (by decide)⟩
  · skip
    refine XS.aloadN X0.here hx rfl (hb hby d9_0) rfl rfl ?_
    refine st1.trans ?_
    refine XS.ifNo X1.here hx rfl (hb hby d9_4) rfl ((if0 _ _).trans (feq (by decide : ¬ ((1 : Int32) = (0 : Int32)))).1) ?_
    refine XS.iconst X1.here hx rfl (hb hby d9_7) ?_
    refine XS.goto X1.here hx rfl (pc0 := 8) (pc' := 17) rfl (hb hby d9_8) (by decide) (by decide) ?_
    show Steps p.tables e below (T1.setTop (mkF m 17 #[.val (.ref a1)] [(.int (0 : Int32))])) _
    exact retI X1 hx Bd.returns (hb hby d9_17) hr
  · show Q_rmEnt_2 Z a1 h0 n0 _ T1.heap _
    rw [e1]
    exact ⟨rfl, N1, rfl⟩
theorem ef_rmFitE_1 (m : MethodId) (x0 : Addr) (x1 : Int32) (x2 : Int64) : entryFrame m #[(.ref x0), (.int x1), (.long x2)] 8 = mkF m 0 #[.val (.ref x0), .val (.int x1), .val (.long x2), .second, .unset, .unset, .unset, .unset] [] := by first | (simp [entryFrame, mkF, argsToLocals, Value.category]; done) | rfl
def Q_rmFitE_1 (Z : State) (a1 : Addr) (pw : Int32) (q : Int64) (sw : Addr) (k3 : ClassId) (vs : List Value) (r : Int64) (h0 : Heap) (n0 : Nat) (v : Option Value) (h : Heap) (L : List Loc) : Prop := v = none ∧ Fr n0 L ∧ Keep h0 h [sw] ∧ Arv Z h sw k3 .long (4 : Int32) ((vs.set (((2 : Int32) * pw)).toNatClampNeg (.long r)).set ((((2 : Int32) * pw) + (1 : Int32))).toNatClampNeg (.long (0 : Int64))) (.long (0 : Int64))
set_option maxRecDepth 65536 in
set_option maxHeartbeats 40000000 in
theorem rmFitE_1 (l : Launch) (Z : State) (a0 : Array Value) (hw : ∀ d ∈ tables_1, d.before a0 Z = true) (ws : List Jvm.Cond) (a1 : Addr) (pw : Int32) (q : Int64) (sw : Addr) (k3 : ClassId) (vs : List Value) (r : Int64) (h0 : Heap) (n0 : Nat) (Z0 : n0 ≤ h0.size) (P0 : Exa Z h0 a1 "com/example/okno/okno/AdmissionLog") (P1 : n0 ≤ sw) (P2 : sw ≠ a1) (hl : vs.length = 4) (P4 : Arv Z h0 sw k3 .long (4 : Int32) vs (.long (0 : Int64))) (hp : pw = (0 : Int32) ∨ pw = (1 : Int32)) (hr : vs.getD (((2 : Int32) * pw)).toNatClampNeg (.long (0 : Int64)) = .long r) (hc : vs.getD ((((2 : Int32) * pw) + (1 : Int32))).toNatClampNeg (.long (0 : Int64)) = .long (0 : Int64)) (P8 : Fld Z h0 a1 "com/example/okno/okno/AdmissionLog" "total" "J" (.long (0 : Int64))) (P9 : Fld Z h0 a1 "com/example/okno/okno/AdmissionLog" "shorterWindows" "[J" (.ref sw)) (P10 : Fld Z h0 a1 "com/example/okno/okno/AdmissionLog" "size" "I" (.int (0 : Int32))) :
    MetFree l (⟨"com/example/okno/okno/AdmissionLog", "fitShorterWindow", "(IJ)V"⟩ : MethodName) (head1 (Jvm.Cond.code (⟨"com/example/okno/okno/AdmissionLog", "fitShorterWindow", "(IJ)V"⟩ : MethodName) prog_2_method_18_code 8 none :: ws) ({ frames := 2, cells := 0, slots := 0, locals := 24 } : Room)) (fun a U => a = #[(.ref a1), (.int pw), (.long q)] ∧ Z.Warmed39 U.vm ∧ U.heap = h0) (fun _ _ _ _ _ => True) (fun _ U o U' => ∃ v L, o = .returned v ∧ Q_rmFitE_1 Z a1 pw q sw k3 vs r h0 n0 v U'.heap L ∧ FrameEnd U o U' L ({ frames := 2, cells := 0, slots := 0, locals := 24 } : Room).cells ({ frames := 2, cells := 0, slots := 0, locals := 24 } : Room).slots) := by
  refine MetFree.of_bodySF (plainFor_of_name pn_2) hisR ?_
  intro p e s m args below meth c s₁ Bd hml0 hP hK
  obtain ⟨rfl, hZ, hh⟩ := hP
  have hx := Bd.exec
  have hby := Bd.bytes
  have hml : c.maxLocals = 8 := hml0
  have hown : s.vm.findClass "com/example/okno/okno/AdmissionLog" = some m.cls := findClass_of_methodNamed Bd.named
  have hnm := (name_of_methodNamed Bd.named Bd.method).1
  have X0 : Stand p l e ({ frames := 2, cells := 0, slots := 0, locals := 24 } : Room) s m #[(.ref a1), (.int pw), (.long q)] below meth c s₁ [] 0 0 := Stand.of_body Bd
  have e0 : s₁.heap = h0 := by rw [← hh, Bd.state]; rfl
  have N0 := Fr.nil n0
  have KR : Keep h0 h0 [sw] := Keep.refl h0 _
  have pre0 : ∀ t, Steps p.tables e below (s₁.setTop (mkF m 0 #[.val (.ref a1), .val (.int pw), .val (.long q), .second, .unset, .unset, .unset, .unset] [])) t → Steps p.tables e below (s₁.setTop (entryFrame m #[(.ref a1), (.int pw), (.long q)] 8)) t := fun t k => castTop (ef_rmFitE_1 m (a1) (pw) (q)) k
  obtain ⟨cq1, q1, q1'⟩ := (P0).cell
  obtain ⟨_, _, ⟨T1, L1, k1, n1⟩, -, X1, ⟨Lc1, hQ1, l1, y1, z1⟩, st1⟩ := X0.privateBack hx (y := (⟨"com/example/okno/okno/AdmissionLog", "entryCount", "()I"⟩ : MethodName)) hown (mvT hZ (kw59 hw)) (mvT hZ (kw60 hw)) (mvT hZ (own_selP rfl (kw17 hw) (kw60 hw) (kw61 hw) (by decide))) (Cond.privateMethod_at (mvP hZ (kw61 hw) (args := #[]))) (mvT hZ (kw62 hw)) (by decide) (backOf (W := 0) (rmEnt_2 l Z a0 hw [] a1 h0 n0 Z0 P0 P8) hZ (kw62 hw) (kw18 hw) (by decide) (by decide)) (g := (mkF m 1 #[.val (.ref a1), .val (.int pw), .val (.long q), .second, .unset, .unset, .unset, .unset] [(.ref a1)])) rfl (by rw [hml]; rfl) (Steps.refl _) (a := a1) (by rw [e0]; exact q1) q1' (argsL := []) (rest := []) (lenOf pd_5 rfl) rfl (by show 2 * 0 + _ ≤ _; exact Nat.le_of_eq rfl) (hb hby d8_1) (fun _ _ => ⟨rfl, e0, (by decide : 0 + 0 ≤ _), (by decide : 0 + 0 ≤ _)⟩)
  dsimp only [Pt.U, Pt.locs, Pt.cells, Pt.slots] at X1 l1 y1 z1 st1 hQ1
  subst l1 y1 z1
  obtain ⟨rfl, N1q, e1⟩ := hQ1
  have N1 := Fr.app N0 N1q
  obtain ⟨T2, X2, e2, st2⟩ := getF X1 hx hZ hown (host := "") (Or.inl (kw52 hw)) Via.refl e1 P9 (g := (mkF m 7 #[.val (.ref a1), .val (.int pw), .val (.long q), .second, .val (.int (0 : Int32)), .unset, .unset, .unset] [(.ref a1)])) rfl rfl (hb hby d8_7)
  obtain ⟨cl3, Ar3, q3, S3, N3', H3, G3⟩ := id P4
  have hin3 : ¬ (((2 : Int32) * pw) < 0 ∨ cl3.slots.size ≤ (((2 : Int32) * pw)).toNatClampNeg) := inb_of S3 (own_ib hp)
  have hat3 : cl3.slots[(((2 : Int32) * pw)).toNatClampNeg]? = some (.long r) := H3.at hin3 hr
  obtain ⟨T4, X4, e4, st4⟩ := getF X2 hx hZ hown (host := "") (Or.inl (kw52 hw)) Via.refl e2 P9 (g := (mkF m 17 #[.val (.ref a1), .val (.int pw), .val (.long q), .second, .val (.int (0 : Int32)), .val (.long r), .second, .unset] [(.ref a1)])) rfl rfl (hb hby d8_17)
  obtain ⟨cl5, Ar5, q5, S5, N5', H5, G5⟩ := id P4
  have hin5 : ¬ ((((2 : Int32) * pw) + (1 : Int32)) < 0 ∨ cl5.slots.size ≤ ((((2 : Int32) * pw) + (1 : Int32))).toNatClampNeg) := inb_of S5 (own_ib1 hp)
  have hat5 : cl5.slots[((((2 : Int32) * pw) + (1 : Int32))).toNatClampNeg]? = some (.long (0 : Int64)) := H5.at hin5 hc
  obtain ⟨T6, X6, e6, st6⟩ := getF X4 hx hZ hown (host := "") (Or.inl (kw52 hw)) Via.refl e4 P9 (g := (mkF m 112 #[.val (.ref a1), .val (.int pw), .val (.long q), .second, .val (.int (0 : Int32)), .val (.long r), .second, .val (.int (0 : Int32))] [(.ref a1)])) rfl rfl (hb hby d8_112)
  obtain ⟨cl7, Ar7, q7, S7, N7', H7, G7⟩ := id P4
  have hin7 : ¬ (((2 : Int32) * pw) < 0 ∨ cl7.slots.size ≤ (((2 : Int32) * pw)).toNatClampNeg) := inb_of S7 (own_ib hp)
  obtain ⟨T7, h7, X7, e7, W7, st7⟩ := stJ X6 hx hZ e6 Ar7 (j := ((2 : Int32) * pw)) hin7 (g := (mkF m 120 #[.val (.ref a1), .val (.int pw), .val (.long q), .second, .val (.int (0 : Int32)), .val (.long r), .second, .val (.int (0 : Int32))] [(.long r), (.int ((2 : Int32) * pw)), (.ref sw)])) rfl rfl (hb hby d8_120)
  have Z7 : n0 ≤ h7.size := Nat.le_trans Z0 (Keep.of_wr W7).1
  have K7 : Keep h0 h7 [sw] := KR.wr W7 (Or.inl (List.mem_of_getElem? (i := 0) rfl))
  have N7 := Fr.snoc X7 N1 P1
  have V7 : Arv Z h7 sw k3 .long (4 : Int32) (vs.set (((2 : Int32) * pw)).toNatClampNeg (.long r)) (.long (0 : Int64)) := Arv.set Ar7 q7 S7 N7' H7 G7 rfl W7 (((2 : Int32) * pw)).toNatClampNeg rfl (own_ix hp hl)
  have f8 : Fld Z h7 a1 "com/example/okno/okno/AdmissionLog" "shorterWindows" "[J" (.ref sw) := (P9.other W7 (Or.inl (Ne.symm P2)))
  obtain ⟨T9, X9, e9, st9⟩ := getF X7 hx hZ hown (host := "") (Or.inl (kw52 hw)) Via.refl e7 f8 (g := (mkF m 122 #[.val (.ref a1), .val (.int pw), .val (.long q), .second, .val (.int (0 : Int32)), .val (.long r), .second, .val (.int (0 : Int32))] [(.ref a1)])) rfl rfl (hb hby d8_122)
  obtain ⟨cl10, Ar10, q10, S10, N10', H10, G10⟩ := id V7
  have hin10 : ¬ ((((2 : Int32) * pw) + (1 : Int32)) < 0 ∨ cl10.slots.size ≤ ((((2 : Int32) * pw) + (1 : Int32))).toNatClampNeg) := inb_of S10 (own_ib1 hp)
  obtain ⟨T10, h10, X10, e10, W10, st10⟩ := stJ X9 hx hZ e9 Ar10 (j := (((2 : Int32) * pw) + (1 : Int32))) hin10 (g := (mkF m 133 #[.val (.ref a1), .val (.int pw), .val (.long q), .second, .val (.int (0 : Int32)), .val (.long r), .second, .val (.int (0 : Int32))] [(.long (0 : Int64)), (.int (((2 : Int32) * pw) + (1 : Int32))), (.ref sw)])) rfl rfl (hb hby d8_133)
  have Z10 : n0 ≤ h10.size := Nat.le_trans Z7 (Keep.of_wr W10).1
  have K10 : Keep h0 h10 [sw] := K7.wr W10 (Or.inl (List.mem_of_getElem? (i := 0) rfl))
  have N10 := Fr.snoc X10 N7 P1
  have V10 : Arv Z h10 sw k3 .long (4 : Int32) ((vs.set (((2 : Int32) * pw)).toNatClampNeg (.long r)).set ((((2 : Int32) * pw) + (1 : Int32))).toNatClampNeg (.long (0 : Int64))) (.long (0 : Int64)) := Arv.set Ar10 q10 S10 N10' H10 G10 rfl W10 ((((2 : Int32) * pw) + (1 : Int32))).toNatClampNeg rfl (own_ix1 hp (by simp [hl]))
  obtain ⟨fs, hr, hrun, hended, hW, hsame⟩ := X10.leave (v := none) (fun _ => rfl)
  refine ⟨_, _, pre0 _ ?_, hrun, hended, _, _, rfl, ?_, ⟨_, rfl⟩, hW, hsame.mono (by decide) (by decide)⟩
  · skip
    refine XS.aloadN X0.here hx rfl (hb hby d8_0) rfl rfl ?_
    refine st1.trans ?_
    refine XS.istore X1.here hx rfl (hb hby d8_4) rfl (l' := #[.val (.ref a1), .val (.int pw), .val (.long q), .second, .val (.int (0 : Int32)), .unset, .unset, .unset]) rfl ?_
    refine XS.aloadN X1.here hx rfl (hb hby d8_6) rfl rfl ?_
    refine st2 _ ?_
    refine XS.iconst X2.here hx rfl (hb hby d8_10) ?_
    refine XS.iloadN X2.here hx rfl (hb hby d8_11) rfl ?_
    refine XS.imul X2.here hx rfl (hb hby d8_12) rfl ?_
    refine X2.laload hx (j := ((2 : Int32) * pw)) (v := (.long r)) (by rw [e2]; exact Ar3.1) (State.isArrayOf_alike hZ.alike Ar3.2.1) Ar3.2.2 hin3 hat3 (g := (mkF m 13 #[.val (.ref a1), .val (.int pw), .val (.long q), .second, .val (.int (0 : Int32)), .unset, .unset, .unset] [(.int ((2 : Int32) * pw)), (.ref sw)])) rfl rfl (hb hby d8_13) _ ?_
    refine XS.lstore X2.here hx rfl (hb hby d8_14) rfl (l' := #[.val (.ref a1), .val (.int pw), .val (.long q), .second, .val (.int (0 : Int32)), .val (.long r), .second, .unset]) rfl ?_
    refine XS.aloadN X2.here hx rfl (hb hby d8_16) rfl rfl ?_
    refine st4 _ ?_
    refine XS.iconst X4.here hx rfl (hb hby d8_20) ?_
    refine XS.iloadN X4.here hx rfl (hb hby d8_21) rfl ?_
    refine XS.imul X4.here hx rfl (hb hby d8_22) rfl ?_
    refine XS.iconst X4.here hx rfl (hb hby d8_23) ?_
    refine XS.iadd X4.here hx rfl (hb hby d8_24) rfl ?_
    refine X4.laload hx (j := (((2 : Int32) * pw) + (1 : Int32))) (v := (.long (0 : Int64))) (by rw [e4]; exact Ar5.1) (State.isArrayOf_alike hZ.alike Ar5.2.1) Ar5.2.2 hin5 hat5 (g := (mkF m 25 #[.val (.ref a1), .val (.int pw), .val (.long q), .second, .val (.int (0 : Int32)), .val (.long r), .second, .unset] [(.int (((2 : Int32) * pw) + (1 : Int32))), (.ref sw)])) rfl rfl (hb hby d8_25) _ ?_
    refine XS.l2i X4.here hx rfl (hb hby d8_26) rfl ?_
    refine XS.istore X4.here hx rfl (hb hby d8_27) rfl (l' := #[.val (.ref a1), .val (.int pw), .val (.long q), .second, .val (.int (0 : Int32)), .val (.long r), .second, .val (.int (0 : Int32))]) rfl ?_
    refine XS.iload X4.here hx rfl (hb hby d8_29) rfl ?_
    refine XS.ifYes X4.here hx rfl (pc0 := 31) (pc' := 68) rfl (hb hby d8_31) rfl ((if0 _ _).trans (flt (by decide : ¬ ((0 : Int32) < (0 : Int32)))).2.2.2) (by decide) (by decide) ?_
    refine XS.iload X4.here hx rfl (hb hby d8_68) rfl ?_
    refine XS.iload X4.here hx rfl (hb hby d8_70) rfl ?_
    refine XS.icmpYes X4.here hx rfl (pc0 := 72) (pc' := 111) rfl (hb hby d8_72) rfl (flt (by decide : ¬ ((0 : Int32) < (0 : Int32)))).2.1 (by decide) (by decide) ?_
    show Steps p.tables e below (T4.setTop (mkF m 111 #[.val (.ref a1), .val (.int pw), .val (.long q), .second, .val (.int (0 : Int32)), .val (.long r), .second, .val (.int (0 : Int32))] [])) _
    refine XS.aloadN X4.here hx rfl (hb hby d8_111) rfl rfl ?_
    refine st6 _ ?_
    refine XS.iconst X6.here hx rfl (hb hby d8_115) ?_
    refine XS.iloadN X6.here hx rfl (hb hby d8_116) rfl ?_
    refine XS.imul X6.here hx rfl (hb hby d8_117) rfl ?_
    refine XS.lload X6.here hx rfl (hb hby d8_118) rfl ?_
    refine st7 _ ?_
    refine XS.aloadN X7.here hx rfl (hb hby d8_121) rfl rfl ?_
    refine st9 _ ?_
    refine XS.iconst X9.here hx rfl (hb hby d8_125) ?_
    refine XS.iloadN X9.here hx rfl (hb hby d8_126) rfl ?_
    refine XS.imul X9.here hx rfl (hb hby d8_127) rfl ?_
    refine XS.iconst X9.here hx rfl (hb hby d8_128) ?_
    refine XS.iadd X9.here hx rfl (hb hby d8_129) rfl ?_
    refine XS.iload X9.here hx rfl (hb hby d8_130) rfl ?_
    refine XS.i2l X9.here hx rfl (hb hby d8_132) rfl ?_
    refine st10 _ ?_
    show Steps p.tables e below (T10.setTop (mkF m 134 #[.val (.ref a1), .val (.int pw), .val (.long q), .second, .val (.int (0 : Int32)), .val (.long r), .second, .val (.int (0 : Int32))] [])) _
    exact X10.returnOut hx Bd.returns (hb hby d8_134) hr
  · show Q_rmFitE_1 Z a1 pw q sw k3 vs r h0 n0 _ T10.heap _
    rw [e10]
    exact ⟨rfl, N10, K10, V10⟩
theorem ef_rmTot (m : MethodId) (x0 : Addr) (x1 : Int32) : entryFrame m #[(.ref x0), (.int x1)] 4 = mkF m 0 #[.val (.ref x0), .val (.int x1), .unset, .unset] [] := by first | (simp [entryFrame, mkF, argsToLocals, Value.category]; done) | rfl
def Q_rmTot (Z : State) (a1 : Addr) (pw : Int32) (sw : Addr) (k3 : ClassId) (vs : List Value) (r : Int64) (cc : Int64) (tt : Int64) (ot : Int64) (h0 : Heap) (n0 : Nat) (v : Option Value) (h : Heap) (L : List Loc) : Prop := v = some (.long (own_stot r cc tt ot)) ∧ Fr n0 L ∧ h = h0
set_option maxRecDepth 65536 in
set_option maxHeartbeats 40000000 in
theorem rmTot (l : Launch) (Z : State) (a0 : Array Value) (hw : ∀ d ∈ tables_1, d.before a0 Z = true) (ws : List Jvm.Cond) (a1 : Addr) (pw : Int32) (sw : Addr) (k3 : ClassId) (vs : List Value) (r : Int64) (cc : Int64) (tt : Int64) (ot : Int64) (h0 : Heap) (n0 : Nat) (Z0 : n0 ≤ h0.size) (P0 : Fld Z h0 a1 "com/example/okno/okno/AdmissionLog" "shorterWindows" "[J" (.ref sw)) (P1 : Arv Z h0 sw k3 .long (4 : Int32) vs (.long (0 : Int64))) (P2 : Fld Z h0 a1 "com/example/okno/okno/AdmissionLog" "total" "J" (.long tt)) (P3 : Fld Z h0 a1 "com/example/okno/okno/AdmissionLog" "olderTotal" "J" (.long ot)) (hp : pw = (0 : Int32) ∨ pw = (1 : Int32)) (hr : vs.getD (((2 : Int32) * pw)).toNatClampNeg (.long (0 : Int64)) = .long r) (hc : vs.getD ((((2 : Int32) * pw) + (1 : Int32))).toNatClampNeg (.long (0 : Int64)) = .long cc) :
    MetFree l (⟨"com/example/okno/okno/AdmissionLog", "shorterTotal", "(I)J"⟩ : MethodName) (head1 (Jvm.Cond.code (⟨"com/example/okno/okno/AdmissionLog", "shorterTotal", "(I)J"⟩ : MethodName) prog_2_method_16_code 4 (some .long) :: ws) ({ frames := 0, cells := 0, slots := 0, locals := 0 } : Room)) (fun a U => a = #[(.ref a1), (.int pw)] ∧ Z.Warmed39 U.vm ∧ U.heap = h0) (fun _ _ _ _ _ => True) (fun _ U o U' => ∃ v L, o = .returned v ∧ Q_rmTot Z a1 pw sw k3 vs r cc tt ot h0 n0 v U'.heap L ∧ FrameEnd U o U' L ({ frames := 0, cells := 0, slots := 0, locals := 0 } : Room).cells ({ frames := 0, cells := 0, slots := 0, locals := 0 } : Room).slots) := by
  refine MetFree.of_bodySF (plainFor_of_name pn_2) hisR ?_
  intro p e s m args below meth c s₁ Bd hml0 hP hK
  obtain ⟨rfl, hZ, hh⟩ := hP
  have hx := Bd.exec
  have hby := Bd.bytes
  have hml : c.maxLocals = 4 := hml0
  have hown : s.vm.findClass "com/example/okno/okno/AdmissionLog" = some m.cls := findClass_of_methodNamed Bd.named
  have hnm := (name_of_methodNamed Bd.named Bd.method).1
  have X0 : Stand p l e ({ frames := 0, cells := 0, slots := 0, locals := 0 } : Room) s m #[(.ref a1), (.int pw)] below meth c s₁ [] 0 0 := Stand.of_body Bd
  have e0 : s₁.heap = h0 := by rw [← hh, Bd.state]; rfl
  have N0 := Fr.nil n0
  have KR : Keep h0 h0 [] := Keep.refl h0 _
  have pre0 : ∀ t, Steps p.tables e below (s₁.setTop (mkF m 0 #[.val (.ref a1), .val (.int pw), .unset, .unset] [])) t → Steps p.tables e below (s₁.setTop (entryFrame m #[(.ref a1), (.int pw)] 4)) t := fun t k => castTop (ef_rmTot m (a1) (pw)) k
  obtain ⟨T1, X1, e1, st1⟩ := getF X0 hx hZ hown (host := "") (Or.inl (kw52 hw)) Via.refl e0 P0 (g := (mkF m 1 #[.val (.ref a1), .val (.int pw), .unset, .unset] [(.ref a1)])) rfl rfl (hb hby d11_1)
  obtain ⟨cl2, Ar2, q2, S2, N2', H2, G2⟩ := id P1
  have hin2 : ¬ (((2 : Int32) * pw) < 0 ∨ cl2.slots.size ≤ (((2 : Int32) * pw)).toNatClampNeg) := inb_of S2 (own_ib hp)
  have hat2 : cl2.slots[(((2 : Int32) * pw)).toNatClampNeg]? = some (.long r) := H2.at hin2 hr
  obtain ⟨T3, X3, e3, st3⟩ := getF X1 hx hZ hown (host := "") (Or.inl (kw52 hw)) Via.refl e1 P0 (g := (mkF m 10 #[.val (.ref a1), .val (.int pw), .val (.long r), .second] [(.ref a1)])) rfl rfl (hb hby d11_10)
  obtain ⟨cl4, Ar4, q4, S4, N4', H4, G4⟩ := id P1
  have hin4 : ¬ ((((2 : Int32) * pw) + (1 : Int32)) < 0 ∨ cl4.slots.size ≤ ((((2 : Int32) * pw) + (1 : Int32))).toNatClampNeg) := inb_of S4 (own_ib1 hp)
  have hat4 : cl4.slots[((((2 : Int32) * pw) + (1 : Int32))).toNatClampNeg]? = some (.long cc) := H4.at hin4 hc
  have pre5 : ∀ t, Steps p.tables e below (T3.setTop (mkF m 21 #[.val (.ref a1), .val (.int pw), .val (.long r), .second] [(.int (lcmpW cc (0 : Int64)))])) t → Steps p.tables e below (s₁.setTop (entryFrame m #[(.ref a1), (.int pw)] 4)) t := fun t k => pre0 t (by
    refine XS.aloadN X0.here hx rfl (hb hby d11_0) rfl rfl ?_
    refine st1 _ ?_
    refine XS.iconst X1.here hx rfl (hb hby d11_4) ?_
    refine XS.iloadN X1.here hx rfl (hb hby d11_5) rfl ?_
    refine XS.imul X1.here hx rfl (hb hby d11_6) rfl ?_
    refine X1.laload hx (j := ((2 : Int32) * pw)) (v := (.long r)) (by rw [e1]; exact Ar2.1) (State.isArrayOf_alike hZ.alike Ar2.2.1) Ar2.2.2 hin2 hat2 (g := (mkF m 7 #[.val (.ref a1), .val (.int pw), .unset, .unset] [(.int ((2 : Int32) * pw)), (.ref sw)])) rfl rfl (hb hby d11_7) _ ?_
    refine XS.lstoreN X1.here hx rfl (hb hby d11_8) rfl (l' := #[.val (.ref a1), .val (.int pw), .val (.long r), .second]) rfl ?_
    refine XS.aloadN X1.here hx rfl (hb hby d11_9) rfl rfl ?_
    refine st3 _ ?_
    refine XS.iconst X3.here hx rfl (hb hby d11_13) ?_
    refine XS.iloadN X3.here hx rfl (hb hby d11_14) rfl ?_
    refine XS.imul X3.here hx rfl (hb hby d11_15) rfl ?_
    refine XS.iconst X3.here hx rfl (hb hby d11_16) ?_
    refine XS.iadd X3.here hx rfl (hb hby d11_17) rfl ?_
    refine X3.laload hx (j := (((2 : Int32) * pw) + (1 : Int32))) (v := (.long cc)) (by rw [e3]; exact Ar4.1) (State.isArrayOf_alike hZ.alike Ar4.2.1) Ar4.2.2 hin4 hat4 (g := (mkF m 18 #[.val (.ref a1), .val (.int pw), .val (.long r), .second] [(.int (((2 : Int32) * pw) + (1 : Int32))), (.ref sw)])) rfl rfl (hb hby d11_18) _ ?_
    refine XS.lconst X3.here hx rfl (hb hby d11_19) ?_
    refine XS.lcmp X3.here hx rfl (hb hby d11_20) rfl ?_
    exact k)
  by_cases hc6 : (0 : Int64) < cc
  · skip
    obtain ⟨T7, X7, e7, st7⟩ := getF X3 hx hZ hown (host := "") (Or.inl (kw68 hw)) Via.refl e3 P2 (g := (mkF m 26 #[.val (.ref a1), .val (.int pw), .val (.long r), .second] [(.ref a1), (.long r)])) rfl rfl (hb hby d11_26)
    obtain ⟨T8, X8, e8, st8⟩ := getF X7 hx hZ hown (host := "") (Or.inl (kw100 hw)) Via.refl e7 P3 (g := (mkF m 31 #[.val (.ref a1), .val (.int pw), .val (.long r), .second] [(.ref a1), (.long (r + tt))])) rfl rfl (hb hby d11_31)
    obtain ⟨fs, hr, hrun, hended, hW, hsame⟩ := X8.leave (v := some (.long ((r + tt) - ot))) (fun h => by rw [Bd.returns] at h; cases h)
    refine ⟨_, _, pre5 _ ?_, hrun, hended, _, _, rfl, ?_, ⟨_, rfl⟩, hW, hsame.mono (by decide) (by decide)⟩
    · skip
      refine XS.ifNo X3.here hx rfl (hb hby d11_21) rfl ((if0 _ _).trans (tlt ((lw_gt _ _).mpr hc6)).2.2.2) ?_
      refine XS.lloadN X3.here hx rfl (hb hby d11_24) rfl ?_
      refine XS.aloadN X3.here hx rfl (hb hby d11_25) rfl rfl ?_
      refine st7 _ ?_
      refine XS.ladd X7.here hx rfl (hb hby d11_29) rfl ?_
      refine XS.aloadN X7.here hx rfl (hb hby d11_30) rfl rfl ?_
      refine st8 _ ?_
      refine XS.lsub X8.here hx rfl (hb hby d11_34) rfl ?_
      refine XS.goto X8.here hx rfl (pc0 := 35) (pc' := 39) rfl (hb hby d11_35) (by decide) (by decide) ?_
      show Steps p.tables e below (T8.setTop (mkF m 39 #[.val (.ref a1), .val (.int pw), .val (.long r), .second] [(.long ((r + tt) - ot))])) _
      jvm_step X8.here [X8.here.top, hx, (hb hby d11_39), X8.method', Bd.returns, narrow]
      first | (intro acts; rw [hr _ acts rfl rfl rfl]) | rw [hr _ _ rfl rfl rfl]
      exact Steps.refl _
    · show Q_rmTot Z a1 pw sw k3 vs r cc tt ot h0 n0 _ T8.heap _
      rw [e8]
      exact ⟨(by unfold own_stot; rw [if_pos hc6]), N0, rfl⟩
  · skip
    obtain ⟨fs, hr, hrun, hended, hW, hsame⟩ := X3.leave (v := some (.long r)) (fun h => by rw [Bd.returns] at h; cases h)
    refine ⟨_, _, pre5 _ ?_, hrun, hended, _, _, rfl, ?_, ⟨_, rfl⟩, hW, hsame.mono (by decide) (by decide)⟩
    · skip
      refine XS.ifYes X3.here hx rfl (pc0 := 21) (pc' := 38) rfl (hb hby d11_21) rfl ((if0 _ _).trans (flt (fun q => hc6 ((lw_gt _ _).mp q))).2.2.2) (by decide) (by decide) ?_
      refine XS.lloadN X3.here hx rfl (hb hby d11_38) rfl ?_
      show Steps p.tables e below (T3.setTop (mkF m 39 #[.val (.ref a1), .val (.int pw), .val (.long r), .second] [(.long r)])) _
      jvm_step X3.here [X3.here.top, hx, (hb hby d11_39), X3.method', Bd.returns, narrow]
      first | (intro acts; rw [hr _ acts rfl rfl rfl]) | rw [hr _ _ rfl rfl rfl]
      exact Steps.refl _
    · show Q_rmTot Z a1 pw sw k3 vs r cc tt ot h0 n0 _ T3.heap _
      rw [e3]
      exact ⟨(by unfold own_stot; rw [if_neg hc6]), N0, rfl⟩
theorem ef_rmSub (m : MethodId) (x0 : Addr) (x1 : Int64) : entryFrame m #[(.ref x0), (.long x1)] 3 = mkF m 0 #[.val (.ref x0), .val (.long x1), .second] [] := by first | (simp [entryFrame, mkF, argsToLocals, Value.category]; done) | rfl
def Q_rmSub (Z : State) (a1 : Addr) (q1 : Int64) (lt : Int64) (g : Int64) (u_newest : Int64) (u_subWindows : Addr) (u_amounts : Addr) (u_oldestSubWindow : Int64) (u_shorterWindows : Addr) (u_total : Int64) (u_newestSubWindow : Int64) (u_newestSubWindowEnd : Int64) (u_olderTotal : Int64) (u_size : Int32) (u_head : Int32) (h0 : Heap) (n0 : Nat) (v : Option Value) (h : Heap) (L : List Loc) : Prop := v = some (.long (own_fd q1 g)) ∧ Fr n0 L ∧ Keep h0 h [a1] ∧ Fld Z h a1 "com/example/okno/okno/AdmissionLog" "newest" "J" (.long u_newest) ∧ Fld Z h a1 "com/example/okno/okno/AdmissionLog" "subWindows" "[J" (.ref u_subWindows) ∧ Fld Z h a1 "com/example/okno/okno/AdmissionLog" "amounts" "[J" (.ref u_amounts) ∧ Fld Z h a1 "com/example/okno/okno/AdmissionLog" "oldestSubWindow" "J" (.long u_oldestSubWindow) ∧ Fld Z h a1 "com/example/okno/okno/AdmissionLog" "lastTime" "J" (.long q1) ∧ Fld Z h a1 "com/example/okno/okno/AdmissionLog" "subWindowMillis" "J" (.long g) ∧ Fld Z h a1 "com/example/okno/okno/AdmissionLog" "lastSubWindow" "J" (.long (own_fd q1 g)) ∧ Fld Z h a1 "com/example/okno/okno/AdmissionLog" "shorterWindows" "[J" (.ref u_shorterWindows) ∧ Fld Z h a1 "com/example/okno/okno/AdmissionLog" "total" "J" (.long u_total) ∧ Fld Z h a1 "com/example/okno/okno/AdmissionLog" "newestSubWindow" "J" (.long u_newestSubWindow) ∧ Fld Z h a1 "com/example/okno/okno/AdmissionLog" "newestSubWindowEnd" "J" (.long u_newestSubWindowEnd) ∧ Fld Z h a1 "com/example/okno/okno/AdmissionLog" "olderTotal" "J" (.long u_olderTotal) ∧ Fld Z h a1 "com/example/okno/okno/AdmissionLog" "size" "I" (.int u_size) ∧ Fld Z h a1 "com/example/okno/okno/AdmissionLog" "head" "I" (.int u_head)
set_option maxRecDepth 65536 in
set_option maxHeartbeats 40000000 in
theorem rmSub (l : Launch) (Z : State) (a0 : Array Value) (hw : ∀ d ∈ tables_1, d.before a0 Z = true) (ws : List Jvm.Cond) (a1 : Addr) (q1 : Int64) (lt : Int64) (g : Int64) (u_newest : Int64) (u_subWindows : Addr) (u_amounts : Addr) (u_oldestSubWindow : Int64) (u_shorterWindows : Addr) (u_total : Int64) (u_newestSubWindow : Int64) (u_newestSubWindowEnd : Int64) (u_olderTotal : Int64) (u_size : Int32) (u_head : Int32) (h0 : Heap) (n0 : Nat) (Z0 : n0 ≤ h0.size) (P0 : Exa Z h0 a1 "com/example/okno/okno/AdmissionLog") (P1 : n0 ≤ a1) (hgz : g ≠ (0 : Int64)) (P3 : Fld Z h0 a1 "com/example/okno/okno/AdmissionLog" "newest" "J" (.long u_newest)) (P4 : Fld Z h0 a1 "com/example/okno/okno/AdmissionLog" "subWindows" "[J" (.ref u_subWindows)) (P5 : Fld Z h0 a1 "com/example/okno/okno/AdmissionLog" "amounts" "[J" (.ref u_amounts)) (P6 : Fld Z h0 a1 "com/example/okno/okno/AdmissionLog" "oldestSubWindow" "J" (.long u_oldestSubWindow)) (P7 : Fld Z h0 a1 "com/example/okno/okno/AdmissionLog" "lastTime" "J" (.long lt)) (P8 : Fld Z h0 a1 "com/example/okno/okno/AdmissionLog" "subWindowMillis" "J" (.long g)) (P9 : Fld Z h0 a1 "com/example/okno/okno/AdmissionLog" "lastSubWindow" "J" (.long (own_fd lt g))) (P10 : Fld Z h0 a1 "com/example/okno/okno/AdmissionLog" "shorterWindows" "[J" (.ref u_shorterWindows)) (P11 : Fld Z h0 a1 "com/example/okno/okno/AdmissionLog" "total" "J" (.long u_total)) (P12 : Fld Z h0 a1 "com/example/okno/okno/AdmissionLog" "newestSubWindow" "J" (.long u_newestSubWindow)) (P13 : Fld Z h0 a1 "com/example/okno/okno/AdmissionLog" "newestSubWindowEnd" "J" (.long u_newestSubWindowEnd)) (P14 : Fld Z h0 a1 "com/example/okno/okno/AdmissionLog" "olderTotal" "J" (.long u_olderTotal)) (P15 : Fld Z h0 a1 "com/example/okno/okno/AdmissionLog" "size" "I" (.int u_size)) (P16 : Fld Z h0 a1 "com/example/okno/okno/AdmissionLog" "head" "I" (.int u_head)) :
    MetFree l (⟨"com/example/okno/okno/AdmissionLog", "subWindowOf", "(J)J"⟩ : MethodName) (head1 (Jvm.Cond.code (⟨"com/example/okno/okno/AdmissionLog", "subWindowOf", "(J)J"⟩ : MethodName) prog_2_method_11_code 3 (some .long) :: ws) ({ frames := 1, cells := 0, slots := 0, locals := 18 } : Room)) (fun a U => a = #[(.ref a1), (.long q1)] ∧ Z.Warmed39 U.vm ∧ U.heap = h0) (fun _ _ _ _ _ => True) (fun _ U o U' => ∃ v L, o = .returned v ∧ Q_rmSub Z a1 q1 lt g u_newest u_subWindows u_amounts u_oldestSubWindow u_shorterWindows u_total u_newestSubWindow u_newestSubWindowEnd u_olderTotal u_size u_head h0 n0 v U'.heap L ∧ FrameEnd U o U' L ({ frames := 1, cells := 0, slots := 0, locals := 18 } : Room).cells ({ frames := 1, cells := 0, slots := 0, locals := 18 } : Room).slots) := by
  refine MetFree.of_bodySF (plainFor_of_name pn_2) hisR ?_
  intro p e s m args below meth c s₁ Bd hml0 hP hK
  obtain ⟨rfl, hZ, hh⟩ := hP
  have hx := Bd.exec
  have hby := Bd.bytes
  have hml : c.maxLocals = 3 := hml0
  have hown : s.vm.findClass "com/example/okno/okno/AdmissionLog" = some m.cls := findClass_of_methodNamed Bd.named
  have hnm := (name_of_methodNamed Bd.named Bd.method).1
  have X0 : Stand p l e ({ frames := 1, cells := 0, slots := 0, locals := 18 } : Room) s m #[(.ref a1), (.long q1)] below meth c s₁ [] 0 0 := Stand.of_body Bd
  have e0 : s₁.heap = h0 := by rw [← hh, Bd.state]; rfl
  have N0 := Fr.nil n0
  have KR : Keep h0 h0 [a1] := Keep.refl h0 _
  have pre0 : ∀ t, Steps p.tables e below (s₁.setTop (mkF m 0 #[.val (.ref a1), .val (.long q1), .second] [])) t → Steps p.tables e below (s₁.setTop (entryFrame m #[(.ref a1), (.long q1)] 3)) t := fun t k => castTop (ef_rmSub m (a1) (q1)) k
  obtain ⟨T1, X1, e1, st1⟩ := getF X0 hx hZ hown (host := "") (Or.inl (kw42 hw)) Via.refl e0 P7 (g := (mkF m 2 #[.val (.ref a1), .val (.long q1), .second] [(.ref a1), (.long q1)])) rfl rfl (hb hby d14_2)
  have pre2 : ∀ t, Steps p.tables e below (T1.setTop (mkF m 6 #[.val (.ref a1), .val (.long q1), .second] [(.int (lcmpW q1 lt))])) t → Steps p.tables e below (s₁.setTop (entryFrame m #[(.ref a1), (.long q1)] 3)) t := fun t k => pre0 t (by
    refine XS.lloadN X0.here hx rfl (hb hby d14_0) rfl ?_
    refine XS.aloadN X0.here hx rfl (hb hby d14_1) rfl rfl ?_
    refine st1 _ ?_
    refine XS.lcmp X1.here hx rfl (hb hby d14_5) rfl ?_
    exact k)
  by_cases hc3 : q1 = lt
  · skip
    obtain ⟨T4, X4, e4, st4⟩ := getF X1 hx hZ hown (host := "") (Or.inl (kw49 hw)) Via.refl e1 P9 (g := (mkF m 27 #[.val (.ref a1), .val (.long q1), .second] [(.ref a1)])) rfl rfl (hb hby d14_27)
    obtain ⟨fs, hr, hrun, hended, hW, hsame⟩ := X4.leave (v := some (.long (own_fd lt g))) (fun h => by rw [Bd.returns] at h; cases h)
    refine ⟨_, _, pre2 _ ?_, hrun, hended, _, _, rfl, ?_, ⟨_, rfl⟩, hW, hsame.mono (by decide) (by decide)⟩
    · skip
      refine XS.ifYes X1.here hx rfl (pc0 := 6) (pc' := 26) rfl (hb hby d14_6) rfl ((if0 _ _).trans (teq ((lw_eq _ _).mpr hc3)).1) (by decide) (by decide) ?_
      refine XS.aloadN X1.here hx rfl (hb hby d14_26) rfl rfl ?_
      refine st4 _ ?_
      show Steps p.tables e below (T4.setTop (mkF m 30 #[.val (.ref a1), .val (.long q1), .second] [(.long (own_fd lt g))])) _
      jvm_step X4.here [X4.here.top, hx, (hb hby d14_30), X4.method', Bd.returns, narrow]
      first | (intro acts; rw [hr _ acts rfl rfl rfl]) | rw [hr _ _ rfl rfl rfl]
      exact Steps.refl _
    · show Q_rmSub Z a1 q1 lt g u_newest u_subWindows u_amounts u_oldestSubWindow u_shorterWindows u_total u_newestSubWindow u_newestSubWindowEnd u_olderTotal u_size u_head h0 n0 _ T4.heap _
      rw [e4]
      exact ⟨(by rw [hc3]), N0, KR, P3, P4, P5, P6, (by first | exact P7 | (rw [← hc3]; exact P7) | (rw [hc3]; exact P7)), P8, (by first | exact P9 | (rw [← hc3]; exact P9) | (rw [hc3]; exact P9)), P10, P11, P12, P13, P14, P15, P16⟩
  · skip
    obtain ⟨T6, X6, e6, st6⟩ := getF X1 hx hZ hown (host := "") (Or.inl (kw44 hw)) Via.refl e1 P8 (g := (mkF m 12 #[.val (.ref a1), .val (.long q1), .second] [(.ref a1), (.long q1), (.ref a1)])) rfl rfl (hb hby d14_12)
    obtain ⟨_, _, ⟨T7, L7, k7, n7⟩, -, X7, ⟨Lc7, hQ7, l7, y7, z7⟩, st7⟩ := Jvm.LawKit.callS X6 hx (y := (⟨"java/lang/Math", "floorDiv", "(JJ)J"⟩ : MethodName)) hown (mvT hZ (kw46 hw)) (mvT hZ (kw47 hw)) (mvT hZ (kw6 hw)) (mvT hZ (kw48 hw)) (by decide) (backOf (W := 1) (rm7 l Z a0 hw [] q1 g h0 n0 Z0 hgz) hZ (kw48 hw) (kw6 hw) (by decide) (by decide)) (g := (mkF m 15 #[.val (.ref a1), .val (.long q1), .second] [(.long g), (.long q1), (.ref a1)])) rfl (by rw [hml]; rfl) (argsL := [(.long q1), (.long g)]) (rest := [(.ref a1)]) (lenOf pd_0 rfl) rfl (by show 2 * 0 + _ ≤ _; exact Nat.le_of_eq rfl) (hb hby d14_15) (fun _ _ => ⟨rfl, e6, (by decide : 0 + 0 ≤ _), (by decide : 0 + 0 ≤ _)⟩)
    dsimp only [Pt.U, Pt.locs, Pt.cells, Pt.slots] at X7 l7 y7 z7 st7 hQ7
    subst l7 y7 z7
    obtain ⟨rfl, N7q, e7⟩ := hQ7
    have N7 := Fr.app N0 N7q
    obtain ⟨T8, h8, X8, e8, W8, st8⟩ := putF X7 hx hZ hown (host := "") (Or.inl (kw49 hw)) Via.refl e7 P9 P0 (Or.inl (kw50 hw)) (kw17 hw) (ty := .long) (by decide) rfl rfl (g := (mkF m 18 #[.val (.ref a1), .val (.long q1), .second] [(.long (own_fd q1 g)), (.ref a1)])) rfl rfl (hb hby d14_18)
    have Z8 : n0 ≤ h8.size := Nat.le_trans Z0 (Keep.of_wr W8).1
    have K8 : Keep h0 h8 [a1] := KR.wr W8 (Or.inl (List.mem_of_getElem? (i := 0) rfl))
    have N8 := Fr.snoc X8 N7 P1
    have Fw8 : Fld Z h8 a1 "com/example/okno/okno/AdmissionLog" "lastSubWindow" "J" (.long (own_fd q1 g)) := P9.same W8
    have f9 : Exa Z h8 a1 "com/example/okno/okno/AdmissionLog" := (P0.wr W8)
    have f10 : Fld Z h8 a1 "com/example/okno/okno/AdmissionLog" "lastTime" "J" (.long lt) := (P7.other W8 (Or.inr (slot_ne (Or.inl (kw43 hw)) (Or.inl (kw50 hw)) (by decide) (t := .long) (t' := .long) (by decide) (by decide))))
    obtain ⟨T11, h11, X11, e11, W11, st11⟩ := putF X8 hx hZ hown (host := "") (Or.inl (kw42 hw)) Via.refl e8 f10 f9 (Or.inl (kw43 hw)) (kw17 hw) (ty := .long) (by decide) rfl rfl (g := (mkF m 23 #[.val (.ref a1), .val (.long q1), .second] [(.long q1), (.ref a1)])) rfl rfl (hb hby d14_23)
    have Z11 : n0 ≤ h11.size := Nat.le_trans Z8 (Keep.of_wr W11).1
    have K11 : Keep h0 h11 [a1] := K8.wr W11 (Or.inl (List.mem_of_getElem? (i := 0) rfl))
    have N11 := Fr.snoc X11 N8 P1
    have Fw11 : Fld Z h11 a1 "com/example/okno/okno/AdmissionLog" "lastTime" "J" (.long q1) := f10.same W11
    have f12 : Fld Z h11 a1 "com/example/okno/okno/AdmissionLog" "lastSubWindow" "J" (.long (own_fd q1 g)) := (Fw8.other W11 (Or.inr (slot_ne (Or.inl (kw50 hw)) (Or.inl (kw43 hw)) (by decide) (t := .long) (t' := .long) (by decide) (by decide))))
    obtain ⟨T13, X13, e13, st13⟩ := getF X11 hx hZ hown (host := "") (Or.inl (kw49 hw)) Via.refl e11 f12 (g := (mkF m 27 #[.val (.ref a1), .val (.long q1), .second] [(.ref a1)])) rfl rfl (hb hby d14_27)
    have f14 : Fld Z h11 a1 "com/example/okno/okno/AdmissionLog" "newest" "J" (.long u_newest) := ((P3.other W8 (Or.inr (slot_ne (Or.inl (kw32 hw)) (Or.inl (kw50 hw)) (by decide) (t := .long) (t' := .long) (by decide) (by decide)))).other W11 (Or.inr (slot_ne (Or.inl (kw32 hw)) (Or.inl (kw43 hw)) (by decide) (t := .long) (t' := .long) (by decide) (by decide))))
    have f15 : Fld Z h11 a1 "com/example/okno/okno/AdmissionLog" "subWindows" "[J" (.ref u_subWindows) := ((P4.other W8 (Or.inr (slot_ne (Or.inl (kw36 hw)) (Or.inl (kw50 hw)) (by decide) (t := (.array .long)) (t' := .long) (by decide) (by decide)))).other W11 (Or.inr (slot_ne (Or.inl (kw36 hw)) (Or.inl (kw43 hw)) (by decide) (t := (.array .long)) (t' := .long) (by decide) (by decide))))
    have f16 : Fld Z h11 a1 "com/example/okno/okno/AdmissionLog" "amounts" "[J" (.ref u_amounts) := ((P5.other W8 (Or.inr (slot_ne (Or.inl (kw38 hw)) (Or.inl (kw50 hw)) (by decide) (t := (.array .long)) (t' := .long) (by decide) (by decide)))).other W11 (Or.inr (slot_ne (Or.inl (kw38 hw)) (Or.inl (kw43 hw)) (by decide) (t := (.array .long)) (t' := .long) (by decide) (by decide))))
    have f17 : Fld Z h11 a1 "com/example/okno/okno/AdmissionLog" "oldestSubWindow" "J" (.long u_oldestSubWindow) := ((P6.other W8 (Or.inr (slot_ne (Or.inl (kw41 hw)) (Or.inl (kw50 hw)) (by decide) (t := .long) (t' := .long) (by decide) (by decide)))).other W11 (Or.inr (slot_ne (Or.inl (kw41 hw)) (Or.inl (kw43 hw)) (by decide) (t := .long) (t' := .long) (by decide) (by decide))))
    have f18 : Fld Z h11 a1 "com/example/okno/okno/AdmissionLog" "subWindowMillis" "J" (.long g) := ((P8.other W8 (Or.inr (slot_ne (Or.inr (kw45 hw)) (Or.inl (kw50 hw)) (by decide) (t := .long) (t' := .long) (by decide) (by decide)))).other W11 (Or.inr (slot_ne (Or.inr (kw45 hw)) (Or.inl (kw43 hw)) (by decide) (t := .long) (t' := .long) (by decide) (by decide))))
    have f19 : Fld Z h11 a1 "com/example/okno/okno/AdmissionLog" "shorterWindows" "[J" (.ref u_shorterWindows) := ((P10.other W8 (Or.inr (slot_ne (Or.inr (kw53 hw)) (Or.inl (kw50 hw)) (by decide) (t := (.array .long)) (t' := .long) (by decide) (by decide)))).other W11 (Or.inr (slot_ne (Or.inr (kw53 hw)) (Or.inl (kw43 hw)) (by decide) (t := (.array .long)) (t' := .long) (by decide) (by decide))))
    have f20 : Fld Z h11 a1 "com/example/okno/okno/AdmissionLog" "total" "J" (.long u_total) := ((P11.other W8 (Or.inr (slot_ne (Or.inl (kw69 hw)) (Or.inl (kw50 hw)) (by decide) (t := .long) (t' := .long) (by decide) (by decide)))).other W11 (Or.inr (slot_ne (Or.inl (kw69 hw)) (Or.inl (kw43 hw)) (by decide) (t := .long) (t' := .long) (by decide) (by decide))))
    have f21 : Fld Z h11 a1 "com/example/okno/okno/AdmissionLog" "newestSubWindow" "J" (.long u_newestSubWindow) := ((P12.other W8 (Or.inr (slot_ne (Or.inl (kw93 hw)) (Or.inl (kw50 hw)) (by decide) (t := .long) (t' := .long) (by decide) (by decide)))).other W11 (Or.inr (slot_ne (Or.inl (kw93 hw)) (Or.inl (kw43 hw)) (by decide) (t := .long) (t' := .long) (by decide) (by decide))))
    have f22 : Fld Z h11 a1 "com/example/okno/okno/AdmissionLog" "newestSubWindowEnd" "J" (.long u_newestSubWindowEnd) := ((P13.other W8 (Or.inr (slot_ne (Or.inl (kw95 hw)) (Or.inl (kw50 hw)) (by decide) (t := .long) (t' := .long) (by decide) (by decide)))).other W11 (Or.inr (slot_ne (Or.inl (kw95 hw)) (Or.inl (kw43 hw)) (by decide) (t := .long) (t' := .long) (by decide) (by decide))))
    have f23 : Fld Z h11 a1 "com/example/okno/okno/AdmissionLog" "olderTotal" "J" (.long u_olderTotal) := ((P14.other W8 (Or.inr (slot_ne (Or.inl (kw101 hw)) (Or.inl (kw50 hw)) (by decide) (t := .long) (t' := .long) (by decide) (by decide)))).other W11 (Or.inr (slot_ne (Or.inl (kw101 hw)) (Or.inl (kw43 hw)) (by decide) (t := .long) (t' := .long) (by decide) (by decide))))
    have f24 : Fld Z h11 a1 "com/example/okno/okno/AdmissionLog" "size" "I" (.int u_size) := ((P15.other W8 (Or.inr (slot_ne (Or.inl (kw107 hw)) (Or.inl (kw50 hw)) (by decide) (t := .int) (t' := .long) (by decide) (by decide)))).other W11 (Or.inr (slot_ne (Or.inl (kw107 hw)) (Or.inl (kw43 hw)) (by decide) (t := .int) (t' := .long) (by decide) (by decide))))
    have f25 : Fld Z h11 a1 "com/example/okno/okno/AdmissionLog" "head" "I" (.int u_head) := ((P16.other W8 (Or.inr (slot_ne (Or.inl (kw116 hw)) (Or.inl (kw50 hw)) (by decide) (t := .int) (t' := .long) (by decide) (by decide)))).other W11 (Or.inr (slot_ne (Or.inl (kw116 hw)) (Or.inl (kw43 hw)) (by decide) (t := .int) (t' := .long) (by decide) (by decide))))
    obtain ⟨fs, hr, hrun, hended, hW, hsame⟩ := X13.leave (v := some (.long (own_fd q1 g))) (fun h => by rw [Bd.returns] at h; cases h)
    refine ⟨_, _, pre2 _ ?_, hrun, hended, _, _, rfl, ?_, ⟨_, rfl⟩, hW, hsame.mono (by decide) (by decide)⟩
    · skip
      refine XS.ifNo X1.here hx rfl (hb hby d14_6) rfl ((if0 _ _).trans (feq (fun q => hc3 ((lw_eq _ _).mp q))).1) ?_
      refine XS.aloadN X1.here hx rfl (hb hby d14_9) rfl rfl ?_
      refine XS.lloadN X1.here hx rfl (hb hby d14_10) rfl ?_
      refine XS.aloadN X1.here hx rfl (hb hby d14_11) rfl rfl ?_
      refine st6 _ ?_
      refine st7 _ ?_
      refine st8 _ ?_
      refine XS.aloadN X8.here hx rfl (hb hby d14_21) rfl rfl ?_
      refine XS.lloadN X8.here hx rfl (hb hby d14_22) rfl ?_
      refine st11 _ ?_
      refine XS.aloadN X11.here hx rfl (hb hby d14_26) rfl rfl ?_
      refine st13 _ ?_
      show Steps p.tables e below (T13.setTop (mkF m 30 #[.val (.ref a1), .val (.long q1), .second] [(.long (own_fd q1 g))])) _
      jvm_step X13.here [X13.here.top, hx, (hb hby d14_30), X13.method', Bd.returns, narrow]
      first | (intro acts; rw [hr _ acts rfl rfl rfl]) | rw [hr _ _ rfl rfl rfl]
      exact Steps.refl _
    · show Q_rmSub Z a1 q1 lt g u_newest u_subWindows u_amounts u_oldestSubWindow u_shorterWindows u_total u_newestSubWindow u_newestSubWindowEnd u_olderTotal u_size u_head h0 n0 _ T13.heap _
      rw [e13]
      exact ⟨rfl, N11, K11, f14, f15, f16, f17, Fw11, f18, f12, f19, f20, f21, f22, f23, f24, f25⟩
theorem ef_rmStart (m : MethodId) (x0 : Addr) (x1 : Int64) (x2 : Int64) : entryFrame m #[(.ref x0), (.long x1), (.long x2)] 7 = mkF m 0 #[.val (.ref x0), .val (.long x1), .second, .val (.long x2), .second, .unset, .unset] [] := by first | (simp [entryFrame, mkF, argsToLocals, Value.category]; done) | rfl
def Q_rmStart (Z : State) (a1 : Addr) (q1 : Int64) (q2 : Int64) (g : Int64) (u_newest : Int64) (u_subWindows : Addr) (u_amounts : Addr) (u_oldestSubWindow : Int64) (u_lastTime : Int64) (u_lastSubWindow : Int64) (u_shorterWindows : Addr) (u_total : Int64) (u_newestSubWindow : Int64) (u_newestSubWindowEnd : Int64) (u_olderTotal : Int64) (u_size : Int32) (u_head : Int32) (h0 : Heap) (n0 : Nat) (v : Option Value) (h : Heap) (L : List Loc) : Prop := v = none ∧ Fr n0 L ∧ Keep h0 h [a1] ∧ Fld Z h a1 "com/example/okno/okno/AdmissionLog" "newest" "J" (.long u_newest) ∧ Fld Z h a1 "com/example/okno/okno/AdmissionLog" "subWindows" "[J" (.ref u_subWindows) ∧ Fld Z h a1 "com/example/okno/okno/AdmissionLog" "amounts" "[J" (.ref u_amounts) ∧ Fld Z h a1 "com/example/okno/okno/AdmissionLog" "oldestSubWindow" "J" (.long u_oldestSubWindow) ∧ Fld Z h a1 "com/example/okno/okno/AdmissionLog" "lastTime" "J" (.long u_lastTime) ∧ Fld Z h a1 "com/example/okno/okno/AdmissionLog" "subWindowMillis" "J" (.long g) ∧ Fld Z h a1 "com/example/okno/okno/AdmissionLog" "lastSubWindow" "J" (.long u_lastSubWindow) ∧ Fld Z h a1 "com/example/okno/okno/AdmissionLog" "shorterWindows" "[J" (.ref u_shorterWindows) ∧ Fld Z h a1 "com/example/okno/okno/AdmissionLog" "total" "J" (.long u_total) ∧ Fld Z h a1 "com/example/okno/okno/AdmissionLog" "newestSubWindow" "J" (.long q1) ∧ Fld Z h a1 "com/example/okno/okno/AdmissionLog" "newestSubWindowEnd" "J" (.long (own_end q1 q2 g)) ∧ Fld Z h a1 "com/example/okno/okno/AdmissionLog" "olderTotal" "J" (.long u_olderTotal) ∧ Fld Z h a1 "com/example/okno/okno/AdmissionLog" "size" "I" (.int u_size) ∧ Fld Z h a1 "com/example/okno/okno/AdmissionLog" "head" "I" (.int u_head)
set_option maxRecDepth 65536 in
set_option maxHeartbeats 40000000 in
theorem rmStart (l : Launch) (Z : State) (a0 : Array Value) (hw : ∀ d ∈ tables_1, d.before a0 Z = true) (ws : List Jvm.Cond) (a1 : Addr) (q1 : Int64) (q2 : Int64) (g : Int64) (u_newest : Int64) (u_subWindows : Addr) (u_amounts : Addr) (u_oldestSubWindow : Int64) (u_lastTime : Int64) (u_lastSubWindow : Int64) (u_shorterWindows : Addr) (u_total : Int64) (u_newestSubWindow : Int64) (u_newestSubWindowEnd : Int64) (u_olderTotal : Int64) (u_size : Int32) (u_head : Int32) (h0 : Heap) (n0 : Nat) (Z0 : n0 ≤ h0.size) (P0 : Exa Z h0 a1 "com/example/okno/okno/AdmissionLog") (P1 : n0 ≤ a1) (P2 : Fld Z h0 a1 "com/example/okno/okno/AdmissionLog" "newest" "J" (.long u_newest)) (P3 : Fld Z h0 a1 "com/example/okno/okno/AdmissionLog" "subWindows" "[J" (.ref u_subWindows)) (P4 : Fld Z h0 a1 "com/example/okno/okno/AdmissionLog" "amounts" "[J" (.ref u_amounts)) (P5 : Fld Z h0 a1 "com/example/okno/okno/AdmissionLog" "oldestSubWindow" "J" (.long u_oldestSubWindow)) (P6 : Fld Z h0 a1 "com/example/okno/okno/AdmissionLog" "lastTime" "J" (.long u_lastTime)) (P7 : Fld Z h0 a1 "com/example/okno/okno/AdmissionLog" "subWindowMillis" "J" (.long g)) (P8 : Fld Z h0 a1 "com/example/okno/okno/AdmissionLog" "lastSubWindow" "J" (.long u_lastSubWindow)) (P9 : Fld Z h0 a1 "com/example/okno/okno/AdmissionLog" "shorterWindows" "[J" (.ref u_shorterWindows)) (P10 : Fld Z h0 a1 "com/example/okno/okno/AdmissionLog" "total" "J" (.long u_total)) (P11 : Fld Z h0 a1 "com/example/okno/okno/AdmissionLog" "newestSubWindow" "J" (.long u_newestSubWindow)) (P12 : Fld Z h0 a1 "com/example/okno/okno/AdmissionLog" "newestSubWindowEnd" "J" (.long u_newestSubWindowEnd)) (P13 : Fld Z h0 a1 "com/example/okno/okno/AdmissionLog" "olderTotal" "J" (.long u_olderTotal)) (P14 : Fld Z h0 a1 "com/example/okno/okno/AdmissionLog" "size" "I" (.int u_size)) (P15 : Fld Z h0 a1 "com/example/okno/okno/AdmissionLog" "head" "I" (.int u_head)) :
    MetFree l (⟨"com/example/okno/okno/AdmissionLog", "startNewestEntry", "(JJ)V"⟩ : MethodName) (head1 (Jvm.Cond.code (⟨"com/example/okno/okno/AdmissionLog", "startNewestEntry", "(JJ)V"⟩ : MethodName) prog_2_method_23_code 7 none :: ws) ({ frames := 0, cells := 0, slots := 0, locals := 0 } : Room)) (fun a U => a = #[(.ref a1), (.long q1), (.long q2)] ∧ Z.Warmed39 U.vm ∧ U.heap = h0) (fun _ _ _ _ _ => True) (fun _ U o U' => ∃ v L, o = .returned v ∧ Q_rmStart Z a1 q1 q2 g u_newest u_subWindows u_amounts u_oldestSubWindow u_lastTime u_lastSubWindow u_shorterWindows u_total u_newestSubWindow u_newestSubWindowEnd u_olderTotal u_size u_head h0 n0 v U'.heap L ∧ FrameEnd U o U' L ({ frames := 0, cells := 0, slots := 0, locals := 0 } : Room).cells ({ frames := 0, cells := 0, slots := 0, locals := 0 } : Room).slots) := by
  refine MetFree.of_bodySF (plainFor_of_name pn_2) hisR ?_
  intro p e s m args below meth c s₁ Bd hml0 hP hK
  obtain ⟨rfl, hZ, hh⟩ := hP
  have hx := Bd.exec
  have hby := Bd.bytes
  have hml : c.maxLocals = 7 := hml0
  have hown : s.vm.findClass "com/example/okno/okno/AdmissionLog" = some m.cls := findClass_of_methodNamed Bd.named
  have hnm := (name_of_methodNamed Bd.named Bd.method).1
  have X0 : Stand p l e ({ frames := 0, cells := 0, slots := 0, locals := 0 } : Room) s m #[(.ref a1), (.long q1), (.long q2)] below meth c s₁ [] 0 0 := Stand.of_body Bd
  have e0 : s₁.heap = h0 := by rw [← hh, Bd.state]; rfl
  have N0 := Fr.nil n0
  have KR : Keep h0 h0 [a1] := Keep.refl h0 _
  have pre0 : ∀ t, Steps p.tables e below (s₁.setTop (mkF m 0 #[.val (.ref a1), .val (.long q1), .second, .val (.long q2), .second, .unset, .unset] [])) t → Steps p.tables e below (s₁.setTop (entryFrame m #[(.ref a1), (.long q1), (.long q2)] 7)) t := fun t k => castTop (ef_rmStart m (a1) (q1) (q2)) k
  obtain ⟨T1, X1, e1, st1⟩ := getF X0 hx hZ hown (host := "") (Or.inl (kw44 hw)) Via.refl e0 P7 (g := (mkF m 4 #[.val (.ref a1), .val (.long q1), .second, .val (.long q2), .second, .unset, .unset] [(.ref a1), (.long (q1 + (1 : Int64)))])) rfl rfl (hb hby d15_4)
  obtain ⟨T2, h2, X2, e2, W2, st2⟩ := putF X1 hx hZ hown (host := "") (Or.inl (kw92 hw)) Via.refl e1 P11 P0 (Or.inl (kw93 hw)) (kw17 hw) (ty := .long) (by decide) rfl rfl (g := (mkF m 12 #[.val (.ref a1), .val (.long q1), .second, .val (.long q2), .second, .val (.long ((q1 + (1 : Int64)) * g)), .second] [(.long q1), (.ref a1)])) rfl rfl (hb hby d15_12)
  have Z2 : n0 ≤ h2.size := Nat.le_trans Z0 (Keep.of_wr W2).1
  have K2 : Keep h0 h2 [a1] := KR.wr W2 (Or.inl (List.mem_of_getElem? (i := 0) rfl))
  have N2 := Fr.snoc X2 N0 P1
  have Fw2 : Fld Z h2 a1 "com/example/okno/okno/AdmissionLog" "newestSubWindow" "J" (.long q1) := P11.same W2
  have pre3 : ∀ t, Steps p.tables e below (T2.setTop (mkF m 20 #[.val (.ref a1), .val (.long q1), .second, .val (.long q2), .second, .val (.long ((q1 + (1 : Int64)) * g)), .second] [(.int (lcmpW ((q1 + (1 : Int64)) * g) q2)), (.ref a1)])) t → Steps p.tables e below (s₁.setTop (entryFrame m #[(.ref a1), (.long q1), (.long q2)] 7)) t := fun t k => pre0 t (by
    refine XS.lloadN X0.here hx rfl (hb hby d15_0) rfl ?_
    refine XS.lconst X0.here hx rfl (hb hby d15_1) ?_
    refine XS.ladd X0.here hx rfl (hb hby d15_2) rfl ?_
    refine XS.aloadN X0.here hx rfl (hb hby d15_3) rfl rfl ?_
    refine st1 _ ?_
    refine XS.lmul X1.here hx rfl (hb hby d15_7) rfl ?_
    refine XS.lstore X1.here hx rfl (hb hby d15_8) rfl (l' := #[.val (.ref a1), .val (.long q1), .second, .val (.long q2), .second, .val (.long ((q1 + (1 : Int64)) * g)), .second]) rfl ?_
    refine XS.aloadN X1.here hx rfl (hb hby d15_10) rfl rfl ?_
    refine XS.lloadN X1.here hx rfl (hb hby d15_11) rfl ?_
    refine st2 _ ?_
    refine XS.aloadN X2.here hx rfl (hb hby d15_15) rfl rfl ?_
    refine XS.lload X2.here hx rfl (hb hby d15_16) rfl ?_
    refine XS.lloadN X2.here hx rfl (hb hby d15_18) rfl ?_
    refine XS.lcmp X2.here hx rfl (hb hby d15_19) rfl ?_
    exact k)
  have pre5 : ∀ t, Steps p.tables e below (T2.setTop (mkF m 31 #[.val (.ref a1), .val (.long q1), .second, .val (.long q2), .second, .val (.long ((q1 + (1 : Int64)) * g)), .second] [(.long (if q2 < ((q1 + (1 : Int64)) * g) then ((q1 + (1 : Int64)) * g) else (9223372036854775807 : Int64))), (.ref a1)])) t → Steps p.tables e below (s₁.setTop (entryFrame m #[(.ref a1), (.long q1), (.long q2)] 7)) t := fun t k => pre3 t (by
    by_cases hc4 : q2 < ((q1 + (1 : Int64)) * g)
    · skip
      refine XS.ifNo X2.here hx rfl (hb hby d15_20) rfl ((if0 _ _).trans (tlt ((lw_gt _ _).mpr hc4)).2.2.2) ?_
      refine XS.lload X2.here hx rfl (hb hby d15_23) rfl ?_
      refine XS.goto X2.here hx rfl (pc0 := 25) (pc' := 31) rfl (hb hby d15_25) (by decide) (by decide) ?_
      simp only [if_pos hc4] at k; exact k
    · skip
      refine XS.ifYes X2.here hx rfl (pc0 := 20) (pc' := 28) rfl (hb hby d15_20) rfl ((if0 _ _).trans (flt (fun q => hc4 ((lw_gt _ _).mp q))).2.2.2) (by decide) (by decide) ?_
      refine X2.ldc2Long hx hown (mvT hZ (kw39 hw)) (g := (mkF m 28 #[.val (.ref a1), .val (.long q1), .second, .val (.long q2), .second, .val (.long ((q1 + (1 : Int64)) * g)), .second] [(.ref a1)])) rfl (hb hby d15_28) _ ?_
      simp only [if_neg hc4] at k; exact k)
  have f6 : Exa Z h2 a1 "com/example/okno/okno/AdmissionLog" := (P0.wr W2)
  have f7 : Fld Z h2 a1 "com/example/okno/okno/AdmissionLog" "newestSubWindowEnd" "J" (.long u_newestSubWindowEnd) := (P12.other W2 (Or.inr (slot_ne (Or.inl (kw95 hw)) (Or.inl (kw93 hw)) (by decide) (t := .long) (t' := .long) (by decide) (by decide))))
  obtain ⟨T8, h8, X8, e8, W8, st8⟩ := putF X2 hx hZ hown (host := "") (Or.inl (kw94 hw)) Via.refl e2 f7 f6 (Or.inl (kw95 hw)) (kw17 hw) (ty := .long) (by decide) rfl rfl (g := (mkF m 31 #[.val (.ref a1), .val (.long q1), .second, .val (.long q2), .second, .val (.long ((q1 + (1 : Int64)) * g)), .second] [(.long (if q2 < ((q1 + (1 : Int64)) * g) then ((q1 + (1 : Int64)) * g) else (9223372036854775807 : Int64))), (.ref a1)])) rfl rfl (hb hby d15_31)
  have Z8 : n0 ≤ h8.size := Nat.le_trans Z2 (Keep.of_wr W8).1
  have K8 : Keep h0 h8 [a1] := K2.wr W8 (Or.inl (List.mem_of_getElem? (i := 0) rfl))
  have N8 := Fr.snoc X8 N2 P1
  have Fw8 : Fld Z h8 a1 "com/example/okno/okno/AdmissionLog" "newestSubWindowEnd" "J" (.long (if q2 < ((q1 + (1 : Int64)) * g) then ((q1 + (1 : Int64)) * g) else (9223372036854775807 : Int64))) := f7.same W8
  have f9 : Fld Z h8 a1 "com/example/okno/okno/AdmissionLog" "newest" "J" (.long u_newest) := ((P2.other W2 (Or.inr (slot_ne (Or.inl (kw32 hw)) (Or.inl (kw93 hw)) (by decide) (t := .long) (t' := .long) (by decide) (by decide)))).other W8 (Or.inr (slot_ne (Or.inl (kw32 hw)) (Or.inl (kw95 hw)) (by decide) (t := .long) (t' := .long) (by decide) (by decide))))
  have f10 : Fld Z h8 a1 "com/example/okno/okno/AdmissionLog" "subWindows" "[J" (.ref u_subWindows) := ((P3.other W2 (Or.inr (slot_ne (Or.inl (kw36 hw)) (Or.inl (kw93 hw)) (by decide) (t := (.array .long)) (t' := .long) (by decide) (by decide)))).other W8 (Or.inr (slot_ne (Or.inl (kw36 hw)) (Or.inl (kw95 hw)) (by decide) (t := (.array .long)) (t' := .long) (by decide) (by decide))))
  have f11 : Fld Z h8 a1 "com/example/okno/okno/AdmissionLog" "amounts" "[J" (.ref u_amounts) := ((P4.other W2 (Or.inr (slot_ne (Or.inl (kw38 hw)) (Or.inl (kw93 hw)) (by decide) (t := (.array .long)) (t' := .long) (by decide) (by decide)))).other W8 (Or.inr (slot_ne (Or.inl (kw38 hw)) (Or.inl (kw95 hw)) (by decide) (t := (.array .long)) (t' := .long) (by decide) (by decide))))
  have f12 : Fld Z h8 a1 "com/example/okno/okno/AdmissionLog" "oldestSubWindow" "J" (.long u_oldestSubWindow) := ((P5.other W2 (Or.inr (slot_ne (Or.inl (kw41 hw)) (Or.inl (kw93 hw)) (by decide) (t := .long) (t' := .long) (by decide) (by decide)))).other W8 (Or.inr (slot_ne (Or.inl (kw41 hw)) (Or.inl (kw95 hw)) (by decide) (t := .long) (t' := .long) (by decide) (by decide))))
  have f13 : Fld Z h8 a1 "com/example/okno/okno/AdmissionLog" "lastTime" "J" (.long u_lastTime) := ((P6.other W2 (Or.inr (slot_ne (Or.inl (kw43 hw)) (Or.inl (kw93 hw)) (by decide) (t := .long) (t' := .long) (by decide) (by decide)))).other W8 (Or.inr (slot_ne (Or.inl (kw43 hw)) (Or.inl (kw95 hw)) (by decide) (t := .long) (t' := .long) (by decide) (by decide))))
  have f14 : Fld Z h8 a1 "com/example/okno/okno/AdmissionLog" "subWindowMillis" "J" (.long g) := ((P7.other W2 (Or.inr (slot_ne (Or.inr (kw45 hw)) (Or.inl (kw93 hw)) (by decide) (t := .long) (t' := .long) (by decide) (by decide)))).other W8 (Or.inr (slot_ne (Or.inr (kw45 hw)) (Or.inl (kw95 hw)) (by decide) (t := .long) (t' := .long) (by decide) (by decide))))
  have f15 : Fld Z h8 a1 "com/example/okno/okno/AdmissionLog" "lastSubWindow" "J" (.long u_lastSubWindow) := ((P8.other W2 (Or.inr (slot_ne (Or.inl (kw50 hw)) (Or.inl (kw93 hw)) (by decide) (t := .long) (t' := .long) (by decide) (by decide)))).other W8 (Or.inr (slot_ne (Or.inl (kw50 hw)) (Or.inl (kw95 hw)) (by decide) (t := .long) (t' := .long) (by decide) (by decide))))
  have f16 : Fld Z h8 a1 "com/example/okno/okno/AdmissionLog" "shorterWindows" "[J" (.ref u_shorterWindows) := ((P9.other W2 (Or.inr (slot_ne (Or.inr (kw53 hw)) (Or.inl (kw93 hw)) (by decide) (t := (.array .long)) (t' := .long) (by decide) (by decide)))).other W8 (Or.inr (slot_ne (Or.inr (kw53 hw)) (Or.inl (kw95 hw)) (by decide) (t := (.array .long)) (t' := .long) (by decide) (by decide))))
  have f17 : Fld Z h8 a1 "com/example/okno/okno/AdmissionLog" "total" "J" (.long u_total) := ((P10.other W2 (Or.inr (slot_ne (Or.inl (kw69 hw)) (Or.inl (kw93 hw)) (by decide) (t := .long) (t' := .long) (by decide) (by decide)))).other W8 (Or.inr (slot_ne (Or.inl (kw69 hw)) (Or.inl (kw95 hw)) (by decide) (t := .long) (t' := .long) (by decide) (by decide))))
  have f18 : Fld Z h8 a1 "com/example/okno/okno/AdmissionLog" "newestSubWindow" "J" (.long q1) := (Fw2.other W8 (Or.inr (slot_ne (Or.inl (kw93 hw)) (Or.inl (kw95 hw)) (by decide) (t := .long) (t' := .long) (by decide) (by decide))))
  have f19 : Fld Z h8 a1 "com/example/okno/okno/AdmissionLog" "olderTotal" "J" (.long u_olderTotal) := ((P13.other W2 (Or.inr (slot_ne (Or.inl (kw101 hw)) (Or.inl (kw93 hw)) (by decide) (t := .long) (t' := .long) (by decide) (by decide)))).other W8 (Or.inr (slot_ne (Or.inl (kw101 hw)) (Or.inl (kw95 hw)) (by decide) (t := .long) (t' := .long) (by decide) (by decide))))
  have f20 : Fld Z h8 a1 "com/example/okno/okno/AdmissionLog" "size" "I" (.int u_size) := ((P14.other W2 (Or.inr (slot_ne (Or.inl (kw107 hw)) (Or.inl (kw93 hw)) (by decide) (t := .int) (t' := .long) (by decide) (by decide)))).other W8 (Or.inr (slot_ne (Or.inl (kw107 hw)) (Or.inl (kw95 hw)) (by decide) (t := .int) (t' := .long) (by decide) (by decide))))
  have f21 : Fld Z h8 a1 "com/example/okno/okno/AdmissionLog" "head" "I" (.int u_head) := ((P15.other W2 (Or.inr (slot_ne (Or.inl (kw116 hw)) (Or.inl (kw93 hw)) (by decide) (t := .int) (t' := .long) (by decide) (by decide)))).other W8 (Or.inr (slot_ne (Or.inl (kw116 hw)) (Or.inl (kw95 hw)) (by decide) (t := .int) (t' := .long) (by decide) (by decide))))
  obtain ⟨fs, hr, hrun, hended, hW, hsame⟩ := X8.leave (v := none) (fun _ => rfl)
  refine ⟨_, _, pre5 _ ?_, hrun, hended, _, _, rfl, ?_, ⟨_, rfl⟩, hW, hsame.mono (by decide) (by decide)⟩
  · skip
    refine st8 _ ?_
    show Steps p.tables e below (T8.setTop (mkF m 34 #[.val (.ref a1), .val (.long q1), .second, .val (.long q2), .second, .val (.long ((q1 + (1 : Int64)) * g)), .second] [])) _
    exact X8.returnOut hx Bd.returns (hb hby d15_34) hr
  · show Q_rmStart Z a1 q1 q2 g u_newest u_subWindows u_amounts u_oldestSubWindow u_lastTime u_lastSubWindow u_shorterWindows u_total u_newestSubWindow u_newestSubWindowEnd u_olderTotal u_size u_head h0 n0 _ T8.heap _
    rw [e8]
    exact ⟨rfl, N8, K8, f9, f10, f11, f12, f13, f14, f15, f16, f17, f18, Fw8, f19, f20, f21⟩
theorem ef_rmCount_4 (m : MethodId) (x0 : Addr) (x1 : Int64) : entryFrame m #[(.ref x0), (.long x1)] 4 = mkF m 0 #[.val (.ref x0), .val (.long x1), .second, .unset] [] := by first | (simp [entryFrame, mkF, argsToLocals, Value.category]; done) | rfl
def Q_rmCount_4 (Z : State) (a1 : Addr) (sw : Addr) (k3 : ClassId) (r0 : Int64) (r1 : Int64) (h0 : Heap) (n0 : Nat) (v : Option Value) (h : Heap) (L : List Loc) : Prop := v = none ∧ Fr n0 L ∧ Keep h0 h [sw] ∧ Arv Z h sw k3 .long (4 : Int32) [(.long r0), (.long (1 : Int64)), (.long r1), (.long (1 : Int64))] (.long (0 : Int64))
set_option maxRecDepth 65536 in
set_option maxHeartbeats 40000000 in
theorem rmCount_4 (l : Launch) (Z : State) (a0 : Array Value) (hw : ∀ d ∈ tables_1, d.before a0 Z = true) (ws : List Jvm.Cond) (a1 : Addr) (sw : Addr) (k3 : ClassId) (r0 : Int64) (r1 : Int64) (h0 : Heap) (n0 : Nat) (Z0 : n0 ≤ h0.size) (P0 : Exa Z h0 a1 "com/example/okno/okno/AdmissionLog") (P1 : n0 ≤ sw) (P2 : sw ≠ a1) (P3 : Fld Z h0 a1 "com/example/okno/okno/AdmissionLog" "shorterWindows" "[J" (.ref sw)) (P4 : Arv Z h0 sw k3 .long (4 : Int32) [(.long r0), (.long (0 : Int64)), (.long r1), (.long (0 : Int64))] (.long (0 : Int64))) :
    MetFree l (⟨"com/example/okno/okno/AdmissionLog", "countNewEntryInShorterWindows", "(J)V"⟩ : MethodName) (head1 (Jvm.Cond.code (⟨"com/example/okno/okno/AdmissionLog", "countNewEntryInShorterWindows", "(J)V"⟩ : MethodName) prog_2_method_19_code 4 none :: ws) ({ frames := 0, cells := 0, slots := 0, locals := 0 } : Room)) (fun a U => a = #[(.ref a1), (.long (0 : Int64))] ∧ Z.Warmed39 U.vm ∧ U.heap = h0) (fun _ _ _ _ _ => True) (fun _ U o U' => ∃ v L, o = .returned v ∧ Q_rmCount_4 Z a1 sw k3 r0 r1 h0 n0 v U'.heap L ∧ FrameEnd U o U' L ({ frames := 0, cells := 0, slots := 0, locals := 0 } : Room).cells ({ frames := 0, cells := 0, slots := 0, locals := 0 } : Room).slots) := by
  refine MetFree.of_bodySF (plainFor_of_name pn_2) hisR ?_
  intro p e s m args below meth c s₁ Bd hml0 hP hK
  obtain ⟨rfl, hZ, hh⟩ := hP
  have hx := Bd.exec
  have hby := Bd.bytes
  have hml : c.maxLocals = 4 := hml0
  have hown : s.vm.findClass "com/example/okno/okno/AdmissionLog" = some m.cls := findClass_of_methodNamed Bd.named
  have hnm := (name_of_methodNamed Bd.named Bd.method).1
  have X0 : Stand p l e ({ frames := 0, cells := 0, slots := 0, locals := 0 } : Room) s m #[(.ref a1), (.long (0 : Int64))] below meth c s₁ [] 0 0 := Stand.of_body Bd
  have e0 : s₁.heap = h0 := by rw [← hh, Bd.state]; rfl
  have N0 := Fr.nil n0
  have KR : Keep h0 h0 [sw] := Keep.refl h0 _
  have pre0 : ∀ t, Steps p.tables e below (s₁.setTop (mkF m 0 #[.val (.ref a1), .val (.long (0 : Int64)), .second, .unset] [])) t → Steps p.tables e below (s₁.setTop (entryFrame m #[(.ref a1), (.long (0 : Int64))] 4)) t := fun t k => castTop (ef_rmCount_4 m (a1) ((0 : Int64))) k
  obtain ⟨T1, X1, e1, st1⟩ := getF X0 hx hZ hown (host := "") (Or.inl (kw52 hw)) Via.refl e0 P3 (g := (mkF m 4 #[.val (.ref a1), .val (.long (0 : Int64)), .second, .val (.int (0 : Int32))] [(.ref a1), (.int (0 : Int32))])) rfl rfl (hb hby d16_4)
  obtain ⟨cl2, Ar2, -, S2, N2', -, -⟩ := id P4
  obtain ⟨T3, X3, e3, st3⟩ := getF X1 hx hZ hown (host := "") (Or.inl (kw52 hw)) Via.refl e1 P3 (g := (mkF m 12 #[.val (.ref a1), .val (.long (0 : Int64)), .second, .val (.int (0 : Int32))] [(.ref a1)])) rfl rfl (hb hby d16_12)
  obtain ⟨cl4, Ar4, q4, S4, N4', H4, G4⟩ := id P4
  have hin4 : ¬ ((1 : Int32) < 0 ∨ cl4.slots.size ≤ ((1 : Int32)).toNatClampNeg) := inb_of S4 ⟨by decide, by decide⟩
  have hat4 : cl4.slots[((1 : Int32)).toNatClampNeg]? = some (.long (0 : Int64)) := H4.at hin4 rfl
  obtain ⟨T5, X5, e5, st5⟩ := getF X3 hx hZ hown (host := "") (Or.inl (kw52 hw)) Via.refl e3 P3 (g := (mkF m 35 #[.val (.ref a1), .val (.long (0 : Int64)), .second, .val (.int (0 : Int32))] [(.ref a1)])) rfl rfl (hb hby d16_35)
  obtain ⟨cl6, Ar6, q6, S6, N6', H6, G6⟩ := id P4
  have hin6 : ¬ ((1 : Int32) < 0 ∨ cl6.slots.size ≤ ((1 : Int32)).toNatClampNeg) := inb_of S6 ⟨by decide, by decide⟩
  have hat6 : cl6.slots[((1 : Int32)).toNatClampNeg]? = some (.long (0 : Int64)) := H6.at hin6 rfl
  obtain ⟨cl7, Ar7, q7, S7, N7', H7, G7⟩ := id P4
  have hin7 : ¬ ((1 : Int32) < 0 ∨ cl7.slots.size ≤ ((1 : Int32)).toNatClampNeg) := inb_of S7 ⟨by decide, by decide⟩
  obtain ⟨T7, h7, X7, e7, W7, st7⟩ := stJ X5 hx hZ e5 Ar7 (j := (1 : Int32)) hin7 (g := (mkF m 45 #[.val (.ref a1), .val (.long (0 : Int64)), .second, .val (.int (0 : Int32))] [(.long (1 : Int64)), (.int (1 : Int32)), (.ref sw)])) rfl rfl (hb hby d16_45)
  have Z7 : n0 ≤ h7.size := Nat.le_trans Z0 (Keep.of_wr W7).1
  have K7 : Keep h0 h7 [sw] := KR.wr W7 (Or.inl (List.mem_of_getElem? (i := 0) rfl))
  have N7 := Fr.snoc X7 N0 P1
  have V7 : Arv Z h7 sw k3 .long (4 : Int32) ([(.long r0), (.long (0 : Int64)), (.long r1), (.long (0 : Int64))].set 1 (.long (1 : Int64))) (.long (0 : Int64)) := Arv.set Ar7 q7 S7 N7' H7 G7 rfl W7 1 rfl (Nat.le_of_ble_eq_true rfl)
  have Vs7 : Arv Z h7 sw k3 .long (4 : Int32) [(.long r0), (.long (1 : Int64)), (.long r1), (.long (0 : Int64))] (.long (0 : Int64)) := V7
  have f8 : Fld Z h7 a1 "com/example/okno/okno/AdmissionLog" "shorterWindows" "[J" (.ref sw) := (P3.other W7 (Or.inl (Ne.symm P2)))
  obtain ⟨T9, X9, e9, st9⟩ := getF X7 hx hZ hown (host := "") (Or.inl (kw52 hw)) Via.refl e7 f8 (g := (mkF m 4 #[.val (.ref a1), .val (.long (0 : Int64)), .second, .val (.int (2 : Int32))] [(.ref a1), (.int (2 : Int32))])) rfl rfl (hb hby d16_4)
  obtain ⟨cl10, Ar10, -, S10, N10', -, -⟩ := id Vs7
  obtain ⟨T11, X11, e11, st11⟩ := getF X9 hx hZ hown (host := "") (Or.inl (kw52 hw)) Via.refl e9 f8 (g := (mkF m 12 #[.val (.ref a1), .val (.long (0 : Int64)), .second, .val (.int (2 : Int32))] [(.ref a1)])) rfl rfl (hb hby d16_12)
  obtain ⟨cl12, Ar12, q12, S12, N12', H12, G12⟩ := id Vs7
  have hin12 : ¬ ((3 : Int32) < 0 ∨ cl12.slots.size ≤ ((3 : Int32)).toNatClampNeg) := inb_of S12 ⟨by decide, by decide⟩
  have hat12 : cl12.slots[((3 : Int32)).toNatClampNeg]? = some (.long (0 : Int64)) := H12.at hin12 rfl
  obtain ⟨T13, X13, e13, st13⟩ := getF X11 hx hZ hown (host := "") (Or.inl (kw52 hw)) Via.refl e11 f8 (g := (mkF m 35 #[.val (.ref a1), .val (.long (0 : Int64)), .second, .val (.int (2 : Int32))] [(.ref a1)])) rfl rfl (hb hby d16_35)
  have pre14 : ∀ t, Steps p.tables e below (T13.setTop (mkF m 41 #[.val (.ref a1), .val (.long (0 : Int64)), .second, .val (.int (2 : Int32))] [(.int (3 : Int32)), (.ref sw)])) t → Steps p.tables e below (s₁.setTop (entryFrame m #[(.ref a1), (.long (0 : Int64))] 4)) t := fun t k => pre0 t (by
    refine XS.iconst X0.here hx rfl (hb hby d16_0) ?_
    refine XS.istoreN X0.here hx rfl (hb hby d16_1) rfl (l' := #[.val (.ref a1), .val (.long (0 : Int64)), .second, .val (.int (0 : Int32))]) rfl ?_
    refine XS.iloadN X0.here hx rfl (hb hby d16_2) rfl ?_
    refine XS.aloadN X0.here hx rfl (hb hby d16_3) rfl rfl ?_
    refine st1 _ ?_
    refine X1.arraylength hx (by rw [e1]; exact Ar2.1) (State.isArrayOf_alike hZ.alike Ar2.2.1) (g := (mkF m 7 #[.val (.ref a1), .val (.long (0 : Int64)), .second, .val (.int (0 : Int32))] [(.ref sw), (.int (0 : Int32))])) rfl rfl (hb hby d16_7) _ ?_
    rw [len_of S2 N2']
    refine XS.icmpNo X1.here hx rfl (hb hby d16_8) rfl (tlt (by decide : (0 : Int32) < (4 : Int32))).2.1 ?_
    refine XS.aloadN X1.here hx rfl (hb hby d16_11) rfl rfl ?_
    refine st3 _ ?_
    refine XS.iloadN X3.here hx rfl (hb hby d16_15) rfl ?_
    refine XS.iconst X3.here hx rfl (hb hby d16_16) ?_
    refine XS.iadd X3.here hx rfl (hb hby d16_17) rfl ?_
    refine X3.laload hx (j := (1 : Int32)) (v := (.long (0 : Int64))) (by rw [e3]; exact Ar4.1) (State.isArrayOf_alike hZ.alike Ar4.2.1) Ar4.2.2 hin4 hat4 (g := (mkF m 18 #[.val (.ref a1), .val (.long (0 : Int64)), .second, .val (.int (0 : Int32))] [(.int (1 : Int32)), (.ref sw)])) rfl rfl (hb hby d16_18) _ ?_
    refine XS.lconst X3.here hx rfl (hb hby d16_19) ?_
    refine XS.lcmp X3.here hx rfl (hb hby d16_20) rfl ?_
    refine XS.ifYes X3.here hx rfl (pc0 := 21) (pc' := 34) rfl (hb hby d16_21) rfl ((if0 _ _).trans (flt (fun q => (by decide : ¬ ((0 : Int64) < (0 : Int64))) ((lw_gt _ _).mp q))).2.2.2) (by decide) (by decide) ?_
    refine XS.aloadN X3.here hx rfl (hb hby d16_34) rfl rfl ?_
    refine st5 _ ?_
    refine XS.iloadN X5.here hx rfl (hb hby d16_38) rfl ?_
    refine XS.iconst X5.here hx rfl (hb hby d16_39) ?_
    refine XS.iadd X5.here hx rfl (hb hby d16_40) rfl ?_
    show Steps p.tables e below (T5.setTop (mkF m 41 #[.val (.ref a1), .val (.long (0 : Int64)), .second, .val (.int (0 : Int32))] [(.int (1 : Int32)), (.ref sw)])) _
    jvm_step X5.here [X5.here.top, hx, (hb hby d16_41), Value.category]
    refine X5.laload hx (j := (1 : Int32)) (v := (.long (0 : Int64))) (by rw [e5]; exact Ar6.1) (State.isArrayOf_alike hZ.alike Ar6.2.1) Ar6.2.2 hin6 hat6 (g := (mkF m 42 #[.val (.ref a1), .val (.long (0 : Int64)), .second, .val (.int (0 : Int32))] [(.int (1 : Int32)), (.ref sw), (.int (1 : Int32)), (.ref sw)])) rfl rfl (hb hby d16_42) _ ?_
    refine XS.lconst X5.here hx rfl (hb hby d16_43) ?_
    refine XS.ladd X5.here hx rfl (hb hby d16_44) rfl ?_
    refine st7 _ ?_
    refine XS.iinc X7.here hx rfl (hb hby d16_46) rfl (l' := #[.val (.ref a1), .val (.long (0 : Int64)), .second, .val (.int (2 : Int32))]) rfl ?_
    refine XS.goto X7.here hx rfl (pc0 := 49) (pc' := 2) rfl (hb hby d16_49) (by decide) (by decide) ?_
    refine XS.iloadN X7.here hx rfl (hb hby d16_2) rfl ?_
    refine XS.aloadN X7.here hx rfl (hb hby d16_3) rfl rfl ?_
    refine st9 _ ?_
    refine X9.arraylength hx (by rw [e9]; exact Ar10.1) (State.isArrayOf_alike hZ.alike Ar10.2.1) (g := (mkF m 7 #[.val (.ref a1), .val (.long (0 : Int64)), .second, .val (.int (2 : Int32))] [(.ref sw), (.int (2 : Int32))])) rfl rfl (hb hby d16_7) _ ?_
    rw [len_of S10 N10']
    refine XS.icmpNo X9.here hx rfl (hb hby d16_8) rfl (tlt (by decide : (2 : Int32) < (4 : Int32))).2.1 ?_
    refine XS.aloadN X9.here hx rfl (hb hby d16_11) rfl rfl ?_
    refine st11 _ ?_
    refine XS.iloadN X11.here hx rfl (hb hby d16_15) rfl ?_
    refine XS.iconst X11.here hx rfl (hb hby d16_16) ?_
    refine XS.iadd X11.here hx rfl (hb hby d16_17) rfl ?_
    refine X11.laload hx (j := (3 : Int32)) (v := (.long (0 : Int64))) (by rw [e11]; exact Ar12.1) (State.isArrayOf_alike hZ.alike Ar12.2.1) Ar12.2.2 hin12 hat12 (g := (mkF m 18 #[.val (.ref a1), .val (.long (0 : Int64)), .second, .val (.int (2 : Int32))] [(.int (3 : Int32)), (.ref sw)])) rfl rfl (hb hby d16_18) _ ?_
    refine XS.lconst X11.here hx rfl (hb hby d16_19) ?_
    refine XS.lcmp X11.here hx rfl (hb hby d16_20) rfl ?_
    refine XS.ifYes X11.here hx rfl (pc0 := 21) (pc' := 34) rfl (hb hby d16_21) rfl ((if0 _ _).trans (flt (fun q => (by decide : ¬ ((0 : Int64) < (0 : Int64))) ((lw_gt _ _).mp q))).2.2.2) (by decide) (by decide) ?_
    refine XS.aloadN X11.here hx rfl (hb hby d16_34) rfl rfl ?_
    refine st13 _ ?_
    refine XS.iloadN X13.here hx rfl (hb hby d16_38) rfl ?_
    show Steps p.tables e below (T13.setTop (mkF m 39 #[.val (.ref a1), .val (.long (0 : Int64)), .second, .val (.int (2 : Int32))] [(.int (2 : Int32)), (.ref sw)])) _
    refine XS.iconst X13.here hx rfl (hb hby d16_39) ?_
    refine XS.iadd X13.here hx rfl (hb hby d16_40) rfl ?_
    exact k)
  obtain ⟨cl15, Ar15, q15, S15, N15', H15, G15⟩ := id Vs7
  have hin15 : ¬ ((3 : Int32) < 0 ∨ cl15.slots.size ≤ ((3 : Int32)).toNatClampNeg) := inb_of S15 ⟨by decide, by decide⟩
  have hat15 : cl15.slots[((3 : Int32)).toNatClampNeg]? = some (.long (0 : Int64)) := H15.at hin15 rfl
  obtain ⟨cl16, Ar16, q16, S16, N16', H16, G16⟩ := id Vs7
  have hin16 : ¬ ((3 : Int32) < 0 ∨ cl16.slots.size ≤ ((3 : Int32)).toNatClampNeg) := inb_of S16 ⟨by decide, by decide⟩
  obtain ⟨T16, h16, X16, e16, W16, st16⟩ := stJ X13 hx hZ e13 Ar16 (j := (3 : Int32)) hin16 (g := (mkF m 45 #[.val (.ref a1), .val (.long (0 : Int64)), .second, .val (.int (2 : Int32))] [(.long (1 : Int64)), (.int (3 : Int32)), (.ref sw)])) rfl rfl (hb hby d16_45)
  have Z16 : n0 ≤ h16.size := Nat.le_trans Z7 (Keep.of_wr W16).1
  have K16 : Keep h0 h16 [sw] := K7.wr W16 (Or.inl (List.mem_of_getElem? (i := 0) rfl))
  have N16 := Fr.snoc X16 N7 P1
  have V16 : Arv Z h16 sw k3 .long (4 : Int32) ([(.long r0), (.long (1 : Int64)), (.long r1), (.long (0 : Int64))].set 3 (.long (1 : Int64))) (.long (0 : Int64)) := Arv.set Ar16 q16 S16 N16' H16 G16 rfl W16 3 rfl (Nat.le_of_ble_eq_true rfl)
  have Vs16 : Arv Z h16 sw k3 .long (4 : Int32) [(.long r0), (.long (1 : Int64)), (.long r1), (.long (1 : Int64))] (.long (0 : Int64)) := V16
  have f17 : Fld Z h16 a1 "com/example/okno/okno/AdmissionLog" "shorterWindows" "[J" (.ref sw) := (f8.other W16 (Or.inl (Ne.symm P2)))
  obtain ⟨T18, X18, e18, st18⟩ := getF X16 hx hZ hown (host := "") (Or.inl (kw52 hw)) Via.refl e16 f17 (g := (mkF m 4 #[.val (.ref a1), .val (.long (0 : Int64)), .second, .val (.int (4 : Int32))] [(.ref a1), (.int (4 : Int32))])) rfl rfl (hb hby d16_4)
  obtain ⟨cl19, Ar19, -, S19, N19', -, -⟩ := id Vs16
  obtain ⟨fs, hr, hrun, hended, hW, hsame⟩ := X18.leave (v := none) (fun _ => rfl)
  refine ⟨_, _, pre14 _ ?_, hrun, hended, _, _, rfl, ?_, ⟨_, rfl⟩, hW, hsame.mono (by decide) (by decide)⟩
  · skip
    show Steps p.tables e below (T13.setTop (mkF m 41 #[.val (.ref a1), .val (.long (0 : Int64)), .second, .val (.int (2 : Int32))] [(.int (3 : Int32)), (.ref sw)])) _
    jvm_step X13.here [X13.here.top, hx, (hb hby d16_41), Value.category]
    refine X13.laload hx (j := (3 : Int32)) (v := (.long (0 : Int64))) (by rw [e13]; exact Ar15.1) (State.isArrayOf_alike hZ.alike Ar15.2.1) Ar15.2.2 hin15 hat15 (g := (mkF m 42 #[.val (.ref a1), .val (.long (0 : Int64)), .second, .val (.int (2 : Int32))] [(.int (3 : Int32)), (.ref sw), (.int (3 : Int32)), (.ref sw)])) rfl rfl (hb hby d16_42) _ ?_
    refine XS.lconst X13.here hx rfl (hb hby d16_43) ?_
    refine XS.ladd X13.here hx rfl (hb hby d16_44) rfl ?_
    refine st16 _ ?_
    refine XS.iinc X16.here hx rfl (hb hby d16_46) rfl (l' := #[.val (.ref a1), .val (.long (0 : Int64)), .second, .val (.int (4 : Int32))]) rfl ?_
    refine XS.goto X16.here hx rfl (pc0 := 49) (pc' := 2) rfl (hb hby d16_49) (by decide) (by decide) ?_
    refine XS.iloadN X16.here hx rfl (hb hby d16_2) rfl ?_
    refine XS.aloadN X16.here hx rfl (hb hby d16_3) rfl rfl ?_
    refine st18 _ ?_
    refine X18.arraylength hx (by rw [e18]; exact Ar19.1) (State.isArrayOf_alike hZ.alike Ar19.2.1) (g := (mkF m 7 #[.val (.ref a1), .val (.long (0 : Int64)), .second, .val (.int (4 : Int32))] [(.ref sw), (.int (4 : Int32))])) rfl rfl (hb hby d16_7) _ ?_
    rw [len_of S19 N19']
    refine XS.icmpYes X18.here hx rfl (pc0 := 8) (pc' := 52) rfl (hb hby d16_8) rfl (flt (by decide : ¬ ((4 : Int32) < (4 : Int32)))).2.1 (by decide) (by decide) ?_
    show Steps p.tables e below (T18.setTop (mkF m 52 #[.val (.ref a1), .val (.long (0 : Int64)), .second, .val (.int (4 : Int32))] [])) _
    exact X18.returnOut hx Bd.returns (hb hby d16_52) hr
  · show Q_rmCount_4 Z a1 sw k3 r0 r1 h0 n0 _ T18.heap _
    rw [e18]
    exact ⟨rfl, N16, K16, Vs16⟩
theorem ef_rmAppA_3 (m : MethodId) (x0 : Addr) (x1 : Int64) (x2 : Int64) : entryFrame m #[(.ref x0), (.long x1), (.long x2)] 11 = mkF m 0 #[.val (.ref x0), .val (.long x1), .second, .val (.long x2), .second, .unset, .unset, .unset, .unset, .unset, .unset] [] := by first | (simp [entryFrame, mkF, argsToLocals, Value.category]; done) | rfl
def Q_rmAppA_3 (Z : State) (a1 : Addr) (q1 : Int64) (q2 : Int64) (g : Int64) (lt : Int64) (sw : Addr) (k3 : ClassId) (r0 : Int64) (r1 : Int64) (u_newest : Int64) (u_subWindows : Addr) (u_amounts : Addr) (u_oldestSubWindow : Int64) (u_newestSubWindow : Int64) (u_newestSubWindowEnd : Int64) (u_olderTotal : Int64) (u_size : Int32) (u_head : Int32) (h0 : Heap) (n0 : Nat) (v : Option Value) (h : Heap) (L : List Loc) : Prop := v = none ∧ Fr n0 L ∧ Keep h0 h [a1, sw] ∧ Fld Z h a1 "com/example/okno/okno/AdmissionLog" "newest" "J" (.long q1) ∧ Fld Z h a1 "com/example/okno/okno/AdmissionLog" "subWindows" "[J" (.ref u_subWindows) ∧ Fld Z h a1 "com/example/okno/okno/AdmissionLog" "amounts" "[J" (.ref u_amounts) ∧ Fld Z h a1 "com/example/okno/okno/AdmissionLog" "oldestSubWindow" "J" (.long (own_fd q1 g)) ∧ Fld Z h a1 "com/example/okno/okno/AdmissionLog" "lastTime" "J" (.long q1) ∧ Fld Z h a1 "com/example/okno/okno/AdmissionLog" "subWindowMillis" "J" (.long g) ∧ Fld Z h a1 "com/example/okno/okno/AdmissionLog" "lastSubWindow" "J" (.long (own_fd q1 g)) ∧ Fld Z h a1 "com/example/okno/okno/AdmissionLog" "shorterWindows" "[J" (.ref sw) ∧ Fld Z h a1 "com/example/okno/okno/AdmissionLog" "total" "J" (.long ((0 : Int64) + q2)) ∧ Fld Z h a1 "com/example/okno/okno/AdmissionLog" "newestSubWindow" "J" (.long (own_fd q1 g)) ∧ Fld Z h a1 "com/example/okno/okno/AdmissionLog" "newestSubWindowEnd" "J" (.long (own_end (own_fd q1 g) q1 g)) ∧ Fld Z h a1 "com/example/okno/okno/AdmissionLog" "olderTotal" "J" (.long u_olderTotal) ∧ Fld Z h a1 "com/example/okno/okno/AdmissionLog" "size" "I" (.int u_size) ∧ Fld Z h a1 "com/example/okno/okno/AdmissionLog" "head" "I" (.int u_head) ∧ Arv Z h sw k3 .long (4 : Int32) [(.long r0), (.long (1 : Int64)), (.long r1), (.long (1 : Int64))] (.long (0 : Int64))
set_option maxRecDepth 65536 in
set_option maxHeartbeats 40000000 in
theorem rmAppA_3 (l : Launch) (Z : State) (a0 : Array Value) (hw : ∀ d ∈ tables_1, d.before a0 Z = true) (ws : List Jvm.Cond) (a1 : Addr) (q1 : Int64) (q2 : Int64) (g : Int64) (lt : Int64) (sw : Addr) (k3 : ClassId) (r0 : Int64) (r1 : Int64) (u_newest : Int64) (u_subWindows : Addr) (u_amounts : Addr) (u_oldestSubWindow : Int64) (u_newestSubWindow : Int64) (u_newestSubWindowEnd : Int64) (u_olderTotal : Int64) (u_size : Int32) (u_head : Int32) (h0 : Heap) (n0 : Nat) (Z0 : n0 ≤ h0.size) (P0 : Exa Z h0 a1 "com/example/okno/okno/AdmissionLog") (P1 : n0 ≤ a1) (hgz : g ≠ (0 : Int64)) (hov : ¬ (((0 : Int64) ^^^ ((0 : Int64) + q2)) &&& (q2 ^^^ ((0 : Int64) + q2))) < (0 : Int64)) (P4 : Arv Z h0 sw k3 .long (4 : Int32) [(.long r0), (.long (0 : Int64)), (.long r1), (.long (0 : Int64))] (.long (0 : Int64))) (P5 : n0 ≤ sw) (P6 : sw ≠ a1) (P7 : Fld Z h0 a1 "com/example/okno/okno/AdmissionLog" "newest" "J" (.long u_newest)) (P8 : Fld Z h0 a1 "com/example/okno/okno/AdmissionLog" "subWindows" "[J" (.ref u_subWindows)) (P9 : Fld Z h0 a1 "com/example/okno/okno/AdmissionLog" "amounts" "[J" (.ref u_amounts)) (P10 : Fld Z h0 a1 "com/example/okno/okno/AdmissionLog" "oldestSubWindow" "J" (.long u_oldestSubWindow)) (P11 : Fld Z h0 a1 "com/example/okno/okno/AdmissionLog" "lastTime" "J" (.long lt)) (P12 : Fld Z h0 a1 "com/example/okno/okno/AdmissionLog" "subWindowMillis" "J" (.long g)) (P13 : Fld Z h0 a1 "com/example/okno/okno/AdmissionLog" "lastSubWindow" "J" (.long (own_fd lt g))) (P14 : Fld Z h0 a1 "com/example/okno/okno/AdmissionLog" "shorterWindows" "[J" (.ref sw)) (P15 : Fld Z h0 a1 "com/example/okno/okno/AdmissionLog" "total" "J" (.long (0 : Int64))) (P16 : Fld Z h0 a1 "com/example/okno/okno/AdmissionLog" "newestSubWindow" "J" (.long u_newestSubWindow)) (P17 : Fld Z h0 a1 "com/example/okno/okno/AdmissionLog" "newestSubWindowEnd" "J" (.long u_newestSubWindowEnd)) (P18 : Fld Z h0 a1 "com/example/okno/okno/AdmissionLog" "olderTotal" "J" (.long u_olderTotal)) (P19 : Fld Z h0 a1 "com/example/okno/okno/AdmissionLog" "size" "I" (.int u_size)) (P20 : Fld Z h0 a1 "com/example/okno/okno/AdmissionLog" "head" "I" (.int u_head)) :
    MetFree l (⟨"com/example/okno/okno/AdmissionLog", "append", "(JJ)V"⟩ : MethodName) (head1 (Jvm.Cond.code (⟨"com/example/okno/okno/AdmissionLog", "append", "(JJ)V"⟩ : MethodName) prog_2_method_12_code 11 none :: ws) ({ frames := 2, cells := 0, slots := 0, locals := 32 } : Room)) (fun a U => a = #[(.ref a1), (.long q1), (.long q2)] ∧ Z.Warmed39 U.vm ∧ U.heap = h0) (fun _ _ _ _ _ => True) (fun _ U o U' => ∃ v L, o = .returned v ∧ Q_rmAppA_3 Z a1 q1 q2 g lt sw k3 r0 r1 u_newest u_subWindows u_amounts u_oldestSubWindow u_newestSubWindow u_newestSubWindowEnd u_olderTotal u_size u_head h0 n0 v U'.heap L ∧ FrameEnd U o U' L ({ frames := 2, cells := 0, slots := 0, locals := 32 } : Room).cells ({ frames := 2, cells := 0, slots := 0, locals := 32 } : Room).slots) := by
  refine MetFree.of_bodySF (plainFor_of_name pn_2) hisR ?_
  intro p e s m args below meth c s₁ Bd hml0 hP hK
  obtain ⟨rfl, hZ, hh⟩ := hP
  have hx := Bd.exec
  have hby := Bd.bytes
  have hml : c.maxLocals = 11 := hml0
  have hown : s.vm.findClass "com/example/okno/okno/AdmissionLog" = some m.cls := findClass_of_methodNamed Bd.named
  have hnm := (name_of_methodNamed Bd.named Bd.method).1
  have X0 : Stand p l e ({ frames := 2, cells := 0, slots := 0, locals := 32 } : Room) s m #[(.ref a1), (.long q1), (.long q2)] below meth c s₁ [] 0 0 := Stand.of_body Bd
  have e0 : s₁.heap = h0 := by rw [← hh, Bd.state]; rfl
  have N0 := Fr.nil n0
  have KR : Keep h0 h0 [a1, sw] := Keep.refl h0 _
  have pre0 : ∀ t, Steps p.tables e below (s₁.setTop (mkF m 0 #[.val (.ref a1), .val (.long q1), .second, .val (.long q2), .second, .unset, .unset, .unset, .unset, .unset, .unset] [])) t → Steps p.tables e below (s₁.setTop (entryFrame m #[(.ref a1), (.long q1), (.long q2)] 11)) t := fun t k => castTop (ef_rmAppA_3 m (a1) (q1) (q2)) k
  obtain ⟨T1, X1, e1, st1⟩ := getF X0 hx hZ hown (host := "") (Or.inl (kw68 hw)) Via.refl e0 P15 (g := (mkF m 1 #[.val (.ref a1), .val (.long q1), .second, .val (.long q2), .second, .unset, .unset, .unset, .unset, .unset, .unset] [(.ref a1)])) rfl rfl (hb hby d12_1)
  obtain ⟨_, _, ⟨T2, L2, k2, n2⟩, -, X2, ⟨Lc2, hQ2, l2, y2, z2⟩, st2⟩ := Jvm.LawKit.callS X1 hx (y := (⟨"java/lang/Math", "addExact", "(JJ)J"⟩ : MethodName)) hown (mvT hZ (kw80 hw)) (mvT hZ (kw81 hw)) (mvT hZ (kw6 hw)) (mvT hZ (kw82 hw)) (by decide) (backOf (W := 0) (rmAddX l Z a0 hw [] (0 : Int64) q2 h0 n0 Z0 hov) hZ (kw82 hw) (kw6 hw) (by decide) (by decide)) (g := (mkF m 5 #[.val (.ref a1), .val (.long q1), .second, .val (.long q2), .second, .unset, .unset, .unset, .unset, .unset, .unset] [(.long q2), (.long (0 : Int64))])) rfl (by rw [hml]; rfl) (argsL := [(.long (0 : Int64)), (.long q2)]) (rest := []) (lenOf pd_0 rfl) rfl (by show 2 * 0 + _ ≤ _; exact Nat.le_of_eq rfl) (hb hby d12_5) (fun _ _ => ⟨rfl, e1, (by decide : 0 + 0 ≤ _), (by decide : 0 + 0 ≤ _)⟩)
  dsimp only [Pt.U, Pt.locs, Pt.cells, Pt.slots] at X2 l2 y2 z2 st2 hQ2
  subst l2 y2 z2
  obtain ⟨rfl, N2q, e2⟩ := hQ2
  have N2 := Fr.app N0 N2q
  obtain ⟨cq3, kq3, q3a, q3b, q3c⟩ := isOf hZ e2 P0
  obtain ⟨_, _, ⟨T3, L3, k3, n3⟩, -, X3, ⟨Lc3, hQ3, l3, y3, z3⟩, st3⟩ := X2.virtualBack hx (y := (⟨"com/example/okno/okno/AdmissionLog", "subWindowOf", "(J)J"⟩ : MethodName)) (z := (⟨"com/example/okno/okno/AdmissionLog", "subWindowOf", "(J)J"⟩ : MethodName)) hown (mvT hZ (kw83 hw)) (mvT hZ (kw84 hw)) (notFace_of_selects (args := #[]) (mvT hZ (kw86 hw))) (mvT hZ (kw86 hw)) (mvT hZ (kw85 hw)) (by decide) (backOf (W := 0) (rmSub l Z a0 hw [] a1 q1 lt g u_newest u_subWindows u_amounts u_oldestSubWindow sw (0 : Int64) u_newestSubWindow u_newestSubWindowEnd u_olderTotal u_size u_head h0 n0 Z0 P0 P1 hgz P7 P8 P9 P10 P11 P12 P13 P14 P15 P16 P17 P18 P19 P20) hZ (kw87 hw) (kw18 hw) (by decide) (by decide)) q3a q3c (g := (mkF m 12 #[.val (.ref a1), .val (.long q1), .second, .val (.long q2), .second, .val (.long ((0 : Int64) + q2)), .second, .unset, .unset, .unset, .unset] [(.long q1), (.ref a1)])) rfl (by rw [hml]; rfl) (Steps.refl _) (argsL := [(.long q1)]) (rest := []) (lenOf pd_7 rfl) rfl (by show 2 * 0 + _ ≤ _; exact Nat.le_of_eq rfl) (hb hby d12_12) (fun _ _ => ⟨rfl, e2, (by decide : 0 + 0 ≤ _), (by decide : 0 + 0 ≤ _)⟩)
  dsimp only [Pt.U, Pt.locs, Pt.cells, Pt.slots] at X3 l3 y3 z3 st3 hQ3
  subst l3 y3 z3
  obtain ⟨rfl, N3q, Kq3, p3_0, p3_1, p3_2, p3_3, p3_4, p3_5, p3_6, p3_7, p3_8, p3_9, p3_10, p3_11, p3_12, p3_13⟩ := hQ3
  have N3 := Fr.app N2 N3q
  have Z3 : n0 ≤ T3.heap.size := Nat.le_trans Z0 Kq3.1
  have K3 : Keep h0 T3.heap [a1, sw] := KR.trans Kq3 (allS (Or.inl (List.mem_of_getElem? (i := 0) rfl)) all0)
  have f5 : Exa Z T3.heap a1 "com/example/okno/okno/AdmissionLog" := (P0.keep Kq3)
  obtain ⟨cq4, kq4, q4a, q4b, q4c⟩ := isOf hZ rfl f5
  obtain ⟨_, _, ⟨T4, L4, k4, n4⟩, -, X4, ⟨Lc4, hQ4, l4, y4, z4⟩, st4⟩ := X3.virtualBack hx (y := (⟨"com/example/okno/okno/AdmissionLog", "isEmpty", "()Z"⟩ : MethodName)) (z := (⟨"com/example/okno/okno/AdmissionLog", "isEmpty", "()Z"⟩ : MethodName)) hown (mvT hZ (kw63 hw)) (mvT hZ (kw64 hw)) (notFace_of_selects (args := #[]) (mvT hZ (kw66 hw))) (mvT hZ (kw66 hw)) (mvT hZ (kw65 hw)) (by decide) (backOf (W := 0) (rmEmp0 l Z a0 hw [] a1 T3.heap n0 Z3 p3_8) hZ (kw67 hw) (kw18 hw) (by decide) (by decide)) q4a q4c (g := (mkF m 18 #[.val (.ref a1), .val (.long q1), .second, .val (.long q2), .second, .val (.long ((0 : Int64) + q2)), .second, .val (.long (own_fd q1 g)), .second, .unset, .unset] [(.ref a1)])) rfl (by rw [hml]; rfl) (Steps.refl _) (argsL := []) (rest := []) (lenOf pd_4 rfl) rfl (by show 2 * 0 + _ ≤ _; exact Nat.le_of_eq rfl) (hb hby d12_18) (fun _ _ => ⟨rfl, rfl, (by decide : 0 + 0 ≤ _), (by decide : 0 + 0 ≤ _)⟩)
  dsimp only [Pt.U, Pt.locs, Pt.cells, Pt.slots] at X4 l4 y4 z4 st4 hQ4
  subst l4 y4 z4
  obtain ⟨rfl, N4q, e4⟩ := hQ4
  have N4 := Fr.app N3 N4q
  obtain ⟨T6, h6, X6, e6, W6, st6⟩ := putF X4 hx hZ hown (host := "") (Or.inl (kw40 hw)) Via.refl e4 p3_3 f5 (Or.inl (kw41 hw)) (kw17 hw) (ty := .long) (by decide) rfl rfl (g := (mkF m 27 #[.val (.ref a1), .val (.long q1), .second, .val (.long q2), .second, .val (.long ((0 : Int64) + q2)), .second, .val (.long (own_fd q1 g)), .second, .unset, .unset] [(.long (own_fd q1 g)), (.ref a1)])) rfl rfl (hb hby d12_27)
  have Z6 : n0 ≤ h6.size := Nat.le_trans Z3 (Keep.of_wr W6).1
  have K6 : Keep h0 h6 [a1, sw] := K3.wr W6 (Or.inl (List.mem_of_getElem? (i := 0) rfl))
  have N6 := Fr.snoc X6 N4 P1
  have Fw6 : Fld Z h6 a1 "com/example/okno/okno/AdmissionLog" "oldestSubWindow" "J" (.long (own_fd q1 g)) := p3_3.same W6
  have f8 : Exa Z h6 a1 "com/example/okno/okno/AdmissionLog" := (f5.wr W6)
  have f9 : Fld Z h6 a1 "com/example/okno/okno/AdmissionLog" "newest" "J" (.long u_newest) := (p3_0.other W6 (Or.inr (slot_ne (Or.inl (kw32 hw)) (Or.inl (kw41 hw)) (by decide) (t := .long) (t' := .long) (by decide) (by decide))))
  have f10 : Fld Z h6 a1 "com/example/okno/okno/AdmissionLog" "subWindows" "[J" (.ref u_subWindows) := (p3_1.other W6 (Or.inr (slot_ne (Or.inl (kw36 hw)) (Or.inl (kw41 hw)) (by decide) (t := (.array .long)) (t' := .long) (by decide) (by decide))))
  have f11 : Fld Z h6 a1 "com/example/okno/okno/AdmissionLog" "amounts" "[J" (.ref u_amounts) := (p3_2.other W6 (Or.inr (slot_ne (Or.inl (kw38 hw)) (Or.inl (kw41 hw)) (by decide) (t := (.array .long)) (t' := .long) (by decide) (by decide))))
  have f12 : Fld Z h6 a1 "com/example/okno/okno/AdmissionLog" "lastTime" "J" (.long q1) := (p3_4.other W6 (Or.inr (slot_ne (Or.inl (kw43 hw)) (Or.inl (kw41 hw)) (by decide) (t := .long) (t' := .long) (by decide) (by decide))))
  have f13 : Fld Z h6 a1 "com/example/okno/okno/AdmissionLog" "subWindowMillis" "J" (.long g) := (p3_5.other W6 (Or.inr (slot_ne (Or.inr (kw45 hw)) (Or.inl (kw41 hw)) (by decide) (t := .long) (t' := .long) (by decide) (by decide))))
  have f14 : Fld Z h6 a1 "com/example/okno/okno/AdmissionLog" "lastSubWindow" "J" (.long (own_fd q1 g)) := (p3_6.other W6 (Or.inr (slot_ne (Or.inl (kw50 hw)) (Or.inl (kw41 hw)) (by decide) (t := .long) (t' := .long) (by decide) (by decide))))
  have f15 : Fld Z h6 a1 "com/example/okno/okno/AdmissionLog" "shorterWindows" "[J" (.ref sw) := (p3_7.other W6 (Or.inr (slot_ne (Or.inr (kw53 hw)) (Or.inl (kw41 hw)) (by decide) (t := (.array .long)) (t' := .long) (by decide) (by decide))))
  have f16 : Fld Z h6 a1 "com/example/okno/okno/AdmissionLog" "total" "J" (.long (0 : Int64)) := (p3_8.other W6 (Or.inr (slot_ne (Or.inl (kw69 hw)) (Or.inl (kw41 hw)) (by decide) (t := .long) (t' := .long) (by decide) (by decide))))
  have f17 : Fld Z h6 a1 "com/example/okno/okno/AdmissionLog" "newestSubWindow" "J" (.long u_newestSubWindow) := (p3_9.other W6 (Or.inr (slot_ne (Or.inl (kw93 hw)) (Or.inl (kw41 hw)) (by decide) (t := .long) (t' := .long) (by decide) (by decide))))
  have f18 : Fld Z h6 a1 "com/example/okno/okno/AdmissionLog" "newestSubWindowEnd" "J" (.long u_newestSubWindowEnd) := (p3_10.other W6 (Or.inr (slot_ne (Or.inl (kw95 hw)) (Or.inl (kw41 hw)) (by decide) (t := .long) (t' := .long) (by decide) (by decide))))
  have f19 : Fld Z h6 a1 "com/example/okno/okno/AdmissionLog" "olderTotal" "J" (.long u_olderTotal) := (p3_11.other W6 (Or.inr (slot_ne (Or.inl (kw101 hw)) (Or.inl (kw41 hw)) (by decide) (t := .long) (t' := .long) (by decide) (by decide))))
  have f20 : Fld Z h6 a1 "com/example/okno/okno/AdmissionLog" "size" "I" (.int u_size) := (p3_12.other W6 (Or.inr (slot_ne (Or.inl (kw107 hw)) (Or.inl (kw41 hw)) (by decide) (t := .int) (t' := .long) (by decide) (by decide))))
  have f21 : Fld Z h6 a1 "com/example/okno/okno/AdmissionLog" "head" "I" (.int u_head) := (p3_13.other W6 (Or.inr (slot_ne (Or.inl (kw116 hw)) (Or.inl (kw41 hw)) (by decide) (t := .int) (t' := .long) (by decide) (by decide))))
  obtain ⟨cq7, q7, q7'⟩ := (f8).cell
  obtain ⟨_, _, ⟨T7, L7, k7, n7⟩, -, X7, ⟨Lc7, hQ7, l7, y7, z7⟩, st7⟩ := X6.privateBack hx (y := (⟨"com/example/okno/okno/AdmissionLog", "startNewestEntry", "(JJ)V"⟩ : MethodName)) hown (mvT hZ (kw88 hw)) (mvT hZ (kw89 hw)) (mvT hZ (own_selP rfl (kw17 hw) (kw89 hw) (kw90 hw) (by decide))) (Cond.privateMethod_at (mvP hZ (kw90 hw) (args := #[]))) (mvT hZ (kw91 hw)) (by decide) (backOf (W := 0) (rmStart l Z a0 hw [] a1 (own_fd q1 g) q1 g u_newest u_subWindows u_amounts (own_fd q1 g) q1 (own_fd q1 g) sw (0 : Int64) u_newestSubWindow u_newestSubWindowEnd u_olderTotal u_size u_head h6 n0 Z6 f8 P1 f9 f10 f11 Fw6 f12 f13 f14 f15 f16 f17 f18 f19 f20 f21) hZ (kw91 hw) (kw18 hw) (by decide) (by decide)) (g := (mkF m 34 #[.val (.ref a1), .val (.long q1), .second, .val (.long q2), .second, .val (.long ((0 : Int64) + q2)), .second, .val (.long (own_fd q1 g)), .second, .unset, .unset] [(.long q1), (.long (own_fd q1 g)), (.ref a1)])) rfl (by rw [hml]; rfl) (Steps.refl _) (a := a1) (by rw [e6]; exact q7) q7' (argsL := [(.long (own_fd q1 g)), (.long q1)]) (rest := []) (lenOf pd_8 rfl) rfl (by show 2 * 0 + _ ≤ _; exact Nat.le_of_eq rfl) (hb hby d12_34) (fun _ _ => ⟨rfl, e6, (by decide : 0 + 0 ≤ _), (by decide : 0 + 0 ≤ _)⟩)
  dsimp only [Pt.U, Pt.locs, Pt.cells, Pt.slots] at X7 l7 y7 z7 st7 hQ7
  subst l7 y7 z7
  obtain ⟨rfl, N7q, Kq7, p7_0, p7_1, p7_2, p7_3, p7_4, p7_5, p7_6, p7_7, p7_8, p7_9, p7_10, p7_11, p7_12, p7_13⟩ := hQ7
  have N7 := Fr.app N6 N7q
  have Z7 : n0 ≤ T7.heap.size := Nat.le_trans Z6 Kq7.1
  have K7 : Keep h0 T7.heap [a1, sw] := K6.trans Kq7 (allS (Or.inl (List.mem_of_getElem? (i := 0) rfl)) all0)
  have f23 : Exa Z T7.heap a1 "com/example/okno/okno/AdmissionLog" := (f8.keep Kq7)
  have f24 : Arv Z T7.heap sw k3 .long (4 : Int32) [(.long r0), (.long (0 : Int64)), (.long r1), (.long (0 : Int64))] (.long (0 : Int64)) := (((P4.keep Kq3 (ninS P6 nin0)).other W6 P6).keep Kq7 (ninS P6 nin0))
  obtain ⟨cq22, q22, q22'⟩ := (f23).cell
  obtain ⟨_, _, ⟨T22, L22, k22, n22⟩, -, X22, ⟨Lc22, hQ22, l22, y22, z22⟩, st22⟩ := X7.privateBack hx (y := (⟨"com/example/okno/okno/AdmissionLog", "countNewEntryInShorterWindows", "(J)V"⟩ : MethodName)) hown (mvT hZ (kw96 hw)) (mvT hZ (kw97 hw)) (mvT hZ (own_selP rfl (kw17 hw) (kw97 hw) (kw98 hw) (by decide))) (Cond.privateMethod_at (mvP hZ (kw98 hw) (args := #[]))) (mvT hZ (kw99 hw)) (by decide) (backOf (W := 0) (rmCount_4 l Z a0 hw [] a1 sw k3 r0 r1 T7.heap n0 Z7 f23 P5 P6 p7_7 f24) hZ (kw99 hw) (kw18 hw) (by decide) (by decide)) (g := (mkF m 39 #[.val (.ref a1), .val (.long q1), .second, .val (.long q2), .second, .val (.long ((0 : Int64) + q2)), .second, .val (.long (own_fd q1 g)), .second, .unset, .unset] [(.long (0 : Int64)), (.ref a1)])) rfl (by rw [hml]; rfl) (Steps.refl _) (a := a1) q22 q22' (argsL := [(.long (0 : Int64))]) (rest := []) (lenOf pd_9 rfl) rfl (by show 2 * 0 + _ ≤ _; exact Nat.le_of_eq rfl) (hb hby d12_39) (fun _ _ => ⟨rfl, rfl, (by decide : 0 + 0 ≤ _), (by decide : 0 + 0 ≤ _)⟩)
  dsimp only [Pt.U, Pt.locs, Pt.cells, Pt.slots] at X22 l22 y22 z22 st22 hQ22
  subst l22 y22 z22
  obtain ⟨rfl, N22q, Kq22, p22_0⟩ := hQ22
  have N22 := Fr.app N7 N22q
  have Z22 : n0 ≤ T22.heap.size := Nat.le_trans Z7 Kq22.1
  have K22 : Keep h0 T22.heap [a1, sw] := K7.trans Kq22 (allS (Or.inl (List.mem_of_getElem? (i := 1) rfl)) all0)
  have f25 : Exa Z T22.heap a1 "com/example/okno/okno/AdmissionLog" := (f23.keep Kq22)
  have f26 : Fld Z T22.heap a1 "com/example/okno/okno/AdmissionLog" "total" "J" (.long (0 : Int64)) := (p7_8.keep Kq22 (ninS (Ne.symm P6) nin0))
  obtain ⟨T27, h27, X27, e27, W27, st27⟩ := putF X22 hx hZ hown (host := "") (Or.inl (kw68 hw)) Via.refl rfl f26 f25 (Or.inl (kw69 hw)) (kw17 hw) (ty := .long) (by decide) rfl rfl (g := (mkF m 92 #[.val (.ref a1), .val (.long q1), .second, .val (.long q2), .second, .val (.long ((0 : Int64) + q2)), .second, .val (.long (own_fd q1 g)), .second, .unset, .unset] [(.long ((0 : Int64) + q2)), (.ref a1)])) rfl rfl (hb hby d12_92)
  have Z27 : n0 ≤ h27.size := Nat.le_trans Z22 (Keep.of_wr W27).1
  have K27 : Keep h0 h27 [a1, sw] := K22.wr W27 (Or.inl (List.mem_of_getElem? (i := 0) rfl))
  have N27 := Fr.snoc X27 N22 P1
  have Fw27 : Fld Z h27 a1 "com/example/okno/okno/AdmissionLog" "total" "J" (.long ((0 : Int64) + q2)) := f26.same W27
  have f28 : Exa Z h27 a1 "com/example/okno/okno/AdmissionLog" := (f25.wr W27)
  have f29 : Fld Z h27 a1 "com/example/okno/okno/AdmissionLog" "newest" "J" (.long u_newest) := ((p7_0.keep Kq22 (ninS (Ne.symm P6) nin0)).other W27 (Or.inr (slot_ne (Or.inl (kw32 hw)) (Or.inl (kw69 hw)) (by decide) (t := .long) (t' := .long) (by decide) (by decide))))
  obtain ⟨T30, h30, X30, e30, W30, st30⟩ := putF X27 hx hZ hown (host := "") (Or.inl (kw31 hw)) Via.refl e27 f29 f28 (Or.inl (kw32 hw)) (kw17 hw) (ty := .long) (by decide) rfl rfl (g := (mkF m 97 #[.val (.ref a1), .val (.long q1), .second, .val (.long q2), .second, .val (.long ((0 : Int64) + q2)), .second, .val (.long (own_fd q1 g)), .second, .unset, .unset] [(.long q1), (.ref a1)])) rfl rfl (hb hby d12_97)
  have Z30 : n0 ≤ h30.size := Nat.le_trans Z27 (Keep.of_wr W30).1
  have K30 : Keep h0 h30 [a1, sw] := K27.wr W30 (Or.inl (List.mem_of_getElem? (i := 0) rfl))
  have N30 := Fr.snoc X30 N27 P1
  have Fw30 : Fld Z h30 a1 "com/example/okno/okno/AdmissionLog" "newest" "J" (.long q1) := f29.same W30
  have f31 : Fld Z h30 a1 "com/example/okno/okno/AdmissionLog" "subWindows" "[J" (.ref u_subWindows) := (((p7_1.keep Kq22 (ninS (Ne.symm P6) nin0)).other W27 (Or.inr (slot_ne (Or.inl (kw36 hw)) (Or.inl (kw69 hw)) (by decide) (t := (.array .long)) (t' := .long) (by decide) (by decide)))).other W30 (Or.inr (slot_ne (Or.inl (kw36 hw)) (Or.inl (kw32 hw)) (by decide) (t := (.array .long)) (t' := .long) (by decide) (by decide))))
  have f32 : Fld Z h30 a1 "com/example/okno/okno/AdmissionLog" "amounts" "[J" (.ref u_amounts) := (((p7_2.keep Kq22 (ninS (Ne.symm P6) nin0)).other W27 (Or.inr (slot_ne (Or.inl (kw38 hw)) (Or.inl (kw69 hw)) (by decide) (t := (.array .long)) (t' := .long) (by decide) (by decide)))).other W30 (Or.inr (slot_ne (Or.inl (kw38 hw)) (Or.inl (kw32 hw)) (by decide) (t := (.array .long)) (t' := .long) (by decide) (by decide))))
  have f33 : Fld Z h30 a1 "com/example/okno/okno/AdmissionLog" "oldestSubWindow" "J" (.long (own_fd q1 g)) := (((p7_3.keep Kq22 (ninS (Ne.symm P6) nin0)).other W27 (Or.inr (slot_ne (Or.inl (kw41 hw)) (Or.inl (kw69 hw)) (by decide) (t := .long) (t' := .long) (by decide) (by decide)))).other W30 (Or.inr (slot_ne (Or.inl (kw41 hw)) (Or.inl (kw32 hw)) (by decide) (t := .long) (t' := .long) (by decide) (by decide))))
  have f34 : Fld Z h30 a1 "com/example/okno/okno/AdmissionLog" "lastTime" "J" (.long q1) := (((p7_4.keep Kq22 (ninS (Ne.symm P6) nin0)).other W27 (Or.inr (slot_ne (Or.inl (kw43 hw)) (Or.inl (kw69 hw)) (by decide) (t := .long) (t' := .long) (by decide) (by decide)))).other W30 (Or.inr (slot_ne (Or.inl (kw43 hw)) (Or.inl (kw32 hw)) (by decide) (t := .long) (t' := .long) (by decide) (by decide))))
  have f35 : Fld Z h30 a1 "com/example/okno/okno/AdmissionLog" "subWindowMillis" "J" (.long g) := (((p7_5.keep Kq22 (ninS (Ne.symm P6) nin0)).other W27 (Or.inr (slot_ne (Or.inr (kw45 hw)) (Or.inl (kw69 hw)) (by decide) (t := .long) (t' := .long) (by decide) (by decide)))).other W30 (Or.inr (slot_ne (Or.inr (kw45 hw)) (Or.inl (kw32 hw)) (by decide) (t := .long) (t' := .long) (by decide) (by decide))))
  have f36 : Fld Z h30 a1 "com/example/okno/okno/AdmissionLog" "lastSubWindow" "J" (.long (own_fd q1 g)) := (((p7_6.keep Kq22 (ninS (Ne.symm P6) nin0)).other W27 (Or.inr (slot_ne (Or.inl (kw50 hw)) (Or.inl (kw69 hw)) (by decide) (t := .long) (t' := .long) (by decide) (by decide)))).other W30 (Or.inr (slot_ne (Or.inl (kw50 hw)) (Or.inl (kw32 hw)) (by decide) (t := .long) (t' := .long) (by decide) (by decide))))
  have f37 : Fld Z h30 a1 "com/example/okno/okno/AdmissionLog" "shorterWindows" "[J" (.ref sw) := (((p7_7.keep Kq22 (ninS (Ne.symm P6) nin0)).other W27 (Or.inr (slot_ne (Or.inr (kw53 hw)) (Or.inl (kw69 hw)) (by decide) (t := (.array .long)) (t' := .long) (by decide) (by decide)))).other W30 (Or.inr (slot_ne (Or.inr (kw53 hw)) (Or.inl (kw32 hw)) (by decide) (t := (.array .long)) (t' := .long) (by decide) (by decide))))
  have f38 : Fld Z h30 a1 "com/example/okno/okno/AdmissionLog" "total" "J" (.long ((0 : Int64) + q2)) := (Fw27.other W30 (Or.inr (slot_ne (Or.inl (kw69 hw)) (Or.inl (kw32 hw)) (by decide) (t := .long) (t' := .long) (by decide) (by decide))))
  have f39 : Fld Z h30 a1 "com/example/okno/okno/AdmissionLog" "newestSubWindow" "J" (.long (own_fd q1 g)) := (((p7_9.keep Kq22 (ninS (Ne.symm P6) nin0)).other W27 (Or.inr (slot_ne (Or.inl (kw93 hw)) (Or.inl (kw69 hw)) (by decide) (t := .long) (t' := .long) (by decide) (by decide)))).other W30 (Or.inr (slot_ne (Or.inl (kw93 hw)) (Or.inl (kw32 hw)) (by decide) (t := .long) (t' := .long) (by decide) (by decide))))
  have f40 : Fld Z h30 a1 "com/example/okno/okno/AdmissionLog" "newestSubWindowEnd" "J" (.long (own_end (own_fd q1 g) q1 g)) := (((p7_10.keep Kq22 (ninS (Ne.symm P6) nin0)).other W27 (Or.inr (slot_ne (Or.inl (kw95 hw)) (Or.inl (kw69 hw)) (by decide) (t := .long) (t' := .long) (by decide) (by decide)))).other W30 (Or.inr (slot_ne (Or.inl (kw95 hw)) (Or.inl (kw32 hw)) (by decide) (t := .long) (t' := .long) (by decide) (by decide))))
  have f41 : Fld Z h30 a1 "com/example/okno/okno/AdmissionLog" "olderTotal" "J" (.long u_olderTotal) := (((p7_11.keep Kq22 (ninS (Ne.symm P6) nin0)).other W27 (Or.inr (slot_ne (Or.inl (kw101 hw)) (Or.inl (kw69 hw)) (by decide) (t := .long) (t' := .long) (by decide) (by decide)))).other W30 (Or.inr (slot_ne (Or.inl (kw101 hw)) (Or.inl (kw32 hw)) (by decide) (t := .long) (t' := .long) (by decide) (by decide))))
  have f42 : Fld Z h30 a1 "com/example/okno/okno/AdmissionLog" "size" "I" (.int u_size) := (((p7_12.keep Kq22 (ninS (Ne.symm P6) nin0)).other W27 (Or.inr (slot_ne (Or.inl (kw107 hw)) (Or.inl (kw69 hw)) (by decide) (t := .int) (t' := .long) (by decide) (by decide)))).other W30 (Or.inr (slot_ne (Or.inl (kw107 hw)) (Or.inl (kw32 hw)) (by decide) (t := .int) (t' := .long) (by decide) (by decide))))
  have f43 : Fld Z h30 a1 "com/example/okno/okno/AdmissionLog" "head" "I" (.int u_head) := (((p7_13.keep Kq22 (ninS (Ne.symm P6) nin0)).other W27 (Or.inr (slot_ne (Or.inl (kw116 hw)) (Or.inl (kw69 hw)) (by decide) (t := .int) (t' := .long) (by decide) (by decide)))).other W30 (Or.inr (slot_ne (Or.inl (kw116 hw)) (Or.inl (kw32 hw)) (by decide) (t := .int) (t' := .long) (by decide) (by decide))))
  have f44 : Arv Z h30 sw k3 .long (4 : Int32) [(.long r0), (.long (1 : Int64)), (.long r1), (.long (1 : Int64))] (.long (0 : Int64)) := ((p22_0.other W27 P6).other W30 P6)
  obtain ⟨fs, hr, hrun, hended, hW, hsame⟩ := X30.leave (v := none) (fun _ => rfl)
  refine ⟨_, _, pre0 _ ?_, hrun, hended, _, _, rfl, ?_, ⟨_, rfl⟩, hW, hsame.mono (by decide) (by decide)⟩
  · skip
    refine XS.aloadN X0.here hx rfl (hb hby d12_0) rfl rfl ?_
    refine st1 _ ?_
    refine XS.lloadN X1.here hx rfl (hb hby d12_4) rfl ?_
    refine st2 _ ?_
    refine XS.lstore X2.here hx rfl (hb hby d12_8) rfl (l' := #[.val (.ref a1), .val (.long q1), .second, .val (.long q2), .second, .val (.long ((0 : Int64) + q2)), .second, .unset, .unset, .unset, .unset]) rfl ?_
    refine XS.aloadN X2.here hx rfl (hb hby d12_10) rfl rfl ?_
    refine XS.lloadN X2.here hx rfl (hb hby d12_11) rfl ?_
    refine st3.trans ?_
    refine XS.lstore X3.here hx rfl (hb hby d12_15) rfl (l' := #[.val (.ref a1), .val (.long q1), .second, .val (.long q2), .second, .val (.long ((0 : Int64) + q2)), .second, .val (.long (own_fd q1 g)), .second, .unset, .unset]) rfl ?_
    refine XS.aloadN X3.here hx rfl (hb hby d12_17) rfl rfl ?_
    refine st4.trans ?_
    refine XS.ifNo X4.here hx rfl (hb hby d12_21) rfl ((if0 _ _).trans (feq (by decide : ¬ ((1 : Int32) = (0 : Int32)))).1) ?_
    refine XS.aloadN X4.here hx rfl (hb hby d12_24) rfl rfl ?_
    refine XS.lload X4.here hx rfl (hb hby d12_25) rfl ?_
    refine st6 _ ?_
    refine XS.aloadN X6.here hx rfl (hb hby d12_30) rfl rfl ?_
    refine XS.lload X6.here hx rfl (hb hby d12_31) rfl ?_
    refine XS.lloadN X6.here hx rfl (hb hby d12_33) rfl ?_
    refine st7.trans ?_
    refine XS.aloadN X7.here hx rfl (hb hby d12_37) rfl rfl ?_
    refine XS.lconst X7.here hx rfl (hb hby d12_38) ?_
    refine st22.trans ?_
    refine XS.goto X22.here hx rfl (pc0 := 42) (pc' := 89) rfl (hb hby d12_42) (by decide) (by decide) ?_
    refine XS.aloadN X22.here hx rfl (hb hby d12_89) rfl rfl ?_
    refine XS.lload X22.here hx rfl (hb hby d12_90) rfl ?_
    show Steps p.tables e below (T22.setTop (mkF m 92 #[.val (.ref a1), .val (.long q1), .second, .val (.long q2), .second, .val (.long ((0 : Int64) + q2)), .second, .val (.long (own_fd q1 g)), .second, .unset, .unset] [(.long ((0 : Int64) + q2)), (.ref a1)])) _
    refine st27 _ ?_
    refine XS.aloadN X27.here hx rfl (hb hby d12_95) rfl rfl ?_
    refine XS.lloadN X27.here hx rfl (hb hby d12_96) rfl ?_
    refine st30 _ ?_
    show Steps p.tables e below (T30.setTop (mkF m 100 #[.val (.ref a1), .val (.long q1), .second, .val (.long q2), .second, .val (.long ((0 : Int64) + q2)), .second, .val (.long (own_fd q1 g)), .second, .unset, .unset] [])) _
    exact X30.returnOut hx Bd.returns (hb hby d12_100) hr
  · show Q_rmAppA_3 Z a1 q1 q2 g lt sw k3 r0 r1 u_newest u_subWindows u_amounts u_oldestSubWindow u_newestSubWindow u_newestSubWindowEnd u_olderTotal u_size u_head h0 n0 _ T30.heap _
    rw [e30]
    exact ⟨rfl, N30, K30, Fw30, f31, f32, f33, f34, f35, f36, f37, f38, f39, f40, f41, f42, f43, f44⟩
theorem ef_rmEnt_6 (m : MethodId) (x0 : Addr) : entryFrame m #[(.ref x0)] 1 = mkF m 0 #[.val (.ref x0)] [] := by first | (simp [entryFrame, mkF, argsToLocals, Value.category]; done) | rfl
def Q_rmEnt_6 (Z : State) (a1 : Addr) (tt : Int64) (h0 : Heap) (n0 : Nat) (v : Option Value) (h : Heap) (L : List Loc) : Prop := v = some (.int (1 : Int32)) ∧ Fr n0 L ∧ h = h0
set_option maxRecDepth 65536 in
set_option maxHeartbeats 40000000 in
theorem rmEnt_6 (l : Launch) (Z : State) (a0 : Array Value) (hw : ∀ d ∈ tables_1, d.before a0 Z = true) (ws : List Jvm.Cond) (a1 : Addr) (tt : Int64) (h0 : Heap) (n0 : Nat) (Z0 : n0 ≤ h0.size) (P0 : Exa Z h0 a1 "com/example/okno/okno/AdmissionLog") (P1 : Fld Z h0 a1 "com/example/okno/okno/AdmissionLog" "total" "J" (.long tt)) (htt : tt ≠ (0 : Int64)) (P3 : Fld Z h0 a1 "com/example/okno/okno/AdmissionLog" "size" "I" (.int (0 : Int32))) :
    MetFree l (⟨"com/example/okno/okno/AdmissionLog", "entryCount", "()I"⟩ : MethodName) (head1 (Jvm.Cond.code (⟨"com/example/okno/okno/AdmissionLog", "entryCount", "()I"⟩ : MethodName) prog_2_method_20_code 1 (some .int) :: ws) ({ frames := 1, cells := 0, slots := 0, locals := 12 } : Room)) (fun a U => a = #[(.ref a1)] ∧ Z.Warmed39 U.vm ∧ U.heap = h0) (fun _ _ _ _ _ => True) (fun _ U o U' => ∃ v L, o = .returned v ∧ Q_rmEnt_6 Z a1 tt h0 n0 v U'.heap L ∧ FrameEnd U o U' L ({ frames := 1, cells := 0, slots := 0, locals := 12 } : Room).cells ({ frames := 1, cells := 0, slots := 0, locals := 12 } : Room).slots) := by
  refine MetFree.of_bodySF (plainFor_of_name pn_2) hisR ?_
  intro p e s m args below meth c s₁ Bd hml0 hP hK
  obtain ⟨rfl, hZ, hh⟩ := hP
  have hx := Bd.exec
  have hby := Bd.bytes
  have hml : c.maxLocals = 1 := hml0
  have hown : s.vm.findClass "com/example/okno/okno/AdmissionLog" = some m.cls := findClass_of_methodNamed Bd.named
  have hnm := (name_of_methodNamed Bd.named Bd.method).1
  have X0 : Stand p l e ({ frames := 1, cells := 0, slots := 0, locals := 12 } : Room) s m #[(.ref a1)] below meth c s₁ [] 0 0 := Stand.of_body Bd
  have e0 : s₁.heap = h0 := by rw [← hh, Bd.state]; rfl
  have N0 := Fr.nil n0
  have KR : Keep h0 h0 [] := Keep.refl h0 _
  have pre0 : ∀ t, Steps p.tables e below (s₁.setTop (mkF m 0 #[.val (.ref a1)] [])) t → Steps p.tables e below (s₁.setTop (entryFrame m #[(.ref a1)] 1)) t := fun t k => castTop (ef_rmEnt_6 m (a1)) k
  obtain ⟨cq1, kq1, q1a, q1b, q1c⟩ := isOf hZ e0 P0
  obtain ⟨_, _, ⟨T1, L1, k1, n1⟩, -, X1, ⟨Lc1, hQ1, l1, y1, z1⟩, st1⟩ := X0.virtualBack hx (y := (⟨"com/example/okno/okno/AdmissionLog", "isEmpty", "()Z"⟩ : MethodName)) (z := (⟨"com/example/okno/okno/AdmissionLog", "isEmpty", "()Z"⟩ : MethodName)) hown (mvT hZ (kw63 hw)) (mvT hZ (kw64 hw)) (notFace_of_selects (args := #[]) (mvT hZ (kw66 hw))) (mvT hZ (kw66 hw)) (mvT hZ (kw65 hw)) (by decide) (backOf (W := 0) (rmEmp1 l Z a0 hw [] a1 tt h0 n0 Z0 P1 htt) hZ (kw67 hw) (kw18 hw) (by decide) (by decide)) q1a q1c (g := (mkF m 1 #[.val (.ref a1)] [(.ref a1)])) rfl (by rw [hml]; rfl) (Steps.refl _) (argsL := []) (rest := []) (lenOf pd_4 rfl) rfl (by show 2 * 0 + _ ≤ _; exact Nat.le_of_eq rfl) (hb hby d9_1) (fun _ _ => ⟨rfl, e0, (by decide : 0 + 0 ≤ _), (by decide : 0 + 0 ≤ _)⟩)
  dsimp only [Pt.U, Pt.locs, Pt.cells, Pt.slots] at X1 l1 y1 z1 st1 hQ1
  subst l1 y1 z1
  obtain ⟨rfl, N1q, e1⟩ := hQ1
  have N1 := Fr.app N0 N1q
  obtain ⟨T2, X2, e2, st2⟩ := getF X1 hx hZ hown (host := "") (Or.inl (kw106 hw)) Via.refl e1 P3 (g := (mkF m 12 #[.val (.ref a1)] [(.ref a1)])) rfl rfl (hb hby d9_12)
  obtain ⟨fs, hr, hrun, hended, hW, hsame⟩ := X2.leave (v := some (.int (1 : Int32))) (fun h => by rw [Bd.returns] at h; cases h)
  refine ⟨_, _, pre0 _ ?_, hrun, hended, _, _, rfl, ?_, ⟨_, rfl⟩, hW, hsame.mono (by decide) (by decide)⟩
  · skip
    refine XS.aloadN X0.here hx rfl (hb hby d9_0) rfl rfl ?_
    refine st1.trans ?_
    refine XS.ifYes X1.here hx rfl (pc0 := 4) (pc' := 11) rfl (hb hby d9_4) rfl ((if0 _ _).trans (teq rfl).1) (by decide) (by decide) ?_
    refine XS.aloadN X1.here hx rfl (hb hby d9_11) rfl rfl ?_
    refine st2 _ ?_
    refine XS.iconst X2.here hx rfl (hb hby d9_15) ?_
    refine XS.iadd X2.here hx rfl (hb hby d9_16) rfl ?_
    show Steps p.tables e below (T2.setTop (mkF m 17 #[.val (.ref a1)] [(.int (1 : Int32))])) _
    exact retI X2 hx Bd.returns (hb hby d9_17) hr
  · show Q_rmEnt_6 Z a1 tt h0 n0 _ T2.heap _
    rw [e2]
    exact ⟨rfl, N1, rfl⟩
theorem ef_rmAt_7 (m : MethodId) (x0 : Addr) (x1 : Int32) : entryFrame m #[(.ref x0), (.int x1)] 2 = mkF m 0 #[.val (.ref x0), .val (.int x1)] [] := by first | (simp [entryFrame, mkF, argsToLocals, Value.category]; done) | rfl
def Q_rmAt_7 (Z : State) (a1 : Addr) (ns : Int64) (h0 : Heap) (n0 : Nat) (v : Option Value) (h : Heap) (L : List Loc) : Prop := v = some (.long ns) ∧ Fr n0 L ∧ h = h0
set_option maxRecDepth 65536 in
set_option maxHeartbeats 40000000 in
theorem rmAt_7 (l : Launch) (Z : State) (a0 : Array Value) (hw : ∀ d ∈ tables_1, d.before a0 Z = true) (ws : List Jvm.Cond) (a1 : Addr) (ns : Int64) (h0 : Heap) (n0 : Nat) (Z0 : n0 ≤ h0.size) (P0 : Fld Z h0 a1 "com/example/okno/okno/AdmissionLog" "size" "I" (.int (0 : Int32))) (P1 : Fld Z h0 a1 "com/example/okno/okno/AdmissionLog" "newestSubWindow" "J" (.long ns)) :
    MetFree l (⟨"com/example/okno/okno/AdmissionLog", "subWindowAt", "(I)J"⟩ : MethodName) (head1 (Jvm.Cond.code (⟨"com/example/okno/okno/AdmissionLog", "subWindowAt", "(I)J"⟩ : MethodName) prog_2_method_21_code 2 (some .long) :: ws) ({ frames := 0, cells := 0, slots := 0, locals := 0 } : Room)) (fun a U => a = #[(.ref a1), (.int (0 : Int32))] ∧ Z.Warmed39 U.vm ∧ U.heap = h0) (fun _ _ _ _ _ => True) (fun _ U o U' => ∃ v L, o = .returned v ∧ Q_rmAt_7 Z a1 ns h0 n0 v U'.heap L ∧ FrameEnd U o U' L ({ frames := 0, cells := 0, slots := 0, locals := 0 } : Room).cells ({ frames := 0, cells := 0, slots := 0, locals := 0 } : Room).slots) := by
  refine MetFree.of_bodySF (plainFor_of_name pn_2) hisR ?_
  intro p e s m args below meth c s₁ Bd hml0 hP hK
  obtain ⟨rfl, hZ, hh⟩ := hP
  have hx := Bd.exec
  have hby := Bd.bytes
  have hml : c.maxLocals = 2 := hml0
  have hown : s.vm.findClass "com/example/okno/okno/AdmissionLog" = some m.cls := findClass_of_methodNamed Bd.named
  have hnm := (name_of_methodNamed Bd.named Bd.method).1
  have X0 : Stand p l e ({ frames := 0, cells := 0, slots := 0, locals := 0 } : Room) s m #[(.ref a1), (.int (0 : Int32))] below meth c s₁ [] 0 0 := Stand.of_body Bd
  have e0 : s₁.heap = h0 := by rw [← hh, Bd.state]; rfl
  have N0 := Fr.nil n0
  have KR : Keep h0 h0 [] := Keep.refl h0 _
  have pre0 : ∀ t, Steps p.tables e below (s₁.setTop (mkF m 0 #[.val (.ref a1), .val (.int (0 : Int32))] [])) t → Steps p.tables e below (s₁.setTop (entryFrame m #[(.ref a1), (.int (0 : Int32))] 2)) t := fun t k => castTop (ef_rmAt_7 m (a1) ((0 : Int32))) k
  obtain ⟨T1, X1, e1, st1⟩ := getF X0 hx hZ hown (host := "") (Or.inl (kw106 hw)) Via.refl e0 P0 (g := (mkF m 2 #[.val (.ref a1), .val (.int (0 : Int32))] [(.ref a1), (.int (0 : Int32))])) rfl rfl (hb hby d21_2)
  obtain ⟨T2, X2, e2, st2⟩ := getF X1 hx hZ hown (host := "") (Or.inl (kw92 hw)) Via.refl e1 P1 (g := (mkF m 22 #[.val (.ref a1), .val (.int (0 : Int32))] [(.ref a1)])) rfl rfl (hb hby d21_22)
  obtain ⟨fs, hr, hrun, hended, hW, hsame⟩ := X2.leave (v := some (.long ns)) (fun h => by rw [Bd.returns] at h; cases h)
  refine ⟨_, _, pre0 _ ?_, hrun, hended, _, _, rfl, ?_, ⟨_, rfl⟩, hW, hsame.mono (by decide) (by decide)⟩
  · skip
    refine XS.iloadN X0.here hx rfl (hb hby d21_0) rfl ?_
    refine XS.aloadN X0.here hx rfl (hb hby d21_1) rfl rfl ?_
    refine st1 _ ?_
    refine XS.icmpYes X1.here hx rfl (pc0 := 5) (pc' := 21) rfl (hb hby d21_5) rfl (flt (by decide : ¬ ((0 : Int32) < (0 : Int32)))).2.1 (by decide) (by decide) ?_
    refine XS.aloadN X1.here hx rfl (hb hby d21_21) rfl rfl ?_
    refine st2 _ ?_
    show Steps p.tables e below (T2.setTop (mkF m 25 #[.val (.ref a1), .val (.int (0 : Int32))] [(.long ns)])) _
    jvm_step X2.here [X2.here.top, hx, (hb hby d21_25), X2.method', Bd.returns, narrow]
    first | (intro acts; rw [hr _ acts rfl rfl rfl]) | rw [hr _ _ rfl rfl rfl]
    exact Steps.refl _
  · show Q_rmAt_7 Z a1 ns h0 n0 _ T2.heap _
    rw [e2]
    exact ⟨rfl, N0, rfl⟩
theorem ef_rmAt_8 (m : MethodId) (x0 : Addr) (x1 : Int32) : entryFrame m #[(.ref x0), (.int x1)] 2 = mkF m 0 #[.val (.ref x0), .val (.int x1)] [] := by first | (simp [entryFrame, mkF, argsToLocals, Value.category]; done) | rfl
def Q_rmAt_8 (Z : State) (a1 : Addr) (h0 : Heap) (n0 : Nat) (v : Option Value) (h : Heap) (L : List Loc) : Prop := v = some (.long (0 : Int64)) ∧ Fr n0 L ∧ h = h0
set_option maxRecDepth 65536 in
set_option maxHeartbeats 40000000 in
theorem rmAt_8 (l : Launch) (Z : State) (a0 : Array Value) (hw : ∀ d ∈ tables_1, d.before a0 Z = true) (ws : List Jvm.Cond) (a1 : Addr) (h0 : Heap) (n0 : Nat) (Z0 : n0 ≤ h0.size) (P0 : Fld Z h0 a1 "com/example/okno/okno/AdmissionLog" "size" "I" (.int (0 : Int32))) :
    MetFree l (⟨"com/example/okno/okno/AdmissionLog", "ringAmountAt", "(I)J"⟩ : MethodName) (head1 (Jvm.Cond.code (⟨"com/example/okno/okno/AdmissionLog", "ringAmountAt", "(I)J"⟩ : MethodName) prog_2_method_22_code 2 (some .long) :: ws) ({ frames := 0, cells := 0, slots := 0, locals := 0 } : Room)) (fun a U => a = #[(.ref a1), (.int (0 : Int32))] ∧ Z.Warmed39 U.vm ∧ U.heap = h0) (fun _ _ _ _ _ => True) (fun _ U o U' => ∃ v L, o = .returned v ∧ Q_rmAt_8 Z a1 h0 n0 v U'.heap L ∧ FrameEnd U o U' L ({ frames := 0, cells := 0, slots := 0, locals := 0 } : Room).cells ({ frames := 0, cells := 0, slots := 0, locals := 0 } : Room).slots) := by
  refine MetFree.of_bodySF (plainFor_of_name pn_2) hisR ?_
  intro p e s m args below meth c s₁ Bd hml0 hP hK
  obtain ⟨rfl, hZ, hh⟩ := hP
  have hx := Bd.exec
  have hby := Bd.bytes
  have hml : c.maxLocals = 2 := hml0
  have hown : s.vm.findClass "com/example/okno/okno/AdmissionLog" = some m.cls := findClass_of_methodNamed Bd.named
  have hnm := (name_of_methodNamed Bd.named Bd.method).1
  have X0 : Stand p l e ({ frames := 0, cells := 0, slots := 0, locals := 0 } : Room) s m #[(.ref a1), (.int (0 : Int32))] below meth c s₁ [] 0 0 := Stand.of_body Bd
  have e0 : s₁.heap = h0 := by rw [← hh, Bd.state]; rfl
  have N0 := Fr.nil n0
  have KR : Keep h0 h0 [] := Keep.refl h0 _
  have pre0 : ∀ t, Steps p.tables e below (s₁.setTop (mkF m 0 #[.val (.ref a1), .val (.int (0 : Int32))] [])) t → Steps p.tables e below (s₁.setTop (entryFrame m #[(.ref a1), (.int (0 : Int32))] 2)) t := fun t k => castTop (ef_rmAt_8 m (a1) ((0 : Int32))) k
  obtain ⟨T1, X1, e1, st1⟩ := getF X0 hx hZ hown (host := "") (Or.inl (kw106 hw)) Via.refl e0 P0 (g := (mkF m 2 #[.val (.ref a1), .val (.int (0 : Int32))] [(.ref a1), (.int (0 : Int32))])) rfl rfl (hb hby d22_2)
  obtain ⟨fs, hr, hrun, hended, hW, hsame⟩ := X1.leave (v := some (.long (0 : Int64))) (fun h => by rw [Bd.returns] at h; cases h)
  refine ⟨_, _, pre0 _ ?_, hrun, hended, _, _, rfl, ?_, ⟨_, rfl⟩, hW, hsame.mono (by decide) (by decide)⟩
  · skip
    refine XS.iloadN X0.here hx rfl (hb hby d22_0) rfl ?_
    refine XS.aloadN X0.here hx rfl (hb hby d22_1) rfl rfl ?_
    refine st1 _ ?_
    refine XS.icmpYes X1.here hx rfl (pc0 := 5) (pc' := 21) rfl (hb hby d22_5) rfl (flt (by decide : ¬ ((0 : Int32) < (0 : Int32)))).2.1 (by decide) (by decide) ?_
    refine XS.lconst X1.here hx rfl (hb hby d22_21) ?_
    show Steps p.tables e below (T1.setTop (mkF m 22 #[.val (.ref a1), .val (.int (0 : Int32))] [(.long (0 : Int64))])) _
    jvm_step X1.here [X1.here.top, hx, (hb hby d22_22), X1.method', Bd.returns, narrow]
    first | (intro acts; rw [hr _ acts rfl rfl rfl]) | rw [hr _ _ rfl rfl rfl]
    exact Steps.refl _
  · show Q_rmAt_8 Z a1 h0 n0 _ T1.heap _
    rw [e1]
    exact ⟨rfl, N0, rfl⟩
theorem ef_rmFit_5 (m : MethodId) (x0 : Addr) (x1 : Int32) (x2 : Int64) : entryFrame m #[(.ref x0), (.int x1), (.long x2)] 8 = mkF m 0 #[.val (.ref x0), .val (.int x1), .val (.long x2), .second, .unset, .unset, .unset, .unset] [] := by first | (simp [entryFrame, mkF, argsToLocals, Value.category]; done) | rfl
def Q_rmFit_5 (Z : State) (a1 : Addr) (pw : Int32) (q : Int64) (sw : Addr) (k3 : ClassId) (vs : List Value) (r : Int64) (ns : Int64) (x0 : Int64) (x1 : Int64) (y0 : Int64) (y1 : Int64) (tt : Int64) (h0 : Heap) (n0 : Nat) (v : Option Value) (h : Heap) (L : List Loc) : Prop := v = none ∧ Fr n0 L ∧ Keep h0 h [sw] ∧ Arv Z h sw k3 .long (4 : Int32) ((vs.set (((2 : Int32) * pw)).toNatClampNeg (.long (own_fr0 r q ns x0 x1 y0 y1))).set ((((2 : Int32) * pw) + (1 : Int32))).toNatClampNeg (.long (own_fc0 r q ns x0 x1 y0 y1))) (.long (0 : Int64))
set_option maxRecDepth 65536 in
set_option maxHeartbeats 40000000 in
theorem rmFit_5 (l : Launch) (Z : State) (a0 : Array Value) (hw : ∀ d ∈ tables_1, d.before a0 Z = true) (ws : List Jvm.Cond) (a1 : Addr) (pw : Int32) (q : Int64) (sw : Addr) (k3 : ClassId) (vs : List Value) (r : Int64) (ns : Int64) (x0 : Int64) (x1 : Int64) (y0 : Int64) (y1 : Int64) (tt : Int64) (h0 : Heap) (n0 : Nat) (Z0 : n0 ≤ h0.size) (P0 : Exa Z h0 a1 "com/example/okno/okno/AdmissionLog") (P1 : n0 ≤ sw) (P2 : sw ≠ a1) (hl : vs.length = 4) (P4 : Arv Z h0 sw k3 .long (4 : Int32) vs (.long (0 : Int64))) (hp : pw = (0 : Int32) ∨ pw = (1 : Int32)) (hr : vs.getD (((2 : Int32) * pw)).toNatClampNeg (.long (0 : Int64)) = .long r) (hc : vs.getD ((((2 : Int32) * pw) + (1 : Int32))).toNatClampNeg (.long (0 : Int64)) = .long (1 : Int64)) (P8 : Fld Z h0 a1 "com/example/okno/okno/AdmissionLog" "total" "J" (.long tt)) (htt : tt ≠ (0 : Int64)) (P10 : Fld Z h0 a1 "com/example/okno/okno/AdmissionLog" "shorterWindows" "[J" (.ref sw)) (P11 : Fld Z h0 a1 "com/example/okno/okno/AdmissionLog" "size" "I" (.int (0 : Int32))) (P12 : Fld Z h0 a1 "com/example/okno/okno/AdmissionLog" "newestSubWindow" "J" (.long ns)) :
    MetFree l (⟨"com/example/okno/okno/AdmissionLog", "fitShorterWindow", "(IJ)V"⟩ : MethodName) (head1 (Jvm.Cond.code (⟨"com/example/okno/okno/AdmissionLog", "fitShorterWindow", "(IJ)V"⟩ : MethodName) prog_2_method_18_code 8 none :: ws) ({ frames := 2, cells := 0, slots := 0, locals := 24 } : Room)) (fun a U => a = #[(.ref a1), (.int pw), (.long q)] ∧ Z.Warmed39 U.vm ∧ U.heap = h0) (fun _ _ _ _ _ => True) (fun _ U o U' => ∃ v L, o = .returned v ∧ Q_rmFit_5 Z a1 pw q sw k3 vs r ns x0 x1 y0 y1 tt h0 n0 v U'.heap L ∧ FrameEnd U o U' L ({ frames := 2, cells := 0, slots := 0, locals := 24 } : Room).cells ({ frames := 2, cells := 0, slots := 0, locals := 24 } : Room).slots) := by
  refine MetFree.of_bodySF (plainFor_of_name pn_2) hisR ?_
  intro p e s m args below meth c s₁ Bd hml0 hP hK
  obtain ⟨rfl, hZ, hh⟩ := hP
  have hx := Bd.exec
  have hby := Bd.bytes
  have hml : c.maxLocals = 8 := hml0
  have hown : s.vm.findClass "com/example/okno/okno/AdmissionLog" = some m.cls := findClass_of_methodNamed Bd.named
  have hnm := (name_of_methodNamed Bd.named Bd.method).1
  have X0 : Stand p l e ({ frames := 2, cells := 0, slots := 0, locals := 24 } : Room) s m #[(.ref a1), (.int pw), (.long q)] below meth c s₁ [] 0 0 := Stand.of_body Bd
  have e0 : s₁.heap = h0 := by rw [← hh, Bd.state]; rfl
  have N0 := Fr.nil n0
  have KR : Keep h0 h0 [sw] := Keep.refl h0 _
  have pre0 : ∀ t, Steps p.tables e below (s₁.setTop (mkF m 0 #[.val (.ref a1), .val (.int pw), .val (.long q), .second, .unset, .unset, .unset, .unset] [])) t → Steps p.tables e below (s₁.setTop (entryFrame m #[(.ref a1), (.int pw), (.long q)] 8)) t := fun t k => castTop (ef_rmFit_5 m (a1) (pw) (q)) k
  obtain ⟨cq1, q1, q1'⟩ := (P0).cell
  obtain ⟨_, _, ⟨T1, L1, k1, n1⟩, -, X1, ⟨Lc1, hQ1, l1, y1, z1⟩, st1⟩ := X0.privateBack hx (y := (⟨"com/example/okno/okno/AdmissionLog", "entryCount", "()I"⟩ : MethodName)) hown (mvT hZ (kw59 hw)) (mvT hZ (kw60 hw)) (mvT hZ (own_selP rfl (kw17 hw) (kw60 hw) (kw61 hw) (by decide))) (Cond.privateMethod_at (mvP hZ (kw61 hw) (args := #[]))) (mvT hZ (kw62 hw)) (by decide) (backOf (W := 0) (rmEnt_6 l Z a0 hw [] a1 tt h0 n0 Z0 P0 P8 htt P11) hZ (kw62 hw) (kw18 hw) (by decide) (by decide)) (g := (mkF m 1 #[.val (.ref a1), .val (.int pw), .val (.long q), .second, .unset, .unset, .unset, .unset] [(.ref a1)])) rfl (by rw [hml]; rfl) (Steps.refl _) (a := a1) (by rw [e0]; exact q1) q1' (argsL := []) (rest := []) (lenOf pd_5 rfl) rfl (by show 2 * 0 + _ ≤ _; exact Nat.le_of_eq rfl) (hb hby d8_1) (fun _ _ => ⟨rfl, e0, (by decide : 0 + 0 ≤ _), (by decide : 0 + 0 ≤ _)⟩)
  dsimp only [Pt.U, Pt.locs, Pt.cells, Pt.slots] at X1 l1 y1 z1 st1 hQ1
  subst l1 y1 z1
  obtain ⟨rfl, N1q, e1⟩ := hQ1
  have N1 := Fr.app N0 N1q
  obtain ⟨T2, X2, e2, st2⟩ := getF X1 hx hZ hown (host := "") (Or.inl (kw52 hw)) Via.refl e1 P10 (g := (mkF m 7 #[.val (.ref a1), .val (.int pw), .val (.long q), .second, .val (.int (1 : Int32)), .unset, .unset, .unset] [(.ref a1)])) rfl rfl (hb hby d8_7)
  obtain ⟨cl3, Ar3, q3, S3, N3', H3, G3⟩ := id P4
  have hin3 : ¬ (((2 : Int32) * pw) < 0 ∨ cl3.slots.size ≤ (((2 : Int32) * pw)).toNatClampNeg) := inb_of S3 (own_ib hp)
  have hat3 : cl3.slots[(((2 : Int32) * pw)).toNatClampNeg]? = some (.long r) := H3.at hin3 hr
  obtain ⟨T4, X4, e4, st4⟩ := getF X2 hx hZ hown (host := "") (Or.inl (kw52 hw)) Via.refl e2 P10 (g := (mkF m 17 #[.val (.ref a1), .val (.int pw), .val (.long q), .second, .val (.int (1 : Int32)), .val (.long r), .second, .unset] [(.ref a1)])) rfl rfl (hb hby d8_17)
  obtain ⟨cl5, Ar5, q5, S5, N5', H5, G5⟩ := id P4
  have hin5 : ¬ ((((2 : Int32) * pw) + (1 : Int32)) < 0 ∨ cl5.slots.size ≤ ((((2 : Int32) * pw) + (1 : Int32))).toNatClampNeg) := inb_of S5 (own_ib1 hp)
  have hat5 : cl5.slots[((((2 : Int32) * pw) + (1 : Int32))).toNatClampNeg]? = some (.long (1 : Int64)) := H5.at hin5 hc
  obtain ⟨cq6, q6, q6'⟩ := (P0).cell
  obtain ⟨_, _, ⟨T6, L6, k6, n6⟩, -, X6, ⟨Lc6, hQ6, l6, y6, z6⟩, st6⟩ := X4.privateBack hx (y := (⟨"com/example/okno/okno/AdmissionLog", "subWindowAt", "(I)J"⟩ : MethodName)) hown (mvT hZ (kw121 hw)) (mvT hZ (kw122 hw)) (mvT hZ (own_selP rfl (kw17 hw) (kw122 hw) (kw123 hw) (by decide))) (Cond.privateMethod_at (mvP hZ (kw123 hw) (args := #[]))) (mvT hZ (kw124 hw)) (by decide) (backOf (W := 0) (rmAt_7 l Z a0 hw [] a1 ns h0 n0 Z0 P11 P12) hZ (kw124 hw) (kw18 hw) (by decide) (by decide)) (g := (mkF m 40 #[.val (.ref a1), .val (.int pw), .val (.long q), .second, .val (.int (1 : Int32)), .val (.long r), .second, .val (.int (1 : Int32))] [(.int (0 : Int32)), (.ref a1)])) rfl (by rw [hml]; rfl) (Steps.refl _) (a := a1) (by rw [e4]; exact q6) q6' (argsL := [(.int (0 : Int32))]) (rest := []) (lenOf pd_1 rfl) rfl (by show 2 * 0 + _ ≤ _; exact Nat.le_of_eq rfl) (hb hby d8_40) (fun _ _ => ⟨rfl, e4, (by decide : 0 + 0 ≤ _), (by decide : 0 + 0 ≤ _)⟩)
  dsimp only [Pt.U, Pt.locs, Pt.cells, Pt.slots] at X6 l6 y6 z6 st6 hQ6
  subst l6 y6 z6
  obtain ⟨rfl, N6q, e6⟩ := hQ6
  have N6 := Fr.app N1 N6q
  have pre7 : ∀ t, Steps p.tables e below (T6.setTop (mkF m 45 #[.val (.ref a1), .val (.int pw), .val (.long q), .second, .val (.int (1 : Int32)), .val (.long r), .second, .val (.int (1 : Int32))] [(.int (lcmpW ns q))])) t → Steps p.tables e below (s₁.setTop (entryFrame m #[(.ref a1), (.int pw), (.long q)] 8)) t := fun t k => pre0 t (by
    refine XS.aloadN X0.here hx rfl (hb hby d8_0) rfl rfl ?_
    refine st1.trans ?_
    refine XS.istore X1.here hx rfl (hb hby d8_4) rfl (l' := #[.val (.ref a1), .val (.int pw), .val (.long q), .second, .val (.int (1 : Int32)), .unset, .unset, .unset]) rfl ?_
    refine XS.aloadN X1.here hx rfl (hb hby d8_6) rfl rfl ?_
    refine st2 _ ?_
    refine XS.iconst X2.here hx rfl (hb hby d8_10) ?_
    refine XS.iloadN X2.here hx rfl (hb hby d8_11) rfl ?_
    refine XS.imul X2.here hx rfl (hb hby d8_12) rfl ?_
    refine X2.laload hx (j := ((2 : Int32) * pw)) (v := (.long r)) (by rw [e2]; exact Ar3.1) (State.isArrayOf_alike hZ.alike Ar3.2.1) Ar3.2.2 hin3 hat3 (g := (mkF m 13 #[.val (.ref a1), .val (.int pw), .val (.long q), .second, .val (.int (1 : Int32)), .unset, .unset, .unset] [(.int ((2 : Int32) * pw)), (.ref sw)])) rfl rfl (hb hby d8_13) _ ?_
    refine XS.lstore X2.here hx rfl (hb hby d8_14) rfl (l' := #[.val (.ref a1), .val (.int pw), .val (.long q), .second, .val (.int (1 : Int32)), .val (.long r), .second, .unset]) rfl ?_
    refine XS.aloadN X2.here hx rfl (hb hby d8_16) rfl rfl ?_
    refine st4 _ ?_
    refine XS.iconst X4.here hx rfl (hb hby d8_20) ?_
    refine XS.iloadN X4.here hx rfl (hb hby d8_21) rfl ?_
    refine XS.imul X4.here hx rfl (hb hby d8_22) rfl ?_
    refine XS.iconst X4.here hx rfl (hb hby d8_23) ?_
    refine XS.iadd X4.here hx rfl (hb hby d8_24) rfl ?_
    refine X4.laload hx (j := (((2 : Int32) * pw) + (1 : Int32))) (v := (.long (1 : Int64))) (by rw [e4]; exact Ar5.1) (State.isArrayOf_alike hZ.alike Ar5.2.1) Ar5.2.2 hin5 hat5 (g := (mkF m 25 #[.val (.ref a1), .val (.int pw), .val (.long q), .second, .val (.int (1 : Int32)), .val (.long r), .second, .unset] [(.int (((2 : Int32) * pw) + (1 : Int32))), (.ref sw)])) rfl rfl (hb hby d8_25) _ ?_
    refine XS.l2i X4.here hx rfl (hb hby d8_26) rfl ?_
    refine XS.istore X4.here hx rfl (hb hby d8_27) rfl (l' := #[.val (.ref a1), .val (.int pw), .val (.long q), .second, .val (.int (1 : Int32)), .val (.long r), .second, .val (.int (1 : Int32))]) rfl ?_
    refine XS.iload X4.here hx rfl (hb hby d8_29) rfl ?_
    refine XS.ifNo X4.here hx rfl (hb hby d8_31) rfl ((if0 _ _).trans (tlt (by decide : (0 : Int32) < (1 : Int32))).2.2.2) ?_
    refine XS.aloadN X4.here hx rfl (hb hby d8_34) rfl rfl ?_
    refine XS.iload X4.here hx rfl (hb hby d8_35) rfl ?_
    refine XS.iload X4.here hx rfl (hb hby d8_37) rfl ?_
    show Steps p.tables e below (T4.setTop (mkF m 39 #[.val (.ref a1), .val (.int pw), .val (.long q), .second, .val (.int (1 : Int32)), .val (.long r), .second, .val (.int (1 : Int32))] [(.int (1 : Int32)), (.int (1 : Int32)), (.ref a1)])) _
    refine XS.isub X4.here hx rfl (hb hby d8_39) rfl ?_
    refine st6.trans ?_
    refine XS.lloadN X6.here hx rfl (hb hby d8_43) rfl ?_
    refine XS.lcmp X6.here hx rfl (hb hby d8_44) rfl ?_
    exact k)
  by_cases hc8 : ns < q
  · skip
    obtain ⟨cq9, q9, q9'⟩ := (P0).cell
    obtain ⟨_, _, ⟨T9, L9, k9, n9⟩, -, X9, ⟨Lc9, hQ9, l9, y9, z9⟩, st9⟩ := X6.privateBack hx (y := (⟨"com/example/okno/okno/AdmissionLog", "ringAmountAt", "(I)J"⟩ : MethodName)) hown (mvT hZ (kw125 hw)) (mvT hZ (kw126 hw)) (mvT hZ (own_selP rfl (kw17 hw) (kw126 hw) (kw127 hw) (by decide))) (Cond.privateMethod_at (mvP hZ (kw127 hw) (args := #[]))) (mvT hZ (kw128 hw)) (by decide) (backOf (W := 2) (rmAt_8 l Z a0 hw [] a1 h0 n0 Z0 P11) hZ (kw128 hw) (kw18 hw) (by decide) (by decide)) (g := (mkF m 56 #[.val (.ref a1), .val (.int pw), .val (.long q), .second, .val (.int (1 : Int32)), .val (.long r), .second, .val (.int (1 : Int32))] [(.int (0 : Int32)), (.ref a1), (.long r)])) rfl (by rw [hml]; rfl) (Steps.refl _) (a := a1) (by rw [e6]; exact q9) q9' (argsL := [(.int (0 : Int32))]) (rest := [(.long r)]) (lenOf pd_1 rfl) rfl (by show 2 * 0 + _ ≤ _; exact Nat.le_of_eq rfl) (hb hby d8_56) (fun _ _ => ⟨rfl, e6, (by decide : 0 + 0 ≤ _), (by decide : 0 + 0 ≤ _)⟩)
    dsimp only [Pt.U, Pt.locs, Pt.cells, Pt.slots] at X9 l9 y9 z9 st9 hQ9
    subst l9 y9 z9
    obtain ⟨rfl, N9q, e9⟩ := hQ9
    have N9 := Fr.app N6 N9q
    obtain ⟨cq10, q10, q10'⟩ := (P0).cell
    obtain ⟨_, _, ⟨T10, L10, k10, n10⟩, -, X10, ⟨Lc10, hQ10, l10, y10, z10⟩, st10⟩ := X9.privateBack hx (y := (⟨"com/example/okno/okno/AdmissionLog", "subWindowAt", "(I)J"⟩ : MethodName)) hown (mvT hZ (kw121 hw)) (mvT hZ (kw122 hw)) (mvT hZ (own_selP rfl (kw17 hw) (kw122 hw) (kw123 hw) (by decide))) (Cond.privateMethod_at (mvP hZ (kw123 hw) (args := #[]))) (mvT hZ (kw124 hw)) (by decide) (backOf (W := 0) (rmAt_7 l Z a0 hw [] a1 ns h0 n0 Z0 P11 P12) hZ (kw124 hw) (kw18 hw) (by decide) (by decide)) (g := (mkF m 83 #[.val (.ref a1), .val (.int pw), .val (.long q), .second, .val (.int (1 : Int32)), .val (.long (r - (0 : Int64))), .second, .val (.int (0 : Int32))] [(.int (0 : Int32)), (.ref a1)])) rfl (by rw [hml]; rfl) (Steps.refl _) (a := a1) (by rw [e9]; exact q10) q10' (argsL := [(.int (0 : Int32))]) (rest := []) (lenOf pd_1 rfl) rfl (by show 2 * 0 + _ ≤ _; exact Nat.le_of_eq rfl) (hb hby d8_83) (fun _ _ => ⟨rfl, e9, (by decide : 0 + 0 ≤ _), (by decide : 0 + 0 ≤ _)⟩)
    dsimp only [Pt.U, Pt.locs, Pt.cells, Pt.slots] at X10 l10 y10 z10 st10 hQ10
    subst l10 y10 z10
    obtain ⟨rfl, N10q, e10⟩ := hQ10
    have N10 := Fr.app N9 N10q
    obtain ⟨T11, X11, e11, st11⟩ := getF X10 hx hZ hown (host := "") (Or.inl (kw52 hw)) Via.refl e10 P10 (g := (mkF m 112 #[.val (.ref a1), .val (.int pw), .val (.long q), .second, .val (.int (1 : Int32)), .val (.long (r - (0 : Int64))), .second, .val (.int (0 : Int32))] [(.ref a1)])) rfl rfl (hb hby d8_112)
    obtain ⟨cl12, Ar12, q12, S12, N12', H12, G12⟩ := id P4
    have hin12 : ¬ (((2 : Int32) * pw) < 0 ∨ cl12.slots.size ≤ (((2 : Int32) * pw)).toNatClampNeg) := inb_of S12 (own_ib hp)
    obtain ⟨T12, h12, X12, e12, W12, st12⟩ := stJ X11 hx hZ e11 Ar12 (j := ((2 : Int32) * pw)) hin12 (g := (mkF m 120 #[.val (.ref a1), .val (.int pw), .val (.long q), .second, .val (.int (1 : Int32)), .val (.long (r - (0 : Int64))), .second, .val (.int (0 : Int32))] [(.long (r - (0 : Int64))), (.int ((2 : Int32) * pw)), (.ref sw)])) rfl rfl (hb hby d8_120)
    have Z12 : n0 ≤ h12.size := Nat.le_trans Z0 (Keep.of_wr W12).1
    have K12 : Keep h0 h12 [sw] := KR.wr W12 (Or.inl (List.mem_of_getElem? (i := 0) rfl))
    have N12 := Fr.snoc X12 N10 P1
    have V12 : Arv Z h12 sw k3 .long (4 : Int32) (vs.set (((2 : Int32) * pw)).toNatClampNeg (.long (r - (0 : Int64)))) (.long (0 : Int64)) := Arv.set Ar12 q12 S12 N12' H12 G12 rfl W12 (((2 : Int32) * pw)).toNatClampNeg rfl (own_ix hp hl)
    have f13 : Fld Z h12 a1 "com/example/okno/okno/AdmissionLog" "shorterWindows" "[J" (.ref sw) := (P10.other W12 (Or.inl (Ne.symm P2)))
    obtain ⟨T14, X14, e14, st14⟩ := getF X12 hx hZ hown (host := "") (Or.inl (kw52 hw)) Via.refl e12 f13 (g := (mkF m 122 #[.val (.ref a1), .val (.int pw), .val (.long q), .second, .val (.int (1 : Int32)), .val (.long (r - (0 : Int64))), .second, .val (.int (0 : Int32))] [(.ref a1)])) rfl rfl (hb hby d8_122)
    obtain ⟨cl15, Ar15, q15, S15, N15', H15, G15⟩ := id V12
    have hin15 : ¬ ((((2 : Int32) * pw) + (1 : Int32)) < 0 ∨ cl15.slots.size ≤ ((((2 : Int32) * pw) + (1 : Int32))).toNatClampNeg) := inb_of S15 (own_ib1 hp)
    obtain ⟨T15, h15, X15, e15, W15, st15⟩ := stJ X14 hx hZ e14 Ar15 (j := (((2 : Int32) * pw) + (1 : Int32))) hin15 (g := (mkF m 133 #[.val (.ref a1), .val (.int pw), .val (.long q), .second, .val (.int (1 : Int32)), .val (.long (r - (0 : Int64))), .second, .val (.int (0 : Int32))] [(.long (0 : Int64)), (.int (((2 : Int32) * pw) + (1 : Int32))), (.ref sw)])) rfl rfl (hb hby d8_133)
    have Z15 : n0 ≤ h15.size := Nat.le_trans Z12 (Keep.of_wr W15).1
    have K15 : Keep h0 h15 [sw] := K12.wr W15 (Or.inl (List.mem_of_getElem? (i := 0) rfl))
    have N15 := Fr.snoc X15 N12 P1
    have V15 : Arv Z h15 sw k3 .long (4 : Int32) ((vs.set (((2 : Int32) * pw)).toNatClampNeg (.long (r - (0 : Int64)))).set ((((2 : Int32) * pw) + (1 : Int32))).toNatClampNeg (.long (0 : Int64))) (.long (0 : Int64)) := Arv.set Ar15 q15 S15 N15' H15 G15 rfl W15 ((((2 : Int32) * pw) + (1 : Int32))).toNatClampNeg rfl (own_ix1 hp (by simp [hl]))
    obtain ⟨fs, hr, hrun, hended, hW, hsame⟩ := X15.leave (v := none) (fun _ => rfl)
    refine ⟨_, _, pre7 _ ?_, hrun, hended, _, _, rfl, ?_, ⟨_, rfl⟩, hW, hsame.mono (by decide) (by decide)⟩
    · skip
      refine XS.ifNo X6.here hx rfl (hb hby d8_45) rfl ((if0 _ _).trans (tlt ((lw_lt _ _).mpr hc8)).2.1) ?_
      refine XS.lload X6.here hx rfl (hb hby d8_48) rfl ?_
      refine XS.aloadN X6.here hx rfl (hb hby d8_50) rfl rfl ?_
      refine XS.iload X6.here hx rfl (hb hby d8_51) rfl ?_
      refine XS.iload X6.here hx rfl (hb hby d8_53) rfl ?_
      refine XS.isub X6.here hx rfl (hb hby d8_55) rfl ?_
      refine st9.trans ?_
      refine XS.lsub X9.here hx rfl (hb hby d8_59) rfl ?_
      refine XS.lstore X9.here hx rfl (hb hby d8_60) rfl (l' := #[.val (.ref a1), .val (.int pw), .val (.long q), .second, .val (.int (1 : Int32)), .val (.long (r - (0 : Int64))), .second, .val (.int (1 : Int32))]) rfl ?_
      refine XS.iinc X9.here hx rfl (hb hby d8_62) rfl (l' := #[.val (.ref a1), .val (.int pw), .val (.long q), .second, .val (.int (1 : Int32)), .val (.long (r - (0 : Int64))), .second, .val (.int (0 : Int32))]) rfl ?_
      refine XS.goto X9.here hx rfl (pc0 := 65) (pc' := 29) rfl (hb hby d8_65) (by decide) (by decide) ?_
      refine XS.iload X9.here hx rfl (hb hby d8_29) rfl ?_
      refine XS.ifYes X9.here hx rfl (pc0 := 31) (pc' := 68) rfl (hb hby d8_31) rfl ((if0 _ _).trans (flt (by decide : ¬ ((0 : Int32) < (0 : Int32)))).2.2.2) (by decide) (by decide) ?_
      refine XS.iload X9.here hx rfl (hb hby d8_68) rfl ?_
      refine XS.iload X9.here hx rfl (hb hby d8_70) rfl ?_
      refine XS.icmpNo X9.here hx rfl (hb hby d8_72) rfl (tlt (by decide : (0 : Int32) < (1 : Int32))).2.1 ?_
      refine XS.aloadN X9.here hx rfl (hb hby d8_75) rfl rfl ?_
      refine XS.iload X9.here hx rfl (hb hby d8_76) rfl ?_
      refine XS.iload X9.here hx rfl (hb hby d8_78) rfl ?_
      refine XS.isub X9.here hx rfl (hb hby d8_80) rfl ?_
      refine XS.iconst X9.here hx rfl (hb hby d8_81) ?_
      refine XS.isub X9.here hx rfl (hb hby d8_82) rfl ?_
      refine st10.trans ?_
      refine XS.lloadN X10.here hx rfl (hb hby d8_86) rfl ?_
      refine XS.lcmp X10.here hx rfl (hb hby d8_87) rfl ?_
      show Steps p.tables e below (T10.setTop (mkF m 88 #[.val (.ref a1), .val (.int pw), .val (.long q), .second, .val (.int (1 : Int32)), .val (.long (r - (0 : Int64))), .second, .val (.int (0 : Int32))] [(.int (lcmpW ns q))])) _
      refine XS.ifYes X10.here hx rfl (pc0 := 88) (pc' := 111) rfl (hb hby d8_88) rfl ((if0 _ _).trans (tlt ((lw_lt _ _).mpr hc8)).1) (by decide) (by decide) ?_
      refine XS.aloadN X10.here hx rfl (hb hby d8_111) rfl rfl ?_
      refine st11 _ ?_
      refine XS.iconst X11.here hx rfl (hb hby d8_115) ?_
      refine XS.iloadN X11.here hx rfl (hb hby d8_116) rfl ?_
      refine XS.imul X11.here hx rfl (hb hby d8_117) rfl ?_
      refine XS.lload X11.here hx rfl (hb hby d8_118) rfl ?_
      refine st12 _ ?_
      refine XS.aloadN X12.here hx rfl (hb hby d8_121) rfl rfl ?_
      refine st14 _ ?_
      refine XS.iconst X14.here hx rfl (hb hby d8_125) ?_
      refine XS.iloadN X14.here hx rfl (hb hby d8_126) rfl ?_
      refine XS.imul X14.here hx rfl (hb hby d8_127) rfl ?_
      refine XS.iconst X14.here hx rfl (hb hby d8_128) ?_
      refine XS.iadd X14.here hx rfl (hb hby d8_129) rfl ?_
      refine XS.iload X14.here hx rfl (hb hby d8_130) rfl ?_
      refine XS.i2l X14.here hx rfl (hb hby d8_132) rfl ?_
      refine st15 _ ?_
      show Steps p.tables e below (T15.setTop (mkF m 134 #[.val (.ref a1), .val (.int pw), .val (.long q), .second, .val (.int (1 : Int32)), .val (.long (r - (0 : Int64))), .second, .val (.int (0 : Int32))] [])) _
      exact X15.returnOut hx Bd.returns (hb hby d8_134) hr
    · show Q_rmFit_5 Z a1 pw q sw k3 vs r ns x0 x1 y0 y1 tt h0 n0 _ T15.heap _
      rw [e15]
      exact ⟨rfl, N15, K15, (by simp only [own_fr0, own_fc0, if_pos hc8]; exact V15)⟩
  · skip
    obtain ⟨T17, X17, e17, st17⟩ := getF X6 hx hZ hown (host := "") (Or.inl (kw52 hw)) Via.refl e6 P10 (g := (mkF m 112 #[.val (.ref a1), .val (.int pw), .val (.long q), .second, .val (.int (1 : Int32)), .val (.long r), .second, .val (.int (1 : Int32))] [(.ref a1)])) rfl rfl (hb hby d8_112)
    obtain ⟨cl18, Ar18, q18, S18, N18', H18, G18⟩ := id P4
    have hin18 : ¬ (((2 : Int32) * pw) < 0 ∨ cl18.slots.size ≤ (((2 : Int32) * pw)).toNatClampNeg) := inb_of S18 (own_ib hp)
    obtain ⟨T18, h18, X18, e18, W18, st18⟩ := stJ X17 hx hZ e17 Ar18 (j := ((2 : Int32) * pw)) hin18 (g := (mkF m 120 #[.val (.ref a1), .val (.int pw), .val (.long q), .second, .val (.int (1 : Int32)), .val (.long r), .second, .val (.int (1 : Int32))] [(.long r), (.int ((2 : Int32) * pw)), (.ref sw)])) rfl rfl (hb hby d8_120)
    have Z18 : n0 ≤ h18.size := Nat.le_trans Z0 (Keep.of_wr W18).1
    have K18 : Keep h0 h18 [sw] := KR.wr W18 (Or.inl (List.mem_of_getElem? (i := 0) rfl))
    have N18 := Fr.snoc X18 N6 P1
    have V18 : Arv Z h18 sw k3 .long (4 : Int32) (vs.set (((2 : Int32) * pw)).toNatClampNeg (.long r)) (.long (0 : Int64)) := Arv.set Ar18 q18 S18 N18' H18 G18 rfl W18 (((2 : Int32) * pw)).toNatClampNeg rfl (own_ix hp hl)
    have f19 : Fld Z h18 a1 "com/example/okno/okno/AdmissionLog" "shorterWindows" "[J" (.ref sw) := (P10.other W18 (Or.inl (Ne.symm P2)))
    obtain ⟨T20, X20, e20, st20⟩ := getF X18 hx hZ hown (host := "") (Or.inl (kw52 hw)) Via.refl e18 f19 (g := (mkF m 122 #[.val (.ref a1), .val (.int pw), .val (.long q), .second, .val (.int (1 : Int32)), .val (.long r), .second, .val (.int (1 : Int32))] [(.ref a1)])) rfl rfl (hb hby d8_122)
    obtain ⟨cl21, Ar21, q21, S21, N21', H21, G21⟩ := id V18
    have hin21 : ¬ ((((2 : Int32) * pw) + (1 : Int32)) < 0 ∨ cl21.slots.size ≤ ((((2 : Int32) * pw) + (1 : Int32))).toNatClampNeg) := inb_of S21 (own_ib1 hp)
    obtain ⟨T21, h21, X21, e21, W21, st21⟩ := stJ X20 hx hZ e20 Ar21 (j := (((2 : Int32) * pw) + (1 : Int32))) hin21 (g := (mkF m 133 #[.val (.ref a1), .val (.int pw), .val (.long q), .second, .val (.int (1 : Int32)), .val (.long r), .second, .val (.int (1 : Int32))] [(.long (1 : Int64)), (.int (((2 : Int32) * pw) + (1 : Int32))), (.ref sw)])) rfl rfl (hb hby d8_133)
    have Z21 : n0 ≤ h21.size := Nat.le_trans Z18 (Keep.of_wr W21).1
    have K21 : Keep h0 h21 [sw] := K18.wr W21 (Or.inl (List.mem_of_getElem? (i := 0) rfl))
    have N21 := Fr.snoc X21 N18 P1
    have V21 : Arv Z h21 sw k3 .long (4 : Int32) ((vs.set (((2 : Int32) * pw)).toNatClampNeg (.long r)).set ((((2 : Int32) * pw) + (1 : Int32))).toNatClampNeg (.long (1 : Int64))) (.long (0 : Int64)) := Arv.set Ar21 q21 S21 N21' H21 G21 rfl W21 ((((2 : Int32) * pw) + (1 : Int32))).toNatClampNeg rfl (own_ix1 hp (by simp [hl]))
    obtain ⟨fs, hr, hrun, hended, hW, hsame⟩ := X21.leave (v := none) (fun _ => rfl)
    refine ⟨_, _, pre7 _ ?_, hrun, hended, _, _, rfl, ?_, ⟨_, rfl⟩, hW, hsame.mono (by decide) (by decide)⟩
    · skip
      refine XS.ifYes X6.here hx rfl (pc0 := 45) (pc' := 68) rfl (hb hby d8_45) rfl ((if0 _ _).trans (flt (fun q => hc8 ((lw_lt _ _).mp q))).2.1) (by decide) (by decide) ?_
      refine XS.iload X6.here hx rfl (hb hby d8_68) rfl ?_
      refine XS.iload X6.here hx rfl (hb hby d8_70) rfl ?_
      refine XS.icmpYes X6.here hx rfl (pc0 := 72) (pc' := 111) rfl (hb hby d8_72) rfl (flt (by decide : ¬ ((1 : Int32) < (1 : Int32)))).2.1 (by decide) (by decide) ?_
      refine XS.aloadN X6.here hx rfl (hb hby d8_111) rfl rfl ?_
      refine st17 _ ?_
      refine XS.iconst X17.here hx rfl (hb hby d8_115) ?_
      refine XS.iloadN X17.here hx rfl (hb hby d8_116) rfl ?_
      refine XS.imul X17.here hx rfl (hb hby d8_117) rfl ?_
      refine XS.lload X17.here hx rfl (hb hby d8_118) rfl ?_
      refine st18 _ ?_
      refine XS.aloadN X18.here hx rfl (hb hby d8_121) rfl rfl ?_
      refine st20 _ ?_
      refine XS.iconst X20.here hx rfl (hb hby d8_125) ?_
      refine XS.iloadN X20.here hx rfl (hb hby d8_126) rfl ?_
      refine XS.imul X20.here hx rfl (hb hby d8_127) rfl ?_
      refine XS.iconst X20.here hx rfl (hb hby d8_128) ?_
      refine XS.iadd X20.here hx rfl (hb hby d8_129) rfl ?_
      refine XS.iload X20.here hx rfl (hb hby d8_130) rfl ?_
      refine XS.i2l X20.here hx rfl (hb hby d8_132) rfl ?_
      refine st21 _ ?_
      show Steps p.tables e below (T21.setTop (mkF m 134 #[.val (.ref a1), .val (.int pw), .val (.long q), .second, .val (.int (1 : Int32)), .val (.long r), .second, .val (.int (1 : Int32))] [])) _
      exact X21.returnOut hx Bd.returns (hb hby d8_134) hr
    · show Q_rmFit_5 Z a1 pw q sw k3 vs r ns x0 x1 y0 y1 tt h0 n0 _ T21.heap _
      rw [e21]
      exact ⟨rfl, N21, K21, (by simp only [own_fr0, own_fc0, if_neg hc8]; exact V21)⟩
theorem ef_rmAppB_9 (m : MethodId) (x0 : Addr) (x1 : Int64) (x2 : Int64) : entryFrame m #[(.ref x0), (.long x1), (.long x2)] 11 = mkF m 0 #[.val (.ref x0), .val (.long x1), .second, .val (.long x2), .second, .unset, .unset, .unset, .unset, .unset, .unset] [] := by first | (simp [entryFrame, mkF, argsToLocals, Value.category]; done) | rfl
def Q_rmAppB_9 (Z : State) (a1 : Addr) (q1 : Int64) (q2 : Int64) (g : Int64) (lt : Int64) (tt : Int64) (ns : Int64) (u_newest : Int64) (u_subWindows : Addr) (u_amounts : Addr) (u_oldestSubWindow : Int64) (u_shorterWindows : Addr) (u_newestSubWindowEnd : Int64) (u_olderTotal : Int64) (u_size : Int32) (u_head : Int32) (h0 : Heap) (n0 : Nat) (v : Option Value) (h : Heap) (L : List Loc) : Prop := v = none ∧ Fr n0 L ∧ Keep h0 h [a1] ∧ Fld Z h a1 "com/example/okno/okno/AdmissionLog" "newest" "J" (.long q1) ∧ Fld Z h a1 "com/example/okno/okno/AdmissionLog" "subWindows" "[J" (.ref u_subWindows) ∧ Fld Z h a1 "com/example/okno/okno/AdmissionLog" "amounts" "[J" (.ref u_amounts) ∧ Fld Z h a1 "com/example/okno/okno/AdmissionLog" "oldestSubWindow" "J" (.long u_oldestSubWindow) ∧ Fld Z h a1 "com/example/okno/okno/AdmissionLog" "lastTime" "J" (.long q1) ∧ Fld Z h a1 "com/example/okno/okno/AdmissionLog" "subWindowMillis" "J" (.long g) ∧ Fld Z h a1 "com/example/okno/okno/AdmissionLog" "lastSubWindow" "J" (.long (own_fd q1 g)) ∧ Fld Z h a1 "com/example/okno/okno/AdmissionLog" "shorterWindows" "[J" (.ref u_shorterWindows) ∧ Fld Z h a1 "com/example/okno/okno/AdmissionLog" "total" "J" (.long (tt + q2)) ∧ Fld Z h a1 "com/example/okno/okno/AdmissionLog" "newestSubWindow" "J" (.long ns) ∧ Fld Z h a1 "com/example/okno/okno/AdmissionLog" "newestSubWindowEnd" "J" (.long u_newestSubWindowEnd) ∧ Fld Z h a1 "com/example/okno/okno/AdmissionLog" "olderTotal" "J" (.long u_olderTotal) ∧ Fld Z h a1 "com/example/okno/okno/AdmissionLog" "size" "I" (.int u_size) ∧ Fld Z h a1 "com/example/okno/okno/AdmissionLog" "head" "I" (.int u_head)
set_option maxRecDepth 65536 in
set_option maxHeartbeats 40000000 in
theorem rmAppB_9 (l : Launch) (Z : State) (a0 : Array Value) (hw : ∀ d ∈ tables_1, d.before a0 Z = true) (ws : List Jvm.Cond) (a1 : Addr) (q1 : Int64) (q2 : Int64) (g : Int64) (lt : Int64) (tt : Int64) (ns : Int64) (u_newest : Int64) (u_subWindows : Addr) (u_amounts : Addr) (u_oldestSubWindow : Int64) (u_shorterWindows : Addr) (u_newestSubWindowEnd : Int64) (u_olderTotal : Int64) (u_size : Int32) (u_head : Int32) (h0 : Heap) (n0 : Nat) (Z0 : n0 ≤ h0.size) (P0 : Exa Z h0 a1 "com/example/okno/okno/AdmissionLog") (P1 : n0 ≤ a1) (hgz : g ≠ (0 : Int64)) (hov : ¬ ((tt ^^^ (tt + q2)) &&& (q2 ^^^ (tt + q2))) < (0 : Int64)) (htt : tt ≠ (0 : Int64)) (heq : (own_fd q1 g) = ns) (P6 : Fld Z h0 a1 "com/example/okno/okno/AdmissionLog" "newest" "J" (.long u_newest)) (P7 : Fld Z h0 a1 "com/example/okno/okno/AdmissionLog" "subWindows" "[J" (.ref u_subWindows)) (P8 : Fld Z h0 a1 "com/example/okno/okno/AdmissionLog" "amounts" "[J" (.ref u_amounts)) (P9 : Fld Z h0 a1 "com/example/okno/okno/AdmissionLog" "oldestSubWindow" "J" (.long u_oldestSubWindow)) (P10 : Fld Z h0 a1 "com/example/okno/okno/AdmissionLog" "lastTime" "J" (.long lt)) (P11 : Fld Z h0 a1 "com/example/okno/okno/AdmissionLog" "subWindowMillis" "J" (.long g)) (P12 : Fld Z h0 a1 "com/example/okno/okno/AdmissionLog" "lastSubWindow" "J" (.long (own_fd lt g))) (P13 : Fld Z h0 a1 "com/example/okno/okno/AdmissionLog" "shorterWindows" "[J" (.ref u_shorterWindows)) (P14 : Fld Z h0 a1 "com/example/okno/okno/AdmissionLog" "total" "J" (.long tt)) (P15 : Fld Z h0 a1 "com/example/okno/okno/AdmissionLog" "newestSubWindow" "J" (.long ns)) (P16 : Fld Z h0 a1 "com/example/okno/okno/AdmissionLog" "newestSubWindowEnd" "J" (.long u_newestSubWindowEnd)) (P17 : Fld Z h0 a1 "com/example/okno/okno/AdmissionLog" "olderTotal" "J" (.long u_olderTotal)) (P18 : Fld Z h0 a1 "com/example/okno/okno/AdmissionLog" "size" "I" (.int u_size)) (P19 : Fld Z h0 a1 "com/example/okno/okno/AdmissionLog" "head" "I" (.int u_head)) :
    MetFree l (⟨"com/example/okno/okno/AdmissionLog", "append", "(JJ)V"⟩ : MethodName) (head1 (Jvm.Cond.code (⟨"com/example/okno/okno/AdmissionLog", "append", "(JJ)V"⟩ : MethodName) prog_2_method_12_code 11 none :: ws) ({ frames := 2, cells := 0, slots := 0, locals := 32 } : Room)) (fun a U => a = #[(.ref a1), (.long q1), (.long q2)] ∧ Z.Warmed39 U.vm ∧ U.heap = h0) (fun _ _ _ _ _ => True) (fun _ U o U' => ∃ v L, o = .returned v ∧ Q_rmAppB_9 Z a1 q1 q2 g lt tt ns u_newest u_subWindows u_amounts u_oldestSubWindow u_shorterWindows u_newestSubWindowEnd u_olderTotal u_size u_head h0 n0 v U'.heap L ∧ FrameEnd U o U' L ({ frames := 2, cells := 0, slots := 0, locals := 32 } : Room).cells ({ frames := 2, cells := 0, slots := 0, locals := 32 } : Room).slots) := by
  refine MetFree.of_bodySF (plainFor_of_name pn_2) hisR ?_
  intro p e s m args below meth c s₁ Bd hml0 hP hK
  obtain ⟨rfl, hZ, hh⟩ := hP
  have hx := Bd.exec
  have hby := Bd.bytes
  have hml : c.maxLocals = 11 := hml0
  have hown : s.vm.findClass "com/example/okno/okno/AdmissionLog" = some m.cls := findClass_of_methodNamed Bd.named
  have hnm := (name_of_methodNamed Bd.named Bd.method).1
  have X0 : Stand p l e ({ frames := 2, cells := 0, slots := 0, locals := 32 } : Room) s m #[(.ref a1), (.long q1), (.long q2)] below meth c s₁ [] 0 0 := Stand.of_body Bd
  have e0 : s₁.heap = h0 := by rw [← hh, Bd.state]; rfl
  have N0 := Fr.nil n0
  have KR : Keep h0 h0 [a1] := Keep.refl h0 _
  have pre0 : ∀ t, Steps p.tables e below (s₁.setTop (mkF m 0 #[.val (.ref a1), .val (.long q1), .second, .val (.long q2), .second, .unset, .unset, .unset, .unset, .unset, .unset] [])) t → Steps p.tables e below (s₁.setTop (entryFrame m #[(.ref a1), (.long q1), (.long q2)] 11)) t := fun t k => castTop (ef_rmAppB_9 m (a1) (q1) (q2)) k
  obtain ⟨T1, X1, e1, st1⟩ := getF X0 hx hZ hown (host := "") (Or.inl (kw68 hw)) Via.refl e0 P14 (g := (mkF m 1 #[.val (.ref a1), .val (.long q1), .second, .val (.long q2), .second, .unset, .unset, .unset, .unset, .unset, .unset] [(.ref a1)])) rfl rfl (hb hby d12_1)
  obtain ⟨_, _, ⟨T2, L2, k2, n2⟩, -, X2, ⟨Lc2, hQ2, l2, y2, z2⟩, st2⟩ := Jvm.LawKit.callS X1 hx (y := (⟨"java/lang/Math", "addExact", "(JJ)J"⟩ : MethodName)) hown (mvT hZ (kw80 hw)) (mvT hZ (kw81 hw)) (mvT hZ (kw6 hw)) (mvT hZ (kw82 hw)) (by decide) (backOf (W := 0) (rmAddX l Z a0 hw [] tt q2 h0 n0 Z0 hov) hZ (kw82 hw) (kw6 hw) (by decide) (by decide)) (g := (mkF m 5 #[.val (.ref a1), .val (.long q1), .second, .val (.long q2), .second, .unset, .unset, .unset, .unset, .unset, .unset] [(.long q2), (.long tt)])) rfl (by rw [hml]; rfl) (argsL := [(.long tt), (.long q2)]) (rest := []) (lenOf pd_0 rfl) rfl (by show 2 * 0 + _ ≤ _; exact Nat.le_of_eq rfl) (hb hby d12_5) (fun _ _ => ⟨rfl, e1, (by decide : 0 + 0 ≤ _), (by decide : 0 + 0 ≤ _)⟩)
  dsimp only [Pt.U, Pt.locs, Pt.cells, Pt.slots] at X2 l2 y2 z2 st2 hQ2
  subst l2 y2 z2
  obtain ⟨rfl, N2q, e2⟩ := hQ2
  have N2 := Fr.app N0 N2q
  obtain ⟨cq3, kq3, q3a, q3b, q3c⟩ := isOf hZ e2 P0
  obtain ⟨_, _, ⟨T3, L3, k3, n3⟩, -, X3, ⟨Lc3, hQ3, l3, y3, z3⟩, st3⟩ := X2.virtualBack hx (y := (⟨"com/example/okno/okno/AdmissionLog", "subWindowOf", "(J)J"⟩ : MethodName)) (z := (⟨"com/example/okno/okno/AdmissionLog", "subWindowOf", "(J)J"⟩ : MethodName)) hown (mvT hZ (kw83 hw)) (mvT hZ (kw84 hw)) (notFace_of_selects (args := #[]) (mvT hZ (kw86 hw))) (mvT hZ (kw86 hw)) (mvT hZ (kw85 hw)) (by decide) (backOf (W := 0) (rmSub l Z a0 hw [] a1 q1 lt g u_newest u_subWindows u_amounts u_oldestSubWindow u_shorterWindows tt ns u_newestSubWindowEnd u_olderTotal u_size u_head h0 n0 Z0 P0 P1 hgz P6 P7 P8 P9 P10 P11 P12 P13 P14 P15 P16 P17 P18 P19) hZ (kw87 hw) (kw18 hw) (by decide) (by decide)) q3a q3c (g := (mkF m 12 #[.val (.ref a1), .val (.long q1), .second, .val (.long q2), .second, .val (.long (tt + q2)), .second, .unset, .unset, .unset, .unset] [(.long q1), (.ref a1)])) rfl (by rw [hml]; rfl) (Steps.refl _) (argsL := [(.long q1)]) (rest := []) (lenOf pd_7 rfl) rfl (by show 2 * 0 + _ ≤ _; exact Nat.le_of_eq rfl) (hb hby d12_12) (fun _ _ => ⟨rfl, e2, (by decide : 0 + 0 ≤ _), (by decide : 0 + 0 ≤ _)⟩)
  dsimp only [Pt.U, Pt.locs, Pt.cells, Pt.slots] at X3 l3 y3 z3 st3 hQ3
  subst l3 y3 z3
  obtain ⟨rfl, N3q, Kq3, p3_0, p3_1, p3_2, p3_3, p3_4, p3_5, p3_6, p3_7, p3_8, p3_9, p3_10, p3_11, p3_12, p3_13⟩ := hQ3
  have N3 := Fr.app N2 N3q
  have Z3 : n0 ≤ T3.heap.size := Nat.le_trans Z0 Kq3.1
  have K3 : Keep h0 T3.heap [a1] := KR.trans Kq3 (allS (Or.inl (List.mem_of_getElem? (i := 0) rfl)) all0)
  have f5 : Exa Z T3.heap a1 "com/example/okno/okno/AdmissionLog" := (P0.keep Kq3)
  obtain ⟨cq4, kq4, q4a, q4b, q4c⟩ := isOf hZ rfl f5
  obtain ⟨_, _, ⟨T4, L4, k4, n4⟩, -, X4, ⟨Lc4, hQ4, l4, y4, z4⟩, st4⟩ := X3.virtualBack hx (y := (⟨"com/example/okno/okno/AdmissionLog", "isEmpty", "()Z"⟩ : MethodName)) (z := (⟨"com/example/okno/okno/AdmissionLog", "isEmpty", "()Z"⟩ : MethodName)) hown (mvT hZ (kw63 hw)) (mvT hZ (kw64 hw)) (notFace_of_selects (args := #[]) (mvT hZ (kw66 hw))) (mvT hZ (kw66 hw)) (mvT hZ (kw65 hw)) (by decide) (backOf (W := 0) (rmEmp1 l Z a0 hw [] a1 tt T3.heap n0 Z3 p3_8 htt) hZ (kw67 hw) (kw18 hw) (by decide) (by decide)) q4a q4c (g := (mkF m 18 #[.val (.ref a1), .val (.long q1), .second, .val (.long q2), .second, .val (.long (tt + q2)), .second, .val (.long (own_fd q1 g)), .second, .unset, .unset] [(.ref a1)])) rfl (by rw [hml]; rfl) (Steps.refl _) (argsL := []) (rest := []) (lenOf pd_4 rfl) rfl (by show 2 * 0 + _ ≤ _; exact Nat.le_of_eq rfl) (hb hby d12_18) (fun _ _ => ⟨rfl, rfl, (by decide : 0 + 0 ≤ _), (by decide : 0 + 0 ≤ _)⟩)
  dsimp only [Pt.U, Pt.locs, Pt.cells, Pt.slots] at X4 l4 y4 z4 st4 hQ4
  subst l4 y4 z4
  obtain ⟨rfl, N4q, e4⟩ := hQ4
  have N4 := Fr.app N3 N4q
  obtain ⟨T6, X6, e6, st6⟩ := getF X4 hx hZ hown (host := "") (Or.inl (kw92 hw)) Via.refl e4 p3_9 (g := (mkF m 48 #[.val (.ref a1), .val (.long q1), .second, .val (.long q2), .second, .val (.long (tt + q2)), .second, .val (.long (own_fd q1 g)), .second, .unset, .unset] [(.ref a1), (.long (own_fd q1 g))])) rfl rfl (hb hby d12_48)
  obtain ⟨T7, h7, X7, e7, W7, st7⟩ := putF X6 hx hZ hown (host := "") (Or.inl (kw68 hw)) Via.refl e6 p3_8 f5 (Or.inl (kw69 hw)) (kw17 hw) (ty := .long) (by decide) rfl rfl (g := (mkF m 92 #[.val (.ref a1), .val (.long q1), .second, .val (.long q2), .second, .val (.long (tt + q2)), .second, .val (.long (own_fd q1 g)), .second, .unset, .unset] [(.long (tt + q2)), (.ref a1)])) rfl rfl (hb hby d12_92)
  have Z7 : n0 ≤ h7.size := Nat.le_trans Z3 (Keep.of_wr W7).1
  have K7 : Keep h0 h7 [a1] := K3.wr W7 (Or.inl (List.mem_of_getElem? (i := 0) rfl))
  have N7 := Fr.snoc X7 N4 P1
  have Fw7 : Fld Z h7 a1 "com/example/okno/okno/AdmissionLog" "total" "J" (.long (tt + q2)) := p3_8.same W7
  have f8 : Exa Z h7 a1 "com/example/okno/okno/AdmissionLog" := (f5.wr W7)
  have f9 : Fld Z h7 a1 "com/example/okno/okno/AdmissionLog" "newest" "J" (.long u_newest) := (p3_0.other W7 (Or.inr (slot_ne (Or.inl (kw32 hw)) (Or.inl (kw69 hw)) (by decide) (t := .long) (t' := .long) (by decide) (by decide))))
  obtain ⟨T10, h10, X10, e10, W10, st10⟩ := putF X7 hx hZ hown (host := "") (Or.inl (kw31 hw)) Via.refl e7 f9 f8 (Or.inl (kw32 hw)) (kw17 hw) (ty := .long) (by decide) rfl rfl (g := (mkF m 97 #[.val (.ref a1), .val (.long q1), .second, .val (.long q2), .second, .val (.long (tt + q2)), .second, .val (.long (own_fd q1 g)), .second, .unset, .unset] [(.long q1), (.ref a1)])) rfl rfl (hb hby d12_97)
  have Z10 : n0 ≤ h10.size := Nat.le_trans Z7 (Keep.of_wr W10).1
  have K10 : Keep h0 h10 [a1] := K7.wr W10 (Or.inl (List.mem_of_getElem? (i := 0) rfl))
  have N10 := Fr.snoc X10 N7 P1
  have Fw10 : Fld Z h10 a1 "com/example/okno/okno/AdmissionLog" "newest" "J" (.long q1) := f9.same W10
  have f11 : Fld Z h10 a1 "com/example/okno/okno/AdmissionLog" "subWindows" "[J" (.ref u_subWindows) := ((p3_1.other W7 (Or.inr (slot_ne (Or.inl (kw36 hw)) (Or.inl (kw69 hw)) (by decide) (t := (.array .long)) (t' := .long) (by decide) (by decide)))).other W10 (Or.inr (slot_ne (Or.inl (kw36 hw)) (Or.inl (kw32 hw)) (by decide) (t := (.array .long)) (t' := .long) (by decide) (by decide))))
  have f12 : Fld Z h10 a1 "com/example/okno/okno/AdmissionLog" "amounts" "[J" (.ref u_amounts) := ((p3_2.other W7 (Or.inr (slot_ne (Or.inl (kw38 hw)) (Or.inl (kw69 hw)) (by decide) (t := (.array .long)) (t' := .long) (by decide) (by decide)))).other W10 (Or.inr (slot_ne (Or.inl (kw38 hw)) (Or.inl (kw32 hw)) (by decide) (t := (.array .long)) (t' := .long) (by decide) (by decide))))
  have f13 : Fld Z h10 a1 "com/example/okno/okno/AdmissionLog" "oldestSubWindow" "J" (.long u_oldestSubWindow) := ((p3_3.other W7 (Or.inr (slot_ne (Or.inl (kw41 hw)) (Or.inl (kw69 hw)) (by decide) (t := .long) (t' := .long) (by decide) (by decide)))).other W10 (Or.inr (slot_ne (Or.inl (kw41 hw)) (Or.inl (kw32 hw)) (by decide) (t := .long) (t' := .long) (by decide) (by decide))))
  have f14 : Fld Z h10 a1 "com/example/okno/okno/AdmissionLog" "lastTime" "J" (.long q1) := ((p3_4.other W7 (Or.inr (slot_ne (Or.inl (kw43 hw)) (Or.inl (kw69 hw)) (by decide) (t := .long) (t' := .long) (by decide) (by decide)))).other W10 (Or.inr (slot_ne (Or.inl (kw43 hw)) (Or.inl (kw32 hw)) (by decide) (t := .long) (t' := .long) (by decide) (by decide))))
  have f15 : Fld Z h10 a1 "com/example/okno/okno/AdmissionLog" "subWindowMillis" "J" (.long g) := ((p3_5.other W7 (Or.inr (slot_ne (Or.inr (kw45 hw)) (Or.inl (kw69 hw)) (by decide) (t := .long) (t' := .long) (by decide) (by decide)))).other W10 (Or.inr (slot_ne (Or.inr (kw45 hw)) (Or.inl (kw32 hw)) (by decide) (t := .long) (t' := .long) (by decide) (by decide))))
  have f16 : Fld Z h10 a1 "com/example/okno/okno/AdmissionLog" "lastSubWindow" "J" (.long (own_fd q1 g)) := ((p3_6.other W7 (Or.inr (slot_ne (Or.inl (kw50 hw)) (Or.inl (kw69 hw)) (by decide) (t := .long) (t' := .long) (by decide) (by decide)))).other W10 (Or.inr (slot_ne (Or.inl (kw50 hw)) (Or.inl (kw32 hw)) (by decide) (t := .long) (t' := .long) (by decide) (by decide))))
  have f17 : Fld Z h10 a1 "com/example/okno/okno/AdmissionLog" "shorterWindows" "[J" (.ref u_shorterWindows) := ((p3_7.other W7 (Or.inr (slot_ne (Or.inr (kw53 hw)) (Or.inl (kw69 hw)) (by decide) (t := (.array .long)) (t' := .long) (by decide) (by decide)))).other W10 (Or.inr (slot_ne (Or.inr (kw53 hw)) (Or.inl (kw32 hw)) (by decide) (t := (.array .long)) (t' := .long) (by decide) (by decide))))
  have f18 : Fld Z h10 a1 "com/example/okno/okno/AdmissionLog" "total" "J" (.long (tt + q2)) := (Fw7.other W10 (Or.inr (slot_ne (Or.inl (kw69 hw)) (Or.inl (kw32 hw)) (by decide) (t := .long) (t' := .long) (by decide) (by decide))))
  have f19 : Fld Z h10 a1 "com/example/okno/okno/AdmissionLog" "newestSubWindow" "J" (.long ns) := ((p3_9.other W7 (Or.inr (slot_ne (Or.inl (kw93 hw)) (Or.inl (kw69 hw)) (by decide) (t := .long) (t' := .long) (by decide) (by decide)))).other W10 (Or.inr (slot_ne (Or.inl (kw93 hw)) (Or.inl (kw32 hw)) (by decide) (t := .long) (t' := .long) (by decide) (by decide))))
  have f20 : Fld Z h10 a1 "com/example/okno/okno/AdmissionLog" "newestSubWindowEnd" "J" (.long u_newestSubWindowEnd) := ((p3_10.other W7 (Or.inr (slot_ne (Or.inl (kw95 hw)) (Or.inl (kw69 hw)) (by decide) (t := .long) (t' := .long) (by decide) (by decide)))).other W10 (Or.inr (slot_ne (Or.inl (kw95 hw)) (Or.inl (kw32 hw)) (by decide) (t := .long) (t' := .long) (by decide) (by decide))))
  have f21 : Fld Z h10 a1 "com/example/okno/okno/AdmissionLog" "olderTotal" "J" (.long u_olderTotal) := ((p3_11.other W7 (Or.inr (slot_ne (Or.inl (kw101 hw)) (Or.inl (kw69 hw)) (by decide) (t := .long) (t' := .long) (by decide) (by decide)))).other W10 (Or.inr (slot_ne (Or.inl (kw101 hw)) (Or.inl (kw32 hw)) (by decide) (t := .long) (t' := .long) (by decide) (by decide))))
  have f22 : Fld Z h10 a1 "com/example/okno/okno/AdmissionLog" "size" "I" (.int u_size) := ((p3_12.other W7 (Or.inr (slot_ne (Or.inl (kw107 hw)) (Or.inl (kw69 hw)) (by decide) (t := .int) (t' := .long) (by decide) (by decide)))).other W10 (Or.inr (slot_ne (Or.inl (kw107 hw)) (Or.inl (kw32 hw)) (by decide) (t := .int) (t' := .long) (by decide) (by decide))))
  have f23 : Fld Z h10 a1 "com/example/okno/okno/AdmissionLog" "head" "I" (.int u_head) := ((p3_13.other W7 (Or.inr (slot_ne (Or.inl (kw116 hw)) (Or.inl (kw69 hw)) (by decide) (t := .int) (t' := .long) (by decide) (by decide)))).other W10 (Or.inr (slot_ne (Or.inl (kw116 hw)) (Or.inl (kw32 hw)) (by decide) (t := .int) (t' := .long) (by decide) (by decide))))
  obtain ⟨fs, hr, hrun, hended, hW, hsame⟩ := X10.leave (v := none) (fun _ => rfl)
  refine ⟨_, _, pre0 _ ?_, hrun, hended, _, _, rfl, ?_, ⟨_, rfl⟩, hW, hsame.mono (by decide) (by decide)⟩
  · skip
    refine XS.aloadN X0.here hx rfl (hb hby d12_0) rfl rfl ?_
    refine st1 _ ?_
    refine XS.lloadN X1.here hx rfl (hb hby d12_4) rfl ?_
    refine st2 _ ?_
    refine XS.lstore X2.here hx rfl (hb hby d12_8) rfl (l' := #[.val (.ref a1), .val (.long q1), .second, .val (.long q2), .second, .val (.long (tt + q2)), .second, .unset, .unset, .unset, .unset]) rfl ?_
    refine XS.aloadN X2.here hx rfl (hb hby d12_10) rfl rfl ?_
    refine XS.lloadN X2.here hx rfl (hb hby d12_11) rfl ?_
    refine st3.trans ?_
    refine XS.lstore X3.here hx rfl (hb hby d12_15) rfl (l' := #[.val (.ref a1), .val (.long q1), .second, .val (.long q2), .second, .val (.long (tt + q2)), .second, .val (.long (own_fd q1 g)), .second, .unset, .unset]) rfl ?_
    refine XS.aloadN X3.here hx rfl (hb hby d12_17) rfl rfl ?_
    refine st4.trans ?_
    refine XS.ifYes X4.here hx rfl (pc0 := 21) (pc' := 45) rfl (hb hby d12_21) rfl ((if0 _ _).trans (teq rfl).1) (by decide) (by decide) ?_
    refine XS.lload X4.here hx rfl (hb hby d12_45) rfl ?_
    refine XS.aloadN X4.here hx rfl (hb hby d12_47) rfl rfl ?_
    refine st6 _ ?_
    refine XS.lcmp X6.here hx rfl (hb hby d12_51) rfl ?_
    refine XS.ifYes X6.here hx rfl (pc0 := 52) (pc' := 89) rfl (hb hby d12_52) rfl ((if0 _ _).trans (teq ((lw_eq _ _).mpr heq)).1) (by decide) (by decide) ?_
    refine XS.aloadN X6.here hx rfl (hb hby d12_89) rfl rfl ?_
    refine XS.lload X6.here hx rfl (hb hby d12_90) rfl ?_
    refine st7 _ ?_
    refine XS.aloadN X7.here hx rfl (hb hby d12_95) rfl rfl ?_
    refine XS.lloadN X7.here hx rfl (hb hby d12_96) rfl ?_
    refine st10 _ ?_
    show Steps p.tables e below (T10.setTop (mkF m 100 #[.val (.ref a1), .val (.long q1), .second, .val (.long q2), .second, .val (.long (tt + q2)), .second, .val (.long (own_fd q1 g)), .second, .unset, .unset] [])) _
    exact X10.returnOut hx Bd.returns (hb hby d12_100) hr
  · show Q_rmAppB_9 Z a1 q1 q2 g lt tt ns u_newest u_subWindows u_amounts u_oldestSubWindow u_shorterWindows u_newestSubWindowEnd u_olderTotal u_size u_head h0 n0 _ T10.heap _
    rw [e10]
    exact ⟨rfl, N10, K10, Fw10, f11, f12, f13, f14, f15, f16, f17, f18, f19, f20, f21, f22, f23⟩
theorem ef_rmMax_12 (m : MethodId) (x0 : Int32) (x1 : Int32) : entryFrame m #[(.int x0), (.int x1)] 2 = mkF m 0 #[.val (.int x0), .val (.int x1)] [] := by first | (simp [entryFrame, mkF, argsToLocals, Value.category]; done) | rfl
def Q_rmMax_12 (Z : State)  (h0 : Heap) (n0 : Nat) (v : Option Value) (h : Heap) (L : List Loc) : Prop := v = some (.int (4 : Int32)) ∧ Fr n0 L ∧ h = h0
set_option maxRecDepth 65536 in
set_option maxHeartbeats 40000000 in
theorem rmMax_12 (l : Launch) (Z : State) (a0 : Array Value) (hw : ∀ d ∈ tables_1, d.before a0 Z = true) (ws : List Jvm.Cond)  (h0 : Heap) (n0 : Nat) (Z0 : n0 ≤ h0.size)  :
    MetFree l (⟨"java/lang/Math", "max", "(II)I"⟩ : MethodName) (head1 (Jvm.Cond.code (⟨"java/lang/Math", "max", "(II)I"⟩ : MethodName) jdk_29_method_65_code 2 (some .int) :: ws) ({ frames := 0, cells := 0, slots := 0, locals := 0 } : Room)) (fun a U => a = #[(.int (4 : Int32)), (.int (0 : Int32))] ∧ Z.Warmed39 U.vm ∧ U.heap = h0) (fun _ _ _ _ _ => True) (fun _ U o U' => ∃ v L, o = .returned v ∧ Q_rmMax_12 Z  h0 n0 v U'.heap L ∧ FrameEnd U o U' L ({ frames := 0, cells := 0, slots := 0, locals := 0 } : Room).cells ({ frames := 0, cells := 0, slots := 0, locals := 0 } : Room).slots) := by
  refine MetFree.of_bodySF (Jvm.Free.JP.mathPlain rfl (by decide +kernel)) hisR ?_
  intro p e s m args below meth c s₁ Bd hml0 hP hK
  obtain ⟨rfl, hZ, hh⟩ := hP
  have hx := Bd.exec
  have hby := Bd.bytes
  have hml : c.maxLocals = 2 := hml0
  have hown : s.vm.findClass "java/lang/Math" = some m.cls := findClass_of_methodNamed Bd.named
  have hnm := (name_of_methodNamed Bd.named Bd.method).1
  have X0 : Stand p l e ({ frames := 0, cells := 0, slots := 0, locals := 0 } : Room) s m #[(.int (4 : Int32)), (.int (0 : Int32))] below meth c s₁ [] 0 0 := Stand.of_body Bd
  have e0 : s₁.heap = h0 := by rw [← hh, Bd.state]; rfl
  have N0 := Fr.nil n0
  have KR : Keep h0 h0 [] := Keep.refl h0 _
  have pre0 : ∀ t, Steps p.tables e below (s₁.setTop (mkF m 0 #[.val (.int (4 : Int32)), .val (.int (0 : Int32))] [])) t → Steps p.tables e below (s₁.setTop (entryFrame m #[(.int (4 : Int32)), (.int (0 : Int32))] 2)) t := fun t k => castTop (ef_rmMax_12 m ((4 : Int32)) ((0 : Int32))) k
  obtain ⟨fs, hr, hrun, hended, hW, hsame⟩ := X0.leave (v := some (.int (4 : Int32))) (fun h => by rw [Bd.returns] at h; cases h)
  refine ⟨_, _, pre0 _ ?_, hrun, hended, _, _, rfl, ?_, ⟨_, rfl⟩, hW, hsame.mono (by decide) (by decide)⟩
  · skip
    refine XS.iloadN X0.here hx rfl (hb hby d19_0) rfl ?_
    refine XS.iloadN X0.here hx rfl (hb hby d19_1) rfl ?_
    refine XS.icmpNo X0.here hx rfl (hb hby d19_2) rfl (flt (by decide : ¬ ((4 : Int32) < (0 : Int32)))).1 ?_
    refine XS.iloadN X0.here hx rfl (hb hby d19_5) rfl ?_
    refine XS.goto X0.here hx rfl (pc0 := 6) (pc' := 10) rfl (hb hby d19_6) (by decide) (by decide) ?_
    show Steps p.tables e below (s₁.setTop (mkF m 10 #[.val (.int (4 : Int32)), .val (.int (0 : Int32))] [(.int (4 : Int32))])) _
    exact retI X0 hx Bd.returns (hb hby d19_10) hr
  · show Q_rmMax_12 Z  h0 n0 _ s₁.heap _
    rw [e0]
    exact ⟨rfl, N0, rfl⟩
theorem ef_rmGrow (m : MethodId) (x0 : Addr) : entryFrame m #[(.ref x0)] 5 = mkF m 0 #[.val (.ref x0), .unset, .unset, .unset, .unset] [] := by first | (simp [entryFrame, mkF, argsToLocals, Value.category]; done) | rfl
def Q_rmGrow (Z : State) (a1 : Addr) (w_NO_ENTRIES : Addr) (kn : ClassId) (u_newest : Int64) (u_oldestSubWindow : Int64) (u_lastTime : Int64) (u_subWindowMillis : Int64) (u_lastSubWindow : Int64) (u_shorterWindows : Addr) (u_total : Int64) (u_newestSubWindow : Int64) (u_newestSubWindowEnd : Int64) (u_olderTotal : Int64) (u_head : Int32) (h0 : Heap) (n0 : Nat) (v : Option Value) (h : Heap) (L : List Loc) : Prop := ∃ fr0 : Addr, ∃ fk0 : ClassId, ∃ fr1 : Addr, ∃ fk1 : ClassId, v = none ∧ Fr n0 L ∧ Keep h0 h [a1] ∧ n0 ≤ fr0 ∧ h0.size ≤ fr0 ∧ Arv Z h fr0 fk0 .long (4 : Int32) [(.long (0 : Int64)), (.long (0 : Int64)), (.long (0 : Int64)), (.long (0 : Int64))] (.long (0 : Int64)) ∧ n0 ≤ fr1 ∧ h0.size ≤ fr1 ∧ Arv Z h fr1 fk1 .long (4 : Int32) [(.long (0 : Int64)), (.long (0 : Int64)), (.long (0 : Int64)), (.long (0 : Int64))] (.long (0 : Int64)) ∧ fr0 ≠ fr1 ∧ Fld Z h a1 "com/example/okno/okno/AdmissionLog" "newest" "J" (.long u_newest) ∧ Fld Z h a1 "com/example/okno/okno/AdmissionLog" "subWindows" "[J" (.ref fr0) ∧ Fld Z h a1 "com/example/okno/okno/AdmissionLog" "amounts" "[J" (.ref fr1) ∧ Fld Z h a1 "com/example/okno/okno/AdmissionLog" "oldestSubWindow" "J" (.long u_oldestSubWindow) ∧ Fld Z h a1 "com/example/okno/okno/AdmissionLog" "lastTime" "J" (.long u_lastTime) ∧ Fld Z h a1 "com/example/okno/okno/AdmissionLog" "subWindowMillis" "J" (.long u_subWindowMillis) ∧ Fld Z h a1 "com/example/okno/okno/AdmissionLog" "lastSubWindow" "J" (.long u_lastSubWindow) ∧ Fld Z h a1 "com/example/okno/okno/AdmissionLog" "shorterWindows" "[J" (.ref u_shorterWindows) ∧ Fld Z h a1 "com/example/okno/okno/AdmissionLog" "total" "J" (.long u_total) ∧ Fld Z h a1 "com/example/okno/okno/AdmissionLog" "newestSubWindow" "J" (.long u_newestSubWindow) ∧ Fld Z h a1 "com/example/okno/okno/AdmissionLog" "newestSubWindowEnd" "J" (.long u_newestSubWindowEnd) ∧ Fld Z h a1 "com/example/okno/okno/AdmissionLog" "olderTotal" "J" (.long u_olderTotal) ∧ Fld Z h a1 "com/example/okno/okno/AdmissionLog" "size" "I" (.int (0 : Int32)) ∧ Fld Z h a1 "com/example/okno/okno/AdmissionLog" "head" "I" (.int (0 : Int32))
set_option maxRecDepth 65536 in
set_option maxHeartbeats 40000000 in
theorem rmGrow (l : Launch) (Z : State) (a0 : Array Value) (hw : ∀ d ∈ tables_1, d.before a0 Z = true) (ws : List Jvm.Cond) (a1 : Addr) (w_NO_ENTRIES : Addr) (kn : ClassId) (u_newest : Int64) (u_oldestSubWindow : Int64) (u_lastTime : Int64) (u_subWindowMillis : Int64) (u_lastSubWindow : Int64) (u_shorterWindows : Addr) (u_total : Int64) (u_newestSubWindow : Int64) (u_newestSubWindowEnd : Int64) (u_olderTotal : Int64) (u_head : Int32) (h0 : Heap) (n0 : Nat) (Z0 : n0 ≤ h0.size) (P0 : Exa Z h0 a1 "com/example/okno/okno/AdmissionLog") (P1 : n0 ≤ a1) (P2 : w_NO_ENTRIES ≠ a1) (P3 : Arv Z h0 w_NO_ENTRIES kn .long (0 : Int32) [] (.long (0 : Int64))) (P4 : Fld Z h0 a1 "com/example/okno/okno/AdmissionLog" "newest" "J" (.long u_newest)) (P5 : Fld Z h0 a1 "com/example/okno/okno/AdmissionLog" "subWindows" "[J" (.ref w_NO_ENTRIES)) (P6 : Fld Z h0 a1 "com/example/okno/okno/AdmissionLog" "amounts" "[J" (.ref w_NO_ENTRIES)) (P7 : Fld Z h0 a1 "com/example/okno/okno/AdmissionLog" "oldestSubWindow" "J" (.long u_oldestSubWindow)) (P8 : Fld Z h0 a1 "com/example/okno/okno/AdmissionLog" "lastTime" "J" (.long u_lastTime)) (P9 : Fld Z h0 a1 "com/example/okno/okno/AdmissionLog" "subWindowMillis" "J" (.long u_subWindowMillis)) (P10 : Fld Z h0 a1 "com/example/okno/okno/AdmissionLog" "lastSubWindow" "J" (.long u_lastSubWindow)) (P11 : Fld Z h0 a1 "com/example/okno/okno/AdmissionLog" "shorterWindows" "[J" (.ref u_shorterWindows)) (P12 : Fld Z h0 a1 "com/example/okno/okno/AdmissionLog" "total" "J" (.long u_total)) (P13 : Fld Z h0 a1 "com/example/okno/okno/AdmissionLog" "newestSubWindow" "J" (.long u_newestSubWindow)) (P14 : Fld Z h0 a1 "com/example/okno/okno/AdmissionLog" "newestSubWindowEnd" "J" (.long u_newestSubWindowEnd)) (P15 : Fld Z h0 a1 "com/example/okno/okno/AdmissionLog" "olderTotal" "J" (.long u_olderTotal)) (P16 : Fld Z h0 a1 "com/example/okno/okno/AdmissionLog" "size" "I" (.int (0 : Int32))) (P17 : Fld Z h0 a1 "com/example/okno/okno/AdmissionLog" "head" "I" (.int u_head)) :
    MetFree l (⟨"com/example/okno/okno/AdmissionLog", "grow", "()V"⟩ : MethodName) (head1 (Jvm.Cond.code (⟨"com/example/okno/okno/AdmissionLog", "grow", "()V"⟩ : MethodName) prog_2_method_26_code 5 none :: ws) ({ frames := 1, cells := 2, slots := 8, locals := 13 } : Room)) (fun a U => a = #[(.ref a1)] ∧ Z.Warmed39 U.vm ∧ U.heap = h0) (fun _ _ _ _ _ => True) (fun _ U o U' => ∃ v L, o = .returned v ∧ Q_rmGrow Z a1 w_NO_ENTRIES kn u_newest u_oldestSubWindow u_lastTime u_subWindowMillis u_lastSubWindow u_shorterWindows u_total u_newestSubWindow u_newestSubWindowEnd u_olderTotal u_head h0 n0 v U'.heap L ∧ FrameEnd U o U' L ({ frames := 1, cells := 2, slots := 8, locals := 13 } : Room).cells ({ frames := 1, cells := 2, slots := 8, locals := 13 } : Room).slots) := by
  refine MetFree.of_bodySF (plainFor_of_name pn_2) hisR ?_
  intro p e s m args below meth c s₁ Bd hml0 hP hK
  obtain ⟨rfl, hZ, hh⟩ := hP
  have hx := Bd.exec
  have hby := Bd.bytes
  have hml : c.maxLocals = 5 := hml0
  have hown : s.vm.findClass "com/example/okno/okno/AdmissionLog" = some m.cls := findClass_of_methodNamed Bd.named
  have hnm := (name_of_methodNamed Bd.named Bd.method).1
  have X0 : Stand p l e ({ frames := 1, cells := 2, slots := 8, locals := 13 } : Room) s m #[(.ref a1)] below meth c s₁ [] 0 0 := Stand.of_body Bd
  have e0 : s₁.heap = h0 := by rw [← hh, Bd.state]; rfl
  have N0 := Fr.nil n0
  have KR : Keep h0 h0 [a1] := Keep.refl h0 _
  have pre0 : ∀ t, Steps p.tables e below (s₁.setTop (mkF m 0 #[.val (.ref a1), .unset, .unset, .unset, .unset] [])) t → Steps p.tables e below (s₁.setTop (entryFrame m #[(.ref a1)] 5)) t := fun t k => castTop (ef_rmGrow m (a1)) k
  obtain ⟨T1, X1, e1, st1⟩ := getF X0 hx hZ hown (host := "") (Or.inl (kw35 hw)) Via.refl e0 P5 (g := (mkF m 2 #[.val (.ref a1), .unset, .unset, .unset, .unset] [(.ref a1), (.int (4 : Int32))])) rfl rfl (hb hby d18_2)
  obtain ⟨cl2, Ar2, -, S2, N2', -, -⟩ := id P3
  obtain ⟨_, _, ⟨T3, L3, k3, n3⟩, -, X3, ⟨Lc3, hQ3, l3, y3, z3⟩, st3⟩ := Jvm.LawKit.callS X1 hx (y := (⟨"java/lang/Math", "max", "(II)I"⟩ : MethodName)) hown (mvT hZ (kw112 hw)) (mvT hZ (kw113 hw)) (mvT hZ (kw6 hw)) (mvT hZ (kw114 hw)) (by decide) (backOf (W := 0) (rmMax_12 l Z a0 hw []  h0 n0 Z0 ) hZ (kw114 hw) (kw6 hw) (by decide) (by decide)) (g := (mkF m 8 #[.val (.ref a1), .unset, .unset, .unset, .unset] [(.int (0 : Int32)), (.int (4 : Int32))])) rfl (by rw [hml]; rfl) (argsL := [(.int (4 : Int32)), (.int (0 : Int32))]) (rest := []) (lenOf pd_10 rfl) rfl (by show 2 * 0 + _ ≤ _; exact Nat.le_of_eq rfl) (hb hby d18_8) (fun _ _ => ⟨rfl, e1, (by decide : 0 + 0 ≤ _), (by decide : 0 + 0 ≤ _)⟩)
  dsimp only [Pt.U, Pt.locs, Pt.cells, Pt.slots] at X3 l3 y3 z3 st3 hQ3
  subst l3 y3 z3
  obtain ⟨rfl, N3q, e3⟩ := hQ3
  have N3 := Fr.app N0 N3q
  obtain ⟨T4, h4, k4, X4, e4, E4, A4, st4⟩ := newP X3 hx hZ (aty := .long) (kw51 hw) e3 (g := (mkF m 13 #[.val (.ref a1), .val (.int (4 : Int32)), .unset, .unset, .unset] [(.int (4 : Int32))])) rfl (hb hby d18_13) rfl (by decide) (cap := 4) (by decide) (by decide) (by decide) (by decide)
  obtain ⟨b4, g4⟩ : ∃ z, z = h0.size := ⟨_, rfl⟩
  rw [← g4] at A4 st4
  have ne4_a1 : a1 ≠ b4 := Nat.ne_of_lt (Nat.lt_of_lt_of_le P0.lt (Nat.le_of_eq g4.symm))
  have ne4_w_NO_ENTRIES : w_NO_ENTRIES ≠ b4 := Nat.ne_of_lt (Nat.lt_of_lt_of_le P3.lt (Nat.le_of_eq g4.symm))
  have g_b4 : n0 ≤ b4 := Nat.le_trans Z0 (Nat.le_of_eq g4.symm)
  have sz_b4 : h0.size ≤ b4 := Nat.le_trans KR.1 (Nat.le_of_eq g4.symm)
  have Z4 : n0 ≤ h4.size := Nat.le_trans Z0 E4.1
  have K4 : Keep h0 h4 [a1] := KR.ext E4
  have V4 : Arv Z h4 b4 k4 .long (4 : Int32) [(.long (0 : Int64)), (.long (0 : Int64)), (.long (0 : Int64)), (.long (0 : Int64))] (.long (0 : Int64)) := (Arv.new A4 (by decide)).pad (pad_rep [] (.long (0 : Int64)) 4)
  have f6 : Exa Z h4 a1 "com/example/okno/okno/AdmissionLog" := (P0.ext E4)
  have f7 : Arv Z h4 w_NO_ENTRIES kn .long (0 : Int32) [] (.long (0 : Int64)) := (P3.ext E4)
  obtain ⟨T5, h5, k5, X5, e5, E5, A5, st5⟩ := newP X4 hx hZ (aty := .long) (kw51 hw) e4 (g := (mkF m 17 #[.val (.ref a1), .val (.int (4 : Int32)), .val (.ref b4), .unset, .unset] [(.int (4 : Int32))])) rfl (hb hby d18_17) rfl (by decide) (cap := 4) (by decide) (by decide) (by decide) (by decide)
  obtain ⟨b5, g5⟩ : ∃ z, z = h4.size := ⟨_, rfl⟩
  rw [← g5] at A5 st5
  have ne5_a1 : a1 ≠ b5 := Nat.ne_of_lt (Nat.lt_of_lt_of_le f6.lt (Nat.le_of_eq g5.symm))
  have ne5_b4 : b4 ≠ b5 := Nat.ne_of_lt (Nat.lt_of_lt_of_le V4.lt (Nat.le_of_eq g5.symm))
  have ne5_w_NO_ENTRIES : w_NO_ENTRIES ≠ b5 := Nat.ne_of_lt (Nat.lt_of_lt_of_le f7.lt (Nat.le_of_eq g5.symm))
  have g_b5 : n0 ≤ b5 := Nat.le_trans Z4 (Nat.le_of_eq g5.symm)
  have sz_b5 : h0.size ≤ b5 := Nat.le_trans K4.1 (Nat.le_of_eq g5.symm)
  have Z5 : n0 ≤ h5.size := Nat.le_trans Z4 E5.1
  have K5 : Keep h0 h5 [a1] := K4.ext E5
  have V5 : Arv Z h5 b5 k5 .long (4 : Int32) [(.long (0 : Int64)), (.long (0 : Int64)), (.long (0 : Int64)), (.long (0 : Int64))] (.long (0 : Int64)) := (Arv.new A5 (by decide)).pad (pad_rep [] (.long (0 : Int64)) 4)
  have f8 : Fld Z h5 a1 "com/example/okno/okno/AdmissionLog" "size" "I" (.int (0 : Int32)) := ((P16.ext E4).ext E5)
  obtain ⟨T9, X9, e9, st9⟩ := getF X5 hx hZ hown (host := "") (Or.inl (kw106 hw)) Via.refl e5 f8 (g := (mkF m 26 #[.val (.ref a1), .val (.int (4 : Int32)), .val (.ref b4), .val (.ref b5), .val (.int (0 : Int32))] [(.ref a1), (.int (0 : Int32))])) rfl rfl (hb hby d18_26)
  have f10 : Exa Z h5 a1 "com/example/okno/okno/AdmissionLog" := (f6.ext E5)
  have f11 : Fld Z h5 a1 "com/example/okno/okno/AdmissionLog" "subWindows" "[J" (.ref w_NO_ENTRIES) := ((P5.ext E4).ext E5)
  obtain ⟨T12, h12, X12, e12, W12, st12⟩ := putF X9 hx hZ hown (host := "") (Or.inl (kw35 hw)) Via.refl e9 f11 f10 (Or.inl (kw36 hw)) (kw17 hw) (ty := (.array .long)) (by decide) rfl rfl (g := (mkF m 70 #[.val (.ref a1), .val (.int (4 : Int32)), .val (.ref b4), .val (.ref b5), .val (.int (0 : Int32))] [(.ref b4), (.ref a1)])) rfl rfl (hb hby d18_70)
  have Z12 : n0 ≤ h12.size := Nat.le_trans Z5 (Keep.of_wr W12).1
  have K12 : Keep h0 h12 [a1] := K5.wr W12 (Or.inl (List.mem_of_getElem? (i := 0) rfl))
  have N12 := Fr.snoc X12 N3 P1
  have Fw12 : Fld Z h12 a1 "com/example/okno/okno/AdmissionLog" "subWindows" "[J" (.ref b4) := f11.same W12
  have f13 : Exa Z h12 a1 "com/example/okno/okno/AdmissionLog" := (f10.wr W12)
  have f14 : Fld Z h12 a1 "com/example/okno/okno/AdmissionLog" "amounts" "[J" (.ref w_NO_ENTRIES) := (((P6.ext E4).ext E5).other W12 (Or.inr (slot_ne (Or.inl (kw38 hw)) (Or.inl (kw36 hw)) (by decide) (t := (.array .long)) (t' := (.array .long)) (by decide) (by decide))))
  obtain ⟨T15, h15, X15, e15, W15, st15⟩ := putF X12 hx hZ hown (host := "") (Or.inl (kw37 hw)) Via.refl e12 f14 f13 (Or.inl (kw38 hw)) (kw17 hw) (ty := (.array .long)) (by decide) rfl rfl (g := (mkF m 75 #[.val (.ref a1), .val (.int (4 : Int32)), .val (.ref b4), .val (.ref b5), .val (.int (0 : Int32))] [(.ref b5), (.ref a1)])) rfl rfl (hb hby d18_75)
  have Z15 : n0 ≤ h15.size := Nat.le_trans Z12 (Keep.of_wr W15).1
  have K15 : Keep h0 h15 [a1] := K12.wr W15 (Or.inl (List.mem_of_getElem? (i := 0) rfl))
  have N15 := Fr.snoc X15 N12 P1
  have Fw15 : Fld Z h15 a1 "com/example/okno/okno/AdmissionLog" "amounts" "[J" (.ref b5) := f14.same W15
  have f16 : Exa Z h15 a1 "com/example/okno/okno/AdmissionLog" := (f13.wr W15)
  have f17 : Fld Z h15 a1 "com/example/okno/okno/AdmissionLog" "head" "I" (.int u_head) := ((((P17.ext E4).ext E5).other W12 (Or.inr (slot_ne (Or.inl (kw116 hw)) (Or.inl (kw36 hw)) (by decide) (t := .int) (t' := (.array .long)) (by decide) (by decide)))).other W15 (Or.inr (slot_ne (Or.inl (kw116 hw)) (Or.inl (kw38 hw)) (by decide) (t := .int) (t' := (.array .long)) (by decide) (by decide))))
  obtain ⟨T18, h18, X18, e18, W18, st18⟩ := putF X15 hx hZ hown (host := "") (Or.inl (kw115 hw)) Via.refl e15 f17 f16 (Or.inl (kw116 hw)) (kw17 hw) (ty := .int) (by decide) rfl rfl (g := (mkF m 80 #[.val (.ref a1), .val (.int (4 : Int32)), .val (.ref b4), .val (.ref b5), .val (.int (0 : Int32))] [(.int (0 : Int32)), (.ref a1)])) rfl rfl (hb hby d18_80)
  have Z18 : n0 ≤ h18.size := Nat.le_trans Z15 (Keep.of_wr W18).1
  have K18 : Keep h0 h18 [a1] := K15.wr W18 (Or.inl (List.mem_of_getElem? (i := 0) rfl))
  have N18 := Fr.snoc X18 N15 P1
  have Fw18 : Fld Z h18 a1 "com/example/okno/okno/AdmissionLog" "head" "I" (.int (0 : Int32)) := f17.same W18
  have f19 : Arv Z h18 b4 k4 .long (4 : Int32) [(.long (0 : Int64)), (.long (0 : Int64)), (.long (0 : Int64)), (.long (0 : Int64))] (.long (0 : Int64)) := ((((V4.ext E5).other W12 (Ne.symm ne4_a1)).other W15 (Ne.symm ne4_a1)).other W18 (Ne.symm ne4_a1))
  have f20 : Arv Z h18 b5 k5 .long (4 : Int32) [(.long (0 : Int64)), (.long (0 : Int64)), (.long (0 : Int64)), (.long (0 : Int64))] (.long (0 : Int64)) := (((V5.other W12 (Ne.symm ne5_a1)).other W15 (Ne.symm ne5_a1)).other W18 (Ne.symm ne5_a1))
  have f21 : Fld Z h18 a1 "com/example/okno/okno/AdmissionLog" "newest" "J" (.long u_newest) := (((((P4.ext E4).ext E5).other W12 (Or.inr (slot_ne (Or.inl (kw32 hw)) (Or.inl (kw36 hw)) (by decide) (t := .long) (t' := (.array .long)) (by decide) (by decide)))).other W15 (Or.inr (slot_ne (Or.inl (kw32 hw)) (Or.inl (kw38 hw)) (by decide) (t := .long) (t' := (.array .long)) (by decide) (by decide)))).other W18 (Or.inr (slot_ne (Or.inl (kw32 hw)) (Or.inl (kw116 hw)) (by decide) (t := .long) (t' := .int) (by decide) (by decide))))
  have f22 : Fld Z h18 a1 "com/example/okno/okno/AdmissionLog" "subWindows" "[J" (.ref b4) := ((Fw12.other W15 (Or.inr (slot_ne (Or.inl (kw36 hw)) (Or.inl (kw38 hw)) (by decide) (t := (.array .long)) (t' := (.array .long)) (by decide) (by decide)))).other W18 (Or.inr (slot_ne (Or.inl (kw36 hw)) (Or.inl (kw116 hw)) (by decide) (t := (.array .long)) (t' := .int) (by decide) (by decide))))
  have f23 : Fld Z h18 a1 "com/example/okno/okno/AdmissionLog" "amounts" "[J" (.ref b5) := (Fw15.other W18 (Or.inr (slot_ne (Or.inl (kw38 hw)) (Or.inl (kw116 hw)) (by decide) (t := (.array .long)) (t' := .int) (by decide) (by decide))))
  have f24 : Fld Z h18 a1 "com/example/okno/okno/AdmissionLog" "oldestSubWindow" "J" (.long u_oldestSubWindow) := (((((P7.ext E4).ext E5).other W12 (Or.inr (slot_ne (Or.inl (kw41 hw)) (Or.inl (kw36 hw)) (by decide) (t := .long) (t' := (.array .long)) (by decide) (by decide)))).other W15 (Or.inr (slot_ne (Or.inl (kw41 hw)) (Or.inl (kw38 hw)) (by decide) (t := .long) (t' := (.array .long)) (by decide) (by decide)))).other W18 (Or.inr (slot_ne (Or.inl (kw41 hw)) (Or.inl (kw116 hw)) (by decide) (t := .long) (t' := .int) (by decide) (by decide))))
  have f25 : Fld Z h18 a1 "com/example/okno/okno/AdmissionLog" "lastTime" "J" (.long u_lastTime) := (((((P8.ext E4).ext E5).other W12 (Or.inr (slot_ne (Or.inl (kw43 hw)) (Or.inl (kw36 hw)) (by decide) (t := .long) (t' := (.array .long)) (by decide) (by decide)))).other W15 (Or.inr (slot_ne (Or.inl (kw43 hw)) (Or.inl (kw38 hw)) (by decide) (t := .long) (t' := (.array .long)) (by decide) (by decide)))).other W18 (Or.inr (slot_ne (Or.inl (kw43 hw)) (Or.inl (kw116 hw)) (by decide) (t := .long) (t' := .int) (by decide) (by decide))))
  have f26 : Fld Z h18 a1 "com/example/okno/okno/AdmissionLog" "subWindowMillis" "J" (.long u_subWindowMillis) := (((((P9.ext E4).ext E5).other W12 (Or.inr (slot_ne (Or.inr (kw45 hw)) (Or.inl (kw36 hw)) (by decide) (t := .long) (t' := (.array .long)) (by decide) (by decide)))).other W15 (Or.inr (slot_ne (Or.inr (kw45 hw)) (Or.inl (kw38 hw)) (by decide) (t := .long) (t' := (.array .long)) (by decide) (by decide)))).other W18 (Or.inr (slot_ne (Or.inr (kw45 hw)) (Or.inl (kw116 hw)) (by decide) (t := .long) (t' := .int) (by decide) (by decide))))
  have f27 : Fld Z h18 a1 "com/example/okno/okno/AdmissionLog" "lastSubWindow" "J" (.long u_lastSubWindow) := (((((P10.ext E4).ext E5).other W12 (Or.inr (slot_ne (Or.inl (kw50 hw)) (Or.inl (kw36 hw)) (by decide) (t := .long) (t' := (.array .long)) (by decide) (by decide)))).other W15 (Or.inr (slot_ne (Or.inl (kw50 hw)) (Or.inl (kw38 hw)) (by decide) (t := .long) (t' := (.array .long)) (by decide) (by decide)))).other W18 (Or.inr (slot_ne (Or.inl (kw50 hw)) (Or.inl (kw116 hw)) (by decide) (t := .long) (t' := .int) (by decide) (by decide))))
  have f28 : Fld Z h18 a1 "com/example/okno/okno/AdmissionLog" "shorterWindows" "[J" (.ref u_shorterWindows) := (((((P11.ext E4).ext E5).other W12 (Or.inr (slot_ne (Or.inr (kw53 hw)) (Or.inl (kw36 hw)) (by decide) (t := (.array .long)) (t' := (.array .long)) (by decide) (by decide)))).other W15 (Or.inr (slot_ne (Or.inr (kw53 hw)) (Or.inl (kw38 hw)) (by decide) (t := (.array .long)) (t' := (.array .long)) (by decide) (by decide)))).other W18 (Or.inr (slot_ne (Or.inr (kw53 hw)) (Or.inl (kw116 hw)) (by decide) (t := (.array .long)) (t' := .int) (by decide) (by decide))))
  have f29 : Fld Z h18 a1 "com/example/okno/okno/AdmissionLog" "total" "J" (.long u_total) := (((((P12.ext E4).ext E5).other W12 (Or.inr (slot_ne (Or.inl (kw69 hw)) (Or.inl (kw36 hw)) (by decide) (t := .long) (t' := (.array .long)) (by decide) (by decide)))).other W15 (Or.inr (slot_ne (Or.inl (kw69 hw)) (Or.inl (kw38 hw)) (by decide) (t := .long) (t' := (.array .long)) (by decide) (by decide)))).other W18 (Or.inr (slot_ne (Or.inl (kw69 hw)) (Or.inl (kw116 hw)) (by decide) (t := .long) (t' := .int) (by decide) (by decide))))
  have f30 : Fld Z h18 a1 "com/example/okno/okno/AdmissionLog" "newestSubWindow" "J" (.long u_newestSubWindow) := (((((P13.ext E4).ext E5).other W12 (Or.inr (slot_ne (Or.inl (kw93 hw)) (Or.inl (kw36 hw)) (by decide) (t := .long) (t' := (.array .long)) (by decide) (by decide)))).other W15 (Or.inr (slot_ne (Or.inl (kw93 hw)) (Or.inl (kw38 hw)) (by decide) (t := .long) (t' := (.array .long)) (by decide) (by decide)))).other W18 (Or.inr (slot_ne (Or.inl (kw93 hw)) (Or.inl (kw116 hw)) (by decide) (t := .long) (t' := .int) (by decide) (by decide))))
  have f31 : Fld Z h18 a1 "com/example/okno/okno/AdmissionLog" "newestSubWindowEnd" "J" (.long u_newestSubWindowEnd) := (((((P14.ext E4).ext E5).other W12 (Or.inr (slot_ne (Or.inl (kw95 hw)) (Or.inl (kw36 hw)) (by decide) (t := .long) (t' := (.array .long)) (by decide) (by decide)))).other W15 (Or.inr (slot_ne (Or.inl (kw95 hw)) (Or.inl (kw38 hw)) (by decide) (t := .long) (t' := (.array .long)) (by decide) (by decide)))).other W18 (Or.inr (slot_ne (Or.inl (kw95 hw)) (Or.inl (kw116 hw)) (by decide) (t := .long) (t' := .int) (by decide) (by decide))))
  have f32 : Fld Z h18 a1 "com/example/okno/okno/AdmissionLog" "olderTotal" "J" (.long u_olderTotal) := (((((P15.ext E4).ext E5).other W12 (Or.inr (slot_ne (Or.inl (kw101 hw)) (Or.inl (kw36 hw)) (by decide) (t := .long) (t' := (.array .long)) (by decide) (by decide)))).other W15 (Or.inr (slot_ne (Or.inl (kw101 hw)) (Or.inl (kw38 hw)) (by decide) (t := .long) (t' := (.array .long)) (by decide) (by decide)))).other W18 (Or.inr (slot_ne (Or.inl (kw101 hw)) (Or.inl (kw116 hw)) (by decide) (t := .long) (t' := .int) (by decide) (by decide))))
  have f33 : Fld Z h18 a1 "com/example/okno/okno/AdmissionLog" "size" "I" (.int (0 : Int32)) := (((f8.other W12 (Or.inr (slot_ne (Or.inl (kw107 hw)) (Or.inl (kw36 hw)) (by decide) (t := .int) (t' := (.array .long)) (by decide) (by decide)))).other W15 (Or.inr (slot_ne (Or.inl (kw107 hw)) (Or.inl (kw38 hw)) (by decide) (t := .int) (t' := (.array .long)) (by decide) (by decide)))).other W18 (Or.inr (slot_ne (Or.inl (kw107 hw)) (Or.inl (kw116 hw)) (by decide) (t := .int) (t' := .int) (by decide) (by decide))))
  obtain ⟨fs, hr, hrun, hended, hW, hsame⟩ := X18.leave (v := none) (fun _ => rfl)
  refine ⟨_, _, pre0 _ ?_, hrun, hended, _, _, rfl, ?_, ⟨_, rfl⟩, hW, hsame.mono (by decide) (by decide)⟩
  · skip
    refine XS.iconst X0.here hx rfl (hb hby d18_0) ?_
    refine XS.aloadN X0.here hx rfl (hb hby d18_1) rfl rfl ?_
    refine st1 _ ?_
    refine X1.arraylength hx (by rw [e1]; exact Ar2.1) (State.isArrayOf_alike hZ.alike Ar2.2.1) (g := (mkF m 5 #[.val (.ref a1), .unset, .unset, .unset, .unset] [(.ref w_NO_ENTRIES), (.int (4 : Int32))])) rfl rfl (hb hby d18_5) _ ?_
    rw [len_of S2 N2']
    refine XS.iconst X1.here hx rfl (hb hby d18_6) ?_
    refine XS.imul X1.here hx rfl (hb hby d18_7) rfl ?_
    refine st3 _ ?_
    refine XS.istoreN X3.here hx rfl (hb hby d18_11) rfl (l' := #[.val (.ref a1), .val (.int (4 : Int32)), .unset, .unset, .unset]) rfl ?_
    refine XS.iloadN X3.here hx rfl (hb hby d18_12) rfl ?_
    refine st4 _ ?_
    refine XS.astoreN X4.here hx rfl (hb hby d18_15) rfl rfl (l' := #[.val (.ref a1), .val (.int (4 : Int32)), .val (.ref b4), .unset, .unset]) rfl ?_
    refine XS.iloadN X4.here hx rfl (hb hby d18_16) rfl ?_
    refine st5 _ ?_
    refine XS.astoreN X5.here hx rfl (hb hby d18_19) rfl rfl (l' := #[.val (.ref a1), .val (.int (4 : Int32)), .val (.ref b4), .val (.ref b5), .unset]) rfl ?_
    refine XS.iconst X5.here hx rfl (hb hby d18_20) ?_
    refine XS.istore X5.here hx rfl (hb hby d18_21) rfl (l' := #[.val (.ref a1), .val (.int (4 : Int32)), .val (.ref b4), .val (.ref b5), .val (.int (0 : Int32))]) rfl ?_
    refine XS.iload X5.here hx rfl (hb hby d18_23) rfl ?_
    refine XS.aloadN X5.here hx rfl (hb hby d18_25) rfl rfl ?_
    refine st9 _ ?_
    refine XS.icmpYes X9.here hx rfl (pc0 := 29) (pc' := 68) rfl (hb hby d18_29) rfl (flt (by decide : ¬ ((0 : Int32) < (0 : Int32)))).2.1 (by decide) (by decide) ?_
    refine XS.aloadN X9.here hx rfl (hb hby d18_68) rfl rfl ?_
    refine XS.aloadN X9.here hx rfl (hb hby d18_69) rfl rfl ?_
    refine st12 _ ?_
    refine XS.aloadN X12.here hx rfl (hb hby d18_73) rfl rfl ?_
    show Steps p.tables e below (T12.setTop (mkF m 74 #[.val (.ref a1), .val (.int (4 : Int32)), .val (.ref b4), .val (.ref b5), .val (.int (0 : Int32))] [(.ref a1)])) _
    refine XS.aloadN X12.here hx rfl (hb hby d18_74) rfl rfl ?_
    refine st15 _ ?_
    refine XS.aloadN X15.here hx rfl (hb hby d18_78) rfl rfl ?_
    refine XS.iconst X15.here hx rfl (hb hby d18_79) ?_
    refine st18 _ ?_
    show Steps p.tables e below (T18.setTop (mkF m 83 #[.val (.ref a1), .val (.int (4 : Int32)), .val (.ref b4), .val (.ref b5), .val (.int (0 : Int32))] [])) _
    exact X18.returnOut hx Bd.returns (hb hby d18_83) hr
  · show Q_rmGrow Z a1 w_NO_ENTRIES kn u_newest u_oldestSubWindow u_lastTime u_subWindowMillis u_lastSubWindow u_shorterWindows u_total u_newestSubWindow u_newestSubWindowEnd u_olderTotal u_head h0 n0 _ T18.heap _
    rw [e18]
    exact ⟨b4, k4, b5, k5, rfl, N18, K18, g_b4, sz_b4, f19, g_b5, sz_b5, f20, ne5_b4, f21, f22, f23, f24, f25, f26, f27, f28, f29, f30, f31, f32, f33, Fw18⟩
theorem ef_rmIdx_13 (m : MethodId) (x0 : Addr) (x1 : Int32) : entryFrame m #[(.ref x0), (.int x1)] 2 = mkF m 0 #[.val (.ref x0), .val (.int x1)] [] := by first | (simp [entryFrame, mkF, argsToLocals, Value.category]; done) | rfl
def Q_rmIdx_13 (Z : State) (a1 : Addr) (rs : Addr) (k1 : ClassId) (vs1 : List Value) (h0 : Heap) (n0 : Nat) (v : Option Value) (h : Heap) (L : List Loc) : Prop := v = some (.int (0 : Int32)) ∧ Fr n0 L ∧ h = h0
set_option maxRecDepth 65536 in
set_option maxHeartbeats 40000000 in
theorem rmIdx_13 (l : Launch) (Z : State) (a0 : Array Value) (hw : ∀ d ∈ tables_1, d.before a0 Z = true) (ws : List Jvm.Cond) (a1 : Addr) (rs : Addr) (k1 : ClassId) (vs1 : List Value) (h0 : Heap) (n0 : Nat) (Z0 : n0 ≤ h0.size) (P0 : Exa Z h0 a1 "com/example/okno/okno/AdmissionLog") (P1 : Fld Z h0 a1 "com/example/okno/okno/AdmissionLog" "head" "I" (.int (0 : Int32))) (P2 : Fld Z h0 a1 "com/example/okno/okno/AdmissionLog" "subWindows" "[J" (.ref rs)) (P3 : Arv Z h0 rs k1 .long (4 : Int32) vs1 (.long (0 : Int64))) :
    MetFree l (⟨"com/example/okno/okno/AdmissionLog", "index", "(I)I"⟩ : MethodName) (head1 (Jvm.Cond.code (⟨"com/example/okno/okno/AdmissionLog", "index", "(I)I"⟩ : MethodName) prog_2_method_25_code 2 (some .int) :: ws) ({ frames := 0, cells := 0, slots := 0, locals := 0 } : Room)) (fun a U => a = #[(.ref a1), (.int (0 : Int32))] ∧ Z.Warmed39 U.vm ∧ U.heap = h0) (fun _ _ _ _ _ => True) (fun _ U o U' => ∃ v L, o = .returned v ∧ Q_rmIdx_13 Z a1 rs k1 vs1 h0 n0 v U'.heap L ∧ FrameEnd U o U' L ({ frames := 0, cells := 0, slots := 0, locals := 0 } : Room).cells ({ frames := 0, cells := 0, slots := 0, locals := 0 } : Room).slots) := by
  refine MetFree.of_bodySF (plainFor_of_name pn_2) hisR ?_
  intro p e s m args below meth c s₁ Bd hml0 hP hK
  obtain ⟨rfl, hZ, hh⟩ := hP
  have hx := Bd.exec
  have hby := Bd.bytes
  have hml : c.maxLocals = 2 := hml0
  have hown : s.vm.findClass "com/example/okno/okno/AdmissionLog" = some m.cls := findClass_of_methodNamed Bd.named
  have hnm := (name_of_methodNamed Bd.named Bd.method).1
  have X0 : Stand p l e ({ frames := 0, cells := 0, slots := 0, locals := 0 } : Room) s m #[(.ref a1), (.int (0 : Int32))] below meth c s₁ [] 0 0 := Stand.of_body Bd
  have e0 : s₁.heap = h0 := by rw [← hh, Bd.state]; rfl
  have N0 := Fr.nil n0
  have KR : Keep h0 h0 [] := Keep.refl h0 _
  have pre0 : ∀ t, Steps p.tables e below (s₁.setTop (mkF m 0 #[.val (.ref a1), .val (.int (0 : Int32))] [])) t → Steps p.tables e below (s₁.setTop (entryFrame m #[(.ref a1), (.int (0 : Int32))] 2)) t := fun t k => castTop (ef_rmIdx_13 m (a1) ((0 : Int32))) k
  obtain ⟨T1, X1, e1, st1⟩ := getF X0 hx hZ hown (host := "") (Or.inl (kw115 hw)) Via.refl e0 P1 (g := (mkF m 1 #[.val (.ref a1), .val (.int (0 : Int32))] [(.ref a1)])) rfl rfl (hb hby d20_1)
  obtain ⟨T2, X2, e2, st2⟩ := getF X1 hx hZ hown (host := "") (Or.inl (kw35 hw)) Via.refl e1 P2 (g := (mkF m 7 #[.val (.ref a1), .val (.int (0 : Int32))] [(.ref a1), (.int (0 : Int32))])) rfl rfl (hb hby d20_7)
  obtain ⟨cl3, Ar3, -, S3, N3', -, -⟩ := id P3
  obtain ⟨fs, hr, hrun, hended, hW, hsame⟩ := X2.leave (v := some (.int (0 : Int32))) (fun h => by rw [Bd.returns] at h; cases h)
  refine ⟨_, _, pre0 _ ?_, hrun, hended, _, _, rfl, ?_, ⟨_, rfl⟩, hW, hsame.mono (by decide) (by decide)⟩
  · skip
    refine XS.aloadN X0.here hx rfl (hb hby d20_0) rfl rfl ?_
    refine st1 _ ?_
    refine XS.iloadN X1.here hx rfl (hb hby d20_4) rfl ?_
    refine XS.iadd X1.here hx rfl (hb hby d20_5) rfl ?_
    refine XS.aloadN X1.here hx rfl (hb hby d20_6) rfl rfl ?_
    refine st2 _ ?_
    refine X2.arraylength hx (by rw [e2]; exact Ar3.1) (State.isArrayOf_alike hZ.alike Ar3.2.1) (g := (mkF m 10 #[.val (.ref a1), .val (.int (0 : Int32))] [(.ref rs), (.int (0 : Int32))])) rfl rfl (hb hby d20_10) _ ?_
    rw [len_of S3 N3']
    refine XS.iconst X2.here hx rfl (hb hby d20_11) ?_
    refine XS.isub X2.here hx rfl (hb hby d20_12) rfl ?_
    refine XS.iand X2.here hx rfl (hb hby d20_13) rfl ?_
    show Steps p.tables e below (T2.setTop (mkF m 14 #[.val (.ref a1), .val (.int (0 : Int32))] [(.int (0 : Int32))])) _
    exact retI X2 hx Bd.returns (hb hby d20_14) hr
  · show Q_rmIdx_13 Z a1 rs k1 vs1 h0 n0 _ T2.heap _
    rw [e2]
    exact ⟨rfl, N0, rfl⟩
theorem ef_rmPush_11 (m : MethodId) (x0 : Addr) (x1 : Int64) (x2 : Int64) : entryFrame m #[(.ref x0), (.long x1), (.long x2)] 5 = mkF m 0 #[.val (.ref x0), .val (.long x1), .second, .val (.long x2), .second] [] := by first | (simp [entryFrame, mkF, argsToLocals, Value.category]; done) | rfl
def Q_rmPush_11 (Z : State) (a1 : Addr) (q1 : Int64) (q2 : Int64) (w_NO_ENTRIES : Addr) (kn : ClassId) (u_newest : Int64) (u_oldestSubWindow : Int64) (u_lastTime : Int64) (u_subWindowMillis : Int64) (u_lastSubWindow : Int64) (u_shorterWindows : Addr) (u_total : Int64) (u_newestSubWindow : Int64) (u_newestSubWindowEnd : Int64) (u_olderTotal : Int64) (u_head : Int32) (h0 : Heap) (n0 : Nat) (v : Option Value) (h : Heap) (L : List Loc) : Prop := ∃ fr0 : Addr, ∃ fk0 : ClassId, ∃ fr1 : Addr, ∃ fk1 : ClassId, v = none ∧ Fr n0 L ∧ Keep h0 h [a1] ∧ n0 ≤ fr0 ∧ h0.size ≤ fr0 ∧ Arv Z h fr0 fk0 .long (4 : Int32) [(.long q1), (.long (0 : Int64)), (.long (0 : Int64)), (.long (0 : Int64))] (.long (0 : Int64)) ∧ n0 ≤ fr1 ∧ h0.size ≤ fr1 ∧ Arv Z h fr1 fk1 .long (4 : Int32) [(.long q2), (.long (0 : Int64)), (.long (0 : Int64)), (.long (0 : Int64))] (.long (0 : Int64)) ∧ fr0 ≠ fr1 ∧ Fld Z h a1 "com/example/okno/okno/AdmissionLog" "newest" "J" (.long u_newest) ∧ Fld Z h a1 "com/example/okno/okno/AdmissionLog" "subWindows" "[J" (.ref fr0) ∧ Fld Z h a1 "com/example/okno/okno/AdmissionLog" "amounts" "[J" (.ref fr1) ∧ Fld Z h a1 "com/example/okno/okno/AdmissionLog" "oldestSubWindow" "J" (.long u_oldestSubWindow) ∧ Fld Z h a1 "com/example/okno/okno/AdmissionLog" "lastTime" "J" (.long u_lastTime) ∧ Fld Z h a1 "com/example/okno/okno/AdmissionLog" "subWindowMillis" "J" (.long u_subWindowMillis) ∧ Fld Z h a1 "com/example/okno/okno/AdmissionLog" "lastSubWindow" "J" (.long u_lastSubWindow) ∧ Fld Z h a1 "com/example/okno/okno/AdmissionLog" "shorterWindows" "[J" (.ref u_shorterWindows) ∧ Fld Z h a1 "com/example/okno/okno/AdmissionLog" "total" "J" (.long u_total) ∧ Fld Z h a1 "com/example/okno/okno/AdmissionLog" "newestSubWindow" "J" (.long u_newestSubWindow) ∧ Fld Z h a1 "com/example/okno/okno/AdmissionLog" "newestSubWindowEnd" "J" (.long u_newestSubWindowEnd) ∧ Fld Z h a1 "com/example/okno/okno/AdmissionLog" "olderTotal" "J" (.long (u_olderTotal + q2)) ∧ Fld Z h a1 "com/example/okno/okno/AdmissionLog" "size" "I" (.int (1 : Int32)) ∧ Fld Z h a1 "com/example/okno/okno/AdmissionLog" "head" "I" (.int (0 : Int32))
set_option maxRecDepth 65536 in
set_option maxHeartbeats 40000000 in
theorem rmPush_11 (l : Launch) (Z : State) (a0 : Array Value) (hw : ∀ d ∈ tables_1, d.before a0 Z = true) (ws : List Jvm.Cond) (a1 : Addr) (q1 : Int64) (q2 : Int64) (w_NO_ENTRIES : Addr) (kn : ClassId) (u_newest : Int64) (u_oldestSubWindow : Int64) (u_lastTime : Int64) (u_subWindowMillis : Int64) (u_lastSubWindow : Int64) (u_shorterWindows : Addr) (u_total : Int64) (u_newestSubWindow : Int64) (u_newestSubWindowEnd : Int64) (u_olderTotal : Int64) (u_head : Int32) (h0 : Heap) (n0 : Nat) (Z0 : n0 ≤ h0.size) (P0 : Exa Z h0 a1 "com/example/okno/okno/AdmissionLog") (P1 : n0 ≤ a1) (P2 : w_NO_ENTRIES ≠ a1) (P3 : Arv Z h0 w_NO_ENTRIES kn .long (0 : Int32) [] (.long (0 : Int64))) (P4 : Fld Z h0 a1 "com/example/okno/okno/AdmissionLog" "newest" "J" (.long u_newest)) (P5 : Fld Z h0 a1 "com/example/okno/okno/AdmissionLog" "subWindows" "[J" (.ref w_NO_ENTRIES)) (P6 : Fld Z h0 a1 "com/example/okno/okno/AdmissionLog" "amounts" "[J" (.ref w_NO_ENTRIES)) (P7 : Fld Z h0 a1 "com/example/okno/okno/AdmissionLog" "oldestSubWindow" "J" (.long u_oldestSubWindow)) (P8 : Fld Z h0 a1 "com/example/okno/okno/AdmissionLog" "lastTime" "J" (.long u_lastTime)) (P9 : Fld Z h0 a1 "com/example/okno/okno/AdmissionLog" "subWindowMillis" "J" (.long u_subWindowMillis)) (P10 : Fld Z h0 a1 "com/example/okno/okno/AdmissionLog" "lastSubWindow" "J" (.long u_lastSubWindow)) (P11 : Fld Z h0 a1 "com/example/okno/okno/AdmissionLog" "shorterWindows" "[J" (.ref u_shorterWindows)) (P12 : Fld Z h0 a1 "com/example/okno/okno/AdmissionLog" "total" "J" (.long u_total)) (P13 : Fld Z h0 a1 "com/example/okno/okno/AdmissionLog" "newestSubWindow" "J" (.long u_newestSubWindow)) (P14 : Fld Z h0 a1 "com/example/okno/okno/AdmissionLog" "newestSubWindowEnd" "J" (.long u_newestSubWindowEnd)) (P15 : Fld Z h0 a1 "com/example/okno/okno/AdmissionLog" "olderTotal" "J" (.long u_olderTotal)) (P16 : Fld Z h0 a1 "com/example/okno/okno/AdmissionLog" "size" "I" (.int (0 : Int32))) (P17 : Fld Z h0 a1 "com/example/okno/okno/AdmissionLog" "head" "I" (.int u_head)) :
    MetFree l (⟨"com/example/okno/okno/AdmissionLog", "pushOlder", "(JJ)V"⟩ : MethodName) (head1 (Jvm.Cond.code (⟨"com/example/okno/okno/AdmissionLog", "pushOlder", "(JJ)V"⟩ : MethodName) prog_2_method_24_code 5 none :: ws) ({ frames := 2, cells := 2, slots := 8, locals := 29 } : Room)) (fun a U => a = #[(.ref a1), (.long q1), (.long q2)] ∧ Z.Warmed39 U.vm ∧ U.heap = h0) (fun _ _ _ _ _ => True) (fun _ U o U' => ∃ v L, o = .returned v ∧ Q_rmPush_11 Z a1 q1 q2 w_NO_ENTRIES kn u_newest u_oldestSubWindow u_lastTime u_subWindowMillis u_lastSubWindow u_shorterWindows u_total u_newestSubWindow u_newestSubWindowEnd u_olderTotal u_head h0 n0 v U'.heap L ∧ FrameEnd U o U' L ({ frames := 2, cells := 2, slots := 8, locals := 29 } : Room).cells ({ frames := 2, cells := 2, slots := 8, locals := 29 } : Room).slots) := by
  refine MetFree.of_bodySF (plainFor_of_name pn_2) hisR ?_
  intro p e s m args below meth c s₁ Bd hml0 hP hK
  obtain ⟨rfl, hZ, hh⟩ := hP
  have hx := Bd.exec
  have hby := Bd.bytes
  have hml : c.maxLocals = 5 := hml0
  have hown : s.vm.findClass "com/example/okno/okno/AdmissionLog" = some m.cls := findClass_of_methodNamed Bd.named
  have hnm := (name_of_methodNamed Bd.named Bd.method).1
  have X0 : Stand p l e ({ frames := 2, cells := 2, slots := 8, locals := 29 } : Room) s m #[(.ref a1), (.long q1), (.long q2)] below meth c s₁ [] 0 0 := Stand.of_body Bd
  have e0 : s₁.heap = h0 := by rw [← hh, Bd.state]; rfl
  have N0 := Fr.nil n0
  have KR : Keep h0 h0 [a1] := Keep.refl h0 _
  have pre0 : ∀ t, Steps p.tables e below (s₁.setTop (mkF m 0 #[.val (.ref a1), .val (.long q1), .second, .val (.long q2), .second] [])) t → Steps p.tables e below (s₁.setTop (entryFrame m #[(.ref a1), (.long q1), (.long q2)] 5)) t := fun t k => castTop (ef_rmPush_11 m (a1) (q1) (q2)) k
  obtain ⟨T1, X1, e1, st1⟩ := getF X0 hx hZ hown (host := "") (Or.inl (kw106 hw)) Via.refl e0 P16 (g := (mkF m 1 #[.val (.ref a1), .val (.long q1), .second, .val (.long q2), .second] [(.ref a1)])) rfl rfl (hb hby d17_1)
  obtain ⟨T2, X2, e2, st2⟩ := getF X1 hx hZ hown (host := "") (Or.inl (kw35 hw)) Via.refl e1 P5 (g := (mkF m 5 #[.val (.ref a1), .val (.long q1), .second, .val (.long q2), .second] [(.ref a1), (.int (0 : Int32))])) rfl rfl (hb hby d17_5)
  obtain ⟨cl3, Ar3, -, S3, N3', -, -⟩ := id P3
  obtain ⟨cq4, q4, q4'⟩ := (P0).cell
  obtain ⟨_, _, ⟨T4, L4, k4, n4⟩, -, X4, ⟨Lc4, hQ4, l4, y4, z4⟩, st4⟩ := X2.privateBack hx (y := (⟨"com/example/okno/okno/AdmissionLog", "grow", "()V"⟩ : MethodName)) hown (mvT hZ (kw108 hw)) (mvT hZ (kw109 hw)) (mvT hZ (own_selP rfl (kw17 hw) (kw109 hw) (kw110 hw) (by decide))) (Cond.privateMethod_at (mvP hZ (kw110 hw) (args := #[]))) (mvT hZ (kw111 hw)) (by decide) (backOf (W := 0) (rmGrow l Z a0 hw [] a1 w_NO_ENTRIES kn u_newest u_oldestSubWindow u_lastTime u_subWindowMillis u_lastSubWindow u_shorterWindows u_total u_newestSubWindow u_newestSubWindowEnd u_olderTotal u_head h0 n0 Z0 P0 P1 P2 P3 P4 P5 P6 P7 P8 P9 P10 P11 P12 P13 P14 P15 P16 P17) hZ (kw111 hw) (kw18 hw) (by decide) (by decide)) (g := (mkF m 13 #[.val (.ref a1), .val (.long q1), .second, .val (.long q2), .second] [(.ref a1)])) rfl (by rw [hml]; rfl) (Steps.refl _) (a := a1) (by rw [e2]; exact q4) q4' (argsL := []) (rest := []) (lenOf pd_2 rfl) rfl (by show 2 * 0 + _ ≤ _; exact Nat.le_of_eq rfl) (hb hby d17_13) (fun _ _ => ⟨rfl, e2, (by decide : 0 + 2 ≤ _), (by decide : 0 + 8 ≤ _)⟩)
  dsimp only [Pt.U, Pt.locs, Pt.cells, Pt.slots] at X4 l4 y4 z4 st4 hQ4
  subst l4 y4 z4
  obtain ⟨fr0_4, fk0_4, fr1_4, fk1_4, rfl, N4q, Kq4, p4_0, p4_1, p4_2, p4_3, p4_4, p4_5, p4_6, p4_7, p4_8, p4_9, p4_10, p4_11, p4_12, p4_13, p4_14, p4_15, p4_16, p4_17, p4_18, p4_19, p4_20⟩ := hQ4
  have N4 := Fr.app N0 N4q
  have Z4 : n0 ≤ T4.heap.size := Nat.le_trans Z0 Kq4.1
  have K4 : Keep h0 T4.heap [a1] := KR.trans Kq4 (allS (Or.inl (List.mem_of_getElem? (i := 0) rfl)) all0)
  have sz_fr0_4 : h0.size ≤ fr0_4 := Nat.le_trans KR.1 p4_1
  have ne4_a1_fr0_4 : a1 ≠ fr0_4 := Nat.ne_of_lt (Nat.lt_of_lt_of_le P0.lt p4_1)
  have ne4_w_NO_ENTRIES_fr0_4 : w_NO_ENTRIES ≠ fr0_4 := Nat.ne_of_lt (Nat.lt_of_lt_of_le P3.lt p4_1)
  have sz_fr1_4 : h0.size ≤ fr1_4 := Nat.le_trans KR.1 p4_4
  have ne4_a1_fr1_4 : a1 ≠ fr1_4 := Nat.ne_of_lt (Nat.lt_of_lt_of_le P0.lt p4_4)
  have ne4_w_NO_ENTRIES_fr1_4 : w_NO_ENTRIES ≠ fr1_4 := Nat.ne_of_lt (Nat.lt_of_lt_of_le P3.lt p4_4)
  obtain ⟨T5, X5, e5, st5⟩ := getF X4 hx hZ hown (host := "") (Or.inl (kw35 hw)) Via.refl rfl p4_8 (g := (mkF m 17 #[.val (.ref a1), .val (.long q1), .second, .val (.long q2), .second] [(.ref a1)])) rfl rfl (hb hby d17_17)
  obtain ⟨T6, X6, e6, st6⟩ := getF X5 hx hZ hown (host := "") (Or.inl (kw106 hw)) Via.refl e5 p4_19 (g := (mkF m 22 #[.val (.ref a1), .val (.long q1), .second, .val (.long q2), .second] [(.ref a1), (.ref a1), (.ref fr0_4)])) rfl rfl (hb hby d17_22)
  have f8 : Exa Z T4.heap a1 "com/example/okno/okno/AdmissionLog" := (P0.keep Kq4)
  obtain ⟨cq7, q7, q7'⟩ := (f8).cell
  obtain ⟨_, _, ⟨T7, L7, k7, n7⟩, -, X7, ⟨Lc7, hQ7, l7, y7, z7⟩, st7⟩ := X6.privateBack hx (y := (⟨"com/example/okno/okno/AdmissionLog", "index", "(I)I"⟩ : MethodName)) hown (mvT hZ (kw117 hw)) (mvT hZ (kw118 hw)) (mvT hZ (own_selP rfl (kw17 hw) (kw118 hw) (kw119 hw) (by decide))) (Cond.privateMethod_at (mvP hZ (kw119 hw) (args := #[]))) (mvT hZ (kw120 hw)) (by decide) (backOf (W := 1) (rmIdx_13 l Z a0 hw [] a1 fr0_4 fk0_4 ([(.long (0 : Int64)), (.long (0 : Int64)), (.long (0 : Int64)), (.long (0 : Int64))]) T4.heap n0 Z4 f8 p4_20 p4_8 p4_2) hZ (kw120 hw) (kw18 hw) (by decide) (by decide)) (g := (mkF m 25 #[.val (.ref a1), .val (.long q1), .second, .val (.long q2), .second] [(.int (0 : Int32)), (.ref a1), (.ref fr0_4)])) rfl (by rw [hml]; rfl) (Steps.refl _) (a := a1) (by rw [e6]; exact q7) q7' (argsL := [(.int (0 : Int32))]) (rest := [(.ref fr0_4)]) (lenOf pd_11 rfl) rfl (by show 2 * 0 + _ ≤ _; exact Nat.le_of_eq rfl) (hb hby d17_25) (fun _ _ => ⟨rfl, e6, (by decide : 2 + 0 ≤ _), (by decide : 8 + 0 ≤ _)⟩)
  dsimp only [Pt.U, Pt.locs, Pt.cells, Pt.slots] at X7 l7 y7 z7 st7 hQ7
  subst l7 y7 z7
  obtain ⟨rfl, N7q, e7⟩ := hQ7
  have N7 := Fr.app N4 N7q
  obtain ⟨cl9, Ar9, q9, S9, N9', H9, G9⟩ := id p4_2
  have hin9 : ¬ ((0 : Int32) < 0 ∨ cl9.slots.size ≤ ((0 : Int32)).toNatClampNeg) := inb_of S9 ⟨by decide, by decide⟩
  obtain ⟨T9, h9, X9, e9, W9, st9⟩ := stJ X7 hx hZ e7 Ar9 (j := (0 : Int32)) hin9 (g := (mkF m 29 #[.val (.ref a1), .val (.long q1), .second, .val (.long q2), .second] [(.long q1), (.int (0 : Int32)), (.ref fr0_4)])) rfl rfl (hb hby d17_29)
  have Z9 : n0 ≤ h9.size := Nat.le_trans Z4 (Keep.of_wr W9).1
  have K9 : Keep h0 h9 [a1] := K4.wr W9 (Or.inr sz_fr0_4)
  have N9 := Fr.snoc X9 N7 p4_0
  have V9 : Arv Z h9 fr0_4 fk0_4 .long (4 : Int32) ([(.long (0 : Int64)), (.long (0 : Int64)), (.long (0 : Int64)), (.long (0 : Int64))].set 0 (.long q1)) (.long (0 : Int64)) := Arv.set Ar9 q9 S9 N9' H9 G9 rfl W9 0 rfl (Nat.le_of_ble_eq_true rfl)
  have Vs9 : Arv Z h9 fr0_4 fk0_4 .long (4 : Int32) [(.long q1), (.long (0 : Int64)), (.long (0 : Int64)), (.long (0 : Int64))] (.long (0 : Int64)) := V9
  have f10 : Fld Z h9 a1 "com/example/okno/okno/AdmissionLog" "amounts" "[J" (.ref fr1_4) := (p4_9.other W9 (Or.inl ne4_a1_fr0_4))
  obtain ⟨T11, X11, e11, st11⟩ := getF X9 hx hZ hown (host := "") (Or.inl (kw37 hw)) Via.refl e9 f10 (g := (mkF m 31 #[.val (.ref a1), .val (.long q1), .second, .val (.long q2), .second] [(.ref a1)])) rfl rfl (hb hby d17_31)
  have f12 : Fld Z h9 a1 "com/example/okno/okno/AdmissionLog" "size" "I" (.int (0 : Int32)) := (p4_19.other W9 (Or.inl ne4_a1_fr0_4))
  obtain ⟨T13, X13, e13, st13⟩ := getF X11 hx hZ hown (host := "") (Or.inl (kw106 hw)) Via.refl e11 f12 (g := (mkF m 36 #[.val (.ref a1), .val (.long q1), .second, .val (.long q2), .second] [(.ref a1), (.ref a1), (.ref fr1_4)])) rfl rfl (hb hby d17_36)
  have f15 : Exa Z h9 a1 "com/example/okno/okno/AdmissionLog" := (f8.wr W9)
  have f16 : Fld Z h9 a1 "com/example/okno/okno/AdmissionLog" "head" "I" (.int (0 : Int32)) := (p4_20.other W9 (Or.inl ne4_a1_fr0_4))
  have f17 : Fld Z h9 a1 "com/example/okno/okno/AdmissionLog" "subWindows" "[J" (.ref fr0_4) := (p4_8.other W9 (Or.inl ne4_a1_fr0_4))
  obtain ⟨cq14, q14, q14'⟩ := (f15).cell
  obtain ⟨_, _, ⟨T14, L14, k14, n14⟩, -, X14, ⟨Lc14, hQ14, l14, y14, z14⟩, st14⟩ := X13.privateBack hx (y := (⟨"com/example/okno/okno/AdmissionLog", "index", "(I)I"⟩ : MethodName)) hown (mvT hZ (kw117 hw)) (mvT hZ (kw118 hw)) (mvT hZ (own_selP rfl (kw17 hw) (kw118 hw) (kw119 hw) (by decide))) (Cond.privateMethod_at (mvP hZ (kw119 hw) (args := #[]))) (mvT hZ (kw120 hw)) (by decide) (backOf (W := 1) (rmIdx_13 l Z a0 hw [] a1 fr0_4 fk0_4 ([(.long q1), (.long (0 : Int64)), (.long (0 : Int64)), (.long (0 : Int64))]) h9 n0 Z9 f15 f16 f17 Vs9) hZ (kw120 hw) (kw18 hw) (by decide) (by decide)) (g := (mkF m 39 #[.val (.ref a1), .val (.long q1), .second, .val (.long q2), .second] [(.int (0 : Int32)), (.ref a1), (.ref fr1_4)])) rfl (by rw [hml]; rfl) (Steps.refl _) (a := a1) (by rw [e13]; exact q14) q14' (argsL := [(.int (0 : Int32))]) (rest := [(.ref fr1_4)]) (lenOf pd_11 rfl) rfl (by show 2 * 0 + _ ≤ _; exact Nat.le_of_eq rfl) (hb hby d17_39) (fun _ _ => ⟨rfl, e13, (by decide : 2 + 0 ≤ _), (by decide : 8 + 0 ≤ _)⟩)
  dsimp only [Pt.U, Pt.locs, Pt.cells, Pt.slots] at X14 l14 y14 z14 st14 hQ14
  subst l14 y14 z14
  obtain ⟨rfl, N14q, e14⟩ := hQ14
  have N14 := Fr.app N9 N14q
  have f19 : Arv Z h9 fr1_4 fk1_4 .long (4 : Int32) [(.long (0 : Int64)), (.long (0 : Int64)), (.long (0 : Int64)), (.long (0 : Int64))] (.long (0 : Int64)) := (p4_5.other W9 (Ne.symm p4_6))
  obtain ⟨cl18, Ar18, q18, S18, N18', H18, G18⟩ := id f19
  have hin18 : ¬ ((0 : Int32) < 0 ∨ cl18.slots.size ≤ ((0 : Int32)).toNatClampNeg) := inb_of S18 ⟨by decide, by decide⟩
  obtain ⟨T18, h18, X18, e18, W18, st18⟩ := stJ X14 hx hZ e14 Ar18 (j := (0 : Int32)) hin18 (g := (mkF m 43 #[.val (.ref a1), .val (.long q1), .second, .val (.long q2), .second] [(.long q2), (.int (0 : Int32)), (.ref fr1_4)])) rfl rfl (hb hby d17_43)
  have Z18 : n0 ≤ h18.size := Nat.le_trans Z9 (Keep.of_wr W18).1
  have K18 : Keep h0 h18 [a1] := K9.wr W18 (Or.inr sz_fr1_4)
  have N18 := Fr.snoc X18 N14 p4_3
  have V18 : Arv Z h18 fr1_4 fk1_4 .long (4 : Int32) ([(.long (0 : Int64)), (.long (0 : Int64)), (.long (0 : Int64)), (.long (0 : Int64))].set 0 (.long q2)) (.long (0 : Int64)) := Arv.set Ar18 q18 S18 N18' H18 G18 rfl W18 0 rfl (Nat.le_of_ble_eq_true rfl)
  have Vs18 : Arv Z h18 fr1_4 fk1_4 .long (4 : Int32) [(.long q2), (.long (0 : Int64)), (.long (0 : Int64)), (.long (0 : Int64))] (.long (0 : Int64)) := V18
  have f20 : Fld Z h18 a1 "com/example/okno/okno/AdmissionLog" "size" "I" (.int (0 : Int32)) := (f12.other W18 (Or.inl ne4_a1_fr1_4))
  obtain ⟨T21, X21, e21, st21⟩ := getF X18 hx hZ hown (host := "") (Or.inl (kw106 hw)) Via.refl e18 f20 (g := (mkF m 46 #[.val (.ref a1), .val (.long q1), .second, .val (.long q2), .second] [(.ref a1), (.ref a1)])) rfl rfl (hb hby d17_46)
  have f22 : Exa Z h18 a1 "com/example/okno/okno/AdmissionLog" := (f15.wr W18)
  obtain ⟨T23, h23, X23, e23, W23, st23⟩ := putF X21 hx hZ hown (host := "") (Or.inl (kw106 hw)) Via.refl e21 f20 f22 (Or.inl (kw107 hw)) (kw17 hw) (ty := .int) (by decide) rfl rfl (g := (mkF m 51 #[.val (.ref a1), .val (.long q1), .second, .val (.long q2), .second] [(.int (1 : Int32)), (.ref a1)])) rfl rfl (hb hby d17_51)
  have Z23 : n0 ≤ h23.size := Nat.le_trans Z18 (Keep.of_wr W23).1
  have K23 : Keep h0 h23 [a1] := K18.wr W23 (Or.inl (List.mem_of_getElem? (i := 0) rfl))
  have N23 := Fr.snoc X23 N18 P1
  have Fw23 : Fld Z h23 a1 "com/example/okno/okno/AdmissionLog" "size" "I" (.int (1 : Int32)) := f20.same W23
  have f24 : Fld Z h23 a1 "com/example/okno/okno/AdmissionLog" "olderTotal" "J" (.long u_olderTotal) := (((p4_18.other W9 (Or.inl ne4_a1_fr0_4)).other W18 (Or.inl ne4_a1_fr1_4)).other W23 (Or.inr (slot_ne (Or.inl (kw101 hw)) (Or.inl (kw107 hw)) (by decide) (t := .long) (t' := .int) (by decide) (by decide))))
  obtain ⟨T25, X25, e25, st25⟩ := getF X23 hx hZ hown (host := "") (Or.inl (kw100 hw)) Via.refl e23 f24 (g := (mkF m 56 #[.val (.ref a1), .val (.long q1), .second, .val (.long q2), .second] [(.ref a1), (.ref a1)])) rfl rfl (hb hby d17_56)
  have f26 : Exa Z h23 a1 "com/example/okno/okno/AdmissionLog" := (f22.wr W23)
  obtain ⟨T27, h27, X27, e27, W27, st27⟩ := putF X25 hx hZ hown (host := "") (Or.inl (kw100 hw)) Via.refl e25 f24 f26 (Or.inl (kw101 hw)) (kw17 hw) (ty := .long) (by decide) rfl rfl (g := (mkF m 61 #[.val (.ref a1), .val (.long q1), .second, .val (.long q2), .second] [(.long (u_olderTotal + q2)), (.ref a1)])) rfl rfl (hb hby d17_61)
  have Z27 : n0 ≤ h27.size := Nat.le_trans Z23 (Keep.of_wr W27).1
  have K27 : Keep h0 h27 [a1] := K23.wr W27 (Or.inl (List.mem_of_getElem? (i := 0) rfl))
  have N27 := Fr.snoc X27 N23 P1
  have Fw27 : Fld Z h27 a1 "com/example/okno/okno/AdmissionLog" "olderTotal" "J" (.long (u_olderTotal + q2)) := f24.same W27
  have f28 : Arv Z h27 fr0_4 fk0_4 .long (4 : Int32) [(.long q1), (.long (0 : Int64)), (.long (0 : Int64)), (.long (0 : Int64))] (.long (0 : Int64)) := (((Vs9.other W18 p4_6).other W23 (Ne.symm ne4_a1_fr0_4)).other W27 (Ne.symm ne4_a1_fr0_4))
  have f29 : Arv Z h27 fr1_4 fk1_4 .long (4 : Int32) [(.long q2), (.long (0 : Int64)), (.long (0 : Int64)), (.long (0 : Int64))] (.long (0 : Int64)) := ((Vs18.other W23 (Ne.symm ne4_a1_fr1_4)).other W27 (Ne.symm ne4_a1_fr1_4))
  have f30 : Fld Z h27 a1 "com/example/okno/okno/AdmissionLog" "newest" "J" (.long u_newest) := ((((p4_7.other W9 (Or.inl ne4_a1_fr0_4)).other W18 (Or.inl ne4_a1_fr1_4)).other W23 (Or.inr (slot_ne (Or.inl (kw32 hw)) (Or.inl (kw107 hw)) (by decide) (t := .long) (t' := .int) (by decide) (by decide)))).other W27 (Or.inr (slot_ne (Or.inl (kw32 hw)) (Or.inl (kw101 hw)) (by decide) (t := .long) (t' := .long) (by decide) (by decide))))
  have f31 : Fld Z h27 a1 "com/example/okno/okno/AdmissionLog" "subWindows" "[J" (.ref fr0_4) := (((f17.other W18 (Or.inl ne4_a1_fr1_4)).other W23 (Or.inr (slot_ne (Or.inl (kw36 hw)) (Or.inl (kw107 hw)) (by decide) (t := (.array .long)) (t' := .int) (by decide) (by decide)))).other W27 (Or.inr (slot_ne (Or.inl (kw36 hw)) (Or.inl (kw101 hw)) (by decide) (t := (.array .long)) (t' := .long) (by decide) (by decide))))
  have f32 : Fld Z h27 a1 "com/example/okno/okno/AdmissionLog" "amounts" "[J" (.ref fr1_4) := (((f10.other W18 (Or.inl ne4_a1_fr1_4)).other W23 (Or.inr (slot_ne (Or.inl (kw38 hw)) (Or.inl (kw107 hw)) (by decide) (t := (.array .long)) (t' := .int) (by decide) (by decide)))).other W27 (Or.inr (slot_ne (Or.inl (kw38 hw)) (Or.inl (kw101 hw)) (by decide) (t := (.array .long)) (t' := .long) (by decide) (by decide))))
  have f33 : Fld Z h27 a1 "com/example/okno/okno/AdmissionLog" "oldestSubWindow" "J" (.long u_oldestSubWindow) := ((((p4_10.other W9 (Or.inl ne4_a1_fr0_4)).other W18 (Or.inl ne4_a1_fr1_4)).other W23 (Or.inr (slot_ne (Or.inl (kw41 hw)) (Or.inl (kw107 hw)) (by decide) (t := .long) (t' := .int) (by decide) (by decide)))).other W27 (Or.inr (slot_ne (Or.inl (kw41 hw)) (Or.inl (kw101 hw)) (by decide) (t := .long) (t' := .long) (by decide) (by decide))))
  have f34 : Fld Z h27 a1 "com/example/okno/okno/AdmissionLog" "lastTime" "J" (.long u_lastTime) := ((((p4_11.other W9 (Or.inl ne4_a1_fr0_4)).other W18 (Or.inl ne4_a1_fr1_4)).other W23 (Or.inr (slot_ne (Or.inl (kw43 hw)) (Or.inl (kw107 hw)) (by decide) (t := .long) (t' := .int) (by decide) (by decide)))).other W27 (Or.inr (slot_ne (Or.inl (kw43 hw)) (Or.inl (kw101 hw)) (by decide) (t := .long) (t' := .long) (by decide) (by decide))))
  have f35 : Fld Z h27 a1 "com/example/okno/okno/AdmissionLog" "subWindowMillis" "J" (.long u_subWindowMillis) := ((((p4_12.other W9 (Or.inl ne4_a1_fr0_4)).other W18 (Or.inl ne4_a1_fr1_4)).other W23 (Or.inr (slot_ne (Or.inr (kw45 hw)) (Or.inl (kw107 hw)) (by decide) (t := .long) (t' := .int) (by decide) (by decide)))).other W27 (Or.inr (slot_ne (Or.inr (kw45 hw)) (Or.inl (kw101 hw)) (by decide) (t := .long) (t' := .long) (by decide) (by decide))))
  have f36 : Fld Z h27 a1 "com/example/okno/okno/AdmissionLog" "lastSubWindow" "J" (.long u_lastSubWindow) := ((((p4_13.other W9 (Or.inl ne4_a1_fr0_4)).other W18 (Or.inl ne4_a1_fr1_4)).other W23 (Or.inr (slot_ne (Or.inl (kw50 hw)) (Or.inl (kw107 hw)) (by decide) (t := .long) (t' := .int) (by decide) (by decide)))).other W27 (Or.inr (slot_ne (Or.inl (kw50 hw)) (Or.inl (kw101 hw)) (by decide) (t := .long) (t' := .long) (by decide) (by decide))))
  have f37 : Fld Z h27 a1 "com/example/okno/okno/AdmissionLog" "shorterWindows" "[J" (.ref u_shorterWindows) := ((((p4_14.other W9 (Or.inl ne4_a1_fr0_4)).other W18 (Or.inl ne4_a1_fr1_4)).other W23 (Or.inr (slot_ne (Or.inr (kw53 hw)) (Or.inl (kw107 hw)) (by decide) (t := (.array .long)) (t' := .int) (by decide) (by decide)))).other W27 (Or.inr (slot_ne (Or.inr (kw53 hw)) (Or.inl (kw101 hw)) (by decide) (t := (.array .long)) (t' := .long) (by decide) (by decide))))
  have f38 : Fld Z h27 a1 "com/example/okno/okno/AdmissionLog" "total" "J" (.long u_total) := ((((p4_15.other W9 (Or.inl ne4_a1_fr0_4)).other W18 (Or.inl ne4_a1_fr1_4)).other W23 (Or.inr (slot_ne (Or.inl (kw69 hw)) (Or.inl (kw107 hw)) (by decide) (t := .long) (t' := .int) (by decide) (by decide)))).other W27 (Or.inr (slot_ne (Or.inl (kw69 hw)) (Or.inl (kw101 hw)) (by decide) (t := .long) (t' := .long) (by decide) (by decide))))
  have f39 : Fld Z h27 a1 "com/example/okno/okno/AdmissionLog" "newestSubWindow" "J" (.long u_newestSubWindow) := ((((p4_16.other W9 (Or.inl ne4_a1_fr0_4)).other W18 (Or.inl ne4_a1_fr1_4)).other W23 (Or.inr (slot_ne (Or.inl (kw93 hw)) (Or.inl (kw107 hw)) (by decide) (t := .long) (t' := .int) (by decide) (by decide)))).other W27 (Or.inr (slot_ne (Or.inl (kw93 hw)) (Or.inl (kw101 hw)) (by decide) (t := .long) (t' := .long) (by decide) (by decide))))
  have f40 : Fld Z h27 a1 "com/example/okno/okno/AdmissionLog" "newestSubWindowEnd" "J" (.long u_newestSubWindowEnd) := ((((p4_17.other W9 (Or.inl ne4_a1_fr0_4)).other W18 (Or.inl ne4_a1_fr1_4)).other W23 (Or.inr (slot_ne (Or.inl (kw95 hw)) (Or.inl (kw107 hw)) (by decide) (t := .long) (t' := .int) (by decide) (by decide)))).other W27 (Or.inr (slot_ne (Or.inl (kw95 hw)) (Or.inl (kw101 hw)) (by decide) (t := .long) (t' := .long) (by decide) (by decide))))
  have f41 : Fld Z h27 a1 "com/example/okno/okno/AdmissionLog" "size" "I" (.int (1 : Int32)) := (Fw23.other W27 (Or.inr (slot_ne (Or.inl (kw107 hw)) (Or.inl (kw101 hw)) (by decide) (t := .int) (t' := .long) (by decide) (by decide))))
  have f42 : Fld Z h27 a1 "com/example/okno/okno/AdmissionLog" "head" "I" (.int (0 : Int32)) := (((f16.other W18 (Or.inl ne4_a1_fr1_4)).other W23 (Or.inr (slot_ne (Or.inl (kw116 hw)) (Or.inl (kw107 hw)) (by decide) (t := .int) (t' := .int) (by decide) (by decide)))).other W27 (Or.inr (slot_ne (Or.inl (kw116 hw)) (Or.inl (kw101 hw)) (by decide) (t := .int) (t' := .long) (by decide) (by decide))))
  obtain ⟨fs, hr, hrun, hended, hW, hsame⟩ := X27.leave (v := none) (fun _ => rfl)
  refine ⟨_, _, pre0 _ ?_, hrun, hended, _, _, rfl, ?_, ⟨_, rfl⟩, hW, hsame.mono (by decide) (by decide)⟩
  · skip
    refine XS.aloadN X0.here hx rfl (hb hby d17_0) rfl rfl ?_
    refine st1 _ ?_
    refine XS.aloadN X1.here hx rfl (hb hby d17_4) rfl rfl ?_
    refine st2 _ ?_
    refine X2.arraylength hx (by rw [e2]; exact Ar3.1) (State.isArrayOf_alike hZ.alike Ar3.2.1) (g := (mkF m 8 #[.val (.ref a1), .val (.long q1), .second, .val (.long q2), .second] [(.ref w_NO_ENTRIES), (.int (0 : Int32))])) rfl rfl (hb hby d17_8) _ ?_
    rw [len_of S3 N3']
    refine XS.icmpNo X2.here hx rfl (hb hby d17_9) rfl (teq rfl).2 ?_
    refine XS.aloadN X2.here hx rfl (hb hby d17_12) rfl rfl ?_
    refine st4.trans ?_
    refine XS.aloadN X4.here hx rfl (hb hby d17_16) rfl rfl ?_
    refine st5 _ ?_
    refine XS.aloadN X5.here hx rfl (hb hby d17_20) rfl rfl ?_
    refine XS.aloadN X5.here hx rfl (hb hby d17_21) rfl rfl ?_
    refine st6 _ ?_
    refine st7.trans ?_
    refine XS.lloadN X7.here hx rfl (hb hby d17_28) rfl ?_
    refine st9 _ ?_
    refine XS.aloadN X9.here hx rfl (hb hby d17_30) rfl rfl ?_
    refine st11 _ ?_
    refine XS.aloadN X11.here hx rfl (hb hby d17_34) rfl rfl ?_
    refine XS.aloadN X11.here hx rfl (hb hby d17_35) rfl rfl ?_
    refine st13 _ ?_
    refine st14.trans ?_
    refine XS.lloadN X14.here hx rfl (hb hby d17_42) rfl ?_
    refine st18 _ ?_
    show Steps p.tables e below (T18.setTop (mkF m 44 #[.val (.ref a1), .val (.long q1), .second, .val (.long q2), .second] [])) _
    refine XS.aloadN X18.here hx rfl (hb hby d17_44) rfl rfl ?_
    refine XS.dup X18.here hx rfl (hb hby d17_45) rfl rfl ?_
    refine st21 _ ?_
    refine XS.iconst X21.here hx rfl (hb hby d17_49) ?_
    refine XS.iadd X21.here hx rfl (hb hby d17_50) rfl ?_
    refine st23 _ ?_
    refine XS.aloadN X23.here hx rfl (hb hby d17_54) rfl rfl ?_
    refine XS.dup X23.here hx rfl (hb hby d17_55) rfl rfl ?_
    refine st25 _ ?_
    refine XS.lloadN X25.here hx rfl (hb hby d17_59) rfl ?_
    refine XS.ladd X25.here hx rfl (hb hby d17_60) rfl ?_
    refine st27 _ ?_
    show Steps p.tables e below (T27.setTop (mkF m 64 #[.val (.ref a1), .val (.long q1), .second, .val (.long q2), .second] [])) _
    exact X27.returnOut hx Bd.returns (hb hby d17_64) hr
  · show Q_rmPush_11 Z a1 q1 q2 w_NO_ENTRIES kn u_newest u_oldestSubWindow u_lastTime u_subWindowMillis u_lastSubWindow u_shorterWindows u_total u_newestSubWindow u_newestSubWindowEnd u_olderTotal u_head h0 n0 _ T27.heap _
    rw [e27]
    exact ⟨fr0_4, fk0_4, fr1_4, fk1_4, rfl, N27, K27, p4_0, sz_fr0_4, f28, p4_3, sz_fr1_4, f29, p4_6, f30, f31, f32, f33, f34, f35, f36, f37, f38, f39, f40, Fw27, f41, f42⟩
theorem ef_rmCount_14 (m : MethodId) (x0 : Addr) (x1 : Int64) : entryFrame m #[(.ref x0), (.long x1)] 4 = mkF m 0 #[.val (.ref x0), .val (.long x1), .second, .unset] [] := by first | (simp [entryFrame, mkF, argsToLocals, Value.category]; done) | rfl
def Q_rmCount_14 (Z : State) (a1 : Addr) (q1 : Int64) (sw : Addr) (k3 : ClassId) (r0 : Int64) (r1 : Int64) (h0 : Heap) (n0 : Nat) (v : Option Value) (h : Heap) (L : List Loc) : Prop := v = none ∧ Fr n0 L ∧ Keep h0 h [sw] ∧ Arv Z h sw k3 .long (4 : Int32) [(.long (r0 + q1)), (.long (2 : Int64)), (.long (r1 + q1)), (.long (2 : Int64))] (.long (0 : Int64))
set_option maxRecDepth 65536 in
set_option maxHeartbeats 40000000 in
theorem rmCount_14 (l : Launch) (Z : State) (a0 : Array Value) (hw : ∀ d ∈ tables_1, d.before a0 Z = true) (ws : List Jvm.Cond) (a1 : Addr) (q1 : Int64) (sw : Addr) (k3 : ClassId) (r0 : Int64) (r1 : Int64) (h0 : Heap) (n0 : Nat) (Z0 : n0 ≤ h0.size) (P0 : Exa Z h0 a1 "com/example/okno/okno/AdmissionLog") (P1 : n0 ≤ sw) (P2 : sw ≠ a1) (P3 : Fld Z h0 a1 "com/example/okno/okno/AdmissionLog" "shorterWindows" "[J" (.ref sw)) (P4 : Arv Z h0 sw k3 .long (4 : Int32) [(.long r0), (.long (1 : Int64)), (.long r1), (.long (1 : Int64))] (.long (0 : Int64))) :
    MetFree l (⟨"com/example/okno/okno/AdmissionLog", "countNewEntryInShorterWindows", "(J)V"⟩ : MethodName) (head1 (Jvm.Cond.code (⟨"com/example/okno/okno/AdmissionLog", "countNewEntryInShorterWindows", "(J)V"⟩ : MethodName) prog_2_method_19_code 4 none :: ws) ({ frames := 0, cells := 0, slots := 0, locals := 0 } : Room)) (fun a U => a = #[(.ref a1), (.long q1)] ∧ Z.Warmed39 U.vm ∧ U.heap = h0) (fun _ _ _ _ _ => True) (fun _ U o U' => ∃ v L, o = .returned v ∧ Q_rmCount_14 Z a1 q1 sw k3 r0 r1 h0 n0 v U'.heap L ∧ FrameEnd U o U' L ({ frames := 0, cells := 0, slots := 0, locals := 0 } : Room).cells ({ frames := 0, cells := 0, slots := 0, locals := 0 } : Room).slots) := by
  refine MetFree.of_bodySF (plainFor_of_name pn_2) hisR ?_
  intro p e s m args below meth c s₁ Bd hml0 hP hK
  obtain ⟨rfl, hZ, hh⟩ := hP
  have hx := Bd.exec
  have hby := Bd.bytes
  have hml : c.maxLocals = 4 := hml0
  have hown : s.vm.findClass "com/example/okno/okno/AdmissionLog" = some m.cls := findClass_of_methodNamed Bd.named
  have hnm := (name_of_methodNamed Bd.named Bd.method).1
  have X0 : Stand p l e ({ frames := 0, cells := 0, slots := 0, locals := 0 } : Room) s m #[(.ref a1), (.long q1)] below meth c s₁ [] 0 0 := Stand.of_body Bd
  have e0 : s₁.heap = h0 := by rw [← hh, Bd.state]; rfl
  have N0 := Fr.nil n0
  have KR : Keep h0 h0 [sw] := Keep.refl h0 _
  have pre0 : ∀ t, Steps p.tables e below (s₁.setTop (mkF m 0 #[.val (.ref a1), .val (.long q1), .second, .unset] [])) t → Steps p.tables e below (s₁.setTop (entryFrame m #[(.ref a1), (.long q1)] 4)) t := fun t k => castTop (ef_rmCount_14 m (a1) (q1)) k
  obtain ⟨T1, X1, e1, st1⟩ := getF X0 hx hZ hown (host := "") (Or.inl (kw52 hw)) Via.refl e0 P3 (g := (mkF m 4 #[.val (.ref a1), .val (.long q1), .second, .val (.int (0 : Int32))] [(.ref a1), (.int (0 : Int32))])) rfl rfl (hb hby d16_4)
  obtain ⟨cl2, Ar2, -, S2, N2', -, -⟩ := id P4
  obtain ⟨T3, X3, e3, st3⟩ := getF X1 hx hZ hown (host := "") (Or.inl (kw52 hw)) Via.refl e1 P3 (g := (mkF m 12 #[.val (.ref a1), .val (.long q1), .second, .val (.int (0 : Int32))] [(.ref a1)])) rfl rfl (hb hby d16_12)
  obtain ⟨cl4, Ar4, q4, S4, N4', H4, G4⟩ := id P4
  have hin4 : ¬ ((1 : Int32) < 0 ∨ cl4.slots.size ≤ ((1 : Int32)).toNatClampNeg) := inb_of S4 ⟨by decide, by decide⟩
  have hat4 : cl4.slots[((1 : Int32)).toNatClampNeg]? = some (.long (1 : Int64)) := H4.at hin4 rfl
  obtain ⟨T5, X5, e5, st5⟩ := getF X3 hx hZ hown (host := "") (Or.inl (kw52 hw)) Via.refl e3 P3 (g := (mkF m 25 #[.val (.ref a1), .val (.long q1), .second, .val (.int (0 : Int32))] [(.ref a1)])) rfl rfl (hb hby d16_25)
  obtain ⟨cl6, Ar6, q6, S6, N6', H6, G6⟩ := id P4
  have hin6 : ¬ ((0 : Int32) < 0 ∨ cl6.slots.size ≤ ((0 : Int32)).toNatClampNeg) := inb_of S6 ⟨by decide, by decide⟩
  have hat6 : cl6.slots[((0 : Int32)).toNatClampNeg]? = some (.long r0) := H6.at hin6 rfl
  obtain ⟨cl7, Ar7, q7, S7, N7', H7, G7⟩ := id P4
  have hin7 : ¬ ((0 : Int32) < 0 ∨ cl7.slots.size ≤ ((0 : Int32)).toNatClampNeg) := inb_of S7 ⟨by decide, by decide⟩
  obtain ⟨T7, h7, X7, e7, W7, st7⟩ := stJ X5 hx hZ e5 Ar7 (j := (0 : Int32)) hin7 (g := (mkF m 33 #[.val (.ref a1), .val (.long q1), .second, .val (.int (0 : Int32))] [(.long (r0 + q1)), (.int (0 : Int32)), (.ref sw)])) rfl rfl (hb hby d16_33)
  have Z7 : n0 ≤ h7.size := Nat.le_trans Z0 (Keep.of_wr W7).1
  have K7 : Keep h0 h7 [sw] := KR.wr W7 (Or.inl (List.mem_of_getElem? (i := 0) rfl))
  have N7 := Fr.snoc X7 N0 P1
  have V7 : Arv Z h7 sw k3 .long (4 : Int32) ([(.long r0), (.long (1 : Int64)), (.long r1), (.long (1 : Int64))].set 0 (.long (r0 + q1))) (.long (0 : Int64)) := Arv.set Ar7 q7 S7 N7' H7 G7 rfl W7 0 rfl (Nat.le_of_ble_eq_true rfl)
  have Vs7 : Arv Z h7 sw k3 .long (4 : Int32) [(.long (r0 + q1)), (.long (1 : Int64)), (.long r1), (.long (1 : Int64))] (.long (0 : Int64)) := V7
  have f8 : Fld Z h7 a1 "com/example/okno/okno/AdmissionLog" "shorterWindows" "[J" (.ref sw) := (P3.other W7 (Or.inl (Ne.symm P2)))
  obtain ⟨T9, X9, e9, st9⟩ := getF X7 hx hZ hown (host := "") (Or.inl (kw52 hw)) Via.refl e7 f8 (g := (mkF m 35 #[.val (.ref a1), .val (.long q1), .second, .val (.int (0 : Int32))] [(.ref a1)])) rfl rfl (hb hby d16_35)
  obtain ⟨cl10, Ar10, q10, S10, N10', H10, G10⟩ := id Vs7
  have hin10 : ¬ ((1 : Int32) < 0 ∨ cl10.slots.size ≤ ((1 : Int32)).toNatClampNeg) := inb_of S10 ⟨by decide, by decide⟩
  have hat10 : cl10.slots[((1 : Int32)).toNatClampNeg]? = some (.long (1 : Int64)) := H10.at hin10 rfl
  obtain ⟨cl11, Ar11, q11, S11, N11', H11, G11⟩ := id Vs7
  have hin11 : ¬ ((1 : Int32) < 0 ∨ cl11.slots.size ≤ ((1 : Int32)).toNatClampNeg) := inb_of S11 ⟨by decide, by decide⟩
  obtain ⟨T11, h11, X11, e11, W11, st11⟩ := stJ X9 hx hZ e9 Ar11 (j := (1 : Int32)) hin11 (g := (mkF m 45 #[.val (.ref a1), .val (.long q1), .second, .val (.int (0 : Int32))] [(.long (2 : Int64)), (.int (1 : Int32)), (.ref sw)])) rfl rfl (hb hby d16_45)
  have Z11 : n0 ≤ h11.size := Nat.le_trans Z7 (Keep.of_wr W11).1
  have K11 : Keep h0 h11 [sw] := K7.wr W11 (Or.inl (List.mem_of_getElem? (i := 0) rfl))
  have N11 := Fr.snoc X11 N7 P1
  have V11 : Arv Z h11 sw k3 .long (4 : Int32) ([(.long (r0 + q1)), (.long (1 : Int64)), (.long r1), (.long (1 : Int64))].set 1 (.long (2 : Int64))) (.long (0 : Int64)) := Arv.set Ar11 q11 S11 N11' H11 G11 rfl W11 1 rfl (Nat.le_of_ble_eq_true rfl)
  have Vs11 : Arv Z h11 sw k3 .long (4 : Int32) [(.long (r0 + q1)), (.long (2 : Int64)), (.long r1), (.long (1 : Int64))] (.long (0 : Int64)) := V11
  have f12 : Fld Z h11 a1 "com/example/okno/okno/AdmissionLog" "shorterWindows" "[J" (.ref sw) := (f8.other W11 (Or.inl (Ne.symm P2)))
  obtain ⟨T13, X13, e13, st13⟩ := getF X11 hx hZ hown (host := "") (Or.inl (kw52 hw)) Via.refl e11 f12 (g := (mkF m 4 #[.val (.ref a1), .val (.long q1), .second, .val (.int (2 : Int32))] [(.ref a1), (.int (2 : Int32))])) rfl rfl (hb hby d16_4)
  obtain ⟨cl14, Ar14, -, S14, N14', -, -⟩ := id Vs11
  obtain ⟨T15, X15, e15, st15⟩ := getF X13 hx hZ hown (host := "") (Or.inl (kw52 hw)) Via.refl e13 f12 (g := (mkF m 12 #[.val (.ref a1), .val (.long q1), .second, .val (.int (2 : Int32))] [(.ref a1)])) rfl rfl (hb hby d16_12)
  obtain ⟨cl16, Ar16, q16, S16, N16', H16, G16⟩ := id Vs11
  have hin16 : ¬ ((3 : Int32) < 0 ∨ cl16.slots.size ≤ ((3 : Int32)).toNatClampNeg) := inb_of S16 ⟨by decide, by decide⟩
  have hat16 : cl16.slots[((3 : Int32)).toNatClampNeg]? = some (.long (1 : Int64)) := H16.at hin16 rfl
  have pre17 : ∀ t, Steps p.tables e below (T15.setTop (mkF m 19 #[.val (.ref a1), .val (.long q1), .second, .val (.int (2 : Int32))] [(.long (1 : Int64))])) t → Steps p.tables e below (s₁.setTop (entryFrame m #[(.ref a1), (.long q1)] 4)) t := fun t k => pre0 t (by
    refine XS.iconst X0.here hx rfl (hb hby d16_0) ?_
    refine XS.istoreN X0.here hx rfl (hb hby d16_1) rfl (l' := #[.val (.ref a1), .val (.long q1), .second, .val (.int (0 : Int32))]) rfl ?_
    refine XS.iloadN X0.here hx rfl (hb hby d16_2) rfl ?_
    refine XS.aloadN X0.here hx rfl (hb hby d16_3) rfl rfl ?_
    refine st1 _ ?_
    refine X1.arraylength hx (by rw [e1]; exact Ar2.1) (State.isArrayOf_alike hZ.alike Ar2.2.1) (g := (mkF m 7 #[.val (.ref a1), .val (.long q1), .second, .val (.int (0 : Int32))] [(.ref sw), (.int (0 : Int32))])) rfl rfl (hb hby d16_7) _ ?_
    rw [len_of S2 N2']
    refine XS.icmpNo X1.here hx rfl (hb hby d16_8) rfl (tlt (by decide : (0 : Int32) < (4 : Int32))).2.1 ?_
    refine XS.aloadN X1.here hx rfl (hb hby d16_11) rfl rfl ?_
    refine st3 _ ?_
    refine XS.iloadN X3.here hx rfl (hb hby d16_15) rfl ?_
    refine XS.iconst X3.here hx rfl (hb hby d16_16) ?_
    refine XS.iadd X3.here hx rfl (hb hby d16_17) rfl ?_
    refine X3.laload hx (j := (1 : Int32)) (v := (.long (1 : Int64))) (by rw [e3]; exact Ar4.1) (State.isArrayOf_alike hZ.alike Ar4.2.1) Ar4.2.2 hin4 hat4 (g := (mkF m 18 #[.val (.ref a1), .val (.long q1), .second, .val (.int (0 : Int32))] [(.int (1 : Int32)), (.ref sw)])) rfl rfl (hb hby d16_18) _ ?_
    refine XS.lconst X3.here hx rfl (hb hby d16_19) ?_
    refine XS.lcmp X3.here hx rfl (hb hby d16_20) rfl ?_
    refine XS.ifNo X3.here hx rfl (hb hby d16_21) rfl ((if0 _ _).trans (tlt ((lw_gt _ _).mpr (by decide : (0 : Int64) < (1 : Int64)))).2.2.2) ?_
    refine XS.aloadN X3.here hx rfl (hb hby d16_24) rfl rfl ?_
    refine st5 _ ?_
    refine XS.iloadN X5.here hx rfl (hb hby d16_28) rfl ?_
    show Steps p.tables e below (T5.setTop (mkF m 29 #[.val (.ref a1), .val (.long q1), .second, .val (.int (0 : Int32))] [(.int (0 : Int32)), (.ref sw)])) _
    jvm_step X5.here [X5.here.top, hx, (hb hby d16_29), Value.category]
    refine X5.laload hx (j := (0 : Int32)) (v := (.long r0)) (by rw [e5]; exact Ar6.1) (State.isArrayOf_alike hZ.alike Ar6.2.1) Ar6.2.2 hin6 hat6 (g := (mkF m 30 #[.val (.ref a1), .val (.long q1), .second, .val (.int (0 : Int32))] [(.int (0 : Int32)), (.ref sw), (.int (0 : Int32)), (.ref sw)])) rfl rfl (hb hby d16_30) _ ?_
    refine XS.lloadN X5.here hx rfl (hb hby d16_31) rfl ?_
    refine XS.ladd X5.here hx rfl (hb hby d16_32) rfl ?_
    refine st7 _ ?_
    refine XS.aloadN X7.here hx rfl (hb hby d16_34) rfl rfl ?_
    refine st9 _ ?_
    refine XS.iloadN X9.here hx rfl (hb hby d16_38) rfl ?_
    refine XS.iconst X9.here hx rfl (hb hby d16_39) ?_
    refine XS.iadd X9.here hx rfl (hb hby d16_40) rfl ?_
    show Steps p.tables e below (T9.setTop (mkF m 41 #[.val (.ref a1), .val (.long q1), .second, .val (.int (0 : Int32))] [(.int (1 : Int32)), (.ref sw)])) _
    jvm_step X9.here [X9.here.top, hx, (hb hby d16_41), Value.category]
    refine X9.laload hx (j := (1 : Int32)) (v := (.long (1 : Int64))) (by rw [e9]; exact Ar10.1) (State.isArrayOf_alike hZ.alike Ar10.2.1) Ar10.2.2 hin10 hat10 (g := (mkF m 42 #[.val (.ref a1), .val (.long q1), .second, .val (.int (0 : Int32))] [(.int (1 : Int32)), (.ref sw), (.int (1 : Int32)), (.ref sw)])) rfl rfl (hb hby d16_42) _ ?_
    refine XS.lconst X9.here hx rfl (hb hby d16_43) ?_
    refine XS.ladd X9.here hx rfl (hb hby d16_44) rfl ?_
    refine st11 _ ?_
    refine XS.iinc X11.here hx rfl (hb hby d16_46) rfl (l' := #[.val (.ref a1), .val (.long q1), .second, .val (.int (2 : Int32))]) rfl ?_
    refine XS.goto X11.here hx rfl (pc0 := 49) (pc' := 2) rfl (hb hby d16_49) (by decide) (by decide) ?_
    refine XS.iloadN X11.here hx rfl (hb hby d16_2) rfl ?_
    refine XS.aloadN X11.here hx rfl (hb hby d16_3) rfl rfl ?_
    refine st13 _ ?_
    refine X13.arraylength hx (by rw [e13]; exact Ar14.1) (State.isArrayOf_alike hZ.alike Ar14.2.1) (g := (mkF m 7 #[.val (.ref a1), .val (.long q1), .second, .val (.int (2 : Int32))] [(.ref sw), (.int (2 : Int32))])) rfl rfl (hb hby d16_7) _ ?_
    rw [len_of S14 N14']
    refine XS.icmpNo X13.here hx rfl (hb hby d16_8) rfl (tlt (by decide : (2 : Int32) < (4 : Int32))).2.1 ?_
    refine XS.aloadN X13.here hx rfl (hb hby d16_11) rfl rfl ?_
    refine st15 _ ?_
    refine XS.iloadN X15.here hx rfl (hb hby d16_15) rfl ?_
    refine XS.iconst X15.here hx rfl (hb hby d16_16) ?_
    refine XS.iadd X15.here hx rfl (hb hby d16_17) rfl ?_
    refine X15.laload hx (j := (3 : Int32)) (v := (.long (1 : Int64))) (by rw [e15]; exact Ar16.1) (State.isArrayOf_alike hZ.alike Ar16.2.1) Ar16.2.2 hin16 hat16 (g := (mkF m 18 #[.val (.ref a1), .val (.long q1), .second, .val (.int (2 : Int32))] [(.int (3 : Int32)), (.ref sw)])) rfl rfl (hb hby d16_18) _ ?_
    exact k)
  obtain ⟨T18, X18, e18, st18⟩ := getF X15 hx hZ hown (host := "") (Or.inl (kw52 hw)) Via.refl e15 f12 (g := (mkF m 25 #[.val (.ref a1), .val (.long q1), .second, .val (.int (2 : Int32))] [(.ref a1)])) rfl rfl (hb hby d16_25)
  obtain ⟨cl19, Ar19, q19, S19, N19', H19, G19⟩ := id Vs11
  have hin19 : ¬ ((2 : Int32) < 0 ∨ cl19.slots.size ≤ ((2 : Int32)).toNatClampNeg) := inb_of S19 ⟨by decide, by decide⟩
  have hat19 : cl19.slots[((2 : Int32)).toNatClampNeg]? = some (.long r1) := H19.at hin19 rfl
  obtain ⟨cl20, Ar20, q20, S20, N20', H20, G20⟩ := id Vs11
  have hin20 : ¬ ((2 : Int32) < 0 ∨ cl20.slots.size ≤ ((2 : Int32)).toNatClampNeg) := inb_of S20 ⟨by decide, by decide⟩
  obtain ⟨T20, h20, X20, e20, W20, st20⟩ := stJ X18 hx hZ e18 Ar20 (j := (2 : Int32)) hin20 (g := (mkF m 33 #[.val (.ref a1), .val (.long q1), .second, .val (.int (2 : Int32))] [(.long (r1 + q1)), (.int (2 : Int32)), (.ref sw)])) rfl rfl (hb hby d16_33)
  have Z20 : n0 ≤ h20.size := Nat.le_trans Z11 (Keep.of_wr W20).1
  have K20 : Keep h0 h20 [sw] := K11.wr W20 (Or.inl (List.mem_of_getElem? (i := 0) rfl))
  have N20 := Fr.snoc X20 N11 P1
  have V20 : Arv Z h20 sw k3 .long (4 : Int32) ([(.long (r0 + q1)), (.long (2 : Int64)), (.long r1), (.long (1 : Int64))].set 2 (.long (r1 + q1))) (.long (0 : Int64)) := Arv.set Ar20 q20 S20 N20' H20 G20 rfl W20 2 rfl (Nat.le_of_ble_eq_true rfl)
  have Vs20 : Arv Z h20 sw k3 .long (4 : Int32) [(.long (r0 + q1)), (.long (2 : Int64)), (.long (r1 + q1)), (.long (1 : Int64))] (.long (0 : Int64)) := V20
  have f21 : Fld Z h20 a1 "com/example/okno/okno/AdmissionLog" "shorterWindows" "[J" (.ref sw) := (f12.other W20 (Or.inl (Ne.symm P2)))
  obtain ⟨T22, X22, e22, st22⟩ := getF X20 hx hZ hown (host := "") (Or.inl (kw52 hw)) Via.refl e20 f21 (g := (mkF m 35 #[.val (.ref a1), .val (.long q1), .second, .val (.int (2 : Int32))] [(.ref a1)])) rfl rfl (hb hby d16_35)
  obtain ⟨cl23, Ar23, q23, S23, N23', H23, G23⟩ := id Vs20
  have hin23 : ¬ ((3 : Int32) < 0 ∨ cl23.slots.size ≤ ((3 : Int32)).toNatClampNeg) := inb_of S23 ⟨by decide, by decide⟩
  have hat23 : cl23.slots[((3 : Int32)).toNatClampNeg]? = some (.long (1 : Int64)) := H23.at hin23 rfl
  obtain ⟨cl24, Ar24, q24, S24, N24', H24, G24⟩ := id Vs20
  have hin24 : ¬ ((3 : Int32) < 0 ∨ cl24.slots.size ≤ ((3 : Int32)).toNatClampNeg) := inb_of S24 ⟨by decide, by decide⟩
  obtain ⟨T24, h24, X24, e24, W24, st24⟩ := stJ X22 hx hZ e22 Ar24 (j := (3 : Int32)) hin24 (g := (mkF m 45 #[.val (.ref a1), .val (.long q1), .second, .val (.int (2 : Int32))] [(.long (2 : Int64)), (.int (3 : Int32)), (.ref sw)])) rfl rfl (hb hby d16_45)
  have Z24 : n0 ≤ h24.size := Nat.le_trans Z20 (Keep.of_wr W24).1
  have K24 : Keep h0 h24 [sw] := K20.wr W24 (Or.inl (List.mem_of_getElem? (i := 0) rfl))
  have N24 := Fr.snoc X24 N20 P1
  have V24 : Arv Z h24 sw k3 .long (4 : Int32) ([(.long (r0 + q1)), (.long (2 : Int64)), (.long (r1 + q1)), (.long (1 : Int64))].set 3 (.long (2 : Int64))) (.long (0 : Int64)) := Arv.set Ar24 q24 S24 N24' H24 G24 rfl W24 3 rfl (Nat.le_of_ble_eq_true rfl)
  have Vs24 : Arv Z h24 sw k3 .long (4 : Int32) [(.long (r0 + q1)), (.long (2 : Int64)), (.long (r1 + q1)), (.long (2 : Int64))] (.long (0 : Int64)) := V24
  have f25 : Fld Z h24 a1 "com/example/okno/okno/AdmissionLog" "shorterWindows" "[J" (.ref sw) := (f21.other W24 (Or.inl (Ne.symm P2)))
  obtain ⟨T26, X26, e26, st26⟩ := getF X24 hx hZ hown (host := "") (Or.inl (kw52 hw)) Via.refl e24 f25 (g := (mkF m 4 #[.val (.ref a1), .val (.long q1), .second, .val (.int (4 : Int32))] [(.ref a1), (.int (4 : Int32))])) rfl rfl (hb hby d16_4)
  obtain ⟨cl27, Ar27, -, S27, N27', -, -⟩ := id Vs24
  obtain ⟨fs, hr, hrun, hended, hW, hsame⟩ := X26.leave (v := none) (fun _ => rfl)
  refine ⟨_, _, pre17 _ ?_, hrun, hended, _, _, rfl, ?_, ⟨_, rfl⟩, hW, hsame.mono (by decide) (by decide)⟩
  · skip
    refine XS.lconst X15.here hx rfl (hb hby d16_19) ?_
    refine XS.lcmp X15.here hx rfl (hb hby d16_20) rfl ?_
    refine XS.ifNo X15.here hx rfl (hb hby d16_21) rfl ((if0 _ _).trans (tlt ((lw_gt _ _).mpr (by decide : (0 : Int64) < (1 : Int64)))).2.2.2) ?_
    refine XS.aloadN X15.here hx rfl (hb hby d16_24) rfl rfl ?_
    refine st18 _ ?_
    refine XS.iloadN X18.here hx rfl (hb hby d16_28) rfl ?_
    show Steps p.tables e below (T18.setTop (mkF m 29 #[.val (.ref a1), .val (.long q1), .second, .val (.int (2 : Int32))] [(.int (2 : Int32)), (.ref sw)])) _
    jvm_step X18.here [X18.here.top, hx, (hb hby d16_29), Value.category]
    refine X18.laload hx (j := (2 : Int32)) (v := (.long r1)) (by rw [e18]; exact Ar19.1) (State.isArrayOf_alike hZ.alike Ar19.2.1) Ar19.2.2 hin19 hat19 (g := (mkF m 30 #[.val (.ref a1), .val (.long q1), .second, .val (.int (2 : Int32))] [(.int (2 : Int32)), (.ref sw), (.int (2 : Int32)), (.ref sw)])) rfl rfl (hb hby d16_30) _ ?_
    refine XS.lloadN X18.here hx rfl (hb hby d16_31) rfl ?_
    refine XS.ladd X18.here hx rfl (hb hby d16_32) rfl ?_
    refine st20 _ ?_
    refine XS.aloadN X20.here hx rfl (hb hby d16_34) rfl rfl ?_
    refine st22 _ ?_
    refine XS.iloadN X22.here hx rfl (hb hby d16_38) rfl ?_
    refine XS.iconst X22.here hx rfl (hb hby d16_39) ?_
    refine XS.iadd X22.here hx rfl (hb hby d16_40) rfl ?_
    show Steps p.tables e below (T22.setTop (mkF m 41 #[.val (.ref a1), .val (.long q1), .second, .val (.int (2 : Int32))] [(.int (3 : Int32)), (.ref sw)])) _
    jvm_step X22.here [X22.here.top, hx, (hb hby d16_41), Value.category]
    refine X22.laload hx (j := (3 : Int32)) (v := (.long (1 : Int64))) (by rw [e22]; exact Ar23.1) (State.isArrayOf_alike hZ.alike Ar23.2.1) Ar23.2.2 hin23 hat23 (g := (mkF m 42 #[.val (.ref a1), .val (.long q1), .second, .val (.int (2 : Int32))] [(.int (3 : Int32)), (.ref sw), (.int (3 : Int32)), (.ref sw)])) rfl rfl (hb hby d16_42) _ ?_
    refine XS.lconst X22.here hx rfl (hb hby d16_43) ?_
    refine XS.ladd X22.here hx rfl (hb hby d16_44) rfl ?_
    refine st24 _ ?_
    refine XS.iinc X24.here hx rfl (hb hby d16_46) rfl (l' := #[.val (.ref a1), .val (.long q1), .second, .val (.int (4 : Int32))]) rfl ?_
    refine XS.goto X24.here hx rfl (pc0 := 49) (pc' := 2) rfl (hb hby d16_49) (by decide) (by decide) ?_
    refine XS.iloadN X24.here hx rfl (hb hby d16_2) rfl ?_
    refine XS.aloadN X24.here hx rfl (hb hby d16_3) rfl rfl ?_
    refine st26 _ ?_
    refine X26.arraylength hx (by rw [e26]; exact Ar27.1) (State.isArrayOf_alike hZ.alike Ar27.2.1) (g := (mkF m 7 #[.val (.ref a1), .val (.long q1), .second, .val (.int (4 : Int32))] [(.ref sw), (.int (4 : Int32))])) rfl rfl (hb hby d16_7) _ ?_
    rw [len_of S27 N27']
    refine XS.icmpYes X26.here hx rfl (pc0 := 8) (pc' := 52) rfl (hb hby d16_8) rfl (flt (by decide : ¬ ((4 : Int32) < (4 : Int32)))).2.1 (by decide) (by decide) ?_
    show Steps p.tables e below (T26.setTop (mkF m 52 #[.val (.ref a1), .val (.long q1), .second, .val (.int (4 : Int32))] [])) _
    exact X26.returnOut hx Bd.returns (hb hby d16_52) hr
  · show Q_rmCount_14 Z a1 q1 sw k3 r0 r1 h0 n0 _ T26.heap _
    rw [e26]
    exact ⟨rfl, N24, K24, Vs24⟩
theorem ef_rmAppC_10 (m : MethodId) (x0 : Addr) (x1 : Int64) (x2 : Int64) : entryFrame m #[(.ref x0), (.long x1), (.long x2)] 11 = mkF m 0 #[.val (.ref x0), .val (.long x1), .second, .val (.long x2), .second, .unset, .unset, .unset, .unset, .unset, .unset] [] := by first | (simp [entryFrame, mkF, argsToLocals, Value.category]; done) | rfl
def Q_rmAppC_10 (Z : State) (a1 : Addr) (q1 : Int64) (q2 : Int64) (g : Int64) (lt : Int64) (tt : Int64) (ns : Int64) (sw : Addr) (k3 : ClassId) (r0 : Int64) (r1 : Int64) (w_NO_ENTRIES : Addr) (kn : ClassId) (u_newest : Int64) (u_oldestSubWindow : Int64) (u_newestSubWindowEnd : Int64) (u_olderTotal : Int64) (u_head : Int32) (h0 : Heap) (n0 : Nat) (v : Option Value) (h : Heap) (L : List Loc) : Prop := ∃ fr0 : Addr, ∃ fk0 : ClassId, ∃ fr1 : Addr, ∃ fk1 : ClassId, v = none ∧ Fr n0 L ∧ Keep h0 h [a1, sw] ∧ n0 ≤ fr0 ∧ h0.size ≤ fr0 ∧ Arv Z h fr0 fk0 .long (4 : Int32) [(.long ns), (.long (0 : Int64)), (.long (0 : Int64)), (.long (0 : Int64))] (.long (0 : Int64)) ∧ n0 ≤ fr1 ∧ h0.size ≤ fr1 ∧ Arv Z h fr1 fk1 .long (4 : Int32) [(.long (tt - u_olderTotal)), (.long (0 : Int64)), (.long (0 : Int64)), (.long (0 : Int64))] (.long (0 : Int64)) ∧ fr0 ≠ fr1 ∧ Fld Z h a1 "com/example/okno/okno/AdmissionLog" "newest" "J" (.long q1) ∧ Fld Z h a1 "com/example/okno/okno/AdmissionLog" "subWindows" "[J" (.ref fr0) ∧ Fld Z h a1 "com/example/okno/okno/AdmissionLog" "amounts" "[J" (.ref fr1) ∧ Fld Z h a1 "com/example/okno/okno/AdmissionLog" "oldestSubWindow" "J" (.long u_oldestSubWindow) ∧ Fld Z h a1 "com/example/okno/okno/AdmissionLog" "lastTime" "J" (.long q1) ∧ Fld Z h a1 "com/example/okno/okno/AdmissionLog" "subWindowMillis" "J" (.long g) ∧ Fld Z h a1 "com/example/okno/okno/AdmissionLog" "lastSubWindow" "J" (.long (own_fd q1 g)) ∧ Fld Z h a1 "com/example/okno/okno/AdmissionLog" "shorterWindows" "[J" (.ref sw) ∧ Fld Z h a1 "com/example/okno/okno/AdmissionLog" "total" "J" (.long (tt + q2)) ∧ Fld Z h a1 "com/example/okno/okno/AdmissionLog" "newestSubWindow" "J" (.long (own_fd q1 g)) ∧ Fld Z h a1 "com/example/okno/okno/AdmissionLog" "newestSubWindowEnd" "J" (.long (own_end (own_fd q1 g) q1 g)) ∧ Fld Z h a1 "com/example/okno/okno/AdmissionLog" "olderTotal" "J" (.long (u_olderTotal + (tt - u_olderTotal))) ∧ Fld Z h a1 "com/example/okno/okno/AdmissionLog" "size" "I" (.int (1 : Int32)) ∧ Fld Z h a1 "com/example/okno/okno/AdmissionLog" "head" "I" (.int (0 : Int32)) ∧ Arv Z h sw k3 .long (4 : Int32) [(.long (r0 + (tt - u_olderTotal))), (.long (2 : Int64)), (.long (r1 + (tt - u_olderTotal))), (.long (2 : Int64))] (.long (0 : Int64))
set_option maxRecDepth 65536 in
set_option maxHeartbeats 40000000 in
theorem rmAppC_10 (l : Launch) (Z : State) (a0 : Array Value) (hw : ∀ d ∈ tables_1, d.before a0 Z = true) (ws : List Jvm.Cond) (a1 : Addr) (q1 : Int64) (q2 : Int64) (g : Int64) (lt : Int64) (tt : Int64) (ns : Int64) (sw : Addr) (k3 : ClassId) (r0 : Int64) (r1 : Int64) (w_NO_ENTRIES : Addr) (kn : ClassId) (u_newest : Int64) (u_oldestSubWindow : Int64) (u_newestSubWindowEnd : Int64) (u_olderTotal : Int64) (u_head : Int32) (h0 : Heap) (n0 : Nat) (Z0 : n0 ≤ h0.size) (P0 : Exa Z h0 a1 "com/example/okno/okno/AdmissionLog") (P1 : n0 ≤ a1) (hgz : g ≠ (0 : Int64)) (hov : ¬ ((tt ^^^ (tt + q2)) &&& (q2 ^^^ (tt + q2))) < (0 : Int64)) (htt : tt ≠ (0 : Int64)) (hne : ¬ (own_fd q1 g) = ns) (P6 : Arv Z h0 sw k3 .long (4 : Int32) [(.long r0), (.long (1 : Int64)), (.long r1), (.long (1 : Int64))] (.long (0 : Int64))) (P7 : n0 ≤ sw) (P8 : sw ≠ a1) (P9 : Arv Z h0 w_NO_ENTRIES kn .long (0 : Int32) [] (.long (0 : Int64))) (P10 : w_NO_ENTRIES ≠ a1) (P11 : w_NO_ENTRIES ≠ sw) (P12 : Fld Z h0 a1 "com/example/okno/okno/AdmissionLog" "newest" "J" (.long u_newest)) (P13 : Fld Z h0 a1 "com/example/okno/okno/AdmissionLog" "subWindows" "[J" (.ref w_NO_ENTRIES)) (P14 : Fld Z h0 a1 "com/example/okno/okno/AdmissionLog" "amounts" "[J" (.ref w_NO_ENTRIES)) (P15 : Fld Z h0 a1 "com/example/okno/okno/AdmissionLog" "oldestSubWindow" "J" (.long u_oldestSubWindow)) (P16 : Fld Z h0 a1 "com/example/okno/okno/AdmissionLog" "lastTime" "J" (.long lt)) (P17 : Fld Z h0 a1 "com/example/okno/okno/AdmissionLog" "subWindowMillis" "J" (.long g)) (P18 : Fld Z h0 a1 "com/example/okno/okno/AdmissionLog" "lastSubWindow" "J" (.long (own_fd lt g))) (P19 : Fld Z h0 a1 "com/example/okno/okno/AdmissionLog" "shorterWindows" "[J" (.ref sw)) (P20 : Fld Z h0 a1 "com/example/okno/okno/AdmissionLog" "total" "J" (.long tt)) (P21 : Fld Z h0 a1 "com/example/okno/okno/AdmissionLog" "newestSubWindow" "J" (.long ns)) (P22 : Fld Z h0 a1 "com/example/okno/okno/AdmissionLog" "newestSubWindowEnd" "J" (.long u_newestSubWindowEnd)) (P23 : Fld Z h0 a1 "com/example/okno/okno/AdmissionLog" "olderTotal" "J" (.long u_olderTotal)) (P24 : Fld Z h0 a1 "com/example/okno/okno/AdmissionLog" "size" "I" (.int (0 : Int32))) (P25 : Fld Z h0 a1 "com/example/okno/okno/AdmissionLog" "head" "I" (.int u_head)) :
    MetFree l (⟨"com/example/okno/okno/AdmissionLog", "append", "(JJ)V"⟩ : MethodName) (head1 (Jvm.Cond.code (⟨"com/example/okno/okno/AdmissionLog", "append", "(JJ)V"⟩ : MethodName) prog_2_method_12_code 11 none :: ws) ({ frames := 3, cells := 2, slots := 8, locals := 45 } : Room)) (fun a U => a = #[(.ref a1), (.long q1), (.long q2)] ∧ Z.Warmed39 U.vm ∧ U.heap = h0) (fun _ _ _ _ _ => True) (fun _ U o U' => ∃ v L, o = .returned v ∧ Q_rmAppC_10 Z a1 q1 q2 g lt tt ns sw k3 r0 r1 w_NO_ENTRIES kn u_newest u_oldestSubWindow u_newestSubWindowEnd u_olderTotal u_head h0 n0 v U'.heap L ∧ FrameEnd U o U' L ({ frames := 3, cells := 2, slots := 8, locals := 45 } : Room).cells ({ frames := 3, cells := 2, slots := 8, locals := 45 } : Room).slots) := by
  refine MetFree.of_bodySF (plainFor_of_name pn_2) hisR ?_
  intro p e s m args below meth c s₁ Bd hml0 hP hK
  obtain ⟨rfl, hZ, hh⟩ := hP
  have hx := Bd.exec
  have hby := Bd.bytes
  have hml : c.maxLocals = 11 := hml0
  have hown : s.vm.findClass "com/example/okno/okno/AdmissionLog" = some m.cls := findClass_of_methodNamed Bd.named
  have hnm := (name_of_methodNamed Bd.named Bd.method).1
  have X0 : Stand p l e ({ frames := 3, cells := 2, slots := 8, locals := 45 } : Room) s m #[(.ref a1), (.long q1), (.long q2)] below meth c s₁ [] 0 0 := Stand.of_body Bd
  have e0 : s₁.heap = h0 := by rw [← hh, Bd.state]; rfl
  have N0 := Fr.nil n0
  have KR : Keep h0 h0 [a1, sw] := Keep.refl h0 _
  have pre0 : ∀ t, Steps p.tables e below (s₁.setTop (mkF m 0 #[.val (.ref a1), .val (.long q1), .second, .val (.long q2), .second, .unset, .unset, .unset, .unset, .unset, .unset] [])) t → Steps p.tables e below (s₁.setTop (entryFrame m #[(.ref a1), (.long q1), (.long q2)] 11)) t := fun t k => castTop (ef_rmAppC_10 m (a1) (q1) (q2)) k
  obtain ⟨T1, X1, e1, st1⟩ := getF X0 hx hZ hown (host := "") (Or.inl (kw68 hw)) Via.refl e0 P20 (g := (mkF m 1 #[.val (.ref a1), .val (.long q1), .second, .val (.long q2), .second, .unset, .unset, .unset, .unset, .unset, .unset] [(.ref a1)])) rfl rfl (hb hby d12_1)
  obtain ⟨_, _, ⟨T2, L2, k2, n2⟩, -, X2, ⟨Lc2, hQ2, l2, y2, z2⟩, st2⟩ := Jvm.LawKit.callS X1 hx (y := (⟨"java/lang/Math", "addExact", "(JJ)J"⟩ : MethodName)) hown (mvT hZ (kw80 hw)) (mvT hZ (kw81 hw)) (mvT hZ (kw6 hw)) (mvT hZ (kw82 hw)) (by decide) (backOf (W := 0) (rmAddX l Z a0 hw [] tt q2 h0 n0 Z0 hov) hZ (kw82 hw) (kw6 hw) (by decide) (by decide)) (g := (mkF m 5 #[.val (.ref a1), .val (.long q1), .second, .val (.long q2), .second, .unset, .unset, .unset, .unset, .unset, .unset] [(.long q2), (.long tt)])) rfl (by rw [hml]; rfl) (argsL := [(.long tt), (.long q2)]) (rest := []) (lenOf pd_0 rfl) rfl (by show 2 * 0 + _ ≤ _; exact Nat.le_of_eq rfl) (hb hby d12_5) (fun _ _ => ⟨rfl, e1, (by decide : 0 + 0 ≤ _), (by decide : 0 + 0 ≤ _)⟩)
  dsimp only [Pt.U, Pt.locs, Pt.cells, Pt.slots] at X2 l2 y2 z2 st2 hQ2
  subst l2 y2 z2
  obtain ⟨rfl, N2q, e2⟩ := hQ2
  have N2 := Fr.app N0 N2q
  obtain ⟨cq3, kq3, q3a, q3b, q3c⟩ := isOf hZ e2 P0
  obtain ⟨_, _, ⟨T3, L3, k3, n3⟩, -, X3, ⟨Lc3, hQ3, l3, y3, z3⟩, st3⟩ := X2.virtualBack hx (y := (⟨"com/example/okno/okno/AdmissionLog", "subWindowOf", "(J)J"⟩ : MethodName)) (z := (⟨"com/example/okno/okno/AdmissionLog", "subWindowOf", "(J)J"⟩ : MethodName)) hown (mvT hZ (kw83 hw)) (mvT hZ (kw84 hw)) (notFace_of_selects (args := #[]) (mvT hZ (kw86 hw))) (mvT hZ (kw86 hw)) (mvT hZ (kw85 hw)) (by decide) (backOf (W := 0) (rmSub l Z a0 hw [] a1 q1 lt g u_newest w_NO_ENTRIES w_NO_ENTRIES u_oldestSubWindow sw tt ns u_newestSubWindowEnd u_olderTotal (0 : Int32) u_head h0 n0 Z0 P0 P1 hgz P12 P13 P14 P15 P16 P17 P18 P19 P20 P21 P22 P23 P24 P25) hZ (kw87 hw) (kw18 hw) (by decide) (by decide)) q3a q3c (g := (mkF m 12 #[.val (.ref a1), .val (.long q1), .second, .val (.long q2), .second, .val (.long (tt + q2)), .second, .unset, .unset, .unset, .unset] [(.long q1), (.ref a1)])) rfl (by rw [hml]; rfl) (Steps.refl _) (argsL := [(.long q1)]) (rest := []) (lenOf pd_7 rfl) rfl (by show 2 * 0 + _ ≤ _; exact Nat.le_of_eq rfl) (hb hby d12_12) (fun _ _ => ⟨rfl, e2, (by decide : 0 + 0 ≤ _), (by decide : 0 + 0 ≤ _)⟩)
  dsimp only [Pt.U, Pt.locs, Pt.cells, Pt.slots] at X3 l3 y3 z3 st3 hQ3
  subst l3 y3 z3
  obtain ⟨rfl, N3q, Kq3, p3_0, p3_1, p3_2, p3_3, p3_4, p3_5, p3_6, p3_7, p3_8, p3_9, p3_10, p3_11, p3_12, p3_13⟩ := hQ3
  have N3 := Fr.app N2 N3q
  have Z3 : n0 ≤ T3.heap.size := Nat.le_trans Z0 Kq3.1
  have K3 : Keep h0 T3.heap [a1, sw] := KR.trans Kq3 (allS (Or.inl (List.mem_of_getElem? (i := 0) rfl)) all0)
  have f5 : Exa Z T3.heap a1 "com/example/okno/okno/AdmissionLog" := (P0.keep Kq3)
  obtain ⟨cq4, kq4, q4a, q4b, q4c⟩ := isOf hZ rfl f5
  obtain ⟨_, _, ⟨T4, L4, k4, n4⟩, -, X4, ⟨Lc4, hQ4, l4, y4, z4⟩, st4⟩ := X3.virtualBack hx (y := (⟨"com/example/okno/okno/AdmissionLog", "isEmpty", "()Z"⟩ : MethodName)) (z := (⟨"com/example/okno/okno/AdmissionLog", "isEmpty", "()Z"⟩ : MethodName)) hown (mvT hZ (kw63 hw)) (mvT hZ (kw64 hw)) (notFace_of_selects (args := #[]) (mvT hZ (kw66 hw))) (mvT hZ (kw66 hw)) (mvT hZ (kw65 hw)) (by decide) (backOf (W := 0) (rmEmp1 l Z a0 hw [] a1 tt T3.heap n0 Z3 p3_8 htt) hZ (kw67 hw) (kw18 hw) (by decide) (by decide)) q4a q4c (g := (mkF m 18 #[.val (.ref a1), .val (.long q1), .second, .val (.long q2), .second, .val (.long (tt + q2)), .second, .val (.long (own_fd q1 g)), .second, .unset, .unset] [(.ref a1)])) rfl (by rw [hml]; rfl) (Steps.refl _) (argsL := []) (rest := []) (lenOf pd_4 rfl) rfl (by show 2 * 0 + _ ≤ _; exact Nat.le_of_eq rfl) (hb hby d12_18) (fun _ _ => ⟨rfl, rfl, (by decide : 0 + 0 ≤ _), (by decide : 0 + 0 ≤ _)⟩)
  dsimp only [Pt.U, Pt.locs, Pt.cells, Pt.slots] at X4 l4 y4 z4 st4 hQ4
  subst l4 y4 z4
  obtain ⟨rfl, N4q, e4⟩ := hQ4
  have N4 := Fr.app N3 N4q
  obtain ⟨T6, X6, e6, st6⟩ := getF X4 hx hZ hown (host := "") (Or.inl (kw92 hw)) Via.refl e4 p3_9 (g := (mkF m 48 #[.val (.ref a1), .val (.long q1), .second, .val (.long q2), .second, .val (.long (tt + q2)), .second, .val (.long (own_fd q1 g)), .second, .unset, .unset] [(.ref a1), (.long (own_fd q1 g))])) rfl rfl (hb hby d12_48)
  obtain ⟨T7, X7, e7, st7⟩ := getF X6 hx hZ hown (host := "") (Or.inl (kw68 hw)) Via.refl e6 p3_8 (g := (mkF m 56 #[.val (.ref a1), .val (.long q1), .second, .val (.long q2), .second, .val (.long (tt + q2)), .second, .val (.long (own_fd q1 g)), .second, .unset, .unset] [(.ref a1)])) rfl rfl (hb hby d12_56)
  obtain ⟨T8, X8, e8, st8⟩ := getF X7 hx hZ hown (host := "") (Or.inl (kw100 hw)) Via.refl e7 p3_11 (g := (mkF m 60 #[.val (.ref a1), .val (.long q1), .second, .val (.long q2), .second, .val (.long (tt + q2)), .second, .val (.long (own_fd q1 g)), .second, .unset, .unset] [(.ref a1), (.long tt)])) rfl rfl (hb hby d12_60)
  obtain ⟨T9, X9, e9, st9⟩ := getF X8 hx hZ hown (host := "") (Or.inl (kw92 hw)) Via.refl e8 p3_9 (g := (mkF m 68 #[.val (.ref a1), .val (.long q1), .second, .val (.long q2), .second, .val (.long (tt + q2)), .second, .val (.long (own_fd q1 g)), .second, .val (.long (tt - u_olderTotal)), .second] [(.ref a1), (.ref a1)])) rfl rfl (hb hby d12_68)
  have f11 : Arv Z T3.heap w_NO_ENTRIES kn .long (0 : Int32) [] (.long (0 : Int64)) := (P9.keep Kq3 (ninS P10 nin0))
  have f12 : Arv Z T3.heap sw k3 .long (4 : Int32) [(.long r0), (.long (1 : Int64)), (.long r1), (.long (1 : Int64))] (.long (0 : Int64)) := (P6.keep Kq3 (ninS P8 nin0))
  obtain ⟨cq10, q10, q10'⟩ := (f5).cell
  obtain ⟨_, _, ⟨T10, L10, k10, n10⟩, -, X10, ⟨Lc10, hQ10, l10, y10, z10⟩, st10⟩ := X9.privateBack hx (y := (⟨"com/example/okno/okno/AdmissionLog", "pushOlder", "(JJ)V"⟩ : MethodName)) hown (mvT hZ (kw102 hw)) (mvT hZ (kw103 hw)) (mvT hZ (own_selP rfl (kw17 hw) (kw103 hw) (kw104 hw) (by decide))) (Cond.privateMethod_at (mvP hZ (kw104 hw) (args := #[]))) (mvT hZ (kw105 hw)) (by decide) (backOf (W := 0) (rmPush_11 l Z a0 hw [] a1 ns (tt - u_olderTotal) w_NO_ENTRIES kn u_newest u_oldestSubWindow q1 g (own_fd q1 g) sw tt ns u_newestSubWindowEnd u_olderTotal u_head T3.heap n0 Z3 f5 P1 P10 f11 p3_0 p3_1 p3_2 p3_3 p3_4 p3_5 p3_6 p3_7 p3_8 p3_9 p3_10 p3_11 p3_12 p3_13) hZ (kw105 hw) (kw18 hw) (by decide) (by decide)) (g := (mkF m 73 #[.val (.ref a1), .val (.long q1), .second, .val (.long q2), .second, .val (.long (tt + q2)), .second, .val (.long (own_fd q1 g)), .second, .val (.long (tt - u_olderTotal)), .second] [(.long (tt - u_olderTotal)), (.long ns), (.ref a1)])) rfl (by rw [hml]; rfl) (Steps.refl _) (a := a1) (by rw [e9]; exact q10) q10' (argsL := [(.long ns), (.long (tt - u_olderTotal))]) (rest := []) (lenOf pd_8 rfl) rfl (by show 2 * 0 + _ ≤ _; exact Nat.le_of_eq rfl) (hb hby d12_73) (fun _ _ => ⟨rfl, e9, (by decide : 0 + 2 ≤ _), (by decide : 0 + 8 ≤ _)⟩)
  dsimp only [Pt.U, Pt.locs, Pt.cells, Pt.slots] at X10 l10 y10 z10 st10 hQ10
  subst l10 y10 z10
  obtain ⟨fr0_10, fk0_10, fr1_10, fk1_10, rfl, N10q, Kq10, p10_0, p10_1, p10_2, p10_3, p10_4, p10_5, p10_6, p10_7, p10_8, p10_9, p10_10, p10_11, p10_12, p10_13, p10_14, p10_15, p10_16, p10_17, p10_18, p10_19, p10_20⟩ := hQ10
  have N10 := Fr.app N4 N10q
  have Z10 : n0 ≤ T10.heap.size := Nat.le_trans Z3 Kq10.1
  have K10 : Keep h0 T10.heap [a1, sw] := K3.trans Kq10 (allS (Or.inl (List.mem_of_getElem? (i := 0) rfl)) all0)
  have sz_fr0_10 : h0.size ≤ fr0_10 := Nat.le_trans K3.1 p10_1
  have ne10_a1_fr0_10 : a1 ≠ fr0_10 := Nat.ne_of_lt (Nat.lt_of_lt_of_le f5.lt p10_1)
  have ne10_sw_fr0_10 : sw ≠ fr0_10 := Nat.ne_of_lt (Nat.lt_of_lt_of_le f12.lt p10_1)
  have ne10_w_NO_ENTRIES_fr0_10 : w_NO_ENTRIES ≠ fr0_10 := Nat.ne_of_lt (Nat.lt_of_lt_of_le f11.lt p10_1)
  have sz_fr1_10 : h0.size ≤ fr1_10 := Nat.le_trans K3.1 p10_4
  have ne10_a1_fr1_10 : a1 ≠ fr1_10 := Nat.ne_of_lt (Nat.lt_of_lt_of_le f5.lt p10_4)
  have ne10_sw_fr1_10 : sw ≠ fr1_10 := Nat.ne_of_lt (Nat.lt_of_lt_of_le f12.lt p10_4)
  have ne10_w_NO_ENTRIES_fr1_10 : w_NO_ENTRIES ≠ fr1_10 := Nat.ne_of_lt (Nat.lt_of_lt_of_le f11.lt p10_4)
  have f14 : Exa Z T10.heap a1 "com/example/okno/okno/AdmissionLog" := (f5.keep Kq10)
  obtain ⟨cq13, q13, q13'⟩ := (f14).cell
  obtain ⟨_, _, ⟨T13, L13, k13, n13⟩, -, X13, ⟨Lc13, hQ13, l13, y13, z13⟩, st13⟩ := X10.privateBack hx (y := (⟨"com/example/okno/okno/AdmissionLog", "startNewestEntry", "(JJ)V"⟩ : MethodName)) hown (mvT hZ (kw88 hw)) (mvT hZ (kw89 hw)) (mvT hZ (own_selP rfl (kw17 hw) (kw89 hw) (kw90 hw) (by decide))) (Cond.privateMethod_at (mvP hZ (kw90 hw) (args := #[]))) (mvT hZ (kw91 hw)) (by decide) (backOf (W := 0) (rmStart l Z a0 hw [] a1 (own_fd q1 g) q1 g u_newest fr0_10 fr1_10 u_oldestSubWindow q1 (own_fd q1 g) sw tt ns u_newestSubWindowEnd (u_olderTotal + (tt - u_olderTotal)) (1 : Int32) (0 : Int32) T10.heap n0 Z10 f14 P1 p10_7 p10_8 p10_9 p10_10 p10_11 p10_12 p10_13 p10_14 p10_15 p10_16 p10_17 p10_18 p10_19 p10_20) hZ (kw91 hw) (kw18 hw) (by decide) (by decide)) (g := (mkF m 80 #[.val (.ref a1), .val (.long q1), .second, .val (.long q2), .second, .val (.long (tt + q2)), .second, .val (.long (own_fd q1 g)), .second, .val (.long (tt - u_olderTotal)), .second] [(.long q1), (.long (own_fd q1 g)), (.ref a1)])) rfl (by rw [hml]; rfl) (Steps.refl _) (a := a1) q13 q13' (argsL := [(.long (own_fd q1 g)), (.long q1)]) (rest := []) (lenOf pd_8 rfl) rfl (by show 2 * 0 + _ ≤ _; exact Nat.le_of_eq rfl) (hb hby d12_80) (fun _ _ => ⟨rfl, rfl, (by decide : 2 + 0 ≤ _), (by decide : 8 + 0 ≤ _)⟩)
  dsimp only [Pt.U, Pt.locs, Pt.cells, Pt.slots] at X13 l13 y13 z13 st13 hQ13
  subst l13 y13 z13
  obtain ⟨rfl, N13q, Kq13, p13_0, p13_1, p13_2, p13_3, p13_4, p13_5, p13_6, p13_7, p13_8, p13_9, p13_10, p13_11, p13_12, p13_13⟩ := hQ13
  have N13 := Fr.app N10 N13q
  have Z13 : n0 ≤ T13.heap.size := Nat.le_trans Z10 Kq13.1
  have K13 : Keep h0 T13.heap [a1, sw] := K10.trans Kq13 (allS (Or.inl (List.mem_of_getElem? (i := 0) rfl)) all0)
  have f16 : Exa Z T13.heap a1 "com/example/okno/okno/AdmissionLog" := (f14.keep Kq13)
  have f17 : Arv Z T13.heap sw k3 .long (4 : Int32) [(.long r0), (.long (1 : Int64)), (.long r1), (.long (1 : Int64))] (.long (0 : Int64)) := ((f12.keep Kq10 (ninS P8 nin0)).keep Kq13 (ninS P8 nin0))
  obtain ⟨cq15, q15, q15'⟩ := (f16).cell
  obtain ⟨_, _, ⟨T15, L15, k15, n15⟩, -, X15, ⟨Lc15, hQ15, l15, y15, z15⟩, st15⟩ := X13.privateBack hx (y := (⟨"com/example/okno/okno/AdmissionLog", "countNewEntryInShorterWindows", "(J)V"⟩ : MethodName)) hown (mvT hZ (kw96 hw)) (mvT hZ (kw97 hw)) (mvT hZ (own_selP rfl (kw17 hw) (kw97 hw) (kw98 hw) (by decide))) (Cond.privateMethod_at (mvP hZ (kw98 hw) (args := #[]))) (mvT hZ (kw99 hw)) (by decide) (backOf (W := 0) (rmCount_14 l Z a0 hw [] a1 (tt - u_olderTotal) sw k3 r0 r1 T13.heap n0 Z13 f16 P7 P8 p13_7 f17) hZ (kw99 hw) (kw18 hw) (by decide) (by decide)) (g := (mkF m 86 #[.val (.ref a1), .val (.long q1), .second, .val (.long q2), .second, .val (.long (tt + q2)), .second, .val (.long (own_fd q1 g)), .second, .val (.long (tt - u_olderTotal)), .second] [(.long (tt - u_olderTotal)), (.ref a1)])) rfl (by rw [hml]; rfl) (Steps.refl _) (a := a1) q15 q15' (argsL := [(.long (tt - u_olderTotal))]) (rest := []) (lenOf pd_9 rfl) rfl (by show 2 * 0 + _ ≤ _; exact Nat.le_of_eq rfl) (hb hby d12_86) (fun _ _ => ⟨rfl, rfl, (by decide : 2 + 0 ≤ _), (by decide : 8 + 0 ≤ _)⟩)
  dsimp only [Pt.U, Pt.locs, Pt.cells, Pt.slots] at X15 l15 y15 z15 st15 hQ15
  subst l15 y15 z15
  obtain ⟨rfl, N15q, Kq15, p15_0⟩ := hQ15
  have N15 := Fr.app N13 N15q
  have Z15 : n0 ≤ T15.heap.size := Nat.le_trans Z13 Kq15.1
  have K15 : Keep h0 T15.heap [a1, sw] := K13.trans Kq15 (allS (Or.inl (List.mem_of_getElem? (i := 1) rfl)) all0)
  have f18 : Exa Z T15.heap a1 "com/example/okno/okno/AdmissionLog" := (f16.keep Kq15)
  have f19 : Fld Z T15.heap a1 "com/example/okno/okno/AdmissionLog" "total" "J" (.long tt) := (p13_8.keep Kq15 (ninS (Ne.symm P8) nin0))
  obtain ⟨T20, h20, X20, e20, W20, st20⟩ := putF X15 hx hZ hown (host := "") (Or.inl (kw68 hw)) Via.refl rfl f19 f18 (Or.inl (kw69 hw)) (kw17 hw) (ty := .long) (by decide) rfl rfl (g := (mkF m 92 #[.val (.ref a1), .val (.long q1), .second, .val (.long q2), .second, .val (.long (tt + q2)), .second, .val (.long (own_fd q1 g)), .second, .val (.long (tt - u_olderTotal)), .second] [(.long (tt + q2)), (.ref a1)])) rfl rfl (hb hby d12_92)
  have Z20 : n0 ≤ h20.size := Nat.le_trans Z15 (Keep.of_wr W20).1
  have K20 : Keep h0 h20 [a1, sw] := K15.wr W20 (Or.inl (List.mem_of_getElem? (i := 0) rfl))
  have N20 := Fr.snoc X20 N15 P1
  have Fw20 : Fld Z h20 a1 "com/example/okno/okno/AdmissionLog" "total" "J" (.long (tt + q2)) := f19.same W20
  have f21 : Exa Z h20 a1 "com/example/okno/okno/AdmissionLog" := (f18.wr W20)
  have f22 : Fld Z h20 a1 "com/example/okno/okno/AdmissionLog" "newest" "J" (.long u_newest) := ((p13_0.keep Kq15 (ninS (Ne.symm P8) nin0)).other W20 (Or.inr (slot_ne (Or.inl (kw32 hw)) (Or.inl (kw69 hw)) (by decide) (t := .long) (t' := .long) (by decide) (by decide))))
  obtain ⟨T23, h23, X23, e23, W23, st23⟩ := putF X20 hx hZ hown (host := "") (Or.inl (kw31 hw)) Via.refl e20 f22 f21 (Or.inl (kw32 hw)) (kw17 hw) (ty := .long) (by decide) rfl rfl (g := (mkF m 97 #[.val (.ref a1), .val (.long q1), .second, .val (.long q2), .second, .val (.long (tt + q2)), .second, .val (.long (own_fd q1 g)), .second, .val (.long (tt - u_olderTotal)), .second] [(.long q1), (.ref a1)])) rfl rfl (hb hby d12_97)
  have Z23 : n0 ≤ h23.size := Nat.le_trans Z20 (Keep.of_wr W23).1
  have K23 : Keep h0 h23 [a1, sw] := K20.wr W23 (Or.inl (List.mem_of_getElem? (i := 0) rfl))
  have N23 := Fr.snoc X23 N20 P1
  have Fw23 : Fld Z h23 a1 "com/example/okno/okno/AdmissionLog" "newest" "J" (.long q1) := f22.same W23
  have f24 : Arv Z h23 fr0_10 fk0_10 .long (4 : Int32) [(.long ns), (.long (0 : Int64)), (.long (0 : Int64)), (.long (0 : Int64))] (.long (0 : Int64)) := ((((p10_2.keep Kq13 (ninS (Ne.symm ne10_a1_fr0_10) nin0)).keep Kq15 (ninS (Ne.symm ne10_sw_fr0_10) nin0)).other W20 (Ne.symm ne10_a1_fr0_10)).other W23 (Ne.symm ne10_a1_fr0_10))
  have f25 : Arv Z h23 fr1_10 fk1_10 .long (4 : Int32) [(.long (tt - u_olderTotal)), (.long (0 : Int64)), (.long (0 : Int64)), (.long (0 : Int64))] (.long (0 : Int64)) := ((((p10_5.keep Kq13 (ninS (Ne.symm ne10_a1_fr1_10) nin0)).keep Kq15 (ninS (Ne.symm ne10_sw_fr1_10) nin0)).other W20 (Ne.symm ne10_a1_fr1_10)).other W23 (Ne.symm ne10_a1_fr1_10))
  have f26 : Fld Z h23 a1 "com/example/okno/okno/AdmissionLog" "subWindows" "[J" (.ref fr0_10) := (((p13_1.keep Kq15 (ninS (Ne.symm P8) nin0)).other W20 (Or.inr (slot_ne (Or.inl (kw36 hw)) (Or.inl (kw69 hw)) (by decide) (t := (.array .long)) (t' := .long) (by decide) (by decide)))).other W23 (Or.inr (slot_ne (Or.inl (kw36 hw)) (Or.inl (kw32 hw)) (by decide) (t := (.array .long)) (t' := .long) (by decide) (by decide))))
  have f27 : Fld Z h23 a1 "com/example/okno/okno/AdmissionLog" "amounts" "[J" (.ref fr1_10) := (((p13_2.keep Kq15 (ninS (Ne.symm P8) nin0)).other W20 (Or.inr (slot_ne (Or.inl (kw38 hw)) (Or.inl (kw69 hw)) (by decide) (t := (.array .long)) (t' := .long) (by decide) (by decide)))).other W23 (Or.inr (slot_ne (Or.inl (kw38 hw)) (Or.inl (kw32 hw)) (by decide) (t := (.array .long)) (t' := .long) (by decide) (by decide))))
  have f28 : Fld Z h23 a1 "com/example/okno/okno/AdmissionLog" "oldestSubWindow" "J" (.long u_oldestSubWindow) := (((p13_3.keep Kq15 (ninS (Ne.symm P8) nin0)).other W20 (Or.inr (slot_ne (Or.inl (kw41 hw)) (Or.inl (kw69 hw)) (by decide) (t := .long) (t' := .long) (by decide) (by decide)))).other W23 (Or.inr (slot_ne (Or.inl (kw41 hw)) (Or.inl (kw32 hw)) (by decide) (t := .long) (t' := .long) (by decide) (by decide))))
  have f29 : Fld Z h23 a1 "com/example/okno/okno/AdmissionLog" "lastTime" "J" (.long q1) := (((p13_4.keep Kq15 (ninS (Ne.symm P8) nin0)).other W20 (Or.inr (slot_ne (Or.inl (kw43 hw)) (Or.inl (kw69 hw)) (by decide) (t := .long) (t' := .long) (by decide) (by decide)))).other W23 (Or.inr (slot_ne (Or.inl (kw43 hw)) (Or.inl (kw32 hw)) (by decide) (t := .long) (t' := .long) (by decide) (by decide))))
  have f30 : Fld Z h23 a1 "com/example/okno/okno/AdmissionLog" "subWindowMillis" "J" (.long g) := (((p13_5.keep Kq15 (ninS (Ne.symm P8) nin0)).other W20 (Or.inr (slot_ne (Or.inr (kw45 hw)) (Or.inl (kw69 hw)) (by decide) (t := .long) (t' := .long) (by decide) (by decide)))).other W23 (Or.inr (slot_ne (Or.inr (kw45 hw)) (Or.inl (kw32 hw)) (by decide) (t := .long) (t' := .long) (by decide) (by decide))))
  have f31 : Fld Z h23 a1 "com/example/okno/okno/AdmissionLog" "lastSubWindow" "J" (.long (own_fd q1 g)) := (((p13_6.keep Kq15 (ninS (Ne.symm P8) nin0)).other W20 (Or.inr (slot_ne (Or.inl (kw50 hw)) (Or.inl (kw69 hw)) (by decide) (t := .long) (t' := .long) (by decide) (by decide)))).other W23 (Or.inr (slot_ne (Or.inl (kw50 hw)) (Or.inl (kw32 hw)) (by decide) (t := .long) (t' := .long) (by decide) (by decide))))
  have f32 : Fld Z h23 a1 "com/example/okno/okno/AdmissionLog" "shorterWindows" "[J" (.ref sw) := (((p13_7.keep Kq15 (ninS (Ne.symm P8) nin0)).other W20 (Or.inr (slot_ne (Or.inr (kw53 hw)) (Or.inl (kw69 hw)) (by decide) (t := (.array .long)) (t' := .long) (by decide) (by decide)))).other W23 (Or.inr (slot_ne (Or.inr (kw53 hw)) (Or.inl (kw32 hw)) (by decide) (t := (.array .long)) (t' := .long) (by decide) (by decide))))
  have f33 : Fld Z h23 a1 "com/example/okno/okno/AdmissionLog" "total" "J" (.long (tt + q2)) := (Fw20.other W23 (Or.inr (slot_ne (Or.inl (kw69 hw)) (Or.inl (kw32 hw)) (by decide) (t := .long) (t' := .long) (by decide) (by decide))))
  have f34 : Fld Z h23 a1 "com/example/okno/okno/AdmissionLog" "newestSubWindow" "J" (.long (own_fd q1 g)) := (((p13_9.keep Kq15 (ninS (Ne.symm P8) nin0)).other W20 (Or.inr (slot_ne (Or.inl (kw93 hw)) (Or.inl (kw69 hw)) (by decide) (t := .long) (t' := .long) (by decide) (by decide)))).other W23 (Or.inr (slot_ne (Or.inl (kw93 hw)) (Or.inl (kw32 hw)) (by decide) (t := .long) (t' := .long) (by decide) (by decide))))
  have f35 : Fld Z h23 a1 "com/example/okno/okno/AdmissionLog" "newestSubWindowEnd" "J" (.long (own_end (own_fd q1 g) q1 g)) := (((p13_10.keep Kq15 (ninS (Ne.symm P8) nin0)).other W20 (Or.inr (slot_ne (Or.inl (kw95 hw)) (Or.inl (kw69 hw)) (by decide) (t := .long) (t' := .long) (by decide) (by decide)))).other W23 (Or.inr (slot_ne (Or.inl (kw95 hw)) (Or.inl (kw32 hw)) (by decide) (t := .long) (t' := .long) (by decide) (by decide))))
  have f36 : Fld Z h23 a1 "com/example/okno/okno/AdmissionLog" "olderTotal" "J" (.long (u_olderTotal + (tt - u_olderTotal))) := (((p13_11.keep Kq15 (ninS (Ne.symm P8) nin0)).other W20 (Or.inr (slot_ne (Or.inl (kw101 hw)) (Or.inl (kw69 hw)) (by decide) (t := .long) (t' := .long) (by decide) (by decide)))).other W23 (Or.inr (slot_ne (Or.inl (kw101 hw)) (Or.inl (kw32 hw)) (by decide) (t := .long) (t' := .long) (by decide) (by decide))))
  have f37 : Fld Z h23 a1 "com/example/okno/okno/AdmissionLog" "size" "I" (.int (1 : Int32)) := (((p13_12.keep Kq15 (ninS (Ne.symm P8) nin0)).other W20 (Or.inr (slot_ne (Or.inl (kw107 hw)) (Or.inl (kw69 hw)) (by decide) (t := .int) (t' := .long) (by decide) (by decide)))).other W23 (Or.inr (slot_ne (Or.inl (kw107 hw)) (Or.inl (kw32 hw)) (by decide) (t := .int) (t' := .long) (by decide) (by decide))))
  have f38 : Fld Z h23 a1 "com/example/okno/okno/AdmissionLog" "head" "I" (.int (0 : Int32)) := (((p13_13.keep Kq15 (ninS (Ne.symm P8) nin0)).other W20 (Or.inr (slot_ne (Or.inl (kw116 hw)) (Or.inl (kw69 hw)) (by decide) (t := .int) (t' := .long) (by decide) (by decide)))).other W23 (Or.inr (slot_ne (Or.inl (kw116 hw)) (Or.inl (kw32 hw)) (by decide) (t := .int) (t' := .long) (by decide) (by decide))))
  have f39 : Arv Z h23 sw k3 .long (4 : Int32) [(.long (r0 + (tt - u_olderTotal))), (.long (2 : Int64)), (.long (r1 + (tt - u_olderTotal))), (.long (2 : Int64))] (.long (0 : Int64)) := ((p15_0.other W20 P8).other W23 P8)
  obtain ⟨fs, hr, hrun, hended, hW, hsame⟩ := X23.leave (v := none) (fun _ => rfl)
  refine ⟨_, _, pre0 _ ?_, hrun, hended, _, _, rfl, ?_, ⟨_, rfl⟩, hW, hsame.mono (by decide) (by decide)⟩
  · skip
    refine XS.aloadN X0.here hx rfl (hb hby d12_0) rfl rfl ?_
    refine st1 _ ?_
    refine XS.lloadN X1.here hx rfl (hb hby d12_4) rfl ?_
    refine st2 _ ?_
    refine XS.lstore X2.here hx rfl (hb hby d12_8) rfl (l' := #[.val (.ref a1), .val (.long q1), .second, .val (.long q2), .second, .val (.long (tt + q2)), .second, .unset, .unset, .unset, .unset]) rfl ?_
    refine XS.aloadN X2.here hx rfl (hb hby d12_10) rfl rfl ?_
    refine XS.lloadN X2.here hx rfl (hb hby d12_11) rfl ?_
    refine st3.trans ?_
    refine XS.lstore X3.here hx rfl (hb hby d12_15) rfl (l' := #[.val (.ref a1), .val (.long q1), .second, .val (.long q2), .second, .val (.long (tt + q2)), .second, .val (.long (own_fd q1 g)), .second, .unset, .unset]) rfl ?_
    refine XS.aloadN X3.here hx rfl (hb hby d12_17) rfl rfl ?_
    refine st4.trans ?_
    refine XS.ifYes X4.here hx rfl (pc0 := 21) (pc' := 45) rfl (hb hby d12_21) rfl ((if0 _ _).trans (teq rfl).1) (by decide) (by decide) ?_
    refine XS.lload X4.here hx rfl (hb hby d12_45) rfl ?_
    refine XS.aloadN X4.here hx rfl (hb hby d12_47) rfl rfl ?_
    refine st6 _ ?_
    refine XS.lcmp X6.here hx rfl (hb hby d12_51) rfl ?_
    refine XS.ifNo X6.here hx rfl (hb hby d12_52) rfl ((if0 _ _).trans (feq (fun q => hne ((lw_eq _ _).mp q))).1) ?_
    refine XS.aloadN X6.here hx rfl (hb hby d12_55) rfl rfl ?_
    refine st7 _ ?_
    refine XS.aloadN X7.here hx rfl (hb hby d12_59) rfl rfl ?_
    refine st8 _ ?_
    refine XS.lsub X8.here hx rfl (hb hby d12_63) rfl ?_
    refine XS.lstore X8.here hx rfl (hb hby d12_64) rfl (l' := #[.val (.ref a1), .val (.long q1), .second, .val (.long q2), .second, .val (.long (tt + q2)), .second, .val (.long (own_fd q1 g)), .second, .val (.long (tt - u_olderTotal)), .second]) rfl ?_
    refine XS.aloadN X8.here hx rfl (hb hby d12_66) rfl rfl ?_
    refine XS.aloadN X8.here hx rfl (hb hby d12_67) rfl rfl ?_
    show Steps p.tables e below (T8.setTop (mkF m 68 #[.val (.ref a1), .val (.long q1), .second, .val (.long q2), .second, .val (.long (tt + q2)), .second, .val (.long (own_fd q1 g)), .second, .val (.long (tt - u_olderTotal)), .second] [(.ref a1), (.ref a1)])) _
    refine st9 _ ?_
    refine XS.lload X9.here hx rfl (hb hby d12_71) rfl ?_
    refine st10.trans ?_
    refine XS.aloadN X10.here hx rfl (hb hby d12_76) rfl rfl ?_
    refine XS.lload X10.here hx rfl (hb hby d12_77) rfl ?_
    refine XS.lloadN X10.here hx rfl (hb hby d12_79) rfl ?_
    refine st13.trans ?_
    refine XS.aloadN X13.here hx rfl (hb hby d12_83) rfl rfl ?_
    refine XS.lload X13.here hx rfl (hb hby d12_84) rfl ?_
    refine st15.trans ?_
    refine XS.aloadN X15.here hx rfl (hb hby d12_89) rfl rfl ?_
    refine XS.lload X15.here hx rfl (hb hby d12_90) rfl ?_
    refine st20 _ ?_
    refine XS.aloadN X20.here hx rfl (hb hby d12_95) rfl rfl ?_
    refine XS.lloadN X20.here hx rfl (hb hby d12_96) rfl ?_
    refine st23 _ ?_
    show Steps p.tables e below (T23.setTop (mkF m 100 #[.val (.ref a1), .val (.long q1), .second, .val (.long q2), .second, .val (.long (tt + q2)), .second, .val (.long (own_fd q1 g)), .second, .val (.long (tt - u_olderTotal)), .second] [])) _
    exact X23.returnOut hx Bd.returns (hb hby d12_100) hr
  · show Q_rmAppC_10 Z a1 q1 q2 g lt tt ns sw k3 r0 r1 w_NO_ENTRIES kn u_newest u_oldestSubWindow u_newestSubWindowEnd u_olderTotal u_head h0 n0 _ T23.heap _
    rw [e23]
    exact ⟨fr0_10, fk0_10, fr1_10, fk1_10, rfl, N23, K23, p10_0, sz_fr0_10, f24, p10_3, sz_fr1_10, f25, p10_6, Fw23, f26, f27, f28, f29, f30, f31, f32, f33, f34, f35, f36, f37, f38, f39⟩
theorem ef_rmEnt_16 (m : MethodId) (x0 : Addr) : entryFrame m #[(.ref x0)] 1 = mkF m 0 #[.val (.ref x0)] [] := by first | (simp [entryFrame, mkF, argsToLocals, Value.category]; done) | rfl
def Q_rmEnt_16 (Z : State) (a1 : Addr) (tt : Int64) (h0 : Heap) (n0 : Nat) (v : Option Value) (h : Heap) (L : List Loc) : Prop := v = some (.int (2 : Int32)) ∧ Fr n0 L ∧ h = h0
set_option maxRecDepth 65536 in
set_option maxHeartbeats 40000000 in
theorem rmEnt_16 (l : Launch) (Z : State) (a0 : Array Value) (hw : ∀ d ∈ tables_1, d.before a0 Z = true) (ws : List Jvm.Cond) (a1 : Addr) (tt : Int64) (h0 : Heap) (n0 : Nat) (Z0 : n0 ≤ h0.size) (P0 : Exa Z h0 a1 "com/example/okno/okno/AdmissionLog") (P1 : Fld Z h0 a1 "com/example/okno/okno/AdmissionLog" "total" "J" (.long tt)) (htt : tt ≠ (0 : Int64)) (P3 : Fld Z h0 a1 "com/example/okno/okno/AdmissionLog" "size" "I" (.int (1 : Int32))) :
    MetFree l (⟨"com/example/okno/okno/AdmissionLog", "entryCount", "()I"⟩ : MethodName) (head1 (Jvm.Cond.code (⟨"com/example/okno/okno/AdmissionLog", "entryCount", "()I"⟩ : MethodName) prog_2_method_20_code 1 (some .int) :: ws) ({ frames := 1, cells := 0, slots := 0, locals := 12 } : Room)) (fun a U => a = #[(.ref a1)] ∧ Z.Warmed39 U.vm ∧ U.heap = h0) (fun _ _ _ _ _ => True) (fun _ U o U' => ∃ v L, o = .returned v ∧ Q_rmEnt_16 Z a1 tt h0 n0 v U'.heap L ∧ FrameEnd U o U' L ({ frames := 1, cells := 0, slots := 0, locals := 12 } : Room).cells ({ frames := 1, cells := 0, slots := 0, locals := 12 } : Room).slots) := by
  refine MetFree.of_bodySF (plainFor_of_name pn_2) hisR ?_
  intro p e s m args below meth c s₁ Bd hml0 hP hK
  obtain ⟨rfl, hZ, hh⟩ := hP
  have hx := Bd.exec
  have hby := Bd.bytes
  have hml : c.maxLocals = 1 := hml0
  have hown : s.vm.findClass "com/example/okno/okno/AdmissionLog" = some m.cls := findClass_of_methodNamed Bd.named
  have hnm := (name_of_methodNamed Bd.named Bd.method).1
  have X0 : Stand p l e ({ frames := 1, cells := 0, slots := 0, locals := 12 } : Room) s m #[(.ref a1)] below meth c s₁ [] 0 0 := Stand.of_body Bd
  have e0 : s₁.heap = h0 := by rw [← hh, Bd.state]; rfl
  have N0 := Fr.nil n0
  have KR : Keep h0 h0 [] := Keep.refl h0 _
  have pre0 : ∀ t, Steps p.tables e below (s₁.setTop (mkF m 0 #[.val (.ref a1)] [])) t → Steps p.tables e below (s₁.setTop (entryFrame m #[(.ref a1)] 1)) t := fun t k => castTop (ef_rmEnt_16 m (a1)) k
  obtain ⟨cq1, kq1, q1a, q1b, q1c⟩ := isOf hZ e0 P0
  obtain ⟨_, _, ⟨T1, L1, k1, n1⟩, -, X1, ⟨Lc1, hQ1, l1, y1, z1⟩, st1⟩ := X0.virtualBack hx (y := (⟨"com/example/okno/okno/AdmissionLog", "isEmpty", "()Z"⟩ : MethodName)) (z := (⟨"com/example/okno/okno/AdmissionLog", "isEmpty", "()Z"⟩ : MethodName)) hown (mvT hZ (kw63 hw)) (mvT hZ (kw64 hw)) (notFace_of_selects (args := #[]) (mvT hZ (kw66 hw))) (mvT hZ (kw66 hw)) (mvT hZ (kw65 hw)) (by decide) (backOf (W := 0) (rmEmp1 l Z a0 hw [] a1 tt h0 n0 Z0 P1 htt) hZ (kw67 hw) (kw18 hw) (by decide) (by decide)) q1a q1c (g := (mkF m 1 #[.val (.ref a1)] [(.ref a1)])) rfl (by rw [hml]; rfl) (Steps.refl _) (argsL := []) (rest := []) (lenOf pd_4 rfl) rfl (by show 2 * 0 + _ ≤ _; exact Nat.le_of_eq rfl) (hb hby d9_1) (fun _ _ => ⟨rfl, e0, (by decide : 0 + 0 ≤ _), (by decide : 0 + 0 ≤ _)⟩)
  dsimp only [Pt.U, Pt.locs, Pt.cells, Pt.slots] at X1 l1 y1 z1 st1 hQ1
  subst l1 y1 z1
  obtain ⟨rfl, N1q, e1⟩ := hQ1
  have N1 := Fr.app N0 N1q
  obtain ⟨T2, X2, e2, st2⟩ := getF X1 hx hZ hown (host := "") (Or.inl (kw106 hw)) Via.refl e1 P3 (g := (mkF m 12 #[.val (.ref a1)] [(.ref a1)])) rfl rfl (hb hby d9_12)
  obtain ⟨fs, hr, hrun, hended, hW, hsame⟩ := X2.leave (v := some (.int (2 : Int32))) (fun h => by rw [Bd.returns] at h; cases h)
  refine ⟨_, _, pre0 _ ?_, hrun, hended, _, _, rfl, ?_, ⟨_, rfl⟩, hW, hsame.mono (by decide) (by decide)⟩
  · skip
    refine XS.aloadN X0.here hx rfl (hb hby d9_0) rfl rfl ?_
    refine st1.trans ?_
    refine XS.ifYes X1.here hx rfl (pc0 := 4) (pc' := 11) rfl (hb hby d9_4) rfl ((if0 _ _).trans (teq rfl).1) (by decide) (by decide) ?_
    refine XS.aloadN X1.here hx rfl (hb hby d9_11) rfl rfl ?_
    refine st2 _ ?_
    refine XS.iconst X2.here hx rfl (hb hby d9_15) ?_
    refine XS.iadd X2.here hx rfl (hb hby d9_16) rfl ?_
    show Steps p.tables e below (T2.setTop (mkF m 17 #[.val (.ref a1)] [(.int (2 : Int32))])) _
    exact retI X2 hx Bd.returns (hb hby d9_17) hr
  · show Q_rmEnt_16 Z a1 tt h0 n0 _ T2.heap _
    rw [e2]
    exact ⟨rfl, N1, rfl⟩
theorem ef_rmAt_17 (m : MethodId) (x0 : Addr) (x1 : Int32) : entryFrame m #[(.ref x0), (.int x1)] 2 = mkF m 0 #[.val (.ref x0), .val (.int x1)] [] := by first | (simp [entryFrame, mkF, argsToLocals, Value.category]; done) | rfl
def Q_rmAt_17 (Z : State) (a1 : Addr) (rs : Addr) (k1 : ClassId) (x0 : Int64) (x1 : Int64) (x2 : Int64) (x3 : Int64) (h0 : Heap) (n0 : Nat) (v : Option Value) (h : Heap) (L : List Loc) : Prop := v = some (.long x0) ∧ Fr n0 L ∧ h = h0
set_option maxRecDepth 65536 in
set_option maxHeartbeats 40000000 in
theorem rmAt_17 (l : Launch) (Z : State) (a0 : Array Value) (hw : ∀ d ∈ tables_1, d.before a0 Z = true) (ws : List Jvm.Cond) (a1 : Addr) (rs : Addr) (k1 : ClassId) (x0 : Int64) (x1 : Int64) (x2 : Int64) (x3 : Int64) (h0 : Heap) (n0 : Nat) (Z0 : n0 ≤ h0.size) (P0 : Exa Z h0 a1 "com/example/okno/okno/AdmissionLog") (P1 : Fld Z h0 a1 "com/example/okno/okno/AdmissionLog" "size" "I" (.int (1 : Int32))) (P2 : Fld Z h0 a1 "com/example/okno/okno/AdmissionLog" "head" "I" (.int (0 : Int32))) (P3 : Fld Z h0 a1 "com/example/okno/okno/AdmissionLog" "subWindows" "[J" (.ref rs)) (P4 : Arv Z h0 rs k1 .long (4 : Int32) [(.long x0), (.long x1), (.long x2), (.long x3)] (.long (0 : Int64))) :
    MetFree l (⟨"com/example/okno/okno/AdmissionLog", "subWindowAt", "(I)J"⟩ : MethodName) (head1 (Jvm.Cond.code (⟨"com/example/okno/okno/AdmissionLog", "subWindowAt", "(I)J"⟩ : MethodName) prog_2_method_21_code 2 (some .long) :: ws) ({ frames := 1, cells := 0, slots := 0, locals := 14 } : Room)) (fun a U => a = #[(.ref a1), (.int (0 : Int32))] ∧ Z.Warmed39 U.vm ∧ U.heap = h0) (fun _ _ _ _ _ => True) (fun _ U o U' => ∃ v L, o = .returned v ∧ Q_rmAt_17 Z a1 rs k1 x0 x1 x2 x3 h0 n0 v U'.heap L ∧ FrameEnd U o U' L ({ frames := 1, cells := 0, slots := 0, locals := 14 } : Room).cells ({ frames := 1, cells := 0, slots := 0, locals := 14 } : Room).slots) := by
  refine MetFree.of_bodySF (plainFor_of_name pn_2) hisR ?_
  intro p e s m args below meth c s₁ Bd hml0 hP hK
  obtain ⟨rfl, hZ, hh⟩ := hP
  have hx := Bd.exec
  have hby := Bd.bytes
  have hml : c.maxLocals = 2 := hml0
  have hown : s.vm.findClass "com/example/okno/okno/AdmissionLog" = some m.cls := findClass_of_methodNamed Bd.named
  have hnm := (name_of_methodNamed Bd.named Bd.method).1
  have X0 : Stand p l e ({ frames := 1, cells := 0, slots := 0, locals := 14 } : Room) s m #[(.ref a1), (.int (0 : Int32))] below meth c s₁ [] 0 0 := Stand.of_body Bd
  have e0 : s₁.heap = h0 := by rw [← hh, Bd.state]; rfl
  have N0 := Fr.nil n0
  have KR : Keep h0 h0 [] := Keep.refl h0 _
  have pre0 : ∀ t, Steps p.tables e below (s₁.setTop (mkF m 0 #[.val (.ref a1), .val (.int (0 : Int32))] [])) t → Steps p.tables e below (s₁.setTop (entryFrame m #[(.ref a1), (.int (0 : Int32))] 2)) t := fun t k => castTop (ef_rmAt_17 m (a1) ((0 : Int32))) k
  obtain ⟨T1, X1, e1, st1⟩ := getF X0 hx hZ hown (host := "") (Or.inl (kw106 hw)) Via.refl e0 P1 (g := (mkF m 2 #[.val (.ref a1), .val (.int (0 : Int32))] [(.ref a1), (.int (0 : Int32))])) rfl rfl (hb hby d21_2)
  obtain ⟨T2, X2, e2, st2⟩ := getF X1 hx hZ hown (host := "") (Or.inl (kw35 hw)) Via.refl e1 P3 (g := (mkF m 9 #[.val (.ref a1), .val (.int (0 : Int32))] [(.ref a1)])) rfl rfl (hb hby d21_9)
  obtain ⟨cq3, q3, q3'⟩ := (P0).cell
  obtain ⟨_, _, ⟨T3, L3, k3, n3⟩, -, X3, ⟨Lc3, hQ3, l3, y3, z3⟩, st3⟩ := X2.privateBack hx (y := (⟨"com/example/okno/okno/AdmissionLog", "index", "(I)I"⟩ : MethodName)) hown (mvT hZ (kw117 hw)) (mvT hZ (kw118 hw)) (mvT hZ (own_selP rfl (kw17 hw) (kw118 hw) (kw119 hw) (by decide))) (Cond.privateMethod_at (mvP hZ (kw119 hw) (args := #[]))) (mvT hZ (kw120 hw)) (by decide) (backOf (W := 1) (rmIdx_13 l Z a0 hw [] a1 rs k1 ([(.long x0), (.long x1), (.long x2), (.long x3)]) h0 n0 Z0 P0 P2 P3 P4) hZ (kw120 hw) (kw18 hw) (by decide) (by decide)) (g := (mkF m 14 #[.val (.ref a1), .val (.int (0 : Int32))] [(.int (0 : Int32)), (.ref a1), (.ref rs)])) rfl (by rw [hml]; rfl) (Steps.refl _) (a := a1) (by rw [e2]; exact q3) q3' (argsL := [(.int (0 : Int32))]) (rest := [(.ref rs)]) (lenOf pd_11 rfl) rfl (by show 2 * 0 + _ ≤ _; exact Nat.le_of_eq rfl) (hb hby d21_14) (fun _ _ => ⟨rfl, e2, (by decide : 0 + 0 ≤ _), (by decide : 0 + 0 ≤ _)⟩)
  dsimp only [Pt.U, Pt.locs, Pt.cells, Pt.slots] at X3 l3 y3 z3 st3 hQ3
  subst l3 y3 z3
  obtain ⟨rfl, N3q, e3⟩ := hQ3
  have N3 := Fr.app N0 N3q
  obtain ⟨cl4, Ar4, q4, S4, N4', H4, G4⟩ := id P4
  have hin4 : ¬ ((0 : Int32) < 0 ∨ cl4.slots.size ≤ ((0 : Int32)).toNatClampNeg) := inb_of S4 ⟨by decide, by decide⟩
  have hat4 : cl4.slots[((0 : Int32)).toNatClampNeg]? = some (.long x0) := H4.at hin4 rfl
  obtain ⟨fs, hr, hrun, hended, hW, hsame⟩ := X3.leave (v := some (.long x0)) (fun h => by rw [Bd.returns] at h; cases h)
  refine ⟨_, _, pre0 _ ?_, hrun, hended, _, _, rfl, ?_, ⟨_, rfl⟩, hW, hsame.mono (by decide) (by decide)⟩
  · skip
    refine XS.iloadN X0.here hx rfl (hb hby d21_0) rfl ?_
    refine XS.aloadN X0.here hx rfl (hb hby d21_1) rfl rfl ?_
    refine st1 _ ?_
    refine XS.icmpNo X1.here hx rfl (hb hby d21_5) rfl (tlt (by decide : (0 : Int32) < (1 : Int32))).2.1 ?_
    refine XS.aloadN X1.here hx rfl (hb hby d21_8) rfl rfl ?_
    refine st2 _ ?_
    refine XS.aloadN X2.here hx rfl (hb hby d21_12) rfl rfl ?_
    refine XS.iloadN X2.here hx rfl (hb hby d21_13) rfl ?_
    refine st3.trans ?_
    refine X3.laload hx (j := (0 : Int32)) (v := (.long x0)) (by rw [e3]; exact Ar4.1) (State.isArrayOf_alike hZ.alike Ar4.2.1) Ar4.2.2 hin4 hat4 (g := (mkF m 17 #[.val (.ref a1), .val (.int (0 : Int32))] [(.int (0 : Int32)), (.ref rs)])) rfl rfl (hb hby d21_17) _ ?_
    refine XS.goto X3.here hx rfl (pc0 := 18) (pc' := 25) rfl (hb hby d21_18) (by decide) (by decide) ?_
    show Steps p.tables e below (T3.setTop (mkF m 25 #[.val (.ref a1), .val (.int (0 : Int32))] [(.long x0)])) _
    jvm_step X3.here [X3.here.top, hx, (hb hby d21_25), X3.method', Bd.returns, narrow]
    first | (intro acts; rw [hr _ acts rfl rfl rfl]) | rw [hr _ _ rfl rfl rfl]
    exact Steps.refl _
  · show Q_rmAt_17 Z a1 rs k1 x0 x1 x2 x3 h0 n0 _ T3.heap _
    rw [e3]
    exact ⟨rfl, N3, rfl⟩
theorem ef_rmAt_18 (m : MethodId) (x0 : Addr) (x1 : Int32) : entryFrame m #[(.ref x0), (.int x1)] 2 = mkF m 0 #[.val (.ref x0), .val (.int x1)] [] := by first | (simp [entryFrame, mkF, argsToLocals, Value.category]; done) | rfl
def Q_rmAt_18 (Z : State) (a1 : Addr) (rs : Addr) (k1 : ClassId) (vs1 : List Value) (ra : Addr) (k2 : ClassId) (x0 : Int64) (x1 : Int64) (x2 : Int64) (x3 : Int64) (h0 : Heap) (n0 : Nat) (v : Option Value) (h : Heap) (L : List Loc) : Prop := v = some (.long x0) ∧ Fr n0 L ∧ h = h0
set_option maxRecDepth 65536 in
set_option maxHeartbeats 40000000 in
theorem rmAt_18 (l : Launch) (Z : State) (a0 : Array Value) (hw : ∀ d ∈ tables_1, d.before a0 Z = true) (ws : List Jvm.Cond) (a1 : Addr) (rs : Addr) (k1 : ClassId) (vs1 : List Value) (ra : Addr) (k2 : ClassId) (x0 : Int64) (x1 : Int64) (x2 : Int64) (x3 : Int64) (h0 : Heap) (n0 : Nat) (Z0 : n0 ≤ h0.size) (P0 : Exa Z h0 a1 "com/example/okno/okno/AdmissionLog") (P1 : Fld Z h0 a1 "com/example/okno/okno/AdmissionLog" "size" "I" (.int (1 : Int32))) (P2 : Fld Z h0 a1 "com/example/okno/okno/AdmissionLog" "head" "I" (.int (0 : Int32))) (P3 : Fld Z h0 a1 "com/example/okno/okno/AdmissionLog" "subWindows" "[J" (.ref rs)) (P4 : Arv Z h0 rs k1 .long (4 : Int32) vs1 (.long (0 : Int64))) (P5 : Fld Z h0 a1 "com/example/okno/okno/AdmissionLog" "amounts" "[J" (.ref ra)) (P6 : Arv Z h0 ra k2 .long (4 : Int32) [(.long x0), (.long x1), (.long x2), (.long x3)] (.long (0 : Int64))) :
    MetFree l (⟨"com/example/okno/okno/AdmissionLog", "ringAmountAt", "(I)J"⟩ : MethodName) (head1 (Jvm.Cond.code (⟨"com/example/okno/okno/AdmissionLog", "ringAmountAt", "(I)J"⟩ : MethodName) prog_2_method_22_code 2 (some .long) :: ws) ({ frames := 1, cells := 0, slots := 0, locals := 14 } : Room)) (fun a U => a = #[(.ref a1), (.int (0 : Int32))] ∧ Z.Warmed39 U.vm ∧ U.heap = h0) (fun _ _ _ _ _ => True) (fun _ U o U' => ∃ v L, o = .returned v ∧ Q_rmAt_18 Z a1 rs k1 vs1 ra k2 x0 x1 x2 x3 h0 n0 v U'.heap L ∧ FrameEnd U o U' L ({ frames := 1, cells := 0, slots := 0, locals := 14 } : Room).cells ({ frames := 1, cells := 0, slots := 0, locals := 14 } : Room).slots) := by
  refine MetFree.of_bodySF (plainFor_of_name pn_2) hisR ?_
  intro p e s m args below meth c s₁ Bd hml0 hP hK
  obtain ⟨rfl, hZ, hh⟩ := hP
  have hx := Bd.exec
  have hby := Bd.bytes
  have hml : c.maxLocals = 2 := hml0
  have hown : s.vm.findClass "com/example/okno/okno/AdmissionLog" = some m.cls := findClass_of_methodNamed Bd.named
  have hnm := (name_of_methodNamed Bd.named Bd.method).1
  have X0 : Stand p l e ({ frames := 1, cells := 0, slots := 0, locals := 14 } : Room) s m #[(.ref a1), (.int (0 : Int32))] below meth c s₁ [] 0 0 := Stand.of_body Bd
  have e0 : s₁.heap = h0 := by rw [← hh, Bd.state]; rfl
  have N0 := Fr.nil n0
  have KR : Keep h0 h0 [] := Keep.refl h0 _
  have pre0 : ∀ t, Steps p.tables e below (s₁.setTop (mkF m 0 #[.val (.ref a1), .val (.int (0 : Int32))] [])) t → Steps p.tables e below (s₁.setTop (entryFrame m #[(.ref a1), (.int (0 : Int32))] 2)) t := fun t k => castTop (ef_rmAt_18 m (a1) ((0 : Int32))) k
  obtain ⟨T1, X1, e1, st1⟩ := getF X0 hx hZ hown (host := "") (Or.inl (kw106 hw)) Via.refl e0 P1 (g := (mkF m 2 #[.val (.ref a1), .val (.int (0 : Int32))] [(.ref a1), (.int (0 : Int32))])) rfl rfl (hb hby d22_2)
  obtain ⟨T2, X2, e2, st2⟩ := getF X1 hx hZ hown (host := "") (Or.inl (kw37 hw)) Via.refl e1 P5 (g := (mkF m 9 #[.val (.ref a1), .val (.int (0 : Int32))] [(.ref a1)])) rfl rfl (hb hby d22_9)
  obtain ⟨cq3, q3, q3'⟩ := (P0).cell
  obtain ⟨_, _, ⟨T3, L3, k3, n3⟩, -, X3, ⟨Lc3, hQ3, l3, y3, z3⟩, st3⟩ := X2.privateBack hx (y := (⟨"com/example/okno/okno/AdmissionLog", "index", "(I)I"⟩ : MethodName)) hown (mvT hZ (kw117 hw)) (mvT hZ (kw118 hw)) (mvT hZ (own_selP rfl (kw17 hw) (kw118 hw) (kw119 hw) (by decide))) (Cond.privateMethod_at (mvP hZ (kw119 hw) (args := #[]))) (mvT hZ (kw120 hw)) (by decide) (backOf (W := 1) (rmIdx_13 l Z a0 hw [] a1 rs k1 vs1 h0 n0 Z0 P0 P2 P3 P4) hZ (kw120 hw) (kw18 hw) (by decide) (by decide)) (g := (mkF m 14 #[.val (.ref a1), .val (.int (0 : Int32))] [(.int (0 : Int32)), (.ref a1), (.ref ra)])) rfl (by rw [hml]; rfl) (Steps.refl _) (a := a1) (by rw [e2]; exact q3) q3' (argsL := [(.int (0 : Int32))]) (rest := [(.ref ra)]) (lenOf pd_11 rfl) rfl (by show 2 * 0 + _ ≤ _; exact Nat.le_of_eq rfl) (hb hby d22_14) (fun _ _ => ⟨rfl, e2, (by decide : 0 + 0 ≤ _), (by decide : 0 + 0 ≤ _)⟩)
  dsimp only [Pt.U, Pt.locs, Pt.cells, Pt.slots] at X3 l3 y3 z3 st3 hQ3
  subst l3 y3 z3
  obtain ⟨rfl, N3q, e3⟩ := hQ3
  have N3 := Fr.app N0 N3q
  obtain ⟨cl4, Ar4, q4, S4, N4', H4, G4⟩ := id P6
  have hin4 : ¬ ((0 : Int32) < 0 ∨ cl4.slots.size ≤ ((0 : Int32)).toNatClampNeg) := inb_of S4 ⟨by decide, by decide⟩
  have hat4 : cl4.slots[((0 : Int32)).toNatClampNeg]? = some (.long x0) := H4.at hin4 rfl
  obtain ⟨fs, hr, hrun, hended, hW, hsame⟩ := X3.leave (v := some (.long x0)) (fun h => by rw [Bd.returns] at h; cases h)
  refine ⟨_, _, pre0 _ ?_, hrun, hended, _, _, rfl, ?_, ⟨_, rfl⟩, hW, hsame.mono (by decide) (by decide)⟩
  · skip
    refine XS.iloadN X0.here hx rfl (hb hby d22_0) rfl ?_
    refine XS.aloadN X0.here hx rfl (hb hby d22_1) rfl rfl ?_
    refine st1 _ ?_
    refine XS.icmpNo X1.here hx rfl (hb hby d22_5) rfl (tlt (by decide : (0 : Int32) < (1 : Int32))).2.1 ?_
    refine XS.aloadN X1.here hx rfl (hb hby d22_8) rfl rfl ?_
    refine st2 _ ?_
    refine XS.aloadN X2.here hx rfl (hb hby d22_12) rfl rfl ?_
    refine XS.iloadN X2.here hx rfl (hb hby d22_13) rfl ?_
    refine st3.trans ?_
    refine X3.laload hx (j := (0 : Int32)) (v := (.long x0)) (by rw [e3]; exact Ar4.1) (State.isArrayOf_alike hZ.alike Ar4.2.1) Ar4.2.2 hin4 hat4 (g := (mkF m 17 #[.val (.ref a1), .val (.int (0 : Int32))] [(.int (0 : Int32)), (.ref ra)])) rfl rfl (hb hby d22_17) _ ?_
    refine XS.goto X3.here hx rfl (pc0 := 18) (pc' := 22) rfl (hb hby d22_18) (by decide) (by decide) ?_
    show Steps p.tables e below (T3.setTop (mkF m 22 #[.val (.ref a1), .val (.int (0 : Int32))] [(.long x0)])) _
    jvm_step X3.here [X3.here.top, hx, (hb hby d22_22), X3.method', Bd.returns, narrow]
    first | (intro acts; rw [hr _ acts rfl rfl rfl]) | rw [hr _ _ rfl rfl rfl]
    exact Steps.refl _
  · show Q_rmAt_18 Z a1 rs k1 vs1 ra k2 x0 x1 x2 x3 h0 n0 _ T3.heap _
    rw [e3]
    exact ⟨rfl, N3, rfl⟩
theorem ef_rmAt_19 (m : MethodId) (x0 : Addr) (x1 : Int32) : entryFrame m #[(.ref x0), (.int x1)] 2 = mkF m 0 #[.val (.ref x0), .val (.int x1)] [] := by first | (simp [entryFrame, mkF, argsToLocals, Value.category]; done) | rfl
def Q_rmAt_19 (Z : State) (a1 : Addr) (ns : Int64) (h0 : Heap) (n0 : Nat) (v : Option Value) (h : Heap) (L : List Loc) : Prop := v = some (.long ns) ∧ Fr n0 L ∧ h = h0
set_option maxRecDepth 65536 in
set_option maxHeartbeats 40000000 in
theorem rmAt_19 (l : Launch) (Z : State) (a0 : Array Value) (hw : ∀ d ∈ tables_1, d.before a0 Z = true) (ws : List Jvm.Cond) (a1 : Addr) (ns : Int64) (h0 : Heap) (n0 : Nat) (Z0 : n0 ≤ h0.size) (P0 : Fld Z h0 a1 "com/example/okno/okno/AdmissionLog" "size" "I" (.int (1 : Int32))) (P1 : Fld Z h0 a1 "com/example/okno/okno/AdmissionLog" "newestSubWindow" "J" (.long ns)) :
    MetFree l (⟨"com/example/okno/okno/AdmissionLog", "subWindowAt", "(I)J"⟩ : MethodName) (head1 (Jvm.Cond.code (⟨"com/example/okno/okno/AdmissionLog", "subWindowAt", "(I)J"⟩ : MethodName) prog_2_method_21_code 2 (some .long) :: ws) ({ frames := 0, cells := 0, slots := 0, locals := 0 } : Room)) (fun a U => a = #[(.ref a1), (.int (1 : Int32))] ∧ Z.Warmed39 U.vm ∧ U.heap = h0) (fun _ _ _ _ _ => True) (fun _ U o U' => ∃ v L, o = .returned v ∧ Q_rmAt_19 Z a1 ns h0 n0 v U'.heap L ∧ FrameEnd U o U' L ({ frames := 0, cells := 0, slots := 0, locals := 0 } : Room).cells ({ frames := 0, cells := 0, slots := 0, locals := 0 } : Room).slots) := by
  refine MetFree.of_bodySF (plainFor_of_name pn_2) hisR ?_
  intro p e s m args below meth c s₁ Bd hml0 hP hK
  obtain ⟨rfl, hZ, hh⟩ := hP
  have hx := Bd.exec
  have hby := Bd.bytes
  have hml : c.maxLocals = 2 := hml0
  have hown : s.vm.findClass "com/example/okno/okno/AdmissionLog" = some m.cls := findClass_of_methodNamed Bd.named
  have hnm := (name_of_methodNamed Bd.named Bd.method).1
  have X0 : Stand p l e ({ frames := 0, cells := 0, slots := 0, locals := 0 } : Room) s m #[(.ref a1), (.int (1 : Int32))] below meth c s₁ [] 0 0 := Stand.of_body Bd
  have e0 : s₁.heap = h0 := by rw [← hh, Bd.state]; rfl
  have N0 := Fr.nil n0
  have KR : Keep h0 h0 [] := Keep.refl h0 _
  have pre0 : ∀ t, Steps p.tables e below (s₁.setTop (mkF m 0 #[.val (.ref a1), .val (.int (1 : Int32))] [])) t → Steps p.tables e below (s₁.setTop (entryFrame m #[(.ref a1), (.int (1 : Int32))] 2)) t := fun t k => castTop (ef_rmAt_19 m (a1) ((1 : Int32))) k
  obtain ⟨T1, X1, e1, st1⟩ := getF X0 hx hZ hown (host := "") (Or.inl (kw106 hw)) Via.refl e0 P0 (g := (mkF m 2 #[.val (.ref a1), .val (.int (1 : Int32))] [(.ref a1), (.int (1 : Int32))])) rfl rfl (hb hby d21_2)
  obtain ⟨T2, X2, e2, st2⟩ := getF X1 hx hZ hown (host := "") (Or.inl (kw92 hw)) Via.refl e1 P1 (g := (mkF m 22 #[.val (.ref a1), .val (.int (1 : Int32))] [(.ref a1)])) rfl rfl (hb hby d21_22)
  obtain ⟨fs, hr, hrun, hended, hW, hsame⟩ := X2.leave (v := some (.long ns)) (fun h => by rw [Bd.returns] at h; cases h)
  refine ⟨_, _, pre0 _ ?_, hrun, hended, _, _, rfl, ?_, ⟨_, rfl⟩, hW, hsame.mono (by decide) (by decide)⟩
  · skip
    refine XS.iloadN X0.here hx rfl (hb hby d21_0) rfl ?_
    refine XS.aloadN X0.here hx rfl (hb hby d21_1) rfl rfl ?_
    refine st1 _ ?_
    refine XS.icmpYes X1.here hx rfl (pc0 := 5) (pc' := 21) rfl (hb hby d21_5) rfl (flt (by decide : ¬ ((1 : Int32) < (1 : Int32)))).2.1 (by decide) (by decide) ?_
    refine XS.aloadN X1.here hx rfl (hb hby d21_21) rfl rfl ?_
    refine st2 _ ?_
    show Steps p.tables e below (T2.setTop (mkF m 25 #[.val (.ref a1), .val (.int (1 : Int32))] [(.long ns)])) _
    jvm_step X2.here [X2.here.top, hx, (hb hby d21_25), X2.method', Bd.returns, narrow]
    first | (intro acts; rw [hr _ acts rfl rfl rfl]) | rw [hr _ _ rfl rfl rfl]
    exact Steps.refl _
  · show Q_rmAt_19 Z a1 ns h0 n0 _ T2.heap _
    rw [e2]
    exact ⟨rfl, N0, rfl⟩
theorem ef_rmAt_20 (m : MethodId) (x0 : Addr) (x1 : Int32) : entryFrame m #[(.ref x0), (.int x1)] 2 = mkF m 0 #[.val (.ref x0), .val (.int x1)] [] := by first | (simp [entryFrame, mkF, argsToLocals, Value.category]; done) | rfl
def Q_rmAt_20 (Z : State) (a1 : Addr) (h0 : Heap) (n0 : Nat) (v : Option Value) (h : Heap) (L : List Loc) : Prop := v = some (.long (0 : Int64)) ∧ Fr n0 L ∧ h = h0
set_option maxRecDepth 65536 in
set_option maxHeartbeats 40000000 in
theorem rmAt_20 (l : Launch) (Z : State) (a0 : Array Value) (hw : ∀ d ∈ tables_1, d.before a0 Z = true) (ws : List Jvm.Cond) (a1 : Addr) (h0 : Heap) (n0 : Nat) (Z0 : n0 ≤ h0.size) (P0 : Fld Z h0 a1 "com/example/okno/okno/AdmissionLog" "size" "I" (.int (1 : Int32))) :
    MetFree l (⟨"com/example/okno/okno/AdmissionLog", "ringAmountAt", "(I)J"⟩ : MethodName) (head1 (Jvm.Cond.code (⟨"com/example/okno/okno/AdmissionLog", "ringAmountAt", "(I)J"⟩ : MethodName) prog_2_method_22_code 2 (some .long) :: ws) ({ frames := 0, cells := 0, slots := 0, locals := 0 } : Room)) (fun a U => a = #[(.ref a1), (.int (1 : Int32))] ∧ Z.Warmed39 U.vm ∧ U.heap = h0) (fun _ _ _ _ _ => True) (fun _ U o U' => ∃ v L, o = .returned v ∧ Q_rmAt_20 Z a1 h0 n0 v U'.heap L ∧ FrameEnd U o U' L ({ frames := 0, cells := 0, slots := 0, locals := 0 } : Room).cells ({ frames := 0, cells := 0, slots := 0, locals := 0 } : Room).slots) := by
  refine MetFree.of_bodySF (plainFor_of_name pn_2) hisR ?_
  intro p e s m args below meth c s₁ Bd hml0 hP hK
  obtain ⟨rfl, hZ, hh⟩ := hP
  have hx := Bd.exec
  have hby := Bd.bytes
  have hml : c.maxLocals = 2 := hml0
  have hown : s.vm.findClass "com/example/okno/okno/AdmissionLog" = some m.cls := findClass_of_methodNamed Bd.named
  have hnm := (name_of_methodNamed Bd.named Bd.method).1
  have X0 : Stand p l e ({ frames := 0, cells := 0, slots := 0, locals := 0 } : Room) s m #[(.ref a1), (.int (1 : Int32))] below meth c s₁ [] 0 0 := Stand.of_body Bd
  have e0 : s₁.heap = h0 := by rw [← hh, Bd.state]; rfl
  have N0 := Fr.nil n0
  have KR : Keep h0 h0 [] := Keep.refl h0 _
  have pre0 : ∀ t, Steps p.tables e below (s₁.setTop (mkF m 0 #[.val (.ref a1), .val (.int (1 : Int32))] [])) t → Steps p.tables e below (s₁.setTop (entryFrame m #[(.ref a1), (.int (1 : Int32))] 2)) t := fun t k => castTop (ef_rmAt_20 m (a1) ((1 : Int32))) k
  obtain ⟨T1, X1, e1, st1⟩ := getF X0 hx hZ hown (host := "") (Or.inl (kw106 hw)) Via.refl e0 P0 (g := (mkF m 2 #[.val (.ref a1), .val (.int (1 : Int32))] [(.ref a1), (.int (1 : Int32))])) rfl rfl (hb hby d22_2)
  obtain ⟨fs, hr, hrun, hended, hW, hsame⟩ := X1.leave (v := some (.long (0 : Int64))) (fun h => by rw [Bd.returns] at h; cases h)
  refine ⟨_, _, pre0 _ ?_, hrun, hended, _, _, rfl, ?_, ⟨_, rfl⟩, hW, hsame.mono (by decide) (by decide)⟩
  · skip
    refine XS.iloadN X0.here hx rfl (hb hby d22_0) rfl ?_
    refine XS.aloadN X0.here hx rfl (hb hby d22_1) rfl rfl ?_
    refine st1 _ ?_
    refine XS.icmpYes X1.here hx rfl (pc0 := 5) (pc' := 21) rfl (hb hby d22_5) rfl (flt (by decide : ¬ ((1 : Int32) < (1 : Int32)))).2.1 (by decide) (by decide) ?_
    refine XS.lconst X1.here hx rfl (hb hby d22_21) ?_
    show Steps p.tables e below (T1.setTop (mkF m 22 #[.val (.ref a1), .val (.int (1 : Int32))] [(.long (0 : Int64))])) _
    jvm_step X1.here [X1.here.top, hx, (hb hby d22_22), X1.method', Bd.returns, narrow]
    first | (intro acts; rw [hr _ acts rfl rfl rfl]) | rw [hr _ _ rfl rfl rfl]
    exact Steps.refl _
  · show Q_rmAt_20 Z a1 h0 n0 _ T1.heap _
    rw [e1]
    exact ⟨rfl, N0, rfl⟩
theorem ef_rmFit_15 (m : MethodId) (x0 : Addr) (x1 : Int32) (x2 : Int64) : entryFrame m #[(.ref x0), (.int x1), (.long x2)] 8 = mkF m 0 #[.val (.ref x0), .val (.int x1), .val (.long x2), .second, .unset, .unset, .unset, .unset] [] := by first | (simp [entryFrame, mkF, argsToLocals, Value.category]; done) | rfl
def Q_rmFit_15 (Z : State) (a1 : Addr) (pw : Int32) (q : Int64) (sw : Addr) (k3 : ClassId) (vs : List Value) (r : Int64) (ns : Int64) (x0 : Int64) (x1 : Int64) (y0 : Int64) (y1 : Int64) (tt : Int64) (x2 : Int64) (x3 : Int64) (y2 : Int64) (y3 : Int64) (rs : Addr) (ra : Addr) (k1 : ClassId) (k2 : ClassId) (h0 : Heap) (n0 : Nat) (v : Option Value) (h : Heap) (L : List Loc) : Prop := v = none ∧ Fr n0 L ∧ Keep h0 h [sw] ∧ Arv Z h sw k3 .long (4 : Int32) ((vs.set (((2 : Int32) * pw)).toNatClampNeg (.long (own_fr1 r q ns x0 x1 y0 y1))).set ((((2 : Int32) * pw) + (1 : Int32))).toNatClampNeg (.long (own_fc1 r q ns x0 x1 y0 y1))) (.long (0 : Int64))
set_option maxRecDepth 65536 in
set_option maxHeartbeats 40000000 in
theorem rmFit_15 (l : Launch) (Z : State) (a0 : Array Value) (hw : ∀ d ∈ tables_1, d.before a0 Z = true) (ws : List Jvm.Cond) (a1 : Addr) (pw : Int32) (q : Int64) (sw : Addr) (k3 : ClassId) (vs : List Value) (r : Int64) (ns : Int64) (x0 : Int64) (x1 : Int64) (y0 : Int64) (y1 : Int64) (tt : Int64) (x2 : Int64) (x3 : Int64) (y2 : Int64) (y3 : Int64) (rs : Addr) (ra : Addr) (k1 : ClassId) (k2 : ClassId) (h0 : Heap) (n0 : Nat) (Z0 : n0 ≤ h0.size) (P0 : Exa Z h0 a1 "com/example/okno/okno/AdmissionLog") (P1 : n0 ≤ sw) (P2 : sw ≠ a1) (hl : vs.length = 4) (P4 : Arv Z h0 sw k3 .long (4 : Int32) vs (.long (0 : Int64))) (hp : pw = (0 : Int32) ∨ pw = (1 : Int32)) (hr : vs.getD (((2 : Int32) * pw)).toNatClampNeg (.long (0 : Int64)) = .long r) (hc : vs.getD ((((2 : Int32) * pw) + (1 : Int32))).toNatClampNeg (.long (0 : Int64)) = .long (2 : Int64)) (P8 : Fld Z h0 a1 "com/example/okno/okno/AdmissionLog" "total" "J" (.long tt)) (htt : tt ≠ (0 : Int64)) (P10 : Fld Z h0 a1 "com/example/okno/okno/AdmissionLog" "shorterWindows" "[J" (.ref sw)) (P11 : Fld Z h0 a1 "com/example/okno/okno/AdmissionLog" "size" "I" (.int (1 : Int32))) (P12 : Fld Z h0 a1 "com/example/okno/okno/AdmissionLog" "newestSubWindow" "J" (.long ns)) (P13 : Fld Z h0 a1 "com/example/okno/okno/AdmissionLog" "head" "I" (.int (0 : Int32))) (P14 : Fld Z h0 a1 "com/example/okno/okno/AdmissionLog" "subWindows" "[J" (.ref rs)) (P15 : Fld Z h0 a1 "com/example/okno/okno/AdmissionLog" "amounts" "[J" (.ref ra)) (P16 : Arv Z h0 rs k1 .long (4 : Int32) [(.long x0), (.long x1), (.long x2), (.long x3)] (.long (0 : Int64))) (P17 : Arv Z h0 ra k2 .long (4 : Int32) [(.long y0), (.long y1), (.long y2), (.long y3)] (.long (0 : Int64))) (P18 : sw ≠ rs) (P19 : sw ≠ ra) :
    MetFree l (⟨"com/example/okno/okno/AdmissionLog", "fitShorterWindow", "(IJ)V"⟩ : MethodName) (head1 (Jvm.Cond.code (⟨"com/example/okno/okno/AdmissionLog", "fitShorterWindow", "(IJ)V"⟩ : MethodName) prog_2_method_18_code 8 none :: ws) ({ frames := 2, cells := 0, slots := 0, locals := 29 } : Room)) (fun a U => a = #[(.ref a1), (.int pw), (.long q)] ∧ Z.Warmed39 U.vm ∧ U.heap = h0) (fun _ _ _ _ _ => True) (fun _ U o U' => ∃ v L, o = .returned v ∧ Q_rmFit_15 Z a1 pw q sw k3 vs r ns x0 x1 y0 y1 tt x2 x3 y2 y3 rs ra k1 k2 h0 n0 v U'.heap L ∧ FrameEnd U o U' L ({ frames := 2, cells := 0, slots := 0, locals := 29 } : Room).cells ({ frames := 2, cells := 0, slots := 0, locals := 29 } : Room).slots) := by
  refine MetFree.of_bodySF (plainFor_of_name pn_2) hisR ?_
  intro p e s m args below meth c s₁ Bd hml0 hP hK
  obtain ⟨rfl, hZ, hh⟩ := hP
  have hx := Bd.exec
  have hby := Bd.bytes
  have hml : c.maxLocals = 8 := hml0
  have hown : s.vm.findClass "com/example/okno/okno/AdmissionLog" = some m.cls := findClass_of_methodNamed Bd.named
  have hnm := (name_of_methodNamed Bd.named Bd.method).1
  have X0 : Stand p l e ({ frames := 2, cells := 0, slots := 0, locals := 29 } : Room) s m #[(.ref a1), (.int pw), (.long q)] below meth c s₁ [] 0 0 := Stand.of_body Bd
  have e0 : s₁.heap = h0 := by rw [← hh, Bd.state]; rfl
  have N0 := Fr.nil n0
  have KR : Keep h0 h0 [sw] := Keep.refl h0 _
  have pre0 : ∀ t, Steps p.tables e below (s₁.setTop (mkF m 0 #[.val (.ref a1), .val (.int pw), .val (.long q), .second, .unset, .unset, .unset, .unset] [])) t → Steps p.tables e below (s₁.setTop (entryFrame m #[(.ref a1), (.int pw), (.long q)] 8)) t := fun t k => castTop (ef_rmFit_15 m (a1) (pw) (q)) k
  obtain ⟨cq1, q1, q1'⟩ := (P0).cell
  obtain ⟨_, _, ⟨T1, L1, k1, n1⟩, -, X1, ⟨Lc1, hQ1, l1, y1, z1⟩, st1⟩ := X0.privateBack hx (y := (⟨"com/example/okno/okno/AdmissionLog", "entryCount", "()I"⟩ : MethodName)) hown (mvT hZ (kw59 hw)) (mvT hZ (kw60 hw)) (mvT hZ (own_selP rfl (kw17 hw) (kw60 hw) (kw61 hw) (by decide))) (Cond.privateMethod_at (mvP hZ (kw61 hw) (args := #[]))) (mvT hZ (kw62 hw)) (by decide) (backOf (W := 0) (rmEnt_16 l Z a0 hw [] a1 tt h0 n0 Z0 P0 P8 htt P11) hZ (kw62 hw) (kw18 hw) (by decide) (by decide)) (g := (mkF m 1 #[.val (.ref a1), .val (.int pw), .val (.long q), .second, .unset, .unset, .unset, .unset] [(.ref a1)])) rfl (by rw [hml]; rfl) (Steps.refl _) (a := a1) (by rw [e0]; exact q1) q1' (argsL := []) (rest := []) (lenOf pd_5 rfl) rfl (by show 2 * 0 + _ ≤ _; exact Nat.le_of_eq rfl) (hb hby d8_1) (fun _ _ => ⟨rfl, e0, (by decide : 0 + 0 ≤ _), (by decide : 0 + 0 ≤ _)⟩)
  dsimp only [Pt.U, Pt.locs, Pt.cells, Pt.slots] at X1 l1 y1 z1 st1 hQ1
  subst l1 y1 z1
  obtain ⟨rfl, N1q, e1⟩ := hQ1
  have N1 := Fr.app N0 N1q
  obtain ⟨T2, X2, e2, st2⟩ := getF X1 hx hZ hown (host := "") (Or.inl (kw52 hw)) Via.refl e1 P10 (g := (mkF m 7 #[.val (.ref a1), .val (.int pw), .val (.long q), .second, .val (.int (2 : Int32)), .unset, .unset, .unset] [(.ref a1)])) rfl rfl (hb hby d8_7)
  obtain ⟨cl3, Ar3, q3, S3, N3', H3, G3⟩ := id P4
  have hin3 : ¬ (((2 : Int32) * pw) < 0 ∨ cl3.slots.size ≤ (((2 : Int32) * pw)).toNatClampNeg) := inb_of S3 (own_ib hp)
  have hat3 : cl3.slots[(((2 : Int32) * pw)).toNatClampNeg]? = some (.long r) := H3.at hin3 hr
  obtain ⟨T4, X4, e4, st4⟩ := getF X2 hx hZ hown (host := "") (Or.inl (kw52 hw)) Via.refl e2 P10 (g := (mkF m 17 #[.val (.ref a1), .val (.int pw), .val (.long q), .second, .val (.int (2 : Int32)), .val (.long r), .second, .unset] [(.ref a1)])) rfl rfl (hb hby d8_17)
  obtain ⟨cl5, Ar5, q5, S5, N5', H5, G5⟩ := id P4
  have hin5 : ¬ ((((2 : Int32) * pw) + (1 : Int32)) < 0 ∨ cl5.slots.size ≤ ((((2 : Int32) * pw) + (1 : Int32))).toNatClampNeg) := inb_of S5 (own_ib1 hp)
  have hat5 : cl5.slots[((((2 : Int32) * pw) + (1 : Int32))).toNatClampNeg]? = some (.long (2 : Int64)) := H5.at hin5 hc
  obtain ⟨cq6, q6, q6'⟩ := (P0).cell
  obtain ⟨_, _, ⟨T6, L6, k6, n6⟩, -, X6, ⟨Lc6, hQ6, l6, y6, z6⟩, st6⟩ := X4.privateBack hx (y := (⟨"com/example/okno/okno/AdmissionLog", "subWindowAt", "(I)J"⟩ : MethodName)) hown (mvT hZ (kw121 hw)) (mvT hZ (kw122 hw)) (mvT hZ (own_selP rfl (kw17 hw) (kw122 hw) (kw123 hw) (by decide))) (Cond.privateMethod_at (mvP hZ (kw123 hw) (args := #[]))) (mvT hZ (kw124 hw)) (by decide) (backOf (W := 0) (rmAt_17 l Z a0 hw [] a1 rs k1 x0 x1 x2 x3 h0 n0 Z0 P0 P11 P13 P14 P16) hZ (kw124 hw) (kw18 hw) (by decide) (by decide)) (g := (mkF m 40 #[.val (.ref a1), .val (.int pw), .val (.long q), .second, .val (.int (2 : Int32)), .val (.long r), .second, .val (.int (2 : Int32))] [(.int (0 : Int32)), (.ref a1)])) rfl (by rw [hml]; rfl) (Steps.refl _) (a := a1) (by rw [e4]; exact q6) q6' (argsL := [(.int (0 : Int32))]) (rest := []) (lenOf pd_1 rfl) rfl (by show 2 * 0 + _ ≤ _; exact Nat.le_of_eq rfl) (hb hby d8_40) (fun _ _ => ⟨rfl, e4, (by decide : 0 + 0 ≤ _), (by decide : 0 + 0 ≤ _)⟩)
  dsimp only [Pt.U, Pt.locs, Pt.cells, Pt.slots] at X6 l6 y6 z6 st6 hQ6
  subst l6 y6 z6
  obtain ⟨rfl, N6q, e6⟩ := hQ6
  have N6 := Fr.app N1 N6q
  have pre7 : ∀ t, Steps p.tables e below (T6.setTop (mkF m 45 #[.val (.ref a1), .val (.int pw), .val (.long q), .second, .val (.int (2 : Int32)), .val (.long r), .second, .val (.int (2 : Int32))] [(.int (lcmpW x0 q))])) t → Steps p.tables e below (s₁.setTop (entryFrame m #[(.ref a1), (.int pw), (.long q)] 8)) t := fun t k => pre0 t (by
    refine XS.aloadN X0.here hx rfl (hb hby d8_0) rfl rfl ?_
    refine st1.trans ?_
    refine XS.istore X1.here hx rfl (hb hby d8_4) rfl (l' := #[.val (.ref a1), .val (.int pw), .val (.long q), .second, .val (.int (2 : Int32)), .unset, .unset, .unset]) rfl ?_
    refine XS.aloadN X1.here hx rfl (hb hby d8_6) rfl rfl ?_
    refine st2 _ ?_
    refine XS.iconst X2.here hx rfl (hb hby d8_10) ?_
    refine XS.iloadN X2.here hx rfl (hb hby d8_11) rfl ?_
    refine XS.imul X2.here hx rfl (hb hby d8_12) rfl ?_
    refine X2.laload hx (j := ((2 : Int32) * pw)) (v := (.long r)) (by rw [e2]; exact Ar3.1) (State.isArrayOf_alike hZ.alike Ar3.2.1) Ar3.2.2 hin3 hat3 (g := (mkF m 13 #[.val (.ref a1), .val (.int pw), .val (.long q), .second, .val (.int (2 : Int32)), .unset, .unset, .unset] [(.int ((2 : Int32) * pw)), (.ref sw)])) rfl rfl (hb hby d8_13) _ ?_
    refine XS.lstore X2.here hx rfl (hb hby d8_14) rfl (l' := #[.val (.ref a1), .val (.int pw), .val (.long q), .second, .val (.int (2 : Int32)), .val (.long r), .second, .unset]) rfl ?_
    refine XS.aloadN X2.here hx rfl (hb hby d8_16) rfl rfl ?_
    refine st4 _ ?_
    refine XS.iconst X4.here hx rfl (hb hby d8_20) ?_
    refine XS.iloadN X4.here hx rfl (hb hby d8_21) rfl ?_
    refine XS.imul X4.here hx rfl (hb hby d8_22) rfl ?_
    refine XS.iconst X4.here hx rfl (hb hby d8_23) ?_
    refine XS.iadd X4.here hx rfl (hb hby d8_24) rfl ?_
    refine X4.laload hx (j := (((2 : Int32) * pw) + (1 : Int32))) (v := (.long (2 : Int64))) (by rw [e4]; exact Ar5.1) (State.isArrayOf_alike hZ.alike Ar5.2.1) Ar5.2.2 hin5 hat5 (g := (mkF m 25 #[.val (.ref a1), .val (.int pw), .val (.long q), .second, .val (.int (2 : Int32)), .val (.long r), .second, .unset] [(.int (((2 : Int32) * pw) + (1 : Int32))), (.ref sw)])) rfl rfl (hb hby d8_25) _ ?_
    refine XS.l2i X4.here hx rfl (hb hby d8_26) rfl ?_
    refine XS.istore X4.here hx rfl (hb hby d8_27) rfl (l' := #[.val (.ref a1), .val (.int pw), .val (.long q), .second, .val (.int (2 : Int32)), .val (.long r), .second, .val (.int (2 : Int32))]) rfl ?_
    refine XS.iload X4.here hx rfl (hb hby d8_29) rfl ?_
    refine XS.ifNo X4.here hx rfl (hb hby d8_31) rfl ((if0 _ _).trans (tlt (by decide : (0 : Int32) < (2 : Int32))).2.2.2) ?_
    refine XS.aloadN X4.here hx rfl (hb hby d8_34) rfl rfl ?_
    refine XS.iload X4.here hx rfl (hb hby d8_35) rfl ?_
    refine XS.iload X4.here hx rfl (hb hby d8_37) rfl ?_
    show Steps p.tables e below (T4.setTop (mkF m 39 #[.val (.ref a1), .val (.int pw), .val (.long q), .second, .val (.int (2 : Int32)), .val (.long r), .second, .val (.int (2 : Int32))] [(.int (2 : Int32)), (.int (2 : Int32)), (.ref a1)])) _
    refine XS.isub X4.here hx rfl (hb hby d8_39) rfl ?_
    refine st6.trans ?_
    refine XS.lloadN X6.here hx rfl (hb hby d8_43) rfl ?_
    refine XS.lcmp X6.here hx rfl (hb hby d8_44) rfl ?_
    exact k)
  by_cases hc8 : x0 < q
  · skip
    obtain ⟨cq9, q9, q9'⟩ := (P0).cell
    obtain ⟨_, _, ⟨T9, L9, k9, n9⟩, -, X9, ⟨Lc9, hQ9, l9, y9, z9⟩, st9⟩ := X6.privateBack hx (y := (⟨"com/example/okno/okno/AdmissionLog", "ringAmountAt", "(I)J"⟩ : MethodName)) hown (mvT hZ (kw125 hw)) (mvT hZ (kw126 hw)) (mvT hZ (own_selP rfl (kw17 hw) (kw126 hw) (kw127 hw) (by decide))) (Cond.privateMethod_at (mvP hZ (kw127 hw) (args := #[]))) (mvT hZ (kw128 hw)) (by decide) (backOf (W := 2) (rmAt_18 l Z a0 hw [] a1 rs k1 ([(.long x0), (.long x1), (.long x2), (.long x3)]) ra k2 y0 y1 y2 y3 h0 n0 Z0 P0 P11 P13 P14 P16 P15 P17) hZ (kw128 hw) (kw18 hw) (by decide) (by decide)) (g := (mkF m 56 #[.val (.ref a1), .val (.int pw), .val (.long q), .second, .val (.int (2 : Int32)), .val (.long r), .second, .val (.int (2 : Int32))] [(.int (0 : Int32)), (.ref a1), (.long r)])) rfl (by rw [hml]; rfl) (Steps.refl _) (a := a1) (by rw [e6]; exact q9) q9' (argsL := [(.int (0 : Int32))]) (rest := [(.long r)]) (lenOf pd_1 rfl) rfl (by show 2 * 0 + _ ≤ _; exact Nat.le_of_eq rfl) (hb hby d8_56) (fun _ _ => ⟨rfl, e6, (by decide : 0 + 0 ≤ _), (by decide : 0 + 0 ≤ _)⟩)
    dsimp only [Pt.U, Pt.locs, Pt.cells, Pt.slots] at X9 l9 y9 z9 st9 hQ9
    subst l9 y9 z9
    obtain ⟨rfl, N9q, e9⟩ := hQ9
    have N9 := Fr.app N6 N9q
    obtain ⟨cq10, q10, q10'⟩ := (P0).cell
    obtain ⟨_, _, ⟨T10, L10, k10, n10⟩, -, X10, ⟨Lc10, hQ10, l10, y10, z10⟩, st10⟩ := X9.privateBack hx (y := (⟨"com/example/okno/okno/AdmissionLog", "subWindowAt", "(I)J"⟩ : MethodName)) hown (mvT hZ (kw121 hw)) (mvT hZ (kw122 hw)) (mvT hZ (own_selP rfl (kw17 hw) (kw122 hw) (kw123 hw) (by decide))) (Cond.privateMethod_at (mvP hZ (kw123 hw) (args := #[]))) (mvT hZ (kw124 hw)) (by decide) (backOf (W := 0) (rmAt_19 l Z a0 hw [] a1 ns h0 n0 Z0 P11 P12) hZ (kw124 hw) (kw18 hw) (by decide) (by decide)) (g := (mkF m 40 #[.val (.ref a1), .val (.int pw), .val (.long q), .second, .val (.int (2 : Int32)), .val (.long (r - y0)), .second, .val (.int (1 : Int32))] [(.int (1 : Int32)), (.ref a1)])) rfl (by rw [hml]; rfl) (Steps.refl _) (a := a1) (by rw [e9]; exact q10) q10' (argsL := [(.int (1 : Int32))]) (rest := []) (lenOf pd_1 rfl) rfl (by show 2 * 0 + _ ≤ _; exact Nat.le_of_eq rfl) (hb hby d8_40) (fun _ _ => ⟨rfl, e9, (by decide : 0 + 0 ≤ _), (by decide : 0 + 0 ≤ _)⟩)
    dsimp only [Pt.U, Pt.locs, Pt.cells, Pt.slots] at X10 l10 y10 z10 st10 hQ10
    subst l10 y10 z10
    obtain ⟨rfl, N10q, e10⟩ := hQ10
    have N10 := Fr.app N9 N10q
    have pre11 : ∀ t, Steps p.tables e below (T10.setTop (mkF m 45 #[.val (.ref a1), .val (.int pw), .val (.long q), .second, .val (.int (2 : Int32)), .val (.long (r - y0)), .second, .val (.int (1 : Int32))] [(.int (lcmpW ns q))])) t → Steps p.tables e below (s₁.setTop (entryFrame m #[(.ref a1), (.int pw), (.long q)] 8)) t := fun t k => pre7 t (by
      refine XS.ifNo X6.here hx rfl (hb hby d8_45) rfl ((if0 _ _).trans (tlt ((lw_lt _ _).mpr hc8)).2.1) ?_
      refine XS.lload X6.here hx rfl (hb hby d8_48) rfl ?_
      refine XS.aloadN X6.here hx rfl (hb hby d8_50) rfl rfl ?_
      refine XS.iload X6.here hx rfl (hb hby d8_51) rfl ?_
      refine XS.iload X6.here hx rfl (hb hby d8_53) rfl ?_
      refine XS.isub X6.here hx rfl (hb hby d8_55) rfl ?_
      refine st9.trans ?_
      refine XS.lsub X9.here hx rfl (hb hby d8_59) rfl ?_
      refine XS.lstore X9.here hx rfl (hb hby d8_60) rfl (l' := #[.val (.ref a1), .val (.int pw), .val (.long q), .second, .val (.int (2 : Int32)), .val (.long (r - y0)), .second, .val (.int (2 : Int32))]) rfl ?_
      refine XS.iinc X9.here hx rfl (hb hby d8_62) rfl (l' := #[.val (.ref a1), .val (.int pw), .val (.long q), .second, .val (.int (2 : Int32)), .val (.long (r - y0)), .second, .val (.int (1 : Int32))]) rfl ?_
      refine XS.goto X9.here hx rfl (pc0 := 65) (pc' := 29) rfl (hb hby d8_65) (by decide) (by decide) ?_
      refine XS.iload X9.here hx rfl (hb hby d8_29) rfl ?_
      refine XS.ifNo X9.here hx rfl (hb hby d8_31) rfl ((if0 _ _).trans (tlt (by decide : (0 : Int32) < (1 : Int32))).2.2.2) ?_
      refine XS.aloadN X9.here hx rfl (hb hby d8_34) rfl rfl ?_
      refine XS.iload X9.here hx rfl (hb hby d8_35) rfl ?_
      refine XS.iload X9.here hx rfl (hb hby d8_37) rfl ?_
      refine XS.isub X9.here hx rfl (hb hby d8_39) rfl ?_
      refine st10.trans ?_
      refine XS.lloadN X10.here hx rfl (hb hby d8_43) rfl ?_
      refine XS.lcmp X10.here hx rfl (hb hby d8_44) rfl ?_
      exact k)
    by_cases hc12 : ns < q
    · skip
      obtain ⟨cq13, q13, q13'⟩ := (P0).cell
      obtain ⟨_, _, ⟨T13, L13, k13, n13⟩, -, X13, ⟨Lc13, hQ13, l13, y13, z13⟩, st13⟩ := X10.privateBack hx (y := (⟨"com/example/okno/okno/AdmissionLog", "ringAmountAt", "(I)J"⟩ : MethodName)) hown (mvT hZ (kw125 hw)) (mvT hZ (kw126 hw)) (mvT hZ (own_selP rfl (kw17 hw) (kw126 hw) (kw127 hw) (by decide))) (Cond.privateMethod_at (mvP hZ (kw127 hw) (args := #[]))) (mvT hZ (kw128 hw)) (by decide) (backOf (W := 2) (rmAt_20 l Z a0 hw [] a1 h0 n0 Z0 P11) hZ (kw128 hw) (kw18 hw) (by decide) (by decide)) (g := (mkF m 56 #[.val (.ref a1), .val (.int pw), .val (.long q), .second, .val (.int (2 : Int32)), .val (.long (r - y0)), .second, .val (.int (1 : Int32))] [(.int (1 : Int32)), (.ref a1), (.long (r - y0))])) rfl (by rw [hml]; rfl) (Steps.refl _) (a := a1) (by rw [e10]; exact q13) q13' (argsL := [(.int (1 : Int32))]) (rest := [(.long (r - y0))]) (lenOf pd_1 rfl) rfl (by show 2 * 0 + _ ≤ _; exact Nat.le_of_eq rfl) (hb hby d8_56) (fun _ _ => ⟨rfl, e10, (by decide : 0 + 0 ≤ _), (by decide : 0 + 0 ≤ _)⟩)
      dsimp only [Pt.U, Pt.locs, Pt.cells, Pt.slots] at X13 l13 y13 z13 st13 hQ13
      subst l13 y13 z13
      obtain ⟨rfl, N13q, e13⟩ := hQ13
      have N13 := Fr.app N10 N13q
      obtain ⟨cq14, q14, q14'⟩ := (P0).cell
      obtain ⟨_, _, ⟨T14, L14, k14, n14⟩, -, X14, ⟨Lc14, hQ14, l14, y14, z14⟩, st14⟩ := X13.privateBack hx (y := (⟨"com/example/okno/okno/AdmissionLog", "subWindowAt", "(I)J"⟩ : MethodName)) hown (mvT hZ (kw121 hw)) (mvT hZ (kw122 hw)) (mvT hZ (own_selP rfl (kw17 hw) (kw122 hw) (kw123 hw) (by decide))) (Cond.privateMethod_at (mvP hZ (kw123 hw) (args := #[]))) (mvT hZ (kw124 hw)) (by decide) (backOf (W := 0) (rmAt_19 l Z a0 hw [] a1 ns h0 n0 Z0 P11 P12) hZ (kw124 hw) (kw18 hw) (by decide) (by decide)) (g := (mkF m 83 #[.val (.ref a1), .val (.int pw), .val (.long q), .second, .val (.int (2 : Int32)), .val (.long ((r - y0) - (0 : Int64))), .second, .val (.int (0 : Int32))] [(.int (1 : Int32)), (.ref a1)])) rfl (by rw [hml]; rfl) (Steps.refl _) (a := a1) (by rw [e13]; exact q14) q14' (argsL := [(.int (1 : Int32))]) (rest := []) (lenOf pd_1 rfl) rfl (by show 2 * 0 + _ ≤ _; exact Nat.le_of_eq rfl) (hb hby d8_83) (fun _ _ => ⟨rfl, e13, (by decide : 0 + 0 ≤ _), (by decide : 0 + 0 ≤ _)⟩)
      dsimp only [Pt.U, Pt.locs, Pt.cells, Pt.slots] at X14 l14 y14 z14 st14 hQ14
      subst l14 y14 z14
      obtain ⟨rfl, N14q, e14⟩ := hQ14
      have N14 := Fr.app N13 N14q
      obtain ⟨T15, X15, e15, st15⟩ := getF X14 hx hZ hown (host := "") (Or.inl (kw52 hw)) Via.refl e14 P10 (g := (mkF m 112 #[.val (.ref a1), .val (.int pw), .val (.long q), .second, .val (.int (2 : Int32)), .val (.long ((r - y0) - (0 : Int64))), .second, .val (.int (0 : Int32))] [(.ref a1)])) rfl rfl (hb hby d8_112)
      obtain ⟨cl16, Ar16, q16, S16, N16', H16, G16⟩ := id P4
      have hin16 : ¬ (((2 : Int32) * pw) < 0 ∨ cl16.slots.size ≤ (((2 : Int32) * pw)).toNatClampNeg) := inb_of S16 (own_ib hp)
      obtain ⟨T16, h16, X16, e16, W16, st16⟩ := stJ X15 hx hZ e15 Ar16 (j := ((2 : Int32) * pw)) hin16 (g := (mkF m 120 #[.val (.ref a1), .val (.int pw), .val (.long q), .second, .val (.int (2 : Int32)), .val (.long ((r - y0) - (0 : Int64))), .second, .val (.int (0 : Int32))] [(.long ((r - y0) - (0 : Int64))), (.int ((2 : Int32) * pw)), (.ref sw)])) rfl rfl (hb hby d8_120)
      have Z16 : n0 ≤ h16.size := Nat.le_trans Z0 (Keep.of_wr W16).1
      have K16 : Keep h0 h16 [sw] := KR.wr W16 (Or.inl (List.mem_of_getElem? (i := 0) rfl))
      have N16 := Fr.snoc X16 N14 P1
      have V16 : Arv Z h16 sw k3 .long (4 : Int32) (vs.set (((2 : Int32) * pw)).toNatClampNeg (.long ((r - y0) - (0 : Int64)))) (.long (0 : Int64)) := Arv.set Ar16 q16 S16 N16' H16 G16 rfl W16 (((2 : Int32) * pw)).toNatClampNeg rfl (own_ix hp hl)
      have f17 : Fld Z h16 a1 "com/example/okno/okno/AdmissionLog" "shorterWindows" "[J" (.ref sw) := (P10.other W16 (Or.inl (Ne.symm P2)))
      obtain ⟨T18, X18, e18, st18⟩ := getF X16 hx hZ hown (host := "") (Or.inl (kw52 hw)) Via.refl e16 f17 (g := (mkF m 122 #[.val (.ref a1), .val (.int pw), .val (.long q), .second, .val (.int (2 : Int32)), .val (.long ((r - y0) - (0 : Int64))), .second, .val (.int (0 : Int32))] [(.ref a1)])) rfl rfl (hb hby d8_122)
      obtain ⟨cl19, Ar19, q19, S19, N19', H19, G19⟩ := id V16
      have hin19 : ¬ ((((2 : Int32) * pw) + (1 : Int32)) < 0 ∨ cl19.slots.size ≤ ((((2 : Int32) * pw) + (1 : Int32))).toNatClampNeg) := inb_of S19 (own_ib1 hp)
      obtain ⟨T19, h19, X19, e19, W19, st19⟩ := stJ X18 hx hZ e18 Ar19 (j := (((2 : Int32) * pw) + (1 : Int32))) hin19 (g := (mkF m 133 #[.val (.ref a1), .val (.int pw), .val (.long q), .second, .val (.int (2 : Int32)), .val (.long ((r - y0) - (0 : Int64))), .second, .val (.int (0 : Int32))] [(.long (0 : Int64)), (.int (((2 : Int32) * pw) + (1 : Int32))), (.ref sw)])) rfl rfl (hb hby d8_133)
      have Z19 : n0 ≤ h19.size := Nat.le_trans Z16 (Keep.of_wr W19).1
      have K19 : Keep h0 h19 [sw] := K16.wr W19 (Or.inl (List.mem_of_getElem? (i := 0) rfl))
      have N19 := Fr.snoc X19 N16 P1
      have V19 : Arv Z h19 sw k3 .long (4 : Int32) ((vs.set (((2 : Int32) * pw)).toNatClampNeg (.long ((r - y0) - (0 : Int64)))).set ((((2 : Int32) * pw) + (1 : Int32))).toNatClampNeg (.long (0 : Int64))) (.long (0 : Int64)) := Arv.set Ar19 q19 S19 N19' H19 G19 rfl W19 ((((2 : Int32) * pw) + (1 : Int32))).toNatClampNeg rfl (own_ix1 hp (by simp [hl]))
      obtain ⟨fs, hr, hrun, hended, hW, hsame⟩ := X19.leave (v := none) (fun _ => rfl)
      refine ⟨_, _, pre11 _ ?_, hrun, hended, _, _, rfl, ?_, ⟨_, rfl⟩, hW, hsame.mono (by decide) (by decide)⟩
      · skip
        refine XS.ifNo X10.here hx rfl (hb hby d8_45) rfl ((if0 _ _).trans (tlt ((lw_lt _ _).mpr hc12)).2.1) ?_
        refine XS.lload X10.here hx rfl (hb hby d8_48) rfl ?_
        refine XS.aloadN X10.here hx rfl (hb hby d8_50) rfl rfl ?_
        refine XS.iload X10.here hx rfl (hb hby d8_51) rfl ?_
        refine XS.iload X10.here hx rfl (hb hby d8_53) rfl ?_
        refine XS.isub X10.here hx rfl (hb hby d8_55) rfl ?_
        refine st13.trans ?_
        refine XS.lsub X13.here hx rfl (hb hby d8_59) rfl ?_
        refine XS.lstore X13.here hx rfl (hb hby d8_60) rfl (l' := #[.val (.ref a1), .val (.int pw), .val (.long q), .second, .val (.int (2 : Int32)), .val (.long ((r - y0) - (0 : Int64))), .second, .val (.int (1 : Int32))]) rfl ?_
        refine XS.iinc X13.here hx rfl (hb hby d8_62) rfl (l' := #[.val (.ref a1), .val (.int pw), .val (.long q), .second, .val (.int (2 : Int32)), .val (.long ((r - y0) - (0 : Int64))), .second, .val (.int (0 : Int32))]) rfl ?_
        refine XS.goto X13.here hx rfl (pc0 := 65) (pc' := 29) rfl (hb hby d8_65) (by decide) (by decide) ?_
        refine XS.iload X13.here hx rfl (hb hby d8_29) rfl ?_
        refine XS.ifYes X13.here hx rfl (pc0 := 31) (pc' := 68) rfl (hb hby d8_31) rfl ((if0 _ _).trans (flt (by decide : ¬ ((0 : Int32) < (0 : Int32)))).2.2.2) (by decide) (by decide) ?_
        refine XS.iload X13.here hx rfl (hb hby d8_68) rfl ?_
        refine XS.iload X13.here hx rfl (hb hby d8_70) rfl ?_
        refine XS.icmpNo X13.here hx rfl (hb hby d8_72) rfl (tlt (by decide : (0 : Int32) < (2 : Int32))).2.1 ?_
        refine XS.aloadN X13.here hx rfl (hb hby d8_75) rfl rfl ?_
        refine XS.iload X13.here hx rfl (hb hby d8_76) rfl ?_
        refine XS.iload X13.here hx rfl (hb hby d8_78) rfl ?_
        refine XS.isub X13.here hx rfl (hb hby d8_80) rfl ?_
        refine XS.iconst X13.here hx rfl (hb hby d8_81) ?_
        refine XS.isub X13.here hx rfl (hb hby d8_82) rfl ?_
        refine st14.trans ?_
        refine XS.lloadN X14.here hx rfl (hb hby d8_86) rfl ?_
        refine XS.lcmp X14.here hx rfl (hb hby d8_87) rfl ?_
        show Steps p.tables e below (T14.setTop (mkF m 88 #[.val (.ref a1), .val (.int pw), .val (.long q), .second, .val (.int (2 : Int32)), .val (.long ((r - y0) - (0 : Int64))), .second, .val (.int (0 : Int32))] [(.int (lcmpW ns q))])) _
        refine XS.ifYes X14.here hx rfl (pc0 := 88) (pc' := 111) rfl (hb hby d8_88) rfl ((if0 _ _).trans (tlt ((lw_lt _ _).mpr hc12)).1) (by decide) (by decide) ?_
        refine XS.aloadN X14.here hx rfl (hb hby d8_111) rfl rfl ?_
        refine st15 _ ?_
        refine XS.iconst X15.here hx rfl (hb hby d8_115) ?_
        refine XS.iloadN X15.here hx rfl (hb hby d8_116) rfl ?_
        refine XS.imul X15.here hx rfl (hb hby d8_117) rfl ?_
        refine XS.lload X15.here hx rfl (hb hby d8_118) rfl ?_
        refine st16 _ ?_
        refine XS.aloadN X16.here hx rfl (hb hby d8_121) rfl rfl ?_
        refine st18 _ ?_
        refine XS.iconst X18.here hx rfl (hb hby d8_125) ?_
        refine XS.iloadN X18.here hx rfl (hb hby d8_126) rfl ?_
        refine XS.imul X18.here hx rfl (hb hby d8_127) rfl ?_
        refine XS.iconst X18.here hx rfl (hb hby d8_128) ?_
        refine XS.iadd X18.here hx rfl (hb hby d8_129) rfl ?_
        refine XS.iload X18.here hx rfl (hb hby d8_130) rfl ?_
        refine XS.i2l X18.here hx rfl (hb hby d8_132) rfl ?_
        refine st19 _ ?_
        show Steps p.tables e below (T19.setTop (mkF m 134 #[.val (.ref a1), .val (.int pw), .val (.long q), .second, .val (.int (2 : Int32)), .val (.long ((r - y0) - (0 : Int64))), .second, .val (.int (0 : Int32))] [])) _
        exact X19.returnOut hx Bd.returns (hb hby d8_134) hr
      · show Q_rmFit_15 Z a1 pw q sw k3 vs r ns x0 x1 y0 y1 tt x2 x3 y2 y3 rs ra k1 k2 h0 n0 _ T19.heap _
        rw [e19]
        exact ⟨rfl, N19, K19, (by simp only [own_fr1, own_fc1, if_pos hc8, if_pos hc12]; exact V19)⟩
    · skip
      obtain ⟨cq21, q21, q21'⟩ := (P0).cell
      obtain ⟨_, _, ⟨T21, L21, k21, n21⟩, -, X21, ⟨Lc21, hQ21, l21, y21, z21⟩, st21⟩ := X10.privateBack hx (y := (⟨"com/example/okno/okno/AdmissionLog", "subWindowAt", "(I)J"⟩ : MethodName)) hown (mvT hZ (kw121 hw)) (mvT hZ (kw122 hw)) (mvT hZ (own_selP rfl (kw17 hw) (kw122 hw) (kw123 hw) (by decide))) (Cond.privateMethod_at (mvP hZ (kw123 hw) (args := #[]))) (mvT hZ (kw124 hw)) (by decide) (backOf (W := 0) (rmAt_17 l Z a0 hw [] a1 rs k1 x0 x1 x2 x3 h0 n0 Z0 P0 P11 P13 P14 P16) hZ (kw124 hw) (kw18 hw) (by decide) (by decide)) (g := (mkF m 83 #[.val (.ref a1), .val (.int pw), .val (.long q), .second, .val (.int (2 : Int32)), .val (.long (r - y0)), .second, .val (.int (1 : Int32))] [(.int (0 : Int32)), (.ref a1)])) rfl (by rw [hml]; rfl) (Steps.refl _) (a := a1) (by rw [e10]; exact q21) q21' (argsL := [(.int (0 : Int32))]) (rest := []) (lenOf pd_1 rfl) rfl (by show 2 * 0 + _ ≤ _; exact Nat.le_of_eq rfl) (hb hby d8_83) (fun _ _ => ⟨rfl, e10, (by decide : 0 + 0 ≤ _), (by decide : 0 + 0 ≤ _)⟩)
      dsimp only [Pt.U, Pt.locs, Pt.cells, Pt.slots] at X21 l21 y21 z21 st21 hQ21
      subst l21 y21 z21
      obtain ⟨rfl, N21q, e21⟩ := hQ21
      have N21 := Fr.app N10 N21q
      obtain ⟨T22, X22, e22, st22⟩ := getF X21 hx hZ hown (host := "") (Or.inl (kw52 hw)) Via.refl e21 P10 (g := (mkF m 112 #[.val (.ref a1), .val (.int pw), .val (.long q), .second, .val (.int (2 : Int32)), .val (.long (r - y0)), .second, .val (.int (1 : Int32))] [(.ref a1)])) rfl rfl (hb hby d8_112)
      obtain ⟨cl23, Ar23, q23, S23, N23', H23, G23⟩ := id P4
      have hin23 : ¬ (((2 : Int32) * pw) < 0 ∨ cl23.slots.size ≤ (((2 : Int32) * pw)).toNatClampNeg) := inb_of S23 (own_ib hp)
      obtain ⟨T23, h23, X23, e23, W23, st23⟩ := stJ X22 hx hZ e22 Ar23 (j := ((2 : Int32) * pw)) hin23 (g := (mkF m 120 #[.val (.ref a1), .val (.int pw), .val (.long q), .second, .val (.int (2 : Int32)), .val (.long (r - y0)), .second, .val (.int (1 : Int32))] [(.long (r - y0)), (.int ((2 : Int32) * pw)), (.ref sw)])) rfl rfl (hb hby d8_120)
      have Z23 : n0 ≤ h23.size := Nat.le_trans Z0 (Keep.of_wr W23).1
      have K23 : Keep h0 h23 [sw] := KR.wr W23 (Or.inl (List.mem_of_getElem? (i := 0) rfl))
      have N23 := Fr.snoc X23 N21 P1
      have V23 : Arv Z h23 sw k3 .long (4 : Int32) (vs.set (((2 : Int32) * pw)).toNatClampNeg (.long (r - y0))) (.long (0 : Int64)) := Arv.set Ar23 q23 S23 N23' H23 G23 rfl W23 (((2 : Int32) * pw)).toNatClampNeg rfl (own_ix hp hl)
      have f24 : Fld Z h23 a1 "com/example/okno/okno/AdmissionLog" "shorterWindows" "[J" (.ref sw) := (P10.other W23 (Or.inl (Ne.symm P2)))
      obtain ⟨T25, X25, e25, st25⟩ := getF X23 hx hZ hown (host := "") (Or.inl (kw52 hw)) Via.refl e23 f24 (g := (mkF m 122 #[.val (.ref a1), .val (.int pw), .val (.long q), .second, .val (.int (2 : Int32)), .val (.long (r - y0)), .second, .val (.int (1 : Int32))] [(.ref a1)])) rfl rfl (hb hby d8_122)
      obtain ⟨cl26, Ar26, q26, S26, N26', H26, G26⟩ := id V23
      have hin26 : ¬ ((((2 : Int32) * pw) + (1 : Int32)) < 0 ∨ cl26.slots.size ≤ ((((2 : Int32) * pw) + (1 : Int32))).toNatClampNeg) := inb_of S26 (own_ib1 hp)
      obtain ⟨T26, h26, X26, e26, W26, st26⟩ := stJ X25 hx hZ e25 Ar26 (j := (((2 : Int32) * pw) + (1 : Int32))) hin26 (g := (mkF m 133 #[.val (.ref a1), .val (.int pw), .val (.long q), .second, .val (.int (2 : Int32)), .val (.long (r - y0)), .second, .val (.int (1 : Int32))] [(.long (1 : Int64)), (.int (((2 : Int32) * pw) + (1 : Int32))), (.ref sw)])) rfl rfl (hb hby d8_133)
      have Z26 : n0 ≤ h26.size := Nat.le_trans Z23 (Keep.of_wr W26).1
      have K26 : Keep h0 h26 [sw] := K23.wr W26 (Or.inl (List.mem_of_getElem? (i := 0) rfl))
      have N26 := Fr.snoc X26 N23 P1
      have V26 : Arv Z h26 sw k3 .long (4 : Int32) ((vs.set (((2 : Int32) * pw)).toNatClampNeg (.long (r - y0))).set ((((2 : Int32) * pw) + (1 : Int32))).toNatClampNeg (.long (1 : Int64))) (.long (0 : Int64)) := Arv.set Ar26 q26 S26 N26' H26 G26 rfl W26 ((((2 : Int32) * pw) + (1 : Int32))).toNatClampNeg rfl (own_ix1 hp (by simp [hl]))
      obtain ⟨fs, hr, hrun, hended, hW, hsame⟩ := X26.leave (v := none) (fun _ => rfl)
      refine ⟨_, _, pre11 _ ?_, hrun, hended, _, _, rfl, ?_, ⟨_, rfl⟩, hW, hsame.mono (by decide) (by decide)⟩
      · skip
        refine XS.ifYes X10.here hx rfl (pc0 := 45) (pc' := 68) rfl (hb hby d8_45) rfl ((if0 _ _).trans (flt (fun q => hc12 ((lw_lt _ _).mp q))).2.1) (by decide) (by decide) ?_
        refine XS.iload X10.here hx rfl (hb hby d8_68) rfl ?_
        refine XS.iload X10.here hx rfl (hb hby d8_70) rfl ?_
        refine XS.icmpNo X10.here hx rfl (hb hby d8_72) rfl (tlt (by decide : (1 : Int32) < (2 : Int32))).2.1 ?_
        refine XS.aloadN X10.here hx rfl (hb hby d8_75) rfl rfl ?_
        refine XS.iload X10.here hx rfl (hb hby d8_76) rfl ?_
        refine XS.iload X10.here hx rfl (hb hby d8_78) rfl ?_
        refine XS.isub X10.here hx rfl (hb hby d8_80) rfl ?_
        refine XS.iconst X10.here hx rfl (hb hby d8_81) ?_
        refine XS.isub X10.here hx rfl (hb hby d8_82) rfl ?_
        refine st21.trans ?_
        refine XS.lloadN X21.here hx rfl (hb hby d8_86) rfl ?_
        refine XS.lcmp X21.here hx rfl (hb hby d8_87) rfl ?_
        refine XS.ifYes X21.here hx rfl (pc0 := 88) (pc' := 111) rfl (hb hby d8_88) rfl ((if0 _ _).trans (tlt ((lw_lt _ _).mpr hc8)).1) (by decide) (by decide) ?_
        refine XS.aloadN X21.here hx rfl (hb hby d8_111) rfl rfl ?_
        refine st22 _ ?_
        refine XS.iconst X22.here hx rfl (hb hby d8_115) ?_
        refine XS.iloadN X22.here hx rfl (hb hby d8_116) rfl ?_
        refine XS.imul X22.here hx rfl (hb hby d8_117) rfl ?_
        refine XS.lload X22.here hx rfl (hb hby d8_118) rfl ?_
        refine st23 _ ?_
        refine XS.aloadN X23.here hx rfl (hb hby d8_121) rfl rfl ?_
        refine st25 _ ?_
        refine XS.iconst X25.here hx rfl (hb hby d8_125) ?_
        refine XS.iloadN X25.here hx rfl (hb hby d8_126) rfl ?_
        show Steps p.tables e below (T25.setTop (mkF m 127 #[.val (.ref a1), .val (.int pw), .val (.long q), .second, .val (.int (2 : Int32)), .val (.long (r - y0)), .second, .val (.int (1 : Int32))] [(.int pw), (.int (2 : Int32)), (.ref sw)])) _
        refine XS.imul X25.here hx rfl (hb hby d8_127) rfl ?_
        refine XS.iconst X25.here hx rfl (hb hby d8_128) ?_
        refine XS.iadd X25.here hx rfl (hb hby d8_129) rfl ?_
        refine XS.iload X25.here hx rfl (hb hby d8_130) rfl ?_
        refine XS.i2l X25.here hx rfl (hb hby d8_132) rfl ?_
        refine st26 _ ?_
        show Steps p.tables e below (T26.setTop (mkF m 134 #[.val (.ref a1), .val (.int pw), .val (.long q), .second, .val (.int (2 : Int32)), .val (.long (r - y0)), .second, .val (.int (1 : Int32))] [])) _
        exact X26.returnOut hx Bd.returns (hb hby d8_134) hr
      · show Q_rmFit_15 Z a1 pw q sw k3 vs r ns x0 x1 y0 y1 tt x2 x3 y2 y3 rs ra k1 k2 h0 n0 _ T26.heap _
        rw [e26]
        exact ⟨rfl, N26, K26, (by simp only [own_fr1, own_fc1, if_pos hc8, if_neg hc12]; exact V26)⟩
  · skip
    obtain ⟨T28, X28, e28, st28⟩ := getF X6 hx hZ hown (host := "") (Or.inl (kw52 hw)) Via.refl e6 P10 (g := (mkF m 112 #[.val (.ref a1), .val (.int pw), .val (.long q), .second, .val (.int (2 : Int32)), .val (.long r), .second, .val (.int (2 : Int32))] [(.ref a1)])) rfl rfl (hb hby d8_112)
    obtain ⟨cl29, Ar29, q29, S29, N29', H29, G29⟩ := id P4
    have hin29 : ¬ (((2 : Int32) * pw) < 0 ∨ cl29.slots.size ≤ (((2 : Int32) * pw)).toNatClampNeg) := inb_of S29 (own_ib hp)
    obtain ⟨T29, h29, X29, e29, W29, st29⟩ := stJ X28 hx hZ e28 Ar29 (j := ((2 : Int32) * pw)) hin29 (g := (mkF m 120 #[.val (.ref a1), .val (.int pw), .val (.long q), .second, .val (.int (2 : Int32)), .val (.long r), .second, .val (.int (2 : Int32))] [(.long r), (.int ((2 : Int32) * pw)), (.ref sw)])) rfl rfl (hb hby d8_120)
    have Z29 : n0 ≤ h29.size := Nat.le_trans Z0 (Keep.of_wr W29).1
    have K29 : Keep h0 h29 [sw] := KR.wr W29 (Or.inl (List.mem_of_getElem? (i := 0) rfl))
    have N29 := Fr.snoc X29 N6 P1
    have V29 : Arv Z h29 sw k3 .long (4 : Int32) (vs.set (((2 : Int32) * pw)).toNatClampNeg (.long r)) (.long (0 : Int64)) := Arv.set Ar29 q29 S29 N29' H29 G29 rfl W29 (((2 : Int32) * pw)).toNatClampNeg rfl (own_ix hp hl)
    have f30 : Fld Z h29 a1 "com/example/okno/okno/AdmissionLog" "shorterWindows" "[J" (.ref sw) := (P10.other W29 (Or.inl (Ne.symm P2)))
    obtain ⟨T31, X31, e31, st31⟩ := getF X29 hx hZ hown (host := "") (Or.inl (kw52 hw)) Via.refl e29 f30 (g := (mkF m 122 #[.val (.ref a1), .val (.int pw), .val (.long q), .second, .val (.int (2 : Int32)), .val (.long r), .second, .val (.int (2 : Int32))] [(.ref a1)])) rfl rfl (hb hby d8_122)
    obtain ⟨cl32, Ar32, q32, S32, N32', H32, G32⟩ := id V29
    have hin32 : ¬ ((((2 : Int32) * pw) + (1 : Int32)) < 0 ∨ cl32.slots.size ≤ ((((2 : Int32) * pw) + (1 : Int32))).toNatClampNeg) := inb_of S32 (own_ib1 hp)
    obtain ⟨T32, h32, X32, e32, W32, st32⟩ := stJ X31 hx hZ e31 Ar32 (j := (((2 : Int32) * pw) + (1 : Int32))) hin32 (g := (mkF m 133 #[.val (.ref a1), .val (.int pw), .val (.long q), .second, .val (.int (2 : Int32)), .val (.long r), .second, .val (.int (2 : Int32))] [(.long (2 : Int64)), (.int (((2 : Int32) * pw) + (1 : Int32))), (.ref sw)])) rfl rfl (hb hby d8_133)
    have Z32 : n0 ≤ h32.size := Nat.le_trans Z29 (Keep.of_wr W32).1
    have K32 : Keep h0 h32 [sw] := K29.wr W32 (Or.inl (List.mem_of_getElem? (i := 0) rfl))
    have N32 := Fr.snoc X32 N29 P1
    have V32 : Arv Z h32 sw k3 .long (4 : Int32) ((vs.set (((2 : Int32) * pw)).toNatClampNeg (.long r)).set ((((2 : Int32) * pw) + (1 : Int32))).toNatClampNeg (.long (2 : Int64))) (.long (0 : Int64)) := Arv.set Ar32 q32 S32 N32' H32 G32 rfl W32 ((((2 : Int32) * pw) + (1 : Int32))).toNatClampNeg rfl (own_ix1 hp (by simp [hl]))
    obtain ⟨fs, hr, hrun, hended, hW, hsame⟩ := X32.leave (v := none) (fun _ => rfl)
    refine ⟨_, _, pre7 _ ?_, hrun, hended, _, _, rfl, ?_, ⟨_, rfl⟩, hW, hsame.mono (by decide) (by decide)⟩
    · skip
      refine XS.ifYes X6.here hx rfl (pc0 := 45) (pc' := 68) rfl (hb hby d8_45) rfl ((if0 _ _).trans (flt (fun q => hc8 ((lw_lt _ _).mp q))).2.1) (by decide) (by decide) ?_
      refine XS.iload X6.here hx rfl (hb hby d8_68) rfl ?_
      refine XS.iload X6.here hx rfl (hb hby d8_70) rfl ?_
      refine XS.icmpYes X6.here hx rfl (pc0 := 72) (pc' := 111) rfl (hb hby d8_72) rfl (flt (by decide : ¬ ((2 : Int32) < (2 : Int32)))).2.1 (by decide) (by decide) ?_
      refine XS.aloadN X6.here hx rfl (hb hby d8_111) rfl rfl ?_
      refine st28 _ ?_
      refine XS.iconst X28.here hx rfl (hb hby d8_115) ?_
      refine XS.iloadN X28.here hx rfl (hb hby d8_116) rfl ?_
      refine XS.imul X28.here hx rfl (hb hby d8_117) rfl ?_
      refine XS.lload X28.here hx rfl (hb hby d8_118) rfl ?_
      refine st29 _ ?_
      refine XS.aloadN X29.here hx rfl (hb hby d8_121) rfl rfl ?_
      refine st31 _ ?_
      refine XS.iconst X31.here hx rfl (hb hby d8_125) ?_
      refine XS.iloadN X31.here hx rfl (hb hby d8_126) rfl ?_
      refine XS.imul X31.here hx rfl (hb hby d8_127) rfl ?_
      refine XS.iconst X31.here hx rfl (hb hby d8_128) ?_
      refine XS.iadd X31.here hx rfl (hb hby d8_129) rfl ?_
      refine XS.iload X31.here hx rfl (hb hby d8_130) rfl ?_
      refine XS.i2l X31.here hx rfl (hb hby d8_132) rfl ?_
      refine st32 _ ?_
      show Steps p.tables e below (T32.setTop (mkF m 134 #[.val (.ref a1), .val (.int pw), .val (.long q), .second, .val (.int (2 : Int32)), .val (.long r), .second, .val (.int (2 : Int32))] [])) _
      exact X32.returnOut hx Bd.returns (hb hby d8_134) hr
    · show Q_rmFit_15 Z a1 pw q sw k3 vs r ns x0 x1 y0 y1 tt x2 x3 y2 y3 rs ra k1 k2 h0 n0 _ T32.heap _
      rw [e32]
      exact ⟨rfl, N32, K32, (by simp only [own_fr1, own_fc1, if_neg hc8]; exact V32)⟩
theorem ef_rmIdx_23 (m : MethodId) (x0 : Addr) (x1 : Int32) : entryFrame m #[(.ref x0), (.int x1)] 2 = mkF m 0 #[.val (.ref x0), .val (.int x1)] [] := by first | (simp [entryFrame, mkF, argsToLocals, Value.category]; done) | rfl
def Q_rmIdx_23 (Z : State) (a1 : Addr) (rs : Addr) (k1 : ClassId) (vs1 : List Value) (h0 : Heap) (n0 : Nat) (v : Option Value) (h : Heap) (L : List Loc) : Prop := v = some (.int (1 : Int32)) ∧ Fr n0 L ∧ h = h0
set_option maxRecDepth 65536 in
set_option maxHeartbeats 40000000 in
theorem rmIdx_23 (l : Launch) (Z : State) (a0 : Array Value) (hw : ∀ d ∈ tables_1, d.before a0 Z = true) (ws : List Jvm.Cond) (a1 : Addr) (rs : Addr) (k1 : ClassId) (vs1 : List Value) (h0 : Heap) (n0 : Nat) (Z0 : n0 ≤ h0.size) (P0 : Exa Z h0 a1 "com/example/okno/okno/AdmissionLog") (P1 : Fld Z h0 a1 "com/example/okno/okno/AdmissionLog" "head" "I" (.int (0 : Int32))) (P2 : Fld Z h0 a1 "com/example/okno/okno/AdmissionLog" "subWindows" "[J" (.ref rs)) (P3 : Arv Z h0 rs k1 .long (4 : Int32) vs1 (.long (0 : Int64))) :
    MetFree l (⟨"com/example/okno/okno/AdmissionLog", "index", "(I)I"⟩ : MethodName) (head1 (Jvm.Cond.code (⟨"com/example/okno/okno/AdmissionLog", "index", "(I)I"⟩ : MethodName) prog_2_method_25_code 2 (some .int) :: ws) ({ frames := 0, cells := 0, slots := 0, locals := 0 } : Room)) (fun a U => a = #[(.ref a1), (.int (1 : Int32))] ∧ Z.Warmed39 U.vm ∧ U.heap = h0) (fun _ _ _ _ _ => True) (fun _ U o U' => ∃ v L, o = .returned v ∧ Q_rmIdx_23 Z a1 rs k1 vs1 h0 n0 v U'.heap L ∧ FrameEnd U o U' L ({ frames := 0, cells := 0, slots := 0, locals := 0 } : Room).cells ({ frames := 0, cells := 0, slots := 0, locals := 0 } : Room).slots) := by
  refine MetFree.of_bodySF (plainFor_of_name pn_2) hisR ?_
  intro p e s m args below meth c s₁ Bd hml0 hP hK
  obtain ⟨rfl, hZ, hh⟩ := hP
  have hx := Bd.exec
  have hby := Bd.bytes
  have hml : c.maxLocals = 2 := hml0
  have hown : s.vm.findClass "com/example/okno/okno/AdmissionLog" = some m.cls := findClass_of_methodNamed Bd.named
  have hnm := (name_of_methodNamed Bd.named Bd.method).1
  have X0 : Stand p l e ({ frames := 0, cells := 0, slots := 0, locals := 0 } : Room) s m #[(.ref a1), (.int (1 : Int32))] below meth c s₁ [] 0 0 := Stand.of_body Bd
  have e0 : s₁.heap = h0 := by rw [← hh, Bd.state]; rfl
  have N0 := Fr.nil n0
  have KR : Keep h0 h0 [] := Keep.refl h0 _
  have pre0 : ∀ t, Steps p.tables e below (s₁.setTop (mkF m 0 #[.val (.ref a1), .val (.int (1 : Int32))] [])) t → Steps p.tables e below (s₁.setTop (entryFrame m #[(.ref a1), (.int (1 : Int32))] 2)) t := fun t k => castTop (ef_rmIdx_23 m (a1) ((1 : Int32))) k
  obtain ⟨T1, X1, e1, st1⟩ := getF X0 hx hZ hown (host := "") (Or.inl (kw115 hw)) Via.refl e0 P1 (g := (mkF m 1 #[.val (.ref a1), .val (.int (1 : Int32))] [(.ref a1)])) rfl rfl (hb hby d20_1)
  obtain ⟨T2, X2, e2, st2⟩ := getF X1 hx hZ hown (host := "") (Or.inl (kw35 hw)) Via.refl e1 P2 (g := (mkF m 7 #[.val (.ref a1), .val (.int (1 : Int32))] [(.ref a1), (.int (1 : Int32))])) rfl rfl (hb hby d20_7)
  obtain ⟨cl3, Ar3, -, S3, N3', -, -⟩ := id P3
  obtain ⟨fs, hr, hrun, hended, hW, hsame⟩ := X2.leave (v := some (.int (1 : Int32))) (fun h => by rw [Bd.returns] at h; cases h)
  refine ⟨_, _, pre0 _ ?_, hrun, hended, _, _, rfl, ?_, ⟨_, rfl⟩, hW, hsame.mono (by decide) (by decide)⟩
  · skip
    refine XS.aloadN X0.here hx rfl (hb hby d20_0) rfl rfl ?_
    refine st1 _ ?_
    refine XS.iloadN X1.here hx rfl (hb hby d20_4) rfl ?_
    refine XS.iadd X1.here hx rfl (hb hby d20_5) rfl ?_
    refine XS.aloadN X1.here hx rfl (hb hby d20_6) rfl rfl ?_
    refine st2 _ ?_
    refine X2.arraylength hx (by rw [e2]; exact Ar3.1) (State.isArrayOf_alike hZ.alike Ar3.2.1) (g := (mkF m 10 #[.val (.ref a1), .val (.int (1 : Int32))] [(.ref rs), (.int (1 : Int32))])) rfl rfl (hb hby d20_10) _ ?_
    rw [len_of S3 N3']
    refine XS.iconst X2.here hx rfl (hb hby d20_11) ?_
    refine XS.isub X2.here hx rfl (hb hby d20_12) rfl ?_
    refine XS.iand X2.here hx rfl (hb hby d20_13) rfl ?_
    show Steps p.tables e below (T2.setTop (mkF m 14 #[.val (.ref a1), .val (.int (1 : Int32))] [(.int (1 : Int32))])) _
    exact retI X2 hx Bd.returns (hb hby d20_14) hr
  · show Q_rmIdx_23 Z a1 rs k1 vs1 h0 n0 _ T2.heap _
    rw [e2]
    exact ⟨rfl, N0, rfl⟩
theorem ef_rmPush_22 (m : MethodId) (x0 : Addr) (x1 : Int64) (x2 : Int64) : entryFrame m #[(.ref x0), (.long x1), (.long x2)] 5 = mkF m 0 #[.val (.ref x0), .val (.long x1), .second, .val (.long x2), .second] [] := by first | (simp [entryFrame, mkF, argsToLocals, Value.category]; done) | rfl
def Q_rmPush_22 (Z : State) (a1 : Addr) (q1 : Int64) (q2 : Int64) (rs : Addr) (ra : Addr) (k1 : ClassId) (k2 : ClassId) (x0 : Int64) (x1 : Int64) (x2 : Int64) (x3 : Int64) (y0 : Int64) (y1 : Int64) (y2 : Int64) (y3 : Int64) (u_newest : Int64) (u_oldestSubWindow : Int64) (u_lastTime : Int64) (u_subWindowMillis : Int64) (u_lastSubWindow : Int64) (u_shorterWindows : Addr) (u_total : Int64) (u_newestSubWindow : Int64) (u_newestSubWindowEnd : Int64) (u_olderTotal : Int64) (h0 : Heap) (n0 : Nat) (v : Option Value) (h : Heap) (L : List Loc) : Prop := v = none ∧ Fr n0 L ∧ Keep h0 h [a1, rs, ra] ∧ Arv Z h rs k1 .long (4 : Int32) [(.long x0), (.long q1), (.long x2), (.long x3)] (.long (0 : Int64)) ∧ Arv Z h ra k2 .long (4 : Int32) [(.long y0), (.long q2), (.long y2), (.long y3)] (.long (0 : Int64)) ∧ Fld Z h a1 "com/example/okno/okno/AdmissionLog" "newest" "J" (.long u_newest) ∧ Fld Z h a1 "com/example/okno/okno/AdmissionLog" "subWindows" "[J" (.ref rs) ∧ Fld Z h a1 "com/example/okno/okno/AdmissionLog" "amounts" "[J" (.ref ra) ∧ Fld Z h a1 "com/example/okno/okno/AdmissionLog" "oldestSubWindow" "J" (.long u_oldestSubWindow) ∧ Fld Z h a1 "com/example/okno/okno/AdmissionLog" "lastTime" "J" (.long u_lastTime) ∧ Fld Z h a1 "com/example/okno/okno/AdmissionLog" "subWindowMillis" "J" (.long u_subWindowMillis) ∧ Fld Z h a1 "com/example/okno/okno/AdmissionLog" "lastSubWindow" "J" (.long u_lastSubWindow) ∧ Fld Z h a1 "com/example/okno/okno/AdmissionLog" "shorterWindows" "[J" (.ref u_shorterWindows) ∧ Fld Z h a1 "com/example/okno/okno/AdmissionLog" "total" "J" (.long u_total) ∧ Fld Z h a1 "com/example/okno/okno/AdmissionLog" "newestSubWindow" "J" (.long u_newestSubWindow) ∧ Fld Z h a1 "com/example/okno/okno/AdmissionLog" "newestSubWindowEnd" "J" (.long u_newestSubWindowEnd) ∧ Fld Z h a1 "com/example/okno/okno/AdmissionLog" "olderTotal" "J" (.long (u_olderTotal + q2)) ∧ Fld Z h a1 "com/example/okno/okno/AdmissionLog" "size" "I" (.int (2 : Int32)) ∧ Fld Z h a1 "com/example/okno/okno/AdmissionLog" "head" "I" (.int (0 : Int32))
set_option maxRecDepth 65536 in
set_option maxHeartbeats 40000000 in
theorem rmPush_22 (l : Launch) (Z : State) (a0 : Array Value) (hw : ∀ d ∈ tables_1, d.before a0 Z = true) (ws : List Jvm.Cond) (a1 : Addr) (q1 : Int64) (q2 : Int64) (rs : Addr) (ra : Addr) (k1 : ClassId) (k2 : ClassId) (x0 : Int64) (x1 : Int64) (x2 : Int64) (x3 : Int64) (y0 : Int64) (y1 : Int64) (y2 : Int64) (y3 : Int64) (u_newest : Int64) (u_oldestSubWindow : Int64) (u_lastTime : Int64) (u_subWindowMillis : Int64) (u_lastSubWindow : Int64) (u_shorterWindows : Addr) (u_total : Int64) (u_newestSubWindow : Int64) (u_newestSubWindowEnd : Int64) (u_olderTotal : Int64) (h0 : Heap) (n0 : Nat) (Z0 : n0 ≤ h0.size) (P0 : Exa Z h0 a1 "com/example/okno/okno/AdmissionLog") (P1 : n0 ≤ a1) (P2 : Arv Z h0 rs k1 .long (4 : Int32) [(.long x0), (.long x1), (.long x2), (.long x3)] (.long (0 : Int64))) (P3 : Arv Z h0 ra k2 .long (4 : Int32) [(.long y0), (.long y1), (.long y2), (.long y3)] (.long (0 : Int64))) (P4 : n0 ≤ rs) (P5 : n0 ≤ ra) (P6 : rs ≠ a1) (P7 : ra ≠ a1) (P8 : rs ≠ ra) (P9 : Fld Z h0 a1 "com/example/okno/okno/AdmissionLog" "newest" "J" (.long u_newest)) (P10 : Fld Z h0 a1 "com/example/okno/okno/AdmissionLog" "subWindows" "[J" (.ref rs)) (P11 : Fld Z h0 a1 "com/example/okno/okno/AdmissionLog" "amounts" "[J" (.ref ra)) (P12 : Fld Z h0 a1 "com/example/okno/okno/AdmissionLog" "oldestSubWindow" "J" (.long u_oldestSubWindow)) (P13 : Fld Z h0 a1 "com/example/okno/okno/AdmissionLog" "lastTime" "J" (.long u_lastTime)) (P14 : Fld Z h0 a1 "com/example/okno/okno/AdmissionLog" "subWindowMillis" "J" (.long u_subWindowMillis)) (P15 : Fld Z h0 a1 "com/example/okno/okno/AdmissionLog" "lastSubWindow" "J" (.long u_lastSubWindow)) (P16 : Fld Z h0 a1 "com/example/okno/okno/AdmissionLog" "shorterWindows" "[J" (.ref u_shorterWindows)) (P17 : Fld Z h0 a1 "com/example/okno/okno/AdmissionLog" "total" "J" (.long u_total)) (P18 : Fld Z h0 a1 "com/example/okno/okno/AdmissionLog" "newestSubWindow" "J" (.long u_newestSubWindow)) (P19 : Fld Z h0 a1 "com/example/okno/okno/AdmissionLog" "newestSubWindowEnd" "J" (.long u_newestSubWindowEnd)) (P20 : Fld Z h0 a1 "com/example/okno/okno/AdmissionLog" "olderTotal" "J" (.long u_olderTotal)) (P21 : Fld Z h0 a1 "com/example/okno/okno/AdmissionLog" "size" "I" (.int (1 : Int32))) (P22 : Fld Z h0 a1 "com/example/okno/okno/AdmissionLog" "head" "I" (.int (0 : Int32))) :
    MetFree l (⟨"com/example/okno/okno/AdmissionLog", "pushOlder", "(JJ)V"⟩ : MethodName) (head1 (Jvm.Cond.code (⟨"com/example/okno/okno/AdmissionLog", "pushOlder", "(JJ)V"⟩ : MethodName) prog_2_method_24_code 5 none :: ws) ({ frames := 1, cells := 0, slots := 0, locals := 14 } : Room)) (fun a U => a = #[(.ref a1), (.long q1), (.long q2)] ∧ Z.Warmed39 U.vm ∧ U.heap = h0) (fun _ _ _ _ _ => True) (fun _ U o U' => ∃ v L, o = .returned v ∧ Q_rmPush_22 Z a1 q1 q2 rs ra k1 k2 x0 x1 x2 x3 y0 y1 y2 y3 u_newest u_oldestSubWindow u_lastTime u_subWindowMillis u_lastSubWindow u_shorterWindows u_total u_newestSubWindow u_newestSubWindowEnd u_olderTotal h0 n0 v U'.heap L ∧ FrameEnd U o U' L ({ frames := 1, cells := 0, slots := 0, locals := 14 } : Room).cells ({ frames := 1, cells := 0, slots := 0, locals := 14 } : Room).slots) := by
  refine MetFree.of_bodySF (plainFor_of_name pn_2) hisR ?_
  intro p e s m args below meth c s₁ Bd hml0 hP hK
  obtain ⟨rfl, hZ, hh⟩ := hP
  have hx := Bd.exec
  have hby := Bd.bytes
  have hml : c.maxLocals = 5 := hml0
  have hown : s.vm.findClass "com/example/okno/okno/AdmissionLog" = some m.cls := findClass_of_methodNamed Bd.named
  have hnm := (name_of_methodNamed Bd.named Bd.method).1
  have X0 : Stand p l e ({ frames := 1, cells := 0, slots := 0, locals := 14 } : Room) s m #[(.ref a1), (.long q1), (.long q2)] below meth c s₁ [] 0 0 := Stand.of_body Bd
  have e0 : s₁.heap = h0 := by rw [← hh, Bd.state]; rfl
  have N0 := Fr.nil n0
  have KR : Keep h0 h0 [a1, rs, ra] := Keep.refl h0 _
  have pre0 : ∀ t, Steps p.tables e below (s₁.setTop (mkF m 0 #[.val (.ref a1), .val (.long q1), .second, .val (.long q2), .second] [])) t → Steps p.tables e below (s₁.setTop (entryFrame m #[(.ref a1), (.long q1), (.long q2)] 5)) t := fun t k => castTop (ef_rmPush_22 m (a1) (q1) (q2)) k
  obtain ⟨T1, X1, e1, st1⟩ := getF X0 hx hZ hown (host := "") (Or.inl (kw106 hw)) Via.refl e0 P21 (g := (mkF m 1 #[.val (.ref a1), .val (.long q1), .second, .val (.long q2), .second] [(.ref a1)])) rfl rfl (hb hby d17_1)
  obtain ⟨T2, X2, e2, st2⟩ := getF X1 hx hZ hown (host := "") (Or.inl (kw35 hw)) Via.refl e1 P10 (g := (mkF m 5 #[.val (.ref a1), .val (.long q1), .second, .val (.long q2), .second] [(.ref a1), (.int (1 : Int32))])) rfl rfl (hb hby d17_5)
  obtain ⟨cl3, Ar3, -, S3, N3', -, -⟩ := id P2
  obtain ⟨T4, X4, e4, st4⟩ := getF X2 hx hZ hown (host := "") (Or.inl (kw35 hw)) Via.refl e2 P10 (g := (mkF m 17 #[.val (.ref a1), .val (.long q1), .second, .val (.long q2), .second] [(.ref a1)])) rfl rfl (hb hby d17_17)
  obtain ⟨T5, X5, e5, st5⟩ := getF X4 hx hZ hown (host := "") (Or.inl (kw106 hw)) Via.refl e4 P21 (g := (mkF m 22 #[.val (.ref a1), .val (.long q1), .second, .val (.long q2), .second] [(.ref a1), (.ref a1), (.ref rs)])) rfl rfl (hb hby d17_22)
  obtain ⟨cq6, q6, q6'⟩ := (P0).cell
  obtain ⟨_, _, ⟨T6, L6, k6, n6⟩, -, X6, ⟨Lc6, hQ6, l6, y6, z6⟩, st6⟩ := X5.privateBack hx (y := (⟨"com/example/okno/okno/AdmissionLog", "index", "(I)I"⟩ : MethodName)) hown (mvT hZ (kw117 hw)) (mvT hZ (kw118 hw)) (mvT hZ (own_selP rfl (kw17 hw) (kw118 hw) (kw119 hw) (by decide))) (Cond.privateMethod_at (mvP hZ (kw119 hw) (args := #[]))) (mvT hZ (kw120 hw)) (by decide) (backOf (W := 1) (rmIdx_23 l Z a0 hw [] a1 rs k1 ([(.long x0), (.long x1), (.long x2), (.long x3)]) h0 n0 Z0 P0 P22 P10 P2) hZ (kw120 hw) (kw18 hw) (by decide) (by decide)) (g := (mkF m 25 #[.val (.ref a1), .val (.long q1), .second, .val (.long q2), .second] [(.int (1 : Int32)), (.ref a1), (.ref rs)])) rfl (by rw [hml]; rfl) (Steps.refl _) (a := a1) (by rw [e5]; exact q6) q6' (argsL := [(.int (1 : Int32))]) (rest := [(.ref rs)]) (lenOf pd_11 rfl) rfl (by show 2 * 0 + _ ≤ _; exact Nat.le_of_eq rfl) (hb hby d17_25) (fun _ _ => ⟨rfl, e5, (by decide : 0 + 0 ≤ _), (by decide : 0 + 0 ≤ _)⟩)
  dsimp only [Pt.U, Pt.locs, Pt.cells, Pt.slots] at X6 l6 y6 z6 st6 hQ6
  subst l6 y6 z6
  obtain ⟨rfl, N6q, e6⟩ := hQ6
  have N6 := Fr.app N0 N6q
  obtain ⟨cl7, Ar7, q7, S7, N7', H7, G7⟩ := id P2
  have hin7 : ¬ ((1 : Int32) < 0 ∨ cl7.slots.size ≤ ((1 : Int32)).toNatClampNeg) := inb_of S7 ⟨by decide, by decide⟩
  obtain ⟨T7, h7, X7, e7, W7, st7⟩ := stJ X6 hx hZ e6 Ar7 (j := (1 : Int32)) hin7 (g := (mkF m 29 #[.val (.ref a1), .val (.long q1), .second, .val (.long q2), .second] [(.long q1), (.int (1 : Int32)), (.ref rs)])) rfl rfl (hb hby d17_29)
  have Z7 : n0 ≤ h7.size := Nat.le_trans Z0 (Keep.of_wr W7).1
  have K7 : Keep h0 h7 [a1, rs, ra] := KR.wr W7 (Or.inl (List.mem_of_getElem? (i := 1) rfl))
  have N7 := Fr.snoc X7 N6 P4
  have V7 : Arv Z h7 rs k1 .long (4 : Int32) ([(.long x0), (.long x1), (.long x2), (.long x3)].set 1 (.long q1)) (.long (0 : Int64)) := Arv.set Ar7 q7 S7 N7' H7 G7 rfl W7 1 rfl (Nat.le_of_ble_eq_true rfl)
  have Vs7 : Arv Z h7 rs k1 .long (4 : Int32) [(.long x0), (.long q1), (.long x2), (.long x3)] (.long (0 : Int64)) := V7
  have f8 : Fld Z h7 a1 "com/example/okno/okno/AdmissionLog" "amounts" "[J" (.ref ra) := (P11.other W7 (Or.inl (Ne.symm P6)))
  obtain ⟨T9, X9, e9, st9⟩ := getF X7 hx hZ hown (host := "") (Or.inl (kw37 hw)) Via.refl e7 f8 (g := (mkF m 31 #[.val (.ref a1), .val (.long q1), .second, .val (.long q2), .second] [(.ref a1)])) rfl rfl (hb hby d17_31)
  have f10 : Fld Z h7 a1 "com/example/okno/okno/AdmissionLog" "size" "I" (.int (1 : Int32)) := (P21.other W7 (Or.inl (Ne.symm P6)))
  obtain ⟨T11, X11, e11, st11⟩ := getF X9 hx hZ hown (host := "") (Or.inl (kw106 hw)) Via.refl e9 f10 (g := (mkF m 36 #[.val (.ref a1), .val (.long q1), .second, .val (.long q2), .second] [(.ref a1), (.ref a1), (.ref ra)])) rfl rfl (hb hby d17_36)
  have f13 : Exa Z h7 a1 "com/example/okno/okno/AdmissionLog" := (P0.wr W7)
  have f14 : Fld Z h7 a1 "com/example/okno/okno/AdmissionLog" "head" "I" (.int (0 : Int32)) := (P22.other W7 (Or.inl (Ne.symm P6)))
  have f15 : Fld Z h7 a1 "com/example/okno/okno/AdmissionLog" "subWindows" "[J" (.ref rs) := (P10.other W7 (Or.inl (Ne.symm P6)))
  obtain ⟨cq12, q12, q12'⟩ := (f13).cell
  obtain ⟨_, _, ⟨T12, L12, k12, n12⟩, -, X12, ⟨Lc12, hQ12, l12, y12, z12⟩, st12⟩ := X11.privateBack hx (y := (⟨"com/example/okno/okno/AdmissionLog", "index", "(I)I"⟩ : MethodName)) hown (mvT hZ (kw117 hw)) (mvT hZ (kw118 hw)) (mvT hZ (own_selP rfl (kw17 hw) (kw118 hw) (kw119 hw) (by decide))) (Cond.privateMethod_at (mvP hZ (kw119 hw) (args := #[]))) (mvT hZ (kw120 hw)) (by decide) (backOf (W := 1) (rmIdx_23 l Z a0 hw [] a1 rs k1 ([(.long x0), (.long q1), (.long x2), (.long x3)]) h7 n0 Z7 f13 f14 f15 Vs7) hZ (kw120 hw) (kw18 hw) (by decide) (by decide)) (g := (mkF m 39 #[.val (.ref a1), .val (.long q1), .second, .val (.long q2), .second] [(.int (1 : Int32)), (.ref a1), (.ref ra)])) rfl (by rw [hml]; rfl) (Steps.refl _) (a := a1) (by rw [e11]; exact q12) q12' (argsL := [(.int (1 : Int32))]) (rest := [(.ref ra)]) (lenOf pd_11 rfl) rfl (by show 2 * 0 + _ ≤ _; exact Nat.le_of_eq rfl) (hb hby d17_39) (fun _ _ => ⟨rfl, e11, (by decide : 0 + 0 ≤ _), (by decide : 0 + 0 ≤ _)⟩)
  dsimp only [Pt.U, Pt.locs, Pt.cells, Pt.slots] at X12 l12 y12 z12 st12 hQ12
  subst l12 y12 z12
  obtain ⟨rfl, N12q, e12⟩ := hQ12
  have N12 := Fr.app N7 N12q
  have f17 : Arv Z h7 ra k2 .long (4 : Int32) [(.long y0), (.long y1), (.long y2), (.long y3)] (.long (0 : Int64)) := (P3.other W7 (Ne.symm P8))
  obtain ⟨cl16, Ar16, q16, S16, N16', H16, G16⟩ := id f17
  have hin16 : ¬ ((1 : Int32) < 0 ∨ cl16.slots.size ≤ ((1 : Int32)).toNatClampNeg) := inb_of S16 ⟨by decide, by decide⟩
  obtain ⟨T16, h16, X16, e16, W16, st16⟩ := stJ X12 hx hZ e12 Ar16 (j := (1 : Int32)) hin16 (g := (mkF m 43 #[.val (.ref a1), .val (.long q1), .second, .val (.long q2), .second] [(.long q2), (.int (1 : Int32)), (.ref ra)])) rfl rfl (hb hby d17_43)
  have Z16 : n0 ≤ h16.size := Nat.le_trans Z7 (Keep.of_wr W16).1
  have K16 : Keep h0 h16 [a1, rs, ra] := K7.wr W16 (Or.inl (List.mem_of_getElem? (i := 2) rfl))
  have N16 := Fr.snoc X16 N12 P5
  have V16 : Arv Z h16 ra k2 .long (4 : Int32) ([(.long y0), (.long y1), (.long y2), (.long y3)].set 1 (.long q2)) (.long (0 : Int64)) := Arv.set Ar16 q16 S16 N16' H16 G16 rfl W16 1 rfl (Nat.le_of_ble_eq_true rfl)
  have Vs16 : Arv Z h16 ra k2 .long (4 : Int32) [(.long y0), (.long q2), (.long y2), (.long y3)] (.long (0 : Int64)) := V16
  have f18 : Fld Z h16 a1 "com/example/okno/okno/AdmissionLog" "size" "I" (.int (1 : Int32)) := (f10.other W16 (Or.inl (Ne.symm P7)))
  obtain ⟨T19, X19, e19, st19⟩ := getF X16 hx hZ hown (host := "") (Or.inl (kw106 hw)) Via.refl e16 f18 (g := (mkF m 46 #[.val (.ref a1), .val (.long q1), .second, .val (.long q2), .second] [(.ref a1), (.ref a1)])) rfl rfl (hb hby d17_46)
  have f20 : Exa Z h16 a1 "com/example/okno/okno/AdmissionLog" := (f13.wr W16)
  obtain ⟨T21, h21, X21, e21, W21, st21⟩ := putF X19 hx hZ hown (host := "") (Or.inl (kw106 hw)) Via.refl e19 f18 f20 (Or.inl (kw107 hw)) (kw17 hw) (ty := .int) (by decide) rfl rfl (g := (mkF m 51 #[.val (.ref a1), .val (.long q1), .second, .val (.long q2), .second] [(.int (2 : Int32)), (.ref a1)])) rfl rfl (hb hby d17_51)
  have Z21 : n0 ≤ h21.size := Nat.le_trans Z16 (Keep.of_wr W21).1
  have K21 : Keep h0 h21 [a1, rs, ra] := K16.wr W21 (Or.inl (List.mem_of_getElem? (i := 0) rfl))
  have N21 := Fr.snoc X21 N16 P1
  have Fw21 : Fld Z h21 a1 "com/example/okno/okno/AdmissionLog" "size" "I" (.int (2 : Int32)) := f18.same W21
  have f22 : Fld Z h21 a1 "com/example/okno/okno/AdmissionLog" "olderTotal" "J" (.long u_olderTotal) := (((P20.other W7 (Or.inl (Ne.symm P6))).other W16 (Or.inl (Ne.symm P7))).other W21 (Or.inr (slot_ne (Or.inl (kw101 hw)) (Or.inl (kw107 hw)) (by decide) (t := .long) (t' := .int) (by decide) (by decide))))
  obtain ⟨T23, X23, e23, st23⟩ := getF X21 hx hZ hown (host := "") (Or.inl (kw100 hw)) Via.refl e21 f22 (g := (mkF m 56 #[.val (.ref a1), .val (.long q1), .second, .val (.long q2), .second] [(.ref a1), (.ref a1)])) rfl rfl (hb hby d17_56)
  have f24 : Exa Z h21 a1 "com/example/okno/okno/AdmissionLog" := (f20.wr W21)
  obtain ⟨T25, h25, X25, e25, W25, st25⟩ := putF X23 hx hZ hown (host := "") (Or.inl (kw100 hw)) Via.refl e23 f22 f24 (Or.inl (kw101 hw)) (kw17 hw) (ty := .long) (by decide) rfl rfl (g := (mkF m 61 #[.val (.ref a1), .val (.long q1), .second, .val (.long q2), .second] [(.long (u_olderTotal + q2)), (.ref a1)])) rfl rfl (hb hby d17_61)
  have Z25 : n0 ≤ h25.size := Nat.le_trans Z21 (Keep.of_wr W25).1
  have K25 : Keep h0 h25 [a1, rs, ra] := K21.wr W25 (Or.inl (List.mem_of_getElem? (i := 0) rfl))
  have N25 := Fr.snoc X25 N21 P1
  have Fw25 : Fld Z h25 a1 "com/example/okno/okno/AdmissionLog" "olderTotal" "J" (.long (u_olderTotal + q2)) := f22.same W25
  have f26 : Arv Z h25 rs k1 .long (4 : Int32) [(.long x0), (.long q1), (.long x2), (.long x3)] (.long (0 : Int64)) := (((Vs7.other W16 P8).other W21 P6).other W25 P6)
  have f27 : Arv Z h25 ra k2 .long (4 : Int32) [(.long y0), (.long q2), (.long y2), (.long y3)] (.long (0 : Int64)) := ((Vs16.other W21 P7).other W25 P7)
  have f28 : Fld Z h25 a1 "com/example/okno/okno/AdmissionLog" "newest" "J" (.long u_newest) := ((((P9.other W7 (Or.inl (Ne.symm P6))).other W16 (Or.inl (Ne.symm P7))).other W21 (Or.inr (slot_ne (Or.inl (kw32 hw)) (Or.inl (kw107 hw)) (by decide) (t := .long) (t' := .int) (by decide) (by decide)))).other W25 (Or.inr (slot_ne (Or.inl (kw32 hw)) (Or.inl (kw101 hw)) (by decide) (t := .long) (t' := .long) (by decide) (by decide))))
  have f29 : Fld Z h25 a1 "com/example/okno/okno/AdmissionLog" "subWindows" "[J" (.ref rs) := (((f15.other W16 (Or.inl (Ne.symm P7))).other W21 (Or.inr (slot_ne (Or.inl (kw36 hw)) (Or.inl (kw107 hw)) (by decide) (t := (.array .long)) (t' := .int) (by decide) (by decide)))).other W25 (Or.inr (slot_ne (Or.inl (kw36 hw)) (Or.inl (kw101 hw)) (by decide) (t := (.array .long)) (t' := .long) (by decide) (by decide))))
  have f30 : Fld Z h25 a1 "com/example/okno/okno/AdmissionLog" "amounts" "[J" (.ref ra) := (((f8.other W16 (Or.inl (Ne.symm P7))).other W21 (Or.inr (slot_ne (Or.inl (kw38 hw)) (Or.inl (kw107 hw)) (by decide) (t := (.array .long)) (t' := .int) (by decide) (by decide)))).other W25 (Or.inr (slot_ne (Or.inl (kw38 hw)) (Or.inl (kw101 hw)) (by decide) (t := (.array .long)) (t' := .long) (by decide) (by decide))))
  have f31 : Fld Z h25 a1 "com/example/okno/okno/AdmissionLog" "oldestSubWindow" "J" (.long u_oldestSubWindow) := ((((P12.other W7 (Or.inl (Ne.symm P6))).other W16 (Or.inl (Ne.symm P7))).other W21 (Or.inr (slot_ne (Or.inl (kw41 hw)) (Or.inl (kw107 hw)) (by decide) (t := .long) (t' := .int) (by decide) (by decide)))).other W25 (Or.inr (slot_ne (Or.inl (kw41 hw)) (Or.inl (kw101 hw)) (by decide) (t := .long) (t' := .long) (by decide) (by decide))))
  have f32 : Fld Z h25 a1 "com/example/okno/okno/AdmissionLog" "lastTime" "J" (.long u_lastTime) := ((((P13.other W7 (Or.inl (Ne.symm P6))).other W16 (Or.inl (Ne.symm P7))).other W21 (Or.inr (slot_ne (Or.inl (kw43 hw)) (Or.inl (kw107 hw)) (by decide) (t := .long) (t' := .int) (by decide) (by decide)))).other W25 (Or.inr (slot_ne (Or.inl (kw43 hw)) (Or.inl (kw101 hw)) (by decide) (t := .long) (t' := .long) (by decide) (by decide))))
  have f33 : Fld Z h25 a1 "com/example/okno/okno/AdmissionLog" "subWindowMillis" "J" (.long u_subWindowMillis) := ((((P14.other W7 (Or.inl (Ne.symm P6))).other W16 (Or.inl (Ne.symm P7))).other W21 (Or.inr (slot_ne (Or.inr (kw45 hw)) (Or.inl (kw107 hw)) (by decide) (t := .long) (t' := .int) (by decide) (by decide)))).other W25 (Or.inr (slot_ne (Or.inr (kw45 hw)) (Or.inl (kw101 hw)) (by decide) (t := .long) (t' := .long) (by decide) (by decide))))
  have f34 : Fld Z h25 a1 "com/example/okno/okno/AdmissionLog" "lastSubWindow" "J" (.long u_lastSubWindow) := ((((P15.other W7 (Or.inl (Ne.symm P6))).other W16 (Or.inl (Ne.symm P7))).other W21 (Or.inr (slot_ne (Or.inl (kw50 hw)) (Or.inl (kw107 hw)) (by decide) (t := .long) (t' := .int) (by decide) (by decide)))).other W25 (Or.inr (slot_ne (Or.inl (kw50 hw)) (Or.inl (kw101 hw)) (by decide) (t := .long) (t' := .long) (by decide) (by decide))))
  have f35 : Fld Z h25 a1 "com/example/okno/okno/AdmissionLog" "shorterWindows" "[J" (.ref u_shorterWindows) := ((((P16.other W7 (Or.inl (Ne.symm P6))).other W16 (Or.inl (Ne.symm P7))).other W21 (Or.inr (slot_ne (Or.inr (kw53 hw)) (Or.inl (kw107 hw)) (by decide) (t := (.array .long)) (t' := .int) (by decide) (by decide)))).other W25 (Or.inr (slot_ne (Or.inr (kw53 hw)) (Or.inl (kw101 hw)) (by decide) (t := (.array .long)) (t' := .long) (by decide) (by decide))))
  have f36 : Fld Z h25 a1 "com/example/okno/okno/AdmissionLog" "total" "J" (.long u_total) := ((((P17.other W7 (Or.inl (Ne.symm P6))).other W16 (Or.inl (Ne.symm P7))).other W21 (Or.inr (slot_ne (Or.inl (kw69 hw)) (Or.inl (kw107 hw)) (by decide) (t := .long) (t' := .int) (by decide) (by decide)))).other W25 (Or.inr (slot_ne (Or.inl (kw69 hw)) (Or.inl (kw101 hw)) (by decide) (t := .long) (t' := .long) (by decide) (by decide))))
  have f37 : Fld Z h25 a1 "com/example/okno/okno/AdmissionLog" "newestSubWindow" "J" (.long u_newestSubWindow) := ((((P18.other W7 (Or.inl (Ne.symm P6))).other W16 (Or.inl (Ne.symm P7))).other W21 (Or.inr (slot_ne (Or.inl (kw93 hw)) (Or.inl (kw107 hw)) (by decide) (t := .long) (t' := .int) (by decide) (by decide)))).other W25 (Or.inr (slot_ne (Or.inl (kw93 hw)) (Or.inl (kw101 hw)) (by decide) (t := .long) (t' := .long) (by decide) (by decide))))
  have f38 : Fld Z h25 a1 "com/example/okno/okno/AdmissionLog" "newestSubWindowEnd" "J" (.long u_newestSubWindowEnd) := ((((P19.other W7 (Or.inl (Ne.symm P6))).other W16 (Or.inl (Ne.symm P7))).other W21 (Or.inr (slot_ne (Or.inl (kw95 hw)) (Or.inl (kw107 hw)) (by decide) (t := .long) (t' := .int) (by decide) (by decide)))).other W25 (Or.inr (slot_ne (Or.inl (kw95 hw)) (Or.inl (kw101 hw)) (by decide) (t := .long) (t' := .long) (by decide) (by decide))))
  have f39 : Fld Z h25 a1 "com/example/okno/okno/AdmissionLog" "size" "I" (.int (2 : Int32)) := (Fw21.other W25 (Or.inr (slot_ne (Or.inl (kw107 hw)) (Or.inl (kw101 hw)) (by decide) (t := .int) (t' := .long) (by decide) (by decide))))
  have f40 : Fld Z h25 a1 "com/example/okno/okno/AdmissionLog" "head" "I" (.int (0 : Int32)) := (((f14.other W16 (Or.inl (Ne.symm P7))).other W21 (Or.inr (slot_ne (Or.inl (kw116 hw)) (Or.inl (kw107 hw)) (by decide) (t := .int) (t' := .int) (by decide) (by decide)))).other W25 (Or.inr (slot_ne (Or.inl (kw116 hw)) (Or.inl (kw101 hw)) (by decide) (t := .int) (t' := .long) (by decide) (by decide))))
  obtain ⟨fs, hr, hrun, hended, hW, hsame⟩ := X25.leave (v := none) (fun _ => rfl)
  refine ⟨_, _, pre0 _ ?_, hrun, hended, _, _, rfl, ?_, ⟨_, rfl⟩, hW, hsame.mono (by decide) (by decide)⟩
  · skip
    refine XS.aloadN X0.here hx rfl (hb hby d17_0) rfl rfl ?_
    refine st1 _ ?_
    refine XS.aloadN X1.here hx rfl (hb hby d17_4) rfl rfl ?_
    refine st2 _ ?_
    refine X2.arraylength hx (by rw [e2]; exact Ar3.1) (State.isArrayOf_alike hZ.alike Ar3.2.1) (g := (mkF m 8 #[.val (.ref a1), .val (.long q1), .second, .val (.long q2), .second] [(.ref rs), (.int (1 : Int32))])) rfl rfl (hb hby d17_8) _ ?_
    rw [len_of S3 N3']
    refine XS.icmpYes X2.here hx rfl (pc0 := 9) (pc' := 16) rfl (hb hby d17_9) rfl (feq (by decide : ¬ ((1 : Int32) = (4 : Int32)))).2 (by decide) (by decide) ?_
    refine XS.aloadN X2.here hx rfl (hb hby d17_16) rfl rfl ?_
    refine st4 _ ?_
    refine XS.aloadN X4.here hx rfl (hb hby d17_20) rfl rfl ?_
    refine XS.aloadN X4.here hx rfl (hb hby d17_21) rfl rfl ?_
    refine st5 _ ?_
    refine st6.trans ?_
    refine XS.lloadN X6.here hx rfl (hb hby d17_28) rfl ?_
    refine st7 _ ?_
    refine XS.aloadN X7.here hx rfl (hb hby d17_30) rfl rfl ?_
    refine st9 _ ?_
    refine XS.aloadN X9.here hx rfl (hb hby d17_34) rfl rfl ?_
    refine XS.aloadN X9.here hx rfl (hb hby d17_35) rfl rfl ?_
    refine st11 _ ?_
    refine st12.trans ?_
    refine XS.lloadN X12.here hx rfl (hb hby d17_42) rfl ?_
    refine st16 _ ?_
    refine XS.aloadN X16.here hx rfl (hb hby d17_44) rfl rfl ?_
    refine XS.dup X16.here hx rfl (hb hby d17_45) rfl rfl ?_
    show Steps p.tables e below (T16.setTop (mkF m 46 #[.val (.ref a1), .val (.long q1), .second, .val (.long q2), .second] [(.ref a1), (.ref a1)])) _
    refine st19 _ ?_
    refine XS.iconst X19.here hx rfl (hb hby d17_49) ?_
    refine XS.iadd X19.here hx rfl (hb hby d17_50) rfl ?_
    refine st21 _ ?_
    refine XS.aloadN X21.here hx rfl (hb hby d17_54) rfl rfl ?_
    refine XS.dup X21.here hx rfl (hb hby d17_55) rfl rfl ?_
    refine st23 _ ?_
    refine XS.lloadN X23.here hx rfl (hb hby d17_59) rfl ?_
    refine XS.ladd X23.here hx rfl (hb hby d17_60) rfl ?_
    refine st25 _ ?_
    show Steps p.tables e below (T25.setTop (mkF m 64 #[.val (.ref a1), .val (.long q1), .second, .val (.long q2), .second] [])) _
    exact X25.returnOut hx Bd.returns (hb hby d17_64) hr
  · show Q_rmPush_22 Z a1 q1 q2 rs ra k1 k2 x0 x1 x2 x3 y0 y1 y2 y3 u_newest u_oldestSubWindow u_lastTime u_subWindowMillis u_lastSubWindow u_shorterWindows u_total u_newestSubWindow u_newestSubWindowEnd u_olderTotal h0 n0 _ T25.heap _
    rw [e25]
    exact ⟨rfl, N25, K25, f26, f27, f28, f29, f30, f31, f32, f33, f34, f35, f36, f37, f38, Fw25, f39, f40⟩
theorem ef_rmCount_24 (m : MethodId) (x0 : Addr) (x1 : Int64) : entryFrame m #[(.ref x0), (.long x1)] 4 = mkF m 0 #[.val (.ref x0), .val (.long x1), .second, .unset] [] := by first | (simp [entryFrame, mkF, argsToLocals, Value.category]; done) | rfl
def Q_rmCount_24 (Z : State) (a1 : Addr) (q1 : Int64) (sw : Addr) (k3 : ClassId) (r0 : Int64) (r1 : Int64) (h0 : Heap) (n0 : Nat) (v : Option Value) (h : Heap) (L : List Loc) : Prop := v = none ∧ Fr n0 L ∧ Keep h0 h [sw] ∧ Arv Z h sw k3 .long (4 : Int32) [(.long (r0 + q1)), (.long (3 : Int64)), (.long (r1 + q1)), (.long (3 : Int64))] (.long (0 : Int64))
set_option maxRecDepth 65536 in
set_option maxHeartbeats 40000000 in
theorem rmCount_24 (l : Launch) (Z : State) (a0 : Array Value) (hw : ∀ d ∈ tables_1, d.before a0 Z = true) (ws : List Jvm.Cond) (a1 : Addr) (q1 : Int64) (sw : Addr) (k3 : ClassId) (r0 : Int64) (r1 : Int64) (h0 : Heap) (n0 : Nat) (Z0 : n0 ≤ h0.size) (P0 : Exa Z h0 a1 "com/example/okno/okno/AdmissionLog") (P1 : n0 ≤ sw) (P2 : sw ≠ a1) (P3 : Fld Z h0 a1 "com/example/okno/okno/AdmissionLog" "shorterWindows" "[J" (.ref sw)) (P4 : Arv Z h0 sw k3 .long (4 : Int32) [(.long r0), (.long (2 : Int64)), (.long r1), (.long (2 : Int64))] (.long (0 : Int64))) :
    MetFree l (⟨"com/example/okno/okno/AdmissionLog", "countNewEntryInShorterWindows", "(J)V"⟩ : MethodName) (head1 (Jvm.Cond.code (⟨"com/example/okno/okno/AdmissionLog", "countNewEntryInShorterWindows", "(J)V"⟩ : MethodName) prog_2_method_19_code 4 none :: ws) ({ frames := 0, cells := 0, slots := 0, locals := 0 } : Room)) (fun a U => a = #[(.ref a1), (.long q1)] ∧ Z.Warmed39 U.vm ∧ U.heap = h0) (fun _ _ _ _ _ => True) (fun _ U o U' => ∃ v L, o = .returned v ∧ Q_rmCount_24 Z a1 q1 sw k3 r0 r1 h0 n0 v U'.heap L ∧ FrameEnd U o U' L ({ frames := 0, cells := 0, slots := 0, locals := 0 } : Room).cells ({ frames := 0, cells := 0, slots := 0, locals := 0 } : Room).slots) := by
  refine MetFree.of_bodySF (plainFor_of_name pn_2) hisR ?_
  intro p e s m args below meth c s₁ Bd hml0 hP hK
  obtain ⟨rfl, hZ, hh⟩ := hP
  have hx := Bd.exec
  have hby := Bd.bytes
  have hml : c.maxLocals = 4 := hml0
  have hown : s.vm.findClass "com/example/okno/okno/AdmissionLog" = some m.cls := findClass_of_methodNamed Bd.named
  have hnm := (name_of_methodNamed Bd.named Bd.method).1
  have X0 : Stand p l e ({ frames := 0, cells := 0, slots := 0, locals := 0 } : Room) s m #[(.ref a1), (.long q1)] below meth c s₁ [] 0 0 := Stand.of_body Bd
  have e0 : s₁.heap = h0 := by rw [← hh, Bd.state]; rfl
  have N0 := Fr.nil n0
  have KR : Keep h0 h0 [sw] := Keep.refl h0 _
  have pre0 : ∀ t, Steps p.tables e below (s₁.setTop (mkF m 0 #[.val (.ref a1), .val (.long q1), .second, .unset] [])) t → Steps p.tables e below (s₁.setTop (entryFrame m #[(.ref a1), (.long q1)] 4)) t := fun t k => castTop (ef_rmCount_24 m (a1) (q1)) k
  obtain ⟨T1, X1, e1, st1⟩ := getF X0 hx hZ hown (host := "") (Or.inl (kw52 hw)) Via.refl e0 P3 (g := (mkF m 4 #[.val (.ref a1), .val (.long q1), .second, .val (.int (0 : Int32))] [(.ref a1), (.int (0 : Int32))])) rfl rfl (hb hby d16_4)
  obtain ⟨cl2, Ar2, -, S2, N2', -, -⟩ := id P4
  obtain ⟨T3, X3, e3, st3⟩ := getF X1 hx hZ hown (host := "") (Or.inl (kw52 hw)) Via.refl e1 P3 (g := (mkF m 12 #[.val (.ref a1), .val (.long q1), .second, .val (.int (0 : Int32))] [(.ref a1)])) rfl rfl (hb hby d16_12)
  obtain ⟨cl4, Ar4, q4, S4, N4', H4, G4⟩ := id P4
  have hin4 : ¬ ((1 : Int32) < 0 ∨ cl4.slots.size ≤ ((1 : Int32)).toNatClampNeg) := inb_of S4 ⟨by decide, by decide⟩
  have hat4 : cl4.slots[((1 : Int32)).toNatClampNeg]? = some (.long (2 : Int64)) := H4.at hin4 rfl
  obtain ⟨T5, X5, e5, st5⟩ := getF X3 hx hZ hown (host := "") (Or.inl (kw52 hw)) Via.refl e3 P3 (g := (mkF m 25 #[.val (.ref a1), .val (.long q1), .second, .val (.int (0 : Int32))] [(.ref a1)])) rfl rfl (hb hby d16_25)
  obtain ⟨cl6, Ar6, q6, S6, N6', H6, G6⟩ := id P4
  have hin6 : ¬ ((0 : Int32) < 0 ∨ cl6.slots.size ≤ ((0 : Int32)).toNatClampNeg) := inb_of S6 ⟨by decide, by decide⟩
  have hat6 : cl6.slots[((0 : Int32)).toNatClampNeg]? = some (.long r0) := H6.at hin6 rfl
  obtain ⟨cl7, Ar7, q7, S7, N7', H7, G7⟩ := id P4
  have hin7 : ¬ ((0 : Int32) < 0 ∨ cl7.slots.size ≤ ((0 : Int32)).toNatClampNeg) := inb_of S7 ⟨by decide, by decide⟩
  obtain ⟨T7, h7, X7, e7, W7, st7⟩ := stJ X5 hx hZ e5 Ar7 (j := (0 : Int32)) hin7 (g := (mkF m 33 #[.val (.ref a1), .val (.long q1), .second, .val (.int (0 : Int32))] [(.long (r0 + q1)), (.int (0 : Int32)), (.ref sw)])) rfl rfl (hb hby d16_33)
  have Z7 : n0 ≤ h7.size := Nat.le_trans Z0 (Keep.of_wr W7).1
  have K7 : Keep h0 h7 [sw] := KR.wr W7 (Or.inl (List.mem_of_getElem? (i := 0) rfl))
  have N7 := Fr.snoc X7 N0 P1
  have V7 : Arv Z h7 sw k3 .long (4 : Int32) ([(.long r0), (.long (2 : Int64)), (.long r1), (.long (2 : Int64))].set 0 (.long (r0 + q1))) (.long (0 : Int64)) := Arv.set Ar7 q7 S7 N7' H7 G7 rfl W7 0 rfl (Nat.le_of_ble_eq_true rfl)
  have Vs7 : Arv Z h7 sw k3 .long (4 : Int32) [(.long (r0 + q1)), (.long (2 : Int64)), (.long r1), (.long (2 : Int64))] (.long (0 : Int64)) := V7
  have f8 : Fld Z h7 a1 "com/example/okno/okno/AdmissionLog" "shorterWindows" "[J" (.ref sw) := (P3.other W7 (Or.inl (Ne.symm P2)))
  obtain ⟨T9, X9, e9, st9⟩ := getF X7 hx hZ hown (host := "") (Or.inl (kw52 hw)) Via.refl e7 f8 (g := (mkF m 35 #[.val (.ref a1), .val (.long q1), .second, .val (.int (0 : Int32))] [(.ref a1)])) rfl rfl (hb hby d16_35)
  obtain ⟨cl10, Ar10, q10, S10, N10', H10, G10⟩ := id Vs7
  have hin10 : ¬ ((1 : Int32) < 0 ∨ cl10.slots.size ≤ ((1 : Int32)).toNatClampNeg) := inb_of S10 ⟨by decide, by decide⟩
  have hat10 : cl10.slots[((1 : Int32)).toNatClampNeg]? = some (.long (2 : Int64)) := H10.at hin10 rfl
  obtain ⟨cl11, Ar11, q11, S11, N11', H11, G11⟩ := id Vs7
  have hin11 : ¬ ((1 : Int32) < 0 ∨ cl11.slots.size ≤ ((1 : Int32)).toNatClampNeg) := inb_of S11 ⟨by decide, by decide⟩
  obtain ⟨T11, h11, X11, e11, W11, st11⟩ := stJ X9 hx hZ e9 Ar11 (j := (1 : Int32)) hin11 (g := (mkF m 45 #[.val (.ref a1), .val (.long q1), .second, .val (.int (0 : Int32))] [(.long (3 : Int64)), (.int (1 : Int32)), (.ref sw)])) rfl rfl (hb hby d16_45)
  have Z11 : n0 ≤ h11.size := Nat.le_trans Z7 (Keep.of_wr W11).1
  have K11 : Keep h0 h11 [sw] := K7.wr W11 (Or.inl (List.mem_of_getElem? (i := 0) rfl))
  have N11 := Fr.snoc X11 N7 P1
  have V11 : Arv Z h11 sw k3 .long (4 : Int32) ([(.long (r0 + q1)), (.long (2 : Int64)), (.long r1), (.long (2 : Int64))].set 1 (.long (3 : Int64))) (.long (0 : Int64)) := Arv.set Ar11 q11 S11 N11' H11 G11 rfl W11 1 rfl (Nat.le_of_ble_eq_true rfl)
  have Vs11 : Arv Z h11 sw k3 .long (4 : Int32) [(.long (r0 + q1)), (.long (3 : Int64)), (.long r1), (.long (2 : Int64))] (.long (0 : Int64)) := V11
  have f12 : Fld Z h11 a1 "com/example/okno/okno/AdmissionLog" "shorterWindows" "[J" (.ref sw) := (f8.other W11 (Or.inl (Ne.symm P2)))
  obtain ⟨T13, X13, e13, st13⟩ := getF X11 hx hZ hown (host := "") (Or.inl (kw52 hw)) Via.refl e11 f12 (g := (mkF m 4 #[.val (.ref a1), .val (.long q1), .second, .val (.int (2 : Int32))] [(.ref a1), (.int (2 : Int32))])) rfl rfl (hb hby d16_4)
  obtain ⟨cl14, Ar14, -, S14, N14', -, -⟩ := id Vs11
  obtain ⟨T15, X15, e15, st15⟩ := getF X13 hx hZ hown (host := "") (Or.inl (kw52 hw)) Via.refl e13 f12 (g := (mkF m 12 #[.val (.ref a1), .val (.long q1), .second, .val (.int (2 : Int32))] [(.ref a1)])) rfl rfl (hb hby d16_12)
  obtain ⟨cl16, Ar16, q16, S16, N16', H16, G16⟩ := id Vs11
  have hin16 : ¬ ((3 : Int32) < 0 ∨ cl16.slots.size ≤ ((3 : Int32)).toNatClampNeg) := inb_of S16 ⟨by decide, by decide⟩
  have hat16 : cl16.slots[((3 : Int32)).toNatClampNeg]? = some (.long (2 : Int64)) := H16.at hin16 rfl
  have pre17 : ∀ t, Steps p.tables e below (T15.setTop (mkF m 19 #[.val (.ref a1), .val (.long q1), .second, .val (.int (2 : Int32))] [(.long (2 : Int64))])) t → Steps p.tables e below (s₁.setTop (entryFrame m #[(.ref a1), (.long q1)] 4)) t := fun t k => pre0 t (by
    refine XS.iconst X0.here hx rfl (hb hby d16_0) ?_
    refine XS.istoreN X0.here hx rfl (hb hby d16_1) rfl (l' := #[.val (.ref a1), .val (.long q1), .second, .val (.int (0 : Int32))]) rfl ?_
    refine XS.iloadN X0.here hx rfl (hb hby d16_2) rfl ?_
    refine XS.aloadN X0.here hx rfl (hb hby d16_3) rfl rfl ?_
    refine st1 _ ?_
    refine X1.arraylength hx (by rw [e1]; exact Ar2.1) (State.isArrayOf_alike hZ.alike Ar2.2.1) (g := (mkF m 7 #[.val (.ref a1), .val (.long q1), .second, .val (.int (0 : Int32))] [(.ref sw), (.int (0 : Int32))])) rfl rfl (hb hby d16_7) _ ?_
    rw [len_of S2 N2']
    refine XS.icmpNo X1.here hx rfl (hb hby d16_8) rfl (tlt (by decide : (0 : Int32) < (4 : Int32))).2.1 ?_
    refine XS.aloadN X1.here hx rfl (hb hby d16_11) rfl rfl ?_
    refine st3 _ ?_
    refine XS.iloadN X3.here hx rfl (hb hby d16_15) rfl ?_
    refine XS.iconst X3.here hx rfl (hb hby d16_16) ?_
    refine XS.iadd X3.here hx rfl (hb hby d16_17) rfl ?_
    refine X3.laload hx (j := (1 : Int32)) (v := (.long (2 : Int64))) (by rw [e3]; exact Ar4.1) (State.isArrayOf_alike hZ.alike Ar4.2.1) Ar4.2.2 hin4 hat4 (g := (mkF m 18 #[.val (.ref a1), .val (.long q1), .second, .val (.int (0 : Int32))] [(.int (1 : Int32)), (.ref sw)])) rfl rfl (hb hby d16_18) _ ?_
    refine XS.lconst X3.here hx rfl (hb hby d16_19) ?_
    refine XS.lcmp X3.here hx rfl (hb hby d16_20) rfl ?_
    refine XS.ifNo X3.here hx rfl (hb hby d16_21) rfl ((if0 _ _).trans (tlt ((lw_gt _ _).mpr (by decide : (0 : Int64) < (2 : Int64)))).2.2.2) ?_
    refine XS.aloadN X3.here hx rfl (hb hby d16_24) rfl rfl ?_
    refine st5 _ ?_
    refine XS.iloadN X5.here hx rfl (hb hby d16_28) rfl ?_
    show Steps p.tables e below (T5.setTop (mkF m 29 #[.val (.ref a1), .val (.long q1), .second, .val (.int (0 : Int32))] [(.int (0 : Int32)), (.ref sw)])) _
    jvm_step X5.here [X5.here.top, hx, (hb hby d16_29), Value.category]
    refine X5.laload hx (j := (0 : Int32)) (v := (.long r0)) (by rw [e5]; exact Ar6.1) (State.isArrayOf_alike hZ.alike Ar6.2.1) Ar6.2.2 hin6 hat6 (g := (mkF m 30 #[.val (.ref a1), .val (.long q1), .second, .val (.int (0 : Int32))] [(.int (0 : Int32)), (.ref sw), (.int (0 : Int32)), (.ref sw)])) rfl rfl (hb hby d16_30) _ ?_
    refine XS.lloadN X5.here hx rfl (hb hby d16_31) rfl ?_
    refine XS.ladd X5.here hx rfl (hb hby d16_32) rfl ?_
    refine st7 _ ?_
    refine XS.aloadN X7.here hx rfl (hb hby d16_34) rfl rfl ?_
    refine st9 _ ?_
    refine XS.iloadN X9.here hx rfl (hb hby d16_38) rfl ?_
    refine XS.iconst X9.here hx rfl (hb hby d16_39) ?_
    refine XS.iadd X9.here hx rfl (hb hby d16_40) rfl ?_
    show Steps p.tables e below (T9.setTop (mkF m 41 #[.val (.ref a1), .val (.long q1), .second, .val (.int (0 : Int32))] [(.int (1 : Int32)), (.ref sw)])) _
    jvm_step X9.here [X9.here.top, hx, (hb hby d16_41), Value.category]
    refine X9.laload hx (j := (1 : Int32)) (v := (.long (2 : Int64))) (by rw [e9]; exact Ar10.1) (State.isArrayOf_alike hZ.alike Ar10.2.1) Ar10.2.2 hin10 hat10 (g := (mkF m 42 #[.val (.ref a1), .val (.long q1), .second, .val (.int (0 : Int32))] [(.int (1 : Int32)), (.ref sw), (.int (1 : Int32)), (.ref sw)])) rfl rfl (hb hby d16_42) _ ?_
    refine XS.lconst X9.here hx rfl (hb hby d16_43) ?_
    refine XS.ladd X9.here hx rfl (hb hby d16_44) rfl ?_
    refine st11 _ ?_
    refine XS.iinc X11.here hx rfl (hb hby d16_46) rfl (l' := #[.val (.ref a1), .val (.long q1), .second, .val (.int (2 : Int32))]) rfl ?_
    refine XS.goto X11.here hx rfl (pc0 := 49) (pc' := 2) rfl (hb hby d16_49) (by decide) (by decide) ?_
    refine XS.iloadN X11.here hx rfl (hb hby d16_2) rfl ?_
    refine XS.aloadN X11.here hx rfl (hb hby d16_3) rfl rfl ?_
    refine st13 _ ?_
    refine X13.arraylength hx (by rw [e13]; exact Ar14.1) (State.isArrayOf_alike hZ.alike Ar14.2.1) (g := (mkF m 7 #[.val (.ref a1), .val (.long q1), .second, .val (.int (2 : Int32))] [(.ref sw), (.int (2 : Int32))])) rfl rfl (hb hby d16_7) _ ?_
    rw [len_of S14 N14']
    refine XS.icmpNo X13.here hx rfl (hb hby d16_8) rfl (tlt (by decide : (2 : Int32) < (4 : Int32))).2.1 ?_
    refine XS.aloadN X13.here hx rfl (hb hby d16_11) rfl rfl ?_
    refine st15 _ ?_
    refine XS.iloadN X15.here hx rfl (hb hby d16_15) rfl ?_
    refine XS.iconst X15.here hx rfl (hb hby d16_16) ?_
    refine XS.iadd X15.here hx rfl (hb hby d16_17) rfl ?_
    refine X15.laload hx (j := (3 : Int32)) (v := (.long (2 : Int64))) (by rw [e15]; exact Ar16.1) (State.isArrayOf_alike hZ.alike Ar16.2.1) Ar16.2.2 hin16 hat16 (g := (mkF m 18 #[.val (.ref a1), .val (.long q1), .second, .val (.int (2 : Int32))] [(.int (3 : Int32)), (.ref sw)])) rfl rfl (hb hby d16_18) _ ?_
    exact k)
  obtain ⟨T18, X18, e18, st18⟩ := getF X15 hx hZ hown (host := "") (Or.inl (kw52 hw)) Via.refl e15 f12 (g := (mkF m 25 #[.val (.ref a1), .val (.long q1), .second, .val (.int (2 : Int32))] [(.ref a1)])) rfl rfl (hb hby d16_25)
  obtain ⟨cl19, Ar19, q19, S19, N19', H19, G19⟩ := id Vs11
  have hin19 : ¬ ((2 : Int32) < 0 ∨ cl19.slots.size ≤ ((2 : Int32)).toNatClampNeg) := inb_of S19 ⟨by decide, by decide⟩
  have hat19 : cl19.slots[((2 : Int32)).toNatClampNeg]? = some (.long r1) := H19.at hin19 rfl
  obtain ⟨cl20, Ar20, q20, S20, N20', H20, G20⟩ := id Vs11
  have hin20 : ¬ ((2 : Int32) < 0 ∨ cl20.slots.size ≤ ((2 : Int32)).toNatClampNeg) := inb_of S20 ⟨by decide, by decide⟩
  obtain ⟨T20, h20, X20, e20, W20, st20⟩ := stJ X18 hx hZ e18 Ar20 (j := (2 : Int32)) hin20 (g := (mkF m 33 #[.val (.ref a1), .val (.long q1), .second, .val (.int (2 : Int32))] [(.long (r1 + q1)), (.int (2 : Int32)), (.ref sw)])) rfl rfl (hb hby d16_33)
  have Z20 : n0 ≤ h20.size := Nat.le_trans Z11 (Keep.of_wr W20).1
  have K20 : Keep h0 h20 [sw] := K11.wr W20 (Or.inl (List.mem_of_getElem? (i := 0) rfl))
  have N20 := Fr.snoc X20 N11 P1
  have V20 : Arv Z h20 sw k3 .long (4 : Int32) ([(.long (r0 + q1)), (.long (3 : Int64)), (.long r1), (.long (2 : Int64))].set 2 (.long (r1 + q1))) (.long (0 : Int64)) := Arv.set Ar20 q20 S20 N20' H20 G20 rfl W20 2 rfl (Nat.le_of_ble_eq_true rfl)
  have Vs20 : Arv Z h20 sw k3 .long (4 : Int32) [(.long (r0 + q1)), (.long (3 : Int64)), (.long (r1 + q1)), (.long (2 : Int64))] (.long (0 : Int64)) := V20
  have f21 : Fld Z h20 a1 "com/example/okno/okno/AdmissionLog" "shorterWindows" "[J" (.ref sw) := (f12.other W20 (Or.inl (Ne.symm P2)))
  obtain ⟨T22, X22, e22, st22⟩ := getF X20 hx hZ hown (host := "") (Or.inl (kw52 hw)) Via.refl e20 f21 (g := (mkF m 35 #[.val (.ref a1), .val (.long q1), .second, .val (.int (2 : Int32))] [(.ref a1)])) rfl rfl (hb hby d16_35)
  obtain ⟨cl23, Ar23, q23, S23, N23', H23, G23⟩ := id Vs20
  have hin23 : ¬ ((3 : Int32) < 0 ∨ cl23.slots.size ≤ ((3 : Int32)).toNatClampNeg) := inb_of S23 ⟨by decide, by decide⟩
  have hat23 : cl23.slots[((3 : Int32)).toNatClampNeg]? = some (.long (2 : Int64)) := H23.at hin23 rfl
  obtain ⟨cl24, Ar24, q24, S24, N24', H24, G24⟩ := id Vs20
  have hin24 : ¬ ((3 : Int32) < 0 ∨ cl24.slots.size ≤ ((3 : Int32)).toNatClampNeg) := inb_of S24 ⟨by decide, by decide⟩
  obtain ⟨T24, h24, X24, e24, W24, st24⟩ := stJ X22 hx hZ e22 Ar24 (j := (3 : Int32)) hin24 (g := (mkF m 45 #[.val (.ref a1), .val (.long q1), .second, .val (.int (2 : Int32))] [(.long (3 : Int64)), (.int (3 : Int32)), (.ref sw)])) rfl rfl (hb hby d16_45)
  have Z24 : n0 ≤ h24.size := Nat.le_trans Z20 (Keep.of_wr W24).1
  have K24 : Keep h0 h24 [sw] := K20.wr W24 (Or.inl (List.mem_of_getElem? (i := 0) rfl))
  have N24 := Fr.snoc X24 N20 P1
  have V24 : Arv Z h24 sw k3 .long (4 : Int32) ([(.long (r0 + q1)), (.long (3 : Int64)), (.long (r1 + q1)), (.long (2 : Int64))].set 3 (.long (3 : Int64))) (.long (0 : Int64)) := Arv.set Ar24 q24 S24 N24' H24 G24 rfl W24 3 rfl (Nat.le_of_ble_eq_true rfl)
  have Vs24 : Arv Z h24 sw k3 .long (4 : Int32) [(.long (r0 + q1)), (.long (3 : Int64)), (.long (r1 + q1)), (.long (3 : Int64))] (.long (0 : Int64)) := V24
  have f25 : Fld Z h24 a1 "com/example/okno/okno/AdmissionLog" "shorterWindows" "[J" (.ref sw) := (f21.other W24 (Or.inl (Ne.symm P2)))
  obtain ⟨T26, X26, e26, st26⟩ := getF X24 hx hZ hown (host := "") (Or.inl (kw52 hw)) Via.refl e24 f25 (g := (mkF m 4 #[.val (.ref a1), .val (.long q1), .second, .val (.int (4 : Int32))] [(.ref a1), (.int (4 : Int32))])) rfl rfl (hb hby d16_4)
  obtain ⟨cl27, Ar27, -, S27, N27', -, -⟩ := id Vs24
  obtain ⟨fs, hr, hrun, hended, hW, hsame⟩ := X26.leave (v := none) (fun _ => rfl)
  refine ⟨_, _, pre17 _ ?_, hrun, hended, _, _, rfl, ?_, ⟨_, rfl⟩, hW, hsame.mono (by decide) (by decide)⟩
  · skip
    refine XS.lconst X15.here hx rfl (hb hby d16_19) ?_
    refine XS.lcmp X15.here hx rfl (hb hby d16_20) rfl ?_
    refine XS.ifNo X15.here hx rfl (hb hby d16_21) rfl ((if0 _ _).trans (tlt ((lw_gt _ _).mpr (by decide : (0 : Int64) < (2 : Int64)))).2.2.2) ?_
    refine XS.aloadN X15.here hx rfl (hb hby d16_24) rfl rfl ?_
    refine st18 _ ?_
    refine XS.iloadN X18.here hx rfl (hb hby d16_28) rfl ?_
    show Steps p.tables e below (T18.setTop (mkF m 29 #[.val (.ref a1), .val (.long q1), .second, .val (.int (2 : Int32))] [(.int (2 : Int32)), (.ref sw)])) _
    jvm_step X18.here [X18.here.top, hx, (hb hby d16_29), Value.category]
    refine X18.laload hx (j := (2 : Int32)) (v := (.long r1)) (by rw [e18]; exact Ar19.1) (State.isArrayOf_alike hZ.alike Ar19.2.1) Ar19.2.2 hin19 hat19 (g := (mkF m 30 #[.val (.ref a1), .val (.long q1), .second, .val (.int (2 : Int32))] [(.int (2 : Int32)), (.ref sw), (.int (2 : Int32)), (.ref sw)])) rfl rfl (hb hby d16_30) _ ?_
    refine XS.lloadN X18.here hx rfl (hb hby d16_31) rfl ?_
    refine XS.ladd X18.here hx rfl (hb hby d16_32) rfl ?_
    refine st20 _ ?_
    refine XS.aloadN X20.here hx rfl (hb hby d16_34) rfl rfl ?_
    refine st22 _ ?_
    refine XS.iloadN X22.here hx rfl (hb hby d16_38) rfl ?_
    refine XS.iconst X22.here hx rfl (hb hby d16_39) ?_
    refine XS.iadd X22.here hx rfl (hb hby d16_40) rfl ?_
    show Steps p.tables e below (T22.setTop (mkF m 41 #[.val (.ref a1), .val (.long q1), .second, .val (.int (2 : Int32))] [(.int (3 : Int32)), (.ref sw)])) _
    jvm_step X22.here [X22.here.top, hx, (hb hby d16_41), Value.category]
    refine X22.laload hx (j := (3 : Int32)) (v := (.long (2 : Int64))) (by rw [e22]; exact Ar23.1) (State.isArrayOf_alike hZ.alike Ar23.2.1) Ar23.2.2 hin23 hat23 (g := (mkF m 42 #[.val (.ref a1), .val (.long q1), .second, .val (.int (2 : Int32))] [(.int (3 : Int32)), (.ref sw), (.int (3 : Int32)), (.ref sw)])) rfl rfl (hb hby d16_42) _ ?_
    refine XS.lconst X22.here hx rfl (hb hby d16_43) ?_
    refine XS.ladd X22.here hx rfl (hb hby d16_44) rfl ?_
    refine st24 _ ?_
    refine XS.iinc X24.here hx rfl (hb hby d16_46) rfl (l' := #[.val (.ref a1), .val (.long q1), .second, .val (.int (4 : Int32))]) rfl ?_
    refine XS.goto X24.here hx rfl (pc0 := 49) (pc' := 2) rfl (hb hby d16_49) (by decide) (by decide) ?_
    refine XS.iloadN X24.here hx rfl (hb hby d16_2) rfl ?_
    refine XS.aloadN X24.here hx rfl (hb hby d16_3) rfl rfl ?_
    refine st26 _ ?_
    refine X26.arraylength hx (by rw [e26]; exact Ar27.1) (State.isArrayOf_alike hZ.alike Ar27.2.1) (g := (mkF m 7 #[.val (.ref a1), .val (.long q1), .second, .val (.int (4 : Int32))] [(.ref sw), (.int (4 : Int32))])) rfl rfl (hb hby d16_7) _ ?_
    rw [len_of S27 N27']
    refine XS.icmpYes X26.here hx rfl (pc0 := 8) (pc' := 52) rfl (hb hby d16_8) rfl (flt (by decide : ¬ ((4 : Int32) < (4 : Int32)))).2.1 (by decide) (by decide) ?_
    show Steps p.tables e below (T26.setTop (mkF m 52 #[.val (.ref a1), .val (.long q1), .second, .val (.int (4 : Int32))] [])) _
    exact X26.returnOut hx Bd.returns (hb hby d16_52) hr
  · show Q_rmCount_24 Z a1 q1 sw k3 r0 r1 h0 n0 _ T26.heap _
    rw [e26]
    exact ⟨rfl, N24, K24, Vs24⟩
theorem ef_rmAppC_21 (m : MethodId) (x0 : Addr) (x1 : Int64) (x2 : Int64) : entryFrame m #[(.ref x0), (.long x1), (.long x2)] 11 = mkF m 0 #[.val (.ref x0), .val (.long x1), .second, .val (.long x2), .second, .unset, .unset, .unset, .unset, .unset, .unset] [] := by first | (simp [entryFrame, mkF, argsToLocals, Value.category]; done) | rfl
def Q_rmAppC_21 (Z : State) (a1 : Addr) (q1 : Int64) (q2 : Int64) (g : Int64) (lt : Int64) (tt : Int64) (ns : Int64) (sw : Addr) (k3 : ClassId) (r0 : Int64) (r1 : Int64) (rs : Addr) (ra : Addr) (k1 : ClassId) (k2 : ClassId) (x0 : Int64) (x1 : Int64) (x2 : Int64) (x3 : Int64) (y0 : Int64) (y1 : Int64) (y2 : Int64) (y3 : Int64) (u_newest : Int64) (u_oldestSubWindow : Int64) (u_newestSubWindowEnd : Int64) (u_olderTotal : Int64) (h0 : Heap) (n0 : Nat) (v : Option Value) (h : Heap) (L : List Loc) : Prop := v = none ∧ Fr n0 L ∧ Keep h0 h [a1, sw, rs, ra] ∧ Arv Z h rs k1 .long (4 : Int32) [(.long x0), (.long ns), (.long x2), (.long x3)] (.long (0 : Int64)) ∧ Arv Z h ra k2 .long (4 : Int32) [(.long y0), (.long (tt - u_olderTotal)), (.long y2), (.long y3)] (.long (0 : Int64)) ∧ Fld Z h a1 "com/example/okno/okno/AdmissionLog" "newest" "J" (.long q1) ∧ Fld Z h a1 "com/example/okno/okno/AdmissionLog" "subWindows" "[J" (.ref rs) ∧ Fld Z h a1 "com/example/okno/okno/AdmissionLog" "amounts" "[J" (.ref ra) ∧ Fld Z h a1 "com/example/okno/okno/AdmissionLog" "oldestSubWindow" "J" (.long u_oldestSubWindow) ∧ Fld Z h a1 "com/example/okno/okno/AdmissionLog" "lastTime" "J" (.long q1) ∧ Fld Z h a1 "com/example/okno/okno/AdmissionLog" "subWindowMillis" "J" (.long g) ∧ Fld Z h a1 "com/example/okno/okno/AdmissionLog" "lastSubWindow" "J" (.long (own_fd q1 g)) ∧ Fld Z h a1 "com/example/okno/okno/AdmissionLog" "shorterWindows" "[J" (.ref sw) ∧ Fld Z h a1 "com/example/okno/okno/AdmissionLog" "total" "J" (.long (tt + q2)) ∧ Fld Z h a1 "com/example/okno/okno/AdmissionLog" "newestSubWindow" "J" (.long (own_fd q1 g)) ∧ Fld Z h a1 "com/example/okno/okno/AdmissionLog" "newestSubWindowEnd" "J" (.long (own_end (own_fd q1 g) q1 g)) ∧ Fld Z h a1 "com/example/okno/okno/AdmissionLog" "olderTotal" "J" (.long (u_olderTotal + (tt - u_olderTotal))) ∧ Fld Z h a1 "com/example/okno/okno/AdmissionLog" "size" "I" (.int (2 : Int32)) ∧ Fld Z h a1 "com/example/okno/okno/AdmissionLog" "head" "I" (.int (0 : Int32)) ∧ Arv Z h sw k3 .long (4 : Int32) [(.long (r0 + (tt - u_olderTotal))), (.long (3 : Int64)), (.long (r1 + (tt - u_olderTotal))), (.long (3 : Int64))] (.long (0 : Int64))
set_option maxRecDepth 65536 in
set_option maxHeartbeats 40000000 in
theorem rmAppC_21 (l : Launch) (Z : State) (a0 : Array Value) (hw : ∀ d ∈ tables_1, d.before a0 Z = true) (ws : List Jvm.Cond) (a1 : Addr) (q1 : Int64) (q2 : Int64) (g : Int64) (lt : Int64) (tt : Int64) (ns : Int64) (sw : Addr) (k3 : ClassId) (r0 : Int64) (r1 : Int64) (rs : Addr) (ra : Addr) (k1 : ClassId) (k2 : ClassId) (x0 : Int64) (x1 : Int64) (x2 : Int64) (x3 : Int64) (y0 : Int64) (y1 : Int64) (y2 : Int64) (y3 : Int64) (u_newest : Int64) (u_oldestSubWindow : Int64) (u_newestSubWindowEnd : Int64) (u_olderTotal : Int64) (h0 : Heap) (n0 : Nat) (Z0 : n0 ≤ h0.size) (P0 : Exa Z h0 a1 "com/example/okno/okno/AdmissionLog") (P1 : n0 ≤ a1) (hgz : g ≠ (0 : Int64)) (hov : ¬ ((tt ^^^ (tt + q2)) &&& (q2 ^^^ (tt + q2))) < (0 : Int64)) (htt : tt ≠ (0 : Int64)) (hne : ¬ (own_fd q1 g) = ns) (P6 : Arv Z h0 sw k3 .long (4 : Int32) [(.long r0), (.long (2 : Int64)), (.long r1), (.long (2 : Int64))] (.long (0 : Int64))) (P7 : n0 ≤ sw) (P8 : sw ≠ a1) (P9 : Arv Z h0 rs k1 .long (4 : Int32) [(.long x0), (.long x1), (.long x2), (.long x3)] (.long (0 : Int64))) (P10 : Arv Z h0 ra k2 .long (4 : Int32) [(.long y0), (.long y1), (.long y2), (.long y3)] (.long (0 : Int64))) (P11 : n0 ≤ rs) (P12 : n0 ≤ ra) (P13 : rs ≠ a1) (P14 : ra ≠ a1) (P15 : rs ≠ ra) (P16 : sw ≠ rs) (P17 : sw ≠ ra) (P18 : Fld Z h0 a1 "com/example/okno/okno/AdmissionLog" "newest" "J" (.long u_newest)) (P19 : Fld Z h0 a1 "com/example/okno/okno/AdmissionLog" "subWindows" "[J" (.ref rs)) (P20 : Fld Z h0 a1 "com/example/okno/okno/AdmissionLog" "amounts" "[J" (.ref ra)) (P21 : Fld Z h0 a1 "com/example/okno/okno/AdmissionLog" "oldestSubWindow" "J" (.long u_oldestSubWindow)) (P22 : Fld Z h0 a1 "com/example/okno/okno/AdmissionLog" "lastTime" "J" (.long lt)) (P23 : Fld Z h0 a1 "com/example/okno/okno/AdmissionLog" "subWindowMillis" "J" (.long g)) (P24 : Fld Z h0 a1 "com/example/okno/okno/AdmissionLog" "lastSubWindow" "J" (.long (own_fd lt g))) (P25 : Fld Z h0 a1 "com/example/okno/okno/AdmissionLog" "shorterWindows" "[J" (.ref sw)) (P26 : Fld Z h0 a1 "com/example/okno/okno/AdmissionLog" "total" "J" (.long tt)) (P27 : Fld Z h0 a1 "com/example/okno/okno/AdmissionLog" "newestSubWindow" "J" (.long ns)) (P28 : Fld Z h0 a1 "com/example/okno/okno/AdmissionLog" "newestSubWindowEnd" "J" (.long u_newestSubWindowEnd)) (P29 : Fld Z h0 a1 "com/example/okno/okno/AdmissionLog" "olderTotal" "J" (.long u_olderTotal)) (P30 : Fld Z h0 a1 "com/example/okno/okno/AdmissionLog" "size" "I" (.int (1 : Int32))) (P31 : Fld Z h0 a1 "com/example/okno/okno/AdmissionLog" "head" "I" (.int (0 : Int32))) :
    MetFree l (⟨"com/example/okno/okno/AdmissionLog", "append", "(JJ)V"⟩ : MethodName) (head1 (Jvm.Cond.code (⟨"com/example/okno/okno/AdmissionLog", "append", "(JJ)V"⟩ : MethodName) prog_2_method_12_code 11 none :: ws) ({ frames := 2, cells := 0, slots := 0, locals := 32 } : Room)) (fun a U => a = #[(.ref a1), (.long q1), (.long q2)] ∧ Z.Warmed39 U.vm ∧ U.heap = h0) (fun _ _ _ _ _ => True) (fun _ U o U' => ∃ v L, o = .returned v ∧ Q_rmAppC_21 Z a1 q1 q2 g lt tt ns sw k3 r0 r1 rs ra k1 k2 x0 x1 x2 x3 y0 y1 y2 y3 u_newest u_oldestSubWindow u_newestSubWindowEnd u_olderTotal h0 n0 v U'.heap L ∧ FrameEnd U o U' L ({ frames := 2, cells := 0, slots := 0, locals := 32 } : Room).cells ({ frames := 2, cells := 0, slots := 0, locals := 32 } : Room).slots) := by
  refine MetFree.of_bodySF (plainFor_of_name pn_2) hisR ?_
  intro p e s m args below meth c s₁ Bd hml0 hP hK
  obtain ⟨rfl, hZ, hh⟩ := hP
  have hx := Bd.exec
  have hby := Bd.bytes
  have hml : c.maxLocals = 11 := hml0
  have hown : s.vm.findClass "com/example/okno/okno/AdmissionLog" = some m.cls := findClass_of_methodNamed Bd.named
  have hnm := (name_of_methodNamed Bd.named Bd.method).1
  have X0 : Stand p l e ({ frames := 2, cells := 0, slots := 0, locals := 32 } : Room) s m #[(.ref a1), (.long q1), (.long q2)] below meth c s₁ [] 0 0 := Stand.of_body Bd
  have e0 : s₁.heap = h0 := by rw [← hh, Bd.state]; rfl
  have N0 := Fr.nil n0
  have KR : Keep h0 h0 [a1, sw, rs, ra] := Keep.refl h0 _
  have pre0 : ∀ t, Steps p.tables e below (s₁.setTop (mkF m 0 #[.val (.ref a1), .val (.long q1), .second, .val (.long q2), .second, .unset, .unset, .unset, .unset, .unset, .unset] [])) t → Steps p.tables e below (s₁.setTop (entryFrame m #[(.ref a1), (.long q1), (.long q2)] 11)) t := fun t k => castTop (ef_rmAppC_21 m (a1) (q1) (q2)) k
  obtain ⟨T1, X1, e1, st1⟩ := getF X0 hx hZ hown (host := "") (Or.inl (kw68 hw)) Via.refl e0 P26 (g := (mkF m 1 #[.val (.ref a1), .val (.long q1), .second, .val (.long q2), .second, .unset, .unset, .unset, .unset, .unset, .unset] [(.ref a1)])) rfl rfl (hb hby d12_1)
  obtain ⟨_, _, ⟨T2, L2, k2, n2⟩, -, X2, ⟨Lc2, hQ2, l2, y2, z2⟩, st2⟩ := Jvm.LawKit.callS X1 hx (y := (⟨"java/lang/Math", "addExact", "(JJ)J"⟩ : MethodName)) hown (mvT hZ (kw80 hw)) (mvT hZ (kw81 hw)) (mvT hZ (kw6 hw)) (mvT hZ (kw82 hw)) (by decide) (backOf (W := 0) (rmAddX l Z a0 hw [] tt q2 h0 n0 Z0 hov) hZ (kw82 hw) (kw6 hw) (by decide) (by decide)) (g := (mkF m 5 #[.val (.ref a1), .val (.long q1), .second, .val (.long q2), .second, .unset, .unset, .unset, .unset, .unset, .unset] [(.long q2), (.long tt)])) rfl (by rw [hml]; rfl) (argsL := [(.long tt), (.long q2)]) (rest := []) (lenOf pd_0 rfl) rfl (by show 2 * 0 + _ ≤ _; exact Nat.le_of_eq rfl) (hb hby d12_5) (fun _ _ => ⟨rfl, e1, (by decide : 0 + 0 ≤ _), (by decide : 0 + 0 ≤ _)⟩)
  dsimp only [Pt.U, Pt.locs, Pt.cells, Pt.slots] at X2 l2 y2 z2 st2 hQ2
  subst l2 y2 z2
  obtain ⟨rfl, N2q, e2⟩ := hQ2
  have N2 := Fr.app N0 N2q
  obtain ⟨cq3, kq3, q3a, q3b, q3c⟩ := isOf hZ e2 P0
  obtain ⟨_, _, ⟨T3, L3, k3, n3⟩, -, X3, ⟨Lc3, hQ3, l3, y3, z3⟩, st3⟩ := X2.virtualBack hx (y := (⟨"com/example/okno/okno/AdmissionLog", "subWindowOf", "(J)J"⟩ : MethodName)) (z := (⟨"com/example/okno/okno/AdmissionLog", "subWindowOf", "(J)J"⟩ : MethodName)) hown (mvT hZ (kw83 hw)) (mvT hZ (kw84 hw)) (notFace_of_selects (args := #[]) (mvT hZ (kw86 hw))) (mvT hZ (kw86 hw)) (mvT hZ (kw85 hw)) (by decide) (backOf (W := 0) (rmSub l Z a0 hw [] a1 q1 lt g u_newest rs ra u_oldestSubWindow sw tt ns u_newestSubWindowEnd u_olderTotal (1 : Int32) (0 : Int32) h0 n0 Z0 P0 P1 hgz P18 P19 P20 P21 P22 P23 P24 P25 P26 P27 P28 P29 P30 P31) hZ (kw87 hw) (kw18 hw) (by decide) (by decide)) q3a q3c (g := (mkF m 12 #[.val (.ref a1), .val (.long q1), .second, .val (.long q2), .second, .val (.long (tt + q2)), .second, .unset, .unset, .unset, .unset] [(.long q1), (.ref a1)])) rfl (by rw [hml]; rfl) (Steps.refl _) (argsL := [(.long q1)]) (rest := []) (lenOf pd_7 rfl) rfl (by show 2 * 0 + _ ≤ _; exact Nat.le_of_eq rfl) (hb hby d12_12) (fun _ _ => ⟨rfl, e2, (by decide : 0 + 0 ≤ _), (by decide : 0 + 0 ≤ _)⟩)
  dsimp only [Pt.U, Pt.locs, Pt.cells, Pt.slots] at X3 l3 y3 z3 st3 hQ3
  subst l3 y3 z3
  obtain ⟨rfl, N3q, Kq3, p3_0, p3_1, p3_2, p3_3, p3_4, p3_5, p3_6, p3_7, p3_8, p3_9, p3_10, p3_11, p3_12, p3_13⟩ := hQ3
  have N3 := Fr.app N2 N3q
  have Z3 : n0 ≤ T3.heap.size := Nat.le_trans Z0 Kq3.1
  have K3 : Keep h0 T3.heap [a1, sw, rs, ra] := KR.trans Kq3 (allS (Or.inl (List.mem_of_getElem? (i := 0) rfl)) all0)
  have f5 : Exa Z T3.heap a1 "com/example/okno/okno/AdmissionLog" := (P0.keep Kq3)
  obtain ⟨cq4, kq4, q4a, q4b, q4c⟩ := isOf hZ rfl f5
  obtain ⟨_, _, ⟨T4, L4, k4, n4⟩, -, X4, ⟨Lc4, hQ4, l4, y4, z4⟩, st4⟩ := X3.virtualBack hx (y := (⟨"com/example/okno/okno/AdmissionLog", "isEmpty", "()Z"⟩ : MethodName)) (z := (⟨"com/example/okno/okno/AdmissionLog", "isEmpty", "()Z"⟩ : MethodName)) hown (mvT hZ (kw63 hw)) (mvT hZ (kw64 hw)) (notFace_of_selects (args := #[]) (mvT hZ (kw66 hw))) (mvT hZ (kw66 hw)) (mvT hZ (kw65 hw)) (by decide) (backOf (W := 0) (rmEmp1 l Z a0 hw [] a1 tt T3.heap n0 Z3 p3_8 htt) hZ (kw67 hw) (kw18 hw) (by decide) (by decide)) q4a q4c (g := (mkF m 18 #[.val (.ref a1), .val (.long q1), .second, .val (.long q2), .second, .val (.long (tt + q2)), .second, .val (.long (own_fd q1 g)), .second, .unset, .unset] [(.ref a1)])) rfl (by rw [hml]; rfl) (Steps.refl _) (argsL := []) (rest := []) (lenOf pd_4 rfl) rfl (by show 2 * 0 + _ ≤ _; exact Nat.le_of_eq rfl) (hb hby d12_18) (fun _ _ => ⟨rfl, rfl, (by decide : 0 + 0 ≤ _), (by decide : 0 + 0 ≤ _)⟩)
  dsimp only [Pt.U, Pt.locs, Pt.cells, Pt.slots] at X4 l4 y4 z4 st4 hQ4
  subst l4 y4 z4
  obtain ⟨rfl, N4q, e4⟩ := hQ4
  have N4 := Fr.app N3 N4q
  obtain ⟨T6, X6, e6, st6⟩ := getF X4 hx hZ hown (host := "") (Or.inl (kw92 hw)) Via.refl e4 p3_9 (g := (mkF m 48 #[.val (.ref a1), .val (.long q1), .second, .val (.long q2), .second, .val (.long (tt + q2)), .second, .val (.long (own_fd q1 g)), .second, .unset, .unset] [(.ref a1), (.long (own_fd q1 g))])) rfl rfl (hb hby d12_48)
  obtain ⟨T7, X7, e7, st7⟩ := getF X6 hx hZ hown (host := "") (Or.inl (kw68 hw)) Via.refl e6 p3_8 (g := (mkF m 56 #[.val (.ref a1), .val (.long q1), .second, .val (.long q2), .second, .val (.long (tt + q2)), .second, .val (.long (own_fd q1 g)), .second, .unset, .unset] [(.ref a1)])) rfl rfl (hb hby d12_56)
  obtain ⟨T8, X8, e8, st8⟩ := getF X7 hx hZ hown (host := "") (Or.inl (kw100 hw)) Via.refl e7 p3_11 (g := (mkF m 60 #[.val (.ref a1), .val (.long q1), .second, .val (.long q2), .second, .val (.long (tt + q2)), .second, .val (.long (own_fd q1 g)), .second, .unset, .unset] [(.ref a1), (.long tt)])) rfl rfl (hb hby d12_60)
  obtain ⟨T9, X9, e9, st9⟩ := getF X8 hx hZ hown (host := "") (Or.inl (kw92 hw)) Via.refl e8 p3_9 (g := (mkF m 68 #[.val (.ref a1), .val (.long q1), .second, .val (.long q2), .second, .val (.long (tt + q2)), .second, .val (.long (own_fd q1 g)), .second, .val (.long (tt - u_olderTotal)), .second] [(.ref a1), (.ref a1)])) rfl rfl (hb hby d12_68)
  have f11 : Arv Z T3.heap rs k1 .long (4 : Int32) [(.long x0), (.long x1), (.long x2), (.long x3)] (.long (0 : Int64)) := (P9.keep Kq3 (ninS P13 nin0))
  have f12 : Arv Z T3.heap ra k2 .long (4 : Int32) [(.long y0), (.long y1), (.long y2), (.long y3)] (.long (0 : Int64)) := (P10.keep Kq3 (ninS P14 nin0))
  obtain ⟨cq10, q10, q10'⟩ := (f5).cell
  obtain ⟨_, _, ⟨T10, L10, k10, n10⟩, -, X10, ⟨Lc10, hQ10, l10, y10, z10⟩, st10⟩ := X9.privateBack hx (y := (⟨"com/example/okno/okno/AdmissionLog", "pushOlder", "(JJ)V"⟩ : MethodName)) hown (mvT hZ (kw102 hw)) (mvT hZ (kw103 hw)) (mvT hZ (own_selP rfl (kw17 hw) (kw103 hw) (kw104 hw) (by decide))) (Cond.privateMethod_at (mvP hZ (kw104 hw) (args := #[]))) (mvT hZ (kw105 hw)) (by decide) (backOf (W := 0) (rmPush_22 l Z a0 hw [] a1 ns (tt - u_olderTotal) rs ra k1 k2 x0 x1 x2 x3 y0 y1 y2 y3 u_newest u_oldestSubWindow q1 g (own_fd q1 g) sw tt ns u_newestSubWindowEnd u_olderTotal T3.heap n0 Z3 f5 P1 f11 f12 P11 P12 P13 P14 P15 p3_0 p3_1 p3_2 p3_3 p3_4 p3_5 p3_6 p3_7 p3_8 p3_9 p3_10 p3_11 p3_12 p3_13) hZ (kw105 hw) (kw18 hw) (by decide) (by decide)) (g := (mkF m 73 #[.val (.ref a1), .val (.long q1), .second, .val (.long q2), .second, .val (.long (tt + q2)), .second, .val (.long (own_fd q1 g)), .second, .val (.long (tt - u_olderTotal)), .second] [(.long (tt - u_olderTotal)), (.long ns), (.ref a1)])) rfl (by rw [hml]; rfl) (Steps.refl _) (a := a1) (by rw [e9]; exact q10) q10' (argsL := [(.long ns), (.long (tt - u_olderTotal))]) (rest := []) (lenOf pd_8 rfl) rfl (by show 2 * 0 + _ ≤ _; exact Nat.le_of_eq rfl) (hb hby d12_73) (fun _ _ => ⟨rfl, e9, (by decide : 0 + 0 ≤ _), (by decide : 0 + 0 ≤ _)⟩)
  dsimp only [Pt.U, Pt.locs, Pt.cells, Pt.slots] at X10 l10 y10 z10 st10 hQ10
  subst l10 y10 z10
  obtain ⟨rfl, N10q, Kq10, p10_0, p10_1, p10_2, p10_3, p10_4, p10_5, p10_6, p10_7, p10_8, p10_9, p10_10, p10_11, p10_12, p10_13, p10_14, p10_15⟩ := hQ10
  have N10 := Fr.app N4 N10q
  have Z10 : n0 ≤ T10.heap.size := Nat.le_trans Z3 Kq10.1
  have K10 : Keep h0 T10.heap [a1, sw, rs, ra] := K3.trans Kq10 (allS (Or.inl (List.mem_of_getElem? (i := 0) rfl)) (allS (Or.inl (List.mem_of_getElem? (i := 2) rfl)) (allS (Or.inl (List.mem_of_getElem? (i := 3) rfl)) all0)))
  have f14 : Exa Z T10.heap a1 "com/example/okno/okno/AdmissionLog" := (f5.keep Kq10)
  obtain ⟨cq13, q13, q13'⟩ := (f14).cell
  obtain ⟨_, _, ⟨T13, L13, k13, n13⟩, -, X13, ⟨Lc13, hQ13, l13, y13, z13⟩, st13⟩ := X10.privateBack hx (y := (⟨"com/example/okno/okno/AdmissionLog", "startNewestEntry", "(JJ)V"⟩ : MethodName)) hown (mvT hZ (kw88 hw)) (mvT hZ (kw89 hw)) (mvT hZ (own_selP rfl (kw17 hw) (kw89 hw) (kw90 hw) (by decide))) (Cond.privateMethod_at (mvP hZ (kw90 hw) (args := #[]))) (mvT hZ (kw91 hw)) (by decide) (backOf (W := 0) (rmStart l Z a0 hw [] a1 (own_fd q1 g) q1 g u_newest rs ra u_oldestSubWindow q1 (own_fd q1 g) sw tt ns u_newestSubWindowEnd (u_olderTotal + (tt - u_olderTotal)) (2 : Int32) (0 : Int32) T10.heap n0 Z10 f14 P1 p10_2 p10_3 p10_4 p10_5 p10_6 p10_7 p10_8 p10_9 p10_10 p10_11 p10_12 p10_13 p10_14 p10_15) hZ (kw91 hw) (kw18 hw) (by decide) (by decide)) (g := (mkF m 80 #[.val (.ref a1), .val (.long q1), .second, .val (.long q2), .second, .val (.long (tt + q2)), .second, .val (.long (own_fd q1 g)), .second, .val (.long (tt - u_olderTotal)), .second] [(.long q1), (.long (own_fd q1 g)), (.ref a1)])) rfl (by rw [hml]; rfl) (Steps.refl _) (a := a1) q13 q13' (argsL := [(.long (own_fd q1 g)), (.long q1)]) (rest := []) (lenOf pd_8 rfl) rfl (by show 2 * 0 + _ ≤ _; exact Nat.le_of_eq rfl) (hb hby d12_80) (fun _ _ => ⟨rfl, rfl, (by decide : 0 + 0 ≤ _), (by decide : 0 + 0 ≤ _)⟩)
  dsimp only [Pt.U, Pt.locs, Pt.cells, Pt.slots] at X13 l13 y13 z13 st13 hQ13
  subst l13 y13 z13
  obtain ⟨rfl, N13q, Kq13, p13_0, p13_1, p13_2, p13_3, p13_4, p13_5, p13_6, p13_7, p13_8, p13_9, p13_10, p13_11, p13_12, p13_13⟩ := hQ13
  have N13 := Fr.app N10 N13q
  have Z13 : n0 ≤ T13.heap.size := Nat.le_trans Z10 Kq13.1
  have K13 : Keep h0 T13.heap [a1, sw, rs, ra] := K10.trans Kq13 (allS (Or.inl (List.mem_of_getElem? (i := 0) rfl)) all0)
  have f16 : Exa Z T13.heap a1 "com/example/okno/okno/AdmissionLog" := (f14.keep Kq13)
  have f17 : Arv Z T13.heap sw k3 .long (4 : Int32) [(.long r0), (.long (2 : Int64)), (.long r1), (.long (2 : Int64))] (.long (0 : Int64)) := (((P6.keep Kq3 (ninS P8 nin0)).keep Kq10 (ninS P8 (ninS P16 (ninS P17 nin0)))).keep Kq13 (ninS P8 nin0))
  obtain ⟨cq15, q15, q15'⟩ := (f16).cell
  obtain ⟨_, _, ⟨T15, L15, k15, n15⟩, -, X15, ⟨Lc15, hQ15, l15, y15, z15⟩, st15⟩ := X13.privateBack hx (y := (⟨"com/example/okno/okno/AdmissionLog", "countNewEntryInShorterWindows", "(J)V"⟩ : MethodName)) hown (mvT hZ (kw96 hw)) (mvT hZ (kw97 hw)) (mvT hZ (own_selP rfl (kw17 hw) (kw97 hw) (kw98 hw) (by decide))) (Cond.privateMethod_at (mvP hZ (kw98 hw) (args := #[]))) (mvT hZ (kw99 hw)) (by decide) (backOf (W := 0) (rmCount_24 l Z a0 hw [] a1 (tt - u_olderTotal) sw k3 r0 r1 T13.heap n0 Z13 f16 P7 P8 p13_7 f17) hZ (kw99 hw) (kw18 hw) (by decide) (by decide)) (g := (mkF m 86 #[.val (.ref a1), .val (.long q1), .second, .val (.long q2), .second, .val (.long (tt + q2)), .second, .val (.long (own_fd q1 g)), .second, .val (.long (tt - u_olderTotal)), .second] [(.long (tt - u_olderTotal)), (.ref a1)])) rfl (by rw [hml]; rfl) (Steps.refl _) (a := a1) q15 q15' (argsL := [(.long (tt - u_olderTotal))]) (rest := []) (lenOf pd_9 rfl) rfl (by show 2 * 0 + _ ≤ _; exact Nat.le_of_eq rfl) (hb hby d12_86) (fun _ _ => ⟨rfl, rfl, (by decide : 0 + 0 ≤ _), (by decide : 0 + 0 ≤ _)⟩)
  dsimp only [Pt.U, Pt.locs, Pt.cells, Pt.slots] at X15 l15 y15 z15 st15 hQ15
  subst l15 y15 z15
  obtain ⟨rfl, N15q, Kq15, p15_0⟩ := hQ15
  have N15 := Fr.app N13 N15q
  have Z15 : n0 ≤ T15.heap.size := Nat.le_trans Z13 Kq15.1
  have K15 : Keep h0 T15.heap [a1, sw, rs, ra] := K13.trans Kq15 (allS (Or.inl (List.mem_of_getElem? (i := 1) rfl)) all0)
  have f18 : Exa Z T15.heap a1 "com/example/okno/okno/AdmissionLog" := (f16.keep Kq15)
  have f19 : Fld Z T15.heap a1 "com/example/okno/okno/AdmissionLog" "total" "J" (.long tt) := (p13_8.keep Kq15 (ninS (Ne.symm P8) nin0))
  obtain ⟨T20, h20, X20, e20, W20, st20⟩ := putF X15 hx hZ hown (host := "") (Or.inl (kw68 hw)) Via.refl rfl f19 f18 (Or.inl (kw69 hw)) (kw17 hw) (ty := .long) (by decide) rfl rfl (g := (mkF m 92 #[.val (.ref a1), .val (.long q1), .second, .val (.long q2), .second, .val (.long (tt + q2)), .second, .val (.long (own_fd q1 g)), .second, .val (.long (tt - u_olderTotal)), .second] [(.long (tt + q2)), (.ref a1)])) rfl rfl (hb hby d12_92)
  have Z20 : n0 ≤ h20.size := Nat.le_trans Z15 (Keep.of_wr W20).1
  have K20 : Keep h0 h20 [a1, sw, rs, ra] := K15.wr W20 (Or.inl (List.mem_of_getElem? (i := 0) rfl))
  have N20 := Fr.snoc X20 N15 P1
  have Fw20 : Fld Z h20 a1 "com/example/okno/okno/AdmissionLog" "total" "J" (.long (tt + q2)) := f19.same W20
  have f21 : Exa Z h20 a1 "com/example/okno/okno/AdmissionLog" := (f18.wr W20)
  have f22 : Fld Z h20 a1 "com/example/okno/okno/AdmissionLog" "newest" "J" (.long u_newest) := ((p13_0.keep Kq15 (ninS (Ne.symm P8) nin0)).other W20 (Or.inr (slot_ne (Or.inl (kw32 hw)) (Or.inl (kw69 hw)) (by decide) (t := .long) (t' := .long) (by decide) (by decide))))
  obtain ⟨T23, h23, X23, e23, W23, st23⟩ := putF X20 hx hZ hown (host := "") (Or.inl (kw31 hw)) Via.refl e20 f22 f21 (Or.inl (kw32 hw)) (kw17 hw) (ty := .long) (by decide) rfl rfl (g := (mkF m 97 #[.val (.ref a1), .val (.long q1), .second, .val (.long q2), .second, .val (.long (tt + q2)), .second, .val (.long (own_fd q1 g)), .second, .val (.long (tt - u_olderTotal)), .second] [(.long q1), (.ref a1)])) rfl rfl (hb hby d12_97)
  have Z23 : n0 ≤ h23.size := Nat.le_trans Z20 (Keep.of_wr W23).1
  have K23 : Keep h0 h23 [a1, sw, rs, ra] := K20.wr W23 (Or.inl (List.mem_of_getElem? (i := 0) rfl))
  have N23 := Fr.snoc X23 N20 P1
  have Fw23 : Fld Z h23 a1 "com/example/okno/okno/AdmissionLog" "newest" "J" (.long q1) := f22.same W23
  have f24 : Arv Z h23 rs k1 .long (4 : Int32) [(.long x0), (.long ns), (.long x2), (.long x3)] (.long (0 : Int64)) := ((((p10_0.keep Kq13 (ninS P13 nin0)).keep Kq15 (ninS (Ne.symm P16) nin0)).other W20 P13).other W23 P13)
  have f25 : Arv Z h23 ra k2 .long (4 : Int32) [(.long y0), (.long (tt - u_olderTotal)), (.long y2), (.long y3)] (.long (0 : Int64)) := ((((p10_1.keep Kq13 (ninS P14 nin0)).keep Kq15 (ninS (Ne.symm P17) nin0)).other W20 P14).other W23 P14)
  have f26 : Fld Z h23 a1 "com/example/okno/okno/AdmissionLog" "subWindows" "[J" (.ref rs) := (((p13_1.keep Kq15 (ninS (Ne.symm P8) nin0)).other W20 (Or.inr (slot_ne (Or.inl (kw36 hw)) (Or.inl (kw69 hw)) (by decide) (t := (.array .long)) (t' := .long) (by decide) (by decide)))).other W23 (Or.inr (slot_ne (Or.inl (kw36 hw)) (Or.inl (kw32 hw)) (by decide) (t := (.array .long)) (t' := .long) (by decide) (by decide))))
  have f27 : Fld Z h23 a1 "com/example/okno/okno/AdmissionLog" "amounts" "[J" (.ref ra) := (((p13_2.keep Kq15 (ninS (Ne.symm P8) nin0)).other W20 (Or.inr (slot_ne (Or.inl (kw38 hw)) (Or.inl (kw69 hw)) (by decide) (t := (.array .long)) (t' := .long) (by decide) (by decide)))).other W23 (Or.inr (slot_ne (Or.inl (kw38 hw)) (Or.inl (kw32 hw)) (by decide) (t := (.array .long)) (t' := .long) (by decide) (by decide))))
  have f28 : Fld Z h23 a1 "com/example/okno/okno/AdmissionLog" "oldestSubWindow" "J" (.long u_oldestSubWindow) := (((p13_3.keep Kq15 (ninS (Ne.symm P8) nin0)).other W20 (Or.inr (slot_ne (Or.inl (kw41 hw)) (Or.inl (kw69 hw)) (by decide) (t := .long) (t' := .long) (by decide) (by decide)))).other W23 (Or.inr (slot_ne (Or.inl (kw41 hw)) (Or.inl (kw32 hw)) (by decide) (t := .long) (t' := .long) (by decide) (by decide))))
  have f29 : Fld Z h23 a1 "com/example/okno/okno/AdmissionLog" "lastTime" "J" (.long q1) := (((p13_4.keep Kq15 (ninS (Ne.symm P8) nin0)).other W20 (Or.inr (slot_ne (Or.inl (kw43 hw)) (Or.inl (kw69 hw)) (by decide) (t := .long) (t' := .long) (by decide) (by decide)))).other W23 (Or.inr (slot_ne (Or.inl (kw43 hw)) (Or.inl (kw32 hw)) (by decide) (t := .long) (t' := .long) (by decide) (by decide))))
  have f30 : Fld Z h23 a1 "com/example/okno/okno/AdmissionLog" "subWindowMillis" "J" (.long g) := (((p13_5.keep Kq15 (ninS (Ne.symm P8) nin0)).other W20 (Or.inr (slot_ne (Or.inr (kw45 hw)) (Or.inl (kw69 hw)) (by decide) (t := .long) (t' := .long) (by decide) (by decide)))).other W23 (Or.inr (slot_ne (Or.inr (kw45 hw)) (Or.inl (kw32 hw)) (by decide) (t := .long) (t' := .long) (by decide) (by decide))))
  have f31 : Fld Z h23 a1 "com/example/okno/okno/AdmissionLog" "lastSubWindow" "J" (.long (own_fd q1 g)) := (((p13_6.keep Kq15 (ninS (Ne.symm P8) nin0)).other W20 (Or.inr (slot_ne (Or.inl (kw50 hw)) (Or.inl (kw69 hw)) (by decide) (t := .long) (t' := .long) (by decide) (by decide)))).other W23 (Or.inr (slot_ne (Or.inl (kw50 hw)) (Or.inl (kw32 hw)) (by decide) (t := .long) (t' := .long) (by decide) (by decide))))
  have f32 : Fld Z h23 a1 "com/example/okno/okno/AdmissionLog" "shorterWindows" "[J" (.ref sw) := (((p13_7.keep Kq15 (ninS (Ne.symm P8) nin0)).other W20 (Or.inr (slot_ne (Or.inr (kw53 hw)) (Or.inl (kw69 hw)) (by decide) (t := (.array .long)) (t' := .long) (by decide) (by decide)))).other W23 (Or.inr (slot_ne (Or.inr (kw53 hw)) (Or.inl (kw32 hw)) (by decide) (t := (.array .long)) (t' := .long) (by decide) (by decide))))
  have f33 : Fld Z h23 a1 "com/example/okno/okno/AdmissionLog" "total" "J" (.long (tt + q2)) := (Fw20.other W23 (Or.inr (slot_ne (Or.inl (kw69 hw)) (Or.inl (kw32 hw)) (by decide) (t := .long) (t' := .long) (by decide) (by decide))))
  have f34 : Fld Z h23 a1 "com/example/okno/okno/AdmissionLog" "newestSubWindow" "J" (.long (own_fd q1 g)) := (((p13_9.keep Kq15 (ninS (Ne.symm P8) nin0)).other W20 (Or.inr (slot_ne (Or.inl (kw93 hw)) (Or.inl (kw69 hw)) (by decide) (t := .long) (t' := .long) (by decide) (by decide)))).other W23 (Or.inr (slot_ne (Or.inl (kw93 hw)) (Or.inl (kw32 hw)) (by decide) (t := .long) (t' := .long) (by decide) (by decide))))
  have f35 : Fld Z h23 a1 "com/example/okno/okno/AdmissionLog" "newestSubWindowEnd" "J" (.long (own_end (own_fd q1 g) q1 g)) := (((p13_10.keep Kq15 (ninS (Ne.symm P8) nin0)).other W20 (Or.inr (slot_ne (Or.inl (kw95 hw)) (Or.inl (kw69 hw)) (by decide) (t := .long) (t' := .long) (by decide) (by decide)))).other W23 (Or.inr (slot_ne (Or.inl (kw95 hw)) (Or.inl (kw32 hw)) (by decide) (t := .long) (t' := .long) (by decide) (by decide))))
  have f36 : Fld Z h23 a1 "com/example/okno/okno/AdmissionLog" "olderTotal" "J" (.long (u_olderTotal + (tt - u_olderTotal))) := (((p13_11.keep Kq15 (ninS (Ne.symm P8) nin0)).other W20 (Or.inr (slot_ne (Or.inl (kw101 hw)) (Or.inl (kw69 hw)) (by decide) (t := .long) (t' := .long) (by decide) (by decide)))).other W23 (Or.inr (slot_ne (Or.inl (kw101 hw)) (Or.inl (kw32 hw)) (by decide) (t := .long) (t' := .long) (by decide) (by decide))))
  have f37 : Fld Z h23 a1 "com/example/okno/okno/AdmissionLog" "size" "I" (.int (2 : Int32)) := (((p13_12.keep Kq15 (ninS (Ne.symm P8) nin0)).other W20 (Or.inr (slot_ne (Or.inl (kw107 hw)) (Or.inl (kw69 hw)) (by decide) (t := .int) (t' := .long) (by decide) (by decide)))).other W23 (Or.inr (slot_ne (Or.inl (kw107 hw)) (Or.inl (kw32 hw)) (by decide) (t := .int) (t' := .long) (by decide) (by decide))))
  have f38 : Fld Z h23 a1 "com/example/okno/okno/AdmissionLog" "head" "I" (.int (0 : Int32)) := (((p13_13.keep Kq15 (ninS (Ne.symm P8) nin0)).other W20 (Or.inr (slot_ne (Or.inl (kw116 hw)) (Or.inl (kw69 hw)) (by decide) (t := .int) (t' := .long) (by decide) (by decide)))).other W23 (Or.inr (slot_ne (Or.inl (kw116 hw)) (Or.inl (kw32 hw)) (by decide) (t := .int) (t' := .long) (by decide) (by decide))))
  have f39 : Arv Z h23 sw k3 .long (4 : Int32) [(.long (r0 + (tt - u_olderTotal))), (.long (3 : Int64)), (.long (r1 + (tt - u_olderTotal))), (.long (3 : Int64))] (.long (0 : Int64)) := ((p15_0.other W20 P8).other W23 P8)
  obtain ⟨fs, hr, hrun, hended, hW, hsame⟩ := X23.leave (v := none) (fun _ => rfl)
  refine ⟨_, _, pre0 _ ?_, hrun, hended, _, _, rfl, ?_, ⟨_, rfl⟩, hW, hsame.mono (by decide) (by decide)⟩
  · skip
    refine XS.aloadN X0.here hx rfl (hb hby d12_0) rfl rfl ?_
    refine st1 _ ?_
    refine XS.lloadN X1.here hx rfl (hb hby d12_4) rfl ?_
    refine st2 _ ?_
    refine XS.lstore X2.here hx rfl (hb hby d12_8) rfl (l' := #[.val (.ref a1), .val (.long q1), .second, .val (.long q2), .second, .val (.long (tt + q2)), .second, .unset, .unset, .unset, .unset]) rfl ?_
    refine XS.aloadN X2.here hx rfl (hb hby d12_10) rfl rfl ?_
    refine XS.lloadN X2.here hx rfl (hb hby d12_11) rfl ?_
    refine st3.trans ?_
    refine XS.lstore X3.here hx rfl (hb hby d12_15) rfl (l' := #[.val (.ref a1), .val (.long q1), .second, .val (.long q2), .second, .val (.long (tt + q2)), .second, .val (.long (own_fd q1 g)), .second, .unset, .unset]) rfl ?_
    refine XS.aloadN X3.here hx rfl (hb hby d12_17) rfl rfl ?_
    refine st4.trans ?_
    refine XS.ifYes X4.here hx rfl (pc0 := 21) (pc' := 45) rfl (hb hby d12_21) rfl ((if0 _ _).trans (teq rfl).1) (by decide) (by decide) ?_
    refine XS.lload X4.here hx rfl (hb hby d12_45) rfl ?_
    refine XS.aloadN X4.here hx rfl (hb hby d12_47) rfl rfl ?_
    refine st6 _ ?_
    refine XS.lcmp X6.here hx rfl (hb hby d12_51) rfl ?_
    refine XS.ifNo X6.here hx rfl (hb hby d12_52) rfl ((if0 _ _).trans (feq (fun q => hne ((lw_eq _ _).mp q))).1) ?_
    refine XS.aloadN X6.here hx rfl (hb hby d12_55) rfl rfl ?_
    refine st7 _ ?_
    refine XS.aloadN X7.here hx rfl (hb hby d12_59) rfl rfl ?_
    refine st8 _ ?_
    refine XS.lsub X8.here hx rfl (hb hby d12_63) rfl ?_
    refine XS.lstore X8.here hx rfl (hb hby d12_64) rfl (l' := #[.val (.ref a1), .val (.long q1), .second, .val (.long q2), .second, .val (.long (tt + q2)), .second, .val (.long (own_fd q1 g)), .second, .val (.long (tt - u_olderTotal)), .second]) rfl ?_
    refine XS.aloadN X8.here hx rfl (hb hby d12_66) rfl rfl ?_
    refine XS.aloadN X8.here hx rfl (hb hby d12_67) rfl rfl ?_
    show Steps p.tables e below (T8.setTop (mkF m 68 #[.val (.ref a1), .val (.long q1), .second, .val (.long q2), .second, .val (.long (tt + q2)), .second, .val (.long (own_fd q1 g)), .second, .val (.long (tt - u_olderTotal)), .second] [(.ref a1), (.ref a1)])) _
    refine st9 _ ?_
    refine XS.lload X9.here hx rfl (hb hby d12_71) rfl ?_
    refine st10.trans ?_
    refine XS.aloadN X10.here hx rfl (hb hby d12_76) rfl rfl ?_
    refine XS.lload X10.here hx rfl (hb hby d12_77) rfl ?_
    refine XS.lloadN X10.here hx rfl (hb hby d12_79) rfl ?_
    refine st13.trans ?_
    refine XS.aloadN X13.here hx rfl (hb hby d12_83) rfl rfl ?_
    refine XS.lload X13.here hx rfl (hb hby d12_84) rfl ?_
    refine st15.trans ?_
    refine XS.aloadN X15.here hx rfl (hb hby d12_89) rfl rfl ?_
    refine XS.lload X15.here hx rfl (hb hby d12_90) rfl ?_
    refine st20 _ ?_
    refine XS.aloadN X20.here hx rfl (hb hby d12_95) rfl rfl ?_
    refine XS.lloadN X20.here hx rfl (hb hby d12_96) rfl ?_
    refine st23 _ ?_
    show Steps p.tables e below (T23.setTop (mkF m 100 #[.val (.ref a1), .val (.long q1), .second, .val (.long q2), .second, .val (.long (tt + q2)), .second, .val (.long (own_fd q1 g)), .second, .val (.long (tt - u_olderTotal)), .second] [])) _
    exact X23.returnOut hx Bd.returns (hb hby d12_100) hr
  · show Q_rmAppC_21 Z a1 q1 q2 g lt tt ns sw k3 r0 r1 rs ra k1 k2 x0 x1 x2 x3 y0 y1 y2 y3 u_newest u_oldestSubWindow u_newestSubWindowEnd u_olderTotal h0 n0 _ T23.heap _
    rw [e23]
    exact ⟨rfl, N23, K23, f24, f25, Fw23, f26, f27, f28, f29, f30, f31, f32, f33, f34, f35, f36, f37, f38, f39⟩
theorem ef_rmEnt_26 (m : MethodId) (x0 : Addr) : entryFrame m #[(.ref x0)] 1 = mkF m 0 #[.val (.ref x0)] [] := by first | (simp [entryFrame, mkF, argsToLocals, Value.category]; done) | rfl
def Q_rmEnt_26 (Z : State) (a1 : Addr) (tt : Int64) (h0 : Heap) (n0 : Nat) (v : Option Value) (h : Heap) (L : List Loc) : Prop := v = some (.int (3 : Int32)) ∧ Fr n0 L ∧ h = h0
set_option maxRecDepth 65536 in
set_option maxHeartbeats 40000000 in
theorem rmEnt_26 (l : Launch) (Z : State) (a0 : Array Value) (hw : ∀ d ∈ tables_1, d.before a0 Z = true) (ws : List Jvm.Cond) (a1 : Addr) (tt : Int64) (h0 : Heap) (n0 : Nat) (Z0 : n0 ≤ h0.size) (P0 : Exa Z h0 a1 "com/example/okno/okno/AdmissionLog") (P1 : Fld Z h0 a1 "com/example/okno/okno/AdmissionLog" "total" "J" (.long tt)) (htt : tt ≠ (0 : Int64)) (P3 : Fld Z h0 a1 "com/example/okno/okno/AdmissionLog" "size" "I" (.int (2 : Int32))) :
    MetFree l (⟨"com/example/okno/okno/AdmissionLog", "entryCount", "()I"⟩ : MethodName) (head1 (Jvm.Cond.code (⟨"com/example/okno/okno/AdmissionLog", "entryCount", "()I"⟩ : MethodName) prog_2_method_20_code 1 (some .int) :: ws) ({ frames := 1, cells := 0, slots := 0, locals := 12 } : Room)) (fun a U => a = #[(.ref a1)] ∧ Z.Warmed39 U.vm ∧ U.heap = h0) (fun _ _ _ _ _ => True) (fun _ U o U' => ∃ v L, o = .returned v ∧ Q_rmEnt_26 Z a1 tt h0 n0 v U'.heap L ∧ FrameEnd U o U' L ({ frames := 1, cells := 0, slots := 0, locals := 12 } : Room).cells ({ frames := 1, cells := 0, slots := 0, locals := 12 } : Room).slots) := by
  refine MetFree.of_bodySF (plainFor_of_name pn_2) hisR ?_
  intro p e s m args below meth c s₁ Bd hml0 hP hK
  obtain ⟨rfl, hZ, hh⟩ := hP
  have hx := Bd.exec
  have hby := Bd.bytes
  have hml : c.maxLocals = 1 := hml0
  have hown : s.vm.findClass "com/example/okno/okno/AdmissionLog" = some m.cls := findClass_of_methodNamed Bd.named
  have hnm := (name_of_methodNamed Bd.named Bd.method).1
  have X0 : Stand p l e ({ frames := 1, cells := 0, slots := 0, locals := 12 } : Room) s m #[(.ref a1)] below meth c s₁ [] 0 0 := Stand.of_body Bd
  have e0 : s₁.heap = h0 := by rw [← hh, Bd.state]; rfl
  have N0 := Fr.nil n0
  have KR : Keep h0 h0 [] := Keep.refl h0 _
  have pre0 : ∀ t, Steps p.tables e below (s₁.setTop (mkF m 0 #[.val (.ref a1)] [])) t → Steps p.tables e below (s₁.setTop (entryFrame m #[(.ref a1)] 1)) t := fun t k => castTop (ef_rmEnt_26 m (a1)) k
  obtain ⟨cq1, kq1, q1a, q1b, q1c⟩ := isOf hZ e0 P0
  obtain ⟨_, _, ⟨T1, L1, k1, n1⟩, -, X1, ⟨Lc1, hQ1, l1, y1, z1⟩, st1⟩ := X0.virtualBack hx (y := (⟨"com/example/okno/okno/AdmissionLog", "isEmpty", "()Z"⟩ : MethodName)) (z := (⟨"com/example/okno/okno/AdmissionLog", "isEmpty", "()Z"⟩ : MethodName)) hown (mvT hZ (kw63 hw)) (mvT hZ (kw64 hw)) (notFace_of_selects (args := #[]) (mvT hZ (kw66 hw))) (mvT hZ (kw66 hw)) (mvT hZ (kw65 hw)) (by decide) (backOf (W := 0) (rmEmp1 l Z a0 hw [] a1 tt h0 n0 Z0 P1 htt) hZ (kw67 hw) (kw18 hw) (by decide) (by decide)) q1a q1c (g := (mkF m 1 #[.val (.ref a1)] [(.ref a1)])) rfl (by rw [hml]; rfl) (Steps.refl _) (argsL := []) (rest := []) (lenOf pd_4 rfl) rfl (by show 2 * 0 + _ ≤ _; exact Nat.le_of_eq rfl) (hb hby d9_1) (fun _ _ => ⟨rfl, e0, (by decide : 0 + 0 ≤ _), (by decide : 0 + 0 ≤ _)⟩)
  dsimp only [Pt.U, Pt.locs, Pt.cells, Pt.slots] at X1 l1 y1 z1 st1 hQ1
  subst l1 y1 z1
  obtain ⟨rfl, N1q, e1⟩ := hQ1
  have N1 := Fr.app N0 N1q
  obtain ⟨T2, X2, e2, st2⟩ := getF X1 hx hZ hown (host := "") (Or.inl (kw106 hw)) Via.refl e1 P3 (g := (mkF m 12 #[.val (.ref a1)] [(.ref a1)])) rfl rfl (hb hby d9_12)
  obtain ⟨fs, hr, hrun, hended, hW, hsame⟩ := X2.leave (v := some (.int (3 : Int32))) (fun h => by rw [Bd.returns] at h; cases h)
  refine ⟨_, _, pre0 _ ?_, hrun, hended, _, _, rfl, ?_, ⟨_, rfl⟩, hW, hsame.mono (by decide) (by decide)⟩
  · skip
    refine XS.aloadN X0.here hx rfl (hb hby d9_0) rfl rfl ?_
    refine st1.trans ?_
    refine XS.ifYes X1.here hx rfl (pc0 := 4) (pc' := 11) rfl (hb hby d9_4) rfl ((if0 _ _).trans (teq rfl).1) (by decide) (by decide) ?_
    refine XS.aloadN X1.here hx rfl (hb hby d9_11) rfl rfl ?_
    refine st2 _ ?_
    refine XS.iconst X2.here hx rfl (hb hby d9_15) ?_
    refine XS.iadd X2.here hx rfl (hb hby d9_16) rfl ?_
    show Steps p.tables e below (T2.setTop (mkF m 17 #[.val (.ref a1)] [(.int (3 : Int32))])) _
    exact retI X2 hx Bd.returns (hb hby d9_17) hr
  · show Q_rmEnt_26 Z a1 tt h0 n0 _ T2.heap _
    rw [e2]
    exact ⟨rfl, N1, rfl⟩
theorem ef_rmAt_27 (m : MethodId) (x0 : Addr) (x1 : Int32) : entryFrame m #[(.ref x0), (.int x1)] 2 = mkF m 0 #[.val (.ref x0), .val (.int x1)] [] := by first | (simp [entryFrame, mkF, argsToLocals, Value.category]; done) | rfl
def Q_rmAt_27 (Z : State) (a1 : Addr) (rs : Addr) (k1 : ClassId) (x0 : Int64) (x1 : Int64) (x2 : Int64) (x3 : Int64) (h0 : Heap) (n0 : Nat) (v : Option Value) (h : Heap) (L : List Loc) : Prop := v = some (.long x0) ∧ Fr n0 L ∧ h = h0
set_option maxRecDepth 65536 in
set_option maxHeartbeats 40000000 in
theorem rmAt_27 (l : Launch) (Z : State) (a0 : Array Value) (hw : ∀ d ∈ tables_1, d.before a0 Z = true) (ws : List Jvm.Cond) (a1 : Addr) (rs : Addr) (k1 : ClassId) (x0 : Int64) (x1 : Int64) (x2 : Int64) (x3 : Int64) (h0 : Heap) (n0 : Nat) (Z0 : n0 ≤ h0.size) (P0 : Exa Z h0 a1 "com/example/okno/okno/AdmissionLog") (P1 : Fld Z h0 a1 "com/example/okno/okno/AdmissionLog" "size" "I" (.int (2 : Int32))) (P2 : Fld Z h0 a1 "com/example/okno/okno/AdmissionLog" "head" "I" (.int (0 : Int32))) (P3 : Fld Z h0 a1 "com/example/okno/okno/AdmissionLog" "subWindows" "[J" (.ref rs)) (P4 : Arv Z h0 rs k1 .long (4 : Int32) [(.long x0), (.long x1), (.long x2), (.long x3)] (.long (0 : Int64))) :
    MetFree l (⟨"com/example/okno/okno/AdmissionLog", "subWindowAt", "(I)J"⟩ : MethodName) (head1 (Jvm.Cond.code (⟨"com/example/okno/okno/AdmissionLog", "subWindowAt", "(I)J"⟩ : MethodName) prog_2_method_21_code 2 (some .long) :: ws) ({ frames := 1, cells := 0, slots := 0, locals := 14 } : Room)) (fun a U => a = #[(.ref a1), (.int (0 : Int32))] ∧ Z.Warmed39 U.vm ∧ U.heap = h0) (fun _ _ _ _ _ => True) (fun _ U o U' => ∃ v L, o = .returned v ∧ Q_rmAt_27 Z a1 rs k1 x0 x1 x2 x3 h0 n0 v U'.heap L ∧ FrameEnd U o U' L ({ frames := 1, cells := 0, slots := 0, locals := 14 } : Room).cells ({ frames := 1, cells := 0, slots := 0, locals := 14 } : Room).slots) := by
  refine MetFree.of_bodySF (plainFor_of_name pn_2) hisR ?_
  intro p e s m args below meth c s₁ Bd hml0 hP hK
  obtain ⟨rfl, hZ, hh⟩ := hP
  have hx := Bd.exec
  have hby := Bd.bytes
  have hml : c.maxLocals = 2 := hml0
  have hown : s.vm.findClass "com/example/okno/okno/AdmissionLog" = some m.cls := findClass_of_methodNamed Bd.named
  have hnm := (name_of_methodNamed Bd.named Bd.method).1
  have X0 : Stand p l e ({ frames := 1, cells := 0, slots := 0, locals := 14 } : Room) s m #[(.ref a1), (.int (0 : Int32))] below meth c s₁ [] 0 0 := Stand.of_body Bd
  have e0 : s₁.heap = h0 := by rw [← hh, Bd.state]; rfl
  have N0 := Fr.nil n0
  have KR : Keep h0 h0 [] := Keep.refl h0 _
  have pre0 : ∀ t, Steps p.tables e below (s₁.setTop (mkF m 0 #[.val (.ref a1), .val (.int (0 : Int32))] [])) t → Steps p.tables e below (s₁.setTop (entryFrame m #[(.ref a1), (.int (0 : Int32))] 2)) t := fun t k => castTop (ef_rmAt_27 m (a1) ((0 : Int32))) k
  obtain ⟨T1, X1, e1, st1⟩ := getF X0 hx hZ hown (host := "") (Or.inl (kw106 hw)) Via.refl e0 P1 (g := (mkF m 2 #[.val (.ref a1), .val (.int (0 : Int32))] [(.ref a1), (.int (0 : Int32))])) rfl rfl (hb hby d21_2)
  obtain ⟨T2, X2, e2, st2⟩ := getF X1 hx hZ hown (host := "") (Or.inl (kw35 hw)) Via.refl e1 P3 (g := (mkF m 9 #[.val (.ref a1), .val (.int (0 : Int32))] [(.ref a1)])) rfl rfl (hb hby d21_9)
  obtain ⟨cq3, q3, q3'⟩ := (P0).cell
  obtain ⟨_, _, ⟨T3, L3, k3, n3⟩, -, X3, ⟨Lc3, hQ3, l3, y3, z3⟩, st3⟩ := X2.privateBack hx (y := (⟨"com/example/okno/okno/AdmissionLog", "index", "(I)I"⟩ : MethodName)) hown (mvT hZ (kw117 hw)) (mvT hZ (kw118 hw)) (mvT hZ (own_selP rfl (kw17 hw) (kw118 hw) (kw119 hw) (by decide))) (Cond.privateMethod_at (mvP hZ (kw119 hw) (args := #[]))) (mvT hZ (kw120 hw)) (by decide) (backOf (W := 1) (rmIdx_13 l Z a0 hw [] a1 rs k1 ([(.long x0), (.long x1), (.long x2), (.long x3)]) h0 n0 Z0 P0 P2 P3 P4) hZ (kw120 hw) (kw18 hw) (by decide) (by decide)) (g := (mkF m 14 #[.val (.ref a1), .val (.int (0 : Int32))] [(.int (0 : Int32)), (.ref a1), (.ref rs)])) rfl (by rw [hml]; rfl) (Steps.refl _) (a := a1) (by rw [e2]; exact q3) q3' (argsL := [(.int (0 : Int32))]) (rest := [(.ref rs)]) (lenOf pd_11 rfl) rfl (by show 2 * 0 + _ ≤ _; exact Nat.le_of_eq rfl) (hb hby d21_14) (fun _ _ => ⟨rfl, e2, (by decide : 0 + 0 ≤ _), (by decide : 0 + 0 ≤ _)⟩)
  dsimp only [Pt.U, Pt.locs, Pt.cells, Pt.slots] at X3 l3 y3 z3 st3 hQ3
  subst l3 y3 z3
  obtain ⟨rfl, N3q, e3⟩ := hQ3
  have N3 := Fr.app N0 N3q
  obtain ⟨cl4, Ar4, q4, S4, N4', H4, G4⟩ := id P4
  have hin4 : ¬ ((0 : Int32) < 0 ∨ cl4.slots.size ≤ ((0 : Int32)).toNatClampNeg) := inb_of S4 ⟨by decide, by decide⟩
  have hat4 : cl4.slots[((0 : Int32)).toNatClampNeg]? = some (.long x0) := H4.at hin4 rfl
  obtain ⟨fs, hr, hrun, hended, hW, hsame⟩ := X3.leave (v := some (.long x0)) (fun h => by rw [Bd.returns] at h; cases h)
  refine ⟨_, _, pre0 _ ?_, hrun, hended, _, _, rfl, ?_, ⟨_, rfl⟩, hW, hsame.mono (by decide) (by decide)⟩
  · skip
    refine XS.iloadN X0.here hx rfl (hb hby d21_0) rfl ?_
    refine XS.aloadN X0.here hx rfl (hb hby d21_1) rfl rfl ?_
    refine st1 _ ?_
    refine XS.icmpNo X1.here hx rfl (hb hby d21_5) rfl (tlt (by decide : (0 : Int32) < (2 : Int32))).2.1 ?_
    refine XS.aloadN X1.here hx rfl (hb hby d21_8) rfl rfl ?_
    refine st2 _ ?_
    refine XS.aloadN X2.here hx rfl (hb hby d21_12) rfl rfl ?_
    refine XS.iloadN X2.here hx rfl (hb hby d21_13) rfl ?_
    refine st3.trans ?_
    refine X3.laload hx (j := (0 : Int32)) (v := (.long x0)) (by rw [e3]; exact Ar4.1) (State.isArrayOf_alike hZ.alike Ar4.2.1) Ar4.2.2 hin4 hat4 (g := (mkF m 17 #[.val (.ref a1), .val (.int (0 : Int32))] [(.int (0 : Int32)), (.ref rs)])) rfl rfl (hb hby d21_17) _ ?_
    refine XS.goto X3.here hx rfl (pc0 := 18) (pc' := 25) rfl (hb hby d21_18) (by decide) (by decide) ?_
    show Steps p.tables e below (T3.setTop (mkF m 25 #[.val (.ref a1), .val (.int (0 : Int32))] [(.long x0)])) _
    jvm_step X3.here [X3.here.top, hx, (hb hby d21_25), X3.method', Bd.returns, narrow]
    first | (intro acts; rw [hr _ acts rfl rfl rfl]) | rw [hr _ _ rfl rfl rfl]
    exact Steps.refl _
  · show Q_rmAt_27 Z a1 rs k1 x0 x1 x2 x3 h0 n0 _ T3.heap _
    rw [e3]
    exact ⟨rfl, N3, rfl⟩
theorem ef_rmAt_28 (m : MethodId) (x0 : Addr) (x1 : Int32) : entryFrame m #[(.ref x0), (.int x1)] 2 = mkF m 0 #[.val (.ref x0), .val (.int x1)] [] := by first | (simp [entryFrame, mkF, argsToLocals, Value.category]; done) | rfl
def Q_rmAt_28 (Z : State) (a1 : Addr) (rs : Addr) (k1 : ClassId) (vs1 : List Value) (ra : Addr) (k2 : ClassId) (x0 : Int64) (x1 : Int64) (x2 : Int64) (x3 : Int64) (h0 : Heap) (n0 : Nat) (v : Option Value) (h : Heap) (L : List Loc) : Prop := v = some (.long x0) ∧ Fr n0 L ∧ h = h0
set_option maxRecDepth 65536 in
set_option maxHeartbeats 40000000 in
theorem rmAt_28 (l : Launch) (Z : State) (a0 : Array Value) (hw : ∀ d ∈ tables_1, d.before a0 Z = true) (ws : List Jvm.Cond) (a1 : Addr) (rs : Addr) (k1 : ClassId) (vs1 : List Value) (ra : Addr) (k2 : ClassId) (x0 : Int64) (x1 : Int64) (x2 : Int64) (x3 : Int64) (h0 : Heap) (n0 : Nat) (Z0 : n0 ≤ h0.size) (P0 : Exa Z h0 a1 "com/example/okno/okno/AdmissionLog") (P1 : Fld Z h0 a1 "com/example/okno/okno/AdmissionLog" "size" "I" (.int (2 : Int32))) (P2 : Fld Z h0 a1 "com/example/okno/okno/AdmissionLog" "head" "I" (.int (0 : Int32))) (P3 : Fld Z h0 a1 "com/example/okno/okno/AdmissionLog" "subWindows" "[J" (.ref rs)) (P4 : Arv Z h0 rs k1 .long (4 : Int32) vs1 (.long (0 : Int64))) (P5 : Fld Z h0 a1 "com/example/okno/okno/AdmissionLog" "amounts" "[J" (.ref ra)) (P6 : Arv Z h0 ra k2 .long (4 : Int32) [(.long x0), (.long x1), (.long x2), (.long x3)] (.long (0 : Int64))) :
    MetFree l (⟨"com/example/okno/okno/AdmissionLog", "ringAmountAt", "(I)J"⟩ : MethodName) (head1 (Jvm.Cond.code (⟨"com/example/okno/okno/AdmissionLog", "ringAmountAt", "(I)J"⟩ : MethodName) prog_2_method_22_code 2 (some .long) :: ws) ({ frames := 1, cells := 0, slots := 0, locals := 14 } : Room)) (fun a U => a = #[(.ref a1), (.int (0 : Int32))] ∧ Z.Warmed39 U.vm ∧ U.heap = h0) (fun _ _ _ _ _ => True) (fun _ U o U' => ∃ v L, o = .returned v ∧ Q_rmAt_28 Z a1 rs k1 vs1 ra k2 x0 x1 x2 x3 h0 n0 v U'.heap L ∧ FrameEnd U o U' L ({ frames := 1, cells := 0, slots := 0, locals := 14 } : Room).cells ({ frames := 1, cells := 0, slots := 0, locals := 14 } : Room).slots) := by
  refine MetFree.of_bodySF (plainFor_of_name pn_2) hisR ?_
  intro p e s m args below meth c s₁ Bd hml0 hP hK
  obtain ⟨rfl, hZ, hh⟩ := hP
  have hx := Bd.exec
  have hby := Bd.bytes
  have hml : c.maxLocals = 2 := hml0
  have hown : s.vm.findClass "com/example/okno/okno/AdmissionLog" = some m.cls := findClass_of_methodNamed Bd.named
  have hnm := (name_of_methodNamed Bd.named Bd.method).1
  have X0 : Stand p l e ({ frames := 1, cells := 0, slots := 0, locals := 14 } : Room) s m #[(.ref a1), (.int (0 : Int32))] below meth c s₁ [] 0 0 := Stand.of_body Bd
  have e0 : s₁.heap = h0 := by rw [← hh, Bd.state]; rfl
  have N0 := Fr.nil n0
  have KR : Keep h0 h0 [] := Keep.refl h0 _
  have pre0 : ∀ t, Steps p.tables e below (s₁.setTop (mkF m 0 #[.val (.ref a1), .val (.int (0 : Int32))] [])) t → Steps p.tables e below (s₁.setTop (entryFrame m #[(.ref a1), (.int (0 : Int32))] 2)) t := fun t k => castTop (ef_rmAt_28 m (a1) ((0 : Int32))) k
  obtain ⟨T1, X1, e1, st1⟩ := getF X0 hx hZ hown (host := "") (Or.inl (kw106 hw)) Via.refl e0 P1 (g := (mkF m 2 #[.val (.ref a1), .val (.int (0 : Int32))] [(.ref a1), (.int (0 : Int32))])) rfl rfl (hb hby d22_2)
  obtain ⟨T2, X2, e2, st2⟩ := getF X1 hx hZ hown (host := "") (Or.inl (kw37 hw)) Via.refl e1 P5 (g := (mkF m 9 #[.val (.ref a1), .val (.int (0 : Int32))] [(.ref a1)])) rfl rfl (hb hby d22_9)
  obtain ⟨cq3, q3, q3'⟩ := (P0).cell
  obtain ⟨_, _, ⟨T3, L3, k3, n3⟩, -, X3, ⟨Lc3, hQ3, l3, y3, z3⟩, st3⟩ := X2.privateBack hx (y := (⟨"com/example/okno/okno/AdmissionLog", "index", "(I)I"⟩ : MethodName)) hown (mvT hZ (kw117 hw)) (mvT hZ (kw118 hw)) (mvT hZ (own_selP rfl (kw17 hw) (kw118 hw) (kw119 hw) (by decide))) (Cond.privateMethod_at (mvP hZ (kw119 hw) (args := #[]))) (mvT hZ (kw120 hw)) (by decide) (backOf (W := 1) (rmIdx_13 l Z a0 hw [] a1 rs k1 vs1 h0 n0 Z0 P0 P2 P3 P4) hZ (kw120 hw) (kw18 hw) (by decide) (by decide)) (g := (mkF m 14 #[.val (.ref a1), .val (.int (0 : Int32))] [(.int (0 : Int32)), (.ref a1), (.ref ra)])) rfl (by rw [hml]; rfl) (Steps.refl _) (a := a1) (by rw [e2]; exact q3) q3' (argsL := [(.int (0 : Int32))]) (rest := [(.ref ra)]) (lenOf pd_11 rfl) rfl (by show 2 * 0 + _ ≤ _; exact Nat.le_of_eq rfl) (hb hby d22_14) (fun _ _ => ⟨rfl, e2, (by decide : 0 + 0 ≤ _), (by decide : 0 + 0 ≤ _)⟩)
  dsimp only [Pt.U, Pt.locs, Pt.cells, Pt.slots] at X3 l3 y3 z3 st3 hQ3
  subst l3 y3 z3
  obtain ⟨rfl, N3q, e3⟩ := hQ3
  have N3 := Fr.app N0 N3q
  obtain ⟨cl4, Ar4, q4, S4, N4', H4, G4⟩ := id P6
  have hin4 : ¬ ((0 : Int32) < 0 ∨ cl4.slots.size ≤ ((0 : Int32)).toNatClampNeg) := inb_of S4 ⟨by decide, by decide⟩
  have hat4 : cl4.slots[((0 : Int32)).toNatClampNeg]? = some (.long x0) := H4.at hin4 rfl
  obtain ⟨fs, hr, hrun, hended, hW, hsame⟩ := X3.leave (v := some (.long x0)) (fun h => by rw [Bd.returns] at h; cases h)
  refine ⟨_, _, pre0 _ ?_, hrun, hended, _, _, rfl, ?_, ⟨_, rfl⟩, hW, hsame.mono (by decide) (by decide)⟩
  · skip
    refine XS.iloadN X0.here hx rfl (hb hby d22_0) rfl ?_
    refine XS.aloadN X0.here hx rfl (hb hby d22_1) rfl rfl ?_
    refine st1 _ ?_
    refine XS.icmpNo X1.here hx rfl (hb hby d22_5) rfl (tlt (by decide : (0 : Int32) < (2 : Int32))).2.1 ?_
    refine XS.aloadN X1.here hx rfl (hb hby d22_8) rfl rfl ?_
    refine st2 _ ?_
    refine XS.aloadN X2.here hx rfl (hb hby d22_12) rfl rfl ?_
    refine XS.iloadN X2.here hx rfl (hb hby d22_13) rfl ?_
    refine st3.trans ?_
    refine X3.laload hx (j := (0 : Int32)) (v := (.long x0)) (by rw [e3]; exact Ar4.1) (State.isArrayOf_alike hZ.alike Ar4.2.1) Ar4.2.2 hin4 hat4 (g := (mkF m 17 #[.val (.ref a1), .val (.int (0 : Int32))] [(.int (0 : Int32)), (.ref ra)])) rfl rfl (hb hby d22_17) _ ?_
    refine XS.goto X3.here hx rfl (pc0 := 18) (pc' := 22) rfl (hb hby d22_18) (by decide) (by decide) ?_
    show Steps p.tables e below (T3.setTop (mkF m 22 #[.val (.ref a1), .val (.int (0 : Int32))] [(.long x0)])) _
    jvm_step X3.here [X3.here.top, hx, (hb hby d22_22), X3.method', Bd.returns, narrow]
    first | (intro acts; rw [hr _ acts rfl rfl rfl]) | rw [hr _ _ rfl rfl rfl]
    exact Steps.refl _
  · show Q_rmAt_28 Z a1 rs k1 vs1 ra k2 x0 x1 x2 x3 h0 n0 _ T3.heap _
    rw [e3]
    exact ⟨rfl, N3, rfl⟩
theorem ef_rmAt_29 (m : MethodId) (x0 : Addr) (x1 : Int32) : entryFrame m #[(.ref x0), (.int x1)] 2 = mkF m 0 #[.val (.ref x0), .val (.int x1)] [] := by first | (simp [entryFrame, mkF, argsToLocals, Value.category]; done) | rfl
def Q_rmAt_29 (Z : State) (a1 : Addr) (rs : Addr) (k1 : ClassId) (x0 : Int64) (x1 : Int64) (x2 : Int64) (x3 : Int64) (h0 : Heap) (n0 : Nat) (v : Option Value) (h : Heap) (L : List Loc) : Prop := v = some (.long x1) ∧ Fr n0 L ∧ h = h0
set_option maxRecDepth 65536 in
set_option maxHeartbeats 40000000 in
theorem rmAt_29 (l : Launch) (Z : State) (a0 : Array Value) (hw : ∀ d ∈ tables_1, d.before a0 Z = true) (ws : List Jvm.Cond) (a1 : Addr) (rs : Addr) (k1 : ClassId) (x0 : Int64) (x1 : Int64) (x2 : Int64) (x3 : Int64) (h0 : Heap) (n0 : Nat) (Z0 : n0 ≤ h0.size) (P0 : Exa Z h0 a1 "com/example/okno/okno/AdmissionLog") (P1 : Fld Z h0 a1 "com/example/okno/okno/AdmissionLog" "size" "I" (.int (2 : Int32))) (P2 : Fld Z h0 a1 "com/example/okno/okno/AdmissionLog" "head" "I" (.int (0 : Int32))) (P3 : Fld Z h0 a1 "com/example/okno/okno/AdmissionLog" "subWindows" "[J" (.ref rs)) (P4 : Arv Z h0 rs k1 .long (4 : Int32) [(.long x0), (.long x1), (.long x2), (.long x3)] (.long (0 : Int64))) :
    MetFree l (⟨"com/example/okno/okno/AdmissionLog", "subWindowAt", "(I)J"⟩ : MethodName) (head1 (Jvm.Cond.code (⟨"com/example/okno/okno/AdmissionLog", "subWindowAt", "(I)J"⟩ : MethodName) prog_2_method_21_code 2 (some .long) :: ws) ({ frames := 1, cells := 0, slots := 0, locals := 14 } : Room)) (fun a U => a = #[(.ref a1), (.int (1 : Int32))] ∧ Z.Warmed39 U.vm ∧ U.heap = h0) (fun _ _ _ _ _ => True) (fun _ U o U' => ∃ v L, o = .returned v ∧ Q_rmAt_29 Z a1 rs k1 x0 x1 x2 x3 h0 n0 v U'.heap L ∧ FrameEnd U o U' L ({ frames := 1, cells := 0, slots := 0, locals := 14 } : Room).cells ({ frames := 1, cells := 0, slots := 0, locals := 14 } : Room).slots) := by
  refine MetFree.of_bodySF (plainFor_of_name pn_2) hisR ?_
  intro p e s m args below meth c s₁ Bd hml0 hP hK
  obtain ⟨rfl, hZ, hh⟩ := hP
  have hx := Bd.exec
  have hby := Bd.bytes
  have hml : c.maxLocals = 2 := hml0
  have hown : s.vm.findClass "com/example/okno/okno/AdmissionLog" = some m.cls := findClass_of_methodNamed Bd.named
  have hnm := (name_of_methodNamed Bd.named Bd.method).1
  have X0 : Stand p l e ({ frames := 1, cells := 0, slots := 0, locals := 14 } : Room) s m #[(.ref a1), (.int (1 : Int32))] below meth c s₁ [] 0 0 := Stand.of_body Bd
  have e0 : s₁.heap = h0 := by rw [← hh, Bd.state]; rfl
  have N0 := Fr.nil n0
  have KR : Keep h0 h0 [] := Keep.refl h0 _
  have pre0 : ∀ t, Steps p.tables e below (s₁.setTop (mkF m 0 #[.val (.ref a1), .val (.int (1 : Int32))] [])) t → Steps p.tables e below (s₁.setTop (entryFrame m #[(.ref a1), (.int (1 : Int32))] 2)) t := fun t k => castTop (ef_rmAt_29 m (a1) ((1 : Int32))) k
  obtain ⟨T1, X1, e1, st1⟩ := getF X0 hx hZ hown (host := "") (Or.inl (kw106 hw)) Via.refl e0 P1 (g := (mkF m 2 #[.val (.ref a1), .val (.int (1 : Int32))] [(.ref a1), (.int (1 : Int32))])) rfl rfl (hb hby d21_2)
  obtain ⟨T2, X2, e2, st2⟩ := getF X1 hx hZ hown (host := "") (Or.inl (kw35 hw)) Via.refl e1 P3 (g := (mkF m 9 #[.val (.ref a1), .val (.int (1 : Int32))] [(.ref a1)])) rfl rfl (hb hby d21_9)
  obtain ⟨cq3, q3, q3'⟩ := (P0).cell
  obtain ⟨_, _, ⟨T3, L3, k3, n3⟩, -, X3, ⟨Lc3, hQ3, l3, y3, z3⟩, st3⟩ := X2.privateBack hx (y := (⟨"com/example/okno/okno/AdmissionLog", "index", "(I)I"⟩ : MethodName)) hown (mvT hZ (kw117 hw)) (mvT hZ (kw118 hw)) (mvT hZ (own_selP rfl (kw17 hw) (kw118 hw) (kw119 hw) (by decide))) (Cond.privateMethod_at (mvP hZ (kw119 hw) (args := #[]))) (mvT hZ (kw120 hw)) (by decide) (backOf (W := 1) (rmIdx_23 l Z a0 hw [] a1 rs k1 ([(.long x0), (.long x1), (.long x2), (.long x3)]) h0 n0 Z0 P0 P2 P3 P4) hZ (kw120 hw) (kw18 hw) (by decide) (by decide)) (g := (mkF m 14 #[.val (.ref a1), .val (.int (1 : Int32))] [(.int (1 : Int32)), (.ref a1), (.ref rs)])) rfl (by rw [hml]; rfl) (Steps.refl _) (a := a1) (by rw [e2]; exact q3) q3' (argsL := [(.int (1 : Int32))]) (rest := [(.ref rs)]) (lenOf pd_11 rfl) rfl (by show 2 * 0 + _ ≤ _; exact Nat.le_of_eq rfl) (hb hby d21_14) (fun _ _ => ⟨rfl, e2, (by decide : 0 + 0 ≤ _), (by decide : 0 + 0 ≤ _)⟩)
  dsimp only [Pt.U, Pt.locs, Pt.cells, Pt.slots] at X3 l3 y3 z3 st3 hQ3
  subst l3 y3 z3
  obtain ⟨rfl, N3q, e3⟩ := hQ3
  have N3 := Fr.app N0 N3q
  obtain ⟨cl4, Ar4, q4, S4, N4', H4, G4⟩ := id P4
  have hin4 : ¬ ((1 : Int32) < 0 ∨ cl4.slots.size ≤ ((1 : Int32)).toNatClampNeg) := inb_of S4 ⟨by decide, by decide⟩
  have hat4 : cl4.slots[((1 : Int32)).toNatClampNeg]? = some (.long x1) := H4.at hin4 rfl
  obtain ⟨fs, hr, hrun, hended, hW, hsame⟩ := X3.leave (v := some (.long x1)) (fun h => by rw [Bd.returns] at h; cases h)
  refine ⟨_, _, pre0 _ ?_, hrun, hended, _, _, rfl, ?_, ⟨_, rfl⟩, hW, hsame.mono (by decide) (by decide)⟩
  · skip
    refine XS.iloadN X0.here hx rfl (hb hby d21_0) rfl ?_
    refine XS.aloadN X0.here hx rfl (hb hby d21_1) rfl rfl ?_
    refine st1 _ ?_
    refine XS.icmpNo X1.here hx rfl (hb hby d21_5) rfl (tlt (by decide : (1 : Int32) < (2 : Int32))).2.1 ?_
    refine XS.aloadN X1.here hx rfl (hb hby d21_8) rfl rfl ?_
    refine st2 _ ?_
    refine XS.aloadN X2.here hx rfl (hb hby d21_12) rfl rfl ?_
    refine XS.iloadN X2.here hx rfl (hb hby d21_13) rfl ?_
    refine st3.trans ?_
    refine X3.laload hx (j := (1 : Int32)) (v := (.long x1)) (by rw [e3]; exact Ar4.1) (State.isArrayOf_alike hZ.alike Ar4.2.1) Ar4.2.2 hin4 hat4 (g := (mkF m 17 #[.val (.ref a1), .val (.int (1 : Int32))] [(.int (1 : Int32)), (.ref rs)])) rfl rfl (hb hby d21_17) _ ?_
    refine XS.goto X3.here hx rfl (pc0 := 18) (pc' := 25) rfl (hb hby d21_18) (by decide) (by decide) ?_
    show Steps p.tables e below (T3.setTop (mkF m 25 #[.val (.ref a1), .val (.int (1 : Int32))] [(.long x1)])) _
    jvm_step X3.here [X3.here.top, hx, (hb hby d21_25), X3.method', Bd.returns, narrow]
    first | (intro acts; rw [hr _ acts rfl rfl rfl]) | rw [hr _ _ rfl rfl rfl]
    exact Steps.refl _
  · show Q_rmAt_29 Z a1 rs k1 x0 x1 x2 x3 h0 n0 _ T3.heap _
    rw [e3]
    exact ⟨rfl, N3, rfl⟩
theorem ef_rmAt_30 (m : MethodId) (x0 : Addr) (x1 : Int32) : entryFrame m #[(.ref x0), (.int x1)] 2 = mkF m 0 #[.val (.ref x0), .val (.int x1)] [] := by first | (simp [entryFrame, mkF, argsToLocals, Value.category]; done) | rfl
def Q_rmAt_30 (Z : State) (a1 : Addr) (rs : Addr) (k1 : ClassId) (vs1 : List Value) (ra : Addr) (k2 : ClassId) (x0 : Int64) (x1 : Int64) (x2 : Int64) (x3 : Int64) (h0 : Heap) (n0 : Nat) (v : Option Value) (h : Heap) (L : List Loc) : Prop := v = some (.long x1) ∧ Fr n0 L ∧ h = h0
set_option maxRecDepth 65536 in
set_option maxHeartbeats 40000000 in
theorem rmAt_30 (l : Launch) (Z : State) (a0 : Array Value) (hw : ∀ d ∈ tables_1, d.before a0 Z = true) (ws : List Jvm.Cond) (a1 : Addr) (rs : Addr) (k1 : ClassId) (vs1 : List Value) (ra : Addr) (k2 : ClassId) (x0 : Int64) (x1 : Int64) (x2 : Int64) (x3 : Int64) (h0 : Heap) (n0 : Nat) (Z0 : n0 ≤ h0.size) (P0 : Exa Z h0 a1 "com/example/okno/okno/AdmissionLog") (P1 : Fld Z h0 a1 "com/example/okno/okno/AdmissionLog" "size" "I" (.int (2 : Int32))) (P2 : Fld Z h0 a1 "com/example/okno/okno/AdmissionLog" "head" "I" (.int (0 : Int32))) (P3 : Fld Z h0 a1 "com/example/okno/okno/AdmissionLog" "subWindows" "[J" (.ref rs)) (P4 : Arv Z h0 rs k1 .long (4 : Int32) vs1 (.long (0 : Int64))) (P5 : Fld Z h0 a1 "com/example/okno/okno/AdmissionLog" "amounts" "[J" (.ref ra)) (P6 : Arv Z h0 ra k2 .long (4 : Int32) [(.long x0), (.long x1), (.long x2), (.long x3)] (.long (0 : Int64))) :
    MetFree l (⟨"com/example/okno/okno/AdmissionLog", "ringAmountAt", "(I)J"⟩ : MethodName) (head1 (Jvm.Cond.code (⟨"com/example/okno/okno/AdmissionLog", "ringAmountAt", "(I)J"⟩ : MethodName) prog_2_method_22_code 2 (some .long) :: ws) ({ frames := 1, cells := 0, slots := 0, locals := 14 } : Room)) (fun a U => a = #[(.ref a1), (.int (1 : Int32))] ∧ Z.Warmed39 U.vm ∧ U.heap = h0) (fun _ _ _ _ _ => True) (fun _ U o U' => ∃ v L, o = .returned v ∧ Q_rmAt_30 Z a1 rs k1 vs1 ra k2 x0 x1 x2 x3 h0 n0 v U'.heap L ∧ FrameEnd U o U' L ({ frames := 1, cells := 0, slots := 0, locals := 14 } : Room).cells ({ frames := 1, cells := 0, slots := 0, locals := 14 } : Room).slots) := by
  refine MetFree.of_bodySF (plainFor_of_name pn_2) hisR ?_
  intro p e s m args below meth c s₁ Bd hml0 hP hK
  obtain ⟨rfl, hZ, hh⟩ := hP
  have hx := Bd.exec
  have hby := Bd.bytes
  have hml : c.maxLocals = 2 := hml0
  have hown : s.vm.findClass "com/example/okno/okno/AdmissionLog" = some m.cls := findClass_of_methodNamed Bd.named
  have hnm := (name_of_methodNamed Bd.named Bd.method).1
  have X0 : Stand p l e ({ frames := 1, cells := 0, slots := 0, locals := 14 } : Room) s m #[(.ref a1), (.int (1 : Int32))] below meth c s₁ [] 0 0 := Stand.of_body Bd
  have e0 : s₁.heap = h0 := by rw [← hh, Bd.state]; rfl
  have N0 := Fr.nil n0
  have KR : Keep h0 h0 [] := Keep.refl h0 _
  have pre0 : ∀ t, Steps p.tables e below (s₁.setTop (mkF m 0 #[.val (.ref a1), .val (.int (1 : Int32))] [])) t → Steps p.tables e below (s₁.setTop (entryFrame m #[(.ref a1), (.int (1 : Int32))] 2)) t := fun t k => castTop (ef_rmAt_30 m (a1) ((1 : Int32))) k
  obtain ⟨T1, X1, e1, st1⟩ := getF X0 hx hZ hown (host := "") (Or.inl (kw106 hw)) Via.refl e0 P1 (g := (mkF m 2 #[.val (.ref a1), .val (.int (1 : Int32))] [(.ref a1), (.int (1 : Int32))])) rfl rfl (hb hby d22_2)
  obtain ⟨T2, X2, e2, st2⟩ := getF X1 hx hZ hown (host := "") (Or.inl (kw37 hw)) Via.refl e1 P5 (g := (mkF m 9 #[.val (.ref a1), .val (.int (1 : Int32))] [(.ref a1)])) rfl rfl (hb hby d22_9)
  obtain ⟨cq3, q3, q3'⟩ := (P0).cell
  obtain ⟨_, _, ⟨T3, L3, k3, n3⟩, -, X3, ⟨Lc3, hQ3, l3, y3, z3⟩, st3⟩ := X2.privateBack hx (y := (⟨"com/example/okno/okno/AdmissionLog", "index", "(I)I"⟩ : MethodName)) hown (mvT hZ (kw117 hw)) (mvT hZ (kw118 hw)) (mvT hZ (own_selP rfl (kw17 hw) (kw118 hw) (kw119 hw) (by decide))) (Cond.privateMethod_at (mvP hZ (kw119 hw) (args := #[]))) (mvT hZ (kw120 hw)) (by decide) (backOf (W := 1) (rmIdx_23 l Z a0 hw [] a1 rs k1 vs1 h0 n0 Z0 P0 P2 P3 P4) hZ (kw120 hw) (kw18 hw) (by decide) (by decide)) (g := (mkF m 14 #[.val (.ref a1), .val (.int (1 : Int32))] [(.int (1 : Int32)), (.ref a1), (.ref ra)])) rfl (by rw [hml]; rfl) (Steps.refl _) (a := a1) (by rw [e2]; exact q3) q3' (argsL := [(.int (1 : Int32))]) (rest := [(.ref ra)]) (lenOf pd_11 rfl) rfl (by show 2 * 0 + _ ≤ _; exact Nat.le_of_eq rfl) (hb hby d22_14) (fun _ _ => ⟨rfl, e2, (by decide : 0 + 0 ≤ _), (by decide : 0 + 0 ≤ _)⟩)
  dsimp only [Pt.U, Pt.locs, Pt.cells, Pt.slots] at X3 l3 y3 z3 st3 hQ3
  subst l3 y3 z3
  obtain ⟨rfl, N3q, e3⟩ := hQ3
  have N3 := Fr.app N0 N3q
  obtain ⟨cl4, Ar4, q4, S4, N4', H4, G4⟩ := id P6
  have hin4 : ¬ ((1 : Int32) < 0 ∨ cl4.slots.size ≤ ((1 : Int32)).toNatClampNeg) := inb_of S4 ⟨by decide, by decide⟩
  have hat4 : cl4.slots[((1 : Int32)).toNatClampNeg]? = some (.long x1) := H4.at hin4 rfl
  obtain ⟨fs, hr, hrun, hended, hW, hsame⟩ := X3.leave (v := some (.long x1)) (fun h => by rw [Bd.returns] at h; cases h)
  refine ⟨_, _, pre0 _ ?_, hrun, hended, _, _, rfl, ?_, ⟨_, rfl⟩, hW, hsame.mono (by decide) (by decide)⟩
  · skip
    refine XS.iloadN X0.here hx rfl (hb hby d22_0) rfl ?_
    refine XS.aloadN X0.here hx rfl (hb hby d22_1) rfl rfl ?_
    refine st1 _ ?_
    refine XS.icmpNo X1.here hx rfl (hb hby d22_5) rfl (tlt (by decide : (1 : Int32) < (2 : Int32))).2.1 ?_
    refine XS.aloadN X1.here hx rfl (hb hby d22_8) rfl rfl ?_
    refine st2 _ ?_
    refine XS.aloadN X2.here hx rfl (hb hby d22_12) rfl rfl ?_
    refine XS.iloadN X2.here hx rfl (hb hby d22_13) rfl ?_
    refine st3.trans ?_
    refine X3.laload hx (j := (1 : Int32)) (v := (.long x1)) (by rw [e3]; exact Ar4.1) (State.isArrayOf_alike hZ.alike Ar4.2.1) Ar4.2.2 hin4 hat4 (g := (mkF m 17 #[.val (.ref a1), .val (.int (1 : Int32))] [(.int (1 : Int32)), (.ref ra)])) rfl rfl (hb hby d22_17) _ ?_
    refine XS.goto X3.here hx rfl (pc0 := 18) (pc' := 22) rfl (hb hby d22_18) (by decide) (by decide) ?_
    show Steps p.tables e below (T3.setTop (mkF m 22 #[.val (.ref a1), .val (.int (1 : Int32))] [(.long x1)])) _
    jvm_step X3.here [X3.here.top, hx, (hb hby d22_22), X3.method', Bd.returns, narrow]
    first | (intro acts; rw [hr _ acts rfl rfl rfl]) | rw [hr _ _ rfl rfl rfl]
    exact Steps.refl _
  · show Q_rmAt_30 Z a1 rs k1 vs1 ra k2 x0 x1 x2 x3 h0 n0 _ T3.heap _
    rw [e3]
    exact ⟨rfl, N3, rfl⟩
theorem ef_rmAt_31 (m : MethodId) (x0 : Addr) (x1 : Int32) : entryFrame m #[(.ref x0), (.int x1)] 2 = mkF m 0 #[.val (.ref x0), .val (.int x1)] [] := by first | (simp [entryFrame, mkF, argsToLocals, Value.category]; done) | rfl
def Q_rmAt_31 (Z : State) (a1 : Addr) (ns : Int64) (h0 : Heap) (n0 : Nat) (v : Option Value) (h : Heap) (L : List Loc) : Prop := v = some (.long ns) ∧ Fr n0 L ∧ h = h0
set_option maxRecDepth 65536 in
set_option maxHeartbeats 40000000 in
theorem rmAt_31 (l : Launch) (Z : State) (a0 : Array Value) (hw : ∀ d ∈ tables_1, d.before a0 Z = true) (ws : List Jvm.Cond) (a1 : Addr) (ns : Int64) (h0 : Heap) (n0 : Nat) (Z0 : n0 ≤ h0.size) (P0 : Fld Z h0 a1 "com/example/okno/okno/AdmissionLog" "size" "I" (.int (2 : Int32))) (P1 : Fld Z h0 a1 "com/example/okno/okno/AdmissionLog" "newestSubWindow" "J" (.long ns)) :
    MetFree l (⟨"com/example/okno/okno/AdmissionLog", "subWindowAt", "(I)J"⟩ : MethodName) (head1 (Jvm.Cond.code (⟨"com/example/okno/okno/AdmissionLog", "subWindowAt", "(I)J"⟩ : MethodName) prog_2_method_21_code 2 (some .long) :: ws) ({ frames := 0, cells := 0, slots := 0, locals := 0 } : Room)) (fun a U => a = #[(.ref a1), (.int (2 : Int32))] ∧ Z.Warmed39 U.vm ∧ U.heap = h0) (fun _ _ _ _ _ => True) (fun _ U o U' => ∃ v L, o = .returned v ∧ Q_rmAt_31 Z a1 ns h0 n0 v U'.heap L ∧ FrameEnd U o U' L ({ frames := 0, cells := 0, slots := 0, locals := 0 } : Room).cells ({ frames := 0, cells := 0, slots := 0, locals := 0 } : Room).slots) := by
  refine MetFree.of_bodySF (plainFor_of_name pn_2) hisR ?_
  intro p e s m args below meth c s₁ Bd hml0 hP hK
  obtain ⟨rfl, hZ, hh⟩ := hP
  have hx := Bd.exec
  have hby := Bd.bytes
  have hml : c.maxLocals = 2 := hml0
  have hown : s.vm.findClass "com/example/okno/okno/AdmissionLog" = some m.cls := findClass_of_methodNamed Bd.named
  have hnm := (name_of_methodNamed Bd.named Bd.method).1
  have X0 : Stand p l e ({ frames := 0, cells := 0, slots := 0, locals := 0 } : Room) s m #[(.ref a1), (.int (2 : Int32))] below meth c s₁ [] 0 0 := Stand.of_body Bd
  have e0 : s₁.heap = h0 := by rw [← hh, Bd.state]; rfl
  have N0 := Fr.nil n0
  have KR : Keep h0 h0 [] := Keep.refl h0 _
  have pre0 : ∀ t, Steps p.tables e below (s₁.setTop (mkF m 0 #[.val (.ref a1), .val (.int (2 : Int32))] [])) t → Steps p.tables e below (s₁.setTop (entryFrame m #[(.ref a1), (.int (2 : Int32))] 2)) t := fun t k => castTop (ef_rmAt_31 m (a1) ((2 : Int32))) k
  obtain ⟨T1, X1, e1, st1⟩ := getF X0 hx hZ hown (host := "") (Or.inl (kw106 hw)) Via.refl e0 P0 (g := (mkF m 2 #[.val (.ref a1), .val (.int (2 : Int32))] [(.ref a1), (.int (2 : Int32))])) rfl rfl (hb hby d21_2)
  obtain ⟨T2, X2, e2, st2⟩ := getF X1 hx hZ hown (host := "") (Or.inl (kw92 hw)) Via.refl e1 P1 (g := (mkF m 22 #[.val (.ref a1), .val (.int (2 : Int32))] [(.ref a1)])) rfl rfl (hb hby d21_22)
  obtain ⟨fs, hr, hrun, hended, hW, hsame⟩ := X2.leave (v := some (.long ns)) (fun h => by rw [Bd.returns] at h; cases h)
  refine ⟨_, _, pre0 _ ?_, hrun, hended, _, _, rfl, ?_, ⟨_, rfl⟩, hW, hsame.mono (by decide) (by decide)⟩
  · skip
    refine XS.iloadN X0.here hx rfl (hb hby d21_0) rfl ?_
    refine XS.aloadN X0.here hx rfl (hb hby d21_1) rfl rfl ?_
    refine st1 _ ?_
    refine XS.icmpYes X1.here hx rfl (pc0 := 5) (pc' := 21) rfl (hb hby d21_5) rfl (flt (by decide : ¬ ((2 : Int32) < (2 : Int32)))).2.1 (by decide) (by decide) ?_
    refine XS.aloadN X1.here hx rfl (hb hby d21_21) rfl rfl ?_
    refine st2 _ ?_
    show Steps p.tables e below (T2.setTop (mkF m 25 #[.val (.ref a1), .val (.int (2 : Int32))] [(.long ns)])) _
    jvm_step X2.here [X2.here.top, hx, (hb hby d21_25), X2.method', Bd.returns, narrow]
    first | (intro acts; rw [hr _ acts rfl rfl rfl]) | rw [hr _ _ rfl rfl rfl]
    exact Steps.refl _
  · show Q_rmAt_31 Z a1 ns h0 n0 _ T2.heap _
    rw [e2]
    exact ⟨rfl, N0, rfl⟩
theorem ef_rmAt_32 (m : MethodId) (x0 : Addr) (x1 : Int32) : entryFrame m #[(.ref x0), (.int x1)] 2 = mkF m 0 #[.val (.ref x0), .val (.int x1)] [] := by first | (simp [entryFrame, mkF, argsToLocals, Value.category]; done) | rfl
def Q_rmAt_32 (Z : State) (a1 : Addr) (h0 : Heap) (n0 : Nat) (v : Option Value) (h : Heap) (L : List Loc) : Prop := v = some (.long (0 : Int64)) ∧ Fr n0 L ∧ h = h0
set_option maxRecDepth 65536 in
set_option maxHeartbeats 40000000 in
theorem rmAt_32 (l : Launch) (Z : State) (a0 : Array Value) (hw : ∀ d ∈ tables_1, d.before a0 Z = true) (ws : List Jvm.Cond) (a1 : Addr) (h0 : Heap) (n0 : Nat) (Z0 : n0 ≤ h0.size) (P0 : Fld Z h0 a1 "com/example/okno/okno/AdmissionLog" "size" "I" (.int (2 : Int32))) :
    MetFree l (⟨"com/example/okno/okno/AdmissionLog", "ringAmountAt", "(I)J"⟩ : MethodName) (head1 (Jvm.Cond.code (⟨"com/example/okno/okno/AdmissionLog", "ringAmountAt", "(I)J"⟩ : MethodName) prog_2_method_22_code 2 (some .long) :: ws) ({ frames := 0, cells := 0, slots := 0, locals := 0 } : Room)) (fun a U => a = #[(.ref a1), (.int (2 : Int32))] ∧ Z.Warmed39 U.vm ∧ U.heap = h0) (fun _ _ _ _ _ => True) (fun _ U o U' => ∃ v L, o = .returned v ∧ Q_rmAt_32 Z a1 h0 n0 v U'.heap L ∧ FrameEnd U o U' L ({ frames := 0, cells := 0, slots := 0, locals := 0 } : Room).cells ({ frames := 0, cells := 0, slots := 0, locals := 0 } : Room).slots) := by
  refine MetFree.of_bodySF (plainFor_of_name pn_2) hisR ?_
  intro p e s m args below meth c s₁ Bd hml0 hP hK
  obtain ⟨rfl, hZ, hh⟩ := hP
  have hx := Bd.exec
  have hby := Bd.bytes
  have hml : c.maxLocals = 2 := hml0
  have hown : s.vm.findClass "com/example/okno/okno/AdmissionLog" = some m.cls := findClass_of_methodNamed Bd.named
  have hnm := (name_of_methodNamed Bd.named Bd.method).1
  have X0 : Stand p l e ({ frames := 0, cells := 0, slots := 0, locals := 0 } : Room) s m #[(.ref a1), (.int (2 : Int32))] below meth c s₁ [] 0 0 := Stand.of_body Bd
  have e0 : s₁.heap = h0 := by rw [← hh, Bd.state]; rfl
  have N0 := Fr.nil n0
  have KR : Keep h0 h0 [] := Keep.refl h0 _
  have pre0 : ∀ t, Steps p.tables e below (s₁.setTop (mkF m 0 #[.val (.ref a1), .val (.int (2 : Int32))] [])) t → Steps p.tables e below (s₁.setTop (entryFrame m #[(.ref a1), (.int (2 : Int32))] 2)) t := fun t k => castTop (ef_rmAt_32 m (a1) ((2 : Int32))) k
  obtain ⟨T1, X1, e1, st1⟩ := getF X0 hx hZ hown (host := "") (Or.inl (kw106 hw)) Via.refl e0 P0 (g := (mkF m 2 #[.val (.ref a1), .val (.int (2 : Int32))] [(.ref a1), (.int (2 : Int32))])) rfl rfl (hb hby d22_2)
  obtain ⟨fs, hr, hrun, hended, hW, hsame⟩ := X1.leave (v := some (.long (0 : Int64))) (fun h => by rw [Bd.returns] at h; cases h)
  refine ⟨_, _, pre0 _ ?_, hrun, hended, _, _, rfl, ?_, ⟨_, rfl⟩, hW, hsame.mono (by decide) (by decide)⟩
  · skip
    refine XS.iloadN X0.here hx rfl (hb hby d22_0) rfl ?_
    refine XS.aloadN X0.here hx rfl (hb hby d22_1) rfl rfl ?_
    refine st1 _ ?_
    refine XS.icmpYes X1.here hx rfl (pc0 := 5) (pc' := 21) rfl (hb hby d22_5) rfl (flt (by decide : ¬ ((2 : Int32) < (2 : Int32)))).2.1 (by decide) (by decide) ?_
    refine XS.lconst X1.here hx rfl (hb hby d22_21) ?_
    show Steps p.tables e below (T1.setTop (mkF m 22 #[.val (.ref a1), .val (.int (2 : Int32))] [(.long (0 : Int64))])) _
    jvm_step X1.here [X1.here.top, hx, (hb hby d22_22), X1.method', Bd.returns, narrow]
    first | (intro acts; rw [hr _ acts rfl rfl rfl]) | rw [hr _ _ rfl rfl rfl]
    exact Steps.refl _
  · show Q_rmAt_32 Z a1 h0 n0 _ T1.heap _
    rw [e1]
    exact ⟨rfl, N0, rfl⟩
theorem ef_rmFit_25 (m : MethodId) (x0 : Addr) (x1 : Int32) (x2 : Int64) : entryFrame m #[(.ref x0), (.int x1), (.long x2)] 8 = mkF m 0 #[.val (.ref x0), .val (.int x1), .val (.long x2), .second, .unset, .unset, .unset, .unset] [] := by first | (simp [entryFrame, mkF, argsToLocals, Value.category]; done) | rfl
def Q_rmFit_25 (Z : State) (a1 : Addr) (pw : Int32) (q : Int64) (sw : Addr) (k3 : ClassId) (vs : List Value) (r : Int64) (ns : Int64) (x0 : Int64) (x1 : Int64) (y0 : Int64) (y1 : Int64) (tt : Int64) (x2 : Int64) (x3 : Int64) (y2 : Int64) (y3 : Int64) (rs : Addr) (ra : Addr) (k1 : ClassId) (k2 : ClassId) (h0 : Heap) (n0 : Nat) (v : Option Value) (h : Heap) (L : List Loc) : Prop := v = none ∧ Fr n0 L ∧ Keep h0 h [sw] ∧ Arv Z h sw k3 .long (4 : Int32) ((vs.set (((2 : Int32) * pw)).toNatClampNeg (.long (own_fr2 r q ns x0 x1 y0 y1))).set ((((2 : Int32) * pw) + (1 : Int32))).toNatClampNeg (.long (own_fc2 r q ns x0 x1 y0 y1))) (.long (0 : Int64))
set_option maxRecDepth 65536 in
set_option maxHeartbeats 40000000 in
theorem rmFit_25 (l : Launch) (Z : State) (a0 : Array Value) (hw : ∀ d ∈ tables_1, d.before a0 Z = true) (ws : List Jvm.Cond) (a1 : Addr) (pw : Int32) (q : Int64) (sw : Addr) (k3 : ClassId) (vs : List Value) (r : Int64) (ns : Int64) (x0 : Int64) (x1 : Int64) (y0 : Int64) (y1 : Int64) (tt : Int64) (x2 : Int64) (x3 : Int64) (y2 : Int64) (y3 : Int64) (rs : Addr) (ra : Addr) (k1 : ClassId) (k2 : ClassId) (h0 : Heap) (n0 : Nat) (Z0 : n0 ≤ h0.size) (P0 : Exa Z h0 a1 "com/example/okno/okno/AdmissionLog") (P1 : n0 ≤ sw) (P2 : sw ≠ a1) (hl : vs.length = 4) (P4 : Arv Z h0 sw k3 .long (4 : Int32) vs (.long (0 : Int64))) (hp : pw = (0 : Int32) ∨ pw = (1 : Int32)) (hr : vs.getD (((2 : Int32) * pw)).toNatClampNeg (.long (0 : Int64)) = .long r) (hc : vs.getD ((((2 : Int32) * pw) + (1 : Int32))).toNatClampNeg (.long (0 : Int64)) = .long (3 : Int64)) (P8 : Fld Z h0 a1 "com/example/okno/okno/AdmissionLog" "total" "J" (.long tt)) (htt : tt ≠ (0 : Int64)) (P10 : Fld Z h0 a1 "com/example/okno/okno/AdmissionLog" "shorterWindows" "[J" (.ref sw)) (P11 : Fld Z h0 a1 "com/example/okno/okno/AdmissionLog" "size" "I" (.int (2 : Int32))) (P12 : Fld Z h0 a1 "com/example/okno/okno/AdmissionLog" "newestSubWindow" "J" (.long ns)) (P13 : Fld Z h0 a1 "com/example/okno/okno/AdmissionLog" "head" "I" (.int (0 : Int32))) (P14 : Fld Z h0 a1 "com/example/okno/okno/AdmissionLog" "subWindows" "[J" (.ref rs)) (P15 : Fld Z h0 a1 "com/example/okno/okno/AdmissionLog" "amounts" "[J" (.ref ra)) (P16 : Arv Z h0 rs k1 .long (4 : Int32) [(.long x0), (.long x1), (.long x2), (.long x3)] (.long (0 : Int64))) (P17 : Arv Z h0 ra k2 .long (4 : Int32) [(.long y0), (.long y1), (.long y2), (.long y3)] (.long (0 : Int64))) (P18 : sw ≠ rs) (P19 : sw ≠ ra) :
    MetFree l (⟨"com/example/okno/okno/AdmissionLog", "fitShorterWindow", "(IJ)V"⟩ : MethodName) (head1 (Jvm.Cond.code (⟨"com/example/okno/okno/AdmissionLog", "fitShorterWindow", "(IJ)V"⟩ : MethodName) prog_2_method_18_code 8 none :: ws) ({ frames := 2, cells := 0, slots := 0, locals := 29 } : Room)) (fun a U => a = #[(.ref a1), (.int pw), (.long q)] ∧ Z.Warmed39 U.vm ∧ U.heap = h0) (fun _ _ _ _ _ => True) (fun _ U o U' => ∃ v L, o = .returned v ∧ Q_rmFit_25 Z a1 pw q sw k3 vs r ns x0 x1 y0 y1 tt x2 x3 y2 y3 rs ra k1 k2 h0 n0 v U'.heap L ∧ FrameEnd U o U' L ({ frames := 2, cells := 0, slots := 0, locals := 29 } : Room).cells ({ frames := 2, cells := 0, slots := 0, locals := 29 } : Room).slots) := by
  refine MetFree.of_bodySF (plainFor_of_name pn_2) hisR ?_
  intro p e s m args below meth c s₁ Bd hml0 hP hK
  obtain ⟨rfl, hZ, hh⟩ := hP
  have hx := Bd.exec
  have hby := Bd.bytes
  have hml : c.maxLocals = 8 := hml0
  have hown : s.vm.findClass "com/example/okno/okno/AdmissionLog" = some m.cls := findClass_of_methodNamed Bd.named
  have hnm := (name_of_methodNamed Bd.named Bd.method).1
  have X0 : Stand p l e ({ frames := 2, cells := 0, slots := 0, locals := 29 } : Room) s m #[(.ref a1), (.int pw), (.long q)] below meth c s₁ [] 0 0 := Stand.of_body Bd
  have e0 : s₁.heap = h0 := by rw [← hh, Bd.state]; rfl
  have N0 := Fr.nil n0
  have KR : Keep h0 h0 [sw] := Keep.refl h0 _
  have pre0 : ∀ t, Steps p.tables e below (s₁.setTop (mkF m 0 #[.val (.ref a1), .val (.int pw), .val (.long q), .second, .unset, .unset, .unset, .unset] [])) t → Steps p.tables e below (s₁.setTop (entryFrame m #[(.ref a1), (.int pw), (.long q)] 8)) t := fun t k => castTop (ef_rmFit_25 m (a1) (pw) (q)) k
  obtain ⟨cq1, q1, q1'⟩ := (P0).cell
  obtain ⟨_, _, ⟨T1, L1, k1, n1⟩, -, X1, ⟨Lc1, hQ1, l1, y1, z1⟩, st1⟩ := X0.privateBack hx (y := (⟨"com/example/okno/okno/AdmissionLog", "entryCount", "()I"⟩ : MethodName)) hown (mvT hZ (kw59 hw)) (mvT hZ (kw60 hw)) (mvT hZ (own_selP rfl (kw17 hw) (kw60 hw) (kw61 hw) (by decide))) (Cond.privateMethod_at (mvP hZ (kw61 hw) (args := #[]))) (mvT hZ (kw62 hw)) (by decide) (backOf (W := 0) (rmEnt_26 l Z a0 hw [] a1 tt h0 n0 Z0 P0 P8 htt P11) hZ (kw62 hw) (kw18 hw) (by decide) (by decide)) (g := (mkF m 1 #[.val (.ref a1), .val (.int pw), .val (.long q), .second, .unset, .unset, .unset, .unset] [(.ref a1)])) rfl (by rw [hml]; rfl) (Steps.refl _) (a := a1) (by rw [e0]; exact q1) q1' (argsL := []) (rest := []) (lenOf pd_5 rfl) rfl (by show 2 * 0 + _ ≤ _; exact Nat.le_of_eq rfl) (hb hby d8_1) (fun _ _ => ⟨rfl, e0, (by decide : 0 + 0 ≤ _), (by decide : 0 + 0 ≤ _)⟩)
  dsimp only [Pt.U, Pt.locs, Pt.cells, Pt.slots] at X1 l1 y1 z1 st1 hQ1
  subst l1 y1 z1
  obtain ⟨rfl, N1q, e1⟩ := hQ1
  have N1 := Fr.app N0 N1q
  obtain ⟨T2, X2, e2, st2⟩ := getF X1 hx hZ hown (host := "") (Or.inl (kw52 hw)) Via.refl e1 P10 (g := (mkF m 7 #[.val (.ref a1), .val (.int pw), .val (.long q), .second, .val (.int (3 : Int32)), .unset, .unset, .unset] [(.ref a1)])) rfl rfl (hb hby d8_7)
  obtain ⟨cl3, Ar3, q3, S3, N3', H3, G3⟩ := id P4
  have hin3 : ¬ (((2 : Int32) * pw) < 0 ∨ cl3.slots.size ≤ (((2 : Int32) * pw)).toNatClampNeg) := inb_of S3 (own_ib hp)
  have hat3 : cl3.slots[(((2 : Int32) * pw)).toNatClampNeg]? = some (.long r) := H3.at hin3 hr
  obtain ⟨T4, X4, e4, st4⟩ := getF X2 hx hZ hown (host := "") (Or.inl (kw52 hw)) Via.refl e2 P10 (g := (mkF m 17 #[.val (.ref a1), .val (.int pw), .val (.long q), .second, .val (.int (3 : Int32)), .val (.long r), .second, .unset] [(.ref a1)])) rfl rfl (hb hby d8_17)
  obtain ⟨cl5, Ar5, q5, S5, N5', H5, G5⟩ := id P4
  have hin5 : ¬ ((((2 : Int32) * pw) + (1 : Int32)) < 0 ∨ cl5.slots.size ≤ ((((2 : Int32) * pw) + (1 : Int32))).toNatClampNeg) := inb_of S5 (own_ib1 hp)
  have hat5 : cl5.slots[((((2 : Int32) * pw) + (1 : Int32))).toNatClampNeg]? = some (.long (3 : Int64)) := H5.at hin5 hc
  obtain ⟨cq6, q6, q6'⟩ := (P0).cell
  obtain ⟨_, _, ⟨T6, L6, k6, n6⟩, -, X6, ⟨Lc6, hQ6, l6, y6, z6⟩, st6⟩ := X4.privateBack hx (y := (⟨"com/example/okno/okno/AdmissionLog", "subWindowAt", "(I)J"⟩ : MethodName)) hown (mvT hZ (kw121 hw)) (mvT hZ (kw122 hw)) (mvT hZ (own_selP rfl (kw17 hw) (kw122 hw) (kw123 hw) (by decide))) (Cond.privateMethod_at (mvP hZ (kw123 hw) (args := #[]))) (mvT hZ (kw124 hw)) (by decide) (backOf (W := 0) (rmAt_27 l Z a0 hw [] a1 rs k1 x0 x1 x2 x3 h0 n0 Z0 P0 P11 P13 P14 P16) hZ (kw124 hw) (kw18 hw) (by decide) (by decide)) (g := (mkF m 40 #[.val (.ref a1), .val (.int pw), .val (.long q), .second, .val (.int (3 : Int32)), .val (.long r), .second, .val (.int (3 : Int32))] [(.int (0 : Int32)), (.ref a1)])) rfl (by rw [hml]; rfl) (Steps.refl _) (a := a1) (by rw [e4]; exact q6) q6' (argsL := [(.int (0 : Int32))]) (rest := []) (lenOf pd_1 rfl) rfl (by show 2 * 0 + _ ≤ _; exact Nat.le_of_eq rfl) (hb hby d8_40) (fun _ _ => ⟨rfl, e4, (by decide : 0 + 0 ≤ _), (by decide : 0 + 0 ≤ _)⟩)
  dsimp only [Pt.U, Pt.locs, Pt.cells, Pt.slots] at X6 l6 y6 z6 st6 hQ6
  subst l6 y6 z6
  obtain ⟨rfl, N6q, e6⟩ := hQ6
  have N6 := Fr.app N1 N6q
  have pre7 : ∀ t, Steps p.tables e below (T6.setTop (mkF m 45 #[.val (.ref a1), .val (.int pw), .val (.long q), .second, .val (.int (3 : Int32)), .val (.long r), .second, .val (.int (3 : Int32))] [(.int (lcmpW x0 q))])) t → Steps p.tables e below (s₁.setTop (entryFrame m #[(.ref a1), (.int pw), (.long q)] 8)) t := fun t k => pre0 t (by
    refine XS.aloadN X0.here hx rfl (hb hby d8_0) rfl rfl ?_
    refine st1.trans ?_
    refine XS.istore X1.here hx rfl (hb hby d8_4) rfl (l' := #[.val (.ref a1), .val (.int pw), .val (.long q), .second, .val (.int (3 : Int32)), .unset, .unset, .unset]) rfl ?_
    refine XS.aloadN X1.here hx rfl (hb hby d8_6) rfl rfl ?_
    refine st2 _ ?_
    refine XS.iconst X2.here hx rfl (hb hby d8_10) ?_
    refine XS.iloadN X2.here hx rfl (hb hby d8_11) rfl ?_
    refine XS.imul X2.here hx rfl (hb hby d8_12) rfl ?_
    refine X2.laload hx (j := ((2 : Int32) * pw)) (v := (.long r)) (by rw [e2]; exact Ar3.1) (State.isArrayOf_alike hZ.alike Ar3.2.1) Ar3.2.2 hin3 hat3 (g := (mkF m 13 #[.val (.ref a1), .val (.int pw), .val (.long q), .second, .val (.int (3 : Int32)), .unset, .unset, .unset] [(.int ((2 : Int32) * pw)), (.ref sw)])) rfl rfl (hb hby d8_13) _ ?_
    refine XS.lstore X2.here hx rfl (hb hby d8_14) rfl (l' := #[.val (.ref a1), .val (.int pw), .val (.long q), .second, .val (.int (3 : Int32)), .val (.long r), .second, .unset]) rfl ?_
    refine XS.aloadN X2.here hx rfl (hb hby d8_16) rfl rfl ?_
    refine st4 _ ?_
    refine XS.iconst X4.here hx rfl (hb hby d8_20) ?_
    refine XS.iloadN X4.here hx rfl (hb hby d8_21) rfl ?_
    refine XS.imul X4.here hx rfl (hb hby d8_22) rfl ?_
    refine XS.iconst X4.here hx rfl (hb hby d8_23) ?_
    refine XS.iadd X4.here hx rfl (hb hby d8_24) rfl ?_
    refine X4.laload hx (j := (((2 : Int32) * pw) + (1 : Int32))) (v := (.long (3 : Int64))) (by rw [e4]; exact Ar5.1) (State.isArrayOf_alike hZ.alike Ar5.2.1) Ar5.2.2 hin5 hat5 (g := (mkF m 25 #[.val (.ref a1), .val (.int pw), .val (.long q), .second, .val (.int (3 : Int32)), .val (.long r), .second, .unset] [(.int (((2 : Int32) * pw) + (1 : Int32))), (.ref sw)])) rfl rfl (hb hby d8_25) _ ?_
    refine XS.l2i X4.here hx rfl (hb hby d8_26) rfl ?_
    refine XS.istore X4.here hx rfl (hb hby d8_27) rfl (l' := #[.val (.ref a1), .val (.int pw), .val (.long q), .second, .val (.int (3 : Int32)), .val (.long r), .second, .val (.int (3 : Int32))]) rfl ?_
    refine XS.iload X4.here hx rfl (hb hby d8_29) rfl ?_
    refine XS.ifNo X4.here hx rfl (hb hby d8_31) rfl ((if0 _ _).trans (tlt (by decide : (0 : Int32) < (3 : Int32))).2.2.2) ?_
    refine XS.aloadN X4.here hx rfl (hb hby d8_34) rfl rfl ?_
    refine XS.iload X4.here hx rfl (hb hby d8_35) rfl ?_
    refine XS.iload X4.here hx rfl (hb hby d8_37) rfl ?_
    show Steps p.tables e below (T4.setTop (mkF m 39 #[.val (.ref a1), .val (.int pw), .val (.long q), .second, .val (.int (3 : Int32)), .val (.long r), .second, .val (.int (3 : Int32))] [(.int (3 : Int32)), (.int (3 : Int32)), (.ref a1)])) _
    refine XS.isub X4.here hx rfl (hb hby d8_39) rfl ?_
    refine st6.trans ?_
    refine XS.lloadN X6.here hx rfl (hb hby d8_43) rfl ?_
    refine XS.lcmp X6.here hx rfl (hb hby d8_44) rfl ?_
    exact k)
  by_cases hc8 : x0 < q
  · skip
    obtain ⟨cq9, q9, q9'⟩ := (P0).cell
    obtain ⟨_, _, ⟨T9, L9, k9, n9⟩, -, X9, ⟨Lc9, hQ9, l9, y9, z9⟩, st9⟩ := X6.privateBack hx (y := (⟨"com/example/okno/okno/AdmissionLog", "ringAmountAt", "(I)J"⟩ : MethodName)) hown (mvT hZ (kw125 hw)) (mvT hZ (kw126 hw)) (mvT hZ (own_selP rfl (kw17 hw) (kw126 hw) (kw127 hw) (by decide))) (Cond.privateMethod_at (mvP hZ (kw127 hw) (args := #[]))) (mvT hZ (kw128 hw)) (by decide) (backOf (W := 2) (rmAt_28 l Z a0 hw [] a1 rs k1 ([(.long x0), (.long x1), (.long x2), (.long x3)]) ra k2 y0 y1 y2 y3 h0 n0 Z0 P0 P11 P13 P14 P16 P15 P17) hZ (kw128 hw) (kw18 hw) (by decide) (by decide)) (g := (mkF m 56 #[.val (.ref a1), .val (.int pw), .val (.long q), .second, .val (.int (3 : Int32)), .val (.long r), .second, .val (.int (3 : Int32))] [(.int (0 : Int32)), (.ref a1), (.long r)])) rfl (by rw [hml]; rfl) (Steps.refl _) (a := a1) (by rw [e6]; exact q9) q9' (argsL := [(.int (0 : Int32))]) (rest := [(.long r)]) (lenOf pd_1 rfl) rfl (by show 2 * 0 + _ ≤ _; exact Nat.le_of_eq rfl) (hb hby d8_56) (fun _ _ => ⟨rfl, e6, (by decide : 0 + 0 ≤ _), (by decide : 0 + 0 ≤ _)⟩)
    dsimp only [Pt.U, Pt.locs, Pt.cells, Pt.slots] at X9 l9 y9 z9 st9 hQ9
    subst l9 y9 z9
    obtain ⟨rfl, N9q, e9⟩ := hQ9
    have N9 := Fr.app N6 N9q
    obtain ⟨cq10, q10, q10'⟩ := (P0).cell
    obtain ⟨_, _, ⟨T10, L10, k10, n10⟩, -, X10, ⟨Lc10, hQ10, l10, y10, z10⟩, st10⟩ := X9.privateBack hx (y := (⟨"com/example/okno/okno/AdmissionLog", "subWindowAt", "(I)J"⟩ : MethodName)) hown (mvT hZ (kw121 hw)) (mvT hZ (kw122 hw)) (mvT hZ (own_selP rfl (kw17 hw) (kw122 hw) (kw123 hw) (by decide))) (Cond.privateMethod_at (mvP hZ (kw123 hw) (args := #[]))) (mvT hZ (kw124 hw)) (by decide) (backOf (W := 0) (rmAt_29 l Z a0 hw [] a1 rs k1 x0 x1 x2 x3 h0 n0 Z0 P0 P11 P13 P14 P16) hZ (kw124 hw) (kw18 hw) (by decide) (by decide)) (g := (mkF m 40 #[.val (.ref a1), .val (.int pw), .val (.long q), .second, .val (.int (3 : Int32)), .val (.long (r - y0)), .second, .val (.int (2 : Int32))] [(.int (1 : Int32)), (.ref a1)])) rfl (by rw [hml]; rfl) (Steps.refl _) (a := a1) (by rw [e9]; exact q10) q10' (argsL := [(.int (1 : Int32))]) (rest := []) (lenOf pd_1 rfl) rfl (by show 2 * 0 + _ ≤ _; exact Nat.le_of_eq rfl) (hb hby d8_40) (fun _ _ => ⟨rfl, e9, (by decide : 0 + 0 ≤ _), (by decide : 0 + 0 ≤ _)⟩)
    dsimp only [Pt.U, Pt.locs, Pt.cells, Pt.slots] at X10 l10 y10 z10 st10 hQ10
    subst l10 y10 z10
    obtain ⟨rfl, N10q, e10⟩ := hQ10
    have N10 := Fr.app N9 N10q
    have pre11 : ∀ t, Steps p.tables e below (T10.setTop (mkF m 45 #[.val (.ref a1), .val (.int pw), .val (.long q), .second, .val (.int (3 : Int32)), .val (.long (r - y0)), .second, .val (.int (2 : Int32))] [(.int (lcmpW x1 q))])) t → Steps p.tables e below (s₁.setTop (entryFrame m #[(.ref a1), (.int pw), (.long q)] 8)) t := fun t k => pre7 t (by
      refine XS.ifNo X6.here hx rfl (hb hby d8_45) rfl ((if0 _ _).trans (tlt ((lw_lt _ _).mpr hc8)).2.1) ?_
      refine XS.lload X6.here hx rfl (hb hby d8_48) rfl ?_
      refine XS.aloadN X6.here hx rfl (hb hby d8_50) rfl rfl ?_
      refine XS.iload X6.here hx rfl (hb hby d8_51) rfl ?_
      refine XS.iload X6.here hx rfl (hb hby d8_53) rfl ?_
      refine XS.isub X6.here hx rfl (hb hby d8_55) rfl ?_
      refine st9.trans ?_
      refine XS.lsub X9.here hx rfl (hb hby d8_59) rfl ?_
      refine XS.lstore X9.here hx rfl (hb hby d8_60) rfl (l' := #[.val (.ref a1), .val (.int pw), .val (.long q), .second, .val (.int (3 : Int32)), .val (.long (r - y0)), .second, .val (.int (3 : Int32))]) rfl ?_
      refine XS.iinc X9.here hx rfl (hb hby d8_62) rfl (l' := #[.val (.ref a1), .val (.int pw), .val (.long q), .second, .val (.int (3 : Int32)), .val (.long (r - y0)), .second, .val (.int (2 : Int32))]) rfl ?_
      refine XS.goto X9.here hx rfl (pc0 := 65) (pc' := 29) rfl (hb hby d8_65) (by decide) (by decide) ?_
      refine XS.iload X9.here hx rfl (hb hby d8_29) rfl ?_
      refine XS.ifNo X9.here hx rfl (hb hby d8_31) rfl ((if0 _ _).trans (tlt (by decide : (0 : Int32) < (2 : Int32))).2.2.2) ?_
      refine XS.aloadN X9.here hx rfl (hb hby d8_34) rfl rfl ?_
      refine XS.iload X9.here hx rfl (hb hby d8_35) rfl ?_
      refine XS.iload X9.here hx rfl (hb hby d8_37) rfl ?_
      refine XS.isub X9.here hx rfl (hb hby d8_39) rfl ?_
      refine st10.trans ?_
      refine XS.lloadN X10.here hx rfl (hb hby d8_43) rfl ?_
      refine XS.lcmp X10.here hx rfl (hb hby d8_44) rfl ?_
      exact k)
    by_cases hc12 : x1 < q
    · skip
      obtain ⟨cq13, q13, q13'⟩ := (P0).cell
      obtain ⟨_, _, ⟨T13, L13, k13, n13⟩, -, X13, ⟨Lc13, hQ13, l13, y13, z13⟩, st13⟩ := X10.privateBack hx (y := (⟨"com/example/okno/okno/AdmissionLog", "ringAmountAt", "(I)J"⟩ : MethodName)) hown (mvT hZ (kw125 hw)) (mvT hZ (kw126 hw)) (mvT hZ (own_selP rfl (kw17 hw) (kw126 hw) (kw127 hw) (by decide))) (Cond.privateMethod_at (mvP hZ (kw127 hw) (args := #[]))) (mvT hZ (kw128 hw)) (by decide) (backOf (W := 2) (rmAt_30 l Z a0 hw [] a1 rs k1 ([(.long x0), (.long x1), (.long x2), (.long x3)]) ra k2 y0 y1 y2 y3 h0 n0 Z0 P0 P11 P13 P14 P16 P15 P17) hZ (kw128 hw) (kw18 hw) (by decide) (by decide)) (g := (mkF m 56 #[.val (.ref a1), .val (.int pw), .val (.long q), .second, .val (.int (3 : Int32)), .val (.long (r - y0)), .second, .val (.int (2 : Int32))] [(.int (1 : Int32)), (.ref a1), (.long (r - y0))])) rfl (by rw [hml]; rfl) (Steps.refl _) (a := a1) (by rw [e10]; exact q13) q13' (argsL := [(.int (1 : Int32))]) (rest := [(.long (r - y0))]) (lenOf pd_1 rfl) rfl (by show 2 * 0 + _ ≤ _; exact Nat.le_of_eq rfl) (hb hby d8_56) (fun _ _ => ⟨rfl, e10, (by decide : 0 + 0 ≤ _), (by decide : 0 + 0 ≤ _)⟩)
      dsimp only [Pt.U, Pt.locs, Pt.cells, Pt.slots] at X13 l13 y13 z13 st13 hQ13
      subst l13 y13 z13
      obtain ⟨rfl, N13q, e13⟩ := hQ13
      have N13 := Fr.app N10 N13q
      obtain ⟨cq14, q14, q14'⟩ := (P0).cell
      obtain ⟨_, _, ⟨T14, L14, k14, n14⟩, -, X14, ⟨Lc14, hQ14, l14, y14, z14⟩, st14⟩ := X13.privateBack hx (y := (⟨"com/example/okno/okno/AdmissionLog", "subWindowAt", "(I)J"⟩ : MethodName)) hown (mvT hZ (kw121 hw)) (mvT hZ (kw122 hw)) (mvT hZ (own_selP rfl (kw17 hw) (kw122 hw) (kw123 hw) (by decide))) (Cond.privateMethod_at (mvP hZ (kw123 hw) (args := #[]))) (mvT hZ (kw124 hw)) (by decide) (backOf (W := 0) (rmAt_31 l Z a0 hw [] a1 ns h0 n0 Z0 P11 P12) hZ (kw124 hw) (kw18 hw) (by decide) (by decide)) (g := (mkF m 40 #[.val (.ref a1), .val (.int pw), .val (.long q), .second, .val (.int (3 : Int32)), .val (.long ((r - y0) - y1)), .second, .val (.int (1 : Int32))] [(.int (2 : Int32)), (.ref a1)])) rfl (by rw [hml]; rfl) (Steps.refl _) (a := a1) (by rw [e13]; exact q14) q14' (argsL := [(.int (2 : Int32))]) (rest := []) (lenOf pd_1 rfl) rfl (by show 2 * 0 + _ ≤ _; exact Nat.le_of_eq rfl) (hb hby d8_40) (fun _ _ => ⟨rfl, e13, (by decide : 0 + 0 ≤ _), (by decide : 0 + 0 ≤ _)⟩)
      dsimp only [Pt.U, Pt.locs, Pt.cells, Pt.slots] at X14 l14 y14 z14 st14 hQ14
      subst l14 y14 z14
      obtain ⟨rfl, N14q, e14⟩ := hQ14
      have N14 := Fr.app N13 N14q
      have pre15 : ∀ t, Steps p.tables e below (T14.setTop (mkF m 45 #[.val (.ref a1), .val (.int pw), .val (.long q), .second, .val (.int (3 : Int32)), .val (.long ((r - y0) - y1)), .second, .val (.int (1 : Int32))] [(.int (lcmpW ns q))])) t → Steps p.tables e below (s₁.setTop (entryFrame m #[(.ref a1), (.int pw), (.long q)] 8)) t := fun t k => pre11 t (by
        refine XS.ifNo X10.here hx rfl (hb hby d8_45) rfl ((if0 _ _).trans (tlt ((lw_lt _ _).mpr hc12)).2.1) ?_
        refine XS.lload X10.here hx rfl (hb hby d8_48) rfl ?_
        refine XS.aloadN X10.here hx rfl (hb hby d8_50) rfl rfl ?_
        refine XS.iload X10.here hx rfl (hb hby d8_51) rfl ?_
        refine XS.iload X10.here hx rfl (hb hby d8_53) rfl ?_
        refine XS.isub X10.here hx rfl (hb hby d8_55) rfl ?_
        refine st13.trans ?_
        refine XS.lsub X13.here hx rfl (hb hby d8_59) rfl ?_
        refine XS.lstore X13.here hx rfl (hb hby d8_60) rfl (l' := #[.val (.ref a1), .val (.int pw), .val (.long q), .second, .val (.int (3 : Int32)), .val (.long ((r - y0) - y1)), .second, .val (.int (2 : Int32))]) rfl ?_
        refine XS.iinc X13.here hx rfl (hb hby d8_62) rfl (l' := #[.val (.ref a1), .val (.int pw), .val (.long q), .second, .val (.int (3 : Int32)), .val (.long ((r - y0) - y1)), .second, .val (.int (1 : Int32))]) rfl ?_
        refine XS.goto X13.here hx rfl (pc0 := 65) (pc' := 29) rfl (hb hby d8_65) (by decide) (by decide) ?_
        refine XS.iload X13.here hx rfl (hb hby d8_29) rfl ?_
        refine XS.ifNo X13.here hx rfl (hb hby d8_31) rfl ((if0 _ _).trans (tlt (by decide : (0 : Int32) < (1 : Int32))).2.2.2) ?_
        refine XS.aloadN X13.here hx rfl (hb hby d8_34) rfl rfl ?_
        refine XS.iload X13.here hx rfl (hb hby d8_35) rfl ?_
        refine XS.iload X13.here hx rfl (hb hby d8_37) rfl ?_
        refine XS.isub X13.here hx rfl (hb hby d8_39) rfl ?_
        refine st14.trans ?_
        refine XS.lloadN X14.here hx rfl (hb hby d8_43) rfl ?_
        refine XS.lcmp X14.here hx rfl (hb hby d8_44) rfl ?_
        exact k)
      by_cases hc16 : ns < q
      · skip
        obtain ⟨cq17, q17, q17'⟩ := (P0).cell
        obtain ⟨_, _, ⟨T17, L17, k17, n17⟩, -, X17, ⟨Lc17, hQ17, l17, y17, z17⟩, st17⟩ := X14.privateBack hx (y := (⟨"com/example/okno/okno/AdmissionLog", "ringAmountAt", "(I)J"⟩ : MethodName)) hown (mvT hZ (kw125 hw)) (mvT hZ (kw126 hw)) (mvT hZ (own_selP rfl (kw17 hw) (kw126 hw) (kw127 hw) (by decide))) (Cond.privateMethod_at (mvP hZ (kw127 hw) (args := #[]))) (mvT hZ (kw128 hw)) (by decide) (backOf (W := 2) (rmAt_32 l Z a0 hw [] a1 h0 n0 Z0 P11) hZ (kw128 hw) (kw18 hw) (by decide) (by decide)) (g := (mkF m 56 #[.val (.ref a1), .val (.int pw), .val (.long q), .second, .val (.int (3 : Int32)), .val (.long ((r - y0) - y1)), .second, .val (.int (1 : Int32))] [(.int (2 : Int32)), (.ref a1), (.long ((r - y0) - y1))])) rfl (by rw [hml]; rfl) (Steps.refl _) (a := a1) (by rw [e14]; exact q17) q17' (argsL := [(.int (2 : Int32))]) (rest := [(.long ((r - y0) - y1))]) (lenOf pd_1 rfl) rfl (by show 2 * 0 + _ ≤ _; exact Nat.le_of_eq rfl) (hb hby d8_56) (fun _ _ => ⟨rfl, e14, (by decide : 0 + 0 ≤ _), (by decide : 0 + 0 ≤ _)⟩)
        dsimp only [Pt.U, Pt.locs, Pt.cells, Pt.slots] at X17 l17 y17 z17 st17 hQ17
        subst l17 y17 z17
        obtain ⟨rfl, N17q, e17⟩ := hQ17
        have N17 := Fr.app N14 N17q
        obtain ⟨cq18, q18, q18'⟩ := (P0).cell
        obtain ⟨_, _, ⟨T18, L18, k18, n18⟩, -, X18, ⟨Lc18, hQ18, l18, y18, z18⟩, st18⟩ := X17.privateBack hx (y := (⟨"com/example/okno/okno/AdmissionLog", "subWindowAt", "(I)J"⟩ : MethodName)) hown (mvT hZ (kw121 hw)) (mvT hZ (kw122 hw)) (mvT hZ (own_selP rfl (kw17 hw) (kw122 hw) (kw123 hw) (by decide))) (Cond.privateMethod_at (mvP hZ (kw123 hw) (args := #[]))) (mvT hZ (kw124 hw)) (by decide) (backOf (W := 0) (rmAt_31 l Z a0 hw [] a1 ns h0 n0 Z0 P11 P12) hZ (kw124 hw) (kw18 hw) (by decide) (by decide)) (g := (mkF m 83 #[.val (.ref a1), .val (.int pw), .val (.long q), .second, .val (.int (3 : Int32)), .val (.long (((r - y0) - y1) - (0 : Int64))), .second, .val (.int (0 : Int32))] [(.int (2 : Int32)), (.ref a1)])) rfl (by rw [hml]; rfl) (Steps.refl _) (a := a1) (by rw [e17]; exact q18) q18' (argsL := [(.int (2 : Int32))]) (rest := []) (lenOf pd_1 rfl) rfl (by show 2 * 0 + _ ≤ _; exact Nat.le_of_eq rfl) (hb hby d8_83) (fun _ _ => ⟨rfl, e17, (by decide : 0 + 0 ≤ _), (by decide : 0 + 0 ≤ _)⟩)
        dsimp only [Pt.U, Pt.locs, Pt.cells, Pt.slots] at X18 l18 y18 z18 st18 hQ18
        subst l18 y18 z18
        obtain ⟨rfl, N18q, e18⟩ := hQ18
        have N18 := Fr.app N17 N18q
        obtain ⟨T19, X19, e19, st19⟩ := getF X18 hx hZ hown (host := "") (Or.inl (kw52 hw)) Via.refl e18 P10 (g := (mkF m 112 #[.val (.ref a1), .val (.int pw), .val (.long q), .second, .val (.int (3 : Int32)), .val (.long (((r - y0) - y1) - (0 : Int64))), .second, .val (.int (0 : Int32))] [(.ref a1)])) rfl rfl (hb hby d8_112)
        obtain ⟨cl20, Ar20, q20, S20, N20', H20, G20⟩ := id P4
        have hin20 : ¬ (((2 : Int32) * pw) < 0 ∨ cl20.slots.size ≤ (((2 : Int32) * pw)).toNatClampNeg) := inb_of S20 (own_ib hp)
        obtain ⟨T20, h20, X20, e20, W20, st20⟩ := stJ X19 hx hZ e19 Ar20 (j := ((2 : Int32) * pw)) hin20 (g := (mkF m 120 #[.val (.ref a1), .val (.int pw), .val (.long q), .second, .val (.int (3 : Int32)), .val (.long (((r - y0) - y1) - (0 : Int64))), .second, .val (.int (0 : Int32))] [(.long (((r - y0) - y1) - (0 : Int64))), (.int ((2 : Int32) * pw)), (.ref sw)])) rfl rfl (hb hby d8_120)
        have Z20 : n0 ≤ h20.size := Nat.le_trans Z0 (Keep.of_wr W20).1
        have K20 : Keep h0 h20 [sw] := KR.wr W20 (Or.inl (List.mem_of_getElem? (i := 0) rfl))
        have N20 := Fr.snoc X20 N18 P1
        have V20 : Arv Z h20 sw k3 .long (4 : Int32) (vs.set (((2 : Int32) * pw)).toNatClampNeg (.long (((r - y0) - y1) - (0 : Int64)))) (.long (0 : Int64)) := Arv.set Ar20 q20 S20 N20' H20 G20 rfl W20 (((2 : Int32) * pw)).toNatClampNeg rfl (own_ix hp hl)
        have f21 : Fld Z h20 a1 "com/example/okno/okno/AdmissionLog" "shorterWindows" "[J" (.ref sw) := (P10.other W20 (Or.inl (Ne.symm P2)))
        obtain ⟨T22, X22, e22, st22⟩ := getF X20 hx hZ hown (host := "") (Or.inl (kw52 hw)) Via.refl e20 f21 (g := (mkF m 122 #[.val (.ref a1), .val (.int pw), .val (.long q), .second, .val (.int (3 : Int32)), .val (.long (((r - y0) - y1) - (0 : Int64))), .second, .val (.int (0 : Int32))] [(.ref a1)])) rfl rfl (hb hby d8_122)
        obtain ⟨cl23, Ar23, q23, S23, N23', H23, G23⟩ := id V20
        have hin23 : ¬ ((((2 : Int32) * pw) + (1 : Int32)) < 0 ∨ cl23.slots.size ≤ ((((2 : Int32) * pw) + (1 : Int32))).toNatClampNeg) := inb_of S23 (own_ib1 hp)
        obtain ⟨T23, h23, X23, e23, W23, st23⟩ := stJ X22 hx hZ e22 Ar23 (j := (((2 : Int32) * pw) + (1 : Int32))) hin23 (g := (mkF m 133 #[.val (.ref a1), .val (.int pw), .val (.long q), .second, .val (.int (3 : Int32)), .val (.long (((r - y0) - y1) - (0 : Int64))), .second, .val (.int (0 : Int32))] [(.long (0 : Int64)), (.int (((2 : Int32) * pw) + (1 : Int32))), (.ref sw)])) rfl rfl (hb hby d8_133)
        have Z23 : n0 ≤ h23.size := Nat.le_trans Z20 (Keep.of_wr W23).1
        have K23 : Keep h0 h23 [sw] := K20.wr W23 (Or.inl (List.mem_of_getElem? (i := 0) rfl))
        have N23 := Fr.snoc X23 N20 P1
        have V23 : Arv Z h23 sw k3 .long (4 : Int32) ((vs.set (((2 : Int32) * pw)).toNatClampNeg (.long (((r - y0) - y1) - (0 : Int64)))).set ((((2 : Int32) * pw) + (1 : Int32))).toNatClampNeg (.long (0 : Int64))) (.long (0 : Int64)) := Arv.set Ar23 q23 S23 N23' H23 G23 rfl W23 ((((2 : Int32) * pw) + (1 : Int32))).toNatClampNeg rfl (own_ix1 hp (by simp [hl]))
        obtain ⟨fs, hr, hrun, hended, hW, hsame⟩ := X23.leave (v := none) (fun _ => rfl)
        refine ⟨_, _, pre15 _ ?_, hrun, hended, _, _, rfl, ?_, ⟨_, rfl⟩, hW, hsame.mono (by decide) (by decide)⟩
        · skip
          refine XS.ifNo X14.here hx rfl (hb hby d8_45) rfl ((if0 _ _).trans (tlt ((lw_lt _ _).mpr hc16)).2.1) ?_
          refine XS.lload X14.here hx rfl (hb hby d8_48) rfl ?_
          refine XS.aloadN X14.here hx rfl (hb hby d8_50) rfl rfl ?_
          refine XS.iload X14.here hx rfl (hb hby d8_51) rfl ?_
          refine XS.iload X14.here hx rfl (hb hby d8_53) rfl ?_
          refine XS.isub X14.here hx rfl (hb hby d8_55) rfl ?_
          refine st17.trans ?_
          refine XS.lsub X17.here hx rfl (hb hby d8_59) rfl ?_
          refine XS.lstore X17.here hx rfl (hb hby d8_60) rfl (l' := #[.val (.ref a1), .val (.int pw), .val (.long q), .second, .val (.int (3 : Int32)), .val (.long (((r - y0) - y1) - (0 : Int64))), .second, .val (.int (1 : Int32))]) rfl ?_
          refine XS.iinc X17.here hx rfl (hb hby d8_62) rfl (l' := #[.val (.ref a1), .val (.int pw), .val (.long q), .second, .val (.int (3 : Int32)), .val (.long (((r - y0) - y1) - (0 : Int64))), .second, .val (.int (0 : Int32))]) rfl ?_
          refine XS.goto X17.here hx rfl (pc0 := 65) (pc' := 29) rfl (hb hby d8_65) (by decide) (by decide) ?_
          refine XS.iload X17.here hx rfl (hb hby d8_29) rfl ?_
          refine XS.ifYes X17.here hx rfl (pc0 := 31) (pc' := 68) rfl (hb hby d8_31) rfl ((if0 _ _).trans (flt (by decide : ¬ ((0 : Int32) < (0 : Int32)))).2.2.2) (by decide) (by decide) ?_
          refine XS.iload X17.here hx rfl (hb hby d8_68) rfl ?_
          refine XS.iload X17.here hx rfl (hb hby d8_70) rfl ?_
          refine XS.icmpNo X17.here hx rfl (hb hby d8_72) rfl (tlt (by decide : (0 : Int32) < (3 : Int32))).2.1 ?_
          refine XS.aloadN X17.here hx rfl (hb hby d8_75) rfl rfl ?_
          refine XS.iload X17.here hx rfl (hb hby d8_76) rfl ?_
          refine XS.iload X17.here hx rfl (hb hby d8_78) rfl ?_
          refine XS.isub X17.here hx rfl (hb hby d8_80) rfl ?_
          refine XS.iconst X17.here hx rfl (hb hby d8_81) ?_
          refine XS.isub X17.here hx rfl (hb hby d8_82) rfl ?_
          refine st18.trans ?_
          refine XS.lloadN X18.here hx rfl (hb hby d8_86) rfl ?_
          refine XS.lcmp X18.here hx rfl (hb hby d8_87) rfl ?_
          show Steps p.tables e below (T18.setTop (mkF m 88 #[.val (.ref a1), .val (.int pw), .val (.long q), .second, .val (.int (3 : Int32)), .val (.long (((r - y0) - y1) - (0 : Int64))), .second, .val (.int (0 : Int32))] [(.int (lcmpW ns q))])) _
          refine XS.ifYes X18.here hx rfl (pc0 := 88) (pc' := 111) rfl (hb hby d8_88) rfl ((if0 _ _).trans (tlt ((lw_lt _ _).mpr hc16)).1) (by decide) (by decide) ?_
          refine XS.aloadN X18.here hx rfl (hb hby d8_111) rfl rfl ?_
          refine st19 _ ?_
          refine XS.iconst X19.here hx rfl (hb hby d8_115) ?_
          refine XS.iloadN X19.here hx rfl (hb hby d8_116) rfl ?_
          refine XS.imul X19.here hx rfl (hb hby d8_117) rfl ?_
          refine XS.lload X19.here hx rfl (hb hby d8_118) rfl ?_
          refine st20 _ ?_
          refine XS.aloadN X20.here hx rfl (hb hby d8_121) rfl rfl ?_
          refine st22 _ ?_
          refine XS.iconst X22.here hx rfl (hb hby d8_125) ?_
          refine XS.iloadN X22.here hx rfl (hb hby d8_126) rfl ?_
          refine XS.imul X22.here hx rfl (hb hby d8_127) rfl ?_
          refine XS.iconst X22.here hx rfl (hb hby d8_128) ?_
          refine XS.iadd X22.here hx rfl (hb hby d8_129) rfl ?_
          refine XS.iload X22.here hx rfl (hb hby d8_130) rfl ?_
          refine XS.i2l X22.here hx rfl (hb hby d8_132) rfl ?_
          refine st23 _ ?_
          show Steps p.tables e below (T23.setTop (mkF m 134 #[.val (.ref a1), .val (.int pw), .val (.long q), .second, .val (.int (3 : Int32)), .val (.long (((r - y0) - y1) - (0 : Int64))), .second, .val (.int (0 : Int32))] [])) _
          exact X23.returnOut hx Bd.returns (hb hby d8_134) hr
        · show Q_rmFit_25 Z a1 pw q sw k3 vs r ns x0 x1 y0 y1 tt x2 x3 y2 y3 rs ra k1 k2 h0 n0 _ T23.heap _
          rw [e23]
          exact ⟨rfl, N23, K23, (by simp only [own_fr2, own_fc2, if_pos hc8, if_pos hc12, if_pos hc16]; exact V23)⟩
      · skip
        obtain ⟨cq25, q25, q25'⟩ := (P0).cell
        obtain ⟨_, _, ⟨T25, L25, k25, n25⟩, -, X25, ⟨Lc25, hQ25, l25, y25, z25⟩, st25⟩ := X14.privateBack hx (y := (⟨"com/example/okno/okno/AdmissionLog", "subWindowAt", "(I)J"⟩ : MethodName)) hown (mvT hZ (kw121 hw)) (mvT hZ (kw122 hw)) (mvT hZ (own_selP rfl (kw17 hw) (kw122 hw) (kw123 hw) (by decide))) (Cond.privateMethod_at (mvP hZ (kw123 hw) (args := #[]))) (mvT hZ (kw124 hw)) (by decide) (backOf (W := 0) (rmAt_29 l Z a0 hw [] a1 rs k1 x0 x1 x2 x3 h0 n0 Z0 P0 P11 P13 P14 P16) hZ (kw124 hw) (kw18 hw) (by decide) (by decide)) (g := (mkF m 83 #[.val (.ref a1), .val (.int pw), .val (.long q), .second, .val (.int (3 : Int32)), .val (.long ((r - y0) - y1)), .second, .val (.int (1 : Int32))] [(.int (1 : Int32)), (.ref a1)])) rfl (by rw [hml]; rfl) (Steps.refl _) (a := a1) (by rw [e14]; exact q25) q25' (argsL := [(.int (1 : Int32))]) (rest := []) (lenOf pd_1 rfl) rfl (by show 2 * 0 + _ ≤ _; exact Nat.le_of_eq rfl) (hb hby d8_83) (fun _ _ => ⟨rfl, e14, (by decide : 0 + 0 ≤ _), (by decide : 0 + 0 ≤ _)⟩)
        dsimp only [Pt.U, Pt.locs, Pt.cells, Pt.slots] at X25 l25 y25 z25 st25 hQ25
        subst l25 y25 z25
        obtain ⟨rfl, N25q, e25⟩ := hQ25
        have N25 := Fr.app N14 N25q
        obtain ⟨T26, X26, e26, st26⟩ := getF X25 hx hZ hown (host := "") (Or.inl (kw52 hw)) Via.refl e25 P10 (g := (mkF m 112 #[.val (.ref a1), .val (.int pw), .val (.long q), .second, .val (.int (3 : Int32)), .val (.long ((r - y0) - y1)), .second, .val (.int (1 : Int32))] [(.ref a1)])) rfl rfl (hb hby d8_112)
        obtain ⟨cl27, Ar27, q27, S27, N27', H27, G27⟩ := id P4
        have hin27 : ¬ (((2 : Int32) * pw) < 0 ∨ cl27.slots.size ≤ (((2 : Int32) * pw)).toNatClampNeg) := inb_of S27 (own_ib hp)
        obtain ⟨T27, h27, X27, e27, W27, st27⟩ := stJ X26 hx hZ e26 Ar27 (j := ((2 : Int32) * pw)) hin27 (g := (mkF m 120 #[.val (.ref a1), .val (.int pw), .val (.long q), .second, .val (.int (3 : Int32)), .val (.long ((r - y0) - y1)), .second, .val (.int (1 : Int32))] [(.long ((r - y0) - y1)), (.int ((2 : Int32) * pw)), (.ref sw)])) rfl rfl (hb hby d8_120)
        have Z27 : n0 ≤ h27.size := Nat.le_trans Z0 (Keep.of_wr W27).1
        have K27 : Keep h0 h27 [sw] := KR.wr W27 (Or.inl (List.mem_of_getElem? (i := 0) rfl))
        have N27 := Fr.snoc X27 N25 P1
        have V27 : Arv Z h27 sw k3 .long (4 : Int32) (vs.set (((2 : Int32) * pw)).toNatClampNeg (.long ((r - y0) - y1))) (.long (0 : Int64)) := Arv.set Ar27 q27 S27 N27' H27 G27 rfl W27 (((2 : Int32) * pw)).toNatClampNeg rfl (own_ix hp hl)
        have f28 : Fld Z h27 a1 "com/example/okno/okno/AdmissionLog" "shorterWindows" "[J" (.ref sw) := (P10.other W27 (Or.inl (Ne.symm P2)))
        obtain ⟨T29, X29, e29, st29⟩ := getF X27 hx hZ hown (host := "") (Or.inl (kw52 hw)) Via.refl e27 f28 (g := (mkF m 122 #[.val (.ref a1), .val (.int pw), .val (.long q), .second, .val (.int (3 : Int32)), .val (.long ((r - y0) - y1)), .second, .val (.int (1 : Int32))] [(.ref a1)])) rfl rfl (hb hby d8_122)
        obtain ⟨cl30, Ar30, q30, S30, N30', H30, G30⟩ := id V27
        have hin30 : ¬ ((((2 : Int32) * pw) + (1 : Int32)) < 0 ∨ cl30.slots.size ≤ ((((2 : Int32) * pw) + (1 : Int32))).toNatClampNeg) := inb_of S30 (own_ib1 hp)
        obtain ⟨T30, h30, X30, e30, W30, st30⟩ := stJ X29 hx hZ e29 Ar30 (j := (((2 : Int32) * pw) + (1 : Int32))) hin30 (g := (mkF m 133 #[.val (.ref a1), .val (.int pw), .val (.long q), .second, .val (.int (3 : Int32)), .val (.long ((r - y0) - y1)), .second, .val (.int (1 : Int32))] [(.long (1 : Int64)), (.int (((2 : Int32) * pw) + (1 : Int32))), (.ref sw)])) rfl rfl (hb hby d8_133)
        have Z30 : n0 ≤ h30.size := Nat.le_trans Z27 (Keep.of_wr W30).1
        have K30 : Keep h0 h30 [sw] := K27.wr W30 (Or.inl (List.mem_of_getElem? (i := 0) rfl))
        have N30 := Fr.snoc X30 N27 P1
        have V30 : Arv Z h30 sw k3 .long (4 : Int32) ((vs.set (((2 : Int32) * pw)).toNatClampNeg (.long ((r - y0) - y1))).set ((((2 : Int32) * pw) + (1 : Int32))).toNatClampNeg (.long (1 : Int64))) (.long (0 : Int64)) := Arv.set Ar30 q30 S30 N30' H30 G30 rfl W30 ((((2 : Int32) * pw) + (1 : Int32))).toNatClampNeg rfl (own_ix1 hp (by simp [hl]))
        obtain ⟨fs, hr, hrun, hended, hW, hsame⟩ := X30.leave (v := none) (fun _ => rfl)
        refine ⟨_, _, pre15 _ ?_, hrun, hended, _, _, rfl, ?_, ⟨_, rfl⟩, hW, hsame.mono (by decide) (by decide)⟩
        · skip
          refine XS.ifYes X14.here hx rfl (pc0 := 45) (pc' := 68) rfl (hb hby d8_45) rfl ((if0 _ _).trans (flt (fun q => hc16 ((lw_lt _ _).mp q))).2.1) (by decide) (by decide) ?_
          refine XS.iload X14.here hx rfl (hb hby d8_68) rfl ?_
          refine XS.iload X14.here hx rfl (hb hby d8_70) rfl ?_
          refine XS.icmpNo X14.here hx rfl (hb hby d8_72) rfl (tlt (by decide : (1 : Int32) < (3 : Int32))).2.1 ?_
          refine XS.aloadN X14.here hx rfl (hb hby d8_75) rfl rfl ?_
          refine XS.iload X14.here hx rfl (hb hby d8_76) rfl ?_
          refine XS.iload X14.here hx rfl (hb hby d8_78) rfl ?_
          refine XS.isub X14.here hx rfl (hb hby d8_80) rfl ?_
          refine XS.iconst X14.here hx rfl (hb hby d8_81) ?_
          refine XS.isub X14.here hx rfl (hb hby d8_82) rfl ?_
          refine st25.trans ?_
          refine XS.lloadN X25.here hx rfl (hb hby d8_86) rfl ?_
          refine XS.lcmp X25.here hx rfl (hb hby d8_87) rfl ?_
          refine XS.ifYes X25.here hx rfl (pc0 := 88) (pc' := 111) rfl (hb hby d8_88) rfl ((if0 _ _).trans (tlt ((lw_lt _ _).mpr hc12)).1) (by decide) (by decide) ?_
          refine XS.aloadN X25.here hx rfl (hb hby d8_111) rfl rfl ?_
          refine st26 _ ?_
          refine XS.iconst X26.here hx rfl (hb hby d8_115) ?_
          refine XS.iloadN X26.here hx rfl (hb hby d8_116) rfl ?_
          refine XS.imul X26.here hx rfl (hb hby d8_117) rfl ?_
          refine XS.lload X26.here hx rfl (hb hby d8_118) rfl ?_
          refine st27 _ ?_
          refine XS.aloadN X27.here hx rfl (hb hby d8_121) rfl rfl ?_
          refine st29 _ ?_
          refine XS.iconst X29.here hx rfl (hb hby d8_125) ?_
          refine XS.iloadN X29.here hx rfl (hb hby d8_126) rfl ?_
          show Steps p.tables e below (T29.setTop (mkF m 127 #[.val (.ref a1), .val (.int pw), .val (.long q), .second, .val (.int (3 : Int32)), .val (.long ((r - y0) - y1)), .second, .val (.int (1 : Int32))] [(.int pw), (.int (2 : Int32)), (.ref sw)])) _
          refine XS.imul X29.here hx rfl (hb hby d8_127) rfl ?_
          refine XS.iconst X29.here hx rfl (hb hby d8_128) ?_
          refine XS.iadd X29.here hx rfl (hb hby d8_129) rfl ?_
          refine XS.iload X29.here hx rfl (hb hby d8_130) rfl ?_
          refine XS.i2l X29.here hx rfl (hb hby d8_132) rfl ?_
          refine st30 _ ?_
          show Steps p.tables e below (T30.setTop (mkF m 134 #[.val (.ref a1), .val (.int pw), .val (.long q), .second, .val (.int (3 : Int32)), .val (.long ((r - y0) - y1)), .second, .val (.int (1 : Int32))] [])) _
          exact X30.returnOut hx Bd.returns (hb hby d8_134) hr
        · show Q_rmFit_25 Z a1 pw q sw k3 vs r ns x0 x1 y0 y1 tt x2 x3 y2 y3 rs ra k1 k2 h0 n0 _ T30.heap _
          rw [e30]
          exact ⟨rfl, N30, K30, (by simp only [own_fr2, own_fc2, if_pos hc8, if_pos hc12, if_neg hc16]; exact V30)⟩
    · skip
      obtain ⟨cq32, q32, q32'⟩ := (P0).cell
      obtain ⟨_, _, ⟨T32, L32, k32, n32⟩, -, X32, ⟨Lc32, hQ32, l32, y32, z32⟩, st32⟩ := X10.privateBack hx (y := (⟨"com/example/okno/okno/AdmissionLog", "subWindowAt", "(I)J"⟩ : MethodName)) hown (mvT hZ (kw121 hw)) (mvT hZ (kw122 hw)) (mvT hZ (own_selP rfl (kw17 hw) (kw122 hw) (kw123 hw) (by decide))) (Cond.privateMethod_at (mvP hZ (kw123 hw) (args := #[]))) (mvT hZ (kw124 hw)) (by decide) (backOf (W := 0) (rmAt_27 l Z a0 hw [] a1 rs k1 x0 x1 x2 x3 h0 n0 Z0 P0 P11 P13 P14 P16) hZ (kw124 hw) (kw18 hw) (by decide) (by decide)) (g := (mkF m 83 #[.val (.ref a1), .val (.int pw), .val (.long q), .second, .val (.int (3 : Int32)), .val (.long (r - y0)), .second, .val (.int (2 : Int32))] [(.int (0 : Int32)), (.ref a1)])) rfl (by rw [hml]; rfl) (Steps.refl _) (a := a1) (by rw [e10]; exact q32) q32' (argsL := [(.int (0 : Int32))]) (rest := []) (lenOf pd_1 rfl) rfl (by show 2 * 0 + _ ≤ _; exact Nat.le_of_eq rfl) (hb hby d8_83) (fun _ _ => ⟨rfl, e10, (by decide : 0 + 0 ≤ _), (by decide : 0 + 0 ≤ _)⟩)
      dsimp only [Pt.U, Pt.locs, Pt.cells, Pt.slots] at X32 l32 y32 z32 st32 hQ32
      subst l32 y32 z32
      obtain ⟨rfl, N32q, e32⟩ := hQ32
      have N32 := Fr.app N10 N32q
      obtain ⟨T33, X33, e33, st33⟩ := getF X32 hx hZ hown (host := "") (Or.inl (kw52 hw)) Via.refl e32 P10 (g := (mkF m 112 #[.val (.ref a1), .val (.int pw), .val (.long q), .second, .val (.int (3 : Int32)), .val (.long (r - y0)), .second, .val (.int (2 : Int32))] [(.ref a1)])) rfl rfl (hb hby d8_112)
      obtain ⟨cl34, Ar34, q34, S34, N34', H34, G34⟩ := id P4
      have hin34 : ¬ (((2 : Int32) * pw) < 0 ∨ cl34.slots.size ≤ (((2 : Int32) * pw)).toNatClampNeg) := inb_of S34 (own_ib hp)
      obtain ⟨T34, h34, X34, e34, W34, st34⟩ := stJ X33 hx hZ e33 Ar34 (j := ((2 : Int32) * pw)) hin34 (g := (mkF m 120 #[.val (.ref a1), .val (.int pw), .val (.long q), .second, .val (.int (3 : Int32)), .val (.long (r - y0)), .second, .val (.int (2 : Int32))] [(.long (r - y0)), (.int ((2 : Int32) * pw)), (.ref sw)])) rfl rfl (hb hby d8_120)
      have Z34 : n0 ≤ h34.size := Nat.le_trans Z0 (Keep.of_wr W34).1
      have K34 : Keep h0 h34 [sw] := KR.wr W34 (Or.inl (List.mem_of_getElem? (i := 0) rfl))
      have N34 := Fr.snoc X34 N32 P1
      have V34 : Arv Z h34 sw k3 .long (4 : Int32) (vs.set (((2 : Int32) * pw)).toNatClampNeg (.long (r - y0))) (.long (0 : Int64)) := Arv.set Ar34 q34 S34 N34' H34 G34 rfl W34 (((2 : Int32) * pw)).toNatClampNeg rfl (own_ix hp hl)
      have f35 : Fld Z h34 a1 "com/example/okno/okno/AdmissionLog" "shorterWindows" "[J" (.ref sw) := (P10.other W34 (Or.inl (Ne.symm P2)))
      obtain ⟨T36, X36, e36, st36⟩ := getF X34 hx hZ hown (host := "") (Or.inl (kw52 hw)) Via.refl e34 f35 (g := (mkF m 122 #[.val (.ref a1), .val (.int pw), .val (.long q), .second, .val (.int (3 : Int32)), .val (.long (r - y0)), .second, .val (.int (2 : Int32))] [(.ref a1)])) rfl rfl (hb hby d8_122)
      obtain ⟨cl37, Ar37, q37, S37, N37', H37, G37⟩ := id V34
      have hin37 : ¬ ((((2 : Int32) * pw) + (1 : Int32)) < 0 ∨ cl37.slots.size ≤ ((((2 : Int32) * pw) + (1 : Int32))).toNatClampNeg) := inb_of S37 (own_ib1 hp)
      obtain ⟨T37, h37, X37, e37, W37, st37⟩ := stJ X36 hx hZ e36 Ar37 (j := (((2 : Int32) * pw) + (1 : Int32))) hin37 (g := (mkF m 133 #[.val (.ref a1), .val (.int pw), .val (.long q), .second, .val (.int (3 : Int32)), .val (.long (r - y0)), .second, .val (.int (2 : Int32))] [(.long (2 : Int64)), (.int (((2 : Int32) * pw) + (1 : Int32))), (.ref sw)])) rfl rfl (hb hby d8_133)
      have Z37 : n0 ≤ h37.size := Nat.le_trans Z34 (Keep.of_wr W37).1
      have K37 : Keep h0 h37 [sw] := K34.wr W37 (Or.inl (List.mem_of_getElem? (i := 0) rfl))
      have N37 := Fr.snoc X37 N34 P1
      have V37 : Arv Z h37 sw k3 .long (4 : Int32) ((vs.set (((2 : Int32) * pw)).toNatClampNeg (.long (r - y0))).set ((((2 : Int32) * pw) + (1 : Int32))).toNatClampNeg (.long (2 : Int64))) (.long (0 : Int64)) := Arv.set Ar37 q37 S37 N37' H37 G37 rfl W37 ((((2 : Int32) * pw) + (1 : Int32))).toNatClampNeg rfl (own_ix1 hp (by simp [hl]))
      obtain ⟨fs, hr, hrun, hended, hW, hsame⟩ := X37.leave (v := none) (fun _ => rfl)
      refine ⟨_, _, pre11 _ ?_, hrun, hended, _, _, rfl, ?_, ⟨_, rfl⟩, hW, hsame.mono (by decide) (by decide)⟩
      · skip
        refine XS.ifYes X10.here hx rfl (pc0 := 45) (pc' := 68) rfl (hb hby d8_45) rfl ((if0 _ _).trans (flt (fun q => hc12 ((lw_lt _ _).mp q))).2.1) (by decide) (by decide) ?_
        refine XS.iload X10.here hx rfl (hb hby d8_68) rfl ?_
        refine XS.iload X10.here hx rfl (hb hby d8_70) rfl ?_
        refine XS.icmpNo X10.here hx rfl (hb hby d8_72) rfl (tlt (by decide : (2 : Int32) < (3 : Int32))).2.1 ?_
        refine XS.aloadN X10.here hx rfl (hb hby d8_75) rfl rfl ?_
        refine XS.iload X10.here hx rfl (hb hby d8_76) rfl ?_
        refine XS.iload X10.here hx rfl (hb hby d8_78) rfl ?_
        refine XS.isub X10.here hx rfl (hb hby d8_80) rfl ?_
        refine XS.iconst X10.here hx rfl (hb hby d8_81) ?_
        refine XS.isub X10.here hx rfl (hb hby d8_82) rfl ?_
        refine st32.trans ?_
        refine XS.lloadN X32.here hx rfl (hb hby d8_86) rfl ?_
        refine XS.lcmp X32.here hx rfl (hb hby d8_87) rfl ?_
        refine XS.ifYes X32.here hx rfl (pc0 := 88) (pc' := 111) rfl (hb hby d8_88) rfl ((if0 _ _).trans (tlt ((lw_lt _ _).mpr hc8)).1) (by decide) (by decide) ?_
        refine XS.aloadN X32.here hx rfl (hb hby d8_111) rfl rfl ?_
        refine st33 _ ?_
        refine XS.iconst X33.here hx rfl (hb hby d8_115) ?_
        refine XS.iloadN X33.here hx rfl (hb hby d8_116) rfl ?_
        refine XS.imul X33.here hx rfl (hb hby d8_117) rfl ?_
        refine XS.lload X33.here hx rfl (hb hby d8_118) rfl ?_
        refine st34 _ ?_
        refine XS.aloadN X34.here hx rfl (hb hby d8_121) rfl rfl ?_
        refine st36 _ ?_
        refine XS.iconst X36.here hx rfl (hb hby d8_125) ?_
        refine XS.iloadN X36.here hx rfl (hb hby d8_126) rfl ?_
        show Steps p.tables e below (T36.setTop (mkF m 127 #[.val (.ref a1), .val (.int pw), .val (.long q), .second, .val (.int (3 : Int32)), .val (.long (r - y0)), .second, .val (.int (2 : Int32))] [(.int pw), (.int (2 : Int32)), (.ref sw)])) _
        refine XS.imul X36.here hx rfl (hb hby d8_127) rfl ?_
        refine XS.iconst X36.here hx rfl (hb hby d8_128) ?_
        refine XS.iadd X36.here hx rfl (hb hby d8_129) rfl ?_
        refine XS.iload X36.here hx rfl (hb hby d8_130) rfl ?_
        refine XS.i2l X36.here hx rfl (hb hby d8_132) rfl ?_
        refine st37 _ ?_
        show Steps p.tables e below (T37.setTop (mkF m 134 #[.val (.ref a1), .val (.int pw), .val (.long q), .second, .val (.int (3 : Int32)), .val (.long (r - y0)), .second, .val (.int (2 : Int32))] [])) _
        exact X37.returnOut hx Bd.returns (hb hby d8_134) hr
      · show Q_rmFit_25 Z a1 pw q sw k3 vs r ns x0 x1 y0 y1 tt x2 x3 y2 y3 rs ra k1 k2 h0 n0 _ T37.heap _
        rw [e37]
        exact ⟨rfl, N37, K37, (by simp only [own_fr2, own_fc2, if_pos hc8, if_neg hc12]; exact V37)⟩
  · skip
    obtain ⟨T39, X39, e39, st39⟩ := getF X6 hx hZ hown (host := "") (Or.inl (kw52 hw)) Via.refl e6 P10 (g := (mkF m 112 #[.val (.ref a1), .val (.int pw), .val (.long q), .second, .val (.int (3 : Int32)), .val (.long r), .second, .val (.int (3 : Int32))] [(.ref a1)])) rfl rfl (hb hby d8_112)
    obtain ⟨cl40, Ar40, q40, S40, N40', H40, G40⟩ := id P4
    have hin40 : ¬ (((2 : Int32) * pw) < 0 ∨ cl40.slots.size ≤ (((2 : Int32) * pw)).toNatClampNeg) := inb_of S40 (own_ib hp)
    obtain ⟨T40, h40, X40, e40, W40, st40⟩ := stJ X39 hx hZ e39 Ar40 (j := ((2 : Int32) * pw)) hin40 (g := (mkF m 120 #[.val (.ref a1), .val (.int pw), .val (.long q), .second, .val (.int (3 : Int32)), .val (.long r), .second, .val (.int (3 : Int32))] [(.long r), (.int ((2 : Int32) * pw)), (.ref sw)])) rfl rfl (hb hby d8_120)
    have Z40 : n0 ≤ h40.size := Nat.le_trans Z0 (Keep.of_wr W40).1
    have K40 : Keep h0 h40 [sw] := KR.wr W40 (Or.inl (List.mem_of_getElem? (i := 0) rfl))
    have N40 := Fr.snoc X40 N6 P1
    have V40 : Arv Z h40 sw k3 .long (4 : Int32) (vs.set (((2 : Int32) * pw)).toNatClampNeg (.long r)) (.long (0 : Int64)) := Arv.set Ar40 q40 S40 N40' H40 G40 rfl W40 (((2 : Int32) * pw)).toNatClampNeg rfl (own_ix hp hl)
    have f41 : Fld Z h40 a1 "com/example/okno/okno/AdmissionLog" "shorterWindows" "[J" (.ref sw) := (P10.other W40 (Or.inl (Ne.symm P2)))
    obtain ⟨T42, X42, e42, st42⟩ := getF X40 hx hZ hown (host := "") (Or.inl (kw52 hw)) Via.refl e40 f41 (g := (mkF m 122 #[.val (.ref a1), .val (.int pw), .val (.long q), .second, .val (.int (3 : Int32)), .val (.long r), .second, .val (.int (3 : Int32))] [(.ref a1)])) rfl rfl (hb hby d8_122)
    obtain ⟨cl43, Ar43, q43, S43, N43', H43, G43⟩ := id V40
    have hin43 : ¬ ((((2 : Int32) * pw) + (1 : Int32)) < 0 ∨ cl43.slots.size ≤ ((((2 : Int32) * pw) + (1 : Int32))).toNatClampNeg) := inb_of S43 (own_ib1 hp)
    obtain ⟨T43, h43, X43, e43, W43, st43⟩ := stJ X42 hx hZ e42 Ar43 (j := (((2 : Int32) * pw) + (1 : Int32))) hin43 (g := (mkF m 133 #[.val (.ref a1), .val (.int pw), .val (.long q), .second, .val (.int (3 : Int32)), .val (.long r), .second, .val (.int (3 : Int32))] [(.long (3 : Int64)), (.int (((2 : Int32) * pw) + (1 : Int32))), (.ref sw)])) rfl rfl (hb hby d8_133)
    have Z43 : n0 ≤ h43.size := Nat.le_trans Z40 (Keep.of_wr W43).1
    have K43 : Keep h0 h43 [sw] := K40.wr W43 (Or.inl (List.mem_of_getElem? (i := 0) rfl))
    have N43 := Fr.snoc X43 N40 P1
    have V43 : Arv Z h43 sw k3 .long (4 : Int32) ((vs.set (((2 : Int32) * pw)).toNatClampNeg (.long r)).set ((((2 : Int32) * pw) + (1 : Int32))).toNatClampNeg (.long (3 : Int64))) (.long (0 : Int64)) := Arv.set Ar43 q43 S43 N43' H43 G43 rfl W43 ((((2 : Int32) * pw) + (1 : Int32))).toNatClampNeg rfl (own_ix1 hp (by simp [hl]))
    obtain ⟨fs, hr, hrun, hended, hW, hsame⟩ := X43.leave (v := none) (fun _ => rfl)
    refine ⟨_, _, pre7 _ ?_, hrun, hended, _, _, rfl, ?_, ⟨_, rfl⟩, hW, hsame.mono (by decide) (by decide)⟩
    · skip
      refine XS.ifYes X6.here hx rfl (pc0 := 45) (pc' := 68) rfl (hb hby d8_45) rfl ((if0 _ _).trans (flt (fun q => hc8 ((lw_lt _ _).mp q))).2.1) (by decide) (by decide) ?_
      refine XS.iload X6.here hx rfl (hb hby d8_68) rfl ?_
      refine XS.iload X6.here hx rfl (hb hby d8_70) rfl ?_
      refine XS.icmpYes X6.here hx rfl (pc0 := 72) (pc' := 111) rfl (hb hby d8_72) rfl (flt (by decide : ¬ ((3 : Int32) < (3 : Int32)))).2.1 (by decide) (by decide) ?_
      refine XS.aloadN X6.here hx rfl (hb hby d8_111) rfl rfl ?_
      refine st39 _ ?_
      refine XS.iconst X39.here hx rfl (hb hby d8_115) ?_
      refine XS.iloadN X39.here hx rfl (hb hby d8_116) rfl ?_
      refine XS.imul X39.here hx rfl (hb hby d8_117) rfl ?_
      refine XS.lload X39.here hx rfl (hb hby d8_118) rfl ?_
      refine st40 _ ?_
      refine XS.aloadN X40.here hx rfl (hb hby d8_121) rfl rfl ?_
      refine st42 _ ?_
      refine XS.iconst X42.here hx rfl (hb hby d8_125) ?_
      refine XS.iloadN X42.here hx rfl (hb hby d8_126) rfl ?_
      refine XS.imul X42.here hx rfl (hb hby d8_127) rfl ?_
      refine XS.iconst X42.here hx rfl (hb hby d8_128) ?_
      refine XS.iadd X42.here hx rfl (hb hby d8_129) rfl ?_
      refine XS.iload X42.here hx rfl (hb hby d8_130) rfl ?_
      refine XS.i2l X42.here hx rfl (hb hby d8_132) rfl ?_
      refine st43 _ ?_
      show Steps p.tables e below (T43.setTop (mkF m 134 #[.val (.ref a1), .val (.int pw), .val (.long q), .second, .val (.int (3 : Int32)), .val (.long r), .second, .val (.int (3 : Int32))] [])) _
      exact X43.returnOut hx Bd.returns (hb hby d8_134) hr
    · show Q_rmFit_25 Z a1 pw q sw k3 vs r ns x0 x1 y0 y1 tt x2 x3 y2 y3 rs ra k1 k2 h0 n0 _ T43.heap _
      rw [e43]
      exact ⟨rfl, N43, K43, (by simp only [own_fr2, own_fc2, if_neg hc8]; exact V43)⟩
theorem ef_rm0 (m : MethodId) (x0 : Int64) (x1 : Int64) (x2 : Int32) (x3 : Int32) (x4 : Int32) : entryFrame m #[(.long x0), (.long x1), (.int x2), (.int x3), (.int x4)] maxLocals = mkF m 0 #[.val (.long x0), .second, .val (.long x1), .second, .val (.int x2), .val (.int x3), .val (.int x4), .unset, .unset, .unset, .unset, .unset, .unset, .unset, .unset, .unset, .unset, .unset, .unset, .unset, .unset, .unset, .unset, .unset, .unset, .unset, .unset, .unset, .unset, .unset, .unset, .unset, .unset, .unset, .unset, .unset, .unset, .unset, .unset, .unset, .unset, .unset] [] := by first | (simp [entryFrame, mkF, argsToLocals, Value.category, maxLocals]; done) | rfl
def Q_rm0 (Z : State) (q1 : Int64) (q2 : Int64) (p3 : Int32) (p4 : Int32) (p5 : Int32) (w_NO_ENTRIES : Addr) (kn : ClassId) (h0 : Heap) (n0 : Nat) (v : Option Value) (h : Heap) (L : List Loc) : Prop := v = some (.int (1 : Int32)) ∧ Fr n0 L ∧ Keep h0 h []
set_option maxRecDepth 65536 in
set_option maxHeartbeats 40000000 in
theorem rm0 (l : Launch) (Z : State) (a0 : Array Value) (hw : ∀ d ∈ tables_1, d.before a0 Z = true) (ws : List Jvm.Cond) (q1 : Int64) (q2 : Int64) (p3 : Int32) (p4 : Int32) (p5 : Int32) (w_NO_ENTRIES : Addr) (kn : ClassId) (h0 : Heap) (n0 : Nat) (Z0 : n0 ≤ h0.size) (P0 : Old Z n0 h0) (P1 : Sta Z Z.heap "com/example/okno/okno/AdmissionLog" "NO_ENTRIES" "[J" (.ref w_NO_ENTRIES)) (P2 : Arv Z h0 w_NO_ENTRIES kn .long (0 : Int32) [] (.long (0 : Int64))) :
    MetFree l x (head1 (Jvm.Cond.code x code maxLocals ret :: ws) room_1) (fun a U => a = #[(.long q1), (.long q2), (.int p3), (.int p4), (.int p5)] ∧ Z.Warmed39 U.vm ∧ U.heap = h0) (fun _ _ _ _ _ => True) (fun _ U o U' => ∃ v L, o = .returned v ∧ Q_rm0 Z q1 q2 p3 p4 p5 w_NO_ENTRIES kn h0 n0 v U'.heap L ∧ FrameEnd U o U' L room_1.cells room_1.slots) := by
  refine MetFree.of_bodySF (plainFor_of_name pn_1) hisR ?_
  intro p e s m args below meth c s₁ Bd hml0 hP hK
  obtain ⟨rfl, hZ, hh⟩ := hP
  have hx := Bd.exec
  have hby := Bd.bytes
  have hml : c.maxLocals = 42 := hml0
  have hown : s.vm.findClass "com/example/okno/okno/AdmissionLogShorterTotalPinLaw" = some m.cls := findClass_of_methodNamed Bd.named
  have hnm := (name_of_methodNamed Bd.named Bd.method).1
  have X0 : Stand p l e room_1 s m #[(.long q1), (.long q2), (.int p3), (.int p4), (.int p5)] below meth c s₁ [] 0 0 := Stand.of_body Bd
  have e0 : s₁.heap = h0 := by rw [← hh, Bd.state]; rfl
  have N0 := Fr.nil n0
  have KR : Keep h0 h0 [] := Keep.refl h0 _
  have pre0 : ∀ t, Steps p.tables e below (s₁.setTop (mkF m 0 #[.val (.long q1), .second, .val (.long q2), .second, .val (.int p3), .val (.int p4), .val (.int p5), .unset, .unset, .unset, .unset, .unset, .unset, .unset, .unset, .unset, .unset, .unset, .unset, .unset, .unset, .unset, .unset, .unset, .unset, .unset, .unset, .unset, .unset, .unset, .unset, .unset, .unset, .unset, .unset, .unset, .unset, .unset, .unset, .unset, .unset, .unset] [])) t → Steps p.tables e below (s₁.setTop (entryFrame m #[(.long q1), (.long q2), (.int p3), (.int p4), (.int p5)] maxLocals)) t := fun t k => castTop (ef_rm0 m (q1) (q2) (p3) (p4) (p5)) k
  have pre1 : ∀ t, Steps p.tables e below (s₁.setTop (mkF m 9 #[.val (.long q1), .second, .val (.long q2), .second, .val (.int p3), .val (.int p4), .val (.int p5), .val (.long ((1 : Int64) + (q2 &&& (3 : Int64)))), .second, .unset, .unset, .unset, .unset, .unset, .unset, .unset, .unset, .unset, .unset, .unset, .unset, .unset, .unset, .unset, .unset, .unset, .unset, .unset, .unset, .unset, .unset, .unset, .unset, .unset, .unset, .unset, .unset, .unset, .unset, .unset, .unset, .unset] [])) t → Steps p.tables e below (s₁.setTop (entryFrame m #[(.long q1), (.long q2), (.int p3), (.int p4), (.int p5)] maxLocals)) t := fun t k => pre0 t (by
    refine XS.lconst X0.here hx rfl (hb hby at_0) ?_
    refine XS.lloadN X0.here hx rfl (hb hby at_1) rfl ?_
    refine X0.ldc2Long hx hown (mvT hZ (kw0 hw)) (g := (mkF m 2 #[.val (.long q1), .second, .val (.long q2), .second, .val (.int p3), .val (.int p4), .val (.int p5), .unset, .unset, .unset, .unset, .unset, .unset, .unset, .unset, .unset, .unset, .unset, .unset, .unset, .unset, .unset, .unset, .unset, .unset, .unset, .unset, .unset, .unset, .unset, .unset, .unset, .unset, .unset, .unset, .unset, .unset, .unset, .unset, .unset, .unset, .unset] [(.long q2), (.long (1 : Int64))])) rfl (hb hby at_2) _ ?_
    refine XS.land X0.here hx rfl (hb hby at_5) rfl ?_
    refine XS.ladd X0.here hx rfl (hb hby at_6) rfl ?_
    refine XS.lstore X0.here hx rfl (hb hby at_7) rfl (l' := #[.val (.long q1), .second, .val (.long q2), .second, .val (.int p3), .val (.int p4), .val (.int p5), .val (.long ((1 : Int64) + (q2 &&& (3 : Int64)))), .second, .unset, .unset, .unset, .unset, .unset, .unset, .unset, .unset, .unset, .unset, .unset, .unset, .unset, .unset, .unset, .unset, .unset, .unset, .unset, .unset, .unset, .unset, .unset, .unset, .unset, .unset, .unset, .unset, .unset, .unset, .unset, .unset, .unset]) rfl ?_
    exact k)
  obtain ⟨g, h_g⟩ : ∃ z : Int64, z = ((1 : Int64) + (q2 &&& (3 : Int64))) := ⟨_, rfl⟩
  rw [← h_g] at pre1
  have hg : 1 ≤ g.toInt ∧ g.toInt ≤ 4 := by rw [h_g]; exact own_gr _
  have hgz : g ≠ (0 : Int64) := own_bne hg (by decide)
  have pre2 : ∀ t, Steps p.tables e below (s₁.setTop (mkF m 18 #[.val (.long q1), .second, .val (.long q2), .second, .val (.int p3), .val (.int p4), .val (.int p5), .val (.long g), .second, .val (.long (((q2.toUInt64 >>> ((2 : Int32) &&& 0x3f).toInt64.toUInt64).toInt64) &&& (7 : Int64))), .second, .unset, .unset, .unset, .unset, .unset, .unset, .unset, .unset, .unset, .unset, .unset, .unset, .unset, .unset, .unset, .unset, .unset, .unset, .unset, .unset, .unset, .unset, .unset, .unset, .unset, .unset, .unset, .unset, .unset, .unset, .unset] [])) t → Steps p.tables e below (s₁.setTop (entryFrame m #[(.long q1), (.long q2), (.int p3), (.int p4), (.int p5)] maxLocals)) t := fun t k => pre1 t (by
    refine XS.lloadN X0.here hx rfl (hb hby at_9) rfl ?_
    refine XS.iconst X0.here hx rfl (hb hby at_10) ?_
    refine XS.lushr X0.here hx rfl (hb hby at_11) rfl ?_
    refine X0.ldc2Long hx hown (mvT hZ (kw1 hw)) (g := (mkF m 12 #[.val (.long q1), .second, .val (.long q2), .second, .val (.int p3), .val (.int p4), .val (.int p5), .val (.long g), .second, .unset, .unset, .unset, .unset, .unset, .unset, .unset, .unset, .unset, .unset, .unset, .unset, .unset, .unset, .unset, .unset, .unset, .unset, .unset, .unset, .unset, .unset, .unset, .unset, .unset, .unset, .unset, .unset, .unset, .unset, .unset, .unset, .unset] [(.long ((q2.toUInt64 >>> ((2 : Int32) &&& 0x3f).toInt64.toUInt64).toInt64))])) rfl (hb hby at_12) _ ?_
    refine XS.land X0.here hx rfl (hb hby at_15) rfl ?_
    refine XS.lstore X0.here hx rfl (hb hby at_16) rfl (l' := #[.val (.long q1), .second, .val (.long q2), .second, .val (.int p3), .val (.int p4), .val (.int p5), .val (.long g), .second, .val (.long (((q2.toUInt64 >>> ((2 : Int32) &&& 0x3f).toInt64.toUInt64).toInt64) &&& (7 : Int64))), .second, .unset, .unset, .unset, .unset, .unset, .unset, .unset, .unset, .unset, .unset, .unset, .unset, .unset, .unset, .unset, .unset, .unset, .unset, .unset, .unset, .unset, .unset, .unset, .unset, .unset, .unset, .unset, .unset, .unset, .unset, .unset]) rfl ?_
    exact k)
  obtain ⟨da, h_da⟩ : ∃ z : Int64, z = (((q2.toUInt64 >>> ((2 : Int32) &&& 0x3f).toInt64.toUInt64).toInt64) &&& (7 : Int64)) := ⟨_, rfl⟩
  rw [← h_da] at pre2
  have hda : 0 ≤ da.toInt ∧ da.toInt ≤ 7 := by rw [h_da]; exact own_d7 _
  have pre3 : ∀ t, Steps p.tables e below (s₁.setTop (mkF m 27 #[.val (.long q1), .second, .val (.long q2), .second, .val (.int p3), .val (.int p4), .val (.int p5), .val (.long g), .second, .val (.long da), .second, .val (.long (((q2.toUInt64 >>> ((5 : Int32) &&& 0x3f).toInt64.toUInt64).toInt64) &&& (7 : Int64))), .second, .unset, .unset, .unset, .unset, .unset, .unset, .unset, .unset, .unset, .unset, .unset, .unset, .unset, .unset, .unset, .unset, .unset, .unset, .unset, .unset, .unset, .unset, .unset, .unset, .unset, .unset, .unset, .unset, .unset] [])) t → Steps p.tables e below (s₁.setTop (entryFrame m #[(.long q1), (.long q2), (.int p3), (.int p4), (.int p5)] maxLocals)) t := fun t k => pre2 t (by
    refine XS.lloadN X0.here hx rfl (hb hby at_18) rfl ?_
    refine XS.iconst X0.here hx rfl (hb hby at_19) ?_
    refine XS.lushr X0.here hx rfl (hb hby at_20) rfl ?_
    refine X0.ldc2Long hx hown (mvT hZ (kw1 hw)) (g := (mkF m 21 #[.val (.long q1), .second, .val (.long q2), .second, .val (.int p3), .val (.int p4), .val (.int p5), .val (.long g), .second, .val (.long da), .second, .unset, .unset, .unset, .unset, .unset, .unset, .unset, .unset, .unset, .unset, .unset, .unset, .unset, .unset, .unset, .unset, .unset, .unset, .unset, .unset, .unset, .unset, .unset, .unset, .unset, .unset, .unset, .unset, .unset, .unset, .unset] [(.long ((q2.toUInt64 >>> ((5 : Int32) &&& 0x3f).toInt64.toUInt64).toInt64))])) rfl (hb hby at_21) _ ?_
    refine XS.land X0.here hx rfl (hb hby at_24) rfl ?_
    refine XS.lstore X0.here hx rfl (hb hby at_25) rfl (l' := #[.val (.long q1), .second, .val (.long q2), .second, .val (.int p3), .val (.int p4), .val (.int p5), .val (.long g), .second, .val (.long da), .second, .val (.long (((q2.toUInt64 >>> ((5 : Int32) &&& 0x3f).toInt64.toUInt64).toInt64) &&& (7 : Int64))), .second, .unset, .unset, .unset, .unset, .unset, .unset, .unset, .unset, .unset, .unset, .unset, .unset, .unset, .unset, .unset, .unset, .unset, .unset, .unset, .unset, .unset, .unset, .unset, .unset, .unset, .unset, .unset, .unset, .unset]) rfl ?_
    exact k)
  obtain ⟨db, h_db⟩ : ∃ z : Int64, z = (((q2.toUInt64 >>> ((5 : Int32) &&& 0x3f).toInt64.toUInt64).toInt64) &&& (7 : Int64)) := ⟨_, rfl⟩
  rw [← h_db] at pre3
  have hdb : 0 ≤ db.toInt ∧ db.toInt ≤ 7 := by rw [h_db]; exact own_d7 _
  have pre4 : ∀ t, Steps p.tables e below (s₁.setTop (mkF m 38 #[.val (.long q1), .second, .val (.long q2), .second, .val (.int p3), .val (.int p4), .val (.int p5), .val (.long g), .second, .val (.long da), .second, .val (.long db), .second, .val (.int ((((q2.toUInt64 >>> ((8 : Int32) &&& 0x3f).toInt64.toUInt64).toInt64) &&& (3 : Int64)).toInt32)), .unset, .unset, .unset, .unset, .unset, .unset, .unset, .unset, .unset, .unset, .unset, .unset, .unset, .unset, .unset, .unset, .unset, .unset, .unset, .unset, .unset, .unset, .unset, .unset, .unset, .unset, .unset, .unset] [])) t → Steps p.tables e below (s₁.setTop (entryFrame m #[(.long q1), (.long q2), (.int p3), (.int p4), (.int p5)] maxLocals)) t := fun t k => pre3 t (by
    refine XS.lloadN X0.here hx rfl (hb hby at_27) rfl ?_
    refine XS.bipush X0.here hx rfl (hb hby at_28) ?_
    refine XS.lushr X0.here hx rfl (hb hby at_30) rfl ?_
    refine X0.ldc2Long hx hown (mvT hZ (kw0 hw)) (g := (mkF m 31 #[.val (.long q1), .second, .val (.long q2), .second, .val (.int p3), .val (.int p4), .val (.int p5), .val (.long g), .second, .val (.long da), .second, .val (.long db), .second, .unset, .unset, .unset, .unset, .unset, .unset, .unset, .unset, .unset, .unset, .unset, .unset, .unset, .unset, .unset, .unset, .unset, .unset, .unset, .unset, .unset, .unset, .unset, .unset, .unset, .unset, .unset, .unset, .unset] [(.long ((q2.toUInt64 >>> ((8 : Int32) &&& 0x3f).toInt64.toUInt64).toInt64))])) rfl (hb hby at_31) _ ?_
    refine XS.land X0.here hx rfl (hb hby at_34) rfl ?_
    refine XS.l2i X0.here hx rfl (hb hby at_35) rfl ?_
    refine XS.istore X0.here hx rfl (hb hby at_36) rfl (l' := #[.val (.long q1), .second, .val (.long q2), .second, .val (.int p3), .val (.int p4), .val (.int p5), .val (.long g), .second, .val (.long da), .second, .val (.long db), .second, .val (.int ((((q2.toUInt64 >>> ((8 : Int32) &&& 0x3f).toInt64.toUInt64).toInt64) &&& (3 : Int64)).toInt32)), .unset, .unset, .unset, .unset, .unset, .unset, .unset, .unset, .unset, .unset, .unset, .unset, .unset, .unset, .unset, .unset, .unset, .unset, .unset, .unset, .unset, .unset, .unset, .unset, .unset, .unset, .unset, .unset]) rfl ?_
    exact k)
  obtain ⟨nn, h_nn⟩ : ∃ z : Int32, z = ((((q2.toUInt64 >>> ((8 : Int32) &&& 0x3f).toInt64.toUInt64).toInt64) &&& (3 : Int64)).toInt32) := ⟨_, rfl⟩
  rw [← h_nn] at pre4
  have pre5 : ∀ t, Steps p.tables e below (s₁.setTop (mkF m 47 #[.val (.long q1), .second, .val (.long q2), .second, .val (.int p3), .val (.int p4), .val (.int p5), .val (.long g), .second, .val (.long da), .second, .val (.long db), .second, .val (.int nn), .val (.int ((((q2.toUInt64 >>> ((10 : Int32) &&& 0x3f).toInt64.toUInt64).toInt64) &&& (1 : Int64)).toInt32)), .unset, .unset, .unset, .unset, .unset, .unset, .unset, .unset, .unset, .unset, .unset, .unset, .unset, .unset, .unset, .unset, .unset, .unset, .unset, .unset, .unset, .unset, .unset, .unset, .unset, .unset, .unset] [])) t → Steps p.tables e below (s₁.setTop (entryFrame m #[(.long q1), (.long q2), (.int p3), (.int p4), (.int p5)] maxLocals)) t := fun t k => pre4 t (by
    refine XS.lloadN X0.here hx rfl (hb hby at_38) rfl ?_
    refine XS.bipush X0.here hx rfl (hb hby at_39) ?_
    refine XS.lushr X0.here hx rfl (hb hby at_41) rfl ?_
    refine XS.lconst X0.here hx rfl (hb hby at_42) ?_
    refine XS.land X0.here hx rfl (hb hby at_43) rfl ?_
    refine XS.l2i X0.here hx rfl (hb hby at_44) rfl ?_
    refine XS.istore X0.here hx rfl (hb hby at_45) rfl (l' := #[.val (.long q1), .second, .val (.long q2), .second, .val (.int p3), .val (.int p4), .val (.int p5), .val (.long g), .second, .val (.long da), .second, .val (.long db), .second, .val (.int nn), .val (.int ((((q2.toUInt64 >>> ((10 : Int32) &&& 0x3f).toInt64.toUInt64).toInt64) &&& (1 : Int64)).toInt32)), .unset, .unset, .unset, .unset, .unset, .unset, .unset, .unset, .unset, .unset, .unset, .unset, .unset, .unset, .unset, .unset, .unset, .unset, .unset, .unset, .unset, .unset, .unset, .unset, .unset, .unset, .unset]) rfl ?_
    exact k)
  obtain ⟨wv, h_wv⟩ : ∃ z : Int32, z = ((((q2.toUInt64 >>> ((10 : Int32) &&& 0x3f).toInt64.toUInt64).toInt64) &&& (1 : Int64)).toInt32) := ⟨_, rfl⟩
  rw [← h_wv] at pre5
  have hw01 : wv = (0 : Int32) ∨ wv = (1 : Int32) := by rw [h_wv]; exact own_w01 _
  obtain ⟨_, _, ⟨T6, L6, k6, n6⟩, -, X6, ⟨Lc6, hQ6, l6, y6, z6⟩, st6⟩ := Jvm.LawKit.callS X0 hx (y := (⟨"java/lang/Math", "min", "(JJ)J"⟩ : MethodName)) hown (mvT hZ (kw4 hw)) (mvT hZ (kw5 hw)) (mvT hZ (kw6 hw)) (mvT hZ (kw7 hw)) (by decide) (backOf (W := 0) (rmMin l Z a0 hw [] q1 (9223372036854775743 : Int64) h0 n0 Z0 ) hZ (kw7 hw) (kw6 hw) (by decide) (by decide)) (g := (mkF m 61 #[.val (.long q1), .second, .val (.long q2), .second, .val (.int p3), .val (.int p4), .val (.int p5), .val (.long g), .second, .val (.long da), .second, .val (.long db), .second, .val (.int nn), .val (.int wv), .val (.long (((q2.toUInt64 >>> ((11 : Int32) &&& 0x3f).toInt64.toUInt64).toInt64) &&& (15 : Int64))), .second, .unset, .unset, .unset, .unset, .unset, .unset, .unset, .unset, .unset, .unset, .unset, .unset, .unset, .unset, .unset, .unset, .unset, .unset, .unset, .unset, .unset, .unset, .unset, .unset, .unset] [(.long (9223372036854775743 : Int64)), (.long q1)])) rfl (by rw [hml]; rfl) (argsL := [(.long q1), (.long (9223372036854775743 : Int64))]) (rest := []) (lenOf pd_0 rfl) rfl (by show 2 * 0 + _ ≤ _; exact Nat.le_of_eq rfl) (hb hby at_61) (fun _ _ => ⟨rfl, e0, (by decide : 0 + 0 ≤ _), (by decide : 0 + 0 ≤ _)⟩)
  dsimp only [Pt.U, Pt.locs, Pt.cells, Pt.slots] at X6 l6 y6 z6 st6 hQ6
  subst l6 y6 z6
  obtain ⟨rfl, N6q, e6⟩ := hQ6
  have N6 := Fr.app N0 N6q
  have pre7 : ∀ t, Steps p.tables e below (T6.setTop (mkF m 66 #[.val (.long q1), .second, .val (.long q2), .second, .val (.int p3), .val (.int p4), .val (.int p5), .val (.long g), .second, .val (.long da), .second, .val (.long db), .second, .val (.int nn), .val (.int wv), .val (.long (((q2.toUInt64 >>> ((11 : Int32) &&& 0x3f).toInt64.toUInt64).toInt64) &&& (15 : Int64))), .second, .val (.long (own_mn q1 (9223372036854775743 : Int64))), .second, .unset, .unset, .unset, .unset, .unset, .unset, .unset, .unset, .unset, .unset, .unset, .unset, .unset, .unset, .unset, .unset, .unset, .unset, .unset, .unset, .unset, .unset, .unset] [])) t → Steps p.tables e below (s₁.setTop (entryFrame m #[(.long q1), (.long q2), (.int p3), (.int p4), (.int p5)] maxLocals)) t := fun t k => pre5 t (by
    refine XS.lloadN X0.here hx rfl (hb hby at_47) rfl ?_
    refine XS.bipush X0.here hx rfl (hb hby at_48) ?_
    refine XS.lushr X0.here hx rfl (hb hby at_50) rfl ?_
    refine X0.ldc2Long hx hown (mvT hZ (kw2 hw)) (g := (mkF m 51 #[.val (.long q1), .second, .val (.long q2), .second, .val (.int p3), .val (.int p4), .val (.int p5), .val (.long g), .second, .val (.long da), .second, .val (.long db), .second, .val (.int nn), .val (.int wv), .unset, .unset, .unset, .unset, .unset, .unset, .unset, .unset, .unset, .unset, .unset, .unset, .unset, .unset, .unset, .unset, .unset, .unset, .unset, .unset, .unset, .unset, .unset, .unset, .unset, .unset, .unset] [(.long ((q2.toUInt64 >>> ((11 : Int32) &&& 0x3f).toInt64.toUInt64).toInt64))])) rfl (hb hby at_51) _ ?_
    refine XS.land X0.here hx rfl (hb hby at_54) rfl ?_
    refine XS.lstore X0.here hx rfl (hb hby at_55) rfl (l' := #[.val (.long q1), .second, .val (.long q2), .second, .val (.int p3), .val (.int p4), .val (.int p5), .val (.long g), .second, .val (.long da), .second, .val (.long db), .second, .val (.int nn), .val (.int wv), .val (.long (((q2.toUInt64 >>> ((11 : Int32) &&& 0x3f).toInt64.toUInt64).toInt64) &&& (15 : Int64))), .second, .unset, .unset, .unset, .unset, .unset, .unset, .unset, .unset, .unset, .unset, .unset, .unset, .unset, .unset, .unset, .unset, .unset, .unset, .unset, .unset, .unset, .unset, .unset, .unset, .unset]) rfl ?_
    refine XS.lloadN X0.here hx rfl (hb hby at_57) rfl ?_
    refine X0.ldc2Long hx hown (mvT hZ (kw3 hw)) (g := (mkF m 58 #[.val (.long q1), .second, .val (.long q2), .second, .val (.int p3), .val (.int p4), .val (.int p5), .val (.long g), .second, .val (.long da), .second, .val (.long db), .second, .val (.int nn), .val (.int wv), .val (.long (((q2.toUInt64 >>> ((11 : Int32) &&& 0x3f).toInt64.toUInt64).toInt64) &&& (15 : Int64))), .second, .unset, .unset, .unset, .unset, .unset, .unset, .unset, .unset, .unset, .unset, .unset, .unset, .unset, .unset, .unset, .unset, .unset, .unset, .unset, .unset, .unset, .unset, .unset, .unset, .unset] [(.long q1)])) rfl (hb hby at_58) _ ?_
    refine st6 _ ?_
    refine XS.lstore X6.here hx rfl (hb hby at_64) rfl (l' := #[.val (.long q1), .second, .val (.long q2), .second, .val (.int p3), .val (.int p4), .val (.int p5), .val (.long g), .second, .val (.long da), .second, .val (.long db), .second, .val (.int nn), .val (.int wv), .val (.long (((q2.toUInt64 >>> ((11 : Int32) &&& 0x3f).toInt64.toUInt64).toInt64) &&& (15 : Int64))), .second, .val (.long (own_mn q1 (9223372036854775743 : Int64))), .second, .unset, .unset, .unset, .unset, .unset, .unset, .unset, .unset, .unset, .unset, .unset, .unset, .unset, .unset, .unset, .unset, .unset, .unset, .unset, .unset, .unset, .unset, .unset]) rfl ?_
    exact k)
  obtain ⟨ta, h_ta⟩ : ∃ z : Int64, z = (own_mn q1 (9223372036854775743 : Int64)) := ⟨_, rfl⟩
  rw [← h_ta] at pre7
  have hta : ta.toInt ≤ 9223372036854775743 := by rw [h_ta]; exact own_min64 _
  have pre8 : ∀ t, Steps p.tables e below (T6.setTop (mkF m 73 #[.val (.long q1), .second, .val (.long q2), .second, .val (.int p3), .val (.int p4), .val (.int p5), .val (.long g), .second, .val (.long da), .second, .val (.long db), .second, .val (.int nn), .val (.int wv), .val (.long (((q2.toUInt64 >>> ((11 : Int32) &&& 0x3f).toInt64.toUInt64).toInt64) &&& (15 : Int64))), .second, .val (.long ta), .second, .val (.long (ta + da)), .second, .unset, .unset, .unset, .unset, .unset, .unset, .unset, .unset, .unset, .unset, .unset, .unset, .unset, .unset, .unset, .unset, .unset, .unset, .unset, .unset, .unset] [])) t → Steps p.tables e below (s₁.setTop (entryFrame m #[(.long q1), (.long q2), (.int p3), (.int p4), (.int p5)] maxLocals)) t := fun t k => pre7 t (by
    refine XS.lload X6.here hx rfl (hb hby at_66) rfl ?_
    refine XS.lload X6.here hx rfl (hb hby at_68) rfl ?_
    refine XS.ladd X6.here hx rfl (hb hby at_70) rfl ?_
    refine XS.lstore X6.here hx rfl (hb hby at_71) rfl (l' := #[.val (.long q1), .second, .val (.long q2), .second, .val (.int p3), .val (.int p4), .val (.int p5), .val (.long g), .second, .val (.long da), .second, .val (.long db), .second, .val (.int nn), .val (.int wv), .val (.long (((q2.toUInt64 >>> ((11 : Int32) &&& 0x3f).toInt64.toUInt64).toInt64) &&& (15 : Int64))), .second, .val (.long ta), .second, .val (.long (ta + da)), .second, .unset, .unset, .unset, .unset, .unset, .unset, .unset, .unset, .unset, .unset, .unset, .unset, .unset, .unset, .unset, .unset, .unset, .unset, .unset, .unset, .unset]) rfl ?_
    exact k)
  obtain ⟨tb, h_tb⟩ : ∃ z : Int64, z = (ta + da) := ⟨_, rfl⟩
  rw [← h_tb] at pre8
  have hm1 : ¬ (own_fd tb g) < (own_fd ta g) := by rw [h_tb]; exact own_mono hg hda (by omega)
  have htb : tb.toInt ≤ 9223372036854775780 := by rw [h_tb]; exact own_addle hda hta
  have pre9 : ∀ t, Steps p.tables e below (T6.setTop (mkF m 80 #[.val (.long q1), .second, .val (.long q2), .second, .val (.int p3), .val (.int p4), .val (.int p5), .val (.long g), .second, .val (.long da), .second, .val (.long db), .second, .val (.int nn), .val (.int wv), .val (.long (((q2.toUInt64 >>> ((11 : Int32) &&& 0x3f).toInt64.toUInt64).toInt64) &&& (15 : Int64))), .second, .val (.long ta), .second, .val (.long tb), .second, .val (.long (tb + db)), .second, .unset, .unset, .unset, .unset, .unset, .unset, .unset, .unset, .unset, .unset, .unset, .unset, .unset, .unset, .unset, .unset, .unset, .unset, .unset] [])) t → Steps p.tables e below (s₁.setTop (entryFrame m #[(.long q1), (.long q2), (.int p3), (.int p4), (.int p5)] maxLocals)) t := fun t k => pre8 t (by
    refine XS.lload X6.here hx rfl (hb hby at_73) rfl ?_
    refine XS.lload X6.here hx rfl (hb hby at_75) rfl ?_
    refine XS.ladd X6.here hx rfl (hb hby at_77) rfl ?_
    refine XS.lstore X6.here hx rfl (hb hby at_78) rfl (l' := #[.val (.long q1), .second, .val (.long q2), .second, .val (.int p3), .val (.int p4), .val (.int p5), .val (.long g), .second, .val (.long da), .second, .val (.long db), .second, .val (.int nn), .val (.int wv), .val (.long (((q2.toUInt64 >>> ((11 : Int32) &&& 0x3f).toInt64.toUInt64).toInt64) &&& (15 : Int64))), .second, .val (.long ta), .second, .val (.long tb), .second, .val (.long (tb + db)), .second, .unset, .unset, .unset, .unset, .unset, .unset, .unset, .unset, .unset, .unset, .unset, .unset, .unset, .unset, .unset, .unset, .unset, .unset, .unset]) rfl ?_
    exact k)
  obtain ⟨tc, h_tc⟩ : ∃ z : Int64, z = (tb + db) := ⟨_, rfl⟩
  rw [← h_tc] at pre9
  have hm2 : ¬ (own_fd tc g) < (own_fd tb g) := by rw [h_tc]; exact own_mono hg hdb htb
  obtain ⟨_, _, ⟨T10, L10, k10, n10⟩, -, X10, ⟨Lc10, hQ10, l10, y10, z10⟩, st10⟩ := Jvm.LawKit.callS X6 hx (y := (⟨"com/example/okno/okno/AdmissionLogShorterTotalPinLaw", "amountOf", "(I)J"⟩ : MethodName)) hown (mvT hZ (kw8 hw)) (mvT hZ (kw9 hw)) (mvT hZ (kw10 hw)) (mvT hZ (kw11 hw)) (by decide) (backOf (W := 0) (rmAmt l Z a0 hw [] p3 h0 n0 Z0 ) hZ (kw11 hw) (kw10 hw) (by decide) (by decide)) (g := (mkF m 82 #[.val (.long q1), .second, .val (.long q2), .second, .val (.int p3), .val (.int p4), .val (.int p5), .val (.long g), .second, .val (.long da), .second, .val (.long db), .second, .val (.int nn), .val (.int wv), .val (.long (((q2.toUInt64 >>> ((11 : Int32) &&& 0x3f).toInt64.toUInt64).toInt64) &&& (15 : Int64))), .second, .val (.long ta), .second, .val (.long tb), .second, .val (.long tc), .second, .unset, .unset, .unset, .unset, .unset, .unset, .unset, .unset, .unset, .unset, .unset, .unset, .unset, .unset, .unset, .unset, .unset, .unset, .unset] [(.int p3)])) rfl (by rw [hml]; rfl) (argsL := [(.int p3)]) (rest := []) (lenOf pd_1 rfl) rfl (by show 2 * 0 + _ ≤ _; exact Nat.le_of_eq rfl) (hb hby at_82) (fun _ _ => ⟨rfl, e6, (by decide : 0 + 0 ≤ _), (by decide : 0 + 0 ≤ _)⟩)
  dsimp only [Pt.U, Pt.locs, Pt.cells, Pt.slots] at X10 l10 y10 z10 st10 hQ10
  subst l10 y10 z10
  obtain ⟨rfl, N10q, e10⟩ := hQ10
  have N10 := Fr.app N6 N10q
  have pre11 : ∀ t, Steps p.tables e below (T10.setTop (mkF m 87 #[.val (.long q1), .second, .val (.long q2), .second, .val (.int p3), .val (.int p4), .val (.int p5), .val (.long g), .second, .val (.long da), .second, .val (.long db), .second, .val (.int nn), .val (.int wv), .val (.long (((q2.toUInt64 >>> ((11 : Int32) &&& 0x3f).toInt64.toUInt64).toInt64) &&& (15 : Int64))), .second, .val (.long ta), .second, .val (.long tb), .second, .val (.long tc), .second, .val (.long ((p3.toInt64 &&& (2147483647 : Int64)) + (1 : Int64))), .second, .unset, .unset, .unset, .unset, .unset, .unset, .unset, .unset, .unset, .unset, .unset, .unset, .unset, .unset, .unset, .unset, .unset] [])) t → Steps p.tables e below (s₁.setTop (entryFrame m #[(.long q1), (.long q2), (.int p3), (.int p4), (.int p5)] maxLocals)) t := fun t k => pre9 t (by
    refine XS.iload X6.here hx rfl (hb hby at_80) rfl ?_
    refine st10 _ ?_
    refine XS.lstore X10.here hx rfl (hb hby at_85) rfl (l' := #[.val (.long q1), .second, .val (.long q2), .second, .val (.int p3), .val (.int p4), .val (.int p5), .val (.long g), .second, .val (.long da), .second, .val (.long db), .second, .val (.int nn), .val (.int wv), .val (.long (((q2.toUInt64 >>> ((11 : Int32) &&& 0x3f).toInt64.toUInt64).toInt64) &&& (15 : Int64))), .second, .val (.long ta), .second, .val (.long tb), .second, .val (.long tc), .second, .val (.long ((p3.toInt64 &&& (2147483647 : Int64)) + (1 : Int64))), .second, .unset, .unset, .unset, .unset, .unset, .unset, .unset, .unset, .unset, .unset, .unset, .unset, .unset, .unset, .unset, .unset, .unset]) rfl ?_
    exact k)
  obtain ⟨ea, h_ea⟩ : ∃ z : Int64, z = ((p3.toInt64 &&& (2147483647 : Int64)) + (1 : Int64)) := ⟨_, rfl⟩
  rw [← h_ea] at pre11
  have hea : 1 ≤ ea.toInt ∧ ea.toInt ≤ 2147483648 := by rw [h_ea]; exact own_amt _
  obtain ⟨_, _, ⟨T12, L12, k12, n12⟩, -, X12, ⟨Lc12, hQ12, l12, y12, z12⟩, st12⟩ := Jvm.LawKit.callS X10 hx (y := (⟨"com/example/okno/okno/AdmissionLogShorterTotalPinLaw", "amountOf", "(I)J"⟩ : MethodName)) hown (mvT hZ (kw8 hw)) (mvT hZ (kw9 hw)) (mvT hZ (kw10 hw)) (mvT hZ (kw11 hw)) (by decide) (backOf (W := 0) (rmAmt l Z a0 hw [] p4 h0 n0 Z0 ) hZ (kw11 hw) (kw10 hw) (by decide) (by decide)) (g := (mkF m 89 #[.val (.long q1), .second, .val (.long q2), .second, .val (.int p3), .val (.int p4), .val (.int p5), .val (.long g), .second, .val (.long da), .second, .val (.long db), .second, .val (.int nn), .val (.int wv), .val (.long (((q2.toUInt64 >>> ((11 : Int32) &&& 0x3f).toInt64.toUInt64).toInt64) &&& (15 : Int64))), .second, .val (.long ta), .second, .val (.long tb), .second, .val (.long tc), .second, .val (.long ea), .second, .unset, .unset, .unset, .unset, .unset, .unset, .unset, .unset, .unset, .unset, .unset, .unset, .unset, .unset, .unset, .unset, .unset] [(.int p4)])) rfl (by rw [hml]; rfl) (argsL := [(.int p4)]) (rest := []) (lenOf pd_1 rfl) rfl (by show 2 * 0 + _ ≤ _; exact Nat.le_of_eq rfl) (hb hby at_89) (fun _ _ => ⟨rfl, e10, (by decide : 0 + 0 ≤ _), (by decide : 0 + 0 ≤ _)⟩)
  dsimp only [Pt.U, Pt.locs, Pt.cells, Pt.slots] at X12 l12 y12 z12 st12 hQ12
  subst l12 y12 z12
  obtain ⟨rfl, N12q, e12⟩ := hQ12
  have N12 := Fr.app N10 N12q
  have pre13 : ∀ t, Steps p.tables e below (T12.setTop (mkF m 94 #[.val (.long q1), .second, .val (.long q2), .second, .val (.int p3), .val (.int p4), .val (.int p5), .val (.long g), .second, .val (.long da), .second, .val (.long db), .second, .val (.int nn), .val (.int wv), .val (.long (((q2.toUInt64 >>> ((11 : Int32) &&& 0x3f).toInt64.toUInt64).toInt64) &&& (15 : Int64))), .second, .val (.long ta), .second, .val (.long tb), .second, .val (.long tc), .second, .val (.long ea), .second, .val (.long ((p4.toInt64 &&& (2147483647 : Int64)) + (1 : Int64))), .second, .unset, .unset, .unset, .unset, .unset, .unset, .unset, .unset, .unset, .unset, .unset, .unset, .unset, .unset, .unset] [])) t → Steps p.tables e below (s₁.setTop (entryFrame m #[(.long q1), (.long q2), (.int p3), (.int p4), (.int p5)] maxLocals)) t := fun t k => pre11 t (by
    refine XS.iload X10.here hx rfl (hb hby at_87) rfl ?_
    refine st12 _ ?_
    refine XS.lstore X12.here hx rfl (hb hby at_92) rfl (l' := #[.val (.long q1), .second, .val (.long q2), .second, .val (.int p3), .val (.int p4), .val (.int p5), .val (.long g), .second, .val (.long da), .second, .val (.long db), .second, .val (.int nn), .val (.int wv), .val (.long (((q2.toUInt64 >>> ((11 : Int32) &&& 0x3f).toInt64.toUInt64).toInt64) &&& (15 : Int64))), .second, .val (.long ta), .second, .val (.long tb), .second, .val (.long tc), .second, .val (.long ea), .second, .val (.long ((p4.toInt64 &&& (2147483647 : Int64)) + (1 : Int64))), .second, .unset, .unset, .unset, .unset, .unset, .unset, .unset, .unset, .unset, .unset, .unset, .unset, .unset, .unset, .unset]) rfl ?_
    exact k)
  obtain ⟨eb, h_eb⟩ : ∃ z : Int64, z = ((p4.toInt64 &&& (2147483647 : Int64)) + (1 : Int64)) := ⟨_, rfl⟩
  rw [← h_eb] at pre13
  have heb : 1 ≤ eb.toInt ∧ eb.toInt ≤ 2147483648 := by rw [h_eb]; exact own_amt _
  obtain ⟨_, _, ⟨T14, L14, k14, n14⟩, -, X14, ⟨Lc14, hQ14, l14, y14, z14⟩, st14⟩ := Jvm.LawKit.callS X12 hx (y := (⟨"com/example/okno/okno/AdmissionLogShorterTotalPinLaw", "amountOf", "(I)J"⟩ : MethodName)) hown (mvT hZ (kw8 hw)) (mvT hZ (kw9 hw)) (mvT hZ (kw10 hw)) (mvT hZ (kw11 hw)) (by decide) (backOf (W := 0) (rmAmt l Z a0 hw [] p5 h0 n0 Z0 ) hZ (kw11 hw) (kw10 hw) (by decide) (by decide)) (g := (mkF m 96 #[.val (.long q1), .second, .val (.long q2), .second, .val (.int p3), .val (.int p4), .val (.int p5), .val (.long g), .second, .val (.long da), .second, .val (.long db), .second, .val (.int nn), .val (.int wv), .val (.long (((q2.toUInt64 >>> ((11 : Int32) &&& 0x3f).toInt64.toUInt64).toInt64) &&& (15 : Int64))), .second, .val (.long ta), .second, .val (.long tb), .second, .val (.long tc), .second, .val (.long ea), .second, .val (.long eb), .second, .unset, .unset, .unset, .unset, .unset, .unset, .unset, .unset, .unset, .unset, .unset, .unset, .unset, .unset, .unset] [(.int p5)])) rfl (by rw [hml]; rfl) (argsL := [(.int p5)]) (rest := []) (lenOf pd_1 rfl) rfl (by show 2 * 0 + _ ≤ _; exact Nat.le_of_eq rfl) (hb hby at_96) (fun _ _ => ⟨rfl, e12, (by decide : 0 + 0 ≤ _), (by decide : 0 + 0 ≤ _)⟩)
  dsimp only [Pt.U, Pt.locs, Pt.cells, Pt.slots] at X14 l14 y14 z14 st14 hQ14
  subst l14 y14 z14
  obtain ⟨rfl, N14q, e14⟩ := hQ14
  have N14 := Fr.app N12 N14q
  have pre15 : ∀ t, Steps p.tables e below (T14.setTop (mkF m 101 #[.val (.long q1), .second, .val (.long q2), .second, .val (.int p3), .val (.int p4), .val (.int p5), .val (.long g), .second, .val (.long da), .second, .val (.long db), .second, .val (.int nn), .val (.int wv), .val (.long (((q2.toUInt64 >>> ((11 : Int32) &&& 0x3f).toInt64.toUInt64).toInt64) &&& (15 : Int64))), .second, .val (.long ta), .second, .val (.long tb), .second, .val (.long tc), .second, .val (.long ea), .second, .val (.long eb), .second, .val (.long ((p5.toInt64 &&& (2147483647 : Int64)) + (1 : Int64))), .second, .unset, .unset, .unset, .unset, .unset, .unset, .unset, .unset, .unset, .unset, .unset, .unset, .unset] [])) t → Steps p.tables e below (s₁.setTop (entryFrame m #[(.long q1), (.long q2), (.int p3), (.int p4), (.int p5)] maxLocals)) t := fun t k => pre13 t (by
    refine XS.iload X12.here hx rfl (hb hby at_94) rfl ?_
    refine st14 _ ?_
    refine XS.lstore X14.here hx rfl (hb hby at_99) rfl (l' := #[.val (.long q1), .second, .val (.long q2), .second, .val (.int p3), .val (.int p4), .val (.int p5), .val (.long g), .second, .val (.long da), .second, .val (.long db), .second, .val (.int nn), .val (.int wv), .val (.long (((q2.toUInt64 >>> ((11 : Int32) &&& 0x3f).toInt64.toUInt64).toInt64) &&& (15 : Int64))), .second, .val (.long ta), .second, .val (.long tb), .second, .val (.long tc), .second, .val (.long ea), .second, .val (.long eb), .second, .val (.long ((p5.toInt64 &&& (2147483647 : Int64)) + (1 : Int64))), .second, .unset, .unset, .unset, .unset, .unset, .unset, .unset, .unset, .unset, .unset, .unset, .unset, .unset]) rfl ?_
    exact k)
  obtain ⟨ec, h_ec⟩ : ∃ z : Int64, z = ((p5.toInt64 &&& (2147483647 : Int64)) + (1 : Int64)) := ⟨_, rfl⟩
  rw [← h_ec] at pre15
  have hec : 1 ≤ ec.toInt ∧ ec.toInt ≤ 2147483648 := by rw [h_ec]; exact own_amt _
  obtain ⟨_, _, ⟨T16, L16, k16, n16⟩, -, X16, ⟨Lc16, hQ16, l16, y16, z16⟩, st16⟩ := Jvm.LawKit.callS X14 hx (y := (⟨"com/example/okno/okno/AdmissionLogShorterTotalPinLaw", "floorDivPositive", "(JJ)J"⟩ : MethodName)) hown (mvT hZ (kw13 hw)) (mvT hZ (kw14 hw)) (mvT hZ (kw10 hw)) (mvT hZ (kw15 hw)) (by decide) (backOf (W := 0) (rmFdp l Z a0 hw [] ta g h0 n0 Z0 hg hgz) hZ (kw15 hw) (kw10 hw) (by decide) (by decide)) (g := (mkF m 105 #[.val (.long q1), .second, .val (.long q2), .second, .val (.int p3), .val (.int p4), .val (.int p5), .val (.long g), .second, .val (.long da), .second, .val (.long db), .second, .val (.int nn), .val (.int wv), .val (.long (((q2.toUInt64 >>> ((11 : Int32) &&& 0x3f).toInt64.toUInt64).toInt64) &&& (15 : Int64))), .second, .val (.long ta), .second, .val (.long tb), .second, .val (.long tc), .second, .val (.long ea), .second, .val (.long eb), .second, .val (.long ec), .second, .unset, .unset, .unset, .unset, .unset, .unset, .unset, .unset, .unset, .unset, .unset, .unset, .unset] [(.long g), (.long ta)])) rfl (by rw [hml]; rfl) (argsL := [(.long ta), (.long g)]) (rest := []) (lenOf pd_0 rfl) rfl (by show 2 * 0 + _ ≤ _; exact Nat.le_of_eq rfl) (hb hby at_105) (fun _ _ => ⟨rfl, e14, (by decide : 0 + 0 ≤ _), (by decide : 0 + 0 ≤ _)⟩)
  dsimp only [Pt.U, Pt.locs, Pt.cells, Pt.slots] at X16 l16 y16 z16 st16 hQ16
  subst l16 y16 z16
  obtain ⟨rfl, N16q, e16⟩ := hQ16
  have N16 := Fr.app N14 N16q
  obtain ⟨_, _, ⟨T17, L17, k17, n17⟩, -, X17, ⟨Lc17, hQ17, l17, y17, z17⟩, st17⟩ := Jvm.LawKit.callS X16 hx (y := (⟨"com/example/okno/okno/AdmissionLogShorterTotalPinLaw", "floorDivPositive", "(JJ)J"⟩ : MethodName)) hown (mvT hZ (kw13 hw)) (mvT hZ (kw14 hw)) (mvT hZ (kw10 hw)) (mvT hZ (kw15 hw)) (by decide) (backOf (W := 0) (rmFdp l Z a0 hw [] tb g h0 n0 Z0 hg hgz) hZ (kw15 hw) (kw10 hw) (by decide) (by decide)) (g := (mkF m 114 #[.val (.long q1), .second, .val (.long q2), .second, .val (.int p3), .val (.int p4), .val (.int p5), .val (.long g), .second, .val (.long da), .second, .val (.long db), .second, .val (.int nn), .val (.int wv), .val (.long (((q2.toUInt64 >>> ((11 : Int32) &&& 0x3f).toInt64.toUInt64).toInt64) &&& (15 : Int64))), .second, .val (.long ta), .second, .val (.long tb), .second, .val (.long tc), .second, .val (.long ea), .second, .val (.long eb), .second, .val (.long ec), .second, .val (.long (own_fd ta g)), .second, .unset, .unset, .unset, .unset, .unset, .unset, .unset, .unset, .unset, .unset, .unset] [(.long g), (.long tb)])) rfl (by rw [hml]; rfl) (argsL := [(.long tb), (.long g)]) (rest := []) (lenOf pd_0 rfl) rfl (by show 2 * 0 + _ ≤ _; exact Nat.le_of_eq rfl) (hb hby at_114) (fun _ _ => ⟨rfl, e16, (by decide : 0 + 0 ≤ _), (by decide : 0 + 0 ≤ _)⟩)
  dsimp only [Pt.U, Pt.locs, Pt.cells, Pt.slots] at X17 l17 y17 z17 st17 hQ17
  subst l17 y17 z17
  obtain ⟨rfl, N17q, e17⟩ := hQ17
  have N17 := Fr.app N16 N17q
  obtain ⟨_, _, ⟨T18, L18, k18, n18⟩, -, X18, ⟨Lc18, hQ18, l18, y18, z18⟩, st18⟩ := Jvm.LawKit.callS X17 hx (y := (⟨"com/example/okno/okno/AdmissionLogShorterTotalPinLaw", "floorDivPositive", "(JJ)J"⟩ : MethodName)) hown (mvT hZ (kw13 hw)) (mvT hZ (kw14 hw)) (mvT hZ (kw10 hw)) (mvT hZ (kw15 hw)) (by decide) (backOf (W := 0) (rmFdp l Z a0 hw [] tc g h0 n0 Z0 hg hgz) hZ (kw15 hw) (kw10 hw) (by decide) (by decide)) (g := (mkF m 123 #[.val (.long q1), .second, .val (.long q2), .second, .val (.int p3), .val (.int p4), .val (.int p5), .val (.long g), .second, .val (.long da), .second, .val (.long db), .second, .val (.int nn), .val (.int wv), .val (.long (((q2.toUInt64 >>> ((11 : Int32) &&& 0x3f).toInt64.toUInt64).toInt64) &&& (15 : Int64))), .second, .val (.long ta), .second, .val (.long tb), .second, .val (.long tc), .second, .val (.long ea), .second, .val (.long eb), .second, .val (.long ec), .second, .val (.long (own_fd ta g)), .second, .val (.long (own_fd tb g)), .second, .unset, .unset, .unset, .unset, .unset, .unset, .unset, .unset, .unset] [(.long g), (.long tc)])) rfl (by rw [hml]; rfl) (argsL := [(.long tc), (.long g)]) (rest := []) (lenOf pd_0 rfl) rfl (by show 2 * 0 + _ ≤ _; exact Nat.le_of_eq rfl) (hb hby at_123) (fun _ _ => ⟨rfl, e17, (by decide : 0 + 0 ≤ _), (by decide : 0 + 0 ≤ _)⟩)
  dsimp only [Pt.U, Pt.locs, Pt.cells, Pt.slots] at X18 l18 y18 z18 st18 hQ18
  subst l18 y18 z18
  obtain ⟨rfl, N18q, e18⟩ := hQ18
  have N18 := Fr.app N17 N18q
  have pre19 : ∀ t, Steps p.tables e below (T18.setTop (mkF m 137 #[.val (.long q1), .second, .val (.long q2), .second, .val (.int p3), .val (.int p4), .val (.int p5), .val (.long g), .second, .val (.long da), .second, .val (.long db), .second, .val (.int nn), .val (.int wv), .val (.long (((q2.toUInt64 >>> ((11 : Int32) &&& 0x3f).toInt64.toUInt64).toInt64) &&& (15 : Int64))), .second, .val (.long ta), .second, .val (.long tb), .second, .val (.long tc), .second, .val (.long ea), .second, .val (.long eb), .second, .val (.long ec), .second, .val (.long (own_fd ta g)), .second, .val (.long (own_fd tb g)), .second, .val (.long (own_fd tc g)), .second, .val (.long (((own_fd ta g) + (((q2.toUInt64 >>> ((11 : Int32) &&& 0x3f).toInt64.toUInt64).toInt64) &&& (15 : Int64))) - (1 : Int64))), .second, .unset, .unset, .unset, .unset, .unset] [])) t → Steps p.tables e below (s₁.setTop (entryFrame m #[(.long q1), (.long q2), (.int p3), (.int p4), (.int p5)] maxLocals)) t := fun t k => pre15 t (by
    refine XS.lload X14.here hx rfl (hb hby at_101) rfl ?_
    refine XS.lload X14.here hx rfl (hb hby at_103) rfl ?_
    refine st16 _ ?_
    refine XS.lstore X16.here hx rfl (hb hby at_108) rfl (l' := #[.val (.long q1), .second, .val (.long q2), .second, .val (.int p3), .val (.int p4), .val (.int p5), .val (.long g), .second, .val (.long da), .second, .val (.long db), .second, .val (.int nn), .val (.int wv), .val (.long (((q2.toUInt64 >>> ((11 : Int32) &&& 0x3f).toInt64.toUInt64).toInt64) &&& (15 : Int64))), .second, .val (.long ta), .second, .val (.long tb), .second, .val (.long tc), .second, .val (.long ea), .second, .val (.long eb), .second, .val (.long ec), .second, .val (.long (own_fd ta g)), .second, .unset, .unset, .unset, .unset, .unset, .unset, .unset, .unset, .unset, .unset, .unset]) rfl ?_
    refine XS.lload X16.here hx rfl (hb hby at_110) rfl ?_
    refine XS.lload X16.here hx rfl (hb hby at_112) rfl ?_
    refine st17 _ ?_
    refine XS.lstore X17.here hx rfl (hb hby at_117) rfl (l' := #[.val (.long q1), .second, .val (.long q2), .second, .val (.int p3), .val (.int p4), .val (.int p5), .val (.long g), .second, .val (.long da), .second, .val (.long db), .second, .val (.int nn), .val (.int wv), .val (.long (((q2.toUInt64 >>> ((11 : Int32) &&& 0x3f).toInt64.toUInt64).toInt64) &&& (15 : Int64))), .second, .val (.long ta), .second, .val (.long tb), .second, .val (.long tc), .second, .val (.long ea), .second, .val (.long eb), .second, .val (.long ec), .second, .val (.long (own_fd ta g)), .second, .val (.long (own_fd tb g)), .second, .unset, .unset, .unset, .unset, .unset, .unset, .unset, .unset, .unset]) rfl ?_
    refine XS.lload X17.here hx rfl (hb hby at_119) rfl ?_
    refine XS.lload X17.here hx rfl (hb hby at_121) rfl ?_
    refine st18 _ ?_
    refine XS.lstore X18.here hx rfl (hb hby at_126) rfl (l' := #[.val (.long q1), .second, .val (.long q2), .second, .val (.int p3), .val (.int p4), .val (.int p5), .val (.long g), .second, .val (.long da), .second, .val (.long db), .second, .val (.int nn), .val (.int wv), .val (.long (((q2.toUInt64 >>> ((11 : Int32) &&& 0x3f).toInt64.toUInt64).toInt64) &&& (15 : Int64))), .second, .val (.long ta), .second, .val (.long tb), .second, .val (.long tc), .second, .val (.long ea), .second, .val (.long eb), .second, .val (.long ec), .second, .val (.long (own_fd ta g)), .second, .val (.long (own_fd tb g)), .second, .val (.long (own_fd tc g)), .second, .unset, .unset, .unset, .unset, .unset, .unset, .unset]) rfl ?_
    refine XS.lload X18.here hx rfl (hb hby at_128) rfl ?_
    refine XS.lload X18.here hx rfl (hb hby at_130) rfl ?_
    refine XS.ladd X18.here hx rfl (hb hby at_132) rfl ?_
    refine XS.lconst X18.here hx rfl (hb hby at_133) ?_
    refine XS.lsub X18.here hx rfl (hb hby at_134) rfl ?_
    refine XS.lstore X18.here hx rfl (hb hby at_135) rfl (l' := #[.val (.long q1), .second, .val (.long q2), .second, .val (.int p3), .val (.int p4), .val (.int p5), .val (.long g), .second, .val (.long da), .second, .val (.long db), .second, .val (.int nn), .val (.int wv), .val (.long (((q2.toUInt64 >>> ((11 : Int32) &&& 0x3f).toInt64.toUInt64).toInt64) &&& (15 : Int64))), .second, .val (.long ta), .second, .val (.long tb), .second, .val (.long tc), .second, .val (.long ea), .second, .val (.long eb), .second, .val (.long ec), .second, .val (.long (own_fd ta g)), .second, .val (.long (own_fd tb g)), .second, .val (.long (own_fd tc g)), .second, .val (.long (((own_fd ta g) + (((q2.toUInt64 >>> ((11 : Int32) &&& 0x3f).toInt64.toUInt64).toInt64) &&& (15 : Int64))) - (1 : Int64))), .second, .unset, .unset, .unset, .unset, .unset]) rfl ?_
    exact k)
  obtain ⟨fh, h_fh⟩ : ∃ z : Int64, z = (((own_fd ta g) + (((q2.toUInt64 >>> ((11 : Int32) &&& 0x3f).toInt64.toUInt64).toInt64) &&& (15 : Int64))) - (1 : Int64)) := ⟨_, rfl⟩
  rw [← h_fh] at pre19
  obtain ⟨T20, h20, X20, e20, E20, A20, D20, -, st20⟩ := newO X18 hx hZ hown (kw16 hw) (kw17 hw) (kw18 hw) e18 (g := (mkF m 137 #[.val (.long q1), .second, .val (.long q2), .second, .val (.int p3), .val (.int p4), .val (.int p5), .val (.long g), .second, .val (.long da), .second, .val (.long db), .second, .val (.int nn), .val (.int wv), .val (.long (((q2.toUInt64 >>> ((11 : Int32) &&& 0x3f).toInt64.toUInt64).toInt64) &&& (15 : Int64))), .second, .val (.long ta), .second, .val (.long tb), .second, .val (.long tc), .second, .val (.long ea), .second, .val (.long eb), .second, .val (.long ec), .second, .val (.long (own_fd ta g)), .second, .val (.long (own_fd tb g)), .second, .val (.long (own_fd tc g)), .second, .val (.long fh), .second, .unset, .unset, .unset, .unset, .unset] [])) rfl (hb hby at_137) (by decide) (by decide)
  obtain ⟨b20, g20⟩ : ∃ z, z = h0.size := ⟨_, rfl⟩
  rw [← g20] at A20 D20 st20
  have ne20_w_NO_ENTRIES : w_NO_ENTRIES ≠ b20 := Nat.ne_of_lt (Nat.lt_of_lt_of_le P2.lt (Nat.le_of_eq g20.symm))
  have g_b20 : n0 ≤ b20 := Nat.le_trans Z0 (Nat.le_of_eq g20.symm)
  have sz_b20 : h0.size ≤ b20 := Nat.le_trans KR.1 (Nat.le_of_eq g20.symm)
  have Z20 : n0 ≤ h20.size := Nat.le_trans Z0 E20.1
  have K20 : Keep h0 h20 [] := KR.ext E20
  have F20_newest : Fld Z h20 b20 "com/example/okno/okno/AdmissionLog" "newest" "J" (.long (0 : Int64)) := D20 (Or.inl (kw32 hw)) (ty := .long) (by decide)
  have F20_subWindows : Fld Z h20 b20 "com/example/okno/okno/AdmissionLog" "subWindows" "[J" .null := D20 (Or.inl (kw36 hw)) (ty := (.array .long)) (by decide)
  have F20_amounts : Fld Z h20 b20 "com/example/okno/okno/AdmissionLog" "amounts" "[J" .null := D20 (Or.inl (kw38 hw)) (ty := (.array .long)) (by decide)
  have F20_oldestSubWindow : Fld Z h20 b20 "com/example/okno/okno/AdmissionLog" "oldestSubWindow" "J" (.long (0 : Int64)) := D20 (Or.inl (kw41 hw)) (ty := .long) (by decide)
  have F20_lastTime : Fld Z h20 b20 "com/example/okno/okno/AdmissionLog" "lastTime" "J" (.long (0 : Int64)) := D20 (Or.inl (kw43 hw)) (ty := .long) (by decide)
  have F20_subWindowMillis : Fld Z h20 b20 "com/example/okno/okno/AdmissionLog" "subWindowMillis" "J" (.long (0 : Int64)) := D20 (Or.inr (kw45 hw)) (ty := .long) (by decide)
  have F20_lastSubWindow : Fld Z h20 b20 "com/example/okno/okno/AdmissionLog" "lastSubWindow" "J" (.long (0 : Int64)) := D20 (Or.inl (kw50 hw)) (ty := .long) (by decide)
  have F20_shorterWindows : Fld Z h20 b20 "com/example/okno/okno/AdmissionLog" "shorterWindows" "[J" .null := D20 (Or.inr (kw53 hw)) (ty := (.array .long)) (by decide)
  have F20_total : Fld Z h20 b20 "com/example/okno/okno/AdmissionLog" "total" "J" (.long (0 : Int64)) := D20 (Or.inl (kw69 hw)) (ty := .long) (by decide)
  have F20_newestSubWindow : Fld Z h20 b20 "com/example/okno/okno/AdmissionLog" "newestSubWindow" "J" (.long (0 : Int64)) := D20 (Or.inl (kw93 hw)) (ty := .long) (by decide)
  have F20_newestSubWindowEnd : Fld Z h20 b20 "com/example/okno/okno/AdmissionLog" "newestSubWindowEnd" "J" (.long (0 : Int64)) := D20 (Or.inl (kw95 hw)) (ty := .long) (by decide)
  have F20_olderTotal : Fld Z h20 b20 "com/example/okno/okno/AdmissionLog" "olderTotal" "J" (.long (0 : Int64)) := D20 (Or.inl (kw101 hw)) (ty := .long) (by decide)
  have F20_size : Fld Z h20 b20 "com/example/okno/okno/AdmissionLog" "size" "I" (.int (0 : Int32)) := D20 (Or.inl (kw107 hw)) (ty := .int) (by decide)
  have F20_head : Fld Z h20 b20 "com/example/okno/okno/AdmissionLog" "head" "I" (.int (0 : Int32)) := D20 (Or.inl (kw116 hw)) (ty := .int) (by decide)
  have f22 : Old Z n0 h20 := (P0.ext E20)
  have f23 : Arv Z h20 w_NO_ENTRIES kn .long (0 : Int32) [] (.long (0 : Int64)) := (P2.ext E20)
  obtain ⟨_, _, ⟨T21, L21, k21, n21⟩, -, X21, ⟨Lc21, hQ21, l21, y21, z21⟩, st21⟩ := X20.specialBack hx (y := (⟨"com/example/okno/okno/AdmissionLog", "<init>", "(JI)V"⟩ : MethodName)) rfl hown (mvT hZ (kw19 hw)) (mvT hZ (kw20 hw)) (mvT hZ (kw21 hw)) (by decide) (backOf (W := 1) (rmInit l Z a0 hw [] b20 g w_NO_ENTRIES h20 n0 Z20 A20 g_b20 f22 P1 hgz F20_newest F20_subWindows F20_amounts F20_oldestSubWindow F20_lastTime F20_subWindowMillis F20_lastSubWindow F20_shorterWindows F20_total F20_newestSubWindow F20_newestSubWindowEnd F20_olderTotal F20_size F20_head) hZ (kw21 hw) (kw18 hw) (by decide) (by decide)) (g := (mkF m 144 #[.val (.long q1), .second, .val (.long q2), .second, .val (.int p3), .val (.int p4), .val (.int p5), .val (.long g), .second, .val (.long da), .second, .val (.long db), .second, .val (.int nn), .val (.int wv), .val (.long (((q2.toUInt64 >>> ((11 : Int32) &&& 0x3f).toInt64.toUInt64).toInt64) &&& (15 : Int64))), .second, .val (.long ta), .second, .val (.long tb), .second, .val (.long tc), .second, .val (.long ea), .second, .val (.long eb), .second, .val (.long ec), .second, .val (.long (own_fd ta g)), .second, .val (.long (own_fd tb g)), .second, .val (.long (own_fd tc g)), .second, .val (.long fh), .second, .unset, .unset, .unset, .unset, .unset] [(.int (2 : Int32)), (.long g), (.ref b20), (.ref b20)])) rfl (by rw [hml]; rfl) (Steps.refl _) (a := b20) (argsL := [(.long g), (.int (2 : Int32))]) (rest := [(.ref b20)]) (lenOf pd_3 rfl) rfl (by show 2 * 0 + _ ≤ _; exact Nat.le_of_eq rfl) (hb hby at_144) (fun _ _ => ⟨rfl, e20, (by decide : 1 + 1 ≤ _), (by decide : 18 + 4 ≤ _)⟩)
  dsimp only [Pt.U, Pt.locs, Pt.cells, Pt.slots] at X21 l21 y21 z21 st21 hQ21
  subst l21 y21 z21
  obtain ⟨fr0_21, fk0_21, rfl, N21q, Kq21, p21_0, p21_1, p21_2, p21_3, p21_4, p21_5, p21_6, p21_7, p21_8, p21_9, p21_10, p21_11, p21_12, p21_13, p21_14, p21_15, p21_16⟩ := hQ21
  have N21 := Fr.app N18 N21q
  have Z21 : n0 ≤ T21.heap.size := Nat.le_trans Z20 Kq21.1
  have K21 : Keep h0 T21.heap [] := K20.trans Kq21 (allS (Or.inr sz_b20) all0)
  have sz_fr0_21 : h0.size ≤ fr0_21 := Nat.le_trans K20.1 p21_1
  have ne21_b20_fr0_21 : b20 ≠ fr0_21 := Nat.ne_of_lt (Nat.lt_of_lt_of_le A20.lt p21_1)
  have ne21_w_NO_ENTRIES_fr0_21 : w_NO_ENTRIES ≠ fr0_21 := Nat.ne_of_lt (Nat.lt_of_lt_of_le f23.lt p21_1)
  have pre24 : ∀ t, Steps p.tables e below (T21.setTop (mkF m 158 #[.val (.long q1), .second, .val (.long q2), .second, .val (.int p3), .val (.int p4), .val (.int p5), .val (.long g), .second, .val (.long da), .second, .val (.long db), .second, .val (.int nn), .val (.int wv), .val (.long (((q2.toUInt64 >>> ((11 : Int32) &&& 0x3f).toInt64.toUInt64).toInt64) &&& (15 : Int64))), .second, .val (.long ta), .second, .val (.long tb), .second, .val (.long tc), .second, .val (.long ea), .second, .val (.long eb), .second, .val (.long ec), .second, .val (.long (own_fd ta g)), .second, .val (.long (own_fd tb g)), .second, .val (.long (own_fd tc g)), .second, .val (.long fh), .second, .val (.ref b20), .val (.long (0 : Int64)), .second, .val (.long (0 : Int64)), .second] [(.int (1 : Int32)), (.int nn)])) t → Steps p.tables e below (s₁.setTop (entryFrame m #[(.long q1), (.long q2), (.int p3), (.int p4), (.int p5)] maxLocals)) t := fun t k => pre19 t (by
    refine st20 _ ?_
    refine XS.dup X20.here hx rfl (hb hby at_140) rfl rfl ?_
    refine XS.lload X20.here hx rfl (hb hby at_141) rfl ?_
    refine XS.iconst X20.here hx rfl (hb hby at_143) ?_
    refine st21.trans ?_
    refine XS.astore X21.here hx rfl (hb hby at_147) rfl rfl (l' := #[.val (.long q1), .second, .val (.long q2), .second, .val (.int p3), .val (.int p4), .val (.int p5), .val (.long g), .second, .val (.long da), .second, .val (.long db), .second, .val (.int nn), .val (.int wv), .val (.long (((q2.toUInt64 >>> ((11 : Int32) &&& 0x3f).toInt64.toUInt64).toInt64) &&& (15 : Int64))), .second, .val (.long ta), .second, .val (.long tb), .second, .val (.long tc), .second, .val (.long ea), .second, .val (.long eb), .second, .val (.long ec), .second, .val (.long (own_fd ta g)), .second, .val (.long (own_fd tb g)), .second, .val (.long (own_fd tc g)), .second, .val (.long fh), .second, .val (.ref b20), .unset, .unset, .unset, .unset]) rfl ?_
    refine XS.lconst X21.here hx rfl (hb hby at_149) ?_
    refine XS.lstore X21.here hx rfl (hb hby at_150) rfl (l' := #[.val (.long q1), .second, .val (.long q2), .second, .val (.int p3), .val (.int p4), .val (.int p5), .val (.long g), .second, .val (.long da), .second, .val (.long db), .second, .val (.int nn), .val (.int wv), .val (.long (((q2.toUInt64 >>> ((11 : Int32) &&& 0x3f).toInt64.toUInt64).toInt64) &&& (15 : Int64))), .second, .val (.long ta), .second, .val (.long tb), .second, .val (.long tc), .second, .val (.long ea), .second, .val (.long eb), .second, .val (.long ec), .second, .val (.long (own_fd ta g)), .second, .val (.long (own_fd tb g)), .second, .val (.long (own_fd tc g)), .second, .val (.long fh), .second, .val (.ref b20), .val (.long (0 : Int64)), .second, .unset, .unset]) rfl ?_
    refine XS.lconst X21.here hx rfl (hb hby at_152) ?_
    refine XS.lstore X21.here hx rfl (hb hby at_153) rfl (l' := #[.val (.long q1), .second, .val (.long q2), .second, .val (.int p3), .val (.int p4), .val (.int p5), .val (.long g), .second, .val (.long da), .second, .val (.long db), .second, .val (.int nn), .val (.int wv), .val (.long (((q2.toUInt64 >>> ((11 : Int32) &&& 0x3f).toInt64.toUInt64).toInt64) &&& (15 : Int64))), .second, .val (.long ta), .second, .val (.long tb), .second, .val (.long tc), .second, .val (.long ea), .second, .val (.long eb), .second, .val (.long ec), .second, .val (.long (own_fd ta g)), .second, .val (.long (own_fd tb g)), .second, .val (.long (own_fd tc g)), .second, .val (.long fh), .second, .val (.ref b20), .val (.long (0 : Int64)), .second, .val (.long (0 : Int64)), .second]) rfl ?_
    refine XS.iload X21.here hx rfl (hb hby at_155) rfl ?_
    refine XS.iconst X21.here hx rfl (hb hby at_157) ?_
    exact k)
  by_cases hc25 : nn < (1 : Int32)
  · skip
    have f27 : Exa Z T21.heap b20 "com/example/okno/okno/AdmissionLog" := (A20.keep Kq21)
    obtain ⟨cq26, kq26, q26a, q26b, q26c⟩ := isOf hZ rfl f27
    obtain ⟨_, _, ⟨T26, L26, k26, n26⟩, -, X26, ⟨Lc26, hQ26, l26, y26, z26⟩, st26⟩ := X21.virtualBack hx (y := (⟨"com/example/okno/okno/AdmissionLog", "fitShorterWindow", "(IJ)V"⟩ : MethodName)) (z := (⟨"com/example/okno/okno/AdmissionLog", "fitShorterWindow", "(IJ)V"⟩ : MethodName)) hown (mvT hZ (kw54 hw)) (mvT hZ (kw55 hw)) (notFace_of_selects (args := #[]) (mvT hZ (kw57 hw))) (mvT hZ (kw57 hw)) (mvT hZ (kw56 hw)) (by decide) (backOf (W := 0) (rmFitE_1 l Z a0 hw [] b20 wv fh fr0_21 fk0_21 ([(.long (0 : Int64)), (.long (0 : Int64)), (.long (0 : Int64)), (.long (0 : Int64))]) (0 : Int64) T21.heap n0 Z21 f27 p21_0 (Ne.symm ne21_b20_fr0_21) rfl p21_2 hw01 (by rcases hw01 with q | q <;> rw [q] <;> rfl) (by rcases hw01 with q | q <;> rw [q] <;> rfl) p21_11 p21_10 p21_15) hZ (kw58 hw) (kw18 hw) (by decide) (by decide)) q26a q26c (g := (mkF m 272 #[.val (.long q1), .second, .val (.long q2), .second, .val (.int p3), .val (.int p4), .val (.int p5), .val (.long g), .second, .val (.long da), .second, .val (.long db), .second, .val (.int nn), .val (.int wv), .val (.long (((q2.toUInt64 >>> ((11 : Int32) &&& 0x3f).toInt64.toUInt64).toInt64) &&& (15 : Int64))), .second, .val (.long ta), .second, .val (.long tb), .second, .val (.long tc), .second, .val (.long ea), .second, .val (.long eb), .second, .val (.long ec), .second, .val (.long (own_fd ta g)), .second, .val (.long (own_fd tb g)), .second, .val (.long (own_fd tc g)), .second, .val (.long fh), .second, .val (.ref b20), .val (.long (0 : Int64)), .second, .val (.long (0 : Int64)), .second] [(.long fh), (.int wv), (.ref b20)])) rfl (by rw [hml]; rfl) (Steps.refl _) (argsL := [(.int wv), (.long fh)]) (rest := []) (lenOf pd_6 rfl) rfl (by show 2 * 0 + _ ≤ _; exact Nat.le_of_eq rfl) (hb hby at_272) (fun _ _ => ⟨rfl, rfl, (by decide : 2 + 0 ≤ _), (by decide : 22 + 0 ≤ _)⟩)
    dsimp only [Pt.U, Pt.locs, Pt.cells, Pt.slots] at X26 l26 y26 z26 st26 hQ26
    subst l26 y26 z26
    obtain ⟨rfl, N26q, Kq26, p26_0⟩ := hQ26
    have N26 := Fr.app N21 N26q
    have Z26 : n0 ≤ T26.heap.size := Nat.le_trans Z21 Kq26.1
    have K26 : Keep h0 T26.heap [] := K21.trans Kq26 (allS (Or.inr sz_fr0_21) all0)
    have f29 : Fld Z T26.heap b20 "com/example/okno/okno/AdmissionLog" "shorterWindows" "[J" (.ref fr0_21) := (p21_10.keep Kq26 (ninS ne21_b20_fr0_21 nin0))
    have f30 : Fld Z T26.heap b20 "com/example/okno/okno/AdmissionLog" "total" "J" (.long (0 : Int64)) := (p21_11.keep Kq26 (ninS ne21_b20_fr0_21 nin0))
    have f31 : Fld Z T26.heap b20 "com/example/okno/okno/AdmissionLog" "olderTotal" "J" (.long (0 : Int64)) := (p21_14.keep Kq26 (ninS ne21_b20_fr0_21 nin0))
    have f32 : Exa Z T26.heap b20 "com/example/okno/okno/AdmissionLog" := (f27.keep Kq26)
    obtain ⟨cq28, kq28, q28a, q28b, q28c⟩ := isOf hZ rfl f32
    obtain ⟨_, _, ⟨T28, L28, k28, n28⟩, -, X28, ⟨Lc28, hQ28, l28, y28, z28⟩, st28⟩ := X26.virtualBack hx (y := (⟨"com/example/okno/okno/AdmissionLog", "shorterTotal", "(I)J"⟩ : MethodName)) (z := (⟨"com/example/okno/okno/AdmissionLog", "shorterTotal", "(I)J"⟩ : MethodName)) hown (mvT hZ (kw70 hw)) (mvT hZ (kw71 hw)) (notFace_of_selects (args := #[]) (mvT hZ (kw73 hw))) (mvT hZ (kw73 hw)) (mvT hZ (kw72 hw)) (by decide) (backOf (W := 0) (rmTot l Z a0 hw [] b20 wv fr0_21 fk0_21 (([(.long (0 : Int64)), (.long (0 : Int64)), (.long (0 : Int64)), (.long (0 : Int64))].set (((2 : Int32) * wv)).toNatClampNeg (.long (0 : Int64))).set ((((2 : Int32) * wv) + (1 : Int32))).toNatClampNeg (.long (0 : Int64))) (0 : Int64) (0 : Int64) (0 : Int64) (0 : Int64) T26.heap n0 Z26 f29 p26_0 f30 f31 hw01 (by rcases hw01 with q | q <;> rw [q] <;> rfl) (by rcases hw01 with q | q <;> rw [q] <;> rfl)) hZ (kw74 hw) (kw18 hw) (by decide) (by decide)) q28a q28c (g := (mkF m 279 #[.val (.long q1), .second, .val (.long q2), .second, .val (.int p3), .val (.int p4), .val (.int p5), .val (.long g), .second, .val (.long da), .second, .val (.long db), .second, .val (.int nn), .val (.int wv), .val (.long (((q2.toUInt64 >>> ((11 : Int32) &&& 0x3f).toInt64.toUInt64).toInt64) &&& (15 : Int64))), .second, .val (.long ta), .second, .val (.long tb), .second, .val (.long tc), .second, .val (.long ea), .second, .val (.long eb), .second, .val (.long ec), .second, .val (.long (own_fd ta g)), .second, .val (.long (own_fd tb g)), .second, .val (.long (own_fd tc g)), .second, .val (.long fh), .second, .val (.ref b20), .val (.long (0 : Int64)), .second, .val (.long (0 : Int64)), .second] [(.int wv), (.ref b20)])) rfl (by rw [hml]; rfl) (Steps.refl _) (argsL := [(.int wv)]) (rest := []) (lenOf pd_1 rfl) rfl (by show 2 * 0 + _ ≤ _; exact Nat.le_of_eq rfl) (hb hby at_279) (fun _ _ => ⟨rfl, rfl, (by decide : 2 + 0 ≤ _), (by decide : 22 + 0 ≤ _)⟩)
    dsimp only [Pt.U, Pt.locs, Pt.cells, Pt.slots] at X28 l28 y28 z28 st28 hQ28
    subst l28 y28 z28
    obtain ⟨rfl, N28q, e28⟩ := hQ28
    have N28 := Fr.app N26 N28q
    obtain ⟨cq33, kq33, q33a, q33b, q33c⟩ := isOf hZ e28 f32
    obtain ⟨_, _, ⟨T33, L33, k33, n33⟩, -, X33, ⟨Lc33, hQ33, l33, y33, z33⟩, st33⟩ := X28.virtualBack hx (y := (⟨"com/example/okno/okno/AdmissionLog", "shorterTotal", "(I)J"⟩ : MethodName)) (z := (⟨"com/example/okno/okno/AdmissionLog", "shorterTotal", "(I)J"⟩ : MethodName)) hown (mvT hZ (kw70 hw)) (mvT hZ (kw71 hw)) (notFace_of_selects (args := #[]) (mvT hZ (kw73 hw))) (mvT hZ (kw73 hw)) (mvT hZ (kw72 hw)) (by decide) (backOf (W := 0) (rmTot l Z a0 hw [] b20 ((1 : Int32) - wv) fr0_21 fk0_21 (([(.long (0 : Int64)), (.long (0 : Int64)), (.long (0 : Int64)), (.long (0 : Int64))].set (((2 : Int32) * wv)).toNatClampNeg (.long (0 : Int64))).set ((((2 : Int32) * wv) + (1 : Int32))).toNatClampNeg (.long (0 : Int64))) (0 : Int64) (0 : Int64) (0 : Int64) (0 : Int64) T26.heap n0 Z26 f29 p26_0 f30 f31 (own_1w hw01) (by rcases hw01 with q | q <;> rw [q] <;> rfl) (by rcases hw01 with q | q <;> rw [q] <;> rfl)) hZ (kw74 hw) (kw18 hw) (by decide) (by decide)) q33a q33c (g := (mkF m 294 #[.val (.long q1), .second, .val (.long q2), .second, .val (.int p3), .val (.int p4), .val (.int p5), .val (.long g), .second, .val (.long da), .second, .val (.long db), .second, .val (.int nn), .val (.int wv), .val (.long (((q2.toUInt64 >>> ((11 : Int32) &&& 0x3f).toInt64.toUInt64).toInt64) &&& (15 : Int64))), .second, .val (.long ta), .second, .val (.long tb), .second, .val (.long tc), .second, .val (.long ea), .second, .val (.long eb), .second, .val (.long ec), .second, .val (.long (own_fd ta g)), .second, .val (.long (own_fd tb g)), .second, .val (.long (own_fd tc g)), .second, .val (.long fh), .second, .val (.ref b20), .val (.long (0 : Int64)), .second, .val (.long (0 : Int64)), .second] [(.int ((1 : Int32) - wv)), (.ref b20)])) rfl (by rw [hml]; rfl) (Steps.refl _) (argsL := [(.int ((1 : Int32) - wv))]) (rest := []) (lenOf pd_1 rfl) rfl (by show 2 * 0 + _ ≤ _; exact Nat.le_of_eq rfl) (hb hby at_294) (fun _ _ => ⟨rfl, e28, (by decide : 2 + 0 ≤ _), (by decide : 22 + 0 ≤ _)⟩)
    dsimp only [Pt.U, Pt.locs, Pt.cells, Pt.slots] at X33 l33 y33 z33 st33 hQ33
    subst l33 y33 z33
    obtain ⟨rfl, N33q, e33⟩ := hQ33
    have N33 := Fr.app N28 N33q
    obtain ⟨fs, hr, hrun, hended, hW, hsame⟩ := X33.leave (v := some (.int (1 : Int32))) (fun h => by rw [Bd.returns] at h; cases h)
    refine ⟨_, _, pre24 _ ?_, hrun, hended, _, _, rfl, ?_, ⟨_, rfl⟩, hW, hsame.mono (by decide) (by decide)⟩
    · skip
      refine XS.icmpYes X21.here hx rfl (pc0 := 158) (pc' := 192) rfl (hb hby at_158) rfl (tlt hc25).1 (by decide) (by decide) ?_
      refine XS.iload X21.here hx rfl (hb hby at_192) rfl ?_
      refine XS.iconst X21.here hx rfl (hb hby at_194) ?_
      refine XS.icmpYes X21.here hx rfl (pc0 := 195) (pc' := 229) rfl (hb hby at_195) rfl (tlt (Int32.lt_trans hc25 (by decide))).1 (by decide) (by decide) ?_
      refine XS.iload X21.here hx rfl (hb hby at_229) rfl ?_
      refine XS.iconst X21.here hx rfl (hb hby at_231) ?_
      refine XS.icmpYes X21.here hx rfl (pc0 := 232) (pc' := 266) rfl (hb hby at_232) rfl (tlt (Int32.lt_trans hc25 (by decide))).1 (by decide) (by decide) ?_
      refine XS.aload X21.here hx rfl (hb hby at_266) rfl rfl ?_
      refine XS.iload X21.here hx rfl (hb hby at_268) rfl ?_
      refine XS.lload X21.here hx rfl (hb hby at_270) rfl ?_
      refine st26.trans ?_
      refine XS.aload X26.here hx rfl (hb hby at_275) rfl rfl ?_
      refine XS.iload X26.here hx rfl (hb hby at_277) rfl ?_
      refine st28.trans ?_
      refine XS.lload X28.here hx rfl (hb hby at_282) rfl ?_
      refine XS.lcmp X28.here hx rfl (hb hby at_284) rfl ?_
      refine XS.ifNo X28.here hx rfl (hb hby at_285) rfl ((if0 _ _).trans (teq ((lw_eq _ _).mpr (own_fin0 (own_fd ta g) (own_fd tb g) (own_fd tc g) ea eb ec fh hm1 hm2))).2) ?_
      refine XS.aload X28.here hx rfl (hb hby at_288) rfl rfl ?_
      refine XS.iconst X28.here hx rfl (hb hby at_290) ?_
      refine XS.iload X28.here hx rfl (hb hby at_291) rfl ?_
      refine XS.isub X28.here hx rfl (hb hby at_293) rfl ?_
      refine st33.trans ?_
      refine XS.lload X33.here hx rfl (hb hby at_297) rfl ?_
      refine XS.lcmp X33.here hx rfl (hb hby at_299) rfl ?_
      refine XS.ifNo X33.here hx rfl (hb hby at_300) rfl ((if0 _ _).trans (teq ((lw_eq _ _).mpr (own_fin1 (own_fd ta g) (own_fd tb g) (own_fd tc g) ea eb ec fh hm1 hm2))).2) ?_
      show Steps p.tables e below (T33.setTop (mkF m 303 #[.val (.long q1), .second, .val (.long q2), .second, .val (.int p3), .val (.int p4), .val (.int p5), .val (.long g), .second, .val (.long da), .second, .val (.long db), .second, .val (.int nn), .val (.int wv), .val (.long (((q2.toUInt64 >>> ((11 : Int32) &&& 0x3f).toInt64.toUInt64).toInt64) &&& (15 : Int64))), .second, .val (.long ta), .second, .val (.long tb), .second, .val (.long tc), .second, .val (.long ea), .second, .val (.long eb), .second, .val (.long ec), .second, .val (.long (own_fd ta g)), .second, .val (.long (own_fd tb g)), .second, .val (.long (own_fd tc g)), .second, .val (.long fh), .second, .val (.ref b20), .val (.long (0 : Int64)), .second, .val (.long (0 : Int64)), .second] [])) _
      refine XS.iconst X33.here hx rfl (hb hby at_303) ?_
      refine XS.goto X33.here hx rfl (pc0 := 304) (pc' := 308) rfl (hb hby at_304) (by decide) (by decide) ?_
      show Steps p.tables e below (T33.setTop (mkF m 308 #[.val (.long q1), .second, .val (.long q2), .second, .val (.int p3), .val (.int p4), .val (.int p5), .val (.long g), .second, .val (.long da), .second, .val (.long db), .second, .val (.int nn), .val (.int wv), .val (.long (((q2.toUInt64 >>> ((11 : Int32) &&& 0x3f).toInt64.toUInt64).toInt64) &&& (15 : Int64))), .second, .val (.long ta), .second, .val (.long tb), .second, .val (.long tc), .second, .val (.long ea), .second, .val (.long eb), .second, .val (.long ec), .second, .val (.long (own_fd ta g)), .second, .val (.long (own_fd tb g)), .second, .val (.long (own_fd tc g)), .second, .val (.long fh), .second, .val (.ref b20), .val (.long (0 : Int64)), .second, .val (.long (0 : Int64)), .second] [(.int (1 : Int32))])) _
      exact retN X33 hx (t := .boolean) Bd.returns (by simp) (hb hby at_308) hr
    · show Q_rm0 Z q1 q2 p3 p4 p5 w_NO_ENTRIES kn h0 n0 _ T33.heap _
      rw [e33]
      exact ⟨rfl, N33, K26⟩
  · skip
    have f36 : Exa Z T21.heap b20 "com/example/okno/okno/AdmissionLog" := (A20.keep Kq21)
    obtain ⟨cq35, kq35, q35a, q35b, q35c⟩ := isOf hZ rfl f36
    obtain ⟨_, _, ⟨T35, L35, k35, n35⟩, -, X35, ⟨Lc35, hQ35, l35, y35, z35⟩, st35⟩ := X21.virtualBack hx (y := (⟨"com/example/okno/okno/AdmissionLog", "append", "(JJ)V"⟩ : MethodName)) (z := (⟨"com/example/okno/okno/AdmissionLog", "append", "(JJ)V"⟩ : MethodName)) hown (mvT hZ (kw75 hw)) (mvT hZ (kw76 hw)) (notFace_of_selects (args := #[]) (mvT hZ (kw78 hw))) (mvT hZ (kw78 hw)) (mvT hZ (kw77 hw)) (by decide) (backOf (W := 0) (rmAppA_3 l Z a0 hw [] b20 ta ea g (-9223372036854775808 : Int64) fr0_21 fk0_21 (0 : Int64) (0 : Int64) (-9223372036854775808 : Int64) w_NO_ENTRIES w_NO_ENTRIES (9223372036854775807 : Int64) (0 : Int64) (0 : Int64) (0 : Int64) (0 : Int32) (0 : Int32) T21.heap n0 Z21 f36 g_b20 hgz (own_nov (by decide : (0 : Int) ≤ (0 : Int64).toInt ∧ (0 : Int64).toInt ≤ 0) hea (by decide) (by decide) (by decide)) p21_2 p21_0 (Ne.symm ne21_b20_fr0_21) p21_3 p21_4 p21_5 p21_6 p21_7 p21_8 p21_9 p21_10 p21_11 p21_12 p21_13 p21_14 p21_15 p21_16) hZ (kw79 hw) (kw18 hw) (by decide) (by decide)) q35a q35c (g := (mkF m 167 #[.val (.long q1), .second, .val (.long q2), .second, .val (.int p3), .val (.int p4), .val (.int p5), .val (.long g), .second, .val (.long da), .second, .val (.long db), .second, .val (.int nn), .val (.int wv), .val (.long (((q2.toUInt64 >>> ((11 : Int32) &&& 0x3f).toInt64.toUInt64).toInt64) &&& (15 : Int64))), .second, .val (.long ta), .second, .val (.long tb), .second, .val (.long tc), .second, .val (.long ea), .second, .val (.long eb), .second, .val (.long ec), .second, .val (.long (own_fd ta g)), .second, .val (.long (own_fd tb g)), .second, .val (.long (own_fd tc g)), .second, .val (.long fh), .second, .val (.ref b20), .val (.long (0 : Int64)), .second, .val (.long (0 : Int64)), .second] [(.long ea), (.long ta), (.ref b20)])) rfl (by rw [hml]; rfl) (Steps.refl _) (argsL := [(.long ta), (.long ea)]) (rest := []) (lenOf pd_8 rfl) rfl (by show 2 * 0 + _ ≤ _; exact Nat.le_of_eq rfl) (hb hby at_167) (fun _ _ => ⟨rfl, rfl, (by decide : 2 + 0 ≤ _), (by decide : 22 + 0 ≤ _)⟩)
    dsimp only [Pt.U, Pt.locs, Pt.cells, Pt.slots] at X35 l35 y35 z35 st35 hQ35
    subst l35 y35 z35
    obtain ⟨rfl, N35q, Kq35, p35_0, p35_1, p35_2, p35_3, p35_4, p35_5, p35_6, p35_7, p35_8, p35_9, p35_10, p35_11, p35_12, p35_13, p35_14⟩ := hQ35
    have N35 := Fr.app N21 N35q
    have Z35 : n0 ≤ T35.heap.size := Nat.le_trans Z21 Kq35.1
    have K35 : Keep h0 T35.heap [] := K21.trans Kq35 (allS (Or.inr sz_b20) (allS (Or.inr sz_fr0_21) all0))
    have pre37 : ∀ t, Steps p.tables e below (T35.setTop (mkF m 182 #[.val (.long q1), .second, .val (.long q2), .second, .val (.int p3), .val (.int p4), .val (.int p5), .val (.long g), .second, .val (.long da), .second, .val (.long db), .second, .val (.int nn), .val (.int wv), .val (.long (((q2.toUInt64 >>> ((11 : Int32) &&& 0x3f).toInt64.toUInt64).toInt64) &&& (15 : Int64))), .second, .val (.long ta), .second, .val (.long tb), .second, .val (.long tc), .second, .val (.long ea), .second, .val (.long eb), .second, .val (.long ec), .second, .val (.long (own_fd ta g)), .second, .val (.long (own_fd tb g)), .second, .val (.long (own_fd tc g)), .second, .val (.long fh), .second, .val (.ref b20), .val (.long ((0 : Int64) + ea)), .second, .val (.long (0 : Int64)), .second] [(.int (lcmpW (own_fd ta g) fh))])) t → Steps p.tables e below (s₁.setTop (entryFrame m #[(.long q1), (.long q2), (.int p3), (.int p4), (.int p5)] maxLocals)) t := fun t k => pre24 t (by
      refine XS.icmpNo X21.here hx rfl (hb hby at_158) rfl (flt hc25).1 ?_
      refine XS.aload X21.here hx rfl (hb hby at_161) rfl rfl ?_
      refine XS.lload X21.here hx rfl (hb hby at_163) rfl ?_
      refine XS.lload X21.here hx rfl (hb hby at_165) rfl ?_
      refine st35.trans ?_
      refine XS.lload X35.here hx rfl (hb hby at_170) rfl ?_
      refine XS.lload X35.here hx rfl (hb hby at_172) rfl ?_
      refine XS.ladd X35.here hx rfl (hb hby at_174) rfl ?_
      refine XS.lstore X35.here hx rfl (hb hby at_175) rfl (l' := #[.val (.long q1), .second, .val (.long q2), .second, .val (.int p3), .val (.int p4), .val (.int p5), .val (.long g), .second, .val (.long da), .second, .val (.long db), .second, .val (.int nn), .val (.int wv), .val (.long (((q2.toUInt64 >>> ((11 : Int32) &&& 0x3f).toInt64.toUInt64).toInt64) &&& (15 : Int64))), .second, .val (.long ta), .second, .val (.long tb), .second, .val (.long tc), .second, .val (.long ea), .second, .val (.long eb), .second, .val (.long ec), .second, .val (.long (own_fd ta g)), .second, .val (.long (own_fd tb g)), .second, .val (.long (own_fd tc g)), .second, .val (.long fh), .second, .val (.ref b20), .val (.long ((0 : Int64) + ea)), .second, .val (.long (0 : Int64)), .second]) rfl ?_
      refine XS.lload X35.here hx rfl (hb hby at_177) rfl ?_
      refine XS.lload X35.here hx rfl (hb hby at_179) rfl ?_
      refine XS.lcmp X35.here hx rfl (hb hby at_181) rfl ?_
      exact k)
    have pre39 : ∀ t, Steps p.tables e below (T35.setTop (mkF m 192 #[.val (.long q1), .second, .val (.long q2), .second, .val (.int p3), .val (.int p4), .val (.int p5), .val (.long g), .second, .val (.long da), .second, .val (.long db), .second, .val (.int nn), .val (.int wv), .val (.long (((q2.toUInt64 >>> ((11 : Int32) &&& 0x3f).toInt64.toUInt64).toInt64) &&& (15 : Int64))), .second, .val (.long ta), .second, .val (.long tb), .second, .val (.long tc), .second, .val (.long ea), .second, .val (.long eb), .second, .val (.long ec), .second, .val (.long (own_fd ta g)), .second, .val (.long (own_fd tb g)), .second, .val (.long (own_fd tc g)), .second, .val (.long fh), .second, .val (.ref b20), .val (.long ((0 : Int64) + ea)), .second, .val (.long (if (own_fd ta g) < fh then (0 : Int64) else ((0 : Int64) + ea))), .second] [])) t → Steps p.tables e below (s₁.setTop (entryFrame m #[(.long q1), (.long q2), (.int p3), (.int p4), (.int p5)] maxLocals)) t := fun t k => pre37 t (by
      by_cases hc38 : (own_fd ta g) < fh
      · skip
        refine XS.ifYes X35.here hx rfl (pc0 := 182) (pc' := 192) rfl (hb hby at_182) rfl ((if0 _ _).trans (tlt ((lw_lt _ _).mpr hc38)).1) (by decide) (by decide) ?_
        simp only [if_pos hc38] at k; exact k
      · skip
        refine XS.ifNo X35.here hx rfl (hb hby at_182) rfl ((if0 _ _).trans (flt (fun q => hc38 ((lw_lt _ _).mp q))).1) ?_
        refine XS.lload X35.here hx rfl (hb hby at_185) rfl ?_
        refine XS.lload X35.here hx rfl (hb hby at_187) rfl ?_
        refine XS.ladd X35.here hx rfl (hb hby at_189) rfl ?_
        refine XS.lstore X35.here hx rfl (hb hby at_190) rfl (l' := #[.val (.long q1), .second, .val (.long q2), .second, .val (.int p3), .val (.int p4), .val (.int p5), .val (.long g), .second, .val (.long da), .second, .val (.long db), .second, .val (.int nn), .val (.int wv), .val (.long (((q2.toUInt64 >>> ((11 : Int32) &&& 0x3f).toInt64.toUInt64).toInt64) &&& (15 : Int64))), .second, .val (.long ta), .second, .val (.long tb), .second, .val (.long tc), .second, .val (.long ea), .second, .val (.long eb), .second, .val (.long ec), .second, .val (.long (own_fd ta g)), .second, .val (.long (own_fd tb g)), .second, .val (.long (own_fd tc g)), .second, .val (.long fh), .second, .val (.ref b20), .val (.long ((0 : Int64) + ea)), .second, .val (.long ((0 : Int64) + ea)), .second]) rfl ?_
        simp only [if_neg hc38] at k; exact k)
    have pre40 : ∀ t, Steps p.tables e below (T35.setTop (mkF m 195 #[.val (.long q1), .second, .val (.long q2), .second, .val (.int p3), .val (.int p4), .val (.int p5), .val (.long g), .second, .val (.long da), .second, .val (.long db), .second, .val (.int nn), .val (.int wv), .val (.long (((q2.toUInt64 >>> ((11 : Int32) &&& 0x3f).toInt64.toUInt64).toInt64) &&& (15 : Int64))), .second, .val (.long ta), .second, .val (.long tb), .second, .val (.long tc), .second, .val (.long ea), .second, .val (.long eb), .second, .val (.long ec), .second, .val (.long (own_fd ta g)), .second, .val (.long (own_fd tb g)), .second, .val (.long (own_fd tc g)), .second, .val (.long fh), .second, .val (.ref b20), .val (.long ((0 : Int64) + ea)), .second, .val (.long (if (own_fd ta g) < fh then (0 : Int64) else ((0 : Int64) + ea))), .second] [(.int (2 : Int32)), (.int nn)])) t → Steps p.tables e below (s₁.setTop (entryFrame m #[(.long q1), (.long q2), (.int p3), (.int p4), (.int p5)] maxLocals)) t := fun t k => pre39 t (by
      refine XS.iload X35.here hx rfl (hb hby at_192) rfl ?_
      refine XS.iconst X35.here hx rfl (hb hby at_194) ?_
      exact k)
    by_cases hc41 : nn < (2 : Int32)
    · skip
      have f43 : Exa Z T35.heap b20 "com/example/okno/okno/AdmissionLog" := (f36.keep Kq35)
      obtain ⟨cq42, kq42, q42a, q42b, q42c⟩ := isOf hZ rfl f43
      obtain ⟨_, _, ⟨T42, L42, k42, n42⟩, -, X42, ⟨Lc42, hQ42, l42, y42, z42⟩, st42⟩ := X35.virtualBack hx (y := (⟨"com/example/okno/okno/AdmissionLog", "fitShorterWindow", "(IJ)V"⟩ : MethodName)) (z := (⟨"com/example/okno/okno/AdmissionLog", "fitShorterWindow", "(IJ)V"⟩ : MethodName)) hown (mvT hZ (kw54 hw)) (mvT hZ (kw55 hw)) (notFace_of_selects (args := #[]) (mvT hZ (kw57 hw))) (mvT hZ (kw57 hw)) (mvT hZ (kw56 hw)) (by decide) (backOf (W := 0) (rmFit_5 l Z a0 hw [] b20 wv fh fr0_21 fk0_21 ([(.long (0 : Int64)), (.long (1 : Int64)), (.long (0 : Int64)), (.long (1 : Int64))]) (0 : Int64) (own_fd ta g) (0 : Int64) (0 : Int64) (0 : Int64) (0 : Int64) ((0 : Int64) + ea) T35.heap n0 Z35 f43 p21_0 (Ne.symm ne21_b20_fr0_21) rfl p35_14 hw01 (by rcases hw01 with q | q <;> rw [q] <;> rfl) (by rcases hw01 with q | q <;> rw [q] <;> rfl) p35_8 (own_bne (own_badd (by decide : (0 : Int) ≤ (0 : Int64).toInt ∧ (0 : Int64).toInt ≤ 0) hea (by decide) (by decide)) (by decide)) p35_7 p35_12 p35_9) hZ (kw58 hw) (kw18 hw) (by decide) (by decide)) q42a q42c (g := (mkF m 272 #[.val (.long q1), .second, .val (.long q2), .second, .val (.int p3), .val (.int p4), .val (.int p5), .val (.long g), .second, .val (.long da), .second, .val (.long db), .second, .val (.int nn), .val (.int wv), .val (.long (((q2.toUInt64 >>> ((11 : Int32) &&& 0x3f).toInt64.toUInt64).toInt64) &&& (15 : Int64))), .second, .val (.long ta), .second, .val (.long tb), .second, .val (.long tc), .second, .val (.long ea), .second, .val (.long eb), .second, .val (.long ec), .second, .val (.long (own_fd ta g)), .second, .val (.long (own_fd tb g)), .second, .val (.long (own_fd tc g)), .second, .val (.long fh), .second, .val (.ref b20), .val (.long ((0 : Int64) + ea)), .second, .val (.long (if (own_fd ta g) < fh then (0 : Int64) else ((0 : Int64) + ea))), .second] [(.long fh), (.int wv), (.ref b20)])) rfl (by rw [hml]; rfl) (Steps.refl _) (argsL := [(.int wv), (.long fh)]) (rest := []) (lenOf pd_6 rfl) rfl (by show 2 * 0 + _ ≤ _; exact Nat.le_of_eq rfl) (hb hby at_272) (fun _ _ => ⟨rfl, rfl, (by decide : 2 + 0 ≤ _), (by decide : 22 + 0 ≤ _)⟩)
      dsimp only [Pt.U, Pt.locs, Pt.cells, Pt.slots] at X42 l42 y42 z42 st42 hQ42
      subst l42 y42 z42
      obtain ⟨rfl, N42q, Kq42, p42_0⟩ := hQ42
      have N42 := Fr.app N35 N42q
      have Z42 : n0 ≤ T42.heap.size := Nat.le_trans Z35 Kq42.1
      have K42 : Keep h0 T42.heap [] := K35.trans Kq42 (allS (Or.inr sz_fr0_21) all0)
      have f45 : Fld Z T42.heap b20 "com/example/okno/okno/AdmissionLog" "shorterWindows" "[J" (.ref fr0_21) := (p35_7.keep Kq42 (ninS ne21_b20_fr0_21 nin0))
      have f46 : Fld Z T42.heap b20 "com/example/okno/okno/AdmissionLog" "total" "J" (.long ((0 : Int64) + ea)) := (p35_8.keep Kq42 (ninS ne21_b20_fr0_21 nin0))
      have f47 : Fld Z T42.heap b20 "com/example/okno/okno/AdmissionLog" "olderTotal" "J" (.long (0 : Int64)) := (p35_11.keep Kq42 (ninS ne21_b20_fr0_21 nin0))
      have f48 : Exa Z T42.heap b20 "com/example/okno/okno/AdmissionLog" := (f43.keep Kq42)
      obtain ⟨cq44, kq44, q44a, q44b, q44c⟩ := isOf hZ rfl f48
      obtain ⟨_, _, ⟨T44, L44, k44, n44⟩, -, X44, ⟨Lc44, hQ44, l44, y44, z44⟩, st44⟩ := X42.virtualBack hx (y := (⟨"com/example/okno/okno/AdmissionLog", "shorterTotal", "(I)J"⟩ : MethodName)) (z := (⟨"com/example/okno/okno/AdmissionLog", "shorterTotal", "(I)J"⟩ : MethodName)) hown (mvT hZ (kw70 hw)) (mvT hZ (kw71 hw)) (notFace_of_selects (args := #[]) (mvT hZ (kw73 hw))) (mvT hZ (kw73 hw)) (mvT hZ (kw72 hw)) (by decide) (backOf (W := 0) (rmTot l Z a0 hw [] b20 wv fr0_21 fk0_21 (([(.long (0 : Int64)), (.long (1 : Int64)), (.long (0 : Int64)), (.long (1 : Int64))].set (((2 : Int32) * wv)).toNatClampNeg (.long (own_fr0 (0 : Int64) fh (own_fd ta g) (0 : Int64) (0 : Int64) (0 : Int64) (0 : Int64)))).set ((((2 : Int32) * wv) + (1 : Int32))).toNatClampNeg (.long (own_fc0 (0 : Int64) fh (own_fd ta g) (0 : Int64) (0 : Int64) (0 : Int64) (0 : Int64)))) (own_fr0 (0 : Int64) fh (own_fd ta g) (0 : Int64) (0 : Int64) (0 : Int64) (0 : Int64)) (own_fc0 (0 : Int64) fh (own_fd ta g) (0 : Int64) (0 : Int64) (0 : Int64) (0 : Int64)) ((0 : Int64) + ea) (0 : Int64) T42.heap n0 Z42 f45 p42_0 f46 f47 hw01 (by rcases hw01 with q | q <;> rw [q] <;> rfl) (by rcases hw01 with q | q <;> rw [q] <;> rfl)) hZ (kw74 hw) (kw18 hw) (by decide) (by decide)) q44a q44c (g := (mkF m 279 #[.val (.long q1), .second, .val (.long q2), .second, .val (.int p3), .val (.int p4), .val (.int p5), .val (.long g), .second, .val (.long da), .second, .val (.long db), .second, .val (.int nn), .val (.int wv), .val (.long (((q2.toUInt64 >>> ((11 : Int32) &&& 0x3f).toInt64.toUInt64).toInt64) &&& (15 : Int64))), .second, .val (.long ta), .second, .val (.long tb), .second, .val (.long tc), .second, .val (.long ea), .second, .val (.long eb), .second, .val (.long ec), .second, .val (.long (own_fd ta g)), .second, .val (.long (own_fd tb g)), .second, .val (.long (own_fd tc g)), .second, .val (.long fh), .second, .val (.ref b20), .val (.long ((0 : Int64) + ea)), .second, .val (.long (if (own_fd ta g) < fh then (0 : Int64) else ((0 : Int64) + ea))), .second] [(.int wv), (.ref b20)])) rfl (by rw [hml]; rfl) (Steps.refl _) (argsL := [(.int wv)]) (rest := []) (lenOf pd_1 rfl) rfl (by show 2 * 0 + _ ≤ _; exact Nat.le_of_eq rfl) (hb hby at_279) (fun _ _ => ⟨rfl, rfl, (by decide : 2 + 0 ≤ _), (by decide : 22 + 0 ≤ _)⟩)
      dsimp only [Pt.U, Pt.locs, Pt.cells, Pt.slots] at X44 l44 y44 z44 st44 hQ44
      subst l44 y44 z44
      obtain ⟨rfl, N44q, e44⟩ := hQ44
      have N44 := Fr.app N42 N44q
      obtain ⟨cq49, kq49, q49a, q49b, q49c⟩ := isOf hZ e44 f48
      obtain ⟨_, _, ⟨T49, L49, k49, n49⟩, -, X49, ⟨Lc49, hQ49, l49, y49, z49⟩, st49⟩ := X44.virtualBack hx (y := (⟨"com/example/okno/okno/AdmissionLog", "shorterTotal", "(I)J"⟩ : MethodName)) (z := (⟨"com/example/okno/okno/AdmissionLog", "shorterTotal", "(I)J"⟩ : MethodName)) hown (mvT hZ (kw70 hw)) (mvT hZ (kw71 hw)) (notFace_of_selects (args := #[]) (mvT hZ (kw73 hw))) (mvT hZ (kw73 hw)) (mvT hZ (kw72 hw)) (by decide) (backOf (W := 0) (rmTot l Z a0 hw [] b20 ((1 : Int32) - wv) fr0_21 fk0_21 (([(.long (0 : Int64)), (.long (1 : Int64)), (.long (0 : Int64)), (.long (1 : Int64))].set (((2 : Int32) * wv)).toNatClampNeg (.long (own_fr0 (0 : Int64) fh (own_fd ta g) (0 : Int64) (0 : Int64) (0 : Int64) (0 : Int64)))).set ((((2 : Int32) * wv) + (1 : Int32))).toNatClampNeg (.long (own_fc0 (0 : Int64) fh (own_fd ta g) (0 : Int64) (0 : Int64) (0 : Int64) (0 : Int64)))) (0 : Int64) (1 : Int64) ((0 : Int64) + ea) (0 : Int64) T42.heap n0 Z42 f45 p42_0 f46 f47 (own_1w hw01) (by rcases hw01 with q | q <;> rw [q] <;> rfl) (by rcases hw01 with q | q <;> rw [q] <;> rfl)) hZ (kw74 hw) (kw18 hw) (by decide) (by decide)) q49a q49c (g := (mkF m 294 #[.val (.long q1), .second, .val (.long q2), .second, .val (.int p3), .val (.int p4), .val (.int p5), .val (.long g), .second, .val (.long da), .second, .val (.long db), .second, .val (.int nn), .val (.int wv), .val (.long (((q2.toUInt64 >>> ((11 : Int32) &&& 0x3f).toInt64.toUInt64).toInt64) &&& (15 : Int64))), .second, .val (.long ta), .second, .val (.long tb), .second, .val (.long tc), .second, .val (.long ea), .second, .val (.long eb), .second, .val (.long ec), .second, .val (.long (own_fd ta g)), .second, .val (.long (own_fd tb g)), .second, .val (.long (own_fd tc g)), .second, .val (.long fh), .second, .val (.ref b20), .val (.long ((0 : Int64) + ea)), .second, .val (.long (if (own_fd ta g) < fh then (0 : Int64) else ((0 : Int64) + ea))), .second] [(.int ((1 : Int32) - wv)), (.ref b20)])) rfl (by rw [hml]; rfl) (Steps.refl _) (argsL := [(.int ((1 : Int32) - wv))]) (rest := []) (lenOf pd_1 rfl) rfl (by show 2 * 0 + _ ≤ _; exact Nat.le_of_eq rfl) (hb hby at_294) (fun _ _ => ⟨rfl, e44, (by decide : 2 + 0 ≤ _), (by decide : 22 + 0 ≤ _)⟩)
      dsimp only [Pt.U, Pt.locs, Pt.cells, Pt.slots] at X49 l49 y49 z49 st49 hQ49
      subst l49 y49 z49
      obtain ⟨rfl, N49q, e49⟩ := hQ49
      have N49 := Fr.app N44 N49q
      obtain ⟨fs, hr, hrun, hended, hW, hsame⟩ := X49.leave (v := some (.int (1 : Int32))) (fun h => by rw [Bd.returns] at h; cases h)
      refine ⟨_, _, pre40 _ ?_, hrun, hended, _, _, rfl, ?_, ⟨_, rfl⟩, hW, hsame.mono (by decide) (by decide)⟩
      · skip
        refine XS.icmpYes X35.here hx rfl (pc0 := 195) (pc' := 229) rfl (hb hby at_195) rfl (tlt hc41).1 (by decide) (by decide) ?_
        refine XS.iload X35.here hx rfl (hb hby at_229) rfl ?_
        refine XS.iconst X35.here hx rfl (hb hby at_231) ?_
        refine XS.icmpYes X35.here hx rfl (pc0 := 232) (pc' := 266) rfl (hb hby at_232) rfl (tlt (Int32.lt_trans hc41 (by decide))).1 (by decide) (by decide) ?_
        refine XS.aload X35.here hx rfl (hb hby at_266) rfl rfl ?_
        refine XS.iload X35.here hx rfl (hb hby at_268) rfl ?_
        refine XS.lload X35.here hx rfl (hb hby at_270) rfl ?_
        refine st42.trans ?_
        refine XS.aload X42.here hx rfl (hb hby at_275) rfl rfl ?_
        refine XS.iload X42.here hx rfl (hb hby at_277) rfl ?_
        refine st44.trans ?_
        refine XS.lload X44.here hx rfl (hb hby at_282) rfl ?_
        refine XS.lcmp X44.here hx rfl (hb hby at_284) rfl ?_
        refine XS.ifNo X44.here hx rfl (hb hby at_285) rfl ((if0 _ _).trans (teq ((lw_eq _ _).mpr (own_fin2 (own_fd ta g) (own_fd tb g) (own_fd tc g) ea eb ec fh hm1 hm2))).2) ?_
        refine XS.aload X44.here hx rfl (hb hby at_288) rfl rfl ?_
        refine XS.iconst X44.here hx rfl (hb hby at_290) ?_
        refine XS.iload X44.here hx rfl (hb hby at_291) rfl ?_
        refine XS.isub X44.here hx rfl (hb hby at_293) rfl ?_
        refine st49.trans ?_
        refine XS.lload X49.here hx rfl (hb hby at_297) rfl ?_
        refine XS.lcmp X49.here hx rfl (hb hby at_299) rfl ?_
        refine XS.ifNo X49.here hx rfl (hb hby at_300) rfl ((if0 _ _).trans (teq ((lw_eq _ _).mpr (own_fin3 (own_fd ta g) (own_fd tb g) (own_fd tc g) ea eb ec fh hm1 hm2))).2) ?_
        refine XS.iconst X49.here hx rfl (hb hby at_303) ?_
        refine XS.goto X49.here hx rfl (pc0 := 304) (pc' := 308) rfl (hb hby at_304) (by decide) (by decide) ?_
        show Steps p.tables e below (T49.setTop (mkF m 308 #[.val (.long q1), .second, .val (.long q2), .second, .val (.int p3), .val (.int p4), .val (.int p5), .val (.long g), .second, .val (.long da), .second, .val (.long db), .second, .val (.int nn), .val (.int wv), .val (.long (((q2.toUInt64 >>> ((11 : Int32) &&& 0x3f).toInt64.toUInt64).toInt64) &&& (15 : Int64))), .second, .val (.long ta), .second, .val (.long tb), .second, .val (.long tc), .second, .val (.long ea), .second, .val (.long eb), .second, .val (.long ec), .second, .val (.long (own_fd ta g)), .second, .val (.long (own_fd tb g)), .second, .val (.long (own_fd tc g)), .second, .val (.long fh), .second, .val (.ref b20), .val (.long ((0 : Int64) + ea)), .second, .val (.long (if (own_fd ta g) < fh then (0 : Int64) else ((0 : Int64) + ea))), .second] [(.int (1 : Int32))])) _
        exact retN X49 hx (t := .boolean) Bd.returns (by simp) (hb hby at_308) hr
      · show Q_rm0 Z q1 q2 p3 p4 p5 w_NO_ENTRIES kn h0 n0 _ T49.heap _
        rw [e49]
        exact ⟨rfl, N49, K42⟩
    · skip
      have pre51 : ∀ t, Steps p.tables e below (T35.setTop (mkF m 204 #[.val (.long q1), .second, .val (.long q2), .second, .val (.int p3), .val (.int p4), .val (.int p5), .val (.long g), .second, .val (.long da), .second, .val (.long db), .second, .val (.int nn), .val (.int wv), .val (.long (((q2.toUInt64 >>> ((11 : Int32) &&& 0x3f).toInt64.toUInt64).toInt64) &&& (15 : Int64))), .second, .val (.long ta), .second, .val (.long tb), .second, .val (.long tc), .second, .val (.long ea), .second, .val (.long eb), .second, .val (.long ec), .second, .val (.long (own_fd ta g)), .second, .val (.long (own_fd tb g)), .second, .val (.long (own_fd tc g)), .second, .val (.long fh), .second, .val (.ref b20), .val (.long ((0 : Int64) + ea)), .second, .val (.long (if (own_fd ta g) < fh then (0 : Int64) else ((0 : Int64) + ea))), .second] [(.long eb), (.long tb), (.ref b20)])) t → Steps p.tables e below (s₁.setTop (entryFrame m #[(.long q1), (.long q2), (.int p3), (.int p4), (.int p5)] maxLocals)) t := fun t k => pre40 t (by
        refine XS.icmpNo X35.here hx rfl (hb hby at_195) rfl (flt hc41).1 ?_
        refine XS.aload X35.here hx rfl (hb hby at_198) rfl rfl ?_
        refine XS.lload X35.here hx rfl (hb hby at_200) rfl ?_
        refine XS.lload X35.here hx rfl (hb hby at_202) rfl ?_
        exact k)
      by_cases hc52 : (own_fd tb g) = (own_fd ta g)
      · skip
        have f54 : Exa Z T35.heap b20 "com/example/okno/okno/AdmissionLog" := (f36.keep Kq35)
        obtain ⟨cq53, kq53, q53a, q53b, q53c⟩ := isOf hZ rfl f54
        obtain ⟨_, _, ⟨T53, L53, k53, n53⟩, -, X53, ⟨Lc53, hQ53, l53, y53, z53⟩, st53⟩ := X35.virtualBack hx (y := (⟨"com/example/okno/okno/AdmissionLog", "append", "(JJ)V"⟩ : MethodName)) (z := (⟨"com/example/okno/okno/AdmissionLog", "append", "(JJ)V"⟩ : MethodName)) hown (mvT hZ (kw75 hw)) (mvT hZ (kw76 hw)) (notFace_of_selects (args := #[]) (mvT hZ (kw78 hw))) (mvT hZ (kw78 hw)) (mvT hZ (kw77 hw)) (by decide) (backOf (W := 0) (rmAppB_9 l Z a0 hw [] b20 tb eb g ta ((0 : Int64) + ea) (own_fd ta g) ta w_NO_ENTRIES w_NO_ENTRIES (own_fd ta g) fr0_21 (own_end (own_fd ta g) ta g) (0 : Int64) (0 : Int32) (0 : Int32) T35.heap n0 Z35 f54 g_b20 hgz (own_nov (own_badd (by decide : (0 : Int) ≤ (0 : Int64).toInt ∧ (0 : Int64).toInt ≤ 0) hea (by decide) (by decide)) heb (by decide) (by decide) (by decide)) (own_bne (own_badd (by decide : (0 : Int) ≤ (0 : Int64).toInt ∧ (0 : Int64).toInt ≤ 0) hea (by decide) (by decide)) (by decide)) hc52 p35_0 p35_1 p35_2 p35_3 p35_4 p35_5 p35_6 p35_7 p35_8 p35_9 p35_10 p35_11 p35_12 p35_13) hZ (kw79 hw) (kw18 hw) (by decide) (by decide)) q53a q53c (g := (mkF m 204 #[.val (.long q1), .second, .val (.long q2), .second, .val (.int p3), .val (.int p4), .val (.int p5), .val (.long g), .second, .val (.long da), .second, .val (.long db), .second, .val (.int nn), .val (.int wv), .val (.long (((q2.toUInt64 >>> ((11 : Int32) &&& 0x3f).toInt64.toUInt64).toInt64) &&& (15 : Int64))), .second, .val (.long ta), .second, .val (.long tb), .second, .val (.long tc), .second, .val (.long ea), .second, .val (.long eb), .second, .val (.long ec), .second, .val (.long (own_fd ta g)), .second, .val (.long (own_fd tb g)), .second, .val (.long (own_fd tc g)), .second, .val (.long fh), .second, .val (.ref b20), .val (.long ((0 : Int64) + ea)), .second, .val (.long (if (own_fd ta g) < fh then (0 : Int64) else ((0 : Int64) + ea))), .second] [(.long eb), (.long tb), (.ref b20)])) rfl (by rw [hml]; rfl) (Steps.refl _) (argsL := [(.long tb), (.long eb)]) (rest := []) (lenOf pd_8 rfl) rfl (by show 2 * 0 + _ ≤ _; exact Nat.le_of_eq rfl) (hb hby at_204) (fun _ _ => ⟨rfl, rfl, (by decide : 2 + 0 ≤ _), (by decide : 22 + 0 ≤ _)⟩)
        dsimp only [Pt.U, Pt.locs, Pt.cells, Pt.slots] at X53 l53 y53 z53 st53 hQ53
        subst l53 y53 z53
        obtain ⟨rfl, N53q, Kq53, p53_0, p53_1, p53_2, p53_3, p53_4, p53_5, p53_6, p53_7, p53_8, p53_9, p53_10, p53_11, p53_12, p53_13⟩ := hQ53
        have N53 := Fr.app N35 N53q
        have Z53 : n0 ≤ T53.heap.size := Nat.le_trans Z35 Kq53.1
        have K53 : Keep h0 T53.heap [] := K35.trans Kq53 (allS (Or.inr sz_b20) all0)
        have pre55 : ∀ t, Steps p.tables e below (T53.setTop (mkF m 219 #[.val (.long q1), .second, .val (.long q2), .second, .val (.int p3), .val (.int p4), .val (.int p5), .val (.long g), .second, .val (.long da), .second, .val (.long db), .second, .val (.int nn), .val (.int wv), .val (.long (((q2.toUInt64 >>> ((11 : Int32) &&& 0x3f).toInt64.toUInt64).toInt64) &&& (15 : Int64))), .second, .val (.long ta), .second, .val (.long tb), .second, .val (.long tc), .second, .val (.long ea), .second, .val (.long eb), .second, .val (.long ec), .second, .val (.long (own_fd ta g)), .second, .val (.long (own_fd tb g)), .second, .val (.long (own_fd tc g)), .second, .val (.long fh), .second, .val (.ref b20), .val (.long (((0 : Int64) + ea) + eb)), .second, .val (.long (if (own_fd ta g) < fh then (0 : Int64) else ((0 : Int64) + ea))), .second] [(.int (lcmpW (own_fd tb g) fh))])) t → Steps p.tables e below (s₁.setTop (entryFrame m #[(.long q1), (.long q2), (.int p3), (.int p4), (.int p5)] maxLocals)) t := fun t k => pre51 t (by
          refine st53.trans ?_
          refine XS.lload X53.here hx rfl (hb hby at_207) rfl ?_
          refine XS.lload X53.here hx rfl (hb hby at_209) rfl ?_
          refine XS.ladd X53.here hx rfl (hb hby at_211) rfl ?_
          refine XS.lstore X53.here hx rfl (hb hby at_212) rfl (l' := #[.val (.long q1), .second, .val (.long q2), .second, .val (.int p3), .val (.int p4), .val (.int p5), .val (.long g), .second, .val (.long da), .second, .val (.long db), .second, .val (.int nn), .val (.int wv), .val (.long (((q2.toUInt64 >>> ((11 : Int32) &&& 0x3f).toInt64.toUInt64).toInt64) &&& (15 : Int64))), .second, .val (.long ta), .second, .val (.long tb), .second, .val (.long tc), .second, .val (.long ea), .second, .val (.long eb), .second, .val (.long ec), .second, .val (.long (own_fd ta g)), .second, .val (.long (own_fd tb g)), .second, .val (.long (own_fd tc g)), .second, .val (.long fh), .second, .val (.ref b20), .val (.long (((0 : Int64) + ea) + eb)), .second, .val (.long (if (own_fd ta g) < fh then (0 : Int64) else ((0 : Int64) + ea))), .second]) rfl ?_
          refine XS.lload X53.here hx rfl (hb hby at_214) rfl ?_
          refine XS.lload X53.here hx rfl (hb hby at_216) rfl ?_
          refine XS.lcmp X53.here hx rfl (hb hby at_218) rfl ?_
          exact k)
        have pre57 : ∀ t, Steps p.tables e below (T53.setTop (mkF m 229 #[.val (.long q1), .second, .val (.long q2), .second, .val (.int p3), .val (.int p4), .val (.int p5), .val (.long g), .second, .val (.long da), .second, .val (.long db), .second, .val (.int nn), .val (.int wv), .val (.long (((q2.toUInt64 >>> ((11 : Int32) &&& 0x3f).toInt64.toUInt64).toInt64) &&& (15 : Int64))), .second, .val (.long ta), .second, .val (.long tb), .second, .val (.long tc), .second, .val (.long ea), .second, .val (.long eb), .second, .val (.long ec), .second, .val (.long (own_fd ta g)), .second, .val (.long (own_fd tb g)), .second, .val (.long (own_fd tc g)), .second, .val (.long fh), .second, .val (.ref b20), .val (.long (((0 : Int64) + ea) + eb)), .second, .val (.long (if (own_fd tb g) < fh then (if (own_fd ta g) < fh then (0 : Int64) else ((0 : Int64) + ea)) else ((if (own_fd ta g) < fh then (0 : Int64) else ((0 : Int64) + ea)) + eb))), .second] [])) t → Steps p.tables e below (s₁.setTop (entryFrame m #[(.long q1), (.long q2), (.int p3), (.int p4), (.int p5)] maxLocals)) t := fun t k => pre55 t (by
          by_cases hc56 : (own_fd tb g) < fh
          · skip
            refine XS.ifYes X53.here hx rfl (pc0 := 219) (pc' := 229) rfl (hb hby at_219) rfl ((if0 _ _).trans (tlt ((lw_lt _ _).mpr hc56)).1) (by decide) (by decide) ?_
            simp only [if_pos hc56] at k; exact k
          · skip
            refine XS.ifNo X53.here hx rfl (hb hby at_219) rfl ((if0 _ _).trans (flt (fun q => hc56 ((lw_lt _ _).mp q))).1) ?_
            refine XS.lload X53.here hx rfl (hb hby at_222) rfl ?_
            refine XS.lload X53.here hx rfl (hb hby at_224) rfl ?_
            refine XS.ladd X53.here hx rfl (hb hby at_226) rfl ?_
            refine XS.lstore X53.here hx rfl (hb hby at_227) rfl (l' := #[.val (.long q1), .second, .val (.long q2), .second, .val (.int p3), .val (.int p4), .val (.int p5), .val (.long g), .second, .val (.long da), .second, .val (.long db), .second, .val (.int nn), .val (.int wv), .val (.long (((q2.toUInt64 >>> ((11 : Int32) &&& 0x3f).toInt64.toUInt64).toInt64) &&& (15 : Int64))), .second, .val (.long ta), .second, .val (.long tb), .second, .val (.long tc), .second, .val (.long ea), .second, .val (.long eb), .second, .val (.long ec), .second, .val (.long (own_fd ta g)), .second, .val (.long (own_fd tb g)), .second, .val (.long (own_fd tc g)), .second, .val (.long fh), .second, .val (.ref b20), .val (.long (((0 : Int64) + ea) + eb)), .second, .val (.long ((if (own_fd ta g) < fh then (0 : Int64) else ((0 : Int64) + ea)) + eb)), .second]) rfl ?_
            simp only [if_neg hc56] at k; exact k)
        have pre58 : ∀ t, Steps p.tables e below (T53.setTop (mkF m 232 #[.val (.long q1), .second, .val (.long q2), .second, .val (.int p3), .val (.int p4), .val (.int p5), .val (.long g), .second, .val (.long da), .second, .val (.long db), .second, .val (.int nn), .val (.int wv), .val (.long (((q2.toUInt64 >>> ((11 : Int32) &&& 0x3f).toInt64.toUInt64).toInt64) &&& (15 : Int64))), .second, .val (.long ta), .second, .val (.long tb), .second, .val (.long tc), .second, .val (.long ea), .second, .val (.long eb), .second, .val (.long ec), .second, .val (.long (own_fd ta g)), .second, .val (.long (own_fd tb g)), .second, .val (.long (own_fd tc g)), .second, .val (.long fh), .second, .val (.ref b20), .val (.long (((0 : Int64) + ea) + eb)), .second, .val (.long (if (own_fd tb g) < fh then (if (own_fd ta g) < fh then (0 : Int64) else ((0 : Int64) + ea)) else ((if (own_fd ta g) < fh then (0 : Int64) else ((0 : Int64) + ea)) + eb))), .second] [(.int (3 : Int32)), (.int nn)])) t → Steps p.tables e below (s₁.setTop (entryFrame m #[(.long q1), (.long q2), (.int p3), (.int p4), (.int p5)] maxLocals)) t := fun t k => pre57 t (by
          refine XS.iload X53.here hx rfl (hb hby at_229) rfl ?_
          refine XS.iconst X53.here hx rfl (hb hby at_231) ?_
          exact k)
        by_cases hc59 : nn < (3 : Int32)
        · skip
          have f61 : Exa Z T53.heap b20 "com/example/okno/okno/AdmissionLog" := (f54.keep Kq53)
          have f62 : Arv Z T53.heap fr0_21 fk0_21 .long (4 : Int32) [(.long (0 : Int64)), (.long (1 : Int64)), (.long (0 : Int64)), (.long (1 : Int64))] (.long (0 : Int64)) := (p35_14.keep Kq53 (ninS (Ne.symm ne21_b20_fr0_21) nin0))
          obtain ⟨cq60, kq60, q60a, q60b, q60c⟩ := isOf hZ rfl f61
          obtain ⟨_, _, ⟨T60, L60, k60, n60⟩, -, X60, ⟨Lc60, hQ60, l60, y60, z60⟩, st60⟩ := X53.virtualBack hx (y := (⟨"com/example/okno/okno/AdmissionLog", "fitShorterWindow", "(IJ)V"⟩ : MethodName)) (z := (⟨"com/example/okno/okno/AdmissionLog", "fitShorterWindow", "(IJ)V"⟩ : MethodName)) hown (mvT hZ (kw54 hw)) (mvT hZ (kw55 hw)) (notFace_of_selects (args := #[]) (mvT hZ (kw57 hw))) (mvT hZ (kw57 hw)) (mvT hZ (kw56 hw)) (by decide) (backOf (W := 0) (rmFit_5 l Z a0 hw [] b20 wv fh fr0_21 fk0_21 ([(.long (0 : Int64)), (.long (1 : Int64)), (.long (0 : Int64)), (.long (1 : Int64))]) (0 : Int64) (own_fd ta g) (0 : Int64) (0 : Int64) (0 : Int64) (0 : Int64) (((0 : Int64) + ea) + eb) T53.heap n0 Z53 f61 p21_0 (Ne.symm ne21_b20_fr0_21) rfl f62 hw01 (by rcases hw01 with q | q <;> rw [q] <;> rfl) (by rcases hw01 with q | q <;> rw [q] <;> rfl) p53_8 (own_bne (own_badd (own_badd (by decide : (0 : Int) ≤ (0 : Int64).toInt ∧ (0 : Int64).toInt ≤ 0) hea (by decide) (by decide)) heb (by decide) (by decide)) (by decide)) p53_7 p53_12 p53_9) hZ (kw58 hw) (kw18 hw) (by decide) (by decide)) q60a q60c (g := (mkF m 272 #[.val (.long q1), .second, .val (.long q2), .second, .val (.int p3), .val (.int p4), .val (.int p5), .val (.long g), .second, .val (.long da), .second, .val (.long db), .second, .val (.int nn), .val (.int wv), .val (.long (((q2.toUInt64 >>> ((11 : Int32) &&& 0x3f).toInt64.toUInt64).toInt64) &&& (15 : Int64))), .second, .val (.long ta), .second, .val (.long tb), .second, .val (.long tc), .second, .val (.long ea), .second, .val (.long eb), .second, .val (.long ec), .second, .val (.long (own_fd ta g)), .second, .val (.long (own_fd tb g)), .second, .val (.long (own_fd tc g)), .second, .val (.long fh), .second, .val (.ref b20), .val (.long (((0 : Int64) + ea) + eb)), .second, .val (.long (if (own_fd tb g) < fh then (if (own_fd ta g) < fh then (0 : Int64) else ((0 : Int64) + ea)) else ((if (own_fd ta g) < fh then (0 : Int64) else ((0 : Int64) + ea)) + eb))), .second] [(.long fh), (.int wv), (.ref b20)])) rfl (by rw [hml]; rfl) (Steps.refl _) (argsL := [(.int wv), (.long fh)]) (rest := []) (lenOf pd_6 rfl) rfl (by show 2 * 0 + _ ≤ _; exact Nat.le_of_eq rfl) (hb hby at_272) (fun _ _ => ⟨rfl, rfl, (by decide : 2 + 0 ≤ _), (by decide : 22 + 0 ≤ _)⟩)
          dsimp only [Pt.U, Pt.locs, Pt.cells, Pt.slots] at X60 l60 y60 z60 st60 hQ60
          subst l60 y60 z60
          obtain ⟨rfl, N60q, Kq60, p60_0⟩ := hQ60
          have N60 := Fr.app N53 N60q
          have Z60 : n0 ≤ T60.heap.size := Nat.le_trans Z53 Kq60.1
          have K60 : Keep h0 T60.heap [] := K53.trans Kq60 (allS (Or.inr sz_fr0_21) all0)
          have f64 : Fld Z T60.heap b20 "com/example/okno/okno/AdmissionLog" "shorterWindows" "[J" (.ref fr0_21) := (p53_7.keep Kq60 (ninS ne21_b20_fr0_21 nin0))
          have f65 : Fld Z T60.heap b20 "com/example/okno/okno/AdmissionLog" "total" "J" (.long (((0 : Int64) + ea) + eb)) := (p53_8.keep Kq60 (ninS ne21_b20_fr0_21 nin0))
          have f66 : Fld Z T60.heap b20 "com/example/okno/okno/AdmissionLog" "olderTotal" "J" (.long (0 : Int64)) := (p53_11.keep Kq60 (ninS ne21_b20_fr0_21 nin0))
          have f67 : Exa Z T60.heap b20 "com/example/okno/okno/AdmissionLog" := (f61.keep Kq60)
          obtain ⟨cq63, kq63, q63a, q63b, q63c⟩ := isOf hZ rfl f67
          obtain ⟨_, _, ⟨T63, L63, k63, n63⟩, -, X63, ⟨Lc63, hQ63, l63, y63, z63⟩, st63⟩ := X60.virtualBack hx (y := (⟨"com/example/okno/okno/AdmissionLog", "shorterTotal", "(I)J"⟩ : MethodName)) (z := (⟨"com/example/okno/okno/AdmissionLog", "shorterTotal", "(I)J"⟩ : MethodName)) hown (mvT hZ (kw70 hw)) (mvT hZ (kw71 hw)) (notFace_of_selects (args := #[]) (mvT hZ (kw73 hw))) (mvT hZ (kw73 hw)) (mvT hZ (kw72 hw)) (by decide) (backOf (W := 0) (rmTot l Z a0 hw [] b20 wv fr0_21 fk0_21 (([(.long (0 : Int64)), (.long (1 : Int64)), (.long (0 : Int64)), (.long (1 : Int64))].set (((2 : Int32) * wv)).toNatClampNeg (.long (own_fr0 (0 : Int64) fh (own_fd ta g) (0 : Int64) (0 : Int64) (0 : Int64) (0 : Int64)))).set ((((2 : Int32) * wv) + (1 : Int32))).toNatClampNeg (.long (own_fc0 (0 : Int64) fh (own_fd ta g) (0 : Int64) (0 : Int64) (0 : Int64) (0 : Int64)))) (own_fr0 (0 : Int64) fh (own_fd ta g) (0 : Int64) (0 : Int64) (0 : Int64) (0 : Int64)) (own_fc0 (0 : Int64) fh (own_fd ta g) (0 : Int64) (0 : Int64) (0 : Int64) (0 : Int64)) (((0 : Int64) + ea) + eb) (0 : Int64) T60.heap n0 Z60 f64 p60_0 f65 f66 hw01 (by rcases hw01 with q | q <;> rw [q] <;> rfl) (by rcases hw01 with q | q <;> rw [q] <;> rfl)) hZ (kw74 hw) (kw18 hw) (by decide) (by decide)) q63a q63c (g := (mkF m 279 #[.val (.long q1), .second, .val (.long q2), .second, .val (.int p3), .val (.int p4), .val (.int p5), .val (.long g), .second, .val (.long da), .second, .val (.long db), .second, .val (.int nn), .val (.int wv), .val (.long (((q2.toUInt64 >>> ((11 : Int32) &&& 0x3f).toInt64.toUInt64).toInt64) &&& (15 : Int64))), .second, .val (.long ta), .second, .val (.long tb), .second, .val (.long tc), .second, .val (.long ea), .second, .val (.long eb), .second, .val (.long ec), .second, .val (.long (own_fd ta g)), .second, .val (.long (own_fd tb g)), .second, .val (.long (own_fd tc g)), .second, .val (.long fh), .second, .val (.ref b20), .val (.long (((0 : Int64) + ea) + eb)), .second, .val (.long (if (own_fd tb g) < fh then (if (own_fd ta g) < fh then (0 : Int64) else ((0 : Int64) + ea)) else ((if (own_fd ta g) < fh then (0 : Int64) else ((0 : Int64) + ea)) + eb))), .second] [(.int wv), (.ref b20)])) rfl (by rw [hml]; rfl) (Steps.refl _) (argsL := [(.int wv)]) (rest := []) (lenOf pd_1 rfl) rfl (by show 2 * 0 + _ ≤ _; exact Nat.le_of_eq rfl) (hb hby at_279) (fun _ _ => ⟨rfl, rfl, (by decide : 2 + 0 ≤ _), (by decide : 22 + 0 ≤ _)⟩)
          dsimp only [Pt.U, Pt.locs, Pt.cells, Pt.slots] at X63 l63 y63 z63 st63 hQ63
          subst l63 y63 z63
          obtain ⟨rfl, N63q, e63⟩ := hQ63
          have N63 := Fr.app N60 N63q
          obtain ⟨cq68, kq68, q68a, q68b, q68c⟩ := isOf hZ e63 f67
          obtain ⟨_, _, ⟨T68, L68, k68, n68⟩, -, X68, ⟨Lc68, hQ68, l68, y68, z68⟩, st68⟩ := X63.virtualBack hx (y := (⟨"com/example/okno/okno/AdmissionLog", "shorterTotal", "(I)J"⟩ : MethodName)) (z := (⟨"com/example/okno/okno/AdmissionLog", "shorterTotal", "(I)J"⟩ : MethodName)) hown (mvT hZ (kw70 hw)) (mvT hZ (kw71 hw)) (notFace_of_selects (args := #[]) (mvT hZ (kw73 hw))) (mvT hZ (kw73 hw)) (mvT hZ (kw72 hw)) (by decide) (backOf (W := 0) (rmTot l Z a0 hw [] b20 ((1 : Int32) - wv) fr0_21 fk0_21 (([(.long (0 : Int64)), (.long (1 : Int64)), (.long (0 : Int64)), (.long (1 : Int64))].set (((2 : Int32) * wv)).toNatClampNeg (.long (own_fr0 (0 : Int64) fh (own_fd ta g) (0 : Int64) (0 : Int64) (0 : Int64) (0 : Int64)))).set ((((2 : Int32) * wv) + (1 : Int32))).toNatClampNeg (.long (own_fc0 (0 : Int64) fh (own_fd ta g) (0 : Int64) (0 : Int64) (0 : Int64) (0 : Int64)))) (0 : Int64) (1 : Int64) (((0 : Int64) + ea) + eb) (0 : Int64) T60.heap n0 Z60 f64 p60_0 f65 f66 (own_1w hw01) (by rcases hw01 with q | q <;> rw [q] <;> rfl) (by rcases hw01 with q | q <;> rw [q] <;> rfl)) hZ (kw74 hw) (kw18 hw) (by decide) (by decide)) q68a q68c (g := (mkF m 294 #[.val (.long q1), .second, .val (.long q2), .second, .val (.int p3), .val (.int p4), .val (.int p5), .val (.long g), .second, .val (.long da), .second, .val (.long db), .second, .val (.int nn), .val (.int wv), .val (.long (((q2.toUInt64 >>> ((11 : Int32) &&& 0x3f).toInt64.toUInt64).toInt64) &&& (15 : Int64))), .second, .val (.long ta), .second, .val (.long tb), .second, .val (.long tc), .second, .val (.long ea), .second, .val (.long eb), .second, .val (.long ec), .second, .val (.long (own_fd ta g)), .second, .val (.long (own_fd tb g)), .second, .val (.long (own_fd tc g)), .second, .val (.long fh), .second, .val (.ref b20), .val (.long (((0 : Int64) + ea) + eb)), .second, .val (.long (if (own_fd tb g) < fh then (if (own_fd ta g) < fh then (0 : Int64) else ((0 : Int64) + ea)) else ((if (own_fd ta g) < fh then (0 : Int64) else ((0 : Int64) + ea)) + eb))), .second] [(.int ((1 : Int32) - wv)), (.ref b20)])) rfl (by rw [hml]; rfl) (Steps.refl _) (argsL := [(.int ((1 : Int32) - wv))]) (rest := []) (lenOf pd_1 rfl) rfl (by show 2 * 0 + _ ≤ _; exact Nat.le_of_eq rfl) (hb hby at_294) (fun _ _ => ⟨rfl, e63, (by decide : 2 + 0 ≤ _), (by decide : 22 + 0 ≤ _)⟩)
          dsimp only [Pt.U, Pt.locs, Pt.cells, Pt.slots] at X68 l68 y68 z68 st68 hQ68
          subst l68 y68 z68
          obtain ⟨rfl, N68q, e68⟩ := hQ68
          have N68 := Fr.app N63 N68q
          obtain ⟨fs, hr, hrun, hended, hW, hsame⟩ := X68.leave (v := some (.int (1 : Int32))) (fun h => by rw [Bd.returns] at h; cases h)
          refine ⟨_, _, pre58 _ ?_, hrun, hended, _, _, rfl, ?_, ⟨_, rfl⟩, hW, hsame.mono (by decide) (by decide)⟩
          · skip
            refine XS.icmpYes X53.here hx rfl (pc0 := 232) (pc' := 266) rfl (hb hby at_232) rfl (tlt hc59).1 (by decide) (by decide) ?_
            refine XS.aload X53.here hx rfl (hb hby at_266) rfl rfl ?_
            refine XS.iload X53.here hx rfl (hb hby at_268) rfl ?_
            refine XS.lload X53.here hx rfl (hb hby at_270) rfl ?_
            refine st60.trans ?_
            refine XS.aload X60.here hx rfl (hb hby at_275) rfl rfl ?_
            refine XS.iload X60.here hx rfl (hb hby at_277) rfl ?_
            refine st63.trans ?_
            refine XS.lload X63.here hx rfl (hb hby at_282) rfl ?_
            refine XS.lcmp X63.here hx rfl (hb hby at_284) rfl ?_
            refine XS.ifNo X63.here hx rfl (hb hby at_285) rfl ((if0 _ _).trans (teq ((lw_eq _ _).mpr (own_fin4 (own_fd ta g) (own_fd tb g) (own_fd tc g) ea eb ec fh hm1 hm2 hc52))).2) ?_
            refine XS.aload X63.here hx rfl (hb hby at_288) rfl rfl ?_
            refine XS.iconst X63.here hx rfl (hb hby at_290) ?_
            refine XS.iload X63.here hx rfl (hb hby at_291) rfl ?_
            refine XS.isub X63.here hx rfl (hb hby at_293) rfl ?_
            refine st68.trans ?_
            refine XS.lload X68.here hx rfl (hb hby at_297) rfl ?_
            refine XS.lcmp X68.here hx rfl (hb hby at_299) rfl ?_
            refine XS.ifNo X68.here hx rfl (hb hby at_300) rfl ((if0 _ _).trans (teq ((lw_eq _ _).mpr (own_fin5 (own_fd ta g) (own_fd tb g) (own_fd tc g) ea eb ec fh hm1 hm2 hc52))).2) ?_
            refine XS.iconst X68.here hx rfl (hb hby at_303) ?_
            refine XS.goto X68.here hx rfl (pc0 := 304) (pc' := 308) rfl (hb hby at_304) (by decide) (by decide) ?_
            show Steps p.tables e below (T68.setTop (mkF m 308 #[.val (.long q1), .second, .val (.long q2), .second, .val (.int p3), .val (.int p4), .val (.int p5), .val (.long g), .second, .val (.long da), .second, .val (.long db), .second, .val (.int nn), .val (.int wv), .val (.long (((q2.toUInt64 >>> ((11 : Int32) &&& 0x3f).toInt64.toUInt64).toInt64) &&& (15 : Int64))), .second, .val (.long ta), .second, .val (.long tb), .second, .val (.long tc), .second, .val (.long ea), .second, .val (.long eb), .second, .val (.long ec), .second, .val (.long (own_fd ta g)), .second, .val (.long (own_fd tb g)), .second, .val (.long (own_fd tc g)), .second, .val (.long fh), .second, .val (.ref b20), .val (.long (((0 : Int64) + ea) + eb)), .second, .val (.long (if (own_fd tb g) < fh then (if (own_fd ta g) < fh then (0 : Int64) else ((0 : Int64) + ea)) else ((if (own_fd ta g) < fh then (0 : Int64) else ((0 : Int64) + ea)) + eb))), .second] [(.int (1 : Int32))])) _
            exact retN X68 hx (t := .boolean) Bd.returns (by simp) (hb hby at_308) hr
          · show Q_rm0 Z q1 q2 p3 p4 p5 w_NO_ENTRIES kn h0 n0 _ T68.heap _
            rw [e68]
            exact ⟨rfl, N68, K60⟩
        · skip
          have pre70 : ∀ t, Steps p.tables e below (T53.setTop (mkF m 241 #[.val (.long q1), .second, .val (.long q2), .second, .val (.int p3), .val (.int p4), .val (.int p5), .val (.long g), .second, .val (.long da), .second, .val (.long db), .second, .val (.int nn), .val (.int wv), .val (.long (((q2.toUInt64 >>> ((11 : Int32) &&& 0x3f).toInt64.toUInt64).toInt64) &&& (15 : Int64))), .second, .val (.long ta), .second, .val (.long tb), .second, .val (.long tc), .second, .val (.long ea), .second, .val (.long eb), .second, .val (.long ec), .second, .val (.long (own_fd ta g)), .second, .val (.long (own_fd tb g)), .second, .val (.long (own_fd tc g)), .second, .val (.long fh), .second, .val (.ref b20), .val (.long (((0 : Int64) + ea) + eb)), .second, .val (.long (if (own_fd tb g) < fh then (if (own_fd ta g) < fh then (0 : Int64) else ((0 : Int64) + ea)) else ((if (own_fd ta g) < fh then (0 : Int64) else ((0 : Int64) + ea)) + eb))), .second] [(.long ec), (.long tc), (.ref b20)])) t → Steps p.tables e below (s₁.setTop (entryFrame m #[(.long q1), (.long q2), (.int p3), (.int p4), (.int p5)] maxLocals)) t := fun t k => pre58 t (by
            refine XS.icmpNo X53.here hx rfl (hb hby at_232) rfl (flt hc59).1 ?_
            refine XS.aload X53.here hx rfl (hb hby at_235) rfl rfl ?_
            refine XS.lload X53.here hx rfl (hb hby at_237) rfl ?_
            refine XS.lload X53.here hx rfl (hb hby at_239) rfl ?_
            exact k)
          by_cases hc71 : (own_fd tc g) = (own_fd ta g)
          · skip
            have f73 : Exa Z T53.heap b20 "com/example/okno/okno/AdmissionLog" := (f54.keep Kq53)
            obtain ⟨cq72, kq72, q72a, q72b, q72c⟩ := isOf hZ rfl f73
            obtain ⟨_, _, ⟨T72, L72, k72, n72⟩, -, X72, ⟨Lc72, hQ72, l72, y72, z72⟩, st72⟩ := X53.virtualBack hx (y := (⟨"com/example/okno/okno/AdmissionLog", "append", "(JJ)V"⟩ : MethodName)) (z := (⟨"com/example/okno/okno/AdmissionLog", "append", "(JJ)V"⟩ : MethodName)) hown (mvT hZ (kw75 hw)) (mvT hZ (kw76 hw)) (notFace_of_selects (args := #[]) (mvT hZ (kw78 hw))) (mvT hZ (kw78 hw)) (mvT hZ (kw77 hw)) (by decide) (backOf (W := 0) (rmAppB_9 l Z a0 hw [] b20 tc ec g tb (((0 : Int64) + ea) + eb) (own_fd ta g) tb w_NO_ENTRIES w_NO_ENTRIES (own_fd ta g) fr0_21 (own_end (own_fd ta g) ta g) (0 : Int64) (0 : Int32) (0 : Int32) T53.heap n0 Z53 f73 g_b20 hgz (own_nov (own_badd (own_badd (by decide : (0 : Int) ≤ (0 : Int64).toInt ∧ (0 : Int64).toInt ≤ 0) hea (by decide) (by decide)) heb (by decide) (by decide)) hec (by decide) (by decide) (by decide)) (own_bne (own_badd (own_badd (by decide : (0 : Int) ≤ (0 : Int64).toInt ∧ (0 : Int64).toInt ≤ 0) hea (by decide) (by decide)) heb (by decide) (by decide)) (by decide)) hc71 p53_0 p53_1 p53_2 p53_3 p53_4 p53_5 p53_6 p53_7 p53_8 p53_9 p53_10 p53_11 p53_12 p53_13) hZ (kw79 hw) (kw18 hw) (by decide) (by decide)) q72a q72c (g := (mkF m 241 #[.val (.long q1), .second, .val (.long q2), .second, .val (.int p3), .val (.int p4), .val (.int p5), .val (.long g), .second, .val (.long da), .second, .val (.long db), .second, .val (.int nn), .val (.int wv), .val (.long (((q2.toUInt64 >>> ((11 : Int32) &&& 0x3f).toInt64.toUInt64).toInt64) &&& (15 : Int64))), .second, .val (.long ta), .second, .val (.long tb), .second, .val (.long tc), .second, .val (.long ea), .second, .val (.long eb), .second, .val (.long ec), .second, .val (.long (own_fd ta g)), .second, .val (.long (own_fd tb g)), .second, .val (.long (own_fd tc g)), .second, .val (.long fh), .second, .val (.ref b20), .val (.long (((0 : Int64) + ea) + eb)), .second, .val (.long (if (own_fd tb g) < fh then (if (own_fd ta g) < fh then (0 : Int64) else ((0 : Int64) + ea)) else ((if (own_fd ta g) < fh then (0 : Int64) else ((0 : Int64) + ea)) + eb))), .second] [(.long ec), (.long tc), (.ref b20)])) rfl (by rw [hml]; rfl) (Steps.refl _) (argsL := [(.long tc), (.long ec)]) (rest := []) (lenOf pd_8 rfl) rfl (by show 2 * 0 + _ ≤ _; exact Nat.le_of_eq rfl) (hb hby at_241) (fun _ _ => ⟨rfl, rfl, (by decide : 2 + 0 ≤ _), (by decide : 22 + 0 ≤ _)⟩)
            dsimp only [Pt.U, Pt.locs, Pt.cells, Pt.slots] at X72 l72 y72 z72 st72 hQ72
            subst l72 y72 z72
            obtain ⟨rfl, N72q, Kq72, p72_0, p72_1, p72_2, p72_3, p72_4, p72_5, p72_6, p72_7, p72_8, p72_9, p72_10, p72_11, p72_12, p72_13⟩ := hQ72
            have N72 := Fr.app N53 N72q
            have Z72 : n0 ≤ T72.heap.size := Nat.le_trans Z53 Kq72.1
            have K72 : Keep h0 T72.heap [] := K53.trans Kq72 (allS (Or.inr sz_b20) all0)
            have pre74 : ∀ t, Steps p.tables e below (T72.setTop (mkF m 256 #[.val (.long q1), .second, .val (.long q2), .second, .val (.int p3), .val (.int p4), .val (.int p5), .val (.long g), .second, .val (.long da), .second, .val (.long db), .second, .val (.int nn), .val (.int wv), .val (.long (((q2.toUInt64 >>> ((11 : Int32) &&& 0x3f).toInt64.toUInt64).toInt64) &&& (15 : Int64))), .second, .val (.long ta), .second, .val (.long tb), .second, .val (.long tc), .second, .val (.long ea), .second, .val (.long eb), .second, .val (.long ec), .second, .val (.long (own_fd ta g)), .second, .val (.long (own_fd tb g)), .second, .val (.long (own_fd tc g)), .second, .val (.long fh), .second, .val (.ref b20), .val (.long ((((0 : Int64) + ea) + eb) + ec)), .second, .val (.long (if (own_fd tb g) < fh then (if (own_fd ta g) < fh then (0 : Int64) else ((0 : Int64) + ea)) else ((if (own_fd ta g) < fh then (0 : Int64) else ((0 : Int64) + ea)) + eb))), .second] [(.int (lcmpW (own_fd tc g) fh))])) t → Steps p.tables e below (s₁.setTop (entryFrame m #[(.long q1), (.long q2), (.int p3), (.int p4), (.int p5)] maxLocals)) t := fun t k => pre70 t (by
              refine st72.trans ?_
              refine XS.lload X72.here hx rfl (hb hby at_244) rfl ?_
              refine XS.lload X72.here hx rfl (hb hby at_246) rfl ?_
              refine XS.ladd X72.here hx rfl (hb hby at_248) rfl ?_
              refine XS.lstore X72.here hx rfl (hb hby at_249) rfl (l' := #[.val (.long q1), .second, .val (.long q2), .second, .val (.int p3), .val (.int p4), .val (.int p5), .val (.long g), .second, .val (.long da), .second, .val (.long db), .second, .val (.int nn), .val (.int wv), .val (.long (((q2.toUInt64 >>> ((11 : Int32) &&& 0x3f).toInt64.toUInt64).toInt64) &&& (15 : Int64))), .second, .val (.long ta), .second, .val (.long tb), .second, .val (.long tc), .second, .val (.long ea), .second, .val (.long eb), .second, .val (.long ec), .second, .val (.long (own_fd ta g)), .second, .val (.long (own_fd tb g)), .second, .val (.long (own_fd tc g)), .second, .val (.long fh), .second, .val (.ref b20), .val (.long ((((0 : Int64) + ea) + eb) + ec)), .second, .val (.long (if (own_fd tb g) < fh then (if (own_fd ta g) < fh then (0 : Int64) else ((0 : Int64) + ea)) else ((if (own_fd ta g) < fh then (0 : Int64) else ((0 : Int64) + ea)) + eb))), .second]) rfl ?_
              refine XS.lload X72.here hx rfl (hb hby at_251) rfl ?_
              refine XS.lload X72.here hx rfl (hb hby at_253) rfl ?_
              refine XS.lcmp X72.here hx rfl (hb hby at_255) rfl ?_
              exact k)
            have pre76 : ∀ t, Steps p.tables e below (T72.setTop (mkF m 266 #[.val (.long q1), .second, .val (.long q2), .second, .val (.int p3), .val (.int p4), .val (.int p5), .val (.long g), .second, .val (.long da), .second, .val (.long db), .second, .val (.int nn), .val (.int wv), .val (.long (((q2.toUInt64 >>> ((11 : Int32) &&& 0x3f).toInt64.toUInt64).toInt64) &&& (15 : Int64))), .second, .val (.long ta), .second, .val (.long tb), .second, .val (.long tc), .second, .val (.long ea), .second, .val (.long eb), .second, .val (.long ec), .second, .val (.long (own_fd ta g)), .second, .val (.long (own_fd tb g)), .second, .val (.long (own_fd tc g)), .second, .val (.long fh), .second, .val (.ref b20), .val (.long ((((0 : Int64) + ea) + eb) + ec)), .second, .val (.long (if (own_fd tc g) < fh then (if (own_fd tb g) < fh then (if (own_fd ta g) < fh then (0 : Int64) else ((0 : Int64) + ea)) else ((if (own_fd ta g) < fh then (0 : Int64) else ((0 : Int64) + ea)) + eb)) else ((if (own_fd tb g) < fh then (if (own_fd ta g) < fh then (0 : Int64) else ((0 : Int64) + ea)) else ((if (own_fd ta g) < fh then (0 : Int64) else ((0 : Int64) + ea)) + eb)) + ec))), .second] [])) t → Steps p.tables e below (s₁.setTop (entryFrame m #[(.long q1), (.long q2), (.int p3), (.int p4), (.int p5)] maxLocals)) t := fun t k => pre74 t (by
              by_cases hc75 : (own_fd tc g) < fh
              · skip
                refine XS.ifYes X72.here hx rfl (pc0 := 256) (pc' := 266) rfl (hb hby at_256) rfl ((if0 _ _).trans (tlt ((lw_lt _ _).mpr hc75)).1) (by decide) (by decide) ?_
                simp only [if_pos hc75] at k; exact k
              · skip
                refine XS.ifNo X72.here hx rfl (hb hby at_256) rfl ((if0 _ _).trans (flt (fun q => hc75 ((lw_lt _ _).mp q))).1) ?_
                refine XS.lload X72.here hx rfl (hb hby at_259) rfl ?_
                refine XS.lload X72.here hx rfl (hb hby at_261) rfl ?_
                refine XS.ladd X72.here hx rfl (hb hby at_263) rfl ?_
                refine XS.lstore X72.here hx rfl (hb hby at_264) rfl (l' := #[.val (.long q1), .second, .val (.long q2), .second, .val (.int p3), .val (.int p4), .val (.int p5), .val (.long g), .second, .val (.long da), .second, .val (.long db), .second, .val (.int nn), .val (.int wv), .val (.long (((q2.toUInt64 >>> ((11 : Int32) &&& 0x3f).toInt64.toUInt64).toInt64) &&& (15 : Int64))), .second, .val (.long ta), .second, .val (.long tb), .second, .val (.long tc), .second, .val (.long ea), .second, .val (.long eb), .second, .val (.long ec), .second, .val (.long (own_fd ta g)), .second, .val (.long (own_fd tb g)), .second, .val (.long (own_fd tc g)), .second, .val (.long fh), .second, .val (.ref b20), .val (.long ((((0 : Int64) + ea) + eb) + ec)), .second, .val (.long ((if (own_fd tb g) < fh then (if (own_fd ta g) < fh then (0 : Int64) else ((0 : Int64) + ea)) else ((if (own_fd ta g) < fh then (0 : Int64) else ((0 : Int64) + ea)) + eb)) + ec)), .second]) rfl ?_
                simp only [if_neg hc75] at k; exact k)
            have f78 : Exa Z T72.heap b20 "com/example/okno/okno/AdmissionLog" := (f73.keep Kq72)
            have f79 : Arv Z T72.heap fr0_21 fk0_21 .long (4 : Int32) [(.long (0 : Int64)), (.long (1 : Int64)), (.long (0 : Int64)), (.long (1 : Int64))] (.long (0 : Int64)) := ((p35_14.keep Kq53 (ninS (Ne.symm ne21_b20_fr0_21) nin0)).keep Kq72 (ninS (Ne.symm ne21_b20_fr0_21) nin0))
            obtain ⟨cq77, kq77, q77a, q77b, q77c⟩ := isOf hZ rfl f78
            obtain ⟨_, _, ⟨T77, L77, k77, n77⟩, -, X77, ⟨Lc77, hQ77, l77, y77, z77⟩, st77⟩ := X72.virtualBack hx (y := (⟨"com/example/okno/okno/AdmissionLog", "fitShorterWindow", "(IJ)V"⟩ : MethodName)) (z := (⟨"com/example/okno/okno/AdmissionLog", "fitShorterWindow", "(IJ)V"⟩ : MethodName)) hown (mvT hZ (kw54 hw)) (mvT hZ (kw55 hw)) (notFace_of_selects (args := #[]) (mvT hZ (kw57 hw))) (mvT hZ (kw57 hw)) (mvT hZ (kw56 hw)) (by decide) (backOf (W := 0) (rmFit_5 l Z a0 hw [] b20 wv fh fr0_21 fk0_21 ([(.long (0 : Int64)), (.long (1 : Int64)), (.long (0 : Int64)), (.long (1 : Int64))]) (0 : Int64) (own_fd ta g) (0 : Int64) (0 : Int64) (0 : Int64) (0 : Int64) ((((0 : Int64) + ea) + eb) + ec) T72.heap n0 Z72 f78 p21_0 (Ne.symm ne21_b20_fr0_21) rfl f79 hw01 (by rcases hw01 with q | q <;> rw [q] <;> rfl) (by rcases hw01 with q | q <;> rw [q] <;> rfl) p72_8 (own_bne (own_badd (own_badd (own_badd (by decide : (0 : Int) ≤ (0 : Int64).toInt ∧ (0 : Int64).toInt ≤ 0) hea (by decide) (by decide)) heb (by decide) (by decide)) hec (by decide) (by decide)) (by decide)) p72_7 p72_12 p72_9) hZ (kw58 hw) (kw18 hw) (by decide) (by decide)) q77a q77c (g := (mkF m 272 #[.val (.long q1), .second, .val (.long q2), .second, .val (.int p3), .val (.int p4), .val (.int p5), .val (.long g), .second, .val (.long da), .second, .val (.long db), .second, .val (.int nn), .val (.int wv), .val (.long (((q2.toUInt64 >>> ((11 : Int32) &&& 0x3f).toInt64.toUInt64).toInt64) &&& (15 : Int64))), .second, .val (.long ta), .second, .val (.long tb), .second, .val (.long tc), .second, .val (.long ea), .second, .val (.long eb), .second, .val (.long ec), .second, .val (.long (own_fd ta g)), .second, .val (.long (own_fd tb g)), .second, .val (.long (own_fd tc g)), .second, .val (.long fh), .second, .val (.ref b20), .val (.long ((((0 : Int64) + ea) + eb) + ec)), .second, .val (.long (if (own_fd tc g) < fh then (if (own_fd tb g) < fh then (if (own_fd ta g) < fh then (0 : Int64) else ((0 : Int64) + ea)) else ((if (own_fd ta g) < fh then (0 : Int64) else ((0 : Int64) + ea)) + eb)) else ((if (own_fd tb g) < fh then (if (own_fd ta g) < fh then (0 : Int64) else ((0 : Int64) + ea)) else ((if (own_fd ta g) < fh then (0 : Int64) else ((0 : Int64) + ea)) + eb)) + ec))), .second] [(.long fh), (.int wv), (.ref b20)])) rfl (by rw [hml]; rfl) (Steps.refl _) (argsL := [(.int wv), (.long fh)]) (rest := []) (lenOf pd_6 rfl) rfl (by show 2 * 0 + _ ≤ _; exact Nat.le_of_eq rfl) (hb hby at_272) (fun _ _ => ⟨rfl, rfl, (by decide : 2 + 0 ≤ _), (by decide : 22 + 0 ≤ _)⟩)
            dsimp only [Pt.U, Pt.locs, Pt.cells, Pt.slots] at X77 l77 y77 z77 st77 hQ77
            subst l77 y77 z77
            obtain ⟨rfl, N77q, Kq77, p77_0⟩ := hQ77
            have N77 := Fr.app N72 N77q
            have Z77 : n0 ≤ T77.heap.size := Nat.le_trans Z72 Kq77.1
            have K77 : Keep h0 T77.heap [] := K72.trans Kq77 (allS (Or.inr sz_fr0_21) all0)
            have f81 : Fld Z T77.heap b20 "com/example/okno/okno/AdmissionLog" "shorterWindows" "[J" (.ref fr0_21) := (p72_7.keep Kq77 (ninS ne21_b20_fr0_21 nin0))
            have f82 : Fld Z T77.heap b20 "com/example/okno/okno/AdmissionLog" "total" "J" (.long ((((0 : Int64) + ea) + eb) + ec)) := (p72_8.keep Kq77 (ninS ne21_b20_fr0_21 nin0))
            have f83 : Fld Z T77.heap b20 "com/example/okno/okno/AdmissionLog" "olderTotal" "J" (.long (0 : Int64)) := (p72_11.keep Kq77 (ninS ne21_b20_fr0_21 nin0))
            have f84 : Exa Z T77.heap b20 "com/example/okno/okno/AdmissionLog" := (f78.keep Kq77)
            obtain ⟨cq80, kq80, q80a, q80b, q80c⟩ := isOf hZ rfl f84
            obtain ⟨_, _, ⟨T80, L80, k80, n80⟩, -, X80, ⟨Lc80, hQ80, l80, y80, z80⟩, st80⟩ := X77.virtualBack hx (y := (⟨"com/example/okno/okno/AdmissionLog", "shorterTotal", "(I)J"⟩ : MethodName)) (z := (⟨"com/example/okno/okno/AdmissionLog", "shorterTotal", "(I)J"⟩ : MethodName)) hown (mvT hZ (kw70 hw)) (mvT hZ (kw71 hw)) (notFace_of_selects (args := #[]) (mvT hZ (kw73 hw))) (mvT hZ (kw73 hw)) (mvT hZ (kw72 hw)) (by decide) (backOf (W := 0) (rmTot l Z a0 hw [] b20 wv fr0_21 fk0_21 (([(.long (0 : Int64)), (.long (1 : Int64)), (.long (0 : Int64)), (.long (1 : Int64))].set (((2 : Int32) * wv)).toNatClampNeg (.long (own_fr0 (0 : Int64) fh (own_fd ta g) (0 : Int64) (0 : Int64) (0 : Int64) (0 : Int64)))).set ((((2 : Int32) * wv) + (1 : Int32))).toNatClampNeg (.long (own_fc0 (0 : Int64) fh (own_fd ta g) (0 : Int64) (0 : Int64) (0 : Int64) (0 : Int64)))) (own_fr0 (0 : Int64) fh (own_fd ta g) (0 : Int64) (0 : Int64) (0 : Int64) (0 : Int64)) (own_fc0 (0 : Int64) fh (own_fd ta g) (0 : Int64) (0 : Int64) (0 : Int64) (0 : Int64)) ((((0 : Int64) + ea) + eb) + ec) (0 : Int64) T77.heap n0 Z77 f81 p77_0 f82 f83 hw01 (by rcases hw01 with q | q <;> rw [q] <;> rfl) (by rcases hw01 with q | q <;> rw [q] <;> rfl)) hZ (kw74 hw) (kw18 hw) (by decide) (by decide)) q80a q80c (g := (mkF m 279 #[.val (.long q1), .second, .val (.long q2), .second, .val (.int p3), .val (.int p4), .val (.int p5), .val (.long g), .second, .val (.long da), .second, .val (.long db), .second, .val (.int nn), .val (.int wv), .val (.long (((q2.toUInt64 >>> ((11 : Int32) &&& 0x3f).toInt64.toUInt64).toInt64) &&& (15 : Int64))), .second, .val (.long ta), .second, .val (.long tb), .second, .val (.long tc), .second, .val (.long ea), .second, .val (.long eb), .second, .val (.long ec), .second, .val (.long (own_fd ta g)), .second, .val (.long (own_fd tb g)), .second, .val (.long (own_fd tc g)), .second, .val (.long fh), .second, .val (.ref b20), .val (.long ((((0 : Int64) + ea) + eb) + ec)), .second, .val (.long (if (own_fd tc g) < fh then (if (own_fd tb g) < fh then (if (own_fd ta g) < fh then (0 : Int64) else ((0 : Int64) + ea)) else ((if (own_fd ta g) < fh then (0 : Int64) else ((0 : Int64) + ea)) + eb)) else ((if (own_fd tb g) < fh then (if (own_fd ta g) < fh then (0 : Int64) else ((0 : Int64) + ea)) else ((if (own_fd ta g) < fh then (0 : Int64) else ((0 : Int64) + ea)) + eb)) + ec))), .second] [(.int wv), (.ref b20)])) rfl (by rw [hml]; rfl) (Steps.refl _) (argsL := [(.int wv)]) (rest := []) (lenOf pd_1 rfl) rfl (by show 2 * 0 + _ ≤ _; exact Nat.le_of_eq rfl) (hb hby at_279) (fun _ _ => ⟨rfl, rfl, (by decide : 2 + 0 ≤ _), (by decide : 22 + 0 ≤ _)⟩)
            dsimp only [Pt.U, Pt.locs, Pt.cells, Pt.slots] at X80 l80 y80 z80 st80 hQ80
            subst l80 y80 z80
            obtain ⟨rfl, N80q, e80⟩ := hQ80
            have N80 := Fr.app N77 N80q
            obtain ⟨cq85, kq85, q85a, q85b, q85c⟩ := isOf hZ e80 f84
            obtain ⟨_, _, ⟨T85, L85, k85, n85⟩, -, X85, ⟨Lc85, hQ85, l85, y85, z85⟩, st85⟩ := X80.virtualBack hx (y := (⟨"com/example/okno/okno/AdmissionLog", "shorterTotal", "(I)J"⟩ : MethodName)) (z := (⟨"com/example/okno/okno/AdmissionLog", "shorterTotal", "(I)J"⟩ : MethodName)) hown (mvT hZ (kw70 hw)) (mvT hZ (kw71 hw)) (notFace_of_selects (args := #[]) (mvT hZ (kw73 hw))) (mvT hZ (kw73 hw)) (mvT hZ (kw72 hw)) (by decide) (backOf (W := 0) (rmTot l Z a0 hw [] b20 ((1 : Int32) - wv) fr0_21 fk0_21 (([(.long (0 : Int64)), (.long (1 : Int64)), (.long (0 : Int64)), (.long (1 : Int64))].set (((2 : Int32) * wv)).toNatClampNeg (.long (own_fr0 (0 : Int64) fh (own_fd ta g) (0 : Int64) (0 : Int64) (0 : Int64) (0 : Int64)))).set ((((2 : Int32) * wv) + (1 : Int32))).toNatClampNeg (.long (own_fc0 (0 : Int64) fh (own_fd ta g) (0 : Int64) (0 : Int64) (0 : Int64) (0 : Int64)))) (0 : Int64) (1 : Int64) ((((0 : Int64) + ea) + eb) + ec) (0 : Int64) T77.heap n0 Z77 f81 p77_0 f82 f83 (own_1w hw01) (by rcases hw01 with q | q <;> rw [q] <;> rfl) (by rcases hw01 with q | q <;> rw [q] <;> rfl)) hZ (kw74 hw) (kw18 hw) (by decide) (by decide)) q85a q85c (g := (mkF m 294 #[.val (.long q1), .second, .val (.long q2), .second, .val (.int p3), .val (.int p4), .val (.int p5), .val (.long g), .second, .val (.long da), .second, .val (.long db), .second, .val (.int nn), .val (.int wv), .val (.long (((q2.toUInt64 >>> ((11 : Int32) &&& 0x3f).toInt64.toUInt64).toInt64) &&& (15 : Int64))), .second, .val (.long ta), .second, .val (.long tb), .second, .val (.long tc), .second, .val (.long ea), .second, .val (.long eb), .second, .val (.long ec), .second, .val (.long (own_fd ta g)), .second, .val (.long (own_fd tb g)), .second, .val (.long (own_fd tc g)), .second, .val (.long fh), .second, .val (.ref b20), .val (.long ((((0 : Int64) + ea) + eb) + ec)), .second, .val (.long (if (own_fd tc g) < fh then (if (own_fd tb g) < fh then (if (own_fd ta g) < fh then (0 : Int64) else ((0 : Int64) + ea)) else ((if (own_fd ta g) < fh then (0 : Int64) else ((0 : Int64) + ea)) + eb)) else ((if (own_fd tb g) < fh then (if (own_fd ta g) < fh then (0 : Int64) else ((0 : Int64) + ea)) else ((if (own_fd ta g) < fh then (0 : Int64) else ((0 : Int64) + ea)) + eb)) + ec))), .second] [(.int ((1 : Int32) - wv)), (.ref b20)])) rfl (by rw [hml]; rfl) (Steps.refl _) (argsL := [(.int ((1 : Int32) - wv))]) (rest := []) (lenOf pd_1 rfl) rfl (by show 2 * 0 + _ ≤ _; exact Nat.le_of_eq rfl) (hb hby at_294) (fun _ _ => ⟨rfl, e80, (by decide : 2 + 0 ≤ _), (by decide : 22 + 0 ≤ _)⟩)
            dsimp only [Pt.U, Pt.locs, Pt.cells, Pt.slots] at X85 l85 y85 z85 st85 hQ85
            subst l85 y85 z85
            obtain ⟨rfl, N85q, e85⟩ := hQ85
            have N85 := Fr.app N80 N85q
            obtain ⟨fs, hr, hrun, hended, hW, hsame⟩ := X85.leave (v := some (.int (1 : Int32))) (fun h => by rw [Bd.returns] at h; cases h)
            refine ⟨_, _, pre76 _ ?_, hrun, hended, _, _, rfl, ?_, ⟨_, rfl⟩, hW, hsame.mono (by decide) (by decide)⟩
            · skip
              refine XS.aload X72.here hx rfl (hb hby at_266) rfl rfl ?_
              refine XS.iload X72.here hx rfl (hb hby at_268) rfl ?_
              refine XS.lload X72.here hx rfl (hb hby at_270) rfl ?_
              refine st77.trans ?_
              refine XS.aload X77.here hx rfl (hb hby at_275) rfl rfl ?_
              refine XS.iload X77.here hx rfl (hb hby at_277) rfl ?_
              refine st80.trans ?_
              refine XS.lload X80.here hx rfl (hb hby at_282) rfl ?_
              refine XS.lcmp X80.here hx rfl (hb hby at_284) rfl ?_
              refine XS.ifNo X80.here hx rfl (hb hby at_285) rfl ((if0 _ _).trans (teq ((lw_eq _ _).mpr (own_fin6 (own_fd ta g) (own_fd tb g) (own_fd tc g) ea eb ec fh hm1 hm2 hc52 hc71))).2) ?_
              refine XS.aload X80.here hx rfl (hb hby at_288) rfl rfl ?_
              refine XS.iconst X80.here hx rfl (hb hby at_290) ?_
              refine XS.iload X80.here hx rfl (hb hby at_291) rfl ?_
              refine XS.isub X80.here hx rfl (hb hby at_293) rfl ?_
              refine st85.trans ?_
              refine XS.lload X85.here hx rfl (hb hby at_297) rfl ?_
              refine XS.lcmp X85.here hx rfl (hb hby at_299) rfl ?_
              refine XS.ifNo X85.here hx rfl (hb hby at_300) rfl ((if0 _ _).trans (teq ((lw_eq _ _).mpr (own_fin7 (own_fd ta g) (own_fd tb g) (own_fd tc g) ea eb ec fh hm1 hm2 hc52 hc71))).2) ?_
              refine XS.iconst X85.here hx rfl (hb hby at_303) ?_
              refine XS.goto X85.here hx rfl (pc0 := 304) (pc' := 308) rfl (hb hby at_304) (by decide) (by decide) ?_
              show Steps p.tables e below (T85.setTop (mkF m 308 #[.val (.long q1), .second, .val (.long q2), .second, .val (.int p3), .val (.int p4), .val (.int p5), .val (.long g), .second, .val (.long da), .second, .val (.long db), .second, .val (.int nn), .val (.int wv), .val (.long (((q2.toUInt64 >>> ((11 : Int32) &&& 0x3f).toInt64.toUInt64).toInt64) &&& (15 : Int64))), .second, .val (.long ta), .second, .val (.long tb), .second, .val (.long tc), .second, .val (.long ea), .second, .val (.long eb), .second, .val (.long ec), .second, .val (.long (own_fd ta g)), .second, .val (.long (own_fd tb g)), .second, .val (.long (own_fd tc g)), .second, .val (.long fh), .second, .val (.ref b20), .val (.long ((((0 : Int64) + ea) + eb) + ec)), .second, .val (.long (if (own_fd tc g) < fh then (if (own_fd tb g) < fh then (if (own_fd ta g) < fh then (0 : Int64) else ((0 : Int64) + ea)) else ((if (own_fd ta g) < fh then (0 : Int64) else ((0 : Int64) + ea)) + eb)) else ((if (own_fd tb g) < fh then (if (own_fd ta g) < fh then (0 : Int64) else ((0 : Int64) + ea)) else ((if (own_fd ta g) < fh then (0 : Int64) else ((0 : Int64) + ea)) + eb)) + ec))), .second] [(.int (1 : Int32))])) _
              exact retN X85 hx (t := .boolean) Bd.returns (by simp) (hb hby at_308) hr
            · show Q_rm0 Z q1 q2 p3 p4 p5 w_NO_ENTRIES kn h0 n0 _ T85.heap _
              rw [e85]
              exact ⟨rfl, N85, K77⟩
          · skip
            have f88 : Exa Z T53.heap b20 "com/example/okno/okno/AdmissionLog" := (f54.keep Kq53)
            have f89 : Arv Z T53.heap fr0_21 fk0_21 .long (4 : Int32) [(.long (0 : Int64)), (.long (1 : Int64)), (.long (0 : Int64)), (.long (1 : Int64))] (.long (0 : Int64)) := (p35_14.keep Kq53 (ninS (Ne.symm ne21_b20_fr0_21) nin0))
            have f90 : Arv Z T53.heap w_NO_ENTRIES kn .long (0 : Int32) [] (.long (0 : Int64)) := (((f23.keep Kq21 (ninS ne20_w_NO_ENTRIES nin0)).keep Kq35 (ninS ne20_w_NO_ENTRIES (ninS ne21_w_NO_ENTRIES_fr0_21 nin0))).keep Kq53 (ninS ne20_w_NO_ENTRIES nin0))
            obtain ⟨cq87, kq87, q87a, q87b, q87c⟩ := isOf hZ rfl f88
            obtain ⟨_, _, ⟨T87, L87, k87, n87⟩, -, X87, ⟨Lc87, hQ87, l87, y87, z87⟩, st87⟩ := X53.virtualBack hx (y := (⟨"com/example/okno/okno/AdmissionLog", "append", "(JJ)V"⟩ : MethodName)) (z := (⟨"com/example/okno/okno/AdmissionLog", "append", "(JJ)V"⟩ : MethodName)) hown (mvT hZ (kw75 hw)) (mvT hZ (kw76 hw)) (notFace_of_selects (args := #[]) (mvT hZ (kw78 hw))) (mvT hZ (kw78 hw)) (mvT hZ (kw77 hw)) (by decide) (backOf (W := 0) (rmAppC_10 l Z a0 hw [] b20 tc ec g tb (((0 : Int64) + ea) + eb) (own_fd ta g) fr0_21 fk0_21 (0 : Int64) (0 : Int64) w_NO_ENTRIES kn tb (own_fd ta g) (own_end (own_fd ta g) ta g) (0 : Int64) (0 : Int32) T53.heap n0 Z53 f88 g_b20 hgz (own_nov (own_badd (own_badd (by decide : (0 : Int) ≤ (0 : Int64).toInt ∧ (0 : Int64).toInt ≤ 0) hea (by decide) (by decide)) heb (by decide) (by decide)) hec (by decide) (by decide) (by decide)) (own_bne (own_badd (own_badd (by decide : (0 : Int) ≤ (0 : Int64).toInt ∧ (0 : Int64).toInt ≤ 0) hea (by decide) (by decide)) heb (by decide) (by decide)) (by decide)) hc71 f89 p21_0 (Ne.symm ne21_b20_fr0_21) f90 ne20_w_NO_ENTRIES ne21_w_NO_ENTRIES_fr0_21 p53_0 p53_1 p53_2 p53_3 p53_4 p53_5 p53_6 p53_7 p53_8 p53_9 p53_10 p53_11 p53_12 p53_13) hZ (kw79 hw) (kw18 hw) (by decide) (by decide)) q87a q87c (g := (mkF m 241 #[.val (.long q1), .second, .val (.long q2), .second, .val (.int p3), .val (.int p4), .val (.int p5), .val (.long g), .second, .val (.long da), .second, .val (.long db), .second, .val (.int nn), .val (.int wv), .val (.long (((q2.toUInt64 >>> ((11 : Int32) &&& 0x3f).toInt64.toUInt64).toInt64) &&& (15 : Int64))), .second, .val (.long ta), .second, .val (.long tb), .second, .val (.long tc), .second, .val (.long ea), .second, .val (.long eb), .second, .val (.long ec), .second, .val (.long (own_fd ta g)), .second, .val (.long (own_fd tb g)), .second, .val (.long (own_fd tc g)), .second, .val (.long fh), .second, .val (.ref b20), .val (.long (((0 : Int64) + ea) + eb)), .second, .val (.long (if (own_fd tb g) < fh then (if (own_fd ta g) < fh then (0 : Int64) else ((0 : Int64) + ea)) else ((if (own_fd ta g) < fh then (0 : Int64) else ((0 : Int64) + ea)) + eb))), .second] [(.long ec), (.long tc), (.ref b20)])) rfl (by rw [hml]; rfl) (Steps.refl _) (argsL := [(.long tc), (.long ec)]) (rest := []) (lenOf pd_8 rfl) rfl (by show 2 * 0 + _ ≤ _; exact Nat.le_of_eq rfl) (hb hby at_241) (fun _ _ => ⟨rfl, rfl, (by decide : 2 + 2 ≤ _), (by decide : 22 + 8 ≤ _)⟩)
            dsimp only [Pt.U, Pt.locs, Pt.cells, Pt.slots] at X87 l87 y87 z87 st87 hQ87
            subst l87 y87 z87
            obtain ⟨fr0_87, fk0_87, fr1_87, fk1_87, rfl, N87q, Kq87, p87_0, p87_1, p87_2, p87_3, p87_4, p87_5, p87_6, p87_7, p87_8, p87_9, p87_10, p87_11, p87_12, p87_13, p87_14, p87_15, p87_16, p87_17, p87_18, p87_19, p87_20, p87_21⟩ := hQ87
            have N87 := Fr.app N53 N87q
            have Z87 : n0 ≤ T87.heap.size := Nat.le_trans Z53 Kq87.1
            have K87 : Keep h0 T87.heap [] := K53.trans Kq87 (allS (Or.inr sz_b20) (allS (Or.inr sz_fr0_21) all0))
            have sz_fr0_87 : h0.size ≤ fr0_87 := Nat.le_trans K53.1 p87_1
            have ne87_b20_fr0_87 : b20 ≠ fr0_87 := Nat.ne_of_lt (Nat.lt_of_lt_of_le f88.lt p87_1)
            have ne87_fr0_21_fr0_87 : fr0_21 ≠ fr0_87 := Nat.ne_of_lt (Nat.lt_of_lt_of_le f89.lt p87_1)
            have ne87_w_NO_ENTRIES_fr0_87 : w_NO_ENTRIES ≠ fr0_87 := Nat.ne_of_lt (Nat.lt_of_lt_of_le f90.lt p87_1)
            have sz_fr1_87 : h0.size ≤ fr1_87 := Nat.le_trans K53.1 p87_4
            have ne87_b20_fr1_87 : b20 ≠ fr1_87 := Nat.ne_of_lt (Nat.lt_of_lt_of_le f88.lt p87_4)
            have ne87_fr0_21_fr1_87 : fr0_21 ≠ fr1_87 := Nat.ne_of_lt (Nat.lt_of_lt_of_le f89.lt p87_4)
            have ne87_w_NO_ENTRIES_fr1_87 : w_NO_ENTRIES ≠ fr1_87 := Nat.ne_of_lt (Nat.lt_of_lt_of_le f90.lt p87_4)
            have pre91 : ∀ t, Steps p.tables e below (T87.setTop (mkF m 256 #[.val (.long q1), .second, .val (.long q2), .second, .val (.int p3), .val (.int p4), .val (.int p5), .val (.long g), .second, .val (.long da), .second, .val (.long db), .second, .val (.int nn), .val (.int wv), .val (.long (((q2.toUInt64 >>> ((11 : Int32) &&& 0x3f).toInt64.toUInt64).toInt64) &&& (15 : Int64))), .second, .val (.long ta), .second, .val (.long tb), .second, .val (.long tc), .second, .val (.long ea), .second, .val (.long eb), .second, .val (.long ec), .second, .val (.long (own_fd ta g)), .second, .val (.long (own_fd tb g)), .second, .val (.long (own_fd tc g)), .second, .val (.long fh), .second, .val (.ref b20), .val (.long ((((0 : Int64) + ea) + eb) + ec)), .second, .val (.long (if (own_fd tb g) < fh then (if (own_fd ta g) < fh then (0 : Int64) else ((0 : Int64) + ea)) else ((if (own_fd ta g) < fh then (0 : Int64) else ((0 : Int64) + ea)) + eb))), .second] [(.int (lcmpW (own_fd tc g) fh))])) t → Steps p.tables e below (s₁.setTop (entryFrame m #[(.long q1), (.long q2), (.int p3), (.int p4), (.int p5)] maxLocals)) t := fun t k => pre70 t (by
              refine st87.trans ?_
              refine XS.lload X87.here hx rfl (hb hby at_244) rfl ?_
              refine XS.lload X87.here hx rfl (hb hby at_246) rfl ?_
              refine XS.ladd X87.here hx rfl (hb hby at_248) rfl ?_
              refine XS.lstore X87.here hx rfl (hb hby at_249) rfl (l' := #[.val (.long q1), .second, .val (.long q2), .second, .val (.int p3), .val (.int p4), .val (.int p5), .val (.long g), .second, .val (.long da), .second, .val (.long db), .second, .val (.int nn), .val (.int wv), .val (.long (((q2.toUInt64 >>> ((11 : Int32) &&& 0x3f).toInt64.toUInt64).toInt64) &&& (15 : Int64))), .second, .val (.long ta), .second, .val (.long tb), .second, .val (.long tc), .second, .val (.long ea), .second, .val (.long eb), .second, .val (.long ec), .second, .val (.long (own_fd ta g)), .second, .val (.long (own_fd tb g)), .second, .val (.long (own_fd tc g)), .second, .val (.long fh), .second, .val (.ref b20), .val (.long ((((0 : Int64) + ea) + eb) + ec)), .second, .val (.long (if (own_fd tb g) < fh then (if (own_fd ta g) < fh then (0 : Int64) else ((0 : Int64) + ea)) else ((if (own_fd ta g) < fh then (0 : Int64) else ((0 : Int64) + ea)) + eb))), .second]) rfl ?_
              refine XS.lload X87.here hx rfl (hb hby at_251) rfl ?_
              refine XS.lload X87.here hx rfl (hb hby at_253) rfl ?_
              refine XS.lcmp X87.here hx rfl (hb hby at_255) rfl ?_
              exact k)
            have pre93 : ∀ t, Steps p.tables e below (T87.setTop (mkF m 266 #[.val (.long q1), .second, .val (.long q2), .second, .val (.int p3), .val (.int p4), .val (.int p5), .val (.long g), .second, .val (.long da), .second, .val (.long db), .second, .val (.int nn), .val (.int wv), .val (.long (((q2.toUInt64 >>> ((11 : Int32) &&& 0x3f).toInt64.toUInt64).toInt64) &&& (15 : Int64))), .second, .val (.long ta), .second, .val (.long tb), .second, .val (.long tc), .second, .val (.long ea), .second, .val (.long eb), .second, .val (.long ec), .second, .val (.long (own_fd ta g)), .second, .val (.long (own_fd tb g)), .second, .val (.long (own_fd tc g)), .second, .val (.long fh), .second, .val (.ref b20), .val (.long ((((0 : Int64) + ea) + eb) + ec)), .second, .val (.long (if (own_fd tc g) < fh then (if (own_fd tb g) < fh then (if (own_fd ta g) < fh then (0 : Int64) else ((0 : Int64) + ea)) else ((if (own_fd ta g) < fh then (0 : Int64) else ((0 : Int64) + ea)) + eb)) else ((if (own_fd tb g) < fh then (if (own_fd ta g) < fh then (0 : Int64) else ((0 : Int64) + ea)) else ((if (own_fd ta g) < fh then (0 : Int64) else ((0 : Int64) + ea)) + eb)) + ec))), .second] [])) t → Steps p.tables e below (s₁.setTop (entryFrame m #[(.long q1), (.long q2), (.int p3), (.int p4), (.int p5)] maxLocals)) t := fun t k => pre91 t (by
              by_cases hc92 : (own_fd tc g) < fh
              · skip
                refine XS.ifYes X87.here hx rfl (pc0 := 256) (pc' := 266) rfl (hb hby at_256) rfl ((if0 _ _).trans (tlt ((lw_lt _ _).mpr hc92)).1) (by decide) (by decide) ?_
                simp only [if_pos hc92] at k; exact k
              · skip
                refine XS.ifNo X87.here hx rfl (hb hby at_256) rfl ((if0 _ _).trans (flt (fun q => hc92 ((lw_lt _ _).mp q))).1) ?_
                refine XS.lload X87.here hx rfl (hb hby at_259) rfl ?_
                refine XS.lload X87.here hx rfl (hb hby at_261) rfl ?_
                refine XS.ladd X87.here hx rfl (hb hby at_263) rfl ?_
                refine XS.lstore X87.here hx rfl (hb hby at_264) rfl (l' := #[.val (.long q1), .second, .val (.long q2), .second, .val (.int p3), .val (.int p4), .val (.int p5), .val (.long g), .second, .val (.long da), .second, .val (.long db), .second, .val (.int nn), .val (.int wv), .val (.long (((q2.toUInt64 >>> ((11 : Int32) &&& 0x3f).toInt64.toUInt64).toInt64) &&& (15 : Int64))), .second, .val (.long ta), .second, .val (.long tb), .second, .val (.long tc), .second, .val (.long ea), .second, .val (.long eb), .second, .val (.long ec), .second, .val (.long (own_fd ta g)), .second, .val (.long (own_fd tb g)), .second, .val (.long (own_fd tc g)), .second, .val (.long fh), .second, .val (.ref b20), .val (.long ((((0 : Int64) + ea) + eb) + ec)), .second, .val (.long ((if (own_fd tb g) < fh then (if (own_fd ta g) < fh then (0 : Int64) else ((0 : Int64) + ea)) else ((if (own_fd ta g) < fh then (0 : Int64) else ((0 : Int64) + ea)) + eb)) + ec)), .second]) rfl ?_
                simp only [if_neg hc92] at k; exact k)
            have f95 : Exa Z T87.heap b20 "com/example/okno/okno/AdmissionLog" := (f88.keep Kq87)
            obtain ⟨cq94, kq94, q94a, q94b, q94c⟩ := isOf hZ rfl f95
            obtain ⟨_, _, ⟨T94, L94, k94, n94⟩, -, X94, ⟨Lc94, hQ94, l94, y94, z94⟩, st94⟩ := X87.virtualBack hx (y := (⟨"com/example/okno/okno/AdmissionLog", "fitShorterWindow", "(IJ)V"⟩ : MethodName)) (z := (⟨"com/example/okno/okno/AdmissionLog", "fitShorterWindow", "(IJ)V"⟩ : MethodName)) hown (mvT hZ (kw54 hw)) (mvT hZ (kw55 hw)) (notFace_of_selects (args := #[]) (mvT hZ (kw57 hw))) (mvT hZ (kw57 hw)) (mvT hZ (kw56 hw)) (by decide) (backOf (W := 0) (rmFit_15 l Z a0 hw [] b20 wv fh fr0_21 fk0_21 ([(.long ((0 : Int64) + ((((0 : Int64) + ea) + eb) - (0 : Int64)))), (.long (2 : Int64)), (.long ((0 : Int64) + ((((0 : Int64) + ea) + eb) - (0 : Int64)))), (.long (2 : Int64))]) ((0 : Int64) + ((((0 : Int64) + ea) + eb) - (0 : Int64))) (own_fd tc g) (own_fd ta g) (0 : Int64) ((((0 : Int64) + ea) + eb) - (0 : Int64)) (0 : Int64) ((((0 : Int64) + ea) + eb) + ec) (0 : Int64) (0 : Int64) (0 : Int64) (0 : Int64) fr0_87 fr1_87 fk0_87 fk1_87 T87.heap n0 Z87 f95 p21_0 (Ne.symm ne21_b20_fr0_21) rfl p87_21 hw01 (by rcases hw01 with q | q <;> rw [q] <;> rfl) (by rcases hw01 with q | q <;> rw [q] <;> rfl) p87_15 (own_bne (own_badd (own_badd (own_badd (by decide : (0 : Int) ≤ (0 : Int64).toInt ∧ (0 : Int64).toInt ≤ 0) hea (by decide) (by decide)) heb (by decide) (by decide)) hec (by decide) (by decide)) (by decide)) p87_14 p87_19 p87_16 p87_20 p87_8 p87_9 p87_2 p87_5 ne87_fr0_21_fr0_87 ne87_fr0_21_fr1_87) hZ (kw58 hw) (kw18 hw) (by decide) (by decide)) q94a q94c (g := (mkF m 272 #[.val (.long q1), .second, .val (.long q2), .second, .val (.int p3), .val (.int p4), .val (.int p5), .val (.long g), .second, .val (.long da), .second, .val (.long db), .second, .val (.int nn), .val (.int wv), .val (.long (((q2.toUInt64 >>> ((11 : Int32) &&& 0x3f).toInt64.toUInt64).toInt64) &&& (15 : Int64))), .second, .val (.long ta), .second, .val (.long tb), .second, .val (.long tc), .second, .val (.long ea), .second, .val (.long eb), .second, .val (.long ec), .second, .val (.long (own_fd ta g)), .second, .val (.long (own_fd tb g)), .second, .val (.long (own_fd tc g)), .second, .val (.long fh), .second, .val (.ref b20), .val (.long ((((0 : Int64) + ea) + eb) + ec)), .second, .val (.long (if (own_fd tc g) < fh then (if (own_fd tb g) < fh then (if (own_fd ta g) < fh then (0 : Int64) else ((0 : Int64) + ea)) else ((if (own_fd ta g) < fh then (0 : Int64) else ((0 : Int64) + ea)) + eb)) else ((if (own_fd tb g) < fh then (if (own_fd ta g) < fh then (0 : Int64) else ((0 : Int64) + ea)) else ((if (own_fd ta g) < fh then (0 : Int64) else ((0 : Int64) + ea)) + eb)) + ec))), .second] [(.long fh), (.int wv), (.ref b20)])) rfl (by rw [hml]; rfl) (Steps.refl _) (argsL := [(.int wv), (.long fh)]) (rest := []) (lenOf pd_6 rfl) rfl (by show 2 * 0 + _ ≤ _; exact Nat.le_of_eq rfl) (hb hby at_272) (fun _ _ => ⟨rfl, rfl, (by decide : 4 + 0 ≤ _), (by decide : 30 + 0 ≤ _)⟩)
            dsimp only [Pt.U, Pt.locs, Pt.cells, Pt.slots] at X94 l94 y94 z94 st94 hQ94
            subst l94 y94 z94
            obtain ⟨rfl, N94q, Kq94, p94_0⟩ := hQ94
            have N94 := Fr.app N87 N94q
            have Z94 : n0 ≤ T94.heap.size := Nat.le_trans Z87 Kq94.1
            have K94 : Keep h0 T94.heap [] := K87.trans Kq94 (allS (Or.inr sz_fr0_21) all0)
            have f97 : Fld Z T94.heap b20 "com/example/okno/okno/AdmissionLog" "shorterWindows" "[J" (.ref fr0_21) := (p87_14.keep Kq94 (ninS ne21_b20_fr0_21 nin0))
            have f98 : Fld Z T94.heap b20 "com/example/okno/okno/AdmissionLog" "total" "J" (.long ((((0 : Int64) + ea) + eb) + ec)) := (p87_15.keep Kq94 (ninS ne21_b20_fr0_21 nin0))
            have f99 : Fld Z T94.heap b20 "com/example/okno/okno/AdmissionLog" "olderTotal" "J" (.long ((0 : Int64) + ((((0 : Int64) + ea) + eb) - (0 : Int64)))) := (p87_18.keep Kq94 (ninS ne21_b20_fr0_21 nin0))
            have f100 : Exa Z T94.heap b20 "com/example/okno/okno/AdmissionLog" := (f95.keep Kq94)
            obtain ⟨cq96, kq96, q96a, q96b, q96c⟩ := isOf hZ rfl f100
            obtain ⟨_, _, ⟨T96, L96, k96, n96⟩, -, X96, ⟨Lc96, hQ96, l96, y96, z96⟩, st96⟩ := X94.virtualBack hx (y := (⟨"com/example/okno/okno/AdmissionLog", "shorterTotal", "(I)J"⟩ : MethodName)) (z := (⟨"com/example/okno/okno/AdmissionLog", "shorterTotal", "(I)J"⟩ : MethodName)) hown (mvT hZ (kw70 hw)) (mvT hZ (kw71 hw)) (notFace_of_selects (args := #[]) (mvT hZ (kw73 hw))) (mvT hZ (kw73 hw)) (mvT hZ (kw72 hw)) (by decide) (backOf (W := 0) (rmTot l Z a0 hw [] b20 wv fr0_21 fk0_21 (([(.long ((0 : Int64) + ((((0 : Int64) + ea) + eb) - (0 : Int64)))), (.long (2 : Int64)), (.long ((0 : Int64) + ((((0 : Int64) + ea) + eb) - (0 : Int64)))), (.long (2 : Int64))].set (((2 : Int32) * wv)).toNatClampNeg (.long (own_fr1 ((0 : Int64) + ((((0 : Int64) + ea) + eb) - (0 : Int64))) fh (own_fd tc g) (own_fd ta g) (0 : Int64) ((((0 : Int64) + ea) + eb) - (0 : Int64)) (0 : Int64)))).set ((((2 : Int32) * wv) + (1 : Int32))).toNatClampNeg (.long (own_fc1 ((0 : Int64) + ((((0 : Int64) + ea) + eb) - (0 : Int64))) fh (own_fd tc g) (own_fd ta g) (0 : Int64) ((((0 : Int64) + ea) + eb) - (0 : Int64)) (0 : Int64)))) (own_fr1 ((0 : Int64) + ((((0 : Int64) + ea) + eb) - (0 : Int64))) fh (own_fd tc g) (own_fd ta g) (0 : Int64) ((((0 : Int64) + ea) + eb) - (0 : Int64)) (0 : Int64)) (own_fc1 ((0 : Int64) + ((((0 : Int64) + ea) + eb) - (0 : Int64))) fh (own_fd tc g) (own_fd ta g) (0 : Int64) ((((0 : Int64) + ea) + eb) - (0 : Int64)) (0 : Int64)) ((((0 : Int64) + ea) + eb) + ec) ((0 : Int64) + ((((0 : Int64) + ea) + eb) - (0 : Int64))) T94.heap n0 Z94 f97 p94_0 f98 f99 hw01 (by rcases hw01 with q | q <;> rw [q] <;> rfl) (by rcases hw01 with q | q <;> rw [q] <;> rfl)) hZ (kw74 hw) (kw18 hw) (by decide) (by decide)) q96a q96c (g := (mkF m 279 #[.val (.long q1), .second, .val (.long q2), .second, .val (.int p3), .val (.int p4), .val (.int p5), .val (.long g), .second, .val (.long da), .second, .val (.long db), .second, .val (.int nn), .val (.int wv), .val (.long (((q2.toUInt64 >>> ((11 : Int32) &&& 0x3f).toInt64.toUInt64).toInt64) &&& (15 : Int64))), .second, .val (.long ta), .second, .val (.long tb), .second, .val (.long tc), .second, .val (.long ea), .second, .val (.long eb), .second, .val (.long ec), .second, .val (.long (own_fd ta g)), .second, .val (.long (own_fd tb g)), .second, .val (.long (own_fd tc g)), .second, .val (.long fh), .second, .val (.ref b20), .val (.long ((((0 : Int64) + ea) + eb) + ec)), .second, .val (.long (if (own_fd tc g) < fh then (if (own_fd tb g) < fh then (if (own_fd ta g) < fh then (0 : Int64) else ((0 : Int64) + ea)) else ((if (own_fd ta g) < fh then (0 : Int64) else ((0 : Int64) + ea)) + eb)) else ((if (own_fd tb g) < fh then (if (own_fd ta g) < fh then (0 : Int64) else ((0 : Int64) + ea)) else ((if (own_fd ta g) < fh then (0 : Int64) else ((0 : Int64) + ea)) + eb)) + ec))), .second] [(.int wv), (.ref b20)])) rfl (by rw [hml]; rfl) (Steps.refl _) (argsL := [(.int wv)]) (rest := []) (lenOf pd_1 rfl) rfl (by show 2 * 0 + _ ≤ _; exact Nat.le_of_eq rfl) (hb hby at_279) (fun _ _ => ⟨rfl, rfl, (by decide : 4 + 0 ≤ _), (by decide : 30 + 0 ≤ _)⟩)
            dsimp only [Pt.U, Pt.locs, Pt.cells, Pt.slots] at X96 l96 y96 z96 st96 hQ96
            subst l96 y96 z96
            obtain ⟨rfl, N96q, e96⟩ := hQ96
            have N96 := Fr.app N94 N96q
            obtain ⟨cq101, kq101, q101a, q101b, q101c⟩ := isOf hZ e96 f100
            obtain ⟨_, _, ⟨T101, L101, k101, n101⟩, -, X101, ⟨Lc101, hQ101, l101, y101, z101⟩, st101⟩ := X96.virtualBack hx (y := (⟨"com/example/okno/okno/AdmissionLog", "shorterTotal", "(I)J"⟩ : MethodName)) (z := (⟨"com/example/okno/okno/AdmissionLog", "shorterTotal", "(I)J"⟩ : MethodName)) hown (mvT hZ (kw70 hw)) (mvT hZ (kw71 hw)) (notFace_of_selects (args := #[]) (mvT hZ (kw73 hw))) (mvT hZ (kw73 hw)) (mvT hZ (kw72 hw)) (by decide) (backOf (W := 0) (rmTot l Z a0 hw [] b20 ((1 : Int32) - wv) fr0_21 fk0_21 (([(.long ((0 : Int64) + ((((0 : Int64) + ea) + eb) - (0 : Int64)))), (.long (2 : Int64)), (.long ((0 : Int64) + ((((0 : Int64) + ea) + eb) - (0 : Int64)))), (.long (2 : Int64))].set (((2 : Int32) * wv)).toNatClampNeg (.long (own_fr1 ((0 : Int64) + ((((0 : Int64) + ea) + eb) - (0 : Int64))) fh (own_fd tc g) (own_fd ta g) (0 : Int64) ((((0 : Int64) + ea) + eb) - (0 : Int64)) (0 : Int64)))).set ((((2 : Int32) * wv) + (1 : Int32))).toNatClampNeg (.long (own_fc1 ((0 : Int64) + ((((0 : Int64) + ea) + eb) - (0 : Int64))) fh (own_fd tc g) (own_fd ta g) (0 : Int64) ((((0 : Int64) + ea) + eb) - (0 : Int64)) (0 : Int64)))) ((0 : Int64) + ((((0 : Int64) + ea) + eb) - (0 : Int64))) (2 : Int64) ((((0 : Int64) + ea) + eb) + ec) ((0 : Int64) + ((((0 : Int64) + ea) + eb) - (0 : Int64))) T94.heap n0 Z94 f97 p94_0 f98 f99 (own_1w hw01) (by rcases hw01 with q | q <;> rw [q] <;> rfl) (by rcases hw01 with q | q <;> rw [q] <;> rfl)) hZ (kw74 hw) (kw18 hw) (by decide) (by decide)) q101a q101c (g := (mkF m 294 #[.val (.long q1), .second, .val (.long q2), .second, .val (.int p3), .val (.int p4), .val (.int p5), .val (.long g), .second, .val (.long da), .second, .val (.long db), .second, .val (.int nn), .val (.int wv), .val (.long (((q2.toUInt64 >>> ((11 : Int32) &&& 0x3f).toInt64.toUInt64).toInt64) &&& (15 : Int64))), .second, .val (.long ta), .second, .val (.long tb), .second, .val (.long tc), .second, .val (.long ea), .second, .val (.long eb), .second, .val (.long ec), .second, .val (.long (own_fd ta g)), .second, .val (.long (own_fd tb g)), .second, .val (.long (own_fd tc g)), .second, .val (.long fh), .second, .val (.ref b20), .val (.long ((((0 : Int64) + ea) + eb) + ec)), .second, .val (.long (if (own_fd tc g) < fh then (if (own_fd tb g) < fh then (if (own_fd ta g) < fh then (0 : Int64) else ((0 : Int64) + ea)) else ((if (own_fd ta g) < fh then (0 : Int64) else ((0 : Int64) + ea)) + eb)) else ((if (own_fd tb g) < fh then (if (own_fd ta g) < fh then (0 : Int64) else ((0 : Int64) + ea)) else ((if (own_fd ta g) < fh then (0 : Int64) else ((0 : Int64) + ea)) + eb)) + ec))), .second] [(.int ((1 : Int32) - wv)), (.ref b20)])) rfl (by rw [hml]; rfl) (Steps.refl _) (argsL := [(.int ((1 : Int32) - wv))]) (rest := []) (lenOf pd_1 rfl) rfl (by show 2 * 0 + _ ≤ _; exact Nat.le_of_eq rfl) (hb hby at_294) (fun _ _ => ⟨rfl, e96, (by decide : 4 + 0 ≤ _), (by decide : 30 + 0 ≤ _)⟩)
            dsimp only [Pt.U, Pt.locs, Pt.cells, Pt.slots] at X101 l101 y101 z101 st101 hQ101
            subst l101 y101 z101
            obtain ⟨rfl, N101q, e101⟩ := hQ101
            have N101 := Fr.app N96 N101q
            obtain ⟨fs, hr, hrun, hended, hW, hsame⟩ := X101.leave (v := some (.int (1 : Int32))) (fun h => by rw [Bd.returns] at h; cases h)
            refine ⟨_, _, pre93 _ ?_, hrun, hended, _, _, rfl, ?_, ⟨_, rfl⟩, hW, hsame.mono (by decide) (by decide)⟩
            · skip
              refine XS.aload X87.here hx rfl (hb hby at_266) rfl rfl ?_
              refine XS.iload X87.here hx rfl (hb hby at_268) rfl ?_
              refine XS.lload X87.here hx rfl (hb hby at_270) rfl ?_
              refine st94.trans ?_
              refine XS.aload X94.here hx rfl (hb hby at_275) rfl rfl ?_
              refine XS.iload X94.here hx rfl (hb hby at_277) rfl ?_
              refine st96.trans ?_
              refine XS.lload X96.here hx rfl (hb hby at_282) rfl ?_
              refine XS.lcmp X96.here hx rfl (hb hby at_284) rfl ?_
              refine XS.ifNo X96.here hx rfl (hb hby at_285) rfl ((if0 _ _).trans (teq ((lw_eq _ _).mpr (own_fin8 (own_fd ta g) (own_fd tb g) (own_fd tc g) ea eb ec fh hm1 hm2 hc52))).2) ?_
              refine XS.aload X96.here hx rfl (hb hby at_288) rfl rfl ?_
              refine XS.iconst X96.here hx rfl (hb hby at_290) ?_
              refine XS.iload X96.here hx rfl (hb hby at_291) rfl ?_
              refine XS.isub X96.here hx rfl (hb hby at_293) rfl ?_
              refine st101.trans ?_
              refine XS.lload X101.here hx rfl (hb hby at_297) rfl ?_
              refine XS.lcmp X101.here hx rfl (hb hby at_299) rfl ?_
              refine XS.ifNo X101.here hx rfl (hb hby at_300) rfl ((if0 _ _).trans (teq ((lw_eq _ _).mpr (own_fin9 (own_fd ta g) (own_fd tb g) (own_fd tc g) ea eb ec fh hm1 hm2 hc52))).2) ?_
              refine XS.iconst X101.here hx rfl (hb hby at_303) ?_
              refine XS.goto X101.here hx rfl (pc0 := 304) (pc' := 308) rfl (hb hby at_304) (by decide) (by decide) ?_
              show Steps p.tables e below (T101.setTop (mkF m 308 #[.val (.long q1), .second, .val (.long q2), .second, .val (.int p3), .val (.int p4), .val (.int p5), .val (.long g), .second, .val (.long da), .second, .val (.long db), .second, .val (.int nn), .val (.int wv), .val (.long (((q2.toUInt64 >>> ((11 : Int32) &&& 0x3f).toInt64.toUInt64).toInt64) &&& (15 : Int64))), .second, .val (.long ta), .second, .val (.long tb), .second, .val (.long tc), .second, .val (.long ea), .second, .val (.long eb), .second, .val (.long ec), .second, .val (.long (own_fd ta g)), .second, .val (.long (own_fd tb g)), .second, .val (.long (own_fd tc g)), .second, .val (.long fh), .second, .val (.ref b20), .val (.long ((((0 : Int64) + ea) + eb) + ec)), .second, .val (.long (if (own_fd tc g) < fh then (if (own_fd tb g) < fh then (if (own_fd ta g) < fh then (0 : Int64) else ((0 : Int64) + ea)) else ((if (own_fd ta g) < fh then (0 : Int64) else ((0 : Int64) + ea)) + eb)) else ((if (own_fd tb g) < fh then (if (own_fd ta g) < fh then (0 : Int64) else ((0 : Int64) + ea)) else ((if (own_fd ta g) < fh then (0 : Int64) else ((0 : Int64) + ea)) + eb)) + ec))), .second] [(.int (1 : Int32))])) _
              exact retN X101 hx (t := .boolean) Bd.returns (by simp) (hb hby at_308) hr
            · show Q_rm0 Z q1 q2 p3 p4 p5 w_NO_ENTRIES kn h0 n0 _ T101.heap _
              rw [e101]
              exact ⟨rfl, N101, K94⟩
      · skip
        have f104 : Exa Z T35.heap b20 "com/example/okno/okno/AdmissionLog" := (f36.keep Kq35)
        have f105 : Arv Z T35.heap w_NO_ENTRIES kn .long (0 : Int32) [] (.long (0 : Int64)) := ((f23.keep Kq21 (ninS ne20_w_NO_ENTRIES nin0)).keep Kq35 (ninS ne20_w_NO_ENTRIES (ninS ne21_w_NO_ENTRIES_fr0_21 nin0)))
        obtain ⟨cq103, kq103, q103a, q103b, q103c⟩ := isOf hZ rfl f104
        obtain ⟨_, _, ⟨T103, L103, k103, n103⟩, -, X103, ⟨Lc103, hQ103, l103, y103, z103⟩, st103⟩ := X35.virtualBack hx (y := (⟨"com/example/okno/okno/AdmissionLog", "append", "(JJ)V"⟩ : MethodName)) (z := (⟨"com/example/okno/okno/AdmissionLog", "append", "(JJ)V"⟩ : MethodName)) hown (mvT hZ (kw75 hw)) (mvT hZ (kw76 hw)) (notFace_of_selects (args := #[]) (mvT hZ (kw78 hw))) (mvT hZ (kw78 hw)) (mvT hZ (kw77 hw)) (by decide) (backOf (W := 0) (rmAppC_10 l Z a0 hw [] b20 tb eb g ta ((0 : Int64) + ea) (own_fd ta g) fr0_21 fk0_21 (0 : Int64) (0 : Int64) w_NO_ENTRIES kn ta (own_fd ta g) (own_end (own_fd ta g) ta g) (0 : Int64) (0 : Int32) T35.heap n0 Z35 f104 g_b20 hgz (own_nov (own_badd (by decide : (0 : Int) ≤ (0 : Int64).toInt ∧ (0 : Int64).toInt ≤ 0) hea (by decide) (by decide)) heb (by decide) (by decide) (by decide)) (own_bne (own_badd (by decide : (0 : Int) ≤ (0 : Int64).toInt ∧ (0 : Int64).toInt ≤ 0) hea (by decide) (by decide)) (by decide)) hc52 p35_14 p21_0 (Ne.symm ne21_b20_fr0_21) f105 ne20_w_NO_ENTRIES ne21_w_NO_ENTRIES_fr0_21 p35_0 p35_1 p35_2 p35_3 p35_4 p35_5 p35_6 p35_7 p35_8 p35_9 p35_10 p35_11 p35_12 p35_13) hZ (kw79 hw) (kw18 hw) (by decide) (by decide)) q103a q103c (g := (mkF m 204 #[.val (.long q1), .second, .val (.long q2), .second, .val (.int p3), .val (.int p4), .val (.int p5), .val (.long g), .second, .val (.long da), .second, .val (.long db), .second, .val (.int nn), .val (.int wv), .val (.long (((q2.toUInt64 >>> ((11 : Int32) &&& 0x3f).toInt64.toUInt64).toInt64) &&& (15 : Int64))), .second, .val (.long ta), .second, .val (.long tb), .second, .val (.long tc), .second, .val (.long ea), .second, .val (.long eb), .second, .val (.long ec), .second, .val (.long (own_fd ta g)), .second, .val (.long (own_fd tb g)), .second, .val (.long (own_fd tc g)), .second, .val (.long fh), .second, .val (.ref b20), .val (.long ((0 : Int64) + ea)), .second, .val (.long (if (own_fd ta g) < fh then (0 : Int64) else ((0 : Int64) + ea))), .second] [(.long eb), (.long tb), (.ref b20)])) rfl (by rw [hml]; rfl) (Steps.refl _) (argsL := [(.long tb), (.long eb)]) (rest := []) (lenOf pd_8 rfl) rfl (by show 2 * 0 + _ ≤ _; exact Nat.le_of_eq rfl) (hb hby at_204) (fun _ _ => ⟨rfl, rfl, (by decide : 2 + 2 ≤ _), (by decide : 22 + 8 ≤ _)⟩)
        dsimp only [Pt.U, Pt.locs, Pt.cells, Pt.slots] at X103 l103 y103 z103 st103 hQ103
        subst l103 y103 z103
        obtain ⟨fr0_103, fk0_103, fr1_103, fk1_103, rfl, N103q, Kq103, p103_0, p103_1, p103_2, p103_3, p103_4, p103_5, p103_6, p103_7, p103_8, p103_9, p103_10, p103_11, p103_12, p103_13, p103_14, p103_15, p103_16, p103_17, p103_18, p103_19, p103_20, p103_21⟩ := hQ103
        have N103 := Fr.app N35 N103q
        have Z103 : n0 ≤ T103.heap.size := Nat.le_trans Z35 Kq103.1
        have K103 : Keep h0 T103.heap [] := K35.trans Kq103 (allS (Or.inr sz_b20) (allS (Or.inr sz_fr0_21) all0))
        have sz_fr0_103 : h0.size ≤ fr0_103 := Nat.le_trans K35.1 p103_1
        have ne103_b20_fr0_103 : b20 ≠ fr0_103 := Nat.ne_of_lt (Nat.lt_of_lt_of_le f104.lt p103_1)
        have ne103_fr0_21_fr0_103 : fr0_21 ≠ fr0_103 := Nat.ne_of_lt (Nat.lt_of_lt_of_le p35_14.lt p103_1)
        have ne103_w_NO_ENTRIES_fr0_103 : w_NO_ENTRIES ≠ fr0_103 := Nat.ne_of_lt (Nat.lt_of_lt_of_le f105.lt p103_1)
        have sz_fr1_103 : h0.size ≤ fr1_103 := Nat.le_trans K35.1 p103_4
        have ne103_b20_fr1_103 : b20 ≠ fr1_103 := Nat.ne_of_lt (Nat.lt_of_lt_of_le f104.lt p103_4)
        have ne103_fr0_21_fr1_103 : fr0_21 ≠ fr1_103 := Nat.ne_of_lt (Nat.lt_of_lt_of_le p35_14.lt p103_4)
        have ne103_w_NO_ENTRIES_fr1_103 : w_NO_ENTRIES ≠ fr1_103 := Nat.ne_of_lt (Nat.lt_of_lt_of_le f105.lt p103_4)
        have pre106 : ∀ t, Steps p.tables e below (T103.setTop (mkF m 219 #[.val (.long q1), .second, .val (.long q2), .second, .val (.int p3), .val (.int p4), .val (.int p5), .val (.long g), .second, .val (.long da), .second, .val (.long db), .second, .val (.int nn), .val (.int wv), .val (.long (((q2.toUInt64 >>> ((11 : Int32) &&& 0x3f).toInt64.toUInt64).toInt64) &&& (15 : Int64))), .second, .val (.long ta), .second, .val (.long tb), .second, .val (.long tc), .second, .val (.long ea), .second, .val (.long eb), .second, .val (.long ec), .second, .val (.long (own_fd ta g)), .second, .val (.long (own_fd tb g)), .second, .val (.long (own_fd tc g)), .second, .val (.long fh), .second, .val (.ref b20), .val (.long (((0 : Int64) + ea) + eb)), .second, .val (.long (if (own_fd ta g) < fh then (0 : Int64) else ((0 : Int64) + ea))), .second] [(.int (lcmpW (own_fd tb g) fh))])) t → Steps p.tables e below (s₁.setTop (entryFrame m #[(.long q1), (.long q2), (.int p3), (.int p4), (.int p5)] maxLocals)) t := fun t k => pre51 t (by
          refine st103.trans ?_
          refine XS.lload X103.here hx rfl (hb hby at_207) rfl ?_
          refine XS.lload X103.here hx rfl (hb hby at_209) rfl ?_
          refine XS.ladd X103.here hx rfl (hb hby at_211) rfl ?_
          refine XS.lstore X103.here hx rfl (hb hby at_212) rfl (l' := #[.val (.long q1), .second, .val (.long q2), .second, .val (.int p3), .val (.int p4), .val (.int p5), .val (.long g), .second, .val (.long da), .second, .val (.long db), .second, .val (.int nn), .val (.int wv), .val (.long (((q2.toUInt64 >>> ((11 : Int32) &&& 0x3f).toInt64.toUInt64).toInt64) &&& (15 : Int64))), .second, .val (.long ta), .second, .val (.long tb), .second, .val (.long tc), .second, .val (.long ea), .second, .val (.long eb), .second, .val (.long ec), .second, .val (.long (own_fd ta g)), .second, .val (.long (own_fd tb g)), .second, .val (.long (own_fd tc g)), .second, .val (.long fh), .second, .val (.ref b20), .val (.long (((0 : Int64) + ea) + eb)), .second, .val (.long (if (own_fd ta g) < fh then (0 : Int64) else ((0 : Int64) + ea))), .second]) rfl ?_
          refine XS.lload X103.here hx rfl (hb hby at_214) rfl ?_
          refine XS.lload X103.here hx rfl (hb hby at_216) rfl ?_
          refine XS.lcmp X103.here hx rfl (hb hby at_218) rfl ?_
          exact k)
        have pre108 : ∀ t, Steps p.tables e below (T103.setTop (mkF m 229 #[.val (.long q1), .second, .val (.long q2), .second, .val (.int p3), .val (.int p4), .val (.int p5), .val (.long g), .second, .val (.long da), .second, .val (.long db), .second, .val (.int nn), .val (.int wv), .val (.long (((q2.toUInt64 >>> ((11 : Int32) &&& 0x3f).toInt64.toUInt64).toInt64) &&& (15 : Int64))), .second, .val (.long ta), .second, .val (.long tb), .second, .val (.long tc), .second, .val (.long ea), .second, .val (.long eb), .second, .val (.long ec), .second, .val (.long (own_fd ta g)), .second, .val (.long (own_fd tb g)), .second, .val (.long (own_fd tc g)), .second, .val (.long fh), .second, .val (.ref b20), .val (.long (((0 : Int64) + ea) + eb)), .second, .val (.long (if (own_fd tb g) < fh then (if (own_fd ta g) < fh then (0 : Int64) else ((0 : Int64) + ea)) else ((if (own_fd ta g) < fh then (0 : Int64) else ((0 : Int64) + ea)) + eb))), .second] [])) t → Steps p.tables e below (s₁.setTop (entryFrame m #[(.long q1), (.long q2), (.int p3), (.int p4), (.int p5)] maxLocals)) t := fun t k => pre106 t (by
          by_cases hc107 : (own_fd tb g) < fh
          · skip
            refine XS.ifYes X103.here hx rfl (pc0 := 219) (pc' := 229) rfl (hb hby at_219) rfl ((if0 _ _).trans (tlt ((lw_lt _ _).mpr hc107)).1) (by decide) (by decide) ?_
            simp only [if_pos hc107] at k; exact k
          · skip
            refine XS.ifNo X103.here hx rfl (hb hby at_219) rfl ((if0 _ _).trans (flt (fun q => hc107 ((lw_lt _ _).mp q))).1) ?_
            refine XS.lload X103.here hx rfl (hb hby at_222) rfl ?_
            refine XS.lload X103.here hx rfl (hb hby at_224) rfl ?_
            refine XS.ladd X103.here hx rfl (hb hby at_226) rfl ?_
            refine XS.lstore X103.here hx rfl (hb hby at_227) rfl (l' := #[.val (.long q1), .second, .val (.long q2), .second, .val (.int p3), .val (.int p4), .val (.int p5), .val (.long g), .second, .val (.long da), .second, .val (.long db), .second, .val (.int nn), .val (.int wv), .val (.long (((q2.toUInt64 >>> ((11 : Int32) &&& 0x3f).toInt64.toUInt64).toInt64) &&& (15 : Int64))), .second, .val (.long ta), .second, .val (.long tb), .second, .val (.long tc), .second, .val (.long ea), .second, .val (.long eb), .second, .val (.long ec), .second, .val (.long (own_fd ta g)), .second, .val (.long (own_fd tb g)), .second, .val (.long (own_fd tc g)), .second, .val (.long fh), .second, .val (.ref b20), .val (.long (((0 : Int64) + ea) + eb)), .second, .val (.long ((if (own_fd ta g) < fh then (0 : Int64) else ((0 : Int64) + ea)) + eb)), .second]) rfl ?_
            simp only [if_neg hc107] at k; exact k)
        have pre109 : ∀ t, Steps p.tables e below (T103.setTop (mkF m 232 #[.val (.long q1), .second, .val (.long q2), .second, .val (.int p3), .val (.int p4), .val (.int p5), .val (.long g), .second, .val (.long da), .second, .val (.long db), .second, .val (.int nn), .val (.int wv), .val (.long (((q2.toUInt64 >>> ((11 : Int32) &&& 0x3f).toInt64.toUInt64).toInt64) &&& (15 : Int64))), .second, .val (.long ta), .second, .val (.long tb), .second, .val (.long tc), .second, .val (.long ea), .second, .val (.long eb), .second, .val (.long ec), .second, .val (.long (own_fd ta g)), .second, .val (.long (own_fd tb g)), .second, .val (.long (own_fd tc g)), .second, .val (.long fh), .second, .val (.ref b20), .val (.long (((0 : Int64) + ea) + eb)), .second, .val (.long (if (own_fd tb g) < fh then (if (own_fd ta g) < fh then (0 : Int64) else ((0 : Int64) + ea)) else ((if (own_fd ta g) < fh then (0 : Int64) else ((0 : Int64) + ea)) + eb))), .second] [(.int (3 : Int32)), (.int nn)])) t → Steps p.tables e below (s₁.setTop (entryFrame m #[(.long q1), (.long q2), (.int p3), (.int p4), (.int p5)] maxLocals)) t := fun t k => pre108 t (by
          refine XS.iload X103.here hx rfl (hb hby at_229) rfl ?_
          refine XS.iconst X103.here hx rfl (hb hby at_231) ?_
          exact k)
        by_cases hc110 : nn < (3 : Int32)
        · skip
          have f112 : Exa Z T103.heap b20 "com/example/okno/okno/AdmissionLog" := (f104.keep Kq103)
          obtain ⟨cq111, kq111, q111a, q111b, q111c⟩ := isOf hZ rfl f112
          obtain ⟨_, _, ⟨T111, L111, k111, n111⟩, -, X111, ⟨Lc111, hQ111, l111, y111, z111⟩, st111⟩ := X103.virtualBack hx (y := (⟨"com/example/okno/okno/AdmissionLog", "fitShorterWindow", "(IJ)V"⟩ : MethodName)) (z := (⟨"com/example/okno/okno/AdmissionLog", "fitShorterWindow", "(IJ)V"⟩ : MethodName)) hown (mvT hZ (kw54 hw)) (mvT hZ (kw55 hw)) (notFace_of_selects (args := #[]) (mvT hZ (kw57 hw))) (mvT hZ (kw57 hw)) (mvT hZ (kw56 hw)) (by decide) (backOf (W := 0) (rmFit_15 l Z a0 hw [] b20 wv fh fr0_21 fk0_21 ([(.long ((0 : Int64) + (((0 : Int64) + ea) - (0 : Int64)))), (.long (2 : Int64)), (.long ((0 : Int64) + (((0 : Int64) + ea) - (0 : Int64)))), (.long (2 : Int64))]) ((0 : Int64) + (((0 : Int64) + ea) - (0 : Int64))) (own_fd tb g) (own_fd ta g) (0 : Int64) (((0 : Int64) + ea) - (0 : Int64)) (0 : Int64) (((0 : Int64) + ea) + eb) (0 : Int64) (0 : Int64) (0 : Int64) (0 : Int64) fr0_103 fr1_103 fk0_103 fk1_103 T103.heap n0 Z103 f112 p21_0 (Ne.symm ne21_b20_fr0_21) rfl p103_21 hw01 (by rcases hw01 with q | q <;> rw [q] <;> rfl) (by rcases hw01 with q | q <;> rw [q] <;> rfl) p103_15 (own_bne (own_badd (own_badd (by decide : (0 : Int) ≤ (0 : Int64).toInt ∧ (0 : Int64).toInt ≤ 0) hea (by decide) (by decide)) heb (by decide) (by decide)) (by decide)) p103_14 p103_19 p103_16 p103_20 p103_8 p103_9 p103_2 p103_5 ne103_fr0_21_fr0_103 ne103_fr0_21_fr1_103) hZ (kw58 hw) (kw18 hw) (by decide) (by decide)) q111a q111c (g := (mkF m 272 #[.val (.long q1), .second, .val (.long q2), .second, .val (.int p3), .val (.int p4), .val (.int p5), .val (.long g), .second, .val (.long da), .second, .val (.long db), .second, .val (.int nn), .val (.int wv), .val (.long (((q2.toUInt64 >>> ((11 : Int32) &&& 0x3f).toInt64.toUInt64).toInt64) &&& (15 : Int64))), .second, .val (.long ta), .second, .val (.long tb), .second, .val (.long tc), .second, .val (.long ea), .second, .val (.long eb), .second, .val (.long ec), .second, .val (.long (own_fd ta g)), .second, .val (.long (own_fd tb g)), .second, .val (.long (own_fd tc g)), .second, .val (.long fh), .second, .val (.ref b20), .val (.long (((0 : Int64) + ea) + eb)), .second, .val (.long (if (own_fd tb g) < fh then (if (own_fd ta g) < fh then (0 : Int64) else ((0 : Int64) + ea)) else ((if (own_fd ta g) < fh then (0 : Int64) else ((0 : Int64) + ea)) + eb))), .second] [(.long fh), (.int wv), (.ref b20)])) rfl (by rw [hml]; rfl) (Steps.refl _) (argsL := [(.int wv), (.long fh)]) (rest := []) (lenOf pd_6 rfl) rfl (by show 2 * 0 + _ ≤ _; exact Nat.le_of_eq rfl) (hb hby at_272) (fun _ _ => ⟨rfl, rfl, (by decide : 4 + 0 ≤ _), (by decide : 30 + 0 ≤ _)⟩)
          dsimp only [Pt.U, Pt.locs, Pt.cells, Pt.slots] at X111 l111 y111 z111 st111 hQ111
          subst l111 y111 z111
          obtain ⟨rfl, N111q, Kq111, p111_0⟩ := hQ111
          have N111 := Fr.app N103 N111q
          have Z111 : n0 ≤ T111.heap.size := Nat.le_trans Z103 Kq111.1
          have K111 : Keep h0 T111.heap [] := K103.trans Kq111 (allS (Or.inr sz_fr0_21) all0)
          have f114 : Fld Z T111.heap b20 "com/example/okno/okno/AdmissionLog" "shorterWindows" "[J" (.ref fr0_21) := (p103_14.keep Kq111 (ninS ne21_b20_fr0_21 nin0))
          have f115 : Fld Z T111.heap b20 "com/example/okno/okno/AdmissionLog" "total" "J" (.long (((0 : Int64) + ea) + eb)) := (p103_15.keep Kq111 (ninS ne21_b20_fr0_21 nin0))
          have f116 : Fld Z T111.heap b20 "com/example/okno/okno/AdmissionLog" "olderTotal" "J" (.long ((0 : Int64) + (((0 : Int64) + ea) - (0 : Int64)))) := (p103_18.keep Kq111 (ninS ne21_b20_fr0_21 nin0))
          have f117 : Exa Z T111.heap b20 "com/example/okno/okno/AdmissionLog" := (f112.keep Kq111)
          obtain ⟨cq113, kq113, q113a, q113b, q113c⟩ := isOf hZ rfl f117
          obtain ⟨_, _, ⟨T113, L113, k113, n113⟩, -, X113, ⟨Lc113, hQ113, l113, y113, z113⟩, st113⟩ := X111.virtualBack hx (y := (⟨"com/example/okno/okno/AdmissionLog", "shorterTotal", "(I)J"⟩ : MethodName)) (z := (⟨"com/example/okno/okno/AdmissionLog", "shorterTotal", "(I)J"⟩ : MethodName)) hown (mvT hZ (kw70 hw)) (mvT hZ (kw71 hw)) (notFace_of_selects (args := #[]) (mvT hZ (kw73 hw))) (mvT hZ (kw73 hw)) (mvT hZ (kw72 hw)) (by decide) (backOf (W := 0) (rmTot l Z a0 hw [] b20 wv fr0_21 fk0_21 (([(.long ((0 : Int64) + (((0 : Int64) + ea) - (0 : Int64)))), (.long (2 : Int64)), (.long ((0 : Int64) + (((0 : Int64) + ea) - (0 : Int64)))), (.long (2 : Int64))].set (((2 : Int32) * wv)).toNatClampNeg (.long (own_fr1 ((0 : Int64) + (((0 : Int64) + ea) - (0 : Int64))) fh (own_fd tb g) (own_fd ta g) (0 : Int64) (((0 : Int64) + ea) - (0 : Int64)) (0 : Int64)))).set ((((2 : Int32) * wv) + (1 : Int32))).toNatClampNeg (.long (own_fc1 ((0 : Int64) + (((0 : Int64) + ea) - (0 : Int64))) fh (own_fd tb g) (own_fd ta g) (0 : Int64) (((0 : Int64) + ea) - (0 : Int64)) (0 : Int64)))) (own_fr1 ((0 : Int64) + (((0 : Int64) + ea) - (0 : Int64))) fh (own_fd tb g) (own_fd ta g) (0 : Int64) (((0 : Int64) + ea) - (0 : Int64)) (0 : Int64)) (own_fc1 ((0 : Int64) + (((0 : Int64) + ea) - (0 : Int64))) fh (own_fd tb g) (own_fd ta g) (0 : Int64) (((0 : Int64) + ea) - (0 : Int64)) (0 : Int64)) (((0 : Int64) + ea) + eb) ((0 : Int64) + (((0 : Int64) + ea) - (0 : Int64))) T111.heap n0 Z111 f114 p111_0 f115 f116 hw01 (by rcases hw01 with q | q <;> rw [q] <;> rfl) (by rcases hw01 with q | q <;> rw [q] <;> rfl)) hZ (kw74 hw) (kw18 hw) (by decide) (by decide)) q113a q113c (g := (mkF m 279 #[.val (.long q1), .second, .val (.long q2), .second, .val (.int p3), .val (.int p4), .val (.int p5), .val (.long g), .second, .val (.long da), .second, .val (.long db), .second, .val (.int nn), .val (.int wv), .val (.long (((q2.toUInt64 >>> ((11 : Int32) &&& 0x3f).toInt64.toUInt64).toInt64) &&& (15 : Int64))), .second, .val (.long ta), .second, .val (.long tb), .second, .val (.long tc), .second, .val (.long ea), .second, .val (.long eb), .second, .val (.long ec), .second, .val (.long (own_fd ta g)), .second, .val (.long (own_fd tb g)), .second, .val (.long (own_fd tc g)), .second, .val (.long fh), .second, .val (.ref b20), .val (.long (((0 : Int64) + ea) + eb)), .second, .val (.long (if (own_fd tb g) < fh then (if (own_fd ta g) < fh then (0 : Int64) else ((0 : Int64) + ea)) else ((if (own_fd ta g) < fh then (0 : Int64) else ((0 : Int64) + ea)) + eb))), .second] [(.int wv), (.ref b20)])) rfl (by rw [hml]; rfl) (Steps.refl _) (argsL := [(.int wv)]) (rest := []) (lenOf pd_1 rfl) rfl (by show 2 * 0 + _ ≤ _; exact Nat.le_of_eq rfl) (hb hby at_279) (fun _ _ => ⟨rfl, rfl, (by decide : 4 + 0 ≤ _), (by decide : 30 + 0 ≤ _)⟩)
          dsimp only [Pt.U, Pt.locs, Pt.cells, Pt.slots] at X113 l113 y113 z113 st113 hQ113
          subst l113 y113 z113
          obtain ⟨rfl, N113q, e113⟩ := hQ113
          have N113 := Fr.app N111 N113q
          obtain ⟨cq118, kq118, q118a, q118b, q118c⟩ := isOf hZ e113 f117
          obtain ⟨_, _, ⟨T118, L118, k118, n118⟩, -, X118, ⟨Lc118, hQ118, l118, y118, z118⟩, st118⟩ := X113.virtualBack hx (y := (⟨"com/example/okno/okno/AdmissionLog", "shorterTotal", "(I)J"⟩ : MethodName)) (z := (⟨"com/example/okno/okno/AdmissionLog", "shorterTotal", "(I)J"⟩ : MethodName)) hown (mvT hZ (kw70 hw)) (mvT hZ (kw71 hw)) (notFace_of_selects (args := #[]) (mvT hZ (kw73 hw))) (mvT hZ (kw73 hw)) (mvT hZ (kw72 hw)) (by decide) (backOf (W := 0) (rmTot l Z a0 hw [] b20 ((1 : Int32) - wv) fr0_21 fk0_21 (([(.long ((0 : Int64) + (((0 : Int64) + ea) - (0 : Int64)))), (.long (2 : Int64)), (.long ((0 : Int64) + (((0 : Int64) + ea) - (0 : Int64)))), (.long (2 : Int64))].set (((2 : Int32) * wv)).toNatClampNeg (.long (own_fr1 ((0 : Int64) + (((0 : Int64) + ea) - (0 : Int64))) fh (own_fd tb g) (own_fd ta g) (0 : Int64) (((0 : Int64) + ea) - (0 : Int64)) (0 : Int64)))).set ((((2 : Int32) * wv) + (1 : Int32))).toNatClampNeg (.long (own_fc1 ((0 : Int64) + (((0 : Int64) + ea) - (0 : Int64))) fh (own_fd tb g) (own_fd ta g) (0 : Int64) (((0 : Int64) + ea) - (0 : Int64)) (0 : Int64)))) ((0 : Int64) + (((0 : Int64) + ea) - (0 : Int64))) (2 : Int64) (((0 : Int64) + ea) + eb) ((0 : Int64) + (((0 : Int64) + ea) - (0 : Int64))) T111.heap n0 Z111 f114 p111_0 f115 f116 (own_1w hw01) (by rcases hw01 with q | q <;> rw [q] <;> rfl) (by rcases hw01 with q | q <;> rw [q] <;> rfl)) hZ (kw74 hw) (kw18 hw) (by decide) (by decide)) q118a q118c (g := (mkF m 294 #[.val (.long q1), .second, .val (.long q2), .second, .val (.int p3), .val (.int p4), .val (.int p5), .val (.long g), .second, .val (.long da), .second, .val (.long db), .second, .val (.int nn), .val (.int wv), .val (.long (((q2.toUInt64 >>> ((11 : Int32) &&& 0x3f).toInt64.toUInt64).toInt64) &&& (15 : Int64))), .second, .val (.long ta), .second, .val (.long tb), .second, .val (.long tc), .second, .val (.long ea), .second, .val (.long eb), .second, .val (.long ec), .second, .val (.long (own_fd ta g)), .second, .val (.long (own_fd tb g)), .second, .val (.long (own_fd tc g)), .second, .val (.long fh), .second, .val (.ref b20), .val (.long (((0 : Int64) + ea) + eb)), .second, .val (.long (if (own_fd tb g) < fh then (if (own_fd ta g) < fh then (0 : Int64) else ((0 : Int64) + ea)) else ((if (own_fd ta g) < fh then (0 : Int64) else ((0 : Int64) + ea)) + eb))), .second] [(.int ((1 : Int32) - wv)), (.ref b20)])) rfl (by rw [hml]; rfl) (Steps.refl _) (argsL := [(.int ((1 : Int32) - wv))]) (rest := []) (lenOf pd_1 rfl) rfl (by show 2 * 0 + _ ≤ _; exact Nat.le_of_eq rfl) (hb hby at_294) (fun _ _ => ⟨rfl, e113, (by decide : 4 + 0 ≤ _), (by decide : 30 + 0 ≤ _)⟩)
          dsimp only [Pt.U, Pt.locs, Pt.cells, Pt.slots] at X118 l118 y118 z118 st118 hQ118
          subst l118 y118 z118
          obtain ⟨rfl, N118q, e118⟩ := hQ118
          have N118 := Fr.app N113 N118q
          obtain ⟨fs, hr, hrun, hended, hW, hsame⟩ := X118.leave (v := some (.int (1 : Int32))) (fun h => by rw [Bd.returns] at h; cases h)
          refine ⟨_, _, pre109 _ ?_, hrun, hended, _, _, rfl, ?_, ⟨_, rfl⟩, hW, hsame.mono (by decide) (by decide)⟩
          · skip
            refine XS.icmpYes X103.here hx rfl (pc0 := 232) (pc' := 266) rfl (hb hby at_232) rfl (tlt hc110).1 (by decide) (by decide) ?_
            refine XS.aload X103.here hx rfl (hb hby at_266) rfl rfl ?_
            refine XS.iload X103.here hx rfl (hb hby at_268) rfl ?_
            refine XS.lload X103.here hx rfl (hb hby at_270) rfl ?_
            refine st111.trans ?_
            refine XS.aload X111.here hx rfl (hb hby at_275) rfl rfl ?_
            refine XS.iload X111.here hx rfl (hb hby at_277) rfl ?_
            refine st113.trans ?_
            refine XS.lload X113.here hx rfl (hb hby at_282) rfl ?_
            refine XS.lcmp X113.here hx rfl (hb hby at_284) rfl ?_
            refine XS.ifNo X113.here hx rfl (hb hby at_285) rfl ((if0 _ _).trans (teq ((lw_eq _ _).mpr (own_fin10 (own_fd ta g) (own_fd tb g) (own_fd tc g) ea eb ec fh hm1 hm2))).2) ?_
            refine XS.aload X113.here hx rfl (hb hby at_288) rfl rfl ?_
            refine XS.iconst X113.here hx rfl (hb hby at_290) ?_
            refine XS.iload X113.here hx rfl (hb hby at_291) rfl ?_
            refine XS.isub X113.here hx rfl (hb hby at_293) rfl ?_
            refine st118.trans ?_
            refine XS.lload X118.here hx rfl (hb hby at_297) rfl ?_
            refine XS.lcmp X118.here hx rfl (hb hby at_299) rfl ?_
            refine XS.ifNo X118.here hx rfl (hb hby at_300) rfl ((if0 _ _).trans (teq ((lw_eq _ _).mpr (own_fin11 (own_fd ta g) (own_fd tb g) (own_fd tc g) ea eb ec fh hm1 hm2))).2) ?_
            refine XS.iconst X118.here hx rfl (hb hby at_303) ?_
            refine XS.goto X118.here hx rfl (pc0 := 304) (pc' := 308) rfl (hb hby at_304) (by decide) (by decide) ?_
            show Steps p.tables e below (T118.setTop (mkF m 308 #[.val (.long q1), .second, .val (.long q2), .second, .val (.int p3), .val (.int p4), .val (.int p5), .val (.long g), .second, .val (.long da), .second, .val (.long db), .second, .val (.int nn), .val (.int wv), .val (.long (((q2.toUInt64 >>> ((11 : Int32) &&& 0x3f).toInt64.toUInt64).toInt64) &&& (15 : Int64))), .second, .val (.long ta), .second, .val (.long tb), .second, .val (.long tc), .second, .val (.long ea), .second, .val (.long eb), .second, .val (.long ec), .second, .val (.long (own_fd ta g)), .second, .val (.long (own_fd tb g)), .second, .val (.long (own_fd tc g)), .second, .val (.long fh), .second, .val (.ref b20), .val (.long (((0 : Int64) + ea) + eb)), .second, .val (.long (if (own_fd tb g) < fh then (if (own_fd ta g) < fh then (0 : Int64) else ((0 : Int64) + ea)) else ((if (own_fd ta g) < fh then (0 : Int64) else ((0 : Int64) + ea)) + eb))), .second] [(.int (1 : Int32))])) _
            exact retN X118 hx (t := .boolean) Bd.returns (by simp) (hb hby at_308) hr
          · show Q_rm0 Z q1 q2 p3 p4 p5 w_NO_ENTRIES kn h0 n0 _ T118.heap _
            rw [e118]
            exact ⟨rfl, N118, K111⟩
        · skip
          have pre120 : ∀ t, Steps p.tables e below (T103.setTop (mkF m 241 #[.val (.long q1), .second, .val (.long q2), .second, .val (.int p3), .val (.int p4), .val (.int p5), .val (.long g), .second, .val (.long da), .second, .val (.long db), .second, .val (.int nn), .val (.int wv), .val (.long (((q2.toUInt64 >>> ((11 : Int32) &&& 0x3f).toInt64.toUInt64).toInt64) &&& (15 : Int64))), .second, .val (.long ta), .second, .val (.long tb), .second, .val (.long tc), .second, .val (.long ea), .second, .val (.long eb), .second, .val (.long ec), .second, .val (.long (own_fd ta g)), .second, .val (.long (own_fd tb g)), .second, .val (.long (own_fd tc g)), .second, .val (.long fh), .second, .val (.ref b20), .val (.long (((0 : Int64) + ea) + eb)), .second, .val (.long (if (own_fd tb g) < fh then (if (own_fd ta g) < fh then (0 : Int64) else ((0 : Int64) + ea)) else ((if (own_fd ta g) < fh then (0 : Int64) else ((0 : Int64) + ea)) + eb))), .second] [(.long ec), (.long tc), (.ref b20)])) t → Steps p.tables e below (s₁.setTop (entryFrame m #[(.long q1), (.long q2), (.int p3), (.int p4), (.int p5)] maxLocals)) t := fun t k => pre109 t (by
            refine XS.icmpNo X103.here hx rfl (hb hby at_232) rfl (flt hc110).1 ?_
            refine XS.aload X103.here hx rfl (hb hby at_235) rfl rfl ?_
            refine XS.lload X103.here hx rfl (hb hby at_237) rfl ?_
            refine XS.lload X103.here hx rfl (hb hby at_239) rfl ?_
            exact k)
          by_cases hc121 : (own_fd tc g) = (own_fd tb g)
          · skip
            have f123 : Exa Z T103.heap b20 "com/example/okno/okno/AdmissionLog" := (f104.keep Kq103)
            obtain ⟨cq122, kq122, q122a, q122b, q122c⟩ := isOf hZ rfl f123
            obtain ⟨_, _, ⟨T122, L122, k122, n122⟩, -, X122, ⟨Lc122, hQ122, l122, y122, z122⟩, st122⟩ := X103.virtualBack hx (y := (⟨"com/example/okno/okno/AdmissionLog", "append", "(JJ)V"⟩ : MethodName)) (z := (⟨"com/example/okno/okno/AdmissionLog", "append", "(JJ)V"⟩ : MethodName)) hown (mvT hZ (kw75 hw)) (mvT hZ (kw76 hw)) (notFace_of_selects (args := #[]) (mvT hZ (kw78 hw))) (mvT hZ (kw78 hw)) (mvT hZ (kw77 hw)) (by decide) (backOf (W := 0) (rmAppB_9 l Z a0 hw [] b20 tc ec g tb (((0 : Int64) + ea) + eb) (own_fd tb g) tb fr0_103 fr1_103 (own_fd ta g) fr0_21 (own_end (own_fd tb g) tb g) ((0 : Int64) + (((0 : Int64) + ea) - (0 : Int64))) (1 : Int32) (0 : Int32) T103.heap n0 Z103 f123 g_b20 hgz (own_nov (own_badd (own_badd (by decide : (0 : Int) ≤ (0 : Int64).toInt ∧ (0 : Int64).toInt ≤ 0) hea (by decide) (by decide)) heb (by decide) (by decide)) hec (by decide) (by decide) (by decide)) (own_bne (own_badd (own_badd (by decide : (0 : Int) ≤ (0 : Int64).toInt ∧ (0 : Int64).toInt ≤ 0) hea (by decide) (by decide)) heb (by decide) (by decide)) (by decide)) hc121 p103_7 p103_8 p103_9 p103_10 p103_11 p103_12 p103_13 p103_14 p103_15 p103_16 p103_17 p103_18 p103_19 p103_20) hZ (kw79 hw) (kw18 hw) (by decide) (by decide)) q122a q122c (g := (mkF m 241 #[.val (.long q1), .second, .val (.long q2), .second, .val (.int p3), .val (.int p4), .val (.int p5), .val (.long g), .second, .val (.long da), .second, .val (.long db), .second, .val (.int nn), .val (.int wv), .val (.long (((q2.toUInt64 >>> ((11 : Int32) &&& 0x3f).toInt64.toUInt64).toInt64) &&& (15 : Int64))), .second, .val (.long ta), .second, .val (.long tb), .second, .val (.long tc), .second, .val (.long ea), .second, .val (.long eb), .second, .val (.long ec), .second, .val (.long (own_fd ta g)), .second, .val (.long (own_fd tb g)), .second, .val (.long (own_fd tc g)), .second, .val (.long fh), .second, .val (.ref b20), .val (.long (((0 : Int64) + ea) + eb)), .second, .val (.long (if (own_fd tb g) < fh then (if (own_fd ta g) < fh then (0 : Int64) else ((0 : Int64) + ea)) else ((if (own_fd ta g) < fh then (0 : Int64) else ((0 : Int64) + ea)) + eb))), .second] [(.long ec), (.long tc), (.ref b20)])) rfl (by rw [hml]; rfl) (Steps.refl _) (argsL := [(.long tc), (.long ec)]) (rest := []) (lenOf pd_8 rfl) rfl (by show 2 * 0 + _ ≤ _; exact Nat.le_of_eq rfl) (hb hby at_241) (fun _ _ => ⟨rfl, rfl, (by decide : 4 + 0 ≤ _), (by decide : 30 + 0 ≤ _)⟩)
            dsimp only [Pt.U, Pt.locs, Pt.cells, Pt.slots] at X122 l122 y122 z122 st122 hQ122
            subst l122 y122 z122
            obtain ⟨rfl, N122q, Kq122, p122_0, p122_1, p122_2, p122_3, p122_4, p122_5, p122_6, p122_7, p122_8, p122_9, p122_10, p122_11, p122_12, p122_13⟩ := hQ122
            have N122 := Fr.app N103 N122q
            have Z122 : n0 ≤ T122.heap.size := Nat.le_trans Z103 Kq122.1
            have K122 : Keep h0 T122.heap [] := K103.trans Kq122 (allS (Or.inr sz_b20) all0)
            have pre124 : ∀ t, Steps p.tables e below (T122.setTop (mkF m 256 #[.val (.long q1), .second, .val (.long q2), .second, .val (.int p3), .val (.int p4), .val (.int p5), .val (.long g), .second, .val (.long da), .second, .val (.long db), .second, .val (.int nn), .val (.int wv), .val (.long (((q2.toUInt64 >>> ((11 : Int32) &&& 0x3f).toInt64.toUInt64).toInt64) &&& (15 : Int64))), .second, .val (.long ta), .second, .val (.long tb), .second, .val (.long tc), .second, .val (.long ea), .second, .val (.long eb), .second, .val (.long ec), .second, .val (.long (own_fd ta g)), .second, .val (.long (own_fd tb g)), .second, .val (.long (own_fd tc g)), .second, .val (.long fh), .second, .val (.ref b20), .val (.long ((((0 : Int64) + ea) + eb) + ec)), .second, .val (.long (if (own_fd tb g) < fh then (if (own_fd ta g) < fh then (0 : Int64) else ((0 : Int64) + ea)) else ((if (own_fd ta g) < fh then (0 : Int64) else ((0 : Int64) + ea)) + eb))), .second] [(.int (lcmpW (own_fd tc g) fh))])) t → Steps p.tables e below (s₁.setTop (entryFrame m #[(.long q1), (.long q2), (.int p3), (.int p4), (.int p5)] maxLocals)) t := fun t k => pre120 t (by
              refine st122.trans ?_
              refine XS.lload X122.here hx rfl (hb hby at_244) rfl ?_
              refine XS.lload X122.here hx rfl (hb hby at_246) rfl ?_
              refine XS.ladd X122.here hx rfl (hb hby at_248) rfl ?_
              refine XS.lstore X122.here hx rfl (hb hby at_249) rfl (l' := #[.val (.long q1), .second, .val (.long q2), .second, .val (.int p3), .val (.int p4), .val (.int p5), .val (.long g), .second, .val (.long da), .second, .val (.long db), .second, .val (.int nn), .val (.int wv), .val (.long (((q2.toUInt64 >>> ((11 : Int32) &&& 0x3f).toInt64.toUInt64).toInt64) &&& (15 : Int64))), .second, .val (.long ta), .second, .val (.long tb), .second, .val (.long tc), .second, .val (.long ea), .second, .val (.long eb), .second, .val (.long ec), .second, .val (.long (own_fd ta g)), .second, .val (.long (own_fd tb g)), .second, .val (.long (own_fd tc g)), .second, .val (.long fh), .second, .val (.ref b20), .val (.long ((((0 : Int64) + ea) + eb) + ec)), .second, .val (.long (if (own_fd tb g) < fh then (if (own_fd ta g) < fh then (0 : Int64) else ((0 : Int64) + ea)) else ((if (own_fd ta g) < fh then (0 : Int64) else ((0 : Int64) + ea)) + eb))), .second]) rfl ?_
              refine XS.lload X122.here hx rfl (hb hby at_251) rfl ?_
              refine XS.lload X122.here hx rfl (hb hby at_253) rfl ?_
              refine XS.lcmp X122.here hx rfl (hb hby at_255) rfl ?_
              exact k)
            have pre126 : ∀ t, Steps p.tables e below (T122.setTop (mkF m 266 #[.val (.long q1), .second, .val (.long q2), .second, .val (.int p3), .val (.int p4), .val (.int p5), .val (.long g), .second, .val (.long da), .second, .val (.long db), .second, .val (.int nn), .val (.int wv), .val (.long (((q2.toUInt64 >>> ((11 : Int32) &&& 0x3f).toInt64.toUInt64).toInt64) &&& (15 : Int64))), .second, .val (.long ta), .second, .val (.long tb), .second, .val (.long tc), .second, .val (.long ea), .second, .val (.long eb), .second, .val (.long ec), .second, .val (.long (own_fd ta g)), .second, .val (.long (own_fd tb g)), .second, .val (.long (own_fd tc g)), .second, .val (.long fh), .second, .val (.ref b20), .val (.long ((((0 : Int64) + ea) + eb) + ec)), .second, .val (.long (if (own_fd tc g) < fh then (if (own_fd tb g) < fh then (if (own_fd ta g) < fh then (0 : Int64) else ((0 : Int64) + ea)) else ((if (own_fd ta g) < fh then (0 : Int64) else ((0 : Int64) + ea)) + eb)) else ((if (own_fd tb g) < fh then (if (own_fd ta g) < fh then (0 : Int64) else ((0 : Int64) + ea)) else ((if (own_fd ta g) < fh then (0 : Int64) else ((0 : Int64) + ea)) + eb)) + ec))), .second] [])) t → Steps p.tables e below (s₁.setTop (entryFrame m #[(.long q1), (.long q2), (.int p3), (.int p4), (.int p5)] maxLocals)) t := fun t k => pre124 t (by
              by_cases hc125 : (own_fd tc g) < fh
              · skip
                refine XS.ifYes X122.here hx rfl (pc0 := 256) (pc' := 266) rfl (hb hby at_256) rfl ((if0 _ _).trans (tlt ((lw_lt _ _).mpr hc125)).1) (by decide) (by decide) ?_
                simp only [if_pos hc125] at k; exact k
              · skip
                refine XS.ifNo X122.here hx rfl (hb hby at_256) rfl ((if0 _ _).trans (flt (fun q => hc125 ((lw_lt _ _).mp q))).1) ?_
                refine XS.lload X122.here hx rfl (hb hby at_259) rfl ?_
                refine XS.lload X122.here hx rfl (hb hby at_261) rfl ?_
                refine XS.ladd X122.here hx rfl (hb hby at_263) rfl ?_
                refine XS.lstore X122.here hx rfl (hb hby at_264) rfl (l' := #[.val (.long q1), .second, .val (.long q2), .second, .val (.int p3), .val (.int p4), .val (.int p5), .val (.long g), .second, .val (.long da), .second, .val (.long db), .second, .val (.int nn), .val (.int wv), .val (.long (((q2.toUInt64 >>> ((11 : Int32) &&& 0x3f).toInt64.toUInt64).toInt64) &&& (15 : Int64))), .second, .val (.long ta), .second, .val (.long tb), .second, .val (.long tc), .second, .val (.long ea), .second, .val (.long eb), .second, .val (.long ec), .second, .val (.long (own_fd ta g)), .second, .val (.long (own_fd tb g)), .second, .val (.long (own_fd tc g)), .second, .val (.long fh), .second, .val (.ref b20), .val (.long ((((0 : Int64) + ea) + eb) + ec)), .second, .val (.long ((if (own_fd tb g) < fh then (if (own_fd ta g) < fh then (0 : Int64) else ((0 : Int64) + ea)) else ((if (own_fd ta g) < fh then (0 : Int64) else ((0 : Int64) + ea)) + eb)) + ec)), .second]) rfl ?_
                simp only [if_neg hc125] at k; exact k)
            have f128 : Exa Z T122.heap b20 "com/example/okno/okno/AdmissionLog" := (f123.keep Kq122)
            have f129 : Arv Z T122.heap fr0_21 fk0_21 .long (4 : Int32) [(.long ((0 : Int64) + (((0 : Int64) + ea) - (0 : Int64)))), (.long (2 : Int64)), (.long ((0 : Int64) + (((0 : Int64) + ea) - (0 : Int64)))), (.long (2 : Int64))] (.long (0 : Int64)) := (p103_21.keep Kq122 (ninS (Ne.symm ne21_b20_fr0_21) nin0))
            have f130 : Arv Z T122.heap fr0_103 fk0_103 .long (4 : Int32) [(.long (own_fd ta g)), (.long (0 : Int64)), (.long (0 : Int64)), (.long (0 : Int64))] (.long (0 : Int64)) := (p103_2.keep Kq122 (ninS (Ne.symm ne103_b20_fr0_103) nin0))
            have f131 : Arv Z T122.heap fr1_103 fk1_103 .long (4 : Int32) [(.long (((0 : Int64) + ea) - (0 : Int64))), (.long (0 : Int64)), (.long (0 : Int64)), (.long (0 : Int64))] (.long (0 : Int64)) := (p103_5.keep Kq122 (ninS (Ne.symm ne103_b20_fr1_103) nin0))
            obtain ⟨cq127, kq127, q127a, q127b, q127c⟩ := isOf hZ rfl f128
            obtain ⟨_, _, ⟨T127, L127, k127, n127⟩, -, X127, ⟨Lc127, hQ127, l127, y127, z127⟩, st127⟩ := X122.virtualBack hx (y := (⟨"com/example/okno/okno/AdmissionLog", "fitShorterWindow", "(IJ)V"⟩ : MethodName)) (z := (⟨"com/example/okno/okno/AdmissionLog", "fitShorterWindow", "(IJ)V"⟩ : MethodName)) hown (mvT hZ (kw54 hw)) (mvT hZ (kw55 hw)) (notFace_of_selects (args := #[]) (mvT hZ (kw57 hw))) (mvT hZ (kw57 hw)) (mvT hZ (kw56 hw)) (by decide) (backOf (W := 0) (rmFit_15 l Z a0 hw [] b20 wv fh fr0_21 fk0_21 ([(.long ((0 : Int64) + (((0 : Int64) + ea) - (0 : Int64)))), (.long (2 : Int64)), (.long ((0 : Int64) + (((0 : Int64) + ea) - (0 : Int64)))), (.long (2 : Int64))]) ((0 : Int64) + (((0 : Int64) + ea) - (0 : Int64))) (own_fd tb g) (own_fd ta g) (0 : Int64) (((0 : Int64) + ea) - (0 : Int64)) (0 : Int64) ((((0 : Int64) + ea) + eb) + ec) (0 : Int64) (0 : Int64) (0 : Int64) (0 : Int64) fr0_103 fr1_103 fk0_103 fk1_103 T122.heap n0 Z122 f128 p21_0 (Ne.symm ne21_b20_fr0_21) rfl f129 hw01 (by rcases hw01 with q | q <;> rw [q] <;> rfl) (by rcases hw01 with q | q <;> rw [q] <;> rfl) p122_8 (own_bne (own_badd (own_badd (own_badd (by decide : (0 : Int) ≤ (0 : Int64).toInt ∧ (0 : Int64).toInt ≤ 0) hea (by decide) (by decide)) heb (by decide) (by decide)) hec (by decide) (by decide)) (by decide)) p122_7 p122_12 p122_9 p122_13 p122_1 p122_2 f130 f131 ne103_fr0_21_fr0_103 ne103_fr0_21_fr1_103) hZ (kw58 hw) (kw18 hw) (by decide) (by decide)) q127a q127c (g := (mkF m 272 #[.val (.long q1), .second, .val (.long q2), .second, .val (.int p3), .val (.int p4), .val (.int p5), .val (.long g), .second, .val (.long da), .second, .val (.long db), .second, .val (.int nn), .val (.int wv), .val (.long (((q2.toUInt64 >>> ((11 : Int32) &&& 0x3f).toInt64.toUInt64).toInt64) &&& (15 : Int64))), .second, .val (.long ta), .second, .val (.long tb), .second, .val (.long tc), .second, .val (.long ea), .second, .val (.long eb), .second, .val (.long ec), .second, .val (.long (own_fd ta g)), .second, .val (.long (own_fd tb g)), .second, .val (.long (own_fd tc g)), .second, .val (.long fh), .second, .val (.ref b20), .val (.long ((((0 : Int64) + ea) + eb) + ec)), .second, .val (.long (if (own_fd tc g) < fh then (if (own_fd tb g) < fh then (if (own_fd ta g) < fh then (0 : Int64) else ((0 : Int64) + ea)) else ((if (own_fd ta g) < fh then (0 : Int64) else ((0 : Int64) + ea)) + eb)) else ((if (own_fd tb g) < fh then (if (own_fd ta g) < fh then (0 : Int64) else ((0 : Int64) + ea)) else ((if (own_fd ta g) < fh then (0 : Int64) else ((0 : Int64) + ea)) + eb)) + ec))), .second] [(.long fh), (.int wv), (.ref b20)])) rfl (by rw [hml]; rfl) (Steps.refl _) (argsL := [(.int wv), (.long fh)]) (rest := []) (lenOf pd_6 rfl) rfl (by show 2 * 0 + _ ≤ _; exact Nat.le_of_eq rfl) (hb hby at_272) (fun _ _ => ⟨rfl, rfl, (by decide : 4 + 0 ≤ _), (by decide : 30 + 0 ≤ _)⟩)
            dsimp only [Pt.U, Pt.locs, Pt.cells, Pt.slots] at X127 l127 y127 z127 st127 hQ127
            subst l127 y127 z127
            obtain ⟨rfl, N127q, Kq127, p127_0⟩ := hQ127
            have N127 := Fr.app N122 N127q
            have Z127 : n0 ≤ T127.heap.size := Nat.le_trans Z122 Kq127.1
            have K127 : Keep h0 T127.heap [] := K122.trans Kq127 (allS (Or.inr sz_fr0_21) all0)
            have f133 : Fld Z T127.heap b20 "com/example/okno/okno/AdmissionLog" "shorterWindows" "[J" (.ref fr0_21) := (p122_7.keep Kq127 (ninS ne21_b20_fr0_21 nin0))
            have f134 : Fld Z T127.heap b20 "com/example/okno/okno/AdmissionLog" "total" "J" (.long ((((0 : Int64) + ea) + eb) + ec)) := (p122_8.keep Kq127 (ninS ne21_b20_fr0_21 nin0))
            have f135 : Fld Z T127.heap b20 "com/example/okno/okno/AdmissionLog" "olderTotal" "J" (.long ((0 : Int64) + (((0 : Int64) + ea) - (0 : Int64)))) := (p122_11.keep Kq127 (ninS ne21_b20_fr0_21 nin0))
            have f136 : Exa Z T127.heap b20 "com/example/okno/okno/AdmissionLog" := (f128.keep Kq127)
            obtain ⟨cq132, kq132, q132a, q132b, q132c⟩ := isOf hZ rfl f136
            obtain ⟨_, _, ⟨T132, L132, k132, n132⟩, -, X132, ⟨Lc132, hQ132, l132, y132, z132⟩, st132⟩ := X127.virtualBack hx (y := (⟨"com/example/okno/okno/AdmissionLog", "shorterTotal", "(I)J"⟩ : MethodName)) (z := (⟨"com/example/okno/okno/AdmissionLog", "shorterTotal", "(I)J"⟩ : MethodName)) hown (mvT hZ (kw70 hw)) (mvT hZ (kw71 hw)) (notFace_of_selects (args := #[]) (mvT hZ (kw73 hw))) (mvT hZ (kw73 hw)) (mvT hZ (kw72 hw)) (by decide) (backOf (W := 0) (rmTot l Z a0 hw [] b20 wv fr0_21 fk0_21 (([(.long ((0 : Int64) + (((0 : Int64) + ea) - (0 : Int64)))), (.long (2 : Int64)), (.long ((0 : Int64) + (((0 : Int64) + ea) - (0 : Int64)))), (.long (2 : Int64))].set (((2 : Int32) * wv)).toNatClampNeg (.long (own_fr1 ((0 : Int64) + (((0 : Int64) + ea) - (0 : Int64))) fh (own_fd tb g) (own_fd ta g) (0 : Int64) (((0 : Int64) + ea) - (0 : Int64)) (0 : Int64)))).set ((((2 : Int32) * wv) + (1 : Int32))).toNatClampNeg (.long (own_fc1 ((0 : Int64) + (((0 : Int64) + ea) - (0 : Int64))) fh (own_fd tb g) (own_fd ta g) (0 : Int64) (((0 : Int64) + ea) - (0 : Int64)) (0 : Int64)))) (own_fr1 ((0 : Int64) + (((0 : Int64) + ea) - (0 : Int64))) fh (own_fd tb g) (own_fd ta g) (0 : Int64) (((0 : Int64) + ea) - (0 : Int64)) (0 : Int64)) (own_fc1 ((0 : Int64) + (((0 : Int64) + ea) - (0 : Int64))) fh (own_fd tb g) (own_fd ta g) (0 : Int64) (((0 : Int64) + ea) - (0 : Int64)) (0 : Int64)) ((((0 : Int64) + ea) + eb) + ec) ((0 : Int64) + (((0 : Int64) + ea) - (0 : Int64))) T127.heap n0 Z127 f133 p127_0 f134 f135 hw01 (by rcases hw01 with q | q <;> rw [q] <;> rfl) (by rcases hw01 with q | q <;> rw [q] <;> rfl)) hZ (kw74 hw) (kw18 hw) (by decide) (by decide)) q132a q132c (g := (mkF m 279 #[.val (.long q1), .second, .val (.long q2), .second, .val (.int p3), .val (.int p4), .val (.int p5), .val (.long g), .second, .val (.long da), .second, .val (.long db), .second, .val (.int nn), .val (.int wv), .val (.long (((q2.toUInt64 >>> ((11 : Int32) &&& 0x3f).toInt64.toUInt64).toInt64) &&& (15 : Int64))), .second, .val (.long ta), .second, .val (.long tb), .second, .val (.long tc), .second, .val (.long ea), .second, .val (.long eb), .second, .val (.long ec), .second, .val (.long (own_fd ta g)), .second, .val (.long (own_fd tb g)), .second, .val (.long (own_fd tc g)), .second, .val (.long fh), .second, .val (.ref b20), .val (.long ((((0 : Int64) + ea) + eb) + ec)), .second, .val (.long (if (own_fd tc g) < fh then (if (own_fd tb g) < fh then (if (own_fd ta g) < fh then (0 : Int64) else ((0 : Int64) + ea)) else ((if (own_fd ta g) < fh then (0 : Int64) else ((0 : Int64) + ea)) + eb)) else ((if (own_fd tb g) < fh then (if (own_fd ta g) < fh then (0 : Int64) else ((0 : Int64) + ea)) else ((if (own_fd ta g) < fh then (0 : Int64) else ((0 : Int64) + ea)) + eb)) + ec))), .second] [(.int wv), (.ref b20)])) rfl (by rw [hml]; rfl) (Steps.refl _) (argsL := [(.int wv)]) (rest := []) (lenOf pd_1 rfl) rfl (by show 2 * 0 + _ ≤ _; exact Nat.le_of_eq rfl) (hb hby at_279) (fun _ _ => ⟨rfl, rfl, (by decide : 4 + 0 ≤ _), (by decide : 30 + 0 ≤ _)⟩)
            dsimp only [Pt.U, Pt.locs, Pt.cells, Pt.slots] at X132 l132 y132 z132 st132 hQ132
            subst l132 y132 z132
            obtain ⟨rfl, N132q, e132⟩ := hQ132
            have N132 := Fr.app N127 N132q
            obtain ⟨cq137, kq137, q137a, q137b, q137c⟩ := isOf hZ e132 f136
            obtain ⟨_, _, ⟨T137, L137, k137, n137⟩, -, X137, ⟨Lc137, hQ137, l137, y137, z137⟩, st137⟩ := X132.virtualBack hx (y := (⟨"com/example/okno/okno/AdmissionLog", "shorterTotal", "(I)J"⟩ : MethodName)) (z := (⟨"com/example/okno/okno/AdmissionLog", "shorterTotal", "(I)J"⟩ : MethodName)) hown (mvT hZ (kw70 hw)) (mvT hZ (kw71 hw)) (notFace_of_selects (args := #[]) (mvT hZ (kw73 hw))) (mvT hZ (kw73 hw)) (mvT hZ (kw72 hw)) (by decide) (backOf (W := 0) (rmTot l Z a0 hw [] b20 ((1 : Int32) - wv) fr0_21 fk0_21 (([(.long ((0 : Int64) + (((0 : Int64) + ea) - (0 : Int64)))), (.long (2 : Int64)), (.long ((0 : Int64) + (((0 : Int64) + ea) - (0 : Int64)))), (.long (2 : Int64))].set (((2 : Int32) * wv)).toNatClampNeg (.long (own_fr1 ((0 : Int64) + (((0 : Int64) + ea) - (0 : Int64))) fh (own_fd tb g) (own_fd ta g) (0 : Int64) (((0 : Int64) + ea) - (0 : Int64)) (0 : Int64)))).set ((((2 : Int32) * wv) + (1 : Int32))).toNatClampNeg (.long (own_fc1 ((0 : Int64) + (((0 : Int64) + ea) - (0 : Int64))) fh (own_fd tb g) (own_fd ta g) (0 : Int64) (((0 : Int64) + ea) - (0 : Int64)) (0 : Int64)))) ((0 : Int64) + (((0 : Int64) + ea) - (0 : Int64))) (2 : Int64) ((((0 : Int64) + ea) + eb) + ec) ((0 : Int64) + (((0 : Int64) + ea) - (0 : Int64))) T127.heap n0 Z127 f133 p127_0 f134 f135 (own_1w hw01) (by rcases hw01 with q | q <;> rw [q] <;> rfl) (by rcases hw01 with q | q <;> rw [q] <;> rfl)) hZ (kw74 hw) (kw18 hw) (by decide) (by decide)) q137a q137c (g := (mkF m 294 #[.val (.long q1), .second, .val (.long q2), .second, .val (.int p3), .val (.int p4), .val (.int p5), .val (.long g), .second, .val (.long da), .second, .val (.long db), .second, .val (.int nn), .val (.int wv), .val (.long (((q2.toUInt64 >>> ((11 : Int32) &&& 0x3f).toInt64.toUInt64).toInt64) &&& (15 : Int64))), .second, .val (.long ta), .second, .val (.long tb), .second, .val (.long tc), .second, .val (.long ea), .second, .val (.long eb), .second, .val (.long ec), .second, .val (.long (own_fd ta g)), .second, .val (.long (own_fd tb g)), .second, .val (.long (own_fd tc g)), .second, .val (.long fh), .second, .val (.ref b20), .val (.long ((((0 : Int64) + ea) + eb) + ec)), .second, .val (.long (if (own_fd tc g) < fh then (if (own_fd tb g) < fh then (if (own_fd ta g) < fh then (0 : Int64) else ((0 : Int64) + ea)) else ((if (own_fd ta g) < fh then (0 : Int64) else ((0 : Int64) + ea)) + eb)) else ((if (own_fd tb g) < fh then (if (own_fd ta g) < fh then (0 : Int64) else ((0 : Int64) + ea)) else ((if (own_fd ta g) < fh then (0 : Int64) else ((0 : Int64) + ea)) + eb)) + ec))), .second] [(.int ((1 : Int32) - wv)), (.ref b20)])) rfl (by rw [hml]; rfl) (Steps.refl _) (argsL := [(.int ((1 : Int32) - wv))]) (rest := []) (lenOf pd_1 rfl) rfl (by show 2 * 0 + _ ≤ _; exact Nat.le_of_eq rfl) (hb hby at_294) (fun _ _ => ⟨rfl, e132, (by decide : 4 + 0 ≤ _), (by decide : 30 + 0 ≤ _)⟩)
            dsimp only [Pt.U, Pt.locs, Pt.cells, Pt.slots] at X137 l137 y137 z137 st137 hQ137
            subst l137 y137 z137
            obtain ⟨rfl, N137q, e137⟩ := hQ137
            have N137 := Fr.app N132 N137q
            obtain ⟨fs, hr, hrun, hended, hW, hsame⟩ := X137.leave (v := some (.int (1 : Int32))) (fun h => by rw [Bd.returns] at h; cases h)
            refine ⟨_, _, pre126 _ ?_, hrun, hended, _, _, rfl, ?_, ⟨_, rfl⟩, hW, hsame.mono (by decide) (by decide)⟩
            · skip
              refine XS.aload X122.here hx rfl (hb hby at_266) rfl rfl ?_
              refine XS.iload X122.here hx rfl (hb hby at_268) rfl ?_
              refine XS.lload X122.here hx rfl (hb hby at_270) rfl ?_
              refine st127.trans ?_
              refine XS.aload X127.here hx rfl (hb hby at_275) rfl rfl ?_
              refine XS.iload X127.here hx rfl (hb hby at_277) rfl ?_
              refine st132.trans ?_
              refine XS.lload X132.here hx rfl (hb hby at_282) rfl ?_
              refine XS.lcmp X132.here hx rfl (hb hby at_284) rfl ?_
              refine XS.ifNo X132.here hx rfl (hb hby at_285) rfl ((if0 _ _).trans (teq ((lw_eq _ _).mpr (own_fin12 (own_fd ta g) (own_fd tb g) (own_fd tc g) ea eb ec fh hm1 hm2 hc121))).2) ?_
              refine XS.aload X132.here hx rfl (hb hby at_288) rfl rfl ?_
              refine XS.iconst X132.here hx rfl (hb hby at_290) ?_
              refine XS.iload X132.here hx rfl (hb hby at_291) rfl ?_
              refine XS.isub X132.here hx rfl (hb hby at_293) rfl ?_
              refine st137.trans ?_
              refine XS.lload X137.here hx rfl (hb hby at_297) rfl ?_
              refine XS.lcmp X137.here hx rfl (hb hby at_299) rfl ?_
              refine XS.ifNo X137.here hx rfl (hb hby at_300) rfl ((if0 _ _).trans (teq ((lw_eq _ _).mpr (own_fin13 (own_fd ta g) (own_fd tb g) (own_fd tc g) ea eb ec fh hm1 hm2 hc121))).2) ?_
              refine XS.iconst X137.here hx rfl (hb hby at_303) ?_
              refine XS.goto X137.here hx rfl (pc0 := 304) (pc' := 308) rfl (hb hby at_304) (by decide) (by decide) ?_
              show Steps p.tables e below (T137.setTop (mkF m 308 #[.val (.long q1), .second, .val (.long q2), .second, .val (.int p3), .val (.int p4), .val (.int p5), .val (.long g), .second, .val (.long da), .second, .val (.long db), .second, .val (.int nn), .val (.int wv), .val (.long (((q2.toUInt64 >>> ((11 : Int32) &&& 0x3f).toInt64.toUInt64).toInt64) &&& (15 : Int64))), .second, .val (.long ta), .second, .val (.long tb), .second, .val (.long tc), .second, .val (.long ea), .second, .val (.long eb), .second, .val (.long ec), .second, .val (.long (own_fd ta g)), .second, .val (.long (own_fd tb g)), .second, .val (.long (own_fd tc g)), .second, .val (.long fh), .second, .val (.ref b20), .val (.long ((((0 : Int64) + ea) + eb) + ec)), .second, .val (.long (if (own_fd tc g) < fh then (if (own_fd tb g) < fh then (if (own_fd ta g) < fh then (0 : Int64) else ((0 : Int64) + ea)) else ((if (own_fd ta g) < fh then (0 : Int64) else ((0 : Int64) + ea)) + eb)) else ((if (own_fd tb g) < fh then (if (own_fd ta g) < fh then (0 : Int64) else ((0 : Int64) + ea)) else ((if (own_fd ta g) < fh then (0 : Int64) else ((0 : Int64) + ea)) + eb)) + ec))), .second] [(.int (1 : Int32))])) _
              exact retN X137 hx (t := .boolean) Bd.returns (by simp) (hb hby at_308) hr
            · show Q_rm0 Z q1 q2 p3 p4 p5 w_NO_ENTRIES kn h0 n0 _ T137.heap _
              rw [e137]
              exact ⟨rfl, N137, K127⟩
          · skip
            have f140 : Exa Z T103.heap b20 "com/example/okno/okno/AdmissionLog" := (f104.keep Kq103)
            obtain ⟨cq139, kq139, q139a, q139b, q139c⟩ := isOf hZ rfl f140
            obtain ⟨_, _, ⟨T139, L139, k139, n139⟩, -, X139, ⟨Lc139, hQ139, l139, y139, z139⟩, st139⟩ := X103.virtualBack hx (y := (⟨"com/example/okno/okno/AdmissionLog", "append", "(JJ)V"⟩ : MethodName)) (z := (⟨"com/example/okno/okno/AdmissionLog", "append", "(JJ)V"⟩ : MethodName)) hown (mvT hZ (kw75 hw)) (mvT hZ (kw76 hw)) (notFace_of_selects (args := #[]) (mvT hZ (kw78 hw))) (mvT hZ (kw78 hw)) (mvT hZ (kw77 hw)) (by decide) (backOf (W := 0) (rmAppC_21 l Z a0 hw [] b20 tc ec g tb (((0 : Int64) + ea) + eb) (own_fd tb g) fr0_21 fk0_21 ((0 : Int64) + (((0 : Int64) + ea) - (0 : Int64))) ((0 : Int64) + (((0 : Int64) + ea) - (0 : Int64))) fr0_103 fr1_103 fk0_103 fk1_103 (own_fd ta g) (0 : Int64) (0 : Int64) (0 : Int64) (((0 : Int64) + ea) - (0 : Int64)) (0 : Int64) (0 : Int64) (0 : Int64) tb (own_fd ta g) (own_end (own_fd tb g) tb g) ((0 : Int64) + (((0 : Int64) + ea) - (0 : Int64))) T103.heap n0 Z103 f140 g_b20 hgz (own_nov (own_badd (own_badd (by decide : (0 : Int) ≤ (0 : Int64).toInt ∧ (0 : Int64).toInt ≤ 0) hea (by decide) (by decide)) heb (by decide) (by decide)) hec (by decide) (by decide) (by decide)) (own_bne (own_badd (own_badd (by decide : (0 : Int) ≤ (0 : Int64).toInt ∧ (0 : Int64).toInt ≤ 0) hea (by decide) (by decide)) heb (by decide) (by decide)) (by decide)) hc121 p103_21 p21_0 (Ne.symm ne21_b20_fr0_21) p103_2 p103_5 p103_0 p103_3 (Ne.symm ne103_b20_fr0_103) (Ne.symm ne103_b20_fr1_103) p103_6 ne103_fr0_21_fr0_103 ne103_fr0_21_fr1_103 p103_7 p103_8 p103_9 p103_10 p103_11 p103_12 p103_13 p103_14 p103_15 p103_16 p103_17 p103_18 p103_19 p103_20) hZ (kw79 hw) (kw18 hw) (by decide) (by decide)) q139a q139c (g := (mkF m 241 #[.val (.long q1), .second, .val (.long q2), .second, .val (.int p3), .val (.int p4), .val (.int p5), .val (.long g), .second, .val (.long da), .second, .val (.long db), .second, .val (.int nn), .val (.int wv), .val (.long (((q2.toUInt64 >>> ((11 : Int32) &&& 0x3f).toInt64.toUInt64).toInt64) &&& (15 : Int64))), .second, .val (.long ta), .second, .val (.long tb), .second, .val (.long tc), .second, .val (.long ea), .second, .val (.long eb), .second, .val (.long ec), .second, .val (.long (own_fd ta g)), .second, .val (.long (own_fd tb g)), .second, .val (.long (own_fd tc g)), .second, .val (.long fh), .second, .val (.ref b20), .val (.long (((0 : Int64) + ea) + eb)), .second, .val (.long (if (own_fd tb g) < fh then (if (own_fd ta g) < fh then (0 : Int64) else ((0 : Int64) + ea)) else ((if (own_fd ta g) < fh then (0 : Int64) else ((0 : Int64) + ea)) + eb))), .second] [(.long ec), (.long tc), (.ref b20)])) rfl (by rw [hml]; rfl) (Steps.refl _) (argsL := [(.long tc), (.long ec)]) (rest := []) (lenOf pd_8 rfl) rfl (by show 2 * 0 + _ ≤ _; exact Nat.le_of_eq rfl) (hb hby at_241) (fun _ _ => ⟨rfl, rfl, (by decide : 4 + 0 ≤ _), (by decide : 30 + 0 ≤ _)⟩)
            dsimp only [Pt.U, Pt.locs, Pt.cells, Pt.slots] at X139 l139 y139 z139 st139 hQ139
            subst l139 y139 z139
            obtain ⟨rfl, N139q, Kq139, p139_0, p139_1, p139_2, p139_3, p139_4, p139_5, p139_6, p139_7, p139_8, p139_9, p139_10, p139_11, p139_12, p139_13, p139_14, p139_15, p139_16⟩ := hQ139
            have N139 := Fr.app N103 N139q
            have Z139 : n0 ≤ T139.heap.size := Nat.le_trans Z103 Kq139.1
            have K139 : Keep h0 T139.heap [] := K103.trans Kq139 (allS (Or.inr sz_b20) (allS (Or.inr sz_fr0_21) (allS (Or.inr sz_fr0_103) (allS (Or.inr sz_fr1_103) all0))))
            have pre141 : ∀ t, Steps p.tables e below (T139.setTop (mkF m 256 #[.val (.long q1), .second, .val (.long q2), .second, .val (.int p3), .val (.int p4), .val (.int p5), .val (.long g), .second, .val (.long da), .second, .val (.long db), .second, .val (.int nn), .val (.int wv), .val (.long (((q2.toUInt64 >>> ((11 : Int32) &&& 0x3f).toInt64.toUInt64).toInt64) &&& (15 : Int64))), .second, .val (.long ta), .second, .val (.long tb), .second, .val (.long tc), .second, .val (.long ea), .second, .val (.long eb), .second, .val (.long ec), .second, .val (.long (own_fd ta g)), .second, .val (.long (own_fd tb g)), .second, .val (.long (own_fd tc g)), .second, .val (.long fh), .second, .val (.ref b20), .val (.long ((((0 : Int64) + ea) + eb) + ec)), .second, .val (.long (if (own_fd tb g) < fh then (if (own_fd ta g) < fh then (0 : Int64) else ((0 : Int64) + ea)) else ((if (own_fd ta g) < fh then (0 : Int64) else ((0 : Int64) + ea)) + eb))), .second] [(.int (lcmpW (own_fd tc g) fh))])) t → Steps p.tables e below (s₁.setTop (entryFrame m #[(.long q1), (.long q2), (.int p3), (.int p4), (.int p5)] maxLocals)) t := fun t k => pre120 t (by
              refine st139.trans ?_
              refine XS.lload X139.here hx rfl (hb hby at_244) rfl ?_
              refine XS.lload X139.here hx rfl (hb hby at_246) rfl ?_
              refine XS.ladd X139.here hx rfl (hb hby at_248) rfl ?_
              refine XS.lstore X139.here hx rfl (hb hby at_249) rfl (l' := #[.val (.long q1), .second, .val (.long q2), .second, .val (.int p3), .val (.int p4), .val (.int p5), .val (.long g), .second, .val (.long da), .second, .val (.long db), .second, .val (.int nn), .val (.int wv), .val (.long (((q2.toUInt64 >>> ((11 : Int32) &&& 0x3f).toInt64.toUInt64).toInt64) &&& (15 : Int64))), .second, .val (.long ta), .second, .val (.long tb), .second, .val (.long tc), .second, .val (.long ea), .second, .val (.long eb), .second, .val (.long ec), .second, .val (.long (own_fd ta g)), .second, .val (.long (own_fd tb g)), .second, .val (.long (own_fd tc g)), .second, .val (.long fh), .second, .val (.ref b20), .val (.long ((((0 : Int64) + ea) + eb) + ec)), .second, .val (.long (if (own_fd tb g) < fh then (if (own_fd ta g) < fh then (0 : Int64) else ((0 : Int64) + ea)) else ((if (own_fd ta g) < fh then (0 : Int64) else ((0 : Int64) + ea)) + eb))), .second]) rfl ?_
              refine XS.lload X139.here hx rfl (hb hby at_251) rfl ?_
              refine XS.lload X139.here hx rfl (hb hby at_253) rfl ?_
              refine XS.lcmp X139.here hx rfl (hb hby at_255) rfl ?_
              exact k)
            have pre143 : ∀ t, Steps p.tables e below (T139.setTop (mkF m 266 #[.val (.long q1), .second, .val (.long q2), .second, .val (.int p3), .val (.int p4), .val (.int p5), .val (.long g), .second, .val (.long da), .second, .val (.long db), .second, .val (.int nn), .val (.int wv), .val (.long (((q2.toUInt64 >>> ((11 : Int32) &&& 0x3f).toInt64.toUInt64).toInt64) &&& (15 : Int64))), .second, .val (.long ta), .second, .val (.long tb), .second, .val (.long tc), .second, .val (.long ea), .second, .val (.long eb), .second, .val (.long ec), .second, .val (.long (own_fd ta g)), .second, .val (.long (own_fd tb g)), .second, .val (.long (own_fd tc g)), .second, .val (.long fh), .second, .val (.ref b20), .val (.long ((((0 : Int64) + ea) + eb) + ec)), .second, .val (.long (if (own_fd tc g) < fh then (if (own_fd tb g) < fh then (if (own_fd ta g) < fh then (0 : Int64) else ((0 : Int64) + ea)) else ((if (own_fd ta g) < fh then (0 : Int64) else ((0 : Int64) + ea)) + eb)) else ((if (own_fd tb g) < fh then (if (own_fd ta g) < fh then (0 : Int64) else ((0 : Int64) + ea)) else ((if (own_fd ta g) < fh then (0 : Int64) else ((0 : Int64) + ea)) + eb)) + ec))), .second] [])) t → Steps p.tables e below (s₁.setTop (entryFrame m #[(.long q1), (.long q2), (.int p3), (.int p4), (.int p5)] maxLocals)) t := fun t k => pre141 t (by
              by_cases hc142 : (own_fd tc g) < fh
              · skip
                refine XS.ifYes X139.here hx rfl (pc0 := 256) (pc' := 266) rfl (hb hby at_256) rfl ((if0 _ _).trans (tlt ((lw_lt _ _).mpr hc142)).1) (by decide) (by decide) ?_
                simp only [if_pos hc142] at k; exact k
              · skip
                refine XS.ifNo X139.here hx rfl (hb hby at_256) rfl ((if0 _ _).trans (flt (fun q => hc142 ((lw_lt _ _).mp q))).1) ?_
                refine XS.lload X139.here hx rfl (hb hby at_259) rfl ?_
                refine XS.lload X139.here hx rfl (hb hby at_261) rfl ?_
                refine XS.ladd X139.here hx rfl (hb hby at_263) rfl ?_
                refine XS.lstore X139.here hx rfl (hb hby at_264) rfl (l' := #[.val (.long q1), .second, .val (.long q2), .second, .val (.int p3), .val (.int p4), .val (.int p5), .val (.long g), .second, .val (.long da), .second, .val (.long db), .second, .val (.int nn), .val (.int wv), .val (.long (((q2.toUInt64 >>> ((11 : Int32) &&& 0x3f).toInt64.toUInt64).toInt64) &&& (15 : Int64))), .second, .val (.long ta), .second, .val (.long tb), .second, .val (.long tc), .second, .val (.long ea), .second, .val (.long eb), .second, .val (.long ec), .second, .val (.long (own_fd ta g)), .second, .val (.long (own_fd tb g)), .second, .val (.long (own_fd tc g)), .second, .val (.long fh), .second, .val (.ref b20), .val (.long ((((0 : Int64) + ea) + eb) + ec)), .second, .val (.long ((if (own_fd tb g) < fh then (if (own_fd ta g) < fh then (0 : Int64) else ((0 : Int64) + ea)) else ((if (own_fd ta g) < fh then (0 : Int64) else ((0 : Int64) + ea)) + eb)) + ec)), .second]) rfl ?_
                simp only [if_neg hc142] at k; exact k)
            have f145 : Exa Z T139.heap b20 "com/example/okno/okno/AdmissionLog" := (f140.keep Kq139)
            obtain ⟨cq144, kq144, q144a, q144b, q144c⟩ := isOf hZ rfl f145
            obtain ⟨_, _, ⟨T144, L144, k144, n144⟩, -, X144, ⟨Lc144, hQ144, l144, y144, z144⟩, st144⟩ := X139.virtualBack hx (y := (⟨"com/example/okno/okno/AdmissionLog", "fitShorterWindow", "(IJ)V"⟩ : MethodName)) (z := (⟨"com/example/okno/okno/AdmissionLog", "fitShorterWindow", "(IJ)V"⟩ : MethodName)) hown (mvT hZ (kw54 hw)) (mvT hZ (kw55 hw)) (notFace_of_selects (args := #[]) (mvT hZ (kw57 hw))) (mvT hZ (kw57 hw)) (mvT hZ (kw56 hw)) (by decide) (backOf (W := 0) (rmFit_25 l Z a0 hw [] b20 wv fh fr0_21 fk0_21 ([(.long (((0 : Int64) + (((0 : Int64) + ea) - (0 : Int64))) + ((((0 : Int64) + ea) + eb) - ((0 : Int64) + (((0 : Int64) + ea) - (0 : Int64)))))), (.long (3 : Int64)), (.long (((0 : Int64) + (((0 : Int64) + ea) - (0 : Int64))) + ((((0 : Int64) + ea) + eb) - ((0 : Int64) + (((0 : Int64) + ea) - (0 : Int64)))))), (.long (3 : Int64))]) (((0 : Int64) + (((0 : Int64) + ea) - (0 : Int64))) + ((((0 : Int64) + ea) + eb) - ((0 : Int64) + (((0 : Int64) + ea) - (0 : Int64))))) (own_fd tc g) (own_fd ta g) (own_fd tb g) (((0 : Int64) + ea) - (0 : Int64)) ((((0 : Int64) + ea) + eb) - ((0 : Int64) + (((0 : Int64) + ea) - (0 : Int64)))) ((((0 : Int64) + ea) + eb) + ec) (0 : Int64) (0 : Int64) (0 : Int64) (0 : Int64) fr0_103 fr1_103 fk0_103 fk1_103 T139.heap n0 Z139 f145 p21_0 (Ne.symm ne21_b20_fr0_21) rfl p139_16 hw01 (by rcases hw01 with q | q <;> rw [q] <;> rfl) (by rcases hw01 with q | q <;> rw [q] <;> rfl) p139_10 (own_bne (own_badd (own_badd (own_badd (by decide : (0 : Int) ≤ (0 : Int64).toInt ∧ (0 : Int64).toInt ≤ 0) hea (by decide) (by decide)) heb (by decide) (by decide)) hec (by decide) (by decide)) (by decide)) p139_9 p139_14 p139_11 p139_15 p139_3 p139_4 p139_0 p139_1 ne103_fr0_21_fr0_103 ne103_fr0_21_fr1_103) hZ (kw58 hw) (kw18 hw) (by decide) (by decide)) q144a q144c (g := (mkF m 272 #[.val (.long q1), .second, .val (.long q2), .second, .val (.int p3), .val (.int p4), .val (.int p5), .val (.long g), .second, .val (.long da), .second, .val (.long db), .second, .val (.int nn), .val (.int wv), .val (.long (((q2.toUInt64 >>> ((11 : Int32) &&& 0x3f).toInt64.toUInt64).toInt64) &&& (15 : Int64))), .second, .val (.long ta), .second, .val (.long tb), .second, .val (.long tc), .second, .val (.long ea), .second, .val (.long eb), .second, .val (.long ec), .second, .val (.long (own_fd ta g)), .second, .val (.long (own_fd tb g)), .second, .val (.long (own_fd tc g)), .second, .val (.long fh), .second, .val (.ref b20), .val (.long ((((0 : Int64) + ea) + eb) + ec)), .second, .val (.long (if (own_fd tc g) < fh then (if (own_fd tb g) < fh then (if (own_fd ta g) < fh then (0 : Int64) else ((0 : Int64) + ea)) else ((if (own_fd ta g) < fh then (0 : Int64) else ((0 : Int64) + ea)) + eb)) else ((if (own_fd tb g) < fh then (if (own_fd ta g) < fh then (0 : Int64) else ((0 : Int64) + ea)) else ((if (own_fd ta g) < fh then (0 : Int64) else ((0 : Int64) + ea)) + eb)) + ec))), .second] [(.long fh), (.int wv), (.ref b20)])) rfl (by rw [hml]; rfl) (Steps.refl _) (argsL := [(.int wv), (.long fh)]) (rest := []) (lenOf pd_6 rfl) rfl (by show 2 * 0 + _ ≤ _; exact Nat.le_of_eq rfl) (hb hby at_272) (fun _ _ => ⟨rfl, rfl, (by decide : 4 + 0 ≤ _), (by decide : 30 + 0 ≤ _)⟩)
            dsimp only [Pt.U, Pt.locs, Pt.cells, Pt.slots] at X144 l144 y144 z144 st144 hQ144
            subst l144 y144 z144
            obtain ⟨rfl, N144q, Kq144, p144_0⟩ := hQ144
            have N144 := Fr.app N139 N144q
            have Z144 : n0 ≤ T144.heap.size := Nat.le_trans Z139 Kq144.1
            have K144 : Keep h0 T144.heap [] := K139.trans Kq144 (allS (Or.inr sz_fr0_21) all0)
            have f147 : Fld Z T144.heap b20 "com/example/okno/okno/AdmissionLog" "shorterWindows" "[J" (.ref fr0_21) := (p139_9.keep Kq144 (ninS ne21_b20_fr0_21 nin0))
            have f148 : Fld Z T144.heap b20 "com/example/okno/okno/AdmissionLog" "total" "J" (.long ((((0 : Int64) + ea) + eb) + ec)) := (p139_10.keep Kq144 (ninS ne21_b20_fr0_21 nin0))
            have f149 : Fld Z T144.heap b20 "com/example/okno/okno/AdmissionLog" "olderTotal" "J" (.long (((0 : Int64) + (((0 : Int64) + ea) - (0 : Int64))) + ((((0 : Int64) + ea) + eb) - ((0 : Int64) + (((0 : Int64) + ea) - (0 : Int64)))))) := (p139_13.keep Kq144 (ninS ne21_b20_fr0_21 nin0))
            have f150 : Exa Z T144.heap b20 "com/example/okno/okno/AdmissionLog" := (f145.keep Kq144)
            obtain ⟨cq146, kq146, q146a, q146b, q146c⟩ := isOf hZ rfl f150
            obtain ⟨_, _, ⟨T146, L146, k146, n146⟩, -, X146, ⟨Lc146, hQ146, l146, y146, z146⟩, st146⟩ := X144.virtualBack hx (y := (⟨"com/example/okno/okno/AdmissionLog", "shorterTotal", "(I)J"⟩ : MethodName)) (z := (⟨"com/example/okno/okno/AdmissionLog", "shorterTotal", "(I)J"⟩ : MethodName)) hown (mvT hZ (kw70 hw)) (mvT hZ (kw71 hw)) (notFace_of_selects (args := #[]) (mvT hZ (kw73 hw))) (mvT hZ (kw73 hw)) (mvT hZ (kw72 hw)) (by decide) (backOf (W := 0) (rmTot l Z a0 hw [] b20 wv fr0_21 fk0_21 (([(.long (((0 : Int64) + (((0 : Int64) + ea) - (0 : Int64))) + ((((0 : Int64) + ea) + eb) - ((0 : Int64) + (((0 : Int64) + ea) - (0 : Int64)))))), (.long (3 : Int64)), (.long (((0 : Int64) + (((0 : Int64) + ea) - (0 : Int64))) + ((((0 : Int64) + ea) + eb) - ((0 : Int64) + (((0 : Int64) + ea) - (0 : Int64)))))), (.long (3 : Int64))].set (((2 : Int32) * wv)).toNatClampNeg (.long (own_fr2 (((0 : Int64) + (((0 : Int64) + ea) - (0 : Int64))) + ((((0 : Int64) + ea) + eb) - ((0 : Int64) + (((0 : Int64) + ea) - (0 : Int64))))) fh (own_fd tc g) (own_fd ta g) (own_fd tb g) (((0 : Int64) + ea) - (0 : Int64)) ((((0 : Int64) + ea) + eb) - ((0 : Int64) + (((0 : Int64) + ea) - (0 : Int64))))))).set ((((2 : Int32) * wv) + (1 : Int32))).toNatClampNeg (.long (own_fc2 (((0 : Int64) + (((0 : Int64) + ea) - (0 : Int64))) + ((((0 : Int64) + ea) + eb) - ((0 : Int64) + (((0 : Int64) + ea) - (0 : Int64))))) fh (own_fd tc g) (own_fd ta g) (own_fd tb g) (((0 : Int64) + ea) - (0 : Int64)) ((((0 : Int64) + ea) + eb) - ((0 : Int64) + (((0 : Int64) + ea) - (0 : Int64))))))) (own_fr2 (((0 : Int64) + (((0 : Int64) + ea) - (0 : Int64))) + ((((0 : Int64) + ea) + eb) - ((0 : Int64) + (((0 : Int64) + ea) - (0 : Int64))))) fh (own_fd tc g) (own_fd ta g) (own_fd tb g) (((0 : Int64) + ea) - (0 : Int64)) ((((0 : Int64) + ea) + eb) - ((0 : Int64) + (((0 : Int64) + ea) - (0 : Int64))))) (own_fc2 (((0 : Int64) + (((0 : Int64) + ea) - (0 : Int64))) + ((((0 : Int64) + ea) + eb) - ((0 : Int64) + (((0 : Int64) + ea) - (0 : Int64))))) fh (own_fd tc g) (own_fd ta g) (own_fd tb g) (((0 : Int64) + ea) - (0 : Int64)) ((((0 : Int64) + ea) + eb) - ((0 : Int64) + (((0 : Int64) + ea) - (0 : Int64))))) ((((0 : Int64) + ea) + eb) + ec) (((0 : Int64) + (((0 : Int64) + ea) - (0 : Int64))) + ((((0 : Int64) + ea) + eb) - ((0 : Int64) + (((0 : Int64) + ea) - (0 : Int64))))) T144.heap n0 Z144 f147 p144_0 f148 f149 hw01 (by rcases hw01 with q | q <;> rw [q] <;> rfl) (by rcases hw01 with q | q <;> rw [q] <;> rfl)) hZ (kw74 hw) (kw18 hw) (by decide) (by decide)) q146a q146c (g := (mkF m 279 #[.val (.long q1), .second, .val (.long q2), .second, .val (.int p3), .val (.int p4), .val (.int p5), .val (.long g), .second, .val (.long da), .second, .val (.long db), .second, .val (.int nn), .val (.int wv), .val (.long (((q2.toUInt64 >>> ((11 : Int32) &&& 0x3f).toInt64.toUInt64).toInt64) &&& (15 : Int64))), .second, .val (.long ta), .second, .val (.long tb), .second, .val (.long tc), .second, .val (.long ea), .second, .val (.long eb), .second, .val (.long ec), .second, .val (.long (own_fd ta g)), .second, .val (.long (own_fd tb g)), .second, .val (.long (own_fd tc g)), .second, .val (.long fh), .second, .val (.ref b20), .val (.long ((((0 : Int64) + ea) + eb) + ec)), .second, .val (.long (if (own_fd tc g) < fh then (if (own_fd tb g) < fh then (if (own_fd ta g) < fh then (0 : Int64) else ((0 : Int64) + ea)) else ((if (own_fd ta g) < fh then (0 : Int64) else ((0 : Int64) + ea)) + eb)) else ((if (own_fd tb g) < fh then (if (own_fd ta g) < fh then (0 : Int64) else ((0 : Int64) + ea)) else ((if (own_fd ta g) < fh then (0 : Int64) else ((0 : Int64) + ea)) + eb)) + ec))), .second] [(.int wv), (.ref b20)])) rfl (by rw [hml]; rfl) (Steps.refl _) (argsL := [(.int wv)]) (rest := []) (lenOf pd_1 rfl) rfl (by show 2 * 0 + _ ≤ _; exact Nat.le_of_eq rfl) (hb hby at_279) (fun _ _ => ⟨rfl, rfl, (by decide : 4 + 0 ≤ _), (by decide : 30 + 0 ≤ _)⟩)
            dsimp only [Pt.U, Pt.locs, Pt.cells, Pt.slots] at X146 l146 y146 z146 st146 hQ146
            subst l146 y146 z146
            obtain ⟨rfl, N146q, e146⟩ := hQ146
            have N146 := Fr.app N144 N146q
            obtain ⟨cq151, kq151, q151a, q151b, q151c⟩ := isOf hZ e146 f150
            obtain ⟨_, _, ⟨T151, L151, k151, n151⟩, -, X151, ⟨Lc151, hQ151, l151, y151, z151⟩, st151⟩ := X146.virtualBack hx (y := (⟨"com/example/okno/okno/AdmissionLog", "shorterTotal", "(I)J"⟩ : MethodName)) (z := (⟨"com/example/okno/okno/AdmissionLog", "shorterTotal", "(I)J"⟩ : MethodName)) hown (mvT hZ (kw70 hw)) (mvT hZ (kw71 hw)) (notFace_of_selects (args := #[]) (mvT hZ (kw73 hw))) (mvT hZ (kw73 hw)) (mvT hZ (kw72 hw)) (by decide) (backOf (W := 0) (rmTot l Z a0 hw [] b20 ((1 : Int32) - wv) fr0_21 fk0_21 (([(.long (((0 : Int64) + (((0 : Int64) + ea) - (0 : Int64))) + ((((0 : Int64) + ea) + eb) - ((0 : Int64) + (((0 : Int64) + ea) - (0 : Int64)))))), (.long (3 : Int64)), (.long (((0 : Int64) + (((0 : Int64) + ea) - (0 : Int64))) + ((((0 : Int64) + ea) + eb) - ((0 : Int64) + (((0 : Int64) + ea) - (0 : Int64)))))), (.long (3 : Int64))].set (((2 : Int32) * wv)).toNatClampNeg (.long (own_fr2 (((0 : Int64) + (((0 : Int64) + ea) - (0 : Int64))) + ((((0 : Int64) + ea) + eb) - ((0 : Int64) + (((0 : Int64) + ea) - (0 : Int64))))) fh (own_fd tc g) (own_fd ta g) (own_fd tb g) (((0 : Int64) + ea) - (0 : Int64)) ((((0 : Int64) + ea) + eb) - ((0 : Int64) + (((0 : Int64) + ea) - (0 : Int64))))))).set ((((2 : Int32) * wv) + (1 : Int32))).toNatClampNeg (.long (own_fc2 (((0 : Int64) + (((0 : Int64) + ea) - (0 : Int64))) + ((((0 : Int64) + ea) + eb) - ((0 : Int64) + (((0 : Int64) + ea) - (0 : Int64))))) fh (own_fd tc g) (own_fd ta g) (own_fd tb g) (((0 : Int64) + ea) - (0 : Int64)) ((((0 : Int64) + ea) + eb) - ((0 : Int64) + (((0 : Int64) + ea) - (0 : Int64))))))) (((0 : Int64) + (((0 : Int64) + ea) - (0 : Int64))) + ((((0 : Int64) + ea) + eb) - ((0 : Int64) + (((0 : Int64) + ea) - (0 : Int64))))) (3 : Int64) ((((0 : Int64) + ea) + eb) + ec) (((0 : Int64) + (((0 : Int64) + ea) - (0 : Int64))) + ((((0 : Int64) + ea) + eb) - ((0 : Int64) + (((0 : Int64) + ea) - (0 : Int64))))) T144.heap n0 Z144 f147 p144_0 f148 f149 (own_1w hw01) (by rcases hw01 with q | q <;> rw [q] <;> rfl) (by rcases hw01 with q | q <;> rw [q] <;> rfl)) hZ (kw74 hw) (kw18 hw) (by decide) (by decide)) q151a q151c (g := (mkF m 294 #[.val (.long q1), .second, .val (.long q2), .second, .val (.int p3), .val (.int p4), .val (.int p5), .val (.long g), .second, .val (.long da), .second, .val (.long db), .second, .val (.int nn), .val (.int wv), .val (.long (((q2.toUInt64 >>> ((11 : Int32) &&& 0x3f).toInt64.toUInt64).toInt64) &&& (15 : Int64))), .second, .val (.long ta), .second, .val (.long tb), .second, .val (.long tc), .second, .val (.long ea), .second, .val (.long eb), .second, .val (.long ec), .second, .val (.long (own_fd ta g)), .second, .val (.long (own_fd tb g)), .second, .val (.long (own_fd tc g)), .second, .val (.long fh), .second, .val (.ref b20), .val (.long ((((0 : Int64) + ea) + eb) + ec)), .second, .val (.long (if (own_fd tc g) < fh then (if (own_fd tb g) < fh then (if (own_fd ta g) < fh then (0 : Int64) else ((0 : Int64) + ea)) else ((if (own_fd ta g) < fh then (0 : Int64) else ((0 : Int64) + ea)) + eb)) else ((if (own_fd tb g) < fh then (if (own_fd ta g) < fh then (0 : Int64) else ((0 : Int64) + ea)) else ((if (own_fd ta g) < fh then (0 : Int64) else ((0 : Int64) + ea)) + eb)) + ec))), .second] [(.int ((1 : Int32) - wv)), (.ref b20)])) rfl (by rw [hml]; rfl) (Steps.refl _) (argsL := [(.int ((1 : Int32) - wv))]) (rest := []) (lenOf pd_1 rfl) rfl (by show 2 * 0 + _ ≤ _; exact Nat.le_of_eq rfl) (hb hby at_294) (fun _ _ => ⟨rfl, e146, (by decide : 4 + 0 ≤ _), (by decide : 30 + 0 ≤ _)⟩)
            dsimp only [Pt.U, Pt.locs, Pt.cells, Pt.slots] at X151 l151 y151 z151 st151 hQ151
            subst l151 y151 z151
            obtain ⟨rfl, N151q, e151⟩ := hQ151
            have N151 := Fr.app N146 N151q
            obtain ⟨fs, hr, hrun, hended, hW, hsame⟩ := X151.leave (v := some (.int (1 : Int32))) (fun h => by rw [Bd.returns] at h; cases h)
            refine ⟨_, _, pre143 _ ?_, hrun, hended, _, _, rfl, ?_, ⟨_, rfl⟩, hW, hsame.mono (by decide) (by decide)⟩
            · skip
              refine XS.aload X139.here hx rfl (hb hby at_266) rfl rfl ?_
              refine XS.iload X139.here hx rfl (hb hby at_268) rfl ?_
              refine XS.lload X139.here hx rfl (hb hby at_270) rfl ?_
              refine st144.trans ?_
              refine XS.aload X144.here hx rfl (hb hby at_275) rfl rfl ?_
              refine XS.iload X144.here hx rfl (hb hby at_277) rfl ?_
              refine st146.trans ?_
              refine XS.lload X146.here hx rfl (hb hby at_282) rfl ?_
              refine XS.lcmp X146.here hx rfl (hb hby at_284) rfl ?_
              refine XS.ifNo X146.here hx rfl (hb hby at_285) rfl ((if0 _ _).trans (teq ((lw_eq _ _).mpr (own_fin14 (own_fd ta g) (own_fd tb g) (own_fd tc g) ea eb ec fh hm1 hm2))).2) ?_
              refine XS.aload X146.here hx rfl (hb hby at_288) rfl rfl ?_
              refine XS.iconst X146.here hx rfl (hb hby at_290) ?_
              refine XS.iload X146.here hx rfl (hb hby at_291) rfl ?_
              refine XS.isub X146.here hx rfl (hb hby at_293) rfl ?_
              refine st151.trans ?_
              refine XS.lload X151.here hx rfl (hb hby at_297) rfl ?_
              refine XS.lcmp X151.here hx rfl (hb hby at_299) rfl ?_
              refine XS.ifNo X151.here hx rfl (hb hby at_300) rfl ((if0 _ _).trans (teq ((lw_eq _ _).mpr (own_fin15 (own_fd ta g) (own_fd tb g) (own_fd tc g) ea eb ec fh hm1 hm2))).2) ?_
              refine XS.iconst X151.here hx rfl (hb hby at_303) ?_
              refine XS.goto X151.here hx rfl (pc0 := 304) (pc' := 308) rfl (hb hby at_304) (by decide) (by decide) ?_
              show Steps p.tables e below (T151.setTop (mkF m 308 #[.val (.long q1), .second, .val (.long q2), .second, .val (.int p3), .val (.int p4), .val (.int p5), .val (.long g), .second, .val (.long da), .second, .val (.long db), .second, .val (.int nn), .val (.int wv), .val (.long (((q2.toUInt64 >>> ((11 : Int32) &&& 0x3f).toInt64.toUInt64).toInt64) &&& (15 : Int64))), .second, .val (.long ta), .second, .val (.long tb), .second, .val (.long tc), .second, .val (.long ea), .second, .val (.long eb), .second, .val (.long ec), .second, .val (.long (own_fd ta g)), .second, .val (.long (own_fd tb g)), .second, .val (.long (own_fd tc g)), .second, .val (.long fh), .second, .val (.ref b20), .val (.long ((((0 : Int64) + ea) + eb) + ec)), .second, .val (.long (if (own_fd tc g) < fh then (if (own_fd tb g) < fh then (if (own_fd ta g) < fh then (0 : Int64) else ((0 : Int64) + ea)) else ((if (own_fd ta g) < fh then (0 : Int64) else ((0 : Int64) + ea)) + eb)) else ((if (own_fd tb g) < fh then (if (own_fd ta g) < fh then (0 : Int64) else ((0 : Int64) + ea)) else ((if (own_fd ta g) < fh then (0 : Int64) else ((0 : Int64) + ea)) + eb)) + ec))), .second] [(.int (1 : Int32))])) _
              exact retN X151 hx (t := .boolean) Bd.returns (by simp) (hb hby at_308) hr
            · show Q_rm0 Z q1 q2 p3 p4 p5 w_NO_ENTRIES kn h0 n0 _ T151.heap _
              rw [e151]
              exact ⟨rfl, N151, K144⟩
set_option maxRecDepth 65536 in
set_option maxHeartbeats 40000000 in
theorem comes_1 {Post : Tables → Env → Array Value → State → Outcome → State → Prop} (hpost : ∀ tb e args s v u, (limb_1_1.after args s (.returned v) u = true ∧ limb_1_2.after args s (.returned v) u = true ∧ True) → FrameEnd s (.returned v) u (Jvm.fieldLocs frame_1_writes args s ++ Jvm.arrayLocs frame_1_arrays args s ++ Jvm.staticLocs frame_1_statics s) 16 128 → Post tb e args s (.returned v) u) :
    ArmFor flags0 classFile x code maxLocals ret World_1 tables_1 room_1 Calls_1 rest_1 Pre_1 Post := by
  intro l hfl _ _ p e ha hc hk s m args below hf hA hF happ hP
  obtain ⟨hcalls, hrest, hpre⟩ := hP
  obtain ⟨-, -, -, hnamed, -, -, -, hat⟩ := (Spec.applies_iff hf).mp happ
  obtain ⟨hg, hn⟩ := and_e (Cond.before_iff.mp (show (Jvm.Cond.and given_1 narrow_1).before args s = true from hpre))
  obtain ⟨g1, g2⟩ := and_e hg
  obtain ⟨g3, g4⟩ := and_e g2
  obtain ⟨g5, g6⟩ := and_e g4
  obtain ⟨g7, g8⟩ := and_e g6
  obtain ⟨g9, g10⟩ := and_e g8
  obtain ⟨g11, g12⟩ := and_e hn
  obtain ⟨w0, w1, w2, w3, w4, rfl⟩ : ∃ w0 w1 w2 w3 w4 : Value, args = #[w0, w1, w2, w3, w4] := by
    have hs : args.size = 5 := by simpa [Cond.value, given_1] using g1
    obtain ⟨L⟩ := args
    match L, hs with
    | [w0, w1, w2, w3, w4], _ => exact ⟨w0, w1, w2, w3, w4, rfl⟩
  have hw0 := fun d (hd : d ∈ tables_1) => atoms_spec (ws := Jvm.Cond.code x code maxLocals ret :: tables_1) hat d (List.mem_cons_of_mem _ hd)
  have hfit : Fit s := fun {y c} hc i hi => by
    obtain ⟨ha, rfl⟩ := Array.getElem?_eq_some_iff.mp hc
    have q := List.all_eq_true.mp ((Array.all_eq_true_iff_forall_mem.mp hF) _ (Array.getElem_mem ha)) i (List.mem_range.mpr hi)
    simpa [Array.getElem?_eq_getElem hi] using q
  have hw := hw0
  obtain ⟨i0, ei0⟩ := isL_v g3
  obtain rfl : w0 = (.long i0) := Option.some.inj ei0
  obtain ⟨i1, ei1⟩ := isL_v g5
  obtain rfl : w1 = (.long i1) := Option.some.inj ei1
  obtain ⟨i2, ei2⟩ := is_v g7
  obtain rfl : w2 = (.int i2) := Option.some.inj ei2
  obtain ⟨i3, ei3⟩ := is_v g9
  obtain rfl : w3 = (.int i3) := Option.some.inj ei3
  obtain ⟨i4, ei4⟩ := is_v g10
  obtain rfl : w4 = (.int i4) := Option.some.inj ei4
  obtain ⟨w_NO_ENTRIES, ev_w_NO_ENTRIES⟩ := arr_v g11
  have S_w_NO_ENTRIES := Sta.start ev_w_NO_ENTRIES (Or.inr ⟨(kw18 hw), (kw34 hw)⟩)
  obtain ⟨cl_w_NO_ENTRIES, Ar_w_NO_ENTRIES⟩ := Arr.start ev_w_NO_ENTRIES g11
  have ln_w_NO_ENTRIES := own_len0 hfit ev_w_NO_ENTRIES Ar_w_NO_ENTRIES g12
  obtain ⟨n, o, h1, h2, h3, _, L, rfl, ⟨rfl, N, -⟩, hq⟩ := rm0 l s _ hw tables_1 i0 i1 i2 i3 i4 w_NO_ENTRIES cl_w_NO_ENTRIES.cls s.heap s.heap.size (Nat.le_refl _) (Old.start s) S_w_NO_ENTRIES ln_w_NO_ENTRIES p e ha hc hk s m _ below hf ((Spec.applies_iff_loose hf).mp happ).1 ⟨rfl, State.Warmed39.refl s, rfl⟩ trivial
  refine ⟨n, _, h1, h2, h3, hpost _ _ _ _ _ _ ⟨Cond.after_iff.mpr rfl, Cond.after_iff.mpr (eq_i res_at (Term.int_eval (1)) rfl), trivial⟩ ⟨hq.1, hq.2.1, (hq.2.2.sift fun y hy => Or.inr (N y hy)).mono (by decide) (by decide)⟩⟩
theorem main_1_1 : Claimed_1_1 := comes_1 fun _ _ _ _ _ _ h hF => ⟨h.1, hF⟩
theorem main_1_2 : Claimed_1_2 := comes_1 fun _ _ _ _ _ _ h hF => ⟨h.2.1, hF⟩
end Jvm.Pilot.@@N@@
namespace Jvm.Pilot.@@N@@
open Jvm Jvm.ClassFile Sem Op Lib Jvm.Free Jvm.Stand Jvm.Pilot.@@N@@.Jvm.D
/-! MADE BY PROGRAM (witnessworld.py) out of the Statement's table words and the real class files: 13 classes; the members and pool entries that the words name. The judged class is class 1, her method 3. -/
namespace start1
open Jvm.ClassFile
def u (s : String) : CpInfo := .utf8 (stringToUtf16 s)
/-- a pool by its gaps: so many unusable entries, then the entry; so many at the end -/
def gap : Nat → List CpInfo → List CpInfo
  | 0, r => r
  | n + 1, r => .unusable :: gap n r
def poolList (es : List (Nat × CpInfo)) (last : Nat) : List CpInfo := es.foldr (fun e r => gap e.1 (e.2 :: r)) (gap last [])
def pool (es : List (Nat × CpInfo)) (last : Nat) : Array CpInfo := ⟨poolList es last⟩
def fileOf (pool : Array CpInfo) (this : Nat) (attrs : Array Attribute := #[]) (ms : Array MethodInfo := #[]) (fl : Nat := 33) (sup : Nat := 0) (ifs : Array Nat := #[]) (fds : Array FieldInfo := #[]) : ClassFile where
  minorVersion := 0
  majorVersion := 65
  constantPool := pool
  accessFlags := fl
  thisClass := this
  superClass := sup
  interfaces := ifs
  fields := fds
  methods := ms
  attributes := attrs
def plain (name : String) (sup : Option ClassId) : Class where
  name := name
  kind := .ordinary
  loader := none
  accessFlags := 33
  super := sup
  interfaces := #[]
  cf := none
  fields := #[]
  methods := #[]
  instanceTypes := #[]
  staticTypes := #[]
  resolved := #[]
  callSites := []
  init := .initialized
  statics := none
  mirror := none

def pool0 : Array CpInfo := pool [(5, u "<init>"), (0, u "()V"), (1, .class_ 10), (1, u "java/lang/Object")] 113

def k0c0 : Code := { maxStack := 0, maxLocals := 1, code := object_method_1_code, exceptionTable := #[], attributes := #[] }
def k0m0 : Method := { name := "<init>", desc := "()V", sig := { parameters := [], returnType := none }, accessFlags := 1, code := some k0c0 }
/-- java/lang/Object -/
def k0 : Class := { plain "java/lang/Object" none with
  accessFlags := 33
  interfaces := #[]
  cf := some (fileOf pool0 8 #[] #[{ accessFlags := 1, nameIndex := 5, descriptorIndex := 6, attributes := #[] }] 33 0 #[] #[])
  fields := #[]
  methods := #[k0m0]
  instanceTypes := #[]
  staticTypes := #[]
  resolved := Array.replicate 124 none
  statics := none }

def pool1 : Array CpInfo := pool [(2, .class_ 4), (1, u "java/lang/Object"), (0, u "<init>"), (0, u "()V"), (0, .long 2147483647), (1, .long 3), (1, .long 7), (1, .long 15), (3, .long 9223372036854775743), (1, .methodref 20 21), (0, .class_ 22), (0, .nameAndType 23 24), (0, u "java/lang/Math"), (0, u "min"), (0, u "(JJ)J"), (0, .methodref 26 27), (0, .class_ 28), (0, .nameAndType 29 30), (0, u "com/example/okno/okno/AdmissionLogShorterTotalPinLaw"), (0, u "amountOf"), (0, u "(I)J"), (0, .methodref 26 32), (0, .nameAndType 33 24), (0, u "floorDivPositive"), (0, .class_ 35), (0, u "com/example/okno/okno/AdmissionLog"), (0, .methodref 34 37), (0, .nameAndType 5 38), (0, u "(JI)V"), (0, .methodref 34 40), (0, .nameAndType 41 42), (0, u "append"), (0, u "(JJ)V"), (0, .methodref 34 44), (0, .nameAndType 45 46), (0, u "fitShorterWindow"), (0, u "(IJ)V"), (0, .methodref 34 48), (0, .nameAndType 49 30), (0, u "shorterTotal"), (3, u "law"), (0, u "(JJIII)Z")] 2

def k1m0 : Method := { name := "<init>", desc := "()V", sig := { parameters := [], returnType := none }, accessFlags := 1, code := none }
def k1c1 : Code := { maxStack := 4, maxLocals := 6, code := method_2_code, exceptionTable := #[], attributes := #[] }
def k1m1 : Method := { name := "floorDivPositive", desc := "(JJ)J", sig := { parameters := [.long, .long], returnType := some .long }, accessFlags := 10, code := some k1c1 }
def k1c2 : Code := { maxStack := 4, maxLocals := 1, code := method_3_code, exceptionTable := #[], attributes := #[] }
def k1m2 : Method := { name := "amountOf", desc := "(I)J", sig := { parameters := [.int], returnType := some .long }, accessFlags := 10, code := some k1c2 }
def k1c3 : Code := { maxStack := 6, maxLocals := 42, code := code, exceptionTable := #[], attributes := #[] }
def k1m3 : Method := { name := "law", desc := "(JJIII)Z", sig := { parameters := [.long, .long, .int, .int, .int], returnType := some .boolean }, accessFlags := 9, code := some k1c3 }
/-- com/example/okno/okno/AdmissionLogShorterTotalPinLaw -/
def k1 : Class := { plain "com/example/okno/okno/AdmissionLogShorterTotalPinLaw" (some 0) with
  accessFlags := 49
  interfaces := #[]
  cf := some (fileOf pool1 26 #[] #[{ accessFlags := 1, nameIndex := 5, descriptorIndex := 6, attributes := #[] }, { accessFlags := 10, nameIndex := 33, descriptorIndex := 24, attributes := #[] }, { accessFlags := 10, nameIndex := 29, descriptorIndex := 30, attributes := #[] }, { accessFlags := 9, nameIndex := 53, descriptorIndex := 54, attributes := #[] }] 49 2 #[] #[])
  fields := #[]
  methods := #[k1m0, k1m1, k1m2, k1m3]
  instanceTypes := #[]
  staticTypes := #[]
  resolved := Array.replicate 57 none
  statics := none }

def pool2 : Array CpInfo := pool [(1, .class_ 2), (0, u "java/lang/Math"), (1, .class_ 6), (1, u "java/lang/Object"), (0, u "<init>"), (0, u "()V"), (89, .class_ 100), (1, u "java/lang/Math$RandomNumberGeneratorHolder"), (20, u "(JJ)J"), (23, u "floorDiv"), (26, u "negativeZeroFloatBits"), (0, u "J"), (2, u "negativeZeroDoubleBits"), (21, u "max"), (2, u "min"), (43, u "$assertionsDisabled"), (0, u "Z"), (88, u "(II)I"), (2, u "twoToTheDoubleScaleDown"), (0, u "D"), (4, u "twoToTheDoubleScaleUp"), (9, u "E"), (3, u "PI"), (2, u "TAU"), (2, u "DEGREES_TO_RADIANS"), (0, u "RADIANS_TO_DEGREES"), (27, u "addExact")] 66

def k2m0 : Method := { name := "<init>", desc := "()V", sig := { parameters := [], returnType := none }, accessFlags := 2, code := none }
def k2c1 : Code := { maxStack := 6, maxLocals := 6, code := jdk_29_method_25_code, exceptionTable := #[], attributes := #[] }
def k2m1 : Method := { name := "addExact", desc := "(JJ)J", sig := { parameters := [.long, .long], returnType := some .long }, accessFlags := 9, code := some k2c1 }
def k2c2 : Code := { maxStack := 4, maxLocals := 6, code := jdk_29_method_49_code, exceptionTable := #[], attributes := #[] }
def k2m2 : Method := { name := "floorDiv", desc := "(JJ)J", sig := { parameters := [.long, .long], returnType := some .long }, accessFlags := 9, code := some k2c2 }
def k2c3 : Code := { maxStack := 2, maxLocals := 2, code := jdk_29_method_65_code, exceptionTable := #[], attributes := #[] }
def k2m3 : Method := { name := "max", desc := "(II)I", sig := { parameters := [.int, .int], returnType := some .int }, accessFlags := 9, code := some k2c3 }
def k2c4 : Code := { maxStack := 4, maxLocals := 4, code := jdk_29_method_70_code, exceptionTable := #[], attributes := #[] }
def k2m4 : Method := { name := "min", desc := "(JJ)J", sig := { parameters := [.long, .long], returnType := some .long }, accessFlags := 9, code := some k2c4 }
/-- java/lang/Math -/
def k2 : Class := { plain "java/lang/Math" (some 0) with
  accessFlags := 49
  interfaces := #[]
  cf := some (fileOf pool2 1 #[.nestMembers #[98]] #[{ accessFlags := 2, nameIndex := 7, descriptorIndex := 8, attributes := #[] }, { accessFlags := 9, nameIndex := 393, descriptorIndex := 121, attributes := #[] }, { accessFlags := 9, nameIndex := 145, descriptorIndex := 121, attributes := #[] }, { accessFlags := 9, nameIndex := 198, descriptorIndex := 335, attributes := #[] }, { accessFlags := 9, nameIndex := 201, descriptorIndex := 121, attributes := #[] }] 49 4 #[] #[{ accessFlags := 25, nameIndex := 354, descriptorIndex := 339, attributes := #[] }, { accessFlags := 25, nameIndex := 358, descriptorIndex := 339, attributes := #[] }, { accessFlags := 25, nameIndex := 361, descriptorIndex := 339, attributes := #[] }, { accessFlags := 26, nameIndex := 364, descriptorIndex := 339, attributes := #[] }, { accessFlags := 26, nameIndex := 365, descriptorIndex := 339, attributes := #[] }, { accessFlags := 26, nameIndex := 172, descriptorIndex := 173, attributes := #[] }, { accessFlags := 26, nameIndex := 176, descriptorIndex := 173, attributes := #[] }, { accessFlags := 8, nameIndex := 344, descriptorIndex := 339, attributes := #[] }, { accessFlags := 8, nameIndex := 338, descriptorIndex := 339, attributes := #[] }, { accessFlags := 4120, nameIndex := 245, descriptorIndex := 246, attributes := #[] }])
  fields := #[{ name := "E", type := .double, accessFlags := 25, slot := 0, constantValue := 0 }, { name := "PI", type := .double, accessFlags := 25, slot := 1, constantValue := 0 }, { name := "TAU", type := .double, accessFlags := 25, slot := 2, constantValue := 0 }, { name := "DEGREES_TO_RADIANS", type := .double, accessFlags := 26, slot := 3, constantValue := 0 }, { name := "RADIANS_TO_DEGREES", type := .double, accessFlags := 26, slot := 4, constantValue := 0 }, { name := "negativeZeroFloatBits", type := .long, accessFlags := 26, slot := 5, constantValue := 0 }, { name := "negativeZeroDoubleBits", type := .long, accessFlags := 26, slot := 6, constantValue := 0 }, { name := "twoToTheDoubleScaleUp", type := .double, accessFlags := 8, slot := 7, constantValue := 0 }, { name := "twoToTheDoubleScaleDown", type := .double, accessFlags := 8, slot := 8, constantValue := 0 }, { name := "$assertionsDisabled", type := .boolean, accessFlags := 4120, slot := 9, constantValue := 0 }]
  methods := #[k2m0, k2m1, k2m2, k2m3, k2m4]
  instanceTypes := #[]
  staticTypes := #[.double, .double, .double, .double, .double, .long, .long, .double, .double, .boolean]
  resolved := Array.replicate 460 none
  statics := none }

def pool3 : Array CpInfo := pool [(1, .methodref 2 3), (0, .class_ 4), (0, .nameAndType 5 6), (0, u "java/lang/Object"), (0, u "<init>"), (0, u "()V"), (11, .class_ 20), (1, u "com/example/okno/okno/KeyTurn"), (0, u "STATE"), (0, u "Ljava/lang/invoke/VarHandle;"), (65, u "state"), (19, u "FREE"), (0, u "J"), (3, u "DROPPED"), (0, u "SPIN_NANOS"), (0, u "FIRST_PAUSE_NANOS"), (0, u "LONGEST_PAUSE_NANOS"), (0, u "SLEEP_NANOS")] 15

def k3c0 : Code := { maxStack := 1, maxLocals := 1, code := prog_8_method_1_code, exceptionTable := #[], attributes := #[] }
def k3m0 : Method := { name := "<init>", desc := "()V", sig := { parameters := [], returnType := none }, accessFlags := 0, code := some k3c0 }
/-- com/example/okno/okno/KeyTurn -/
def k3 : Class := { plain "com/example/okno/okno/KeyTurn" (some 0) with
  accessFlags := 1056
  interfaces := #[]
  cf := some (fileOf pool3 18 #[] #[{ accessFlags := 0, nameIndex := 5, descriptorIndex := 6, attributes := #[] }] 1056 2 #[] #[{ accessFlags := 26, nameIndex := 108, descriptorIndex := 109, attributes := #[] }, { accessFlags := 26, nameIndex := 113, descriptorIndex := 109, attributes := #[] }, { accessFlags := 26, nameIndex := 114, descriptorIndex := 109, attributes := #[] }, { accessFlags := 26, nameIndex := 115, descriptorIndex := 109, attributes := #[] }, { accessFlags := 26, nameIndex := 116, descriptorIndex := 109, attributes := #[] }, { accessFlags := 26, nameIndex := 117, descriptorIndex := 109, attributes := #[] }, { accessFlags := 26, nameIndex := 21, descriptorIndex := 22, attributes := #[] }, { accessFlags := 66, nameIndex := 88, descriptorIndex := 109, attributes := #[] }])
  fields := #[{ name := "FREE", type := .long, accessFlags := 26, slot := 0, constantValue := 0 }, { name := "DROPPED", type := .long, accessFlags := 26, slot := 1, constantValue := 0 }, { name := "SPIN_NANOS", type := .long, accessFlags := 26, slot := 2, constantValue := 0 }, { name := "FIRST_PAUSE_NANOS", type := .long, accessFlags := 26, slot := 3, constantValue := 0 }, { name := "LONGEST_PAUSE_NANOS", type := .long, accessFlags := 26, slot := 4, constantValue := 0 }, { name := "SLEEP_NANOS", type := .long, accessFlags := 26, slot := 5, constantValue := 0 }, { name := "STATE", type := (.object "java/lang/invoke/VarHandle"), accessFlags := 26, slot := 6, constantValue := 0 }, { name := "state", type := .long, accessFlags := 66, slot := 0, constantValue := 0 }]
  methods := #[k3m0]
  instanceTypes := #[.long]
  staticTypes := #[.long, .long, .long, .long, .long, .long, (.object "java/lang/invoke/VarHandle")]
  resolved := Array.replicate 133 none
  statics := none }

def pool4 : Array CpInfo := pool [(1, .methodref 2 3), (0, .class_ 4), (0, .nameAndType 5 6), (0, u "com/example/okno/okno/KeyTurn"), (0, u "<init>"), (0, u "()V"), (2, .long 9223372036854775808), (1, .fieldref 12 13), (0, .class_ 14), (0, .nameAndType 15 16), (0, u "com/example/okno/okno/AdmissionLog"), (0, u "newest"), (0, u "J"), (0, .fieldref 12 18), (0, .nameAndType 19 20), (0, u "NO_ENTRIES"), (0, u "[J"), (0, .fieldref 12 22), (0, .nameAndType 23 20), (0, u "subWindows"), (0, .fieldref 12 25), (0, .nameAndType 26 20), (0, u "amounts"), (0, .long 9223372036854775807), (1, .fieldref 12 30), (0, .nameAndType 31 16), (0, u "oldestSubWindow"), (0, .fieldref 12 33), (0, .nameAndType 34 16), (0, u "lastTime"), (0, .fieldref 12 36), (0, .nameAndType 37 16), (0, u "subWindowMillis"), (0, .methodref 39 40), (0, .class_ 41), (0, .nameAndType 42 43), (0, u "java/lang/Math"), (0, u "floorDiv"), (0, u "(JJ)J"), (0, .fieldref 12 45), (0, .nameAndType 46 16), (0, u "lastSubWindow"), (0, .fieldref 12 48), (0, .nameAndType 49 20), (0, u "shorterWindows"), (0, .fieldref 12 51), (0, .nameAndType 52 16), (0, u "total"), (0, .fieldref 12 54), (0, .nameAndType 55 16), (0, u "newestSubWindowEnd"), (2, u "steadyOfNewest"), (2, u "callTime"), (2, u "callSteady"), (0, .methodref 39 66), (0, .nameAndType 67 43), (0, u "addExact"), (0, .methodref 12 69), (0, .nameAndType 70 71), (0, u "subWindowOf"), (0, u "(J)J"), (0, .methodref 12 73), (0, .nameAndType 74 75), (0, u "isEmpty"), (0, u "()Z"), (0, .methodref 12 77), (0, .nameAndType 78 79), (0, u "startNewestEntry"), (0, u "(JJ)V"), (0, .methodref 12 81), (0, .nameAndType 82 83), (0, u "countNewEntryInShorterWindows"), (0, u "(J)V"), (0, .fieldref 12 85), (0, .nameAndType 86 16), (0, u "newestSubWindow"), (0, .fieldref 12 88), (0, .nameAndType 89 16), (0, u "olderTotal"), (0, .methodref 12 91), (0, .nameAndType 92 79), (0, u "pushOlder"), (0, .fieldref 12 94), (0, .nameAndType 95 96), (0, u "size"), (0, u "I"), (0, .fieldref 12 98), (0, .nameAndType 99 96), (0, u "head"), (0, .methodref 12 101), (0, .nameAndType 102 103), (0, u "index"), (0, u "(I)I"), (0, .methodref 12 105), (0, .nameAndType 106 107), (0, u "entryCount"), (0, u "()I"), (0, .methodref 12 109), (0, .nameAndType 110 111), (0, u "subWindowAt"), (0, u "(I)J"), (0, .methodref 12 113), (0, .nameAndType 114 111), (0, u "ringAmountAt"), (0, .methodref 12 116), (0, .nameAndType 117 6), (0, u "grow"), (0, .methodref 39 119), (0, .nameAndType 120 121), (0, u "max"), (0, u "(II)I"), (0, u "INITIAL_CAPACITY"), (2, u "(JI)V"), (7, u "append"), (4, u "shorterTotal"), (1, u "fitShorterWindow"), (0, u "(IJ)V")] 3

def k4c0 : Code := { maxStack := 5, maxLocals := 4, code := prog_2_method_1_code, exceptionTable := #[], attributes := #[] }
def k4m0 : Method := { name := "<init>", desc := "(JI)V", sig := { parameters := [.long, .int], returnType := none }, accessFlags := 0, code := some k4c0 }
def k4c1 : Code := { maxStack := 4, maxLocals := 1, code := prog_2_method_3_code, exceptionTable := #[], attributes := #[] }
def k4m1 : Method := { name := "isEmpty", desc := "()Z", sig := { parameters := [], returnType := some .boolean }, accessFlags := 0, code := some k4c1 }
def k4c2 : Code := { maxStack := 5, maxLocals := 3, code := prog_2_method_11_code, exceptionTable := #[], attributes := #[] }
def k4m2 : Method := { name := "subWindowOf", desc := "(J)J", sig := { parameters := [.long], returnType := some .long }, accessFlags := 0, code := some k4c2 }
def k4c3 : Code := { maxStack := 5, maxLocals := 11, code := prog_2_method_12_code, exceptionTable := #[], attributes := #[] }
def k4m3 : Method := { name := "append", desc := "(JJ)V", sig := { parameters := [.long, .long], returnType := none }, accessFlags := 0, code := some k4c3 }
def k4c4 : Code := { maxStack := 4, maxLocals := 4, code := prog_2_method_16_code, exceptionTable := #[], attributes := #[] }
def k4m4 : Method := { name := "shorterTotal", desc := "(I)J", sig := { parameters := [.int], returnType := some .long }, accessFlags := 0, code := some k4c4 }
def k4c5 : Code := { maxStack := 5, maxLocals := 8, code := prog_2_method_18_code, exceptionTable := #[], attributes := #[] }
def k4m5 : Method := { name := "fitShorterWindow", desc := "(IJ)V", sig := { parameters := [.int, .long], returnType := none }, accessFlags := 0, code := some k4c5 }
def k4c6 : Code := { maxStack := 6, maxLocals := 4, code := prog_2_method_19_code, exceptionTable := #[], attributes := #[] }
def k4m6 : Method := { name := "countNewEntryInShorterWindows", desc := "(J)V", sig := { parameters := [.long], returnType := none }, accessFlags := 2, code := some k4c6 }
def k4c7 : Code := { maxStack := 2, maxLocals := 1, code := prog_2_method_20_code, exceptionTable := #[], attributes := #[] }
def k4m7 : Method := { name := "entryCount", desc := "()I", sig := { parameters := [], returnType := some .int }, accessFlags := 2, code := some k4c7 }
def k4c8 : Code := { maxStack := 3, maxLocals := 2, code := prog_2_method_21_code, exceptionTable := #[], attributes := #[] }
def k4m8 : Method := { name := "subWindowAt", desc := "(I)J", sig := { parameters := [.int], returnType := some .long }, accessFlags := 2, code := some k4c8 }
def k4c9 : Code := { maxStack := 3, maxLocals := 2, code := prog_2_method_22_code, exceptionTable := #[], attributes := #[] }
def k4m9 : Method := { name := "ringAmountAt", desc := "(I)J", sig := { parameters := [.int], returnType := some .long }, accessFlags := 2, code := some k4c9 }
def k4c10 : Code := { maxStack := 5, maxLocals := 7, code := prog_2_method_23_code, exceptionTable := #[], attributes := #[] }
def k4m10 : Method := { name := "startNewestEntry", desc := "(JJ)V", sig := { parameters := [.long, .long], returnType := none }, accessFlags := 2, code := some k4c10 }
def k4c11 : Code := { maxStack := 5, maxLocals := 5, code := prog_2_method_24_code, exceptionTable := #[], attributes := #[] }
def k4m11 : Method := { name := "pushOlder", desc := "(JJ)V", sig := { parameters := [.long, .long], returnType := none }, accessFlags := 2, code := some k4c11 }
def k4c12 : Code := { maxStack := 3, maxLocals := 2, code := prog_2_method_25_code, exceptionTable := #[], attributes := #[] }
def k4m12 : Method := { name := "index", desc := "(I)I", sig := { parameters := [.int], returnType := some .int }, accessFlags := 2, code := some k4c12 }
def k4c13 : Code := { maxStack := 5, maxLocals := 5, code := prog_2_method_26_code, exceptionTable := #[], attributes := #[] }
def k4m13 : Method := { name := "grow", desc := "()V", sig := { parameters := [], returnType := none }, accessFlags := 2, code := some k4c13 }
/-- com/example/okno/okno/AdmissionLog -/
def k4 : Class := { plain "com/example/okno/okno/AdmissionLog" (some 3) with
  accessFlags := 32
  interfaces := #[]
  cf := some (fileOf pool4 12 #[] #[{ accessFlags := 0, nameIndex := 5, descriptorIndex := 125, attributes := #[] }, { accessFlags := 0, nameIndex := 74, descriptorIndex := 75, attributes := #[] }, { accessFlags := 0, nameIndex := 70, descriptorIndex := 71, attributes := #[] }, { accessFlags := 0, nameIndex := 133, descriptorIndex := 79, attributes := #[] }, { accessFlags := 0, nameIndex := 138, descriptorIndex := 111, attributes := #[] }, { accessFlags := 0, nameIndex := 140, descriptorIndex := 141, attributes := #[] }, { accessFlags := 2, nameIndex := 82, descriptorIndex := 83, attributes := #[] }, { accessFlags := 2, nameIndex := 106, descriptorIndex := 107, attributes := #[] }, { accessFlags := 2, nameIndex := 110, descriptorIndex := 111, attributes := #[] }, { accessFlags := 2, nameIndex := 114, descriptorIndex := 111, attributes := #[] }, { accessFlags := 2, nameIndex := 78, descriptorIndex := 79, attributes := #[] }, { accessFlags := 2, nameIndex := 92, descriptorIndex := 79, attributes := #[] }, { accessFlags := 2, nameIndex := 102, descriptorIndex := 103, attributes := #[] }, { accessFlags := 2, nameIndex := 117, descriptorIndex := 6, attributes := #[] }] 32 2 #[] #[{ accessFlags := 26, nameIndex := 122, descriptorIndex := 96, attributes := #[] }, { accessFlags := 26, nameIndex := 19, descriptorIndex := 20, attributes := #[] }, { accessFlags := 2, nameIndex := 52, descriptorIndex := 16, attributes := #[] }, { accessFlags := 2, nameIndex := 15, descriptorIndex := 16, attributes := #[] }, { accessFlags := 2, nameIndex := 55, descriptorIndex := 16, attributes := #[] }, { accessFlags := 2, nameIndex := 58, descriptorIndex := 16, attributes := #[] }, { accessFlags := 2, nameIndex := 61, descriptorIndex := 16, attributes := #[] }, { accessFlags := 2, nameIndex := 64, descriptorIndex := 16, attributes := #[] }, { accessFlags := 18, nameIndex := 37, descriptorIndex := 16, attributes := #[] }, { accessFlags := 2, nameIndex := 23, descriptorIndex := 20, attributes := #[] }, { accessFlags := 2, nameIndex := 26, descriptorIndex := 20, attributes := #[] }, { accessFlags := 2, nameIndex := 99, descriptorIndex := 96, attributes := #[] }, { accessFlags := 2, nameIndex := 95, descriptorIndex := 96, attributes := #[] }, { accessFlags := 2, nameIndex := 86, descriptorIndex := 16, attributes := #[] }, { accessFlags := 2, nameIndex := 89, descriptorIndex := 16, attributes := #[] }, { accessFlags := 2, nameIndex := 31, descriptorIndex := 16, attributes := #[] }, { accessFlags := 2, nameIndex := 34, descriptorIndex := 16, attributes := #[] }, { accessFlags := 2, nameIndex := 46, descriptorIndex := 16, attributes := #[] }, { accessFlags := 18, nameIndex := 49, descriptorIndex := 20, attributes := #[] }])
  fields := #[{ name := "INITIAL_CAPACITY", type := .int, accessFlags := 26, slot := 0, constantValue := 0 }, { name := "NO_ENTRIES", type := (.array .long), accessFlags := 26, slot := 1, constantValue := 0 }, { name := "total", type := .long, accessFlags := 2, slot := 1, constantValue := 0 }, { name := "newest", type := .long, accessFlags := 2, slot := 2, constantValue := 0 }, { name := "newestSubWindowEnd", type := .long, accessFlags := 2, slot := 3, constantValue := 0 }, { name := "steadyOfNewest", type := .long, accessFlags := 2, slot := 4, constantValue := 0 }, { name := "callTime", type := .long, accessFlags := 2, slot := 5, constantValue := 0 }, { name := "callSteady", type := .long, accessFlags := 2, slot := 6, constantValue := 0 }, { name := "subWindowMillis", type := .long, accessFlags := 18, slot := 7, constantValue := 0 }, { name := "subWindows", type := (.array .long), accessFlags := 2, slot := 8, constantValue := 0 }, { name := "amounts", type := (.array .long), accessFlags := 2, slot := 9, constantValue := 0 }, { name := "head", type := .int, accessFlags := 2, slot := 10, constantValue := 0 }, { name := "size", type := .int, accessFlags := 2, slot := 11, constantValue := 0 }, { name := "newestSubWindow", type := .long, accessFlags := 2, slot := 12, constantValue := 0 }, { name := "olderTotal", type := .long, accessFlags := 2, slot := 13, constantValue := 0 }, { name := "oldestSubWindow", type := .long, accessFlags := 2, slot := 14, constantValue := 0 }, { name := "lastTime", type := .long, accessFlags := 2, slot := 15, constantValue := 0 }, { name := "lastSubWindow", type := .long, accessFlags := 2, slot := 16, constantValue := 0 }, { name := "shorterWindows", type := (.array .long), accessFlags := 18, slot := 17, constantValue := 0 }]
  methods := #[k4m0, k4m1, k4m2, k4m3, k4m4, k4m5, k4m6, k4m7, k4m8, k4m9, k4m10, k4m11, k4m12, k4m13]
  instanceTypes := #[.long, .long, .long, .long, .long, .long, .long, .long, (.array .long), (.array .long), .int, .int, .long, .long, .long, .long, .long, (.array .long)]
  staticTypes := #[.int, (.array .long)]
  resolved := Array.replicate 145 none
  statics := some 0 }

def pool5 : Array CpInfo := pool [(1, u "java/lang/Cloneable"), (0, .class_ 1), (0, u "java/lang/Object"), (0, .class_ 3)] 3

/-- java/lang/Cloneable -/
def k5 : Class := { plain "java/lang/Cloneable" (some 0) with
  accessFlags := 1537
  interfaces := #[]
  cf := some (fileOf pool5 2 #[] #[] 1537 4 #[] #[])
  fields := #[]
  methods := #[]
  instanceTypes := #[]
  staticTypes := #[]
  resolved := Array.replicate 8 none
  statics := none }

def pool6 : Array CpInfo := pool [(1, u "java/io/Serializable"), (0, .class_ 1), (0, u "java/lang/Object"), (0, .class_ 3)] 3

/-- java/io/Serializable -/
def k6 : Class := { plain "java/io/Serializable" (some 0) with
  accessFlags := 1537
  interfaces := #[]
  cf := some (fileOf pool6 2 #[] #[] 1537 4 #[] #[])
  fields := #[]
  methods := #[]
  instanceTypes := #[]
  staticTypes := #[]
  resolved := Array.replicate 8 none
  statics := none }

/-- the primitive byte -/
def k7 : Class := { plain "byte" none with kind := .primitive 'B', accessFlags := 0x411 }
/-- [B -/
def k8 : Class := { plain "[B" (some 0) with kind := .array 7 .byte, interfaces := #[5, 6], accessFlags := 1041 }

/-- the primitive int -/
def k9 : Class := { plain "int" none with kind := .primitive 'I', accessFlags := 0x411 }
/-- [I -/
def k10 : Class := { plain "[I" (some 0) with kind := .array 9 .int, interfaces := #[5, 6], accessFlags := 1041 }

/-- the primitive long -/
def k11 : Class := { plain "long" none with kind := .primitive 'J', accessFlags := 0x411 }
/-- [J -/
def k12 : Class := { plain "[J" (some 0) with kind := .array 11 .long, interfaces := #[5, 6], accessFlags := 1041 }

def heap : Heap := #[{ cls := 4, slots := #[.int 0, .ref 1], vm := .statics 4 },
  { cls := 12, slots := #[], vm := .none }]
def classes : Array Class := #[k0, k1, k2, k3, k4, k5, k6, k7, k8, k9, k10, k11, k12]
def interned : List (Array UInt16 × Addr) := []
def slotsUsed : Nat := 2
def theMethod : MethodId := ⟨1, 3⟩
def args0 : Array Value := #[.long 5, .long 6, .int 7, .int 8, .int 9]
def aboutOver (below : List Frame) : State where
  vm := { classes := classes, interned := interned.toArray }
  heap := heap
  slotsUsed := slotsUsed
  threads := #[{ frames := .invoking theMethod args0 :: below }]
def below0 : List Frame := [.native { method := ⟨0, 0⟩, args := #[] }]
def about1 : State := aboutOver below0
def p0 : Program := .bare "" "" ""
def e0 : Env := launch0.env 0 0 0
theorem w_frames : about1.frames = Frame.invoking theMethod args0 :: below0 := rfl
set_option maxRecDepth 65536 in
theorem w_args : argsFit about1.vm theMethod args0 = true := by decide +kernel
set_option maxRecDepth 65536 in
theorem w_heap : heapFits about1 = true := by decide +kernel
set_option maxRecDepth 65536 in
theorem w_runnable : about1.curStatus? = some .runnable := by decide +kernel
set_option maxRecDepth 65536 in
theorem w_alone : about1.alone = true := by decide +kernel
set_option maxRecDepth 65536 in
theorem w_named : about1.methodNamed? x = some theMethod := by decide +kernel
set_option maxRecDepth 65536 in
theorem w_hears : about1.hears theMethod below0 = true := by decide +kernel
set_option maxRecDepth 65536 in
theorem w_ripe : about1.ripe theMethod args0 below0 = true := by decide +kernel
theorem w_running : about1.status = .running := rfl
set_option maxRecDepth 65536 in
theorem w_room : about1.hasRoom e0.platform room_1 = true :=
  launch0.hasRoom_least _ room_1 (by decide +kernel) (by decide +kernel) (by decide +kernel) (by decide +kernel) (by decide +kernel) (by decide +kernel)
theorem allAtoms_all (ts : List Jvm.Cond) (a : Array Jvm.Value) (st : Jvm.State) : (allAtoms ts).before a st = ts.all (fun c => c.before a st) := by
  induction ts with
  | nil => rfl
  | cons c t ih =>
    show (Jvm.Cond.and c (allAtoms t)).before a st = _
    rw [Jvm.Cond.before_and, ih, List.all_cons]
def words1 : List Jvm.Cond := Jvm.Cond.code x code maxLocals ret :: tables_1
/-- a 'code' word, met by the world's own term for the bytes: nothing is compared byte by byte -/
theorem code_word {y : MethodName} {bytes : ByteArray} {mx : Nat} {rt : Option FieldType} {a : Array Value} {s : State} {m : MethodId} {meth : Method} {c : Code} (h1 : s.methodNamed? y = some m) (h2 : s.vm.method? m = some meth) (h3 : meth.code = some c) (h4 : c.code = bytes)
    (h5 : (c.maxLocals == mx && c.exceptionTable.isEmpty && decide (c.maxStack ≤ mostOperands) && decide (meth.sig.returnType = rt) && !meth.locks && decide (parseMethodDescriptor y.desc = some meth.sig)) = true) : (Jvm.Cond.code y bytes mx rt).before a s = true := by
  simp only [Bool.and_eq_true, beq_iff_eq, Bool.not_eq_true', decide_eq_true_eq] at h5
  obtain ⟨⟨⟨⟨⟨g1, g2⟩, g3⟩, g4⟩, g5⟩, g6⟩ := h5
  simp [Cond.before, Cond.holds, Cond.value, h1, h2, h3, h4, g1, g2, g3, g4, g5, g6]
def isCode : Jvm.Cond → Bool
  | .code _ _ _ _ => true
  | _ => false
theorem all_split {L : List Jvm.Cond} {P : Jvm.Cond → Bool} (h1 : L.all (fun c => isCode c || P c) = true) (h2 : ∀ c ∈ L.filter isCode, P c = true) : L.all P = true := by
  refine List.all_eq_true.mpr fun c hc => ?_
  have h := List.all_eq_true.mp h1 c hc
  rcases Bool.eq_false_or_eq_true (isCode c) with hi | hi
  · exact h2 c (List.mem_filter.mpr ⟨hc, hi⟩)
  · simpa [hi] using h
set_option maxRecDepth 65536 in
theorem w_c0 : (Jvm.Cond.code x code maxLocals ret).before args0 about1 = true := code_word (m := ⟨1, 3⟩) (meth := k1m3) (c := k1c3) (by decide +kernel) rfl rfl rfl (by decide +kernel)
set_option maxRecDepth 65536 in
theorem w_c1 : (Jvm.Cond.code ({ cls := "java/lang/Math", name := "min", desc := "(JJ)J" } : Jvm.MethodName) jdk_29_method_70_code (4 : Nat) (Option.some Jvm.ClassFile.FieldType.long)).before args0 about1 = true := code_word (m := ⟨2, 4⟩) (meth := k2m4) (c := k2c4) (by decide +kernel) rfl rfl rfl (by decide +kernel)
set_option maxRecDepth 65536 in
theorem w_c2 : (Jvm.Cond.code ({ cls := "com/example/okno/okno/AdmissionLogShorterTotalPinLaw", name := "amountOf", desc := "(I)J" } : Jvm.MethodName) method_3_code (1 : Nat) (Option.some Jvm.ClassFile.FieldType.long)).before args0 about1 = true := code_word (m := ⟨1, 2⟩) (meth := k1m2) (c := k1c2) (by decide +kernel) rfl rfl rfl (by decide +kernel)
set_option maxRecDepth 65536 in
theorem w_c3 : (Jvm.Cond.code ({ cls := "com/example/okno/okno/AdmissionLogShorterTotalPinLaw", name := "floorDivPositive", desc := "(JJ)J" } : Jvm.MethodName) method_2_code (6 : Nat) (Option.some Jvm.ClassFile.FieldType.long)).before args0 about1 = true := code_word (m := ⟨1, 1⟩) (meth := k1m1) (c := k1c1) (by decide +kernel) rfl rfl rfl (by decide +kernel)
set_option maxRecDepth 65536 in
theorem w_c4 : (Jvm.Cond.code ({ cls := "com/example/okno/okno/AdmissionLog", name := "<init>", desc := "(JI)V" } : Jvm.MethodName) prog_2_method_1_code (4 : Nat) (Option.none : Option Jvm.ClassFile.FieldType)).before args0 about1 = true := code_word (m := ⟨4, 0⟩) (meth := k4m0) (c := k4c0) (by decide +kernel) rfl rfl rfl (by decide +kernel)
set_option maxRecDepth 65536 in
theorem w_c5 : (Jvm.Cond.code ({ cls := "com/example/okno/okno/KeyTurn", name := "<init>", desc := "()V" } : Jvm.MethodName) prog_8_method_1_code (1 : Nat) (Option.none : Option Jvm.ClassFile.FieldType)).before args0 about1 = true := code_word (m := ⟨3, 0⟩) (meth := k3m0) (c := k3c0) (by decide +kernel) rfl rfl rfl (by decide +kernel)
set_option maxRecDepth 65536 in
theorem w_c6 : (Jvm.Cond.code ({ cls := "java/lang/Object", name := "<init>", desc := "()V" } : Jvm.MethodName) object_method_1_code (1 : Nat) (Option.none : Option Jvm.ClassFile.FieldType)).before args0 about1 = true := code_word (m := ⟨0, 0⟩) (meth := k0m0) (c := k0c0) (by decide +kernel) rfl rfl rfl (by decide +kernel)
set_option maxRecDepth 65536 in
theorem w_c7 : (Jvm.Cond.code ({ cls := "java/lang/Math", name := "floorDiv", desc := "(JJ)J" } : Jvm.MethodName) jdk_29_method_49_code (6 : Nat) (Option.some Jvm.ClassFile.FieldType.long)).before args0 about1 = true := code_word (m := ⟨2, 2⟩) (meth := k2m2) (c := k2c2) (by decide +kernel) rfl rfl rfl (by decide +kernel)
set_option maxRecDepth 65536 in
theorem w_c8 : (Jvm.Cond.code ({ cls := "com/example/okno/okno/AdmissionLog", name := "fitShorterWindow", desc := "(IJ)V" } : Jvm.MethodName) prog_2_method_18_code (8 : Nat) (Option.none : Option Jvm.ClassFile.FieldType)).before args0 about1 = true := code_word (m := ⟨4, 5⟩) (meth := k4m5) (c := k4c5) (by decide +kernel) rfl rfl rfl (by decide +kernel)
set_option maxRecDepth 65536 in
theorem w_c9 : (Jvm.Cond.code ({ cls := "com/example/okno/okno/AdmissionLog", name := "entryCount", desc := "()I" } : Jvm.MethodName) prog_2_method_20_code (1 : Nat) (Option.some Jvm.ClassFile.FieldType.int)).before args0 about1 = true := code_word (m := ⟨4, 7⟩) (meth := k4m7) (c := k4c7) (by decide +kernel) rfl rfl rfl (by decide +kernel)
set_option maxRecDepth 65536 in
theorem w_c10 : (Jvm.Cond.code ({ cls := "com/example/okno/okno/AdmissionLog", name := "isEmpty", desc := "()Z" } : Jvm.MethodName) prog_2_method_3_code (1 : Nat) (Option.some Jvm.ClassFile.FieldType.boolean)).before args0 about1 = true := code_word (m := ⟨4, 1⟩) (meth := k4m1) (c := k4c1) (by decide +kernel) rfl rfl rfl (by decide +kernel)
set_option maxRecDepth 65536 in
theorem w_c11 : (Jvm.Cond.code ({ cls := "com/example/okno/okno/AdmissionLog", name := "shorterTotal", desc := "(I)J" } : Jvm.MethodName) prog_2_method_16_code (4 : Nat) (Option.some Jvm.ClassFile.FieldType.long)).before args0 about1 = true := code_word (m := ⟨4, 4⟩) (meth := k4m4) (c := k4c4) (by decide +kernel) rfl rfl rfl (by decide +kernel)
set_option maxRecDepth 65536 in
theorem w_c12 : (Jvm.Cond.code ({ cls := "com/example/okno/okno/AdmissionLog", name := "append", desc := "(JJ)V" } : Jvm.MethodName) prog_2_method_12_code (11 : Nat) (Option.none : Option Jvm.ClassFile.FieldType)).before args0 about1 = true := code_word (m := ⟨4, 3⟩) (meth := k4m3) (c := k4c3) (by decide +kernel) rfl rfl rfl (by decide +kernel)
set_option maxRecDepth 65536 in
theorem w_c13 : (Jvm.Cond.code ({ cls := "java/lang/Math", name := "addExact", desc := "(JJ)J" } : Jvm.MethodName) jdk_29_method_25_code (6 : Nat) (Option.some Jvm.ClassFile.FieldType.long)).before args0 about1 = true := code_word (m := ⟨2, 1⟩) (meth := k2m1) (c := k2c1) (by decide +kernel) rfl rfl rfl (by decide +kernel)
set_option maxRecDepth 65536 in
theorem w_c14 : (Jvm.Cond.code ({ cls := "com/example/okno/okno/AdmissionLog", name := "subWindowOf", desc := "(J)J" } : Jvm.MethodName) prog_2_method_11_code (3 : Nat) (Option.some Jvm.ClassFile.FieldType.long)).before args0 about1 = true := code_word (m := ⟨4, 2⟩) (meth := k4m2) (c := k4c2) (by decide +kernel) rfl rfl rfl (by decide +kernel)
set_option maxRecDepth 65536 in
theorem w_c15 : (Jvm.Cond.code ({ cls := "com/example/okno/okno/AdmissionLog", name := "startNewestEntry", desc := "(JJ)V" } : Jvm.MethodName) prog_2_method_23_code (7 : Nat) (Option.none : Option Jvm.ClassFile.FieldType)).before args0 about1 = true := code_word (m := ⟨4, 10⟩) (meth := k4m10) (c := k4c10) (by decide +kernel) rfl rfl rfl (by decide +kernel)
set_option maxRecDepth 65536 in
theorem w_c16 : (Jvm.Cond.code ({ cls := "com/example/okno/okno/AdmissionLog", name := "countNewEntryInShorterWindows", desc := "(J)V" } : Jvm.MethodName) prog_2_method_19_code (4 : Nat) (Option.none : Option Jvm.ClassFile.FieldType)).before args0 about1 = true := code_word (m := ⟨4, 6⟩) (meth := k4m6) (c := k4c6) (by decide +kernel) rfl rfl rfl (by decide +kernel)
set_option maxRecDepth 65536 in
theorem w_c17 : (Jvm.Cond.code ({ cls := "com/example/okno/okno/AdmissionLog", name := "pushOlder", desc := "(JJ)V" } : Jvm.MethodName) prog_2_method_24_code (5 : Nat) (Option.none : Option Jvm.ClassFile.FieldType)).before args0 about1 = true := code_word (m := ⟨4, 11⟩) (meth := k4m11) (c := k4c11) (by decide +kernel) rfl rfl rfl (by decide +kernel)
set_option maxRecDepth 65536 in
theorem w_c18 : (Jvm.Cond.code ({ cls := "com/example/okno/okno/AdmissionLog", name := "grow", desc := "()V" } : Jvm.MethodName) prog_2_method_26_code (5 : Nat) (Option.none : Option Jvm.ClassFile.FieldType)).before args0 about1 = true := code_word (m := ⟨4, 13⟩) (meth := k4m13) (c := k4c13) (by decide +kernel) rfl rfl rfl (by decide +kernel)
set_option maxRecDepth 65536 in
theorem w_c19 : (Jvm.Cond.code ({ cls := "java/lang/Math", name := "max", desc := "(II)I" } : Jvm.MethodName) jdk_29_method_65_code (2 : Nat) (Option.some Jvm.ClassFile.FieldType.int)).before args0 about1 = true := code_word (m := ⟨2, 3⟩) (meth := k2m3) (c := k2c3) (by decide +kernel) rfl rfl rfl (by decide +kernel)
set_option maxRecDepth 65536 in
theorem w_c20 : (Jvm.Cond.code ({ cls := "com/example/okno/okno/AdmissionLog", name := "index", desc := "(I)I" } : Jvm.MethodName) prog_2_method_25_code (2 : Nat) (Option.some Jvm.ClassFile.FieldType.int)).before args0 about1 = true := code_word (m := ⟨4, 12⟩) (meth := k4m12) (c := k4c12) (by decide +kernel) rfl rfl rfl (by decide +kernel)
set_option maxRecDepth 65536 in
theorem w_c21 : (Jvm.Cond.code ({ cls := "com/example/okno/okno/AdmissionLog", name := "subWindowAt", desc := "(I)J" } : Jvm.MethodName) prog_2_method_21_code (2 : Nat) (Option.some Jvm.ClassFile.FieldType.long)).before args0 about1 = true := code_word (m := ⟨4, 8⟩) (meth := k4m8) (c := k4c8) (by decide +kernel) rfl rfl rfl (by decide +kernel)
set_option maxRecDepth 65536 in
theorem w_c22 : (Jvm.Cond.code ({ cls := "com/example/okno/okno/AdmissionLog", name := "ringAmountAt", desc := "(I)J" } : Jvm.MethodName) prog_2_method_22_code (2 : Nat) (Option.some Jvm.ClassFile.FieldType.long)).before args0 about1 = true := code_word (m := ⟨4, 9⟩) (meth := k4m9) (c := k4c9) (by decide +kernel) rfl rfl rfl (by decide +kernel)
def codes1 : List Jvm.Cond := [Jvm.Cond.code x code maxLocals ret, Jvm.Cond.code ({ cls := "java/lang/Math", name := "min", desc := "(JJ)J" } : Jvm.MethodName) jdk_29_method_70_code (4 : Nat) (Option.some Jvm.ClassFile.FieldType.long), Jvm.Cond.code ({ cls := "com/example/okno/okno/AdmissionLogShorterTotalPinLaw", name := "amountOf", desc := "(I)J" } : Jvm.MethodName) method_3_code (1 : Nat) (Option.some Jvm.ClassFile.FieldType.long), Jvm.Cond.code ({ cls := "com/example/okno/okno/AdmissionLogShorterTotalPinLaw", name := "floorDivPositive", desc := "(JJ)J" } : Jvm.MethodName) method_2_code (6 : Nat) (Option.some Jvm.ClassFile.FieldType.long), Jvm.Cond.code ({ cls := "com/example/okno/okno/AdmissionLog", name := "<init>", desc := "(JI)V" } : Jvm.MethodName) prog_2_method_1_code (4 : Nat) (Option.none : Option Jvm.ClassFile.FieldType), Jvm.Cond.code ({ cls := "com/example/okno/okno/KeyTurn", name := "<init>", desc := "()V" } : Jvm.MethodName) prog_8_method_1_code (1 : Nat) (Option.none : Option Jvm.ClassFile.FieldType), Jvm.Cond.code ({ cls := "java/lang/Object", name := "<init>", desc := "()V" } : Jvm.MethodName) object_method_1_code (1 : Nat) (Option.none : Option Jvm.ClassFile.FieldType), Jvm.Cond.code ({ cls := "java/lang/Math", name := "floorDiv", desc := "(JJ)J" } : Jvm.MethodName) jdk_29_method_49_code (6 : Nat) (Option.some Jvm.ClassFile.FieldType.long), Jvm.Cond.code ({ cls := "com/example/okno/okno/AdmissionLog", name := "fitShorterWindow", desc := "(IJ)V" } : Jvm.MethodName) prog_2_method_18_code (8 : Nat) (Option.none : Option Jvm.ClassFile.FieldType), Jvm.Cond.code ({ cls := "com/example/okno/okno/AdmissionLog", name := "entryCount", desc := "()I" } : Jvm.MethodName) prog_2_method_20_code (1 : Nat) (Option.some Jvm.ClassFile.FieldType.int), Jvm.Cond.code ({ cls := "com/example/okno/okno/AdmissionLog", name := "isEmpty", desc := "()Z" } : Jvm.MethodName) prog_2_method_3_code (1 : Nat) (Option.some Jvm.ClassFile.FieldType.boolean), Jvm.Cond.code ({ cls := "com/example/okno/okno/AdmissionLog", name := "shorterTotal", desc := "(I)J" } : Jvm.MethodName) prog_2_method_16_code (4 : Nat) (Option.some Jvm.ClassFile.FieldType.long), Jvm.Cond.code ({ cls := "com/example/okno/okno/AdmissionLog", name := "append", desc := "(JJ)V" } : Jvm.MethodName) prog_2_method_12_code (11 : Nat) (Option.none : Option Jvm.ClassFile.FieldType), Jvm.Cond.code ({ cls := "java/lang/Math", name := "addExact", desc := "(JJ)J" } : Jvm.MethodName) jdk_29_method_25_code (6 : Nat) (Option.some Jvm.ClassFile.FieldType.long), Jvm.Cond.code ({ cls := "com/example/okno/okno/AdmissionLog", name := "subWindowOf", desc := "(J)J" } : Jvm.MethodName) prog_2_method_11_code (3 : Nat) (Option.some Jvm.ClassFile.FieldType.long), Jvm.Cond.code ({ cls := "com/example/okno/okno/AdmissionLog", name := "startNewestEntry", desc := "(JJ)V" } : Jvm.MethodName) prog_2_method_23_code (7 : Nat) (Option.none : Option Jvm.ClassFile.FieldType), Jvm.Cond.code ({ cls := "com/example/okno/okno/AdmissionLog", name := "countNewEntryInShorterWindows", desc := "(J)V" } : Jvm.MethodName) prog_2_method_19_code (4 : Nat) (Option.none : Option Jvm.ClassFile.FieldType), Jvm.Cond.code ({ cls := "com/example/okno/okno/AdmissionLog", name := "pushOlder", desc := "(JJ)V" } : Jvm.MethodName) prog_2_method_24_code (5 : Nat) (Option.none : Option Jvm.ClassFile.FieldType), Jvm.Cond.code ({ cls := "com/example/okno/okno/AdmissionLog", name := "grow", desc := "()V" } : Jvm.MethodName) prog_2_method_26_code (5 : Nat) (Option.none : Option Jvm.ClassFile.FieldType), Jvm.Cond.code ({ cls := "java/lang/Math", name := "max", desc := "(II)I" } : Jvm.MethodName) jdk_29_method_65_code (2 : Nat) (Option.some Jvm.ClassFile.FieldType.int), Jvm.Cond.code ({ cls := "com/example/okno/okno/AdmissionLog", name := "index", desc := "(I)I" } : Jvm.MethodName) prog_2_method_25_code (2 : Nat) (Option.some Jvm.ClassFile.FieldType.int), Jvm.Cond.code ({ cls := "com/example/okno/okno/AdmissionLog", name := "subWindowAt", desc := "(I)J" } : Jvm.MethodName) prog_2_method_21_code (2 : Nat) (Option.some Jvm.ClassFile.FieldType.long), Jvm.Cond.code ({ cls := "com/example/okno/okno/AdmissionLog", name := "ringAmountAt", desc := "(I)J" } : Jvm.MethodName) prog_2_method_22_code (2 : Nat) (Option.some Jvm.ClassFile.FieldType.long)]
set_option maxRecDepth 65536 in
theorem codes_eq : words1.filter isCode = codes1 := rfl
theorem w_codes : ∀ c ∈ words1.filter isCode, c.before args0 about1 = true := by
  rw [codes_eq]
  intro c hc
  simp only [codes1, List.mem_cons, List.not_mem_nil, or_false] at hc
  rcases hc with rfl | rfl | rfl | rfl | rfl | rfl | rfl | rfl | rfl | rfl | rfl | rfl | rfl | rfl | rfl | rfl | rfl | rfl | rfl | rfl | rfl | rfl | rfl
  · exact w_c0
  · exact w_c1
  · exact w_c2
  · exact w_c3
  · exact w_c4
  · exact w_c5
  · exact w_c6
  · exact w_c7
  · exact w_c8
  · exact w_c9
  · exact w_c10
  · exact w_c11
  · exact w_c12
  · exact w_c13
  · exact w_c14
  · exact w_c15
  · exact w_c16
  · exact w_c17
  · exact w_c18
  · exact w_c19
  · exact w_c20
  · exact w_c21
  · exact w_c22
set_option maxRecDepth 65536 in
theorem w_t1 : (words1.take 24).all (fun c => isCode c || c.before args0 about1) = true := by decide +kernel
set_option maxRecDepth 65536 in
theorem w_t2 : ((words1.drop 24).take 24).all (fun c => isCode c || c.before args0 about1) = true := by decide +kernel
set_option maxRecDepth 65536 in
theorem w_t3 : (((words1.drop 24).drop 24).take 24).all (fun c => isCode c || c.before args0 about1) = true := by decide +kernel
set_option maxRecDepth 65536 in
theorem w_t4 : ((((words1.drop 24).drop 24).drop 24).take 24).all (fun c => isCode c || c.before args0 about1) = true := by decide +kernel
set_option maxRecDepth 65536 in
theorem w_t5 : (((((words1.drop 24).drop 24).drop 24).drop 24).take 24).all (fun c => isCode c || c.before args0 about1) = true := by decide +kernel
set_option maxRecDepth 65536 in
theorem w_t6 : (((((words1.drop 24).drop 24).drop 24).drop 24).drop 24).all (fun c => isCode c || c.before args0 about1) = true := by decide +kernel
theorem w_tables : (allAtoms (Jvm.Cond.code x code maxLocals ret :: tables_1)).before args0 about1 = true := by
  rw [allAtoms_all]
  show words1.all (fun c => c.before args0 about1) = true
  refine all_split ?_ w_codes
  rw [← List.take_append_drop 24 words1, List.all_append, w_t1, ← List.take_append_drop 24 (words1.drop 24), List.all_append, w_t2, ← List.take_append_drop 24 ((words1.drop 24).drop 24), List.all_append, w_t3, ← List.take_append_drop 24 (((words1.drop 24).drop 24).drop 24), List.all_append, w_t4, ← List.take_append_drop 24 ((((words1.drop 24).drop 24).drop 24).drop 24), List.all_append, w_t5, w_t6]
  rfl
set_option maxRecDepth 65536 in
theorem w_case : (Jvm.Cond.and given_1 narrow_1).before args0 about1 = true := by decide +kernel
theorem w_applies : (headSpec (Jvm.Cond.code x code maxLocals ret :: tables_1) room_1).applies x e0.platform about1 = true :=
  (Spec.applies_iff w_frames).mpr ⟨w_running, w_runnable, w_alone, w_named, w_hears, w_ripe, w_room, w_tables⟩
theorem atStart : AtStart classFile x code maxLocals ret World_1 tables_1 room_1 Calls_1 rest_1 Pre_1 launch0 p0 e0 about1 theMethod args0 below0 :=
  ⟨lists_1, trivial, launch0.admits_env _ _ _, launch0.least_env, fairChoices_fair.cas, fairChoices_fair.clock, w_frames, w_args, w_heap, w_applies, trivial, trivial, w_case⟩
end start1
theorem witness_1 : WitnessClaimed_1 := ⟨start1.p0, start1.e0, start1.about1, start1.theMethod, start1.args0, start1.below0, start1.atStart⟩
end Jvm.Pilot.@@N@@
