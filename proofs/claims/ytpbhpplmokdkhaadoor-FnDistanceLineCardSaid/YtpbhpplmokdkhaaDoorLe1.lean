/- Plain law: lengths of lines, as they are reckoned. -/
import Derived.Test.YtpbhpplmokdkhaaDoorDist
import Derived.Test.YtpbhpplmokdkhaaDoorSl1
set_option linter.unusedVariables false
namespace Go.Proofs.YtpbhpplmokdkhaaDoor
open Go.RowKit Fl
namespace Le

/-- What a finite word stands for, as a whole number of places. -/
theorem fin_form {x : Nat} (h : IsFin x) : ∃ (c q : Int), val x = c * p2 q ∧ c.natAbs ≤ 9007199254740992 ∧ -1074 ≤ q := by
  obtain ⟨hv, hlt⟩ := val_rv h
  have key : ∃ (m : Nat) (q : Int), rv (x % 9223372036854775808) = (m : Rat) * p2 q ∧ m ≤ 9007199254740992 ∧ -1074 ≤ q := by
    unfold rv
    split
    · exact ⟨_, _, rfl, by omega, by omega⟩
    · exact ⟨_, _, rfl, by omega, by omega⟩
  obtain ⟨m, q, h1, h2, h3⟩ := key
  rw [hv, h1]
  cases (x / 9223372036854775808 % 2 == 1) with
  | false => exact ⟨(m : Int), q, by simp only [sg]; rw [show ((m : Int) : Rat) = (m : Rat) from rfl]; grind, by omega, h3⟩
  | true => exact ⟨-(m : Int), q, by simp only [sg]; rw [Rat.intCast_neg, show ((m : Int) : Rat) = (m : Rat) from rfl]; grind, by omega, h3⟩
theorem rnd_self {r x : Nat} (hx : IsFin x) (h : Rnd r (val x)) : val r = val x := by
  obtain ⟨c, q, h1, h2, h3⟩ := fin_form hx
  exact rnd_exact h h1 h2 h3
/-- A coordinate of a point is told by its number. -/
theorem zero_word {x : Nat} (hx : IsI x 0) (b : x < 18446744073709551616) (hs : fsign x = false) : x = 0 := by
  obtain ⟨hv, _⟩ := val_rv hx.1
  rw [hx.2] at hv
  have hlt : x < 9223372036854775808 := by
    unfold fsign at hs
    have := of_decide_eq_false hs
    omega
  have e0 : ((0 : Int) : Rat) = 0 := rfl
  have ed : (x / 9223372036854775808 % 2 == 1) = false := by
    rw [Nat.div_eq_of_lt hlt]; rfl
  rw [ed, Nat.mod_eq_of_lt hlt, e0] at hv
  simp only [sg] at hv
  by_cases h : x = 0
  · exact h
  · have := rv_lt (r := 0) (s := x) (by omega)
    rw [rv_zero] at this
    simp at hv
    grind
theorem coord_word {x y : Nat} {n : Int} (hx : IsI x n) (hy : IsI y n) (bx : x < 18446744073709551616) (by' : y < 18446744073709551616) (wx : wholeB x = true) (wy : wholeB y = true) : x = y := by
  by_cases h : n = 0
  · subst h
    have z : ∀ u, IsI u 0 → wholeB u = true → fsign u = false := by
      intro u hu hw
      unfold wholeB at hw
      rw [Bool.and_eq_true, Bool.and_eq_true] at hw
      have h3 := hw.2.2
      have e : (Ieee.double.order u 0 == some .eq) = true := by rw [isI_eq hu isI_lit0]; rfl
      have e' : (Ieee.double.order u 0 != some .eq) = false := by rw [bne, e]; rfl
      rw [e', Bool.false_or] at h3
      simpa using h3
    rw [zero_word hx bx (z x hx wx), zero_word hy by' (z y hy wy)]
  · exact isI_unique hx hy bx by' h
theorem sq_comm {p q : Nat × Nat} {px py qx qy : Int} (hp : IsP p px py) (hq : IsP q qx qy) (sp : Small px ∧ Small py) (sq : Small qx ∧ Small qy)
    (bp : p.1 < 18446744073709551616 ∧ p.2 < 18446744073709551616) (bq : q.1 < 18446744073709551616 ∧ q.2 < 18446744073709551616) (tp : ptB p = true) (tq : ptB q = true) : sqDist p q = sqDist q p := by
  unfold ptB at tp tq
  rw [Bool.and_eq_true] at tp tq
  by_cases h : px = qx ∧ py = qy
  · obtain ⟨rfl, rfl⟩ := h
    have e1 := coord_word hp.1 hq.1 bp.1 bq.1 tp.1 tq.1
    have e2 := coord_word hp.2 hq.2 bp.2 bq.2 tp.2 tq.2
    have : p = q := by cases p; cases q; simp only at e1 e2; rw [e1, e2]
    rw [this]
  · obtain ⟨_, _, _, _, s1⟩ := sq_ints hp hq sp sq
    obtain ⟨_, _, _, _, s2⟩ := sq_ints hq hp sq sp
    have e : (qx - px) * (qx - px) + (qy - py) * (qy - py) = (px - qx) * (px - qx) + (py - qy) * (py - qy) := by grind
    rw [e] at s2
    refine isI_unique s1 s2 (fadd_lt _ _) (fadd_lt _ _) ?_
    intro h0
    have a1 := Sg.sq_nn (px - qx)
    have a2 := Sg.sq_nn (py - qy)
    have z1 : (px - qx) * (px - qx) = 0 := by omega
    have z2 : (py - qy) * (py - qy) = 0 := by omega
    exact h ⟨by rcases Int.mul_eq_zero.1 z1 with h | h <;> omega, by rcases Int.mul_eq_zero.1 z2 with h | h <;> omega⟩
theorem seg_term {p q : Nat × Nat} {px py qx qy : Int} (hp : IsP p px py) (hq : IsP q qx qy) (sp : Small px ∧ Small py) (sq : Small qx ∧ Small qy) : IsFin (fsqrt (sqDist p q)) ∧ 0 ≤ val (fsqrt (sqDist p q)) ∧ val (fsqrt (sqDist p q)) ≤ 3001 := by
  obtain ⟨_, _, _, _, s⟩ := sq_ints hp hq sp sq
  have h0 := sq_nonneg hp hq sp sq
  obtain ⟨f, g, _, ub, _⟩ := fsqrt_spec s.1 h0
  have d1 : -2000 ≤ px - qx ∧ px - qx ≤ 2000 := by unfold Small at sp sq; omega
  have d2 : -2000 ≤ py - qy ∧ py - qy ≤ 2000 := by unfold Small at sp sq; omega
  have m1 := mul_small (a := px - qx) (b := px - qx) (A := 2000) (B := 2000) d1.1 d1.2 d1.1 d1.2
  have m2 := mul_small (a := py - qy) (b := py - qy) (A := 2000) (B := 2000) d2.1 d2.2 d2.1 d2.2
  have hle : val (sqDist p q) ≤ 9000000 := by
    rw [s.2]
    have : (((px - qx) * (px - qx) + (py - qy) * (py - qy) : Int) : Rat) ≤ ((9000000 : Int) : Rat) := Rat.intCast_le_intCast.2 (by omega)
    exact this
  have := ub 3000 (by grind) (by grind)
  have n50 : p2 (-50) = 1 / 1125899906842624 := by have := p2_val 50; have e : ((2 ^ 50 : Nat) : Rat) = 1125899906842624 := rfl; have e' : p2 (-((50 : Nat) : Int)) = p2 (-50) := rfl; rw [e, e'] at this; grind
  rw [n50] at this
  exact ⟨f, g, by grind⟩
/-- The sum of so many sides. -/
def ln (P : Nat → Nat × Nat) : Nat → Nat
  | 0 => 0
  | k + 1 => fadd (ln P k) (fsqrt (sqDist (P k) (P (k + 1))))
def At (ps : List (Nat × Nat)) (i : Nat) : Nat × Nat := ps.getD i (0, 0)
theorem at_some {ps : List (Nat × Nat)} {i : Nat} {p : Nat × Nat} (h : ps[i]? = some p) : At ps i = p := by
  unfold At; rw [List.getD_eq_getElem?_getD, h]; rfl
theorem ln_bd {ps : List (Nat × Nat)} {X Y : Nat → Int} (hd : Dat ps X Y) : ∀ k, k < ps.length ∨ k = 0 → k ≤ 100 → IsFin (ln (At ps) k) ∧ -(k : Rat) ≤ val (ln (At ps) k) ∧ val (ln (At ps) k) ≤ 3002 * (k : Rat) := by
  intro k
  induction k with
  | zero =>
    intro _ _
    refine ⟨isI_lit0.1, ?_, ?_⟩
    · show _ ≤ val 0; rw [isI_lit0.2]; have e : ((0 : Nat) : Rat) = 0 := rfl; have e' : ((0 : Int) : Rat) = 0 := rfl; rw [e, e']; grind
    · show val 0 ≤ _; rw [isI_lit0.2]; have e : ((0 : Nat) : Rat) = 0 := rfl; have e' : ((0 : Int) : Rat) = 0 := rfl; rw [e, e']; grind
  | succ k ih =>
    intro hk h100
    obtain ⟨f, g0, g1⟩ := ih (by omega) (by omega)
    have hpi : ps[k]? = some ps[k] := List.getElem?_eq_getElem (by omega)
    have hpj : ps[k + 1]? = some ps[k + 1] := List.getElem?_eq_getElem (by omega)
    obtain ⟨ii, mi⟩ := hd k _ hpi
    obtain ⟨ij, mj⟩ := hd (k + 1) _ hpj
    obtain ⟨t1, t2, t3⟩ := seg_term ii ij mi mj
    unfold ln
    rw [at_some hpi, at_some hpj]
    have hkb : (k : Rat) ≤ 100 := by
      have : ((k : Int) : Rat) ≤ ((100 : Int) : Rat) := Rat.intCast_le_intCast.2 (by omega)
      exact this
    have e20 : p2 20 = 1048576 := p2_nat 20
    obtain ⟨r1, r2⟩ := nr_add f t1 (k := 20) (by omega) (by omega) (by rw [e20]; grind) (by rw [e20]; grind)
    have n32 : p2 (-32) = 1 / 4294967296 := by have := p2_val 32; have e : ((2 ^ 32 : Nat) : Rat) = 4294967296 := rfl; have e' : p2 (-((32 : Nat) : Int)) = p2 (-32) := rfl; rw [e, e'] at this; grind
    have r3 := r2.1
    have r4 := r2.2
    rw [show (20 : Int) - 52 = -32 from rfl, n32] at r3 r4
    have ek : ((k + 1 : Nat) : Rat) = (k : Rat) + 1 := by rw [Rat.natCast_add]; rfl
    rw [ek]
    exact ⟨r1, by grind, by grind⟩
end Le
end Go.Proofs.YtpbhpplmokdkhaaDoor
