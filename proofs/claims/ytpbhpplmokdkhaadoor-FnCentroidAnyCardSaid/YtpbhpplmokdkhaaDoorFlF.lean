/- Plain laws on floats of 64 bits: a word is known by its number; absolute errors. -/
import Derived.Test.YtpbhpplmokdkhaaDoorFlE
import Derived.Laws.FloatBits
namespace Fl
open Ieee

/-- The number of a rung. -/
def rv (r : Nat) : Rat := if r < 4503599627370496 then (r : Rat) * p2 (-1074) else ((4503599627370496 + r % 4503599627370496 : Nat) : Rat) * p2 (-1074 + (r / 4503599627370496 - 1 : Nat))

theorem rv_succ (r : Nat) : rv r < rv (r + 1) := by
  have e1 : ((1 : Nat) : Rat) = 1 := rfl
  unfold rv
  by_cases h : r + 1 < 4503599627370496
  · rw [if_pos h, if_pos (by omega), Rat.natCast_add, e1]
    have := p2_pos (-1074); grind
  · rw [if_neg h]
    by_cases h1 : r < 4503599627370496
    · rw [if_pos h1]
      have e : r = 4503599627370495 := by omega
      subst e
      have e2 : 4503599627370496 + (4503599627370495 + 1) % 4503599627370496 = 4503599627370495 + 1 := by omega
      have e3 : ((4503599627370495 + 1) / 4503599627370496 - 1 : Nat) = 0 := by omega
      rw [e2, e3, Rat.natCast_add, e1]
      have e4 : (-1074 + ((0 : Nat) : Int)) = -1074 := by omega
      rw [e4]
      have := p2_pos (-1074); grind
    · rw [if_neg h1]
      by_cases h2 : (r + 1) / 4503599627370496 = r / 4503599627370496
      · have e2 : 4503599627370496 + (r + 1) % 4503599627370496 = (4503599627370496 + r % 4503599627370496) + 1 := by omega
        rw [h2, e2, Rat.natCast_add (4503599627370496 + r % 4503599627370496) 1, e1]
        have := p2_pos (-1074 + (r / 4503599627370496 - 1 : Nat)); grind
      · have e2 : (r + 1) % 4503599627370496 = 0 := by omega
        have e3 : (r + 1) / 4503599627370496 - 1 = (r / 4503599627370496 - 1) + 1 := by omega
        have e4 : r % 4503599627370496 = 4503599627370495 := by omega
        rw [e2, e3, e4]
        have e5 : (-1074 + ((r / 4503599627370496 - 1 + 1 : Nat) : Int)) = (-1074 + ((r / 4503599627370496 - 1 : Nat) : Int)) + 1 := by omega
        rw [e5, p2_succ]
        have e6 : ((4503599627370496 + 4503599627370495 : Nat) : Rat) = 9007199254740991 := rfl
        have e7 : ((4503599627370496 + 0 : Nat) : Rat) = 4503599627370496 := rfl
        rw [e6, e7]
        have := p2_pos (-1074 + (r / 4503599627370496 - 1 : Nat)); grind
theorem rv_add (r k : Nat) : rv r ≤ rv (r + k) := by
  induction k with
  | zero => exact Rat.le_refl
  | succ k ih => have := rv_succ (r + k); rw [← Nat.add_assoc]; grind
theorem rv_lt {r s : Nat} (h : r < s) : rv r < rv s := by
  have h1 := rv_succ r
  have h2 := rv_add (r + 1) (s - (r + 1))
  rw [show r + 1 + (s - (r + 1)) = s by omega] at h2
  grind
theorem rv_zero : rv 0 = 0 := by
  unfold rv
  rw [if_pos (by omega)]
  have : ((0 : Nat) : Rat) = 0 := rfl
  rw [this]; grind
theorem val_rv {x : Nat} (h : IsFin x) : val x = sg (x / 9223372036854775808 % 2 == 1) * rv (x % 9223372036854775808) ∧ x % 9223372036854775808 < 2047 * 4503599627370496 := by
  obtain ⟨s, m, e, h⟩ := h
  rw [val_of h]
  unfold Format.read at h
  simp only [sw, bin, infR, lp] at h
  unfold rv
  by_cases h1 : x % 9223372036854775808 < 4503599627370496
  · rw [if_pos h1] at h ⊢
    cases h
    exact ⟨by grind, by omega⟩
  · rw [if_neg h1] at h ⊢
    by_cases h2 : x % 9223372036854775808 < 2047 * 4503599627370496
    · rw [if_pos h2] at h
      cases h
      exact ⟨by grind, by omega⟩
    · rw [if_neg h2] at h
      split at h <;> cases h

/-- Words below 2 ^ 64 of one number that is not 0 are one word. -/
theorem word_unique {x y : Nat} (hx : IsFin x) (hy : IsFin y) (bx : x < 18446744073709551616) (by' : y < 18446744073709551616) (h : val x = val y) (h0 : val x ≠ 0) : x = y := by
  obtain ⟨vx, _⟩ := val_rv hx
  obtain ⟨vy, _⟩ := val_rv hy
  rw [vx, vy] at h
  rw [vx] at h0
  have rx : 0 ≤ rv (x % 9223372036854775808) := by have := rv_add 0 (x % 9223372036854775808); rw [rv_zero, Nat.zero_add] at this; exact this
  have ry : 0 ≤ rv (y % 9223372036854775808) := by have := rv_add 0 (y % 9223372036854775808); rw [rv_zero, Nat.zero_add] at this; exact this
  have hs : (x / 9223372036854775808 % 2 == 1) = (y / 9223372036854775808 % 2 == 1) := by
    cases h1 : (x / 9223372036854775808 % 2 == 1) <;> cases h2 : (y / 9223372036854775808 % 2 == 1)
    · rfl
    · rw [h1] at h h0; rw [h2] at h; simp only [sg] at h h0; exfalso; grind
    · rw [h1] at h h0; rw [h2] at h; simp only [sg] at h h0; exfalso; grind
    · rfl
  rw [hs] at h
  have hr : rv (x % 9223372036854775808) = rv (y % 9223372036854775808) := by
    cases h2 : (y / 9223372036854775808 % 2 == 1) <;> rw [h2] at h <;> simp only [sg] at h <;> grind
  have hm : x % 9223372036854775808 = y % 9223372036854775808 := by
    rcases Nat.lt_trichotomy (x % 9223372036854775808) (y % 9223372036854775808) with h | h | h
    · have := rv_lt h; grind
    · exact h
    · have := rv_lt h; grind
  have hd : x / 9223372036854775808 % 2 = y / 9223372036854775808 % 2 := by
    have a1 : x / 9223372036854775808 % 2 = 0 ∨ x / 9223372036854775808 % 2 = 1 := by omega
    have a2 : y / 9223372036854775808 % 2 = 0 ∨ y / 9223372036854775808 % 2 = 1 := by omega
    rcases a1 with a1 | a1 <;> rcases a2 with a2 | a2 <;> rw [a1, a2] at hs <;> first | omega | (simp at hs)
  omega

theorem getD_lt {o : Option Nat} (h : ∀ r, o = some r → r < 18446744073709551616) : o.getD 0 < 18446744073709551616 := by
  cases o with
  | none => decide
  | some r => exact h r rfl
theorem fadd_lt (x y : Nat) : fadd x y < 18446744073709551616 := getD_lt fun _ h => double.add_lt h
theorem fsub_lt (x y : Nat) : fsub x y < 18446744073709551616 := getD_lt fun _ h => double.sub_lt h
theorem fmul_lt (x y : Nat) : fmul x y < 18446744073709551616 := getD_lt fun _ h => double.mul_lt h
theorem fdiv_lt (x y : Nat) : fdiv x y < 18446744073709551616 := getD_lt fun _ h => double.div_lt h
theorem fsqrt_lt (x : Nat) : fsqrt x < 18446744073709551616 := getD_lt fun _ h => double.sqrt_lt h
theorem isI_unique {x y : Nat} {n : Int} (hx : IsI x n) (hy : IsI y n) (bx : x < 18446744073709551616) (by' : y < 18446744073709551616) (h0 : n ≠ 0) : x = y :=
  word_unique hx.1 hy.1 bx by' (by rw [hx.2, hy.2]) (by rw [hx.2]; intro h; exact h0 (Rat.intCast_inj.1 h))

/-- Near: within an error. -/
def Nr (a b e : Rat) : Prop := a ≤ b + e ∧ b ≤ a + e
theorem Nr.mono {a b e f : Rat} (h : Nr a b e) (hf : e ≤ f) : Nr a b f := ⟨by have := h.1; grind, by have := h.2; grind⟩
theorem Nr.trans {a b c e f : Rat} (h : Nr a b e) (g : Nr b c f) : Nr a c (e + f) := ⟨by have := h.1; have := g.1; grind, by have := h.2; have := g.2; grind⟩
theorem Nr.symm {a b e : Rat} (h : Nr a b e) : Nr b a e := ⟨h.2, h.1⟩
theorem Nr.refl {a e : Rat} (h : 0 ≤ e) : Nr a a e := ⟨by grind, by grind⟩

/-- The operations, with absolute errors. -/
theorem nr_of_rnd {r : Nat} {v : Rat} (h : Rnd r v) {k : Int} (hk : -1022 ≤ k) (h1 : v ≤ p2 k) (h2 : -p2 k ≤ v) : IsFin r ∧ Nr (val r) v (p2 (k - 52)) := ⟨h.1, rnd_near h hk h1 h2⟩
theorem nr_add {x y : Nat} (hx : IsFin x) (hy : IsFin y) {k : Int} (h0 : -1022 ≤ k) (hk : k < 1023) (h1 : val x + val y ≤ p2 k) (h2 : -p2 k ≤ val x + val y) : IsFin (fadd x y) ∧ Nr (val (fadd x y)) (val x + val y) (p2 (k - 52)) := by
  have := p2_lt hk
  exact nr_of_rnd (fadd_rnd hx hy (by grind) (by grind)) h0 h1 h2
theorem nr_sub {x y : Nat} (hx : IsFin x) (hy : IsFin y) {k : Int} (h0 : -1022 ≤ k) (hk : k < 1023) (h1 : val x - val y ≤ p2 k) (h2 : -p2 k ≤ val x - val y) : IsFin (fsub x y) ∧ Nr (val (fsub x y)) (val x - val y) (p2 (k - 52)) := by
  have := p2_lt hk
  exact nr_of_rnd (fsub_rnd hx hy (by grind) (by grind)) h0 h1 h2
theorem nr_mul {x y : Nat} (hx : IsFin x) (hy : IsFin y) {k : Int} (h0 : -1022 ≤ k) (hk : k < 1023) (h1 : val x * val y ≤ p2 k) (h2 : -p2 k ≤ val x * val y) : IsFin (fmul x y) ∧ Nr (val (fmul x y)) (val x * val y) (p2 (k - 52)) := by
  have := p2_lt hk
  exact nr_of_rnd (fmul_rnd hx hy (by grind) (by grind)) h0 h1 h2
theorem nr_div {x y : Nat} (hx : IsFin x) (hy : IsFin y) (hy0 : val y ≠ 0) {v : Rat} (hv : v * val y = val x) {k : Int} (h0 : -1022 ≤ k) (hk : k < 1022) (h1 : v ≤ p2 k) (h2 : -p2 k ≤ v) : IsFin (fdiv x y) ∧ Nr (val (fdiv x y)) v (p2 (k - 52)) := by
  have := p2_lt hk
  exact nr_of_rnd (fdiv_rnd hx hy hy0 hv (by grind) (by grind)) h0 h1 h2
theorem p2_val (k : Nat) : p2 (-(k : Int)) * ((2 ^ k : Nat) : Rat) = 1 := by
  rw [← p2_nat, ← p2_add]
  have : -(k : Int) + (k : Int) = 0 := by omega
  rw [this]; rfl
end Fl
