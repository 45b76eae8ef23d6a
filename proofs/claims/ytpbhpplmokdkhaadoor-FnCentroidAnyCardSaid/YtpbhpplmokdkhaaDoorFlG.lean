/- Plain laws on floats of 64 bits: quotients of small whole numbers are ordered as the fractions are. -/
import Derived.Test.YtpbhpplmokdkhaaDoorFlF
set_option linter.unusedVariables false
namespace Fl
open Ieee

/-- W is V, rounded to a number of 53 digits, by half a unit at most. -/
def Half (W V : Rat) : Prop := ∃ (L : Int) (k : Nat), W = (k : Rat) * p2 L ∧ 2 * W ≤ 2 * V + p2 L ∧ 2 * V ≤ 2 * W + p2 L ∧ (L = -1074 ∨ p2 (L + 52) ≤ V) ∧ V < p2 (L + 53)

theorem half_sticky (s : Bool) (Q st : Nat) (place : Int) (V : Rat) (hst : st ≤ 1) (hQ : 2 ^ 53 ≤ Q) (hb : V < p2 1022)
    (h1 : 2 * (Q : Rat) * p2 place ≤ V) (h2 : V < 2 * (Q + 1) * p2 place) (h0 : st = 0 → V = 2 * Q * p2 place) :
    ∃ W, val (double.nearest s (2 * Q + st) place) = sg s * W ∧ Half W V := by
  have hp := p2_pos place
  have hmag0 : 2 * Q + st ≠ 0 := by have : 0 < 2 ^ 53 := by decide
                                    omega
  have hlog : 54 ≤ (2 * Q + st).log2 := by
    have : 2 ^ 54 ≤ 2 * Q + st := by have : 2 ^ 54 = 2 * 2 ^ 53 := by decide
                                     omega
    exact (Nat.le_log2 hmag0).2 this
  obtain ⟨l, hl⟩ : ∃ l, l = (2 * Q + st).log2 := ⟨_, rfl⟩
  have hlo : 2 ^ l ≤ 2 * Q + st := by rw [hl]; exact Nat.log2_self_le hmag0
  have hhi : 2 * Q + st < 2 ^ (l + 1) := by rw [hl]; exact Nat.lt_log2_self
  rw [← hl] at hlog
  have hlo2 : 2 ^ l ≤ 2 * Q := by
    obtain ⟨j, rfl⟩ : ∃ j, l = j + 1 := ⟨l - 1, by omega⟩
    rw [Nat.pow_succ] at hlo ⊢
    omega
  have hhi2 : 2 * (Q + 1) ≤ 2 ^ (l + 1) := by
    rw [Nat.pow_succ] at hhi ⊢
    omega
  have c2 : ((2 : Nat) : Rat) = 2 := rfl
  have c1 : ((1 : Nat) : Rat) = 1 := rfl
  have hlo3 : p2 (place + l) ≤ V := by
    have := Rat.mul_le_mul_of_nonneg_right (natr_le hlo2) (Rat.le_of_lt hp)
    rw [natr_mul, c2, ← p2_nat, ← p2_add] at this
    rw [Int.add_comm]; grind
  have hhi3 : V < p2 (place + l + 1) := by
    have := Rat.mul_le_mul_of_nonneg_right (natr_le hhi2) (Rat.le_of_lt hp)
    rw [natr_mul, c2, Rat.natCast_add, c1, ← p2_nat, ← p2_add] at this
    rw [show place + (l : Int) + 1 = ((l + 1 : Nat) : Int) + place by omega]; grind
  have hstr : (st : Rat) ≤ 1 := by have := natr_le hst; rw [c1] at this; exact this
  have hmagV : ((2 * Q + st : Nat) : Rat) * p2 place < p2 1023 := by
    have e : ((2 * Q + st : Nat) : Rat) = 2 * (Q : Rat) + (st : Rat) := by rw [Rat.natCast_add, natr_mul, c2]
    have h5 := Rat.mul_le_mul_of_nonneg_right hstr (Rat.le_of_lt hp)
    have h6 : p2 place ≤ V := by
      have : p2 place ≤ p2 (place + l) := p2_mono (by omega)
      grind
    have h7 : p2 1023 = 2 * p2 1022 := p2_succ 1022
    rw [e]; grind
  obtain ⟨m, e, hr, _, _, _, ⟨k, hk⟩, g1, g2, _⟩ := read_nearest s (2 * Q + st) place hmagV
  obtain ⟨L, hL⟩ : ∃ L, L = Fl.last (2 * Q + st) place := ⟨_, rfl⟩
  rw [← hL] at hk g1 g2
  have hL1 : L = -1074 ∨ L = place + l - 52 := by rw [hL, hl]; unfold Fl.last; omega
  have hL2 : place + l - 52 ≤ L := by rw [hL, hl]; unfold Fl.last; omega
  obtain ⟨d, hd⟩ : ∃ d : Nat, L = place + ((d + 2 : Nat) : Int) := ⟨(L - place - 2).toNat, by omega⟩
  have hpL : p2 L = ((4 * 2 ^ d : Nat) : Rat) * p2 place := by
    rw [hd, p2_add, p2_nat, Nat.pow_add, Nat.mul_comm 4 (2 ^ d), Rat.mul_comm]
  refine ⟨(m : Rat) * p2 e, ?_, L, k, hk, ?_, ?_, ?_, ?_⟩
  · rw [val_of hr]; grind
  · -- from above
    have n1 : 8 * (k * 2 ^ d) ≤ 4 * Q + 2 * st + 4 * 2 ^ d := by
      have : ((8 * (k * 2 ^ d) : Nat) : Rat) * p2 place ≤ ((4 * Q + 2 * st + 4 * 2 ^ d : Nat) : Rat) * p2 place := by
        rw [hk, hpL] at g1
        have a1 : ((8 * (k * 2 ^ d) : Nat) : Rat) = 2 * ((k : Rat) * ((4 * 2 ^ d : Nat) : Rat)) := by
          rw [natr_mul, natr_mul, natr_mul]
          have : ((8 : Nat) : Rat) = 8 := rfl
          have : ((4 : Nat) : Rat) = 4 := rfl
          grind
        have a2 : ((4 * Q + 2 * st + 4 * 2 ^ d : Nat) : Rat) = 2 * ((2 * Q + st : Nat) : Rat) + ((4 * 2 ^ d : Nat) : Rat) := by
          rw [Rat.natCast_add, Rat.natCast_add, Rat.natCast_add, natr_mul, natr_mul, natr_mul]
          have : ((4 : Nat) : Rat) = 4 := rfl
          grind
        rw [a1, a2]; grind
      exact Rat.natCast_le_natCast.1 (le_of_mul_le this hp)
    have n2 : 8 * (k * 2 ^ d) ≤ 4 * Q + 4 * 2 ^ d := by
      generalize k * 2 ^ d = t at *
      generalize 2 ^ d = D at *
      omega
    have := Rat.mul_le_mul_of_nonneg_right (natr_le n2) (Rat.le_of_lt hp)
    rw [hk, hpL]
    have a1 : ((8 * (k * 2 ^ d) : Nat) : Rat) = 2 * ((k : Rat) * ((4 * 2 ^ d : Nat) : Rat)) := by
      rw [natr_mul, natr_mul, natr_mul]
      have : ((8 : Nat) : Rat) = 8 := rfl
      have : ((4 : Nat) : Rat) = 4 := rfl
      grind
    have a2 : ((4 * Q + 4 * 2 ^ d : Nat) : Rat) = 4 * (Q : Rat) + ((4 * 2 ^ d : Nat) : Rat) := by
      rw [Rat.natCast_add, natr_mul 4 Q]
      have : ((4 : Nat) : Rat) = 4 := rfl
      grind
    rw [a1, a2] at this; grind
  · have n1 : 4 * Q + 2 * st ≤ 8 * (k * 2 ^ d) + 4 * 2 ^ d := by
      have : ((4 * Q + 2 * st : Nat) : Rat) * p2 place ≤ ((8 * (k * 2 ^ d) + 4 * 2 ^ d : Nat) : Rat) * p2 place := by
        rw [hk, hpL] at g2
        have a1 : ((8 * (k * 2 ^ d) + 4 * 2 ^ d : Nat) : Rat) = 2 * ((k : Rat) * ((4 * 2 ^ d : Nat) : Rat)) + ((4 * 2 ^ d : Nat) : Rat) := by
          rw [Rat.natCast_add, natr_mul, natr_mul, natr_mul]
          have : ((8 : Nat) : Rat) = 8 := rfl
          have : ((4 : Nat) : Rat) = 4 := rfl
          grind
        have a2 : ((4 * Q + 2 * st : Nat) : Rat) = 2 * ((2 * Q + st : Nat) : Rat) := by
          rw [Rat.natCast_add, Rat.natCast_add, natr_mul, natr_mul, natr_mul]
          have : ((4 : Nat) : Rat) = 4 := rfl
          grind
        rw [a1, a2]; grind
      exact Rat.natCast_le_natCast.1 (le_of_mul_le this hp)
    rw [hk, hpL]
    have a1 : ((8 * (k * 2 ^ d) + 4 * 2 ^ d : Nat) : Rat) = 2 * ((k : Rat) * ((4 * 2 ^ d : Nat) : Rat)) + ((4 * 2 ^ d : Nat) : Rat) := by
      rw [Rat.natCast_add, natr_mul, natr_mul, natr_mul]
      have : ((8 : Nat) : Rat) = 8 := rfl
      have : ((4 : Nat) : Rat) = 4 := rfl
      grind
    by_cases hs0 : st = 0
    · have hV := h0 hs0
      have := Rat.mul_le_mul_of_nonneg_right (natr_le n1) (Rat.le_of_lt hp)
      have a2 : ((4 * Q + 2 * st : Nat) : Rat) = 4 * (Q : Rat) := by
        rw [hs0, Nat.mul_zero, Nat.add_zero, natr_mul]
        rfl
      rw [a1, a2] at this; rw [hV]; grind
    · have n2 : 4 * (Q + 1) ≤ 8 * (k * 2 ^ d) + 4 * 2 ^ d := by
        generalize k * 2 ^ d = t at *
        generalize 2 ^ d = D at *
        omega
      have := Rat.mul_le_mul_of_nonneg_right (natr_le n2) (Rat.le_of_lt hp)
      have a2 : ((4 * (Q + 1) : Nat) : Rat) = 4 * ((Q : Rat) + 1) := by
        rw [natr_mul, Rat.natCast_add]
        rfl
      rw [a1, a2] at this; grind
  · rcases hL1 with h | h
    · exact .inl h
    · right
      rw [show L + 52 = place + l by omega]; exact hlo3
  · have := p2_mono (show place + (l : Int) + 1 ≤ L + 53 by omega)
    grind

theorem fdiv_half {x y : Nat} (hx : IsFin x) (hy : IsFin y) (h0 : val y ≠ 0) (hx0 : val x ≠ 0) {v : Rat} (hv : v * val y = val x) (h1 : v < p2 1022) (h2 : -p2 1022 < v) :
    ∃ s W V, val (fdiv x y) = sg s * W ∧ v = sg s * V ∧ 0 ≤ V ∧ Half W V := by
  obtain ⟨s, m, i, hx⟩ := hx
  obtain ⟨t, n, j, hy⟩ := hy
  have hn : n ≠ 0 := by
    rintro rfl
    rw [val_of hy] at h0
    have : ((0 : Nat) : Rat) = 0 := rfl
    rw [this] at h0; exact h0 (by grind)
  have hm0 : m ≠ 0 := by
    rintro rfl
    rw [val_of hx] at hx0
    have : ((0 : Nat) : Rat) = 0 := rfl
    rw [this] at hx0; exact hx0 (by grind)
  have hm := (fin_bounds hx).1
  unfold fdiv Format.div
  rw [hx, hy]
  simp only [Datum.quotient, if_neg hn, Option.map_some, Option.getD_some, fb]
  have hst : sg (s ^^ t) * sg (s ^^ t) = 1 := by cases s <;> cases t <;> simp [sg] <;> grind
  obtain ⟨V, hV⟩ : ∃ V, V = sg (s ^^ t) * v := ⟨_, rfl⟩
  have hvV : v = sg (s ^^ t) * V := by rw [hV]; grind
  have hVn : V * n * p2 j = m * p2 i := by
    rw [val_of hx, val_of hy] at hv
    rw [hV]
    cases s <;> cases t <;> simp only [sg, Bool.xor_false, Bool.xor_true, Bool.not_false, Bool.not_true] at hv ⊢ <;> grind
  have hVb : V < p2 1022 := by rw [hV]; cases s <;> cases t <;> simp only [sg, Bool.xor_false, Bool.xor_true, Bool.not_false, Bool.not_true] <;> grind
  have hnp : (0 : Rat) < n := by have := natr_lt (show 0 < n by omega); exact this
  have hlm : m.log2 ≤ 52 := by
    have := (Nat.log2_lt hm0 (k := 53)).2 (by omega)
    omega
  obtain ⟨more, hmore⟩ : ∃ more, more = 52 + 2 + n.log2 - m.log2 := ⟨_, rfl⟩
  rw [← hmore]
  obtain ⟨D, hD⟩ : ∃ D, D = m <<< more := ⟨_, rfl⟩
  rw [← hD]
  have hDm : D = m * 2 ^ more := by rw [hD, Nat.shiftLeft_eq]
  have hdm := Nat.div_add_mod D n
  have hlt := Nat.mod_lt D (show 0 < n by omega)
  have hQ : 2 ^ 53 ≤ D / n := by
    rw [Nat.le_div_iff_mul_le (by omega)]
    have h5 : n < 2 ^ (n.log2 + 1) := Nat.lt_log2_self
    have h6 : 2 ^ m.log2 * 2 ^ more ≤ m * 2 ^ more := Nat.mul_le_mul_right _ (Nat.log2_self_le hm0)
    rw [← Nat.pow_add, ← hDm] at h6
    have h7 : m.log2 + more = 53 + (n.log2 + 1) := by omega
    rw [h7, Nat.pow_add] at h6
    exact Nat.le_trans (Nat.mul_le_mul_left _ (Nat.le_of_lt h5)) h6
  obtain ⟨u, hu⟩ : ∃ u, u = i - j - (more : Int) - 1 := ⟨_, rfl⟩
  rw [← hu]
  have hpu := p2_pos u
  have hVD : V * n = 2 * D * p2 u := by
    have hpj := p2_pos j
    refine mul_cancel (c := p2 j) ?_ hpj
    rw [hVn]
    have e1 : i = (more : Int) + 1 + u + j := by omega
    rw [e1, p2_add, p2_add, p2_succ, p2_nat, hDm, natr_mul]
    grind
  generalize D / n = Q at *
  generalize D % n = R at *
  have hDR : (D : Rat) = n * Q + R := by rw [← natr_mul, ← Rat.natCast_add, hdm]
  have hRn : (R : Rat) < n := natr_lt hlt
  have hR0 : (0 : Rat) ≤ R := natr_nonneg R
  have k1 := Rat.mul_le_mul_of_nonneg_right hR0 (Rat.le_of_lt hpu)
  have k2 := Rat.mul_lt_mul_of_pos_right hRn hpu
  have hb : (R != 0).toNat ≤ 1 := by cases (R != 0) <;> decide
  have c1 : 2 * (Q : Rat) * p2 u ≤ V := le_of_mul_le (c := n) (by rw [hVD, hDR]; grind) hnp
  have hV0 : 0 ≤ V := by
    have := Rat.mul_nonneg (natr_nonneg Q) (Rat.le_of_lt hpu)
    grind
  obtain ⟨W, w1, w2⟩ := half_sticky (s ^^ t) Q (R != 0).toNat u V hb hQ hVb c1 (lt_of_mul_lt (c := n) (by rw [hVD, hDR]; grind) hnp) (by
    intro h
    have hR : R = 0 := by
      by_cases hR : R = 0
      · exact hR
      · simp [hR] at h
    have hz : (R : Rat) = 0 := by rw [hR]; rfl
    refine mul_cancel (c := n) ?_ hnp
    rw [hVD, hDR, hz]; grind)
  exact ⟨s ^^ t, W, V, w1, hvV, hV0, w2⟩

/-- Halfway between two numbers of 53 digits there is no fraction of small numbers. -/
theorem no_tie {a b k : Nat} {V : Rat} {L : Int} (ha : a ≤ 65536) (ha0 : a ≠ 0) (hV : V * (b : Rat) = (a : Rat)) (ht : 2 * V = (2 * (k : Rat) + 1) * p2 L) (hk : 2 ^ 50 ≤ k) : False := by
  have c2 : ((2 : Nat) : Rat) = 2 := rfl
  have c1 : ((1 : Nat) : Rat) = 1 := rfl
  have e1 : (b : Rat) * (2 * (k : Rat) + 1) * p2 L = 2 * (a : Rat) := by rw [← hV]; grind
  have hcast : (b : Rat) * (2 * (k : Rat) + 1) = ((b * (2 * k + 1) : Nat) : Rat) := by rw [natr_mul, Rat.natCast_add, natr_mul, c2, c1]
  rw [hcast] at e1
  by_cases hL : 0 ≤ L
  · have e2 : p2 L = ((2 ^ L.toNat : Nat) : Rat) := by
      have := p2_nat L.toNat
      rw [show ((L.toNat : Nat) : Int) = L by omega] at this
      exact this
    rw [e2, ← natr_mul] at e1
    have e3 : ((2 * a : Nat) : Rat) = 2 * (a : Rat) := by rw [natr_mul, c2]
    rw [← e3] at e1
    have e4 : b * (2 * k + 1) * 2 ^ L.toNat = 2 * a := Rat.natCast_inj.1 e1
    have hb : b ≠ 0 := by rintro rfl; simp at e4; omega
    have h5 : 2 * k + 1 ≤ b * (2 * k + 1) * 2 ^ L.toNat := by
      have := Nat.le_mul_of_pos_left (2 * k + 1) (show 0 < b by omega)
      exact Nat.le_trans this (Nat.le_mul_of_pos_right _ (Nat.two_pow_pos _))
    have : 2 ^ 50 = 1125899906842624 := by decide
    omega
  · have e2 : p2 L * ((2 ^ (-L).toNat : Nat) : Rat) = 1 := by
      rw [← p2_nat, ← p2_add, show L + (((-L).toNat : Nat) : Int) = 0 by omega]; rfl
    obtain ⟨n, hn⟩ : ∃ n, n = (-L).toNat := ⟨_, rfl⟩
    rw [← hn] at e2
    have e3 : ((b * (2 * k + 1) : Nat) : Rat) = ((2 ^ (n + 1) * a : Nat) : Rat) := by
      have : ((2 ^ (n + 1) * a : Nat) : Rat) = ((2 ^ n : Nat) : Rat) * (2 * (a : Rat)) := by rw [Nat.pow_succ, natr_mul, natr_mul, c2]; grind
      rw [this, ← e1]
      grind
    have e4 : b * (2 * k + 1) = 2 ^ (n + 1) * a := Rat.natCast_inj.1 e3
    have hc : Nat.Coprime (2 * k + 1) 2 := by
      unfold Nat.Coprime
      rw [Nat.gcd_comm, Nat.gcd_rec]
      have : (2 * k + 1) % 2 = 1 := by omega
      rw [this]; rfl
    have hdvd : (2 * k + 1) ∣ 2 ^ (n + 1) * a := ⟨b, by rw [← e4, Nat.mul_comm]⟩
    have h5 := (hc.pow_right (n + 1)).dvd_of_dvd_mul_left hdvd
    have h6 := Nat.le_of_dvd (by omega) h5
    have : 2 ^ 50 = 1125899906842624 := by decide
    omega

theorem half_unique {a b : Nat} {V W W' : Rat} (ha : a ≤ 65536) (ha0 : a ≠ 0) (hb : b ≤ 65536) (hV : V * (b : Rat) = (a : Rat)) (h : Half W V) (h' : Half W' V) : W = W' := by
  obtain ⟨L, k, w1, w2, w3, w4, w5⟩ := h
  obtain ⟨L', k', v1, v2, v3, v4, v5⟩ := h'
  have hb0 : b ≠ 0 := by
    rintro rfl
    have e0 : ((0 : Nat) : Rat) = 0 := rfl
    rw [e0, Rat.mul_zero] at hV
    have := Rat.natCast_inj.1 (hV.symm.trans e0.symm)
    exact ha0 this
  have hbp : (0 : Rat) < (b : Rat) := natr_lt (show 0 < b by omega)
  have hb1 : (b : Rat) ≤ ((65536 : Nat) : Rat) := natr_le hb
  have ha1 : ((1 : Nat) : Rat) ≤ (a : Rat) := natr_le (show 1 ≤ a by omega)
  have c1 : ((1 : Nat) : Rat) = 1 := rfl
  have hVp : 0 < V := lt_of_mul_lt (c := (b : Rat)) (by rw [hV]; grind) hbp
  have hVlo : p2 (-16) ≤ V := by
    have e := p2_val 16
    have e' : p2 (-((16 : Nat) : Int)) = p2 (-16) := rfl
    have e2 : ((2 ^ 16 : Nat) : Rat) = ((65536 : Nat) : Rat) := rfl
    rw [e', e2] at e
    have h5 := Rat.mul_le_mul_of_nonneg_left hb1 (Rat.le_of_lt hVp)
    refine le_of_mul_le (c := ((65536 : Nat) : Rat)) ?_ (natr_lt (show 0 < 65536 by decide))
    rw [e]; grind
  have hw : ∀ {M : Int}, V < p2 (M + 53) → (M = -1074 ∨ p2 (M + 52) ≤ V) → p2 (M + 52) ≤ V := by
    intro M h1 h2
    rcases h2 with h2 | h2
    · subst h2
      have := p2_mono (show (-1074 : Int) + 53 ≤ -16 by omega)
      grind
    · exact h2
  have x4 := hw w5 w4
  have y4 := hw v5 v4
  have hLL : L = L' := by
    rcases Int.lt_trichotomy L L' with hlt | he | hlt
    · have := p2_mono (show L + 53 ≤ L' + 52 by omega); grind
    · exact he
    · have := p2_mono (show L' + 53 ≤ L + 52 by omega); grind
  subst hLL
  have hpL := p2_pos L
  have key : ∀ {p q : Nat}, 2 * ((p : Rat) * p2 L) ≤ 2 * V + p2 L → 2 * V ≤ 2 * ((q : Rat) * p2 L) + p2 L → q < p → False := by
    intro p q h1 h2 hlt
    have h5 : ((q + 1 : Nat) : Rat) * p2 L ≤ (p : Rat) * p2 L := Rat.mul_le_mul_of_nonneg_right (natr_le hlt) (Rat.le_of_lt hpL)
    rw [Rat.natCast_add, c1] at h5
    have ht : 2 * V = (2 * (q : Rat) + 1) * p2 L := by grind
    refine no_tie ha ha0 hV ht ?_
    have h6 : p2 (L + 53) = 2 * p2 (L + 52) := by rw [show L + 53 = (L + 52) + 1 by omega, p2_succ]
    have h7 : p2 (L + 52) = ((2 ^ 52 : Nat) : Rat) * p2 L := by rw [show L + 52 = ((52 : Nat) : Int) + L by omega, p2_add, p2_nat]
    have h8 : ((2 ^ 53 : Nat) : Rat) * p2 L ≤ ((2 * q + 1 : Nat) : Rat) * p2 L := by
      have c2 : ((2 : Nat) : Rat) = 2 := rfl
      have e53 : ((2 ^ 53 : Nat) : Rat) = 2 * ((2 ^ 52 : Nat) : Rat) := by rw [← c2, ← natr_mul]
      rw [Rat.natCast_add, natr_mul, c2, c1, e53]
      grind
    have h9 : 2 ^ 53 ≤ 2 * q + 1 := Rat.natCast_le_natCast.1 (le_of_mul_le h8 hpL)
    have e1 : 2 ^ 53 = 9007199254740992 := by decide
    have e2 : 2 ^ 50 = 1125899906842624 := by decide
    omega
  rw [w1, v1]
  rw [w1] at w2 w3
  rw [v1] at v2 v3
  rcases Nat.lt_trichotomy k k' with hlt | he | hlt
  · exact (key v2 w3 hlt).elim
  · rw [he]
  · exact (key w2 v3 hlt).elim
end Fl
