/- Plain laws on floats of 64 bits: quotients and roots. -/
import Derived.Test.YtpbhpplmokdkhaaDoorFlB
namespace Fl
open Ieee

theorem le_of_mul_le {a b c : Rat} (h : a * c ≤ b * c) (hc : 0 < c) : a ≤ b := Rat.le_of_mul_le_mul_right h hc
theorem lt_of_mul_lt {a b c : Rat} (h : a * c < b * c) (hc : 0 < c) : a < b := Rat.lt_of_mul_lt_mul_right h (Rat.le_of_lt hc)
theorem mul_cancel {a b c : Rat} (h : a * c = b * c) (hc : 0 < c) : a = b :=
  Rat.le_antisymm (le_of_mul_le (by grind) hc) (le_of_mul_le (by grind) hc)

/-- A datum that is a little off a number is rounded as the number is. -/
theorem rnd_sticky (s : Bool) (Q st : Nat) (place : Int) (V : Rat) (hst : st ≤ 1) (hQ : 2 ^ 53 ≤ Q) (hb : V < p2 1022)
    (h1 : 2 * (Q : Rat) * p2 place ≤ V) (h2 : V < 2 * (Q + 1) * p2 place) (h0 : st = 0 → V = 2 * Q * p2 place) (h3 : (∃ N : Int, V = 2 * N * p2 place) → st = 0) :
    Rnd (double.nearest s (2 * Q + st) place) (sg s * V) := by
  have hp := p2_pos place
  have hwv : ((2 * Q + st : Nat) : Rat) * p2 place = 2 * Q * p2 place + st * p2 place := by
    rw [Rat.natCast_add, natr_mul]
    have : ((2 : Nat) : Rat) = 2 := rfl
    rw [this]; grind
  have hst2 : (st : Rat) * p2 place ≤ p2 place ∧ 0 ≤ (st : Rat) * p2 place := by
    have : (st : Rat) ≤ ((1 : Nat) : Rat) := natr_le hst
    have e : ((1 : Nat) : Rat) = 1 := rfl
    have h5 := Rat.mul_le_mul_of_nonneg_right this (Rat.le_of_lt hp)
    have h6 := Rat.mul_nonneg (natr_nonneg st) (Rat.le_of_lt hp)
    rw [e] at h5
    grind
  have hV0 : 0 ≤ V := by
    have := Rat.mul_nonneg (natr_nonneg Q) (Rat.le_of_lt hp)
    grind
  have hmag0 : 2 * Q + st ≠ 0 := by have : 0 < 2 ^ 53 := by decide
                                    omega
  have hlog : 54 ≤ (2 * Q + st).log2 := by
    have : 2 ^ 54 ≤ 2 * Q + st := by have : 2 ^ 54 = 2 * 2 ^ 53 := by decide
                                     omega
    exact (Nat.le_log2 hmag0).2 this
  have hL : place + 2 ≤ last (2 * Q + st) place := by unfold last; omega
  have hu : 4 * p2 place ≤ p2 (last (2 * Q + st) place) := by
    have := p2_mono hL
    have e1 : p2 (place + 2) = 4 * p2 place := by rw [show place + 2 = place + 1 + 1 by omega, p2_succ, p2_succ]; grind
    grind
  have hQp : p2 place ≤ Q * p2 place := by
    have h5 : ((1 : Nat) : Rat) ≤ (Q : Rat) := natr_le (by have : 0 < 2 ^ 53 := by decide
                                                           omega)
    have := Rat.mul_le_mul_of_nonneg_right h5 (Rat.le_of_lt hp)
    have e : ((1 : Nat) : Rat) = 1 := rfl
    rw [e] at this; grind
  have e23 : p2 1023 = 2 * p2 1022 := p2_succ 1022
  obtain ⟨m, e, hr, _, _, _, _, b1, b2, b3⟩ := read_nearest s (2 * Q + st) place (by rw [hwv]; grind)
  rw [hwv] at b1 b2 b3
  have hv := val_of hr
  refine ⟨⟨s, m, e, hr⟩, last (2 * Q + st) place, last_ge _ _, ?_, ?_, ?_, ?_⟩
  · by_cases h : last (2 * Q + st) place = -1074
    · exact .inl h
    · right
      have hl : last (2 * Q + st) place + 52 = place + (2 * Q + st).log2 := by unfold last at *; omega
      have h5 : p2 (last (2 * Q + st) place + 52) ≤ 2 * Q * p2 place := by
        rw [hl, Int.add_comm, p2_add, p2_nat]
        refine Rat.mul_le_mul_of_nonneg_right ?_ (Rat.le_of_lt hp)
        have h6 : 2 ^ (2 * Q + st).log2 ≤ 2 * Q := by
          have h7 := Nat.log2_self_le hmag0
          obtain ⟨g, hg⟩ : ∃ g, (2 * Q + st).log2 = g + 1 := ⟨(2 * Q + st).log2 - 1, by omega⟩
          rw [hg, Nat.pow_succ] at h7 ⊢
          omega
        have h8 := natr_le h6
        rw [natr_mul] at h8
        exact h8
      cases s
      · left; simp only [sg]; grind
      · right; simp only [sg]; grind
  · rw [hv]; cases s <;> simp only [sg] <;> grind
  · rw [hv]; cases s <;> simp only [sg] <;> grind
  · rintro ⟨c, hc⟩
    have hpL := p2_pos (last (2 * Q + st) place)
    have hVc := intr_natAbs c s V _ hc hV0 hpL
    have hsp := p2_split (show place ≤ last (2 * Q + st) place by omega)
    obtain ⟨G, hG⟩ : ∃ G, (last (2 * Q + st) place - place).toNat = G + 1 := ⟨(last (2 * Q + st) place - place).toNat - 1, by omega⟩
    rw [hG, Nat.pow_succ, natr_mul] at hsp
    have e2 : ((2 : Nat) : Rat) = 2 := rfl
    rw [e2] at hsp
    have hs0 := h3 ⟨((c.natAbs * 2 ^ G : Nat) : Int), by
      have : (((c.natAbs * 2 ^ G : Nat) : Int) : Rat) = ((c.natAbs * 2 ^ G : Nat) : Rat) := rfl
      rw [this, natr_mul, hVc, hsp]; grind⟩
    have hw := h0 hs0
    have hz : (st : Rat) = 0 := by rw [hs0]; rfl
    rw [hz] at b3
    have := b3 ⟨c.natAbs, by rw [← hVc, hw]; grind⟩
    rw [hv]
    cases s <;> simp only [sg] <;> grind

theorem div_some {x y : Nat} (hx : IsFin x) (hy : IsFin y) (h0 : val y ≠ 0) : double.div x y = some (fdiv x y) := by
  obtain ⟨s, m, i, hx⟩ := hx
  obtain ⟨t, n, j, hy⟩ := hy
  have hn : n ≠ 0 := by
    rintro rfl
    rw [val_of hy] at h0
    have : ((0 : Nat) : Rat) = 0 := rfl
    rw [this] at h0; exact h0 (by grind)
  unfold fdiv Format.div
  rw [hx, hy]
  simp only [Datum.quotient, if_neg hn]
  rfl

theorem fdiv_rnd {x y : Nat} (hx : IsFin x) (hy : IsFin y) (h0 : val y ≠ 0) {v : Rat} (hv : v * val y = val x) (h1 : v < p2 1022) (h2 : -p2 1022 < v) : Rnd (fdiv x y) v := by
  obtain ⟨s, m, i, hx⟩ := hx
  obtain ⟨t, n, j, hy⟩ := hy
  have hn : n ≠ 0 := by
    rintro rfl
    rw [val_of hy] at h0
    have : ((0 : Nat) : Rat) = 0 := rfl
    rw [this] at h0; exact h0 (by grind)
  have hm := (fin_bounds hx).1
  unfold fdiv Format.div
  rw [hx, hy]
  simp only [Datum.quotient, if_neg hn, Option.map_some, Option.getD_some, fb]
  -- the number without its sign
  have hst : sg (s ^^ t) * sg (s ^^ t) = 1 := by cases s <;> cases t <;> simp [sg] <;> grind
  obtain ⟨V, hV⟩ : ∃ V, V = sg (s ^^ t) * v := ⟨_, rfl⟩
  have hvV : v = sg (s ^^ t) * V := by rw [hV]; grind
  have hVn : V * n * p2 j = m * p2 i := by
    rw [val_of hx, val_of hy] at hv
    rw [hV]
    cases s <;> cases t <;> simp only [sg, Bool.xor_false, Bool.xor_true, Bool.not_false, Bool.not_true] at hv ⊢ <;> grind
  have hVb : V < p2 1022 := by rw [hV]; cases s <;> cases t <;> simp only [sg, Bool.xor_false, Bool.xor_true, Bool.not_false, Bool.not_true] <;> grind
  have hnp : (0 : Rat) < n := by have := natr_lt (show 0 < n by omega); exact this
  by_cases hm0 : m = 0
  · subst hm0
    have hz : ((0 : Nat) : Rat) = 0 := rfl
    rw [hz] at hVn
    have hV0 : V = 0 := by
      have hpj := p2_pos j
      have : V * (n * p2 j) = 0 * (n * p2 j) := by grind
      exact mul_cancel this (Rat.mul_pos hnp hpj)
    have := rnd_write (s ^^ t) 0 (i - j - ((52 + 2 + n.log2 - Nat.log2 0 : Nat) : Int) - 1) (by rw [hz]; have := p2_pos 1023; grind)
    rw [hz] at this
    rw [hvV, hV0]
    have e : sg (s ^^ t) * 0 * p2 (i - j - ((52 + 2 + n.log2 - Nat.log2 0 : Nat) : Int) - 1) = sg (s ^^ t) * 0 := by grind
    rw [e, Rat.mul_zero] at this
    have e2 : 2 * ((0 <<< (52 + 2 + n.log2 - Nat.log2 0)) / n) + ((0 <<< (52 + 2 + n.log2 - Nat.log2 0)) % n != 0).toNat = 0 := by simp
    rw [e2, Rat.mul_zero]
    exact this
  · have hlm : m.log2 ≤ 52 := by
      have := (Nat.log2_lt hm0 (k := 53)).2 (by omega)
      omega
    obtain ⟨more, hmore⟩ : ∃ more, more = 52 + 2 + n.log2 - m.log2 := ⟨_, rfl⟩
    rw [← hmore]
    obtain ⟨D, hD⟩ : ∃ D, D = m <<< more := ⟨_, rfl⟩
    rw [← hD]
    have hDm : D = m * 2 ^ more := by rw [hD, Nat.shiftLeft_eq]
    have hdm := Nat.div_add_mod D n
    have hlt := Nat.mod_lt D (show 0 < n by omega)
    have hQ : 2 ^ 53 ≤ D / n := by
      rw [Nat.le_div_iff_mul_le (by omega)]
      have h5 : n < 2 ^ (n.log2 + 1) := Nat.lt_log2_self
      have h6 : 2 ^ m.log2 * 2 ^ more ≤ m * 2 ^ more := Nat.mul_le_mul_right _ (Nat.log2_self_le hm0)
      rw [← Nat.pow_add, ← hDm] at h6
      have h7 : m.log2 + more = 53 + (n.log2 + 1) := by omega
      rw [h7, Nat.pow_add] at h6
      exact Nat.le_trans (Nat.mul_le_mul_left _ (Nat.le_of_lt h5)) h6
    obtain ⟨u, hu⟩ : ∃ u, u = i - j - (more : Int) - 1 := ⟨_, rfl⟩
    rw [← hu]
    have hpu := p2_pos u
    have hVD : V * n = 2 * D * p2 u := by
      have hpj := p2_pos j
      refine mul_cancel (c := p2 j) ?_ hpj
      rw [hVn]
      have e1 : i = (more : Int) + 1 + u + j := by omega
      rw [e1, p2_add, p2_add, p2_succ, p2_nat, hDm, natr_mul]
      grind
    generalize D / n = Q at *
    generalize D % n = R at *
    have hDR : (D : Rat) = n * Q + R := by rw [← natr_mul, ← Rat.natCast_add, hdm]
    have hRn : (R : Rat) < n := natr_lt hlt
    have hR0 : (0 : Rat) ≤ R := natr_nonneg R
    have k1 := Rat.mul_le_mul_of_nonneg_right hR0 (Rat.le_of_lt hpu)
    have k2 := Rat.mul_lt_mul_of_pos_right hRn hpu
    have hb : (R != 0).toNat ≤ 1 := by cases (R != 0) <;> decide
    rw [hvV]
    refine rnd_sticky (s ^^ t) Q (R != 0).toNat u V hb hQ hVb (le_of_mul_le (c := n) ?_ hnp) (lt_of_mul_lt (c := n) ?_ hnp) ?_ ?_
    · rw [hVD, hDR]; grind
    · rw [hVD, hDR]; grind
    · intro h
      have hR : R = 0 := by
        by_cases hR : R = 0
        · exact hR
        · simp [hR] at h
      have hz : (R : Rat) = 0 := by rw [hR]; rfl
      refine mul_cancel (c := n) ?_ hnp
      rw [hVD, hDR, hz]; grind
    · rintro ⟨N, hN⟩
      rw [hN, hDR] at hVD
      have h5 : ((N * n : Int) : Rat) = (((n * Q + R : Nat) : Int) : Rat) := by
        have e1 : (((n * Q + R : Nat) : Int) : Rat) = ((n * Q + R : Nat) : Rat) := rfl
        rw [Rat.intCast_mul, e1, Rat.natCast_add, natr_mul]
        have e2 : (((n : Nat) : Int) : Rat) = (n : Rat) := rfl
        rw [e2]
        refine mul_cancel (c := p2 u) ?_ hpu
        grind
      have h6 : N * (n : Int) = ((n * Q + R : Nat) : Int) := Rat.intCast_inj.1 h5
      have h7 : (n : Int) ∣ (R : Int) := by
        have : (R : Int) = N * n - n * Q := by rw [h6]; simp; omega
        rw [this]
        exact ⟨N - Q, by rw [Int.mul_sub, Int.mul_comm]⟩
      have h8 : n ∣ R := Int.ofNat_dvd.1 h7
      have hR : R = 0 := by
        rcases Nat.eq_zero_or_pos R with h | h
        · exact h
        · have := Nat.le_of_dvd h h8; omega
      rw [hR]; rfl

theorem rootFrom_spec (n : Nat) : ∀ (todo root : Nat), root * root ≤ n → n < (root + 2 ^ todo) * (root + 2 ^ todo) →
    Datum.rootFrom n todo root * Datum.rootFrom n todo root ≤ n ∧ n < (Datum.rootFrom n todo root + 1) * (Datum.rootFrom n todo root + 1) := by
  intro todo
  induction todo with
  | zero => intro root h1 h2; exact ⟨h1, h2⟩
  | succ k ih =>
    intro root h1 h2
    unfold Datum.rootFrom
    simp only [Nat.one_shiftLeft]
    split
    · rename_i h
      refine ih _ h ?_
      have e : root + 2 ^ k + 2 ^ k = root + 2 ^ (k + 1) := by rw [Nat.pow_succ]; omega
      rw [e]; exact h2
    · exact ih _ h1 (by omega)

theorem sqrt_some {x : Nat} (hx : IsFin x) (h : 0 ≤ val x) : double.sqrt x = some (fsqrt x) := by
  obtain ⟨s, m, i, hx⟩ := hx
  unfold fsqrt Format.sqrt
  rw [hx]
  rw [val_of hx] at h
  simp only [Datum.root]
  by_cases hm : m = 0
  · rw [if_pos hm]; rfl
  · rw [if_neg hm]
    cases s
    · rfl
    · exfalso
      have hp := p2_pos i
      have hmp : (0 : Rat) < m := by have := natr_lt (show 0 < m by omega); exact this
      have := Rat.mul_pos hmp hp
      simp only [sg] at h
      grind

theorem sq_lt {a b : Rat} (hb : 0 ≤ b) (h : a * a < b * b) : a < b := by
  by_cases hab : a < b
  · exact hab
  · have h1 : b ≤ a := by grind
    have h2 := Rat.mul_le_mul_of_nonneg_right h1 hb
    have h3 := Rat.mul_le_mul_of_nonneg_left h1 (show 0 ≤ a by grind)
    grind
theorem sq_le {a b : Rat} (hb : 0 ≤ b) (h : a * a ≤ b * b) : a ≤ b := by
  by_cases hab : a ≤ b
  · exact hab
  · have h1 : b < a := by grind
    have h2 := Rat.mul_le_mul_of_nonneg_right (Rat.le_of_lt h1) hb
    have h3 := Rat.mul_lt_mul_of_pos_left h1 (show 0 < a by grind)
    grind

/-- What the root of a number that is not below 0 is: near, and whole where it can be. -/
theorem fsqrt_spec {x : Nat} (hx : IsFin x) (h : 0 ≤ val x) :
    IsFin (fsqrt x) ∧ 0 ≤ val (fsqrt x) ∧
    (∀ a : Rat, 0 ≤ a → a * a ≤ val x → a ≤ val (fsqrt x) + val (fsqrt x) * p2 (-50)) ∧
    (∀ b : Rat, 0 ≤ b → val x ≤ b * b → val (fsqrt x) ≤ b + b * p2 (-50)) ∧
    (∀ (c : Nat) (q : Int), c ≤ 9007199254740992 → -1074 ≤ q → val x = (c * p2 q) * (c * p2 q) → val (fsqrt x) = c * p2 q) := by
  obtain ⟨s, m, i, hx⟩ := hx
  have hb := fin_bounds hx
  have h50 := p2_pos (-50)
  by_cases hm0 : m = 0
  · have hv : val x = 0 := by
      rw [val_of hx, hm0]
      have : ((0 : Nat) : Rat) = 0 := rfl
      rw [this]; grind
    have hz : ((0 : Nat) : Rat) = 0 := rfl
    have hr := rnd_write s 0 i (by rw [hz]; have := p2_pos 1023; grind)
    have hf : fsqrt x = double.nearest s 0 i := by
      unfold fsqrt Format.sqrt
      rw [hx]; simp only [Datum.root]; rw [if_pos hm0, hm0]; rfl
    have h0 : val (fsqrt x) = 0 := by
      rw [hf, rnd_exact hr (c := 0) (q := 0) (by rw [hz]; have : ((0 : Int) : Rat) = 0 := rfl
                                                 rw [this]; grind) (by omega) (by omega), hz]; grind
    rw [h0, hv]
    refine ⟨by rw [hf]; exact hr.1, Rat.le_refl, ?_, ?_, ?_⟩
    · intro a ha haa
      have := sq_le (b := 0) Rat.le_refl (show a * a ≤ 0 * 0 by grind)
      grind
    · intro b hb _
      have := Rat.mul_nonneg hb (Rat.le_of_lt h50)
      grind
    · intro c q _ _ hcq
      rcases Rat.mul_eq_zero.1 hcq.symm with h | h <;> exact h.symm
  · have hs : s = false := by
      cases s
      · rfl
      · exfalso
        rw [val_of hx] at h
        have hp := p2_pos i
        have hmp : (0 : Rat) < m := by have := natr_lt (show 0 < m by omega); exact this
        have := Rat.mul_pos hmp hp
        simp only [sg] at h
        grind
    subst hs
    have hlm : m.log2 ≤ 52 := by
      have := (Nat.log2_lt hm0 (k := 53)).2 (by omega)
      omega
    obtain ⟨more, hmore⟩ : ∃ more, more = 2 * (52 + 2) - m.log2 + ((i - ((2 * (52 + 2) - m.log2 : Nat) : Int)) % 2).toNat := ⟨_, rfl⟩
    obtain ⟨h', hh⟩ : ∃ h' : Int, h' = (i - (more : Int)) / 2 := ⟨_, rfl⟩
    have h2h : i = (more : Int) + h' + h' := by omega
    obtain ⟨n, hn⟩ : ∃ n, n = m <<< more := ⟨_, rfl⟩
    have hnm : n = m * 2 ^ more := by rw [hn, Nat.shiftLeft_eq]
    obtain ⟨W, hW⟩ : ∃ W, W = Datum.rootFrom n (n.log2 / 2 + 1) 0 := ⟨_, rfl⟩
    have hnbig : 2 ^ 108 ≤ n := by
      have h6 : 2 ^ m.log2 * 2 ^ more ≤ m * 2 ^ more := Nat.mul_le_mul_right _ (Nat.log2_self_le hm0)
      rw [← Nat.pow_add, ← hnm] at h6
      exact Nat.le_trans (Nat.pow_le_pow_right (by omega) (by omega)) h6
    have hspec := rootFrom_spec n (n.log2 / 2 + 1) 0 (by omega) (by
      rw [Nat.zero_add, ← Nat.pow_add]
      have h1 : n < 2 ^ (n.log2 + 1) := Nat.lt_log2_self
      exact Nat.lt_of_lt_of_le h1 (Nat.pow_le_pow_right (by omega) (by omega)))
    rw [← hW] at hspec
    have hWbig : 2 ^ 54 ≤ W := by
      by_cases hc : 2 ^ 54 ≤ W
      · exact hc
      · exfalso
        have h1 : W + 1 ≤ 2 ^ 54 := by omega
        have h2 := Nat.mul_le_mul h1 h1
        rw [← Nat.pow_add] at h2
        have h3 : 2 ^ (54 + 54) = 2 ^ 108 := rfl
        omega
    obtain ⟨st, hst⟩ : ∃ st, st = (W * W != n).toNat := ⟨_, rfl⟩
    have hst1 : st ≤ 1 := by rw [hst]; cases (W * W != n) <;> decide
    have hf : fsqrt x = double.nearest false (2 * W + st) (h' - 1) := by
      unfold fsqrt Format.sqrt
      rw [hx]; simp only [Datum.root, fb]; rw [if_neg hm0]
      simp only [Bool.false_eq_true, if_false, ← hmore, ← hn, ← hW, ← hst, ← hh]
      rfl
    obtain ⟨u, hu⟩ : ∃ u, u = h' - 1 := ⟨_, rfl⟩
    have hp := p2_pos u
    have hph : p2 h' = 2 * p2 u := by rw [hu, ← p2_succ]; congr 1; omega
    have hvx : val x = n * p2 h' * p2 h' := by
      rw [val_of hx, h2h, p2_add, p2_add, p2_nat, hnm, natr_mul]; simp only [sg]; grind
    -- the bounds
    have hW1 : (W : Rat) * W ≤ n := by have := natr_le hspec.1; rwa [natr_mul] at this
    have hW2 : (n : Rat) < (W + 1) * (W + 1) := by
      have := natr_lt hspec.2
      rw [natr_mul, Rat.natCast_add] at this
      have e : ((1 : Nat) : Rat) = 1 := rfl
      rwa [e] at this
    have hW0 : (0 : Rat) ≤ W := natr_nonneg W
    have hpph := p2_pos h'
    have hpp2 := Rat.mul_pos hpph hpph
    have hlo : (W * p2 h') * (W * p2 h') ≤ val x := by
      rw [hvx]
      have := Rat.mul_le_mul_of_nonneg_right hW1 (Rat.le_of_lt hpp2)
      grind
    have hhi : val x < ((W + 1) * p2 h') * ((W + 1) * p2 h') := by
      rw [hvx]
      have := Rat.mul_lt_mul_of_pos_right hW2 hpp2
      grind
    -- the word
    have hmagv : ((2 * W + st : Nat) : Rat) * p2 u = 2 * W * p2 u + st * p2 u := by
      rw [Rat.natCast_add, natr_mul]
      have : ((2 : Nat) : Rat) = 2 := rfl
      rw [this]; grind
    have hst2 : (st : Rat) * p2 u ≤ p2 u ∧ 0 ≤ (st : Rat) * p2 u := by
      have : (st : Rat) ≤ ((1 : Nat) : Rat) := natr_le hst1
      have e : ((1 : Nat) : Rat) = 1 := rfl
      have h5 := Rat.mul_le_mul_of_nonneg_right this (Rat.le_of_lt hp)
      have h6 := Rat.mul_nonneg (natr_nonneg st) (Rat.le_of_lt hp)
      rw [e] at h5
      grind
    have hWp : p2 54 * p2 u ≤ W * p2 u := by
      have h5 := natr_le hWbig
      rw [← p2_nat] at h5
      exact Rat.mul_le_mul_of_nonneg_right h5 (Rat.le_of_lt hp)
    have hsmall : W * p2 h' < p2 600 := by
      -- its square is at most val x, which is less than 2 ^ 1024
      have hm' : (m : Rat) ≤ p2 53 := by
        have h5 := natr_le (Nat.le_of_lt hb.1)
        have e : p2 53 = ((9007199254740992 : Nat) : Rat) := p2_nat 53
        rw [e]; exact h5
      have h6 : val x ≤ p2 53 * p2 971 := by
        rw [val_of hx]; simp only [sg]
        have a1 := Rat.mul_le_mul_of_nonneg_right hm' (Rat.le_of_lt (p2_pos i))
        have a2 := Rat.mul_le_mul_of_nonneg_left (p2_mono hb.2.2) (Rat.le_of_lt (p2_pos 53))
        grind
      rw [← p2_add] at h6
      have h7 : p2 (53 + 971) < p2 600 * p2 600 := by rw [← p2_add]; exact p2_lt (by omega)
      exact sq_lt (Rat.le_of_lt (p2_pos 600)) (by grind)
    have hmag0 : 2 * W + st ≠ 0 := by have : 0 < 2 ^ 54 := by decide
                                      omega
    have hlog : 55 ≤ (2 * W + st).log2 := by
      have : 2 ^ 55 ≤ 2 * W + st := by have : 2 ^ 55 = 2 * 2 ^ 54 := by decide
                                       omega
      exact (Nat.le_log2 hmag0).2 this
    have hpu600 : p2 u ≤ p2 54 * p2 u := by
      have : p2 0 ≤ p2 54 := p2_mono (by omega)
      have := Rat.mul_le_mul_of_nonneg_right this (Rat.le_of_lt hp)
      rw [p2_zero] at this
      grind
    have hbw : ((2 * W + st : Nat) : Rat) * p2 u < p2 1023 := by
      rw [hmagv]
      have h8 : p2 601 ≤ p2 1023 := p2_mono (by omega)
      have h9 : p2 601 = 2 * p2 600 := p2_succ 600
      rw [hph] at hsmall
      clear hmore hn hnm h2h hh hf hst hspec hnbig hW hvx hlo hhi hW1 hW2
      grind
    have hR := rnd_write false (2 * W + st) u hbw
    obtain ⟨m', e', hr, _, _, _, _, b1, b2, _⟩ := read_nearest false (2 * W + st) u hbw
    rw [← hu] at hf
    have hv := val_of hr
    have hLL : last (2 * W + st) u + 52 = u + (2 * W + st).log2 := by
      unfold last; omega
    have hLw : p2 (last (2 * W + st) u + 52) ≤ 2 * W * p2 u := by
      rw [hLL, Int.add_comm, p2_add, p2_nat]
      refine Rat.mul_le_mul_of_nonneg_right ?_ (Rat.le_of_lt hp)
      have h6 : 2 ^ (2 * W + st).log2 ≤ 2 * W := by
        have h7 := Nat.log2_self_le hmag0
        obtain ⟨g, hg⟩ : ∃ g, (2 * W + st).log2 = g + 1 := ⟨(2 * W + st).log2 - 1, by omega⟩
        rw [hg, Nat.pow_succ] at h7 ⊢
        omega
      have h8 := natr_le h6
      rw [natr_mul] at h8
      exact h8
    rw [p2_add] at hLw
    have hpL := p2_pos (last (2 * W + st) u)
    have e52 : p2 52 = 4503599627370496 := p2_nat 52
    have e54 : p2 54 = 18014398509481984 := p2_nat 54
    have e50 : p2 (-50) * 1125899906842624 = 1 := by
      have e : p2 50 = 1125899906842624 := p2_nat 50
      rw [← e, ← p2_add]; exact p2_zero
    rw [e52] at hLw
    rw [e54] at hWp
    rw [hmagv] at b1 b2
    have hval : val (fsqrt x) = m' * p2 e' := by rw [hf, hv]; simp only [sg]; grind
    obtain ⟨r, hrr⟩ : ∃ r, r = val (fsqrt x) := ⟨_, rfl⟩
    rw [← hval, ← hrr] at b1 b2
    rw [← hrr]
    generalize hPL : p2 (last (2 * W + st) u) = PL at *
    generalize hPU : p2 u = U at *
    generalize hST : (st : Rat) * U = SU at *
    generalize hWU : (W : Rat) * U = WU at *
    have g1 : 2 * (W : Rat) * U = 2 * WU := by grind
    rw [g1] at hLw b1 b2
    have hr0 : 0 ≤ r := by grind
    generalize hE : p2 (-50) = E at *
    clear hmore hh h2h hn hnm hnbig hspec hlog hLL hlm hW hr hv e52 e54 hpu600 hsmall hbw
    refine ⟨by rw [hf]; exact hR.1, hr0, ?_, ?_, ?_⟩
    · intro a ha haa
      have h1 : a < (W + 1) * p2 h' := sq_lt (Rat.mul_nonneg (by grind) (Rat.le_of_lt hpph)) (by grind)
      rw [hph] at h1
      have h2 : a < 2 * WU + 2 * U := by grind
      have h3 : r * (1 / 1125899906842624) = r * E := by grind
      rw [← h3]
      grind
    · intro b hb' hbb
      have h1 : W * p2 h' ≤ b := sq_le hb' (by grind)
      rw [hph] at h1
      have h2 : 2 * WU ≤ b := by grind
      have h3 : b * (1 / 1125899906842624) = b * E := by grind
      rw [← h3]
      grind
    · intro c q hc hq hcq
      have hpq := p2_pos q
      have hcp : (0 : Rat) ≤ c * p2 q := Rat.mul_nonneg (natr_nonneg c) (Rat.le_of_lt hpq)
      have k1 : W * p2 h' ≤ c * p2 q := sq_le hcp (by grind)
      have k2 : c * p2 q < (W + 1) * p2 h' := sq_lt (Rat.mul_nonneg (by grind) (Rat.le_of_lt hpph)) (by grind)
      have hqh : h' ≤ q := by
        by_cases hqh : h' ≤ q
        · exact hqh
        · exfalso
          have a1 : p2 q ≤ p2 h' := p2_mono (by omega)
          have a2 : (c : Rat) ≤ 9007199254740992 := natr_le hc
          have a3 := Rat.mul_le_mul_of_nonneg_right a2 (Rat.le_of_lt hpq)
          rw [hph] at k1 a1
          clear hlo hhi hvx hW1 hW2 hcq k2 hmagv hR hf hst
          grind
      rw [p2_split hqh] at k1 k2
      have a4 : (c : Rat) * (p2 h' * ((2 ^ (q - h').toNat : Nat) : Rat)) = ((c * 2 ^ (q - h').toNat : Nat) : Rat) * p2 h' := by rw [natr_mul]; grind
      rw [a4] at k1 k2
      have a5 : W = c * 2 ^ (q - h').toNat := by
        have b1 : (W : Rat) ≤ ((c * 2 ^ (q - h').toNat : Nat) : Rat) := le_of_mul_le k1 hpph
        have b2 : ((c * 2 ^ (q - h').toNat : Nat) : Rat) < (W : Rat) + 1 := lt_of_mul_lt k2 hpph
        have e : ((1 : Nat) : Rat) = 1 := rfl
        rw [← e, ← Rat.natCast_add] at b2
        have b3 := Rat.natCast_le_natCast.1 b1
        have b4 := Rat.natCast_lt_natCast.1 b2
        omega
      have a6 : (c : Rat) * p2 q = W * p2 h' := by rw [p2_split hqh, a4, a5]
      have a7 : n = W * W := by
        rw [a6, hvx] at hcq
        have : (n : Rat) = ((W * W : Nat) : Rat) := by
          rw [natr_mul]
          refine mul_cancel (c := p2 h' * p2 h') ?_ hpp2
          grind
        exact Rat.natCast_inj.1 this
      have a8 : st = 0 := by rw [hst, a7]; simp
      have a9 : sg false * ((2 * W + st : Nat) : Rat) * U = c * p2 q := by
        rw [a6, hph, a8, Rat.natCast_add, natr_mul]
        have e : ((2 : Nat) : Rat) = 2 := rfl
        have e' : ((0 : Nat) : Rat) = 0 := rfl
        rw [e, e']; simp only [sg]; grind
      rw [a9] at hR
      have := rnd_exact hR (c := (c : Int)) (q := q) rfl (by omega) hq
      rw [hrr, hf, this]
end Fl
