/- Plain laws for the ray: quotients of small whole numbers, the next float, a quotient by a tiny number. -/
import Derived.Test.YtpbhpplmokdkhaaDoorFlG
import Derived.Test.YtpbhpplmokdkhaaDoorRgP
set_option linter.unusedVariables false
namespace Ry
open Fl Ieee

theorem int_ne0 {n : Int} (h : n ≠ 0) : (n : Rat) ≠ 0 := fun e => h (Rat.intCast_inj (a := n) (b := 0) |>.1 (e.trans rfl))
theorem div_mul {a b : Rat} (h : b ≠ 0) : a / b * b = a := Rat.div_mul_cancel h

theorem quot_same {x1 y1 x2 y2 : Nat} {a b c d : Int} (h1 : IsI x1 a) (h2 : IsI y1 b) (h3 : IsI x2 c) (h4 : IsI y2 d) (hb : 0 < b) (hd : 0 < d) (ba : a.natAbs ≤ 8192) (bb : b ≤ 8192) (bc : c.natAbs ≤ 8192) (bd : d ≤ 8192) (h : a * d = c * b) :
    val (fdiv x1 y1) = val (fdiv x2 y2) := by
  have hb0 : (b : Rat) ≠ 0 := int_ne0 (by omega)
  have hd0 : (d : Rat) ≠ 0 := int_ne0 (by omega)
  have hv : (a : Rat) / (b : Rat) = (c : Rat) / (d : Rat) := by
    have e : (a : Rat) * (d : Rat) = (c : Rat) * (b : Rat) := by rw [← Rat.intCast_mul, ← Rat.intCast_mul, h]
    have hbp : (0 : Rat) < (b : Rat) := Rat.intCast_pos.2 hb
    have hdp : (0 : Rat) < (d : Rat) := Rat.intCast_pos.2 hd
    refine mul_cancel (c := (b : Rat) * (d : Rat)) ?_ (Rat.mul_pos hbp hdp)
    have e1 := div_mul (a := (a : Rat)) hb0
    have e2 := div_mul (a := (c : Rat)) hd0
    calc (a : Rat) / b * (b * d) = (a : Rat) / b * b * d := by grind
      _ = a * d := by rw [e1]
      _ = c * b := e
      _ = (c : Rat) / d * d * b := by rw [e2]
      _ = (c : Rat) / d * (b * d) := by grind
  have r1 := (bd_div (k := 13) h1 h2 hb (by omega) (by omega)).2.2
  have r2 := (bd_div (k := 13) h3 h4 hd (by omega) (by omega)).2.2
  by_cases ha0 : a = 0
  · have hc0 : c = 0 := by
      rw [ha0, Int.zero_mul] at h
      rcases Int.mul_eq_zero.1 h.symm with h | h
      · exact h
      · omega
    have e0 : ((0 : Int) : Rat) = 0 := rfl
    have e1 : (a : Rat) / (b : Rat) = ((0 : Int) : Rat) * p2 0 := by rw [ha0, e0, Rat.div_def]; grind
    have e2 : (c : Rat) / (d : Rat) = ((0 : Int) : Rat) * p2 0 := by rw [hc0, e0, Rat.div_def]; grind
    rw [rnd_exact r1 e1 (by omega) (by omega), rnd_exact r2 e2 (by omega) (by omega), e1, e2]
  · have hc0 : c ≠ 0 := by
      rintro rfl
      rw [Int.zero_mul] at h
      rcases Int.mul_eq_zero.1 h with h | h <;> omega
    have z : ∀ {n : Int}, n ≠ 0 → (n : Rat) ≠ 0 := fun hn => int_ne0 hn
    have lt : ∀ {n m : Int} {x y : Nat}, IsI x n → IsI y m → 0 < m → n.natAbs ≤ 8192 → (n : Rat) / (m : Rat) < p2 1022 ∧ -p2 1022 < (n : Rat) / (m : Rat) := by
      intro n m x y _ _ hm hn
      have hm1 : 1 ≤ (m : Rat) := Rat.intCast_le_intCast.2 (show 1 ≤ m by omega)
      have hb1 : (n : Rat) ≤ ((8192 : Int) : Rat) := Rat.intCast_le_intCast.2 (by omega)
      have hb2 : ((-8192 : Int) : Rat) ≤ (n : Rat) := Rat.intCast_le_intCast.2 (by omega)
      have hbn := p2_1023_big 8192 (by decide)
      have e1 : ((-8192 : Int) : Rat) = -((8192 : Int) : Rat) := Rat.intCast_neg _
      have hB0 : (0 : Rat) ≤ ((8192 : Int) : Rat) := Rat.intCast_le_intCast.2 (show (0 : Int) ≤ 8192 by decide)
      obtain ⟨v1, v2⟩ := Rg.quot_bd hB0 (div_mul (a := (n : Rat)) (z (show m ≠ 0 by omega))) (.inl hm1) hb1 (by rw [← e1]; exact hb2)
      constructor <;> grind
    obtain ⟨b1, b2⟩ := lt h1 h2 hb ba
    obtain ⟨s, W, V, g1, g2, g3, g4⟩ := fdiv_half h1.1 h2.1 (by rw [h2.2]; exact hb0) (by rw [h1.2]; exact z ha0) (v := (a : Rat) / (b : Rat)) (by rw [h2.2, h1.2]; exact div_mul hb0) b1 b2
    obtain ⟨s', W', V', k1, k2, k3, k4⟩ := fdiv_half h3.1 h4.1 (by rw [h4.2]; exact hd0) (by rw [h3.2]; exact z hc0) (v := (a : Rat) / (b : Rat)) (by rw [h4.2, h3.2, hv]; exact div_mul hd0) b1 b2
    have hvne : (a : Rat) / (b : Rat) ≠ 0 := by
      intro h0
      have := div_mul (a := (a : Rat)) hb0
      rw [h0, Rat.zero_mul] at this
      exact z ha0 this.symm
    have hss : s = s' ∧ V = V' := by
      rw [g2] at k2 hvne
      cases s <;> cases s' <;> simp only [sg] at k2 hvne ⊢
      · exact ⟨trivial, by grind⟩
      · exfalso; grind
      · exfalso; grind
      · exact ⟨trivial, by grind⟩
    obtain ⟨rfl, rfl⟩ := hss
    have hVb : V * ((b.natAbs : Nat) : Rat) = ((a.natAbs : Nat) : Rat) := by
      have e1 : ((b.natAbs : Nat) : Rat) = (b : Rat) := by
        have : ((b.natAbs : Nat) : Rat) = (((b.natAbs : Nat) : Int) : Rat) := rfl
        rw [this, show ((b.natAbs : Nat) : Int) = b by omega]
      have e2 := div_mul (a := (a : Rat)) hb0
      rw [g2] at e2
      have hbp : (0 : Rat) < (b : Rat) := Rat.intCast_pos.2 hb
      have h5 := Rat.mul_nonneg g3 (Rat.le_of_lt hbp)
      rw [e1]
      have e3 : ((a.natAbs : Nat) : Rat) = (((a.natAbs : Nat) : Int) : Rat) := rfl
      rw [e3]
      by_cases hpos : 0 ≤ a
      · have e4 : ((a.natAbs : Nat) : Int) = a := by omega
        have h6 : (0 : Rat) ≤ (a : Rat) := Rat.intCast_nonneg.2 hpos
        rw [e4]
        cases s <;> simp only [sg] at e2 <;> grind
      · have e4 : ((a.natAbs : Nat) : Int) = -a := by omega
        have h6 : (a : Rat) < 0 := Rat.intCast_neg_iff.2 (by omega)
        rw [e4, Rat.intCast_neg]
        cases s <;> simp only [sg] at e2 <;> grind
    rw [g1, k1, half_unique (a := a.natAbs) (b := b.natAbs) (by omega) (by omega) (by omega) hVb g4 k4]

theorem quot_less {x1 y1 x2 y2 : Nat} {a b c d : Int} (h1 : IsI x1 a) (h2 : IsI y1 b) (h3 : IsI x2 c) (h4 : IsI y2 d) (hb : 0 < b) (hd : 0 < d) (ba : a.natAbs ≤ 8192) (bb : b ≤ 8192) (bc : c.natAbs ≤ 8192) (bd : d ≤ 8192) (h : a * d < c * b) :
    val (fdiv x1 y1) < val (fdiv x2 y2) := by
  have hb0 : (b : Rat) ≠ 0 := int_ne0 (by omega)
  have hd0 : (d : Rat) ≠ 0 := int_ne0 (by omega)
  have r1 := (bd_div (k := 13) h1 h2 hb (by omega) (by omega)).2.2
  have r2 := (bd_div (k := 13) h3 h4 hd (by omega) (by omega)).2.2
  have bds : ∀ {n m : Int}, 0 < m → n.natAbs ≤ 8192 → (n : Rat) / (m : Rat) ≤ p2 13 ∧ -p2 13 ≤ (n : Rat) / (m : Rat) := by
    intro n m hm hn
    have hm1 : 1 ≤ (m : Rat) := Rat.intCast_le_intCast.2 (show 1 ≤ m by omega)
    have hb1 : (n : Rat) ≤ ((8192 : Int) : Rat) := Rat.intCast_le_intCast.2 (by omega)
    have hb2 : ((-8192 : Int) : Rat) ≤ (n : Rat) := Rat.intCast_le_intCast.2 (by omega)
    have e1 : ((-8192 : Int) : Rat) = -((8192 : Int) : Rat) := Rat.intCast_neg _
    have e2 : p2 13 = ((8192 : Int) : Rat) := p2_nat 13
    have hB0 : (0 : Rat) ≤ ((8192 : Int) : Rat) := Rat.intCast_le_intCast.2 (show (0 : Int) ≤ 8192 by decide)
    have hm0 : (m : Rat) ≠ 0 := int_ne0 (by omega)
    obtain ⟨v1, v2⟩ := Rg.quot_bd hB0 (div_mul (a := (n : Rat)) hm0) (.inl hm1) hb1 (by rw [← e1]; exact hb2)
    rw [e2]; exact ⟨v1, v2⟩
  obtain ⟨u1, u2⟩ := bds hb ba
  obtain ⟨w1, w2⟩ := bds hd bc
  have n1 := (rnd_near r1 (k := 13) (by omega) u1 u2).1
  have n2 := (rnd_near r2 (k := 13) (by omega) w1 w2).2
  have e39 : p2 (13 - 52) = p2 (-((39 : Nat) : Int)) := by congr 1
  rw [e39] at n1 n2
  have p39 := p2_val 39
  have c39 : ((2 ^ 39 : Nat) : Rat) = 549755813888 := rfl
  rw [c39] at p39
  obtain ⟨E, hE⟩ : ∃ E, E = p2 (-((39 : Nat) : Int)) := ⟨_, rfl⟩
  rw [← hE] at n1 n2 p39
  obtain ⟨A, hA⟩ : ∃ A, A = (a : Rat) / (b : Rat) := ⟨_, rfl⟩
  obtain ⟨C, hC⟩ : ∃ C, C = (c : Rat) / (d : Rat) := ⟨_, rfl⟩
  have eA : A * b = a := by rw [hA]; exact div_mul hb0
  have eC : C * d = c := by rw [hC]; exact div_mul hd0
  rw [← hA] at n1
  rw [← hC] at n2
  have hbp : (0 : Rat) < (b : Rat) := Rat.intCast_pos.2 hb
  have hdp : (0 : Rat) < (d : Rat) := Rat.intCast_pos.2 hd
  have hbd : (0 : Rat) < (b : Rat) * (d : Rat) := Rat.mul_pos hbp hdp
  have hi : ((a * d + 1 : Int) : Rat) ≤ ((c * b : Int) : Rat) := Rat.intCast_le_intCast.2 (by omega)
  have c1 : ((1 : Int) : Rat) = 1 := rfl
  rw [Rat.intCast_add, Rat.intCast_mul, Rat.intCast_mul, c1, ← eA, ← eC] at hi
  have hle : (b : Rat) * (d : Rat) ≤ 67108864 := by
    have h5 : (b : Rat) ≤ ((8192 : Int) : Rat) := Rat.intCast_le_intCast.2 bb
    have h6 : (d : Rat) ≤ ((8192 : Int) : Rat) := Rat.intCast_le_intCast.2 bd
    have c8 : ((8192 : Int) : Rat) = 8192 := rfl
    rw [c8] at h5 h6
    have h7 := Rat.mul_le_mul_of_nonneg_right h5 (Rat.le_of_lt hdp)
    grind
  -- (C - A) b d >= 1
  have hgap : 1 ≤ (C - A) * ((b : Rat) * (d : Rat)) := by grind
  have hE0 : 0 < E := by rw [hE]; exact p2_pos _
  have h8 := Rat.mul_le_mul_of_nonneg_left hle (show (0 : Rat) ≤ 2 * E by grind)
  have h9 : 2 * E < C - A := lt_of_mul_lt (c := (b : Rat) * (d : Rat)) (by grind) hbd
  grind

/-- Quotients of small whole numbers compared. -/
theorem quot_cmp {x1 y1 x2 y2 : Nat} {a b c d : Int} (h1 : IsI x1 a) (h2 : IsI y1 b) (h3 : IsI x2 c) (h4 : IsI y2 d) (hb : 0 < b) (hd : 0 < d) (ba : a.natAbs ≤ 8192) (bb : b ≤ 8192) (bc : c.natAbs ≤ 8192) (bd : d ≤ 8192) :
    double.div x1 y1 = some (fdiv x1 y1) ∧ double.div x2 y2 = some (fdiv x2 y2) ∧ (double.order (fdiv x1 y1) (fdiv x2 y2) == some .eq) = decide (a * d = c * b) ∧ (double.order (fdiv x1 y1) (fdiv x2 y2) == some .lt) = decide (a * d < c * b) := by
  obtain ⟨e1, f1, _⟩ := bd_div (k := 13) h1 h2 hb (by omega) (by omega)
  obtain ⟨e2, f2, _⟩ := bd_div (k := 13) h3 h4 hd (by omega) (by omega)
  refine ⟨e1, e2, ?_, ?_⟩
  · rw [eq_iff f1.1 f2.1]
    rcases Int.lt_trichotomy (a * d) (c * b) with h | h | h
    · have := quot_less h1 h2 h3 h4 hb hd ba bb bc bd h
      rw [decide_eq_false (by grind), decide_eq_false (by omega)]
    · rw [decide_eq_true (quot_same h1 h2 h3 h4 hb hd ba bb bc bd h), decide_eq_true h]
    · have := quot_less h3 h4 h1 h2 hd hb bc bd ba bb h
      rw [decide_eq_false (by grind), decide_eq_false (by omega)]
  · rw [lt_iff f1.1 f2.1]
    rcases Int.lt_trichotomy (a * d) (c * b) with h | h | h
    · rw [decide_eq_true (quot_less h1 h2 h3 h4 hb hd ba bb bc bd h), decide_eq_true h]
    · have := quot_same h1 h2 h3 h4 hb hd ba bb bc bd h
      rw [decide_eq_false (by grind), decide_eq_false (by omega)]
    · have := quot_less h3 h4 h1 h2 hd hb bc bd ba bb h
      rw [decide_eq_false (by grind), decide_eq_false (by omega)]

/-! The next float. -/
def nxt (x : Nat) (n : Int) : Nat := if n = 0 then 1 else if 0 < n then x + 1 else x - 1
/-- A float a little above a whole number. -/
structure NX (q : Nat) (n : Int) : Prop where
  fin : IsFin q
  lt : q < 18446744073709551616
  above : ∃ k : Int, (k = -1074 ∨ -60 ≤ k) ∧ -1074 ≤ k ∧ k ≤ -41 ∧ val q = (n : Rat) + p2 k

theorem rv_step {r : Nat} (h : 4503599627370496 ≤ r) : rv (r + 1) = rv r + p2 (-1074 + (r / 4503599627370496 - 1 : Nat)) ∧ ((2 ^ 52 : Nat) : Rat) * p2 (-1074 + (r / 4503599627370496 - 1 : Nat)) ≤ rv r ∧ rv r + p2 (-1074 + (r / 4503599627370496 - 1 : Nat)) ≤ ((2 ^ 53 : Nat) : Rat) * p2 (-1074 + (r / 4503599627370496 - 1 : Nat)) := by
  have e1 : ((1 : Nat) : Rat) = 1 := rfl
  obtain ⟨P, hP⟩ : ∃ P, P = p2 (-1074 + (r / 4503599627370496 - 1 : Nat)) := ⟨_, rfl⟩
  have hPp : 0 < P := by rw [hP]; exact p2_pos _
  have hr : rv r = ((4503599627370496 + r % 4503599627370496 : Nat) : Rat) * P := by unfold rv; rw [if_neg (by omega), hP]
  have h52 : ((2 ^ 52 : Nat) : Rat) = ((4503599627370496 : Nat) : Rat) := rfl
  have h53 : ((2 ^ 53 : Nat) : Rat) = ((9007199254740992 : Nat) : Rat) := rfl
  rw [← hP]
  refine ⟨?_, ?_, ?_⟩
  · rw [hr]
    unfold rv
    rw [if_neg (by omega)]
    by_cases h2 : (r + 1) / 4503599627370496 = r / 4503599627370496
    · have e2 : 4503599627370496 + (r + 1) % 4503599627370496 = (4503599627370496 + r % 4503599627370496) + 1 := by omega
      rw [h2, e2, Rat.natCast_add (4503599627370496 + r % 4503599627370496) 1, e1, ← hP]
      grind
    · have e2 : (r + 1) % 4503599627370496 = 0 := by omega
      have e3 : (r + 1) / 4503599627370496 - 1 = (r / 4503599627370496 - 1) + 1 := by omega
      have e4 : r % 4503599627370496 = 4503599627370495 := by omega
      rw [e2, e3, e4]
      have e5 : (-1074 + ((r / 4503599627370496 - 1 + 1 : Nat) : Int)) = (-1074 + ((r / 4503599627370496 - 1 : Nat) : Int)) + 1 := by omega
      rw [e5, p2_succ, ← hP]
      have e6 : ((4503599627370496 + 4503599627370495 : Nat) : Rat) = 9007199254740991 := rfl
      have e7 : ((4503599627370496 + 0 : Nat) : Rat) = 4503599627370496 := rfl
      rw [e6, e7]
      grind
  · rw [hr, h52]
    exact Rat.mul_le_mul_of_nonneg_right (natr_le (by omega)) (Rat.le_of_lt hPp)
  · have : ((4503599627370496 + r % 4503599627370496 + 1 : Nat) : Rat) * P ≤ ((9007199254740992 : Nat) : Rat) * P := Rat.mul_le_mul_of_nonneg_right (natr_le (by omega)) (Rat.le_of_lt hPp)
    rw [Rat.natCast_add, e1] at this
    rw [hr, h53]; grind

theorem rung_big {r : Nat} (h : 1 ≤ rv r) : 4503599627370496 < r := by
  by_cases hr : r ≤ 4503599627370496
  · exfalso
    have h1 : rv r ≤ rv 4503599627370496 := by
      have := rv_add r (4503599627370496 - r)
      rw [show r + (4503599627370496 - r) = 4503599627370496 by omega] at this
      exact this
    have h2 : rv 4503599627370496 = ((4503599627370496 : Nat) : Rat) * p2 (-1074) := by
      unfold rv
      rw [if_neg (by omega)]
      rfl
    have h3 : ((4503599627370496 : Nat) : Rat) = p2 52 := (p2_nat 52).symm
    rw [h2, h3, ← p2_add] at h1
    have h4 : p2 (52 + -1074) < p2 0 := p2_lt (by omega)
    rw [p2_zero] at h4
    grind
  · omega

theorem place_bd {P V : Rat} {k : Int} (hP : P = p2 k) (h1 : ((2 ^ 52 : Nat) : Rat) * P ≤ V) (h2 : V ≤ ((2 ^ 53 : Nat) : Rat) * P) (h3 : 1 ≤ V) (h4 : V ≤ 4096) : -60 ≤ k ∧ k ≤ -40 := by
  have e52 : ((2 ^ 52 : Nat) : Rat) * p2 k = p2 (52 + k) := by rw [p2_add]; congr 1
  have e53 : ((2 ^ 53 : Nat) : Rat) * p2 k = p2 (53 + k) := by rw [p2_add]; congr 1
  rw [hP] at h1 h2
  rw [e52] at h1
  rw [e53] at h2
  have c12 : p2 12 = 4096 := p2_nat 12
  constructor
  · have : p2 0 ≤ p2 (53 + k) := by rw [p2_zero]; grind
    have := p2_le_iff.1 this
    omega
  · have : p2 (52 + k) ≤ p2 12 := by rw [c12]; grind
    have := p2_le_iff.1 this
    omega

theorem fin_of_rung {x : Nat} (h : x % 9223372036854775808 < 2047 * 4503599627370496) : IsFin x := by
  unfold IsFin Format.read
  simp only [sw, bin, infR, lp]
  by_cases h1 : x % 9223372036854775808 < 4503599627370496
  · rw [if_pos h1]; exact ⟨_, _, _, rfl⟩
  · rw [if_neg h1, if_pos h]; exact ⟨_, _, _, rfl⟩

theorem nx_of {x : Nat} {n : Int} (h : IsI x n) (hx : x < 18446744073709551616) (hn : n.natAbs ≤ 2047) : NX (nxt x n) n := by
  have e0 : ((0 : Int) : Rat) = 0 := rfl
  unfold nxt
  by_cases h0 : n = 0
  · rw [if_pos h0, h0]
    have hr : double.read 1 = .number false 1 (-1074) := by decide +kernel
    refine ⟨⟨_, _, _, hr⟩, by omega, -1074, .inl rfl, by omega, by omega, ?_⟩
    rw [val_of hr, e0]
    have c1 : ((1 : Nat) : Rat) = 1 := rfl
    rw [c1]; simp only [sg]; grind
  · rw [if_neg h0]
    obtain ⟨hv, hlt⟩ := val_rv h.1
    obtain ⟨r, hr⟩ : ∃ r, r = x % 9223372036854775808 := ⟨_, rfl⟩
    rw [← hr] at hv hlt
    have hnn := rv_add 0 r
    rw [rv_zero, Nat.zero_add] at hnn
    have hbig : (n : Rat) ≤ ((2047 : Int) : Rat) := Rat.intCast_le_intCast.2 (by omega)
    have hbig2 : ((-2047 : Int) : Rat) ≤ (n : Rat) := Rat.intCast_le_intCast.2 (by omega)
    have c47 : ((2047 : Int) : Rat) = 2047 := rfl
    have c47' : ((-2047 : Int) : Rat) = -2047 := rfl
    rw [c47] at hbig
    rw [c47'] at hbig2
    have hval := h.2
    by_cases hpos : 0 < n
    · rw [if_pos hpos]
      have h1 : ((1 : Int) : Rat) ≤ (n : Rat) := Rat.intCast_le_intCast.2 (by omega)
      have c1 : ((1 : Int) : Rat) = 1 := rfl
      rw [c1] at h1
      have hs : (x / 9223372036854775808 % 2 == 1) = false := by
        cases hb : (x / 9223372036854775808 % 2 == 1)
        · rfl
        · rw [hb] at hv; simp only [sg] at hv; exfalso; grind
      rw [hs] at hv
      simp only [sg] at hv
      have hrn : rv r = (n : Rat) := by grind
      have hrb := rung_big (r := r) (by rw [hrn]; exact h1)
      obtain ⟨s1, s2, s3⟩ := rv_step (r := r) (by omega)
      have hPp := p2_pos (-1074 + (r / 4503599627370496 - 1 : Nat))
      obtain ⟨k1, k2⟩ := place_bd rfl s2 (by grind) (by rw [hrn]; exact h1) (by rw [hrn]; grind)
      have hx0 : x / 9223372036854775808 = 0 := by
        have : x / 9223372036854775808 % 2 ≠ 1 := by simpa using hs
        omega
      have hxr : x = r := by omega
      have hr1 : (x + 1) % 9223372036854775808 = r + 1 := by omega
      have hlt1 : r + 1 < 2047 * 4503599627370496 := by
        by_cases hl : r + 1 < 2047 * 4503599627370496
        · exact hl
        · exfalso
          have e : r / 4503599627370496 - 1 = 2045 := by omega
          rw [e] at k2
          omega
      have hf : IsFin (x + 1) := fin_of_rung (by omega)
      have hv1 := (val_rv hf).1
      rw [hr1] at hv1
      have hs1 : ((x + 1) / 9223372036854775808 % 2 == 1) = false := by
        have : (x + 1) / 9223372036854775808 = 0 := by omega
        rw [this]; rfl
      rw [hs1] at hv1
      simp only [sg] at hv1
      have hk41 : (-1074 + ((r / 4503599627370496 - 1 : Nat) : Int)) ≤ -41 := by
        have e52 : ((2 ^ 52 : Nat) : Rat) = p2 52 := (p2_nat 52).symm
        rw [hrn, e52, ← p2_add] at s2
        have c11 : p2 11 = 2048 := p2_nat 11
        have : p2 (52 + (-1074 + ((r / 4503599627370496 - 1 : Nat) : Int))) < p2 11 := by rw [c11]; grind
        by_cases hle : (-1074 + ((r / 4503599627370496 - 1 : Nat) : Int)) ≤ -41
        · exact hle
        · have := p2_mono (show (11 : Int) ≤ 52 + (-1074 + ((r / 4503599627370496 - 1 : Nat) : Int)) by omega)
          exfalso; grind
      exact ⟨hf, by omega, _, .inr k1, by omega, hk41, by rw [hv1, s1, hrn]; grind⟩
    · rw [if_neg hpos]
      have h1 : (n : Rat) ≤ ((-1 : Int) : Rat) := Rat.intCast_le_intCast.2 (by omega)
      have c1 : ((-1 : Int) : Rat) = -1 := rfl
      rw [c1] at h1
      have hs : (x / 9223372036854775808 % 2 == 1) = true := by
        cases hb : (x / 9223372036854775808 % 2 == 1)
        · rw [hb] at hv; simp only [sg] at hv; exfalso; grind
        · rfl
      rw [hs] at hv
      simp only [sg] at hv
      have hrn : rv r = -(n : Rat) := by grind
      have hrb := rung_big (r := r) (by rw [hrn]; grind)
      obtain ⟨s1, s2, s3⟩ := rv_step (r := r - 1) (by omega)
      rw [show r - 1 + 1 = r by omega] at s1
      obtain ⟨k, hk⟩ : ∃ k : Int, k = -1074 + (((r - 1) / 4503599627370496 - 1 : Nat) : Int) := ⟨_, rfl⟩
      rw [← hk] at s1 s2 s3
      have hPp := p2_pos k
      have k12 : -60 ≤ k ∧ k ≤ -40 := place_bd (V := rv r) rfl (by grind) (by grind) (by rw [hrn]; grind) (by rw [hrn]; grind)
      have hx0 : x / 9223372036854775808 % 2 = 1 := by simpa using hs
      have hxr : x = r + 9223372036854775808 := by omega
      have hr1 : (x - 1) % 9223372036854775808 = r - 1 := by omega
      have hf : IsFin (x - 1) := fin_of_rung (by omega)
      have hv1 := (val_rv hf).1
      rw [hr1] at hv1
      have hs1 : ((x - 1) / 9223372036854775808 % 2 == 1) = true := by
        have : (x - 1) / 9223372036854775808 = 1 := by omega
        rw [this]; rfl
      rw [hs1] at hv1
      simp only [sg] at hv1
      have hk41 : k ≤ -41 := by
        have e52 : ((2 ^ 52 : Nat) : Rat) = p2 52 := (p2_nat 52).symm
        rw [e52, ← p2_add] at s2
        have c11 : p2 11 = 2048 := p2_nat 11
        have : p2 (52 + k) < p2 11 := by rw [c11]; grind
        by_cases hle : k ≤ -41
        · exact hle
        · have := p2_mono (show (11 : Int) ≤ 52 + k by omega)
          exfalso; grind
      exact ⟨hf, by omega, k, .inr k12.1, by omega, hk41, by rw [hv1]; grind⟩

/-! A quotient by a tiny number. -/
theorem nearest_inf (s : Bool) (mag : Nat) (place : Int) (h : p2 1074 ≤ mag * p2 place) : double.nearest s mag place = double.word s double.infRung := by
  have h0 : mag ≠ 0 := by
    rintro rfl
    have e0 : ((0 : Nat) : Rat) = 0 := rfl
    rw [e0, Rat.zero_mul] at h
    have := p2_pos 1074
    grind
  have h1 := lt_log (mag := mag) (place := place)
  have h2 : 1074 ≤ place + (mag.log2 : Int) := by
    by_cases hl : 1074 ≤ place + (mag.log2 : Int)
    · exact hl
    · have := p2_mono (show place + (mag.log2 : Int) + 1 ≤ 1074 by omega)
      exfalso; grind
  unfold Format.nearest
  rw [if_neg h0]
  simp only [fb, lp, bin, infR]
  congr 1
  have h3 : 2096 ≤ (max (place + (mag.log2 : Int) - ((52 : Nat) : Int)) (-1074) - -1074).toNat := by omega
  have h4 : 2096 * 4503599627370496 ≤ (max (place + (mag.log2 : Int) - ((52 : Nat) : Int)) (-1074) - -1074).toNat * 4503599627370496 := Nat.mul_le_mul_right _ h3
  omega

theorem read_inf (s : Bool) : double.read (double.word s double.infRung) = .infinity s := by cases s <;> decide +kernel

theorem tiny_word {D : Nat} (hf : IsFin D) (h : val D = p2 (-1074)) : double.read D = .number false 1 (-1074) := by
  obtain ⟨s, m, e, hr⟩ := hf
  have hb := fin_bounds hr
  rw [val_of hr] at h
  have hp := p2_pos (-1074)
  have hpe := p2_pos e
  have hm0 := Rat.mul_nonneg (natr_nonneg m) (Rat.le_of_lt hpe)
  have hs : s = false := by
    cases s
    · rfl
    · simp only [sg] at h; exfalso; grind
  subst hs
  simp only [sg] at h
  have hm : m ≠ 0 := by
    rintro rfl
    have e0 : ((0 : Nat) : Rat) = 0 := rfl
    rw [e0] at h; grind
  have hm1 : ((1 : Nat) : Rat) ≤ (m : Rat) := natr_le (by omega)
  have c1 : ((1 : Nat) : Rat) = 1 := rfl
  rw [c1] at hm1
  have h5 := Rat.mul_le_mul_of_nonneg_right hm1 (Rat.le_of_lt hpe)
  have he : e ≤ -1074 := p2_le_iff.1 (by grind)
  have he2 : e = -1074 := by omega
  subst he2
  have : (m : Rat) * p2 (-1074) = ((1 : Nat) : Rat) * p2 (-1074) := by rw [c1]; grind
  have hmm : m = 1 := Rat.natCast_inj.1 (mul_cancel this hp)
  rw [hr, hmm]

theorem tiny {y q s : Nat} {a n : Int} (hy : IsI y a) (ha0 : a ≠ 0) (ha : a.natAbs ≤ 8192) (hq : NX q n) (hs : IsI s n) :
    IsFin (fsub q s) ∧ double.div y (fsub q s) = some (fdiv y (fsub q s)) ∧
      ∀ z, IsFin z → -p2 14 ≤ val z → val z ≤ p2 14 → (double.order (fdiv y (fsub q s)) z == some .eq) = false ∧ (double.order (fdiv y (fsub q s)) z == some .lt) = decide (a < 0) := by
  obtain ⟨k, hk, hk0, hk1, hv⟩ := hq.above
  have hpk := p2_pos k
  have hlt := p2_lt (show k < 1022 by omega)
  have c1 : ((1 : Int) : Rat) = 1 := rfl
  have hd : val q - val s = ((1 : Int) : Rat) * p2 k := by rw [hv, hs.2, c1]; grind
  have hd' : val q - val s = p2 k := by rw [hd, c1]; grind
  have r := fsub_rnd hq.fin hs.1 (by rw [hd']; exact p2_lt (by omega)) (by rw [hd']; have := p2_pos 1023; grind)
  have hD : val (fsub q s) = p2 k := by rw [rnd_exact r hd (by omega) hk0, hd']
  obtain ⟨D, hDe⟩ : ∃ D, D = fsub q s := ⟨_, rfl⟩
  rw [← hDe] at hD r ⊢
  have hD0 : val D ≠ 0 := by rw [hD]; grind
  refine ⟨r.1, div_some hy.1 r.1 hD0, fun z hz z1 z2 => ?_⟩
  have hau : (a : Rat) ≤ ((8192 : Int) : Rat) := Rat.intCast_le_intCast.2 (by omega)
  have hal : ((-8192 : Int) : Rat) ≤ (a : Rat) := Rat.intCast_le_intCast.2 (by omega)
  have e13 : ((8192 : Int) : Rat) = p2 13 := (p2_nat 13).symm
  have e13' : ((-8192 : Int) : Rat) = -p2 13 := by rw [← e13]; exact Rat.intCast_neg _
  rw [e13] at hau
  rw [e13'] at hal
  rcases hk with hk | hk
  · subst hk
    have hr := tiny_word r.1 hD
    obtain ⟨sy, m, e, hyr⟩ := hy.1
    have hyv := hy.2
    rw [val_of hyr] at hyv
    have hpe := p2_pos e
    have hm0 := Rat.mul_nonneg (natr_nonneg m) (Rat.le_of_lt hpe)
    have hsy : sy = decide (a < 0) ∧ 1 ≤ (m : Rat) * p2 e := by
      by_cases hneg : a < 0
      · have h1 : (a : Rat) ≤ ((-1 : Int) : Rat) := Rat.intCast_le_intCast.2 (by omega)
        have c1' : ((-1 : Int) : Rat) = -1 := rfl
        rw [c1'] at h1
        rw [decide_eq_true hneg]
        cases sy
        · simp only [sg] at hyv; exfalso; grind
        · simp only [sg] at hyv; exact ⟨rfl, by grind⟩
      · have h1 : ((1 : Int) : Rat) ≤ (a : Rat) := Rat.intCast_le_intCast.2 (by omega)
        rw [c1] at h1
        rw [decide_eq_false hneg]
        cases sy
        · simp only [sg] at hyv; exact ⟨rfl, by grind⟩
        · simp only [sg] at hyv; exfalso; grind
    have hR : double.read (fdiv y D) = .infinity sy := by
      unfold fdiv Format.div
      rw [hyr, hr]
      simp only [Datum.quotient, Bool.xor_false, Nat.div_one, Nat.mod_one, fb]
      rw [if_neg (by decide)]
      simp only [Option.map_some, Option.getD_some]
      show double.read (double.nearest sy _ _) = _
      rw [nearest_inf, read_inf]
      obtain ⟨more, hmore⟩ : ∃ more, more = 52 + 2 + Nat.log2 1 - m.log2 := ⟨_, rfl⟩
      rw [← hmore, Nat.shiftLeft_eq]
      have e1 : ((2 * (m * 2 ^ more) + (0 != 0).toNat : Nat) : Rat) = 2 * ((m : Rat) * ((2 ^ more : Nat) : Rat)) := by
        have : (0 != 0).toNat = 0 := rfl
        rw [this, Nat.add_zero, natr_mul, natr_mul]
        rfl
      rw [e1, ← p2_nat]
      have e2 : 2 * ((m : Rat) * p2 (more : Int)) * p2 (e - -1074 - (more : Int) - 1) = (m : Rat) * p2 e * p2 1074 := by
        have e3 : p2 e * p2 1074 = p2 (more : Int) * (2 * p2 (e - -1074 - (more : Int) - 1)) := by
          rw [← p2_succ, ← p2_add, ← p2_add]; congr 1; omega
        have : (m : Rat) * p2 e * p2 1074 = (m : Rat) * (p2 e * p2 1074) := by grind
        rw [this, e3]; grind
      rw [e2]
      have := Rat.mul_le_mul_of_nonneg_right hsy.2 (Rat.le_of_lt (p2_pos 1074))
      grind
    obtain ⟨t, m', e', hzr⟩ := hz
    have ho : double.order (fdiv y D) z = some (if sy then .lt else .gt) := by
      unfold Format.order
      rw [hR, hzr]
      rfl
    rw [ho, hsy.1]
    by_cases hneg : a < 0
    · rw [decide_eq_true hneg]; exact ⟨rfl, rfl⟩
    · rw [decide_eq_false hneg]; exact ⟨rfl, rfl⟩
  · have e60 : p2 (-k) ≤ p2 60 := p2_mono (by omega)
    have e41 : p2 41 ≤ p2 (-k) := p2_mono (by omega)
    have hpm := p2_pos (-k)
    have hkk : p2 (-k) * p2 k = 1 := by rw [← p2_add, show -k + k = 0 by omega, p2_zero]
    have hvv : ((a : Rat) * p2 (-k)) * val D = val y := by rw [hD, hy.2]; grind
    have hp13 := p2_pos 13
    have m1 := abs_mul_le (a := (a : Rat)) (b := p2 (-k)) (A := p2 13) (B := p2 60) hal hau (by grind) e60
    have e73 : p2 13 * p2 60 = p2 73 := by rw [← p2_add]; congr 1
    rw [e73] at m1
    have h73 := p2_lt (show (73 : Int) < 1022 by omega)
    have rr := fdiv_rnd hy.1 r.1 hD0 hvv (by grind) (by grind)
    have hval := rnd_exact rr rfl (by omega) (by omega)
    have h14 := p2_lt (show (14 : Int) < 41 by omega)
    rw [eq_iff rr.1 hz, lt_iff rr.1 hz, hval]
    by_cases hneg : a < 0
    · have h1 : (a : Rat) ≤ ((-1 : Int) : Rat) := Rat.intCast_le_intCast.2 (by omega)
      have c1' : ((-1 : Int) : Rat) = -1 := rfl
      rw [c1'] at h1
      have h5 := Rat.mul_le_mul_of_nonneg_right h1 (Rat.le_of_lt hpm)
      rw [decide_eq_true hneg]
      exact ⟨decide_eq_false (by grind), decide_eq_true (by grind)⟩
    · have h1 : ((1 : Int) : Rat) ≤ (a : Rat) := Rat.intCast_le_intCast.2 (by omega)
      rw [c1] at h1
      have h5 := Rat.mul_le_mul_of_nonneg_right h1 (Rat.le_of_lt hpm)
      rw [decide_eq_false hneg]
      exact ⟨decide_eq_false (by grind), decide_eq_false (by grind)⟩

/-- Where the float a little above a whole number stands. -/
theorem nx_lt {q z : Nat} {n c : Int} (hq : NX q n) (hz : IsI z c) : (double.order q z == some .lt) = decide (n < c) := by
  obtain ⟨k, _, _, hk1, hv⟩ := hq.above
  have hpk := p2_pos k
  have h0 := p2_lt (show k < 0 by omega)
  rw [p2_zero] at h0
  rw [lt_iff hq.fin hz.1, hv, hz.2]
  by_cases h : n < c
  · have : ((n + 1 : Int) : Rat) ≤ (c : Rat) := Rat.intCast_le_intCast.2 (by omega)
    have c1 : ((1 : Int) : Rat) = 1 := rfl
    rw [Rat.intCast_add, c1] at this
    rw [decide_eq_true h, decide_eq_true (by grind)]
  · have : (c : Rat) ≤ (n : Rat) := Rat.intCast_le_intCast.2 (by omega)
    rw [decide_eq_false h, decide_eq_false (by grind)]
theorem nx_gt {q z : Nat} {n c : Int} (hq : NX q n) (hz : IsI z c) : (double.order q z == some .gt) = decide (c ≤ n) := by
  obtain ⟨k, _, _, hk1, hv⟩ := hq.above
  have hpk := p2_pos k
  have h0 := p2_lt (show k < 0 by omega)
  rw [p2_zero] at h0
  rw [gt_iff hq.fin hz.1, hv, hz.2]
  by_cases h : c ≤ n
  · have : (c : Rat) ≤ (n : Rat) := Rat.intCast_le_intCast.2 (by omega)
    rw [decide_eq_true h, decide_eq_true (by grind)]
  · have : ((n + 1 : Int) : Rat) ≤ (c : Rat) := Rat.intCast_le_intCast.2 (by omega)
    have c1 : ((1 : Int) : Rat) = 1 := rfl
    rw [Rat.intCast_add, c1] at this
    rw [decide_eq_false h, decide_eq_false (by grind)]
end Ry
