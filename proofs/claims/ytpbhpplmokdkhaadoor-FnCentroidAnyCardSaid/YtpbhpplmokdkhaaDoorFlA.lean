/- Plain laws on floats of 64 bits: what a word stands for as a rational number; the nearest word is near. -/
import Ieee.Arith
namespace Fl
open Ieee

/-- '2 ^ e'. -/
def p2 (e : Int) : Rat := (2 : Rat) ^ e

theorem p2_pos (e : Int) : 0 < p2 e := Rat.zpow_pos (by decide)
theorem p2_add (a b : Int) : p2 (a + b) = p2 a * p2 b := Rat.zpow_add (by decide) a b
theorem p2_zero : p2 0 = 1 := rfl
theorem p2_nat (n : Nat) : p2 (n : Int) = ((2 ^ n : Nat) : Rat) := by
  unfold p2
  rw [Rat.zpow_natCast]
  induction n with
  | zero => rfl
  | succ n ih => rw [Rat.pow_succ, ih, Nat.pow_succ]; simp [Rat.natCast_mul]
theorem p2_split {a b : Int} (h : a ≤ b) : p2 b = p2 a * ((2 ^ (b - a).toNat : Nat) : Rat) := by
  rw [← p2_nat, ← p2_add]
  congr 1
  omega
theorem one_le_pow (n : Nat) : 1 ≤ 2 ^ n := Nat.one_le_two_pow
theorem p2_mono {a b : Int} (h : a ≤ b) : p2 a ≤ p2 b := by
  rw [p2_split h]
  have h1 : ((1 : Nat) : Rat) ≤ ((2 ^ (b - a).toNat : Nat) : Rat) := Rat.natCast_le_natCast.2 (one_le_pow _)
  have := Rat.mul_le_mul_of_nonneg_left h1 (Rat.le_of_lt (p2_pos a))
  simpa using this
theorem p2_lt {a b : Int} (h : a < b) : p2 a < p2 b := by
  have h1 : p2 (a + 1) ≤ p2 b := p2_mono (by omega)
  have h2 : p2 (a + 1) = 2 * p2 a := by rw [p2_add, Rat.mul_comm]; rfl
  have := p2_pos a
  grind
theorem p2_le_iff {a b : Int} : p2 a ≤ p2 b ↔ a ≤ b := by
  constructor
  · intro h
    by_cases hab : a ≤ b
    · exact hab
    · have := p2_lt (show b < a by omega); grind
  · exact p2_mono
theorem p2_succ (a : Int) : p2 (a + 1) = 2 * p2 a := by rw [p2_add, Rat.mul_comm]; rfl

/-- The value of a datum that is a number. -/
def sg (s : Bool) : Rat := if s then -1 else 1
def dval : Datum → Rat
  | .number s m e => sg s * (m : Rat) * p2 e
  | _ => 0
/-- The value of a word. -/
def val (x : Nat) : Rat := dval (double.read x)
/-- The word stands for a number. -/
def IsFin (x : Nat) : Prop := ∃ s m e, double.read x = .number s m e

/-- To the nearest, between two the even one. -/
theorem cut_even (s : Bool) (n drop : Nat) :
    2 * (Toward.even.cut s n drop * 2 ^ drop) ≤ 2 * n + 2 ^ drop ∧ 2 * n ≤ 2 * (Toward.even.cut s n drop * 2 ^ drop) + 2 ^ drop ∧
    (2 ^ drop ∣ n → Toward.even.cut s n drop * 2 ^ drop = n) := by
  by_cases hd : drop ≤ n.log2 + 2
  · have hg : (1 <<< min drop (n.log2 + 2)) = 2 ^ drop := by rw [Nat.one_shiftLeft, Nat.min_eq_left hd]
    have hpos : 0 < 2 ^ drop := Nat.two_pow_pos _
    unfold Toward.cut
    simp only [hg]
    have hdm := Nat.div_add_mod n (2 ^ drop)
    have hlt := Nat.mod_lt n hpos
    have hdv : 2 ^ drop ∣ n → n % 2 ^ drop = 0 := fun h => Nat.mod_eq_zero_of_dvd h
    generalize 2 ^ drop = g at *
    generalize hq : n / g = q at *
    generalize hr : n % g = r at *
    have hb : ∀ b : Bool, (q + b.toNat) * g = g * q + b.toNat * g := fun b => by rw [Nat.add_mul, Nat.mul_comm q g]
    rw [hb]
    by_cases h1 : g < 2 * r
    · simp only [h1, decide_true, Bool.true_or, Bool.toNat_true]
      exact ⟨by omega, by omega, fun h => by have := hdv h; omega⟩
    · by_cases h2 : g = 2 * r
      · by_cases h3 : (q % 2 == 1) = true
        · simp only [← h2, h3, beq_self_eq_true, Bool.and_self, Bool.or_true, Bool.toNat_true]
          exact ⟨by omega, by omega, fun h => by have := hdv h; omega⟩
        · simp only [h1, h3, decide_false, Bool.and_false, Bool.or_self, Bool.toNat_false]
          exact ⟨by omega, by omega, fun h => by have := hdv h; omega⟩
      · have h3 : (g == 2 * r) = false := by simpa using h2
        simp only [h1, h3, decide_false, Bool.false_and, Bool.or_self, Bool.toNat_false]
        exact ⟨by omega, by omega, fun h => by have := hdv h; omega⟩
  · have hg : (1 <<< min drop (n.log2 + 2)) = 2 ^ (n.log2 + 2) := by rw [Nat.one_shiftLeft, Nat.min_eq_right (by omega)]
    have hl : n < 2 ^ (n.log2 + 1) := Nat.lt_log2_self
    have h2 : 2 ^ (n.log2 + 2) = 2 * 2 ^ (n.log2 + 1) := by rw [Nat.pow_succ, Nat.mul_comm]
    have h3 : 2 ^ (n.log2 + 2) ≤ 2 ^ drop := Nat.pow_le_pow_right (by omega) (by omega)
    have hk : Toward.even.cut s n drop = 0 := by
      unfold Toward.cut
      simp only [hg]
      rw [Nat.div_eq_of_lt (by omega), Nat.mod_eq_of_lt (by omega)]
      have h4 : ¬ (2 ^ (n.log2 + 2) < 2 * n) := by omega
      simp [h4]
    rw [hk]
    refine ⟨by omega, by omega, fun h => ?_⟩
    rcases Nat.eq_zero_or_pos n with h0 | h0
    · omega
    · have := Nat.le_of_dvd h0 h; omega

theorem cut_zero (s : Bool) (n : Nat) : Toward.even.cut s n 0 = n := by
  have := (cut_even s n 0).2.2 (by simp)
  simpa using this
theorem cut_le (s : Bool) (n drop k : Nat) (h : n ≤ 2 ^ (k + drop)) : Toward.even.cut s n drop ≤ 2 ^ k := by
  have h1 := (cut_even s n drop).1
  rw [Nat.pow_add] at h
  have hpos : 0 < 2 ^ drop := Nat.two_pow_pos _
  generalize Toward.even.cut s n drop = c at *
  generalize 2 ^ drop = g at *
  generalize 2 ^ k = K at *
  by_cases hc : c ≤ K
  · exact hc
  · have : (K + 1) * g ≤ c * g := Nat.mul_le_mul_right g (by omega)
    rw [Nat.add_mul] at this
    omega
theorem le_cut (s : Bool) (n drop k : Nat) (h : 2 ^ (k + drop) ≤ n) : 2 ^ k ≤ Toward.even.cut s n drop := by
  have h1 := (cut_even s n drop).2.1
  rw [Nat.pow_add] at h
  have hpos : 0 < 2 ^ drop := Nat.two_pow_pos _
  generalize Toward.even.cut s n drop = c at *
  generalize 2 ^ drop = g at *
  generalize 2 ^ k = K at *
  by_cases hc : K ≤ c
  · exact hc
  · have : (c + 1) * g ≤ K * g := Nat.mul_le_mul_right g (by omega)
    rw [Nat.add_mul] at this
    omega

theorem fb : double.fractionBits = 52 := rfl
theorem lp : double.leastPlace = -1074 := by decide
theorem bin : double.binade = 4503599627370496 := by decide
theorem infR : double.infRung = 2047 * 4503599627370496 := by decide
theorem sw : double.signWeight = 9223372036854775808 := by decide

/-- The word of a sign and a rung, read. -/
theorem read_word (s : Bool) (K k : Nat) (hk : k ≤ 9007199254740992) (hK : K = 0 ∨ 4503599627370496 ≤ k) (hlt : K ≤ 2044) :
    ∃ m e, double.read (double.word s (K * 4503599627370496 + k)) = .number s m e ∧ (m : Rat) * p2 e = (k : Rat) * p2 (K - 1074) ∧ m < 9007199254740992 ∧ -1074 ≤ e ∧ e ≤ 971 := by
  have hr : K * 4503599627370496 + k < 9223372036854775808 := by omega
  have hneg : double.word s (K * 4503599627370496 + k) / double.signWeight % 2 = s.toNat := by
    unfold Format.word; rw [sw]
    cases s
    · simp; omega
    · simp; omega
  have hrung : double.word s (K * 4503599627370496 + k) % double.signWeight = K * 4503599627370496 + k := by
    unfold Format.word; rw [sw]
    cases s
    · simp; omega
    · simp; omega
  have hs : (s.toNat == 1) = s := by cases s <;> rfl
  unfold Format.read
  simp only [hneg, hrung, bin, infR, lp, hs]
  by_cases h1 : K * 4503599627370496 + k < 4503599627370496
  · have hK0 : K = 0 := by omega
    subst hK0
    rw [if_pos h1]
    exact ⟨_, _, rfl, by simp, by omega, by omega, by omega⟩
  · rw [if_neg h1, if_pos (by omega)]
    by_cases h2 : k = 9007199254740992
    · refine ⟨_, _, rfl, ?_, by omega, by omega, by omega⟩
      have e1 : (K * 4503599627370496 + k) % 4503599627370496 = 0 := by omega
      have e2 : (K * 4503599627370496 + k) / 4503599627370496 = K + 2 := by omega
      rw [e1, e2]
      have e3 : (-1074 + ((K + 2 - 1 : Nat) : Int)) = ((K : Int) - 1074) + 1 := by omega
      rw [e3, p2_succ, h2]
      have : ((4503599627370496 + 0 : Nat) : Rat) = 4503599627370496 := by rfl
      rw [this]
      have : ((9007199254740992 : Nat) : Rat) = 9007199254740992 := by rfl
      rw [this]
      grind
    · refine ⟨_, _, rfl, ?_, by omega, by omega, by omega⟩
      by_cases h3 : K = 0
      · subst h3
        have e1 : 4503599627370496 + (0 * 4503599627370496 + k) % 4503599627370496 = k := by omega
        have e2 : (0 * 4503599627370496 + k) / 4503599627370496 = 1 := by omega
        rw [e1, e2]; rfl
      · have e1 : 4503599627370496 + (K * 4503599627370496 + k) % 4503599627370496 = k := by omega
        have e2 : (K * 4503599627370496 + k) / 4503599627370496 = K + 1 := by omega
        rw [e1, e2]
        have e3 : (-1074 + ((K + 1 - 1 : Nat) : Int)) = ((K : Int) - 1074) := by omega
        rw [e3]

/-- The place of the last digit that is kept. -/
def last (mag : Nat) (place : Int) : Int := max (place + mag.log2 - 52) (-1074)

theorem natr_mul (a b : Nat) : ((a * b : Nat) : Rat) = (a : Rat) * (b : Rat) := Rat.natCast_mul a b
theorem natr_le {a b : Nat} (h : a ≤ b) : (a : Rat) ≤ (b : Rat) := Rat.natCast_le_natCast.2 h
theorem natr_lt {a b : Nat} (h : a < b) : (a : Rat) < (b : Rat) := Rat.natCast_lt_natCast.2 h
theorem natr_nonneg (a : Nat) : (0 : Rat) ≤ (a : Rat) := Rat.natCast_nonneg

theorem log_le {mag : Nat} {place : Int} (h0 : mag ≠ 0) : p2 (place + mag.log2) ≤ mag * p2 place := by
  rw [Int.add_comm, p2_add, p2_nat]
  exact Rat.mul_le_mul_of_nonneg_right (natr_le (Nat.log2_self_le h0)) (Rat.le_of_lt (p2_pos _))
theorem lt_log {mag : Nat} {place : Int} : mag * p2 place < p2 (place + mag.log2 + 1) := by
  rw [show place + (mag.log2 : Int) + 1 = ((mag.log2 + 1 : Nat) : Int) + place by omega, p2_add, p2_nat]
  exact Rat.mul_lt_mul_of_pos_right (natr_lt Nat.lt_log2_self) (p2_pos _)

theorem read_nearest (s : Bool) (mag : Nat) (place : Int) (hb : mag * p2 place < p2 1023) :
    ∃ m e, double.read (double.nearest s mag place) = .number s m e ∧ m < 9007199254740992 ∧ -1074 ≤ e ∧ e ≤ 971 ∧
      (∃ k : Nat, (m : Rat) * p2 e = k * p2 (last mag place)) ∧
      2 * (m * p2 e) ≤ 2 * (mag * p2 place) + p2 (last mag place) ∧ 2 * (mag * p2 place) ≤ 2 * (m * p2 e) + p2 (last mag place) ∧
      ((∃ c : Nat, mag * p2 place = c * p2 (last mag place)) → m * p2 e = mag * p2 place) := by
  have hlp := p2_pos (last mag place)
  by_cases h0 : mag = 0
  · subst h0
    obtain ⟨m, e, hr, hv, h1, h2, h3⟩ := read_word s 0 0 (by omega) (.inl rfl) (by omega)
    have hz : (((0 : Nat) : Rat)) = 0 := rfl
    simp only [hz, Rat.zero_mul] at hv ⊢
    refine ⟨m, e, ?_, h1, h2, h3, ⟨0, by rw [hz]; grind⟩, ?_, ?_, ?_⟩
    · rw [← hr]; unfold Format.nearest; rw [if_pos rfl, Nat.zero_mul]
    · grind
    · grind
    · grind
  · have hl1 : p2 (place + mag.log2) < p2 1023 := by have := log_le (place := place) h0; grind
    have hl2 : place + mag.log2 ≤ 1022 := by
      by_cases h : place + mag.log2 ≤ 1022
      · exact h
      · have := p2_mono (show 1023 ≤ place + (mag.log2 : Int) by omega); grind
    -- kept
    have key : ∃ k : Nat, double.nearest s mag place = double.word s ((last mag place + 1074).toNat * 4503599627370496 + k) ∧ k ≤ 9007199254740992 ∧
        ((last mag place + 1074).toNat = 0 ∨ 4503599627370496 ≤ k) ∧
        2 * (k * p2 (last mag place)) ≤ 2 * (mag * p2 place) + p2 (last mag place) ∧ 2 * (mag * p2 place) ≤ 2 * (k * p2 (last mag place)) + p2 (last mag place) ∧
        ((∃ c : Nat, mag * p2 place = c * p2 (last mag place)) → k * p2 (last mag place) = mag * p2 place) := by
      have hL : last mag place = max (place + mag.log2 - 52) (-1074) := rfl
      have hKL : (last mag place + 1074).toNat ≤ 2044 := by omega
      have hn : double.nearest s mag place = double.word s (min ((last mag place + 1074).toNat * 4503599627370496 + Toward.even.cut s (mag <<< (place - last mag place).toNat) (last mag place - place).toNat) (2047 * 4503599627370496)) := by
        unfold Format.nearest
        rw [if_neg h0]
        have e0 : ∀ z : Int, z - -1074 = z + 1074 := fun z => by omega
        have e1 : ((52 : Nat) : Int) = 52 := rfl
        simp only [fb, lp, bin, infR, e0, e1, ← hL]
      rw [hn]
      by_cases hp : last mag place ≤ place
      · have e1 : (last mag place - place).toNat = 0 := by omega
        rw [e1, cut_zero]
        have hlog : mag <<< (place - last mag place).toNat < 2 ^ 53 := by
          rw [Nat.shiftLeft_eq]
          have h1 : mag < 2 ^ (mag.log2 + 1) := Nat.lt_log2_self
          have h2 : mag * 2 ^ (place - last mag place).toNat < 2 ^ (mag.log2 + 1) * 2 ^ (place - last mag place).toNat := Nat.mul_lt_mul_of_pos_right h1 (Nat.two_pow_pos _)
          rw [← Nat.pow_add] at h2
          exact Nat.lt_of_lt_of_le h2 (Nat.pow_le_pow_right (by omega) (by omega))
        have hge : (last mag place + 1074).toNat = 0 ∨ 4503599627370496 ≤ mag <<< (place - last mag place).toNat := by
          by_cases hz : last mag place = -1074
          · left; omega
          · right
            rw [Nat.shiftLeft_eq]
            have h1 : 2 ^ mag.log2 ≤ mag := Nat.log2_self_le h0
            have h2 : 2 ^ mag.log2 * 2 ^ (place - last mag place).toNat ≤ mag * 2 ^ (place - last mag place).toNat := Nat.mul_le_mul_right _ h1
            rw [← Nat.pow_add] at h2
            have h3 : mag.log2 + (place - last mag place).toNat = 52 := by omega
            rw [h3] at h2
            rwa [show 2 ^ 52 = 4503599627370496 from by decide] at h2
        have hval : ((mag <<< (place - last mag place).toNat : Nat) : Rat) * p2 (last mag place) = mag * p2 place := by
          rw [Nat.shiftLeft_eq, natr_mul, p2_split hp]
          grind
        refine ⟨_, by rw [Nat.min_eq_left (by omega)], by omega, hge, ?_, ?_, fun _ => hval⟩
        · rw [hval]; grind
        · rw [hval]; grind
      · have e1 : (place - last mag place).toNat = 0 := by omega
        rw [e1, Nat.shiftLeft_zero]
        have hdl : mag.log2 ≤ 52 + (last mag place - place).toNat := by omega
        have hup : Toward.even.cut s mag (last mag place - place).toNat ≤ 2 ^ 53 := by
          refine cut_le _ _ _ _ ?_
          have h1 : mag < 2 ^ (mag.log2 + 1) := Nat.lt_log2_self
          exact Nat.le_trans (Nat.le_of_lt h1) (Nat.pow_le_pow_right (by omega) (by omega))
        have hge : (last mag place + 1074).toNat = 0 ∨ 4503599627370496 ≤ Toward.even.cut s mag (last mag place - place).toNat := by
          by_cases hz : last mag place = -1074
          · left; omega
          · right
            have := le_cut s mag (last mag place - place).toNat 52 (by
              have h1 : 2 ^ mag.log2 ≤ mag := Nat.log2_self_le h0
              have h3 : mag.log2 = 52 + (last mag place - place).toNat := by omega
              rwa [h3] at h1)
            rwa [show 2 ^ 52 = 4503599627370496 from by decide] at this
        have hce := cut_even s mag (last mag place - place).toNat
        have hsp := p2_split (show place ≤ last mag place by omega)
        have hpp := p2_pos place
        generalize hG : (last mag place - place).toNat = G at *
        generalize hC : Toward.even.cut s mag G = c at *
        have r1 := natr_le hce.1
        have r2 := natr_le hce.2.1
        simp only [natr_mul, Rat.natCast_add] at r1 r2
        have t2 : ((2 : Nat) : Rat) = 2 := rfl
        rw [t2] at r1 r2
        refine ⟨c, by rw [Nat.min_eq_left (by omega)], by omega, hge, ?_, ?_, ?_⟩
        · rw [hsp]
          have := Rat.mul_le_mul_of_nonneg_right r1 (Rat.le_of_lt hpp)
          grind
        · rw [hsp]
          have := Rat.mul_le_mul_of_nonneg_right r2 (Rat.le_of_lt hpp)
          grind
        · rintro ⟨d, hd⟩
          rw [hsp] at hd ⊢
          have h1 : (mag : Rat) = ((d * 2 ^ G : Nat) : Rat) := by
            rw [natr_mul]
            have hne : p2 place ≠ 0 := by grind
            have : ((mag : Rat) - (d : Rat) * ((2 ^ G : Nat) : Rat)) * p2 place = 0 := by grind
            rcases Rat.mul_eq_zero.1 this with h | h
            · grind
            · exact absurd h hne
          have h2 : mag = d * 2 ^ G := Rat.natCast_inj.1 h1
          have h3 := hce.2.2 ⟨d, by rw [h2, Nat.mul_comm]⟩
          rw [← h3, natr_mul]
          grind
    obtain ⟨k, hw, hk1, hk2, b1, b2, b3⟩ := key
    have hKL : (last mag place + 1074).toNat ≤ 2044 := by
      have hL : last mag place = max (place + mag.log2 - 52) (-1074) := rfl
      omega
    have hKe : (((last mag place + 1074).toNat : Int) - 1074) = last mag place := by
      have hL : last mag place = max (place + mag.log2 - 52) (-1074) := rfl
      omega
    obtain ⟨m, e, hr, hv, h1, h2, h3⟩ := read_word s _ k hk1 hk2 hKL
    rw [hKe] at hv
    rw [hw]
    exact ⟨m, e, hr, h1, h2, h3, ⟨k, hv⟩, by rw [hv]; exact b1, by rw [hv]; exact b2, by rw [hv]; exact b3⟩
end Fl
