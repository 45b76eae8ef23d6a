/- Plain laws on floats of 64 bits: whole numbers, absolute values, signs. -/
import Derived.Test.YtpbhpplmokdkhaaDoorFlC
namespace Fl
open Ieee

/-- A word that stands for a whole number (of zeros, either). -/
def IsI (x : Nat) (n : Int) : Prop := IsFin x ∧ val x = (n : Rat)

theorem p2_1023_big (c : Int) (h : c.natAbs ≤ 9007199254740992) : (c : Rat) < p2 1022 ∧ -p2 1022 < (c : Rat) := by
  have h1 : p2 54 ≤ p2 1022 := p2_mono (by omega)
  have h2 : p2 54 = ((18014398509481984 : Int) : Rat) := p2_nat 54
  rw [h2] at h1
  have h3 : (c : Rat) < ((18014398509481984 : Int) : Rat) := Rat.intCast_lt_intCast.2 (by omega)
  have h4 : ((-18014398509481984 : Int) : Rat) < (c : Rat) := Rat.intCast_lt_intCast.2 (by omega)
  rw [Rat.intCast_neg] at h4
  grind
theorem lt_1023 {v : Rat} (h : v < p2 1022) : v < p2 1023 := by
  have := p2_succ 1022
  have h1 := p2_pos 1022
  have e : p2 1023 = 2 * p2 1022 := this
  grind
theorem gt_1023 {v : Rat} (h : -p2 1022 < v) : -p2 1023 < v := by
  have := p2_succ 1022
  have h1 := p2_pos 1022
  have e : p2 1023 = 2 * p2 1022 := this
  grind

theorem isI_of_rnd {r : Nat} {v : Rat} {c : Int} (h : Rnd r v) (hv : v = (c : Rat)) (hc : c.natAbs ≤ 9007199254740992) : IsI r c := by
  refine ⟨h.1, ?_⟩
  rw [← hv]
  exact rnd_exact h (c := c) (q := 0) (by rw [hv, p2_zero]; grind) hc (by omega)

theorem isI_add {x y : Nat} {a b : Int} (hx : IsI x a) (hy : IsI y b) (h : (a + b).natAbs ≤ 9007199254740992) : IsI (fadd x y) (a + b) := by
  have hv : val x + val y = ((a + b : Int) : Rat) := by rw [hx.2, hy.2, Rat.intCast_add]
  have hb := p2_1023_big _ h
  refine isI_of_rnd (fadd_rnd hx.1 hy.1 ?_ ?_) hv h
  · rw [hv]; exact lt_1023 hb.1
  · rw [hv]; exact gt_1023 hb.2
theorem isI_sub {x y : Nat} {a b : Int} (hx : IsI x a) (hy : IsI y b) (h : (a - b).natAbs ≤ 9007199254740992) : IsI (fsub x y) (a - b) := by
  have hv : val x - val y = ((a - b : Int) : Rat) := by rw [hx.2, hy.2, Rat.intCast_sub]
  have hb := p2_1023_big _ h
  refine isI_of_rnd (fsub_rnd hx.1 hy.1 ?_ ?_) hv h
  · rw [hv]; exact lt_1023 hb.1
  · rw [hv]; exact gt_1023 hb.2
theorem isI_mul {x y : Nat} {a b : Int} (hx : IsI x a) (hy : IsI y b) (h : (a * b).natAbs ≤ 9007199254740992) : IsI (fmul x y) (a * b) := by
  have hv : val x * val y = ((a * b : Int) : Rat) := by rw [hx.2, hy.2, Rat.intCast_mul]
  have hb := p2_1023_big _ h
  refine isI_of_rnd (fmul_rnd hx.1 hy.1 ?_ ?_) hv h
  · rw [hv]; exact lt_1023 hb.1
  · rw [hv]; exact gt_1023 hb.2

theorem isI_lt {x y : Nat} {a b : Int} (hx : IsI x a) (hy : IsI y b) : (double.order x y == some .lt) = decide (a < b) := by
  rw [lt_iff hx.1 hy.1, hx.2, hy.2]; simp only [Rat.intCast_lt_intCast]
theorem isI_eq {x y : Nat} {a b : Int} (hx : IsI x a) (hy : IsI y b) : (double.order x y == some .eq) = decide (a = b) := by
  rw [eq_iff hx.1 hy.1, hx.2, hy.2]; simp only [Rat.intCast_inj]
theorem isI_gt {x y : Nat} {a b : Int} (hx : IsI x a) (hy : IsI y b) : (double.order x y == some .gt) = decide (b < a) := by
  rw [gt_iff hx.1 hy.1, hx.2, hy.2]; simp only [Rat.intCast_lt_intCast]

/-- The word of a whole number. -/
theorem isI_nearest (n : Int) (h : n.natAbs ≤ 9007199254740992) : IsI (double.nearest (decide (n < 0)) n.natAbs 0) n := by
  have hv : sg (decide (n < 0)) * (n.natAbs : Rat) * p2 0 = (n : Rat) := by
    have hc : ((n.natAbs : Nat) : Rat) = (((n.natAbs : Nat) : Int) : Rat) := rfl
    rw [hc, p2_zero]
    by_cases h0 : n < 0
    · have : ((n.natAbs : Nat) : Int) = -n := by omega
      rw [this, Rat.intCast_neg]; simp only [h0, decide_true, sg]; grind
    · have : ((n.natAbs : Nat) : Int) = n := by omega
      rw [this]; simp only [h0, decide_false, sg]; grind
  have hb := p2_1023_big _ h
  have := rnd_write (decide (n < 0)) n.natAbs 0 (abs_lt_of hv (lt_1023 hb.1) (gt_1023 hb.2))
  exact isI_of_rnd this hv h

/-- The word without its sign. -/
def fabs (x : Nat) : Nat := x % 9223372036854775808
theorem read_fabs {x : Nat} {s : Bool} {m : Nat} {e : Int} (h : double.read x = .number s m e) : double.read (fabs x) = .number false m e := by
  have hlt : x % 9223372036854775808 < 9223372036854775808 := Nat.mod_lt _ (by omega)
  unfold Format.read fabs at *
  simp only [sw, bin, infR, lp] at h ⊢
  have e1 : x % 9223372036854775808 / 9223372036854775808 % 2 = 0 := by omega
  have e2 : x % 9223372036854775808 % 9223372036854775808 = x % 9223372036854775808 := by omega
  rw [e1, e2]
  split at h
  · rename_i h1
    rw [if_pos h1]
    cases h; rfl
  · rename_i h1
    rw [if_neg h1]
    split at h
    · rename_i h2
      rw [if_pos h2]
      cases h; rfl
    · split at h <;> cases h
theorem fabs_fin {x : Nat} (h : IsFin x) : IsFin (fabs x) := by
  obtain ⟨s, m, e, h⟩ := h
  exact ⟨_, _, _, read_fabs h⟩
theorem val_fabs {x : Nat} (h : IsFin x) : (0 ≤ val x ∧ val (fabs x) = val x) ∨ (val x ≤ 0 ∧ val (fabs x) = - val x) := by
  obtain ⟨s, m, e, h⟩ := h
  rw [val_of h, val_of (read_fabs h)]
  have := Rat.mul_nonneg (natr_nonneg m) (Rat.le_of_lt (p2_pos e))
  cases s
  · left; simp only [sg]; grind
  · right; simp only [sg]; grind
theorem isI_fabs {x : Nat} {n : Int} (h : IsI x n) : IsI (fabs x) (n.natAbs : Int) := by
  refine ⟨fabs_fin h.1, ?_⟩
  rcases val_fabs h.1 with ⟨h1, h2⟩ | ⟨h1, h2⟩
  · rw [h.2] at h1 h2
    have h3 := Rat.intCast_nonneg.1 h1
    rw [h2]; congr 1; omega
  · rw [h.2] at h1 h2
    have h3 : n ≤ 0 := by
      by_cases h4 : n ≤ 0
      · exact h4
      · have := Rat.intCast_pos.2 (show 0 < n by omega); grind
    rw [h2, ← Rat.intCast_neg]; congr 1; omega

/-- The word with its sign turned. -/
theorem read_neg {x : Nat} (hx : x < 18446744073709551616) {s : Bool} {m : Nat} {e : Int} (h : double.read x = .number s m e) : double.read (x ^^^ 9223372036854775808) = .number (!s) m e := by
  have e63 : 9223372036854775808 = 2 ^ 63 := rfl
  have hdiv : (x ^^^ 9223372036854775808) / 9223372036854775808 = x / 9223372036854775808 ^^^ 1 := by
    have := Nat.xor_div_two_pow (a := x) (b := 2 ^ 63) (n := 63)
    rw [Nat.div_self (Nat.two_pow_pos 63)] at this
    rwa [e63]
  have hm : x % 9223372036854775808 = (x ^^^ 9223372036854775808) % 9223372036854775808 := by
    have := Nat.xor_mod_two_pow (a := x) (b := 2 ^ 63) (n := 63)
    rw [Nat.mod_self, Nat.xor_zero] at this
    rw [e63, this]
  have hs : (x / 9223372036854775808 % 2 == 1) = !((x ^^^ 9223372036854775808) / 9223372036854775808 % 2 == 1) := by
    rw [hdiv]
    have : x / 9223372036854775808 = 0 ∨ x / 9223372036854775808 = 1 := by omega
    rcases this with h | h <;> rw [h] <;> rfl
  unfold Format.read at *
  simp only [sw, bin, infR, lp] at h ⊢
  rw [hs, hm] at h
  split at h
  · rename_i h1
    rw [if_pos h1]
    cases h; simp
  · rename_i h1
    rw [if_neg h1]
    split at h
    · rename_i h2
      rw [if_pos h2]
      cases h; simp
    · split at h <;> cases h

/-- The word cut to a whole number. -/
def ftrunc (x : Nat) : Nat := double.write ((double.read x).integral .zero)
def fsign (x : Nat) : Bool := decide (9223372036854775808 ≤ x)
/-- What 'IsWhole' answers. -/
def wholeB (x : Nat) : Bool :=
  (double.order x (ftrunc x) == some .eq) && ((double.order (fabs x) 4652007308841189376 == some .lt || double.order (fabs x) 4652007308841189376 == some .eq) && ((double.order x 0 != some .eq) || !fsign x))

theorem isI_lit0 : IsI 0 0 := isI_nearest 0 (by decide)
theorem isI_lit1000 : IsI 4652007308841189376 1000 := isI_nearest 1000 (by decide)

theorem whole_isI {x : Nat} (h : wholeB x = true) : ∃ n : Int, IsI x n ∧ -1000 ≤ n ∧ n ≤ 1000 := by
  unfold wholeB at h
  simp only [Bool.and_eq_true] at h
  obtain ⟨h1, h2, _⟩ := h
  cases hd : double.read x with
  | nan s t => unfold Format.order at h1; rw [hd] at h1; simp [Datum.order] at h1
  | infinity s =>
    exfalso
    have hr : double.read (fabs x) = .infinity false := by
      have hlt : x % 9223372036854775808 < 9223372036854775808 := Nat.mod_lt _ (by omega)
      unfold Format.read fabs at *
      simp only [sw, bin, infR, lp] at hd ⊢
      have e1 : x % 9223372036854775808 / 9223372036854775808 % 2 = 0 := by omega
      have e2 : x % 9223372036854775808 % 9223372036854775808 = x % 9223372036854775808 := by omega
      rw [e1, e2]
      split at hd
      · cases hd
      · rename_i h3
        split at hd
        · cases hd
        · rename_i h4
          split at hd
          · rename_i h5; rw [if_neg h3, if_neg h4, if_pos h5]; rfl
          · cases hd
    obtain ⟨s', m', e', hc⟩ := isI_lit1000.1
    have : double.order (fabs x) 4652007308841189376 = some .gt := by unfold Format.order; rw [hr, hc]; rfl
    rw [this] at h2; simp at h2
  | number s m e =>
    have hf : IsFin x := ⟨s, m, e, hd⟩
    have hb := fin_bounds hd
    have hv := val_of hd
    -- at most 1000
    have hle : val (fabs x) ≤ 1000 := by
      rw [lt_iff (fabs_fin hf) isI_lit1000.1, eq_iff (fabs_fin hf) isI_lit1000.1, isI_lit1000.2] at h2
      have e : ((1000 : Int) : Rat) = 1000 := rfl
      rw [e] at h2
      simp only [Bool.or_eq_true, decide_eq_true_eq] at h2
      grind
    have hfa := val_of (read_fabs hd)
    simp only [sg] at hfa
    -- the word cut
    have ht : ftrunc x = double.nearest s (Toward.zero.cut s (m <<< e.toNat) (-e).toNat) 0 := by
      unfold ftrunc; rw [hd]; rfl
    obtain ⟨T, hT⟩ : ∃ T, T = Toward.zero.cut s (m <<< e.toNat) (-e).toNat := ⟨_, rfl⟩
    rw [← hT] at ht
    have hTle : T ≤ m <<< e.toNat := by
      rw [hT]; unfold Toward.cut; simp only [Bool.toNat_false, Nat.add_zero]; exact Nat.div_le_self _ _
    have hT53 : T ≤ 9007199254740992 := by
      by_cases he : e ≤ 0
      · have : e.toNat = 0 := by omega
        rw [this, Nat.shiftLeft_zero] at hTle; omega
      · have h3 : ((m <<< e.toNat : Nat) : Rat) = val (fabs x) := by
          rw [hfa, Nat.shiftLeft_eq, natr_mul]
          have : e = ((e.toNat : Nat) : Int) := by omega
          rw [this, p2_nat]; simp; grind
        have h4 : ((m <<< e.toNat : Nat) : Rat) ≤ ((1000 : Nat) : Rat) := by rw [h3]; exact hle
        have := Rat.natCast_le_natCast.1 h4
        omega
    have hTI : IsI (double.nearest s T 0) (if s then -(T : Int) else T) := by
      have hv : sg s * (T : Rat) * p2 0 = (((if s then -(T : Int) else T) : Int) : Rat) := by
        have hc : (T : Rat) = ((T : Int) : Rat) := rfl
        rw [p2_zero, hc]
        cases s
        · simp only [sg, Bool.false_eq_true, if_false]; grind
        · simp only [sg, if_true, Rat.intCast_neg]; grind
      have hn : ((if s then -(T : Int) else T) : Int).natAbs ≤ 9007199254740992 := by split <;> omega
      have hb := p2_1023_big _ hn
      exact isI_of_rnd (rnd_write s T 0 (abs_lt_of hv (lt_1023 hb.1) (gt_1023 hb.2))) hv hn
    rw [ht, eq_iff hf hTI.1, hTI.2] at h1
    have h5 : val x = _ := of_decide_eq_true h1
    obtain ⟨n, hn⟩ : ∃ n : Int, n = (if s then -(T : Int) else T) := ⟨_, rfl⟩
    rw [← hn] at h5
    refine ⟨n, ⟨hf, h5⟩, ?_⟩
    have hI := isI_fabs (⟨hf, h5⟩ : IsI x n)
    rw [hI.2] at hle
    have : ((n.natAbs : Int) : Rat) ≤ ((1000 : Int) : Rat) := hle
    have := Rat.intCast_le_intCast.1 this
    omega
end Fl
