/- Plain laws on floats of 64 bits: sums, products, quotients, roots, comparisons. -/
import Derived.Test.YtpbhpplmokdkhaaDoorFlA
namespace Fl
open Ieee

theorem fin_bounds {x : Nat} {s : Bool} {m : Nat} {e : Int} (h : double.read x = .number s m e) : m < 9007199254740992 ∧ -1074 ≤ e ∧ e ≤ 971 := by
  unfold Format.read at h
  simp only [bin, infR, lp] at h
  split at h
  · cases h; omega
  · split at h
    · cases h; omega
    · split at h <;> cases h

theorem val_of {x : Nat} {s : Bool} {m : Nat} {e : Int} (h : double.read x = .number s m e) : val x = sg s * (m : Rat) * p2 e := by
  unfold val; rw [h]; rfl

/-- r is v, rounded. -/
def Rnd (r : Nat) (v : Rat) : Prop :=
  IsFin r ∧ ∃ L : Int, -1074 ≤ L ∧ (L = -1074 ∨ p2 (L + 52) ≤ v ∨ v ≤ -p2 (L + 52)) ∧ val r ≤ v + p2 L ∧ v ≤ val r + p2 L ∧
    ((∃ c : Int, v = c * p2 L) → val r = v)

theorem last_ge (mag : Nat) (place : Int) : -1074 ≤ last mag place := by unfold last; omega
theorem last_log {mag : Nat} {place : Int} (h0 : mag ≠ 0) : last mag place = -1074 ∨ p2 (last mag place + 52) ≤ mag * p2 place := by
  by_cases h : last mag place = -1074
  · exact .inl h
  · right
    have : last mag place + 52 = place + mag.log2 := by unfold last at *; omega
    rw [this]; exact log_le h0

theorem intr_natAbs (c : Int) (s : Bool) (M P : Rat) (h : sg s * M = (c : Rat) * P) (hM : 0 ≤ M) (hP : 0 < P) : M = ((c.natAbs : Nat) : Rat) * P := by
  have hc : ((c.natAbs : Nat) : Int) = if 0 ≤ c then c else -c := by split <;> omega
  have hc2 : ((c.natAbs : Nat) : Rat) = (((c.natAbs : Nat) : Int) : Rat) := rfl
  rw [hc2, hc]
  by_cases h1 : 0 ≤ c
  · have h2 : (0 : Rat) ≤ (c : Rat) := Rat.intCast_nonneg.2 h1
    have h3 := Rat.mul_nonneg h2 (Rat.le_of_lt hP)
    rw [if_pos h1]
    cases s <;> simp only [sg] at h <;> grind
  · have h2 : (c : Rat) < 0 := by have := Rat.intCast_neg_iff.2 (show c < 0 by omega); exact this
    have h3 : (c : Rat) * P < 0 := by
      have := Rat.mul_lt_mul_of_pos_right h2 hP
      grind
    rw [if_neg h1, Rat.intCast_neg]
    cases s <;> simp only [sg] at h <;> grind

theorem rnd_write (s : Bool) (mag : Nat) (place : Int) (hb : mag * p2 place < p2 1023) : Rnd (double.nearest s mag place) (sg s * mag * p2 place) := by
  obtain ⟨m, e, hr, _, _, _, _, h1, h2, h3⟩ := read_nearest s mag place hb
  have hv := val_of hr
  by_cases h0 : mag = 0
  · have hz : ((mag : Nat) : Rat) = 0 := by rw [h0]; rfl
    have hm : (m : Rat) * p2 e = mag * p2 place := h3 ⟨0, by rw [hz]; grind⟩
    have hv0 : val (double.nearest s mag place) = 0 := by rw [hv]; rw [hz] at hm; cases s <;> simp only [sg] <;> grind
    have hp := p2_pos (-1074)
    refine ⟨⟨s, m, e, hr⟩, -1074, by omega, .inl rfl, ?_, ?_, ?_⟩
    · rw [hv0, hz]; grind
    · rw [hv0, hz]; grind
    · intro _; rw [hv0, hz]; grind
  refine ⟨⟨s, m, e, hr⟩, last mag place, last_ge _ _, ?_, ?_, ?_, ?_⟩
  · rcases last_log (place := place) h0 with h | h
    · exact .inl h
    · right
      cases s
      · left; simp only [sg]; grind
      · right; simp only [sg]; grind
  · rw [hv]; have := p2_pos (last mag place); cases s <;> simp only [sg] <;> grind
  · rw [hv]; have := p2_pos (last mag place); cases s <;> simp only [sg] <;> grind
  · rintro ⟨c, hc⟩
    rw [hv]
    have hpp := p2_pos (last mag place)
    have hM : (0 : Rat) ≤ mag * p2 place := Rat.mul_nonneg (natr_nonneg _) (Rat.le_of_lt (p2_pos _))
    have := h3 ⟨c.natAbs, intr_natAbs c s _ _ (by rw [← hc]; grind) hM hpp⟩
    grind

/-- The sums behind one place. -/
theorem signed_cast (s : Bool) (m : Nat) (i base : Int) (h : base ≤ i) : ((signed s m (i - base).toNat : Int) : Rat) * p2 base = sg s * m * p2 i := by
  have h1 : ((m <<< (i - base).toNat : Nat) : Rat) = m * ((2 ^ (i - base).toNat : Nat) : Rat) := by rw [Nat.shiftLeft_eq, natr_mul]
  have h2 : ∀ n : Nat, (((n : Nat) : Int) : Rat) = (n : Rat) := fun _ => rfl
  rw [p2_split h]
  unfold signed
  cases s
  · simp only [sg, Bool.false_eq_true, if_false]; rw [h2, h1]; grind
  · simp only [sg, if_true]; rw [Rat.intCast_neg, h2, h1]; grind

theorem opp_val {d : Datum} {s : Bool} {m : Nat} {e : Int} (h : d = .number s m e) : d.opposite = .number (!s) m e := by rw [h]; rfl
theorem sg_not (s : Bool) : sg (!s) = - sg s := by cases s <;> decide
theorem sg_xor (s t : Bool) : sg (s ^^ t) = sg s * sg t := by cases s <;> cases t <;> simp [sg] <;> grind

/-- A total of data that are numbers. -/
theorem sum_val (s t : Bool) (m n : Nat) (i j : Int) :
    ∃ s' m' e', (Datum.number s m i).sum (.number t n j) = some (.number s' m' e') ∧ sg s' * (m' : Rat) * p2 e' = sg s * m * p2 i + sg t * n * p2 j := by
  refine ⟨_, _, _, rfl, ?_⟩
  have h1 := signed_cast s m i (min i j) (by omega)
  have h2 := signed_cast t n j (min i j) (by omega)
  rw [← h1, ← h2]
  generalize signed s m (i - min i j).toNat = A
  generalize signed t n (j - min i j).toNat = B
  have hna : ∀ z : Int, ((z.natAbs : Nat) : Rat) = (((z.natAbs : Nat) : Int) : Rat) := fun _ => rfl
  rw [hna]
  have hAB : (A : Rat) * p2 (min i j) + (B : Rat) * p2 (min i j) = ((A + B : Int) : Rat) * p2 (min i j) := by rw [Rat.intCast_add]; grind
  rw [hAB]
  by_cases h0 : A + B = 0
  · rw [h0]; have : (((0 : Int).natAbs : Int) : Rat) = 0 := rfl
    rw [this]; have : ((0 : Int) : Rat) = 0 := rfl
    rw [this]; grind
  · rw [if_neg h0]
    by_cases hneg : A + B < 0
    · have : ((A + B).natAbs : Int) = - (A + B) := by omega
      rw [this, Rat.intCast_neg]
      simp only [hneg, decide_true, sg, if_true]; grind
    · have : ((A + B).natAbs : Int) = (A + B) := by omega
      rw [this]
      simp only [hneg, decide_false, sg, Bool.false_eq_true, if_false]; grind

def fadd (x y : Nat) : Nat := (double.add x y).getD 0
def fsub (x y : Nat) : Nat := (double.sub x y).getD 0
def fmul (x y : Nat) : Nat := (double.mul x y).getD 0
def fdiv (x y : Nat) : Nat := (double.div x y).getD 0
def fsqrt (x : Nat) : Nat := (double.sqrt x).getD 0

theorem abs_lt_of {s : Bool} {m : Nat} {e : Int} {v : Rat} (h : sg s * (m : Rat) * p2 e = v) (h1 : v < p2 1023) (h2 : -p2 1023 < v) : (m : Rat) * p2 e < p2 1023 := by
  cases s <;> simp only [sg] at h <;> grind

theorem add_some {x y : Nat} (hx : IsFin x) (hy : IsFin y) : double.add x y = some (fadd x y) := by
  obtain ⟨s, m, i, hx⟩ := hx
  obtain ⟨t, n, j, hy⟩ := hy
  unfold fadd Format.add
  rw [hx, hy]
  obtain ⟨s', m', e', h, _⟩ := sum_val s t m n i j
  rw [h]; rfl
theorem fadd_rnd {x y : Nat} (hx : IsFin x) (hy : IsFin y) (h1 : val x + val y < p2 1023) (h2 : -p2 1023 < val x + val y) : Rnd (fadd x y) (val x + val y) := by
  obtain ⟨s, m, i, hx⟩ := hx
  obtain ⟨t, n, j, hy⟩ := hy
  unfold fadd Format.add
  obtain ⟨s', m', e', h, hv⟩ := sum_val s t m n i j
  rw [val_of hx, val_of hy] at *
  rw [hx, hy, h, ← hv]
  exact rnd_write s' m' e' (abs_lt_of hv h1 h2)
theorem sub_some {x y : Nat} (hx : IsFin x) (hy : IsFin y) : double.sub x y = some (fsub x y) := by
  obtain ⟨s, m, i, hx⟩ := hx
  obtain ⟨t, n, j, hy⟩ := hy
  unfold fsub Format.sub
  rw [hx, opp_val hy]
  obtain ⟨s', m', e', h, _⟩ := sum_val s (!t) m n i j
  rw [h]; rfl
theorem fsub_rnd {x y : Nat} (hx : IsFin x) (hy : IsFin y) (h1 : val x - val y < p2 1023) (h2 : -p2 1023 < val x - val y) : Rnd (fsub x y) (val x - val y) := by
  obtain ⟨s, m, i, hx⟩ := hx
  obtain ⟨t, n, j, hy⟩ := hy
  unfold fsub Format.sub
  obtain ⟨s', m', e', h, hv⟩ := sum_val s (!t) m n i j
  have e1 : val x - val y = sg s' * m' * p2 e' := by rw [hv, val_of hx, val_of hy, sg_not]; grind
  rw [hx, opp_val hy, h]
  rw [e1] at h1 h2 ⊢
  exact rnd_write s' m' e' (abs_lt_of rfl h1 h2)
theorem mul_some {x y : Nat} (hx : IsFin x) (hy : IsFin y) : double.mul x y = some (fmul x y) := by
  obtain ⟨s, m, i, hx⟩ := hx
  obtain ⟨t, n, j, hy⟩ := hy
  unfold fmul Format.mul
  rw [hx, hy]; rfl
theorem fmul_rnd {x y : Nat} (hx : IsFin x) (hy : IsFin y) (h1 : val x * val y < p2 1023) (h2 : -p2 1023 < val x * val y) : Rnd (fmul x y) (val x * val y) := by
  obtain ⟨s, m, i, hx⟩ := hx
  obtain ⟨t, n, j, hy⟩ := hy
  have e1 : val x * val y = sg (s ^^ t) * ((m * n : Nat) : Rat) * p2 (i + j) := by rw [val_of hx, val_of hy, sg_xor, natr_mul, p2_add]; grind
  unfold fmul Format.mul
  rw [hx, hy]
  rw [e1] at h1 h2 ⊢
  exact rnd_write (s ^^ t) (m * n) (i + j) (abs_lt_of rfl h1 h2)

theorem order_some {x y : Nat} (hx : IsFin x) (hy : IsFin y) :
    double.order x y = some (if val x < val y then .lt else if val x = val y then .eq else .gt) := by
  obtain ⟨s, m, i, hx⟩ := hx
  obtain ⟨t, n, j, hy⟩ := hy
  unfold Format.order
  rw [val_of hx, val_of hy, hx, hy]
  unfold Datum.order
  simp only
  have h1 := signed_cast s m i (min i j) (by omega)
  have h2 := signed_cast t n j (min i j) (by omega)
  rw [← h1, ← h2]
  generalize signed s m (i - min i j).toNat = A
  generalize signed t n (j - min i j).toNat = B
  have hp := p2_pos (min i j)
  have e1 : (A : Rat) * p2 (min i j) < (B : Rat) * p2 (min i j) ↔ A < B := by rw [Rat.mul_lt_mul_right hp, Rat.intCast_lt_intCast]
  have e2 : (A : Rat) * p2 (min i j) = (B : Rat) * p2 (min i j) ↔ A = B := by
    constructor
    · intro h
      have h3 : ¬ A < B := fun hl => by have := e1.2 hl; grind
      have h4 : ¬ B < A := fun hl => by have := (Rat.mul_lt_mul_right hp).2 (Rat.intCast_lt_intCast.2 hl); grind
      omega
    · intro h; rw [h]
  simp only [e1, e2]
  congr 1

theorem lt_iff {x y : Nat} (hx : IsFin x) (hy : IsFin y) : (double.order x y == some .lt) = decide (val x < val y) := by
  rw [order_some hx hy]
  by_cases h : val x < val y
  · simp [h]
  · by_cases h2 : val x = val y <;> simp [h, h2]
theorem eq_iff {x y : Nat} (hx : IsFin x) (hy : IsFin y) : (double.order x y == some .eq) = decide (val x = val y) := by
  rw [order_some hx hy]
  by_cases h : val x < val y
  · have : ¬ val x = val y := by grind
    simp [h, this]
  · by_cases h2 : val x = val y <;> simp [h, h2]
theorem gt_iff {x y : Nat} (hx : IsFin x) (hy : IsFin y) : (double.order x y == some .gt) = decide (val y < val x) := by
  rw [order_some hx hy]
  by_cases h : val x < val y
  · have : ¬ val y < val x := by grind
    simp [h, this]
  · by_cases h2 : val x = val y
    · simp [h2]
    · have : val y < val x := by grind
      simp [h, h2, this]

theorem rnd_fin {r : Nat} {v : Rat} (h : Rnd r v) : IsFin r := h.1

/-- A number that the format has is rounded to itself. -/
theorem rnd_exact {r : Nat} {v : Rat} (h : Rnd r v) {c : Int} {q : Int} (hv : v = c * p2 q) (hc : c.natAbs ≤ 9007199254740992) (hq : -1074 ≤ q) : val r = v := by
  obtain ⟨_, L, hL, hm, _, _, hex⟩ := h
  by_cases hLq : L ≤ q
  · refine hex ⟨c * (2 ^ (q - L).toNat : Nat), ?_⟩
    rw [hv, p2_split hLq, Rat.intCast_mul]
    have : (((2 ^ (q - L).toNat : Nat) : Int) : Rat) = ((2 ^ (q - L).toNat : Nat) : Rat) := rfl
    rw [this]; grind
  · have hcr : ∀ z : Int, ((z.natAbs : Nat) : Rat) = (((z.natAbs : Nat) : Int) : Rat) := fun _ => rfl
    have hpq := p2_pos q
    have habs : (c : Rat) ≤ ((c.natAbs : Nat) : Rat) ∧ -((c.natAbs : Nat) : Rat) ≤ (c : Rat) := by
      rw [hcr]
      refine ⟨Rat.intCast_le_intCast.2 (by omega), ?_⟩
      rw [← Rat.intCast_neg]
      exact Rat.intCast_le_intCast.2 (by omega)
    have hc53 : ((c.natAbs : Nat) : Rat) ≤ p2 53 := by
      have := natr_le hc
      have e : p2 53 = ((9007199254740992 : Nat) : Rat) := p2_nat 53
      rw [e]; exact this
    have hup : (c : Rat) * p2 q ≤ p2 (53 + q) := by
      rw [p2_add]; exact Rat.mul_le_mul_of_nonneg_right (by grind) (Rat.le_of_lt hpq)
    have hlo : -p2 (53 + q) ≤ (c : Rat) * p2 q := by
      rw [p2_add]
      have := Rat.mul_le_mul_of_nonneg_right (show -p2 53 ≤ (c : Rat) by grind) (Rat.le_of_lt hpq)
      grind
    have hLle : L = q + 1 := by
      rcases hm with h | h | h
      · omega
      · have : p2 (L + 52) ≤ p2 (53 + q) := by grind
        have := p2_le_iff.1 this; omega
      · have : p2 (L + 52) ≤ p2 (53 + q) := by grind
        have := p2_le_iff.1 this; omega
    subst hLle
    have e0 : p2 (q + 1 + 52) = p2 (53 + q) := by congr 1; omega
    have e2 : p2 (53 + q) = ((4503599627370496 : Int) : Rat) * p2 (q + 1) := by
      have e1 : p2 52 = ((4503599627370496 : Int) : Rat) := p2_nat 52
      rw [← e1, ← p2_add]; congr 1; omega
    rcases hm with h | h | h
    · omega
    · have : v = ((4503599627370496 : Int) : Rat) * p2 (q + 1) := by grind
      exact hex ⟨_, this⟩
    · have : v = ((-4503599627370496 : Int) : Rat) * p2 (q + 1) := by
        have : ((-4503599627370496 : Int) : Rat) = - ((4503599627370496 : Int) : Rat) := rfl
        grind
      exact hex ⟨_, this⟩

/-- Else it is near. -/
theorem rnd_near {r : Nat} {v : Rat} (h : Rnd r v) {k : Int} (hk : -1022 ≤ k) (h1 : v ≤ p2 k) (h2 : -p2 k ≤ v) : val r ≤ v + p2 (k - 52) ∧ v ≤ val r + p2 (k - 52) := by
  obtain ⟨_, L, hL, hm, b1, b2, _⟩ := h
  have hLk : p2 L ≤ p2 (k - 52) := by
    refine p2_mono ?_
    rcases hm with h | h | h
    · omega
    · have : p2 (L + 52) ≤ p2 k := by grind
      have := p2_le_iff.1 this; omega
    · have : p2 (L + 52) ≤ p2 k := by grind
      have := p2_le_iff.1 this; omega
  grind
end Fl
