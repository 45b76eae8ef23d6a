/- Plain laws on floats of 64 bits: bounds; the square of the distance from a segment, as the program reckons it. -/
import Derived.Test.YtpbhpplmokdkhaaDoorFlD
namespace Fl
open Ieee

/-- A number, at most 2 ^ k away from 0. -/
def Bd (x : Nat) (k : Int) : Prop := IsFin x ∧ -p2 k ≤ val x ∧ val x ≤ p2 k

theorem Bd.fin {x : Nat} {k : Int} (h : Bd x k) : IsFin x := h.1
theorem Bd.mono {x : Nat} {k l : Int} (h : Bd x k) (hl : k ≤ l) : Bd x l := by
  have := p2_mono hl
  exact ⟨h.1, by have := h.2.1; grind, by have := h.2.2; grind⟩
theorem bd_of_rnd {r : Nat} {v : Rat} {k : Int} (h : Rnd r v) (hk : -1022 ≤ k) (h1 : v ≤ p2 k) (h2 : -p2 k ≤ v) : Bd r (k + 1) := by
  have hn := rnd_near h hk h1 h2
  have h3 : p2 (k - 52) ≤ p2 k := p2_mono (by omega)
  have h4 := p2_succ k
  exact ⟨h.1, by grind, by grind⟩
theorem bd_add {x y : Nat} {k : Int} (hx : Bd x k) (hy : Bd y k) (h1 : -1000 ≤ k) (h2 : k ≤ 1000) : Bd (fadd x y) (k + 2) := by
  have e := p2_succ k
  have hl : p2 (k + 1) < p2 1023 := p2_lt (by omega)
  have := hx.2; have := hy.2
  have := bd_of_rnd (k := k + 1) (fadd_rnd hx.1 hy.1 (by grind) (by grind)) (by omega) (by grind) (by grind)
  rwa [show k + 1 + 1 = k + 2 by omega] at this
theorem bd_sub {x y : Nat} {k : Int} (hx : Bd x k) (hy : Bd y k) (h1 : -1000 ≤ k) (h2 : k ≤ 1000) : Bd (fsub x y) (k + 2) := by
  have e := p2_succ k
  have hl : p2 (k + 1) < p2 1023 := p2_lt (by omega)
  have := hx.2; have := hy.2
  have := bd_of_rnd (k := k + 1) (fsub_rnd hx.1 hy.1 (by grind) (by grind)) (by omega) (by grind) (by grind)
  rwa [show k + 1 + 1 = k + 2 by omega] at this
theorem abs_mul_le {a b A B : Rat} (h1 : -A ≤ a) (h2 : a ≤ A) (h3 : -B ≤ b) (h4 : b ≤ B) : -(A * B) ≤ a * b ∧ a * b ≤ A * B := by
  have m1 := Rat.mul_nonneg (show 0 ≤ A - a by grind) (show 0 ≤ B - b by grind)
  have m2 := Rat.mul_nonneg (show 0 ≤ A + a by grind) (show 0 ≤ B + b by grind)
  have m3 := Rat.mul_nonneg (show 0 ≤ A - a by grind) (show 0 ≤ B + b by grind)
  have m4 := Rat.mul_nonneg (show 0 ≤ A + a by grind) (show 0 ≤ B - b by grind)
  grind
theorem bd_mul {x y : Nat} {k l : Int} (hx : Bd x k) (hy : Bd y l) (h1 : -1000 ≤ k + l) (h2 : k + l ≤ 1000) : Bd (fmul x y) (k + l + 1) := by
  have e := p2_add k l
  have hl : p2 (k + l) < p2 1023 := p2_lt (by omega)
  have hm := abs_mul_le hx.2.1 hx.2.2 hy.2.1 hy.2.2
  rw [← e] at hm
  exact bd_of_rnd (k := k + l) (fmul_rnd hx.1 hy.1 (by grind) (by grind)) (by omega) hm.2 hm.1
theorem bd_of_isI {x : Nat} {n : Int} {k : Nat} (h : IsI x n) (h1 : n.natAbs ≤ 2 ^ k) : Bd x k := by
  refine ⟨h.1, ?_, ?_⟩
  · rw [h.2, p2_nat]
    have : ((-(2 ^ k : Nat) : Int) : Rat) ≤ (n : Rat) := Rat.intCast_le_intCast.2 (by omega)
    rw [Rat.intCast_neg] at this; exact this
  · rw [h.2, p2_nat]
    have : (n : Rat) ≤ (((2 ^ k : Nat) : Int) : Rat) := Rat.intCast_le_intCast.2 (by omega)
    exact this
theorem isI_lit1 : IsI 4607182418800017408 1 := isI_nearest 1 (by decide)

/-- A quotient of whole numbers. -/
theorem bd_div {x y : Nat} {a b : Int} {k : Nat} (hx : IsI x a) (hy : IsI y b) (hb : 0 < b) (ha : a.natAbs ≤ 2 ^ k) (hk : k ≤ 1000) :
    double.div x y = some (fdiv x y) ∧ Bd (fdiv x y) (k + 1) ∧ Rnd (fdiv x y) ((a : Rat) / (b : Rat)) := by
  have hbr : (0 : Rat) < (b : Rat) := Rat.intCast_pos.2 hb
  have h0 : val y ≠ 0 := by rw [hy.2]; grind
  have hd : (a : Rat) / (b : Rat) * (b : Rat) = (a : Rat) := Rat.div_mul_cancel (by grind)
  have hbd := bd_of_isI hx ha
  rw [Bd, hx.2] at hbd
  have hb1 : (1 : Rat) ≤ (b : Rat) := by
    have : ((1 : Int) : Rat) ≤ (b : Rat) := Rat.intCast_le_intCast.2 (by omega)
    exact this
  obtain ⟨q, hq⟩ : ∃ q, q = (a : Rat) / (b : Rat) := ⟨_, rfl⟩
  rw [← hq] at hd ⊢
  have hpk := p2_pos k
  have hq1 : q ≤ p2 k := by
    by_cases h : q ≤ p2 k
    · exact h
    · have := Rat.mul_le_mul_of_nonneg_left hb1 (show 0 ≤ q by grind)
      grind
  have hq2 : -p2 k ≤ q := by
    by_cases h : -p2 k ≤ q
    · exact h
    · have := Rat.mul_le_mul_of_nonneg_left hb1 (show 0 ≤ -q by grind)
      grind
  have hlt : p2 k < p2 1022 := p2_lt (by omega)
  have hr := fdiv_rnd hx.1 hy.1 h0 (v := q) (by rw [hx.2, hy.2]; exact hd) (by grind) (by grind)
  exact ⟨div_some hx.1 hy.1 h0, bd_of_rnd hr (by omega) hq1 hq2, hr⟩

/-- A point of whole coordinates. -/
def IsP (p : Nat × Nat) (x y : Int) : Prop := IsI p.1 x ∧ IsI p.2 y

/-- How far along the segment. -/
def segT (a b p : Nat × Nat) : Nat :=
  fdiv (fadd (fmul (fsub p.1 a.1) (fsub b.1 a.1)) (fmul (fsub p.2 a.2) (fsub b.2 a.2))) (fadd (fmul (fsub b.1 a.1) (fsub b.1 a.1)) (fmul (fsub b.2 a.2) (fsub b.2 a.2)))
/-- Both ends differ. -/
def segNe (a b : Nat × Nat) : Bool := (double.order (fsub b.1 a.1) 0 != some .eq) || (double.order (fsub b.2 a.2) 0 != some .eq)
/-- The point that is nearest. -/
def segAt (a b p : Nat × Nat) : Nat × Nat :=
  if segNe a b then
    if double.order (segT a b p) 4607182418800017408 == some .gt then b
    else if double.order (segT a b p) 0 == some .gt then (fadd a.1 (fmul (fsub b.1 a.1) (segT a b p)), fadd a.2 (fmul (fsub b.2 a.2) (segT a b p)))
    else a
  else a
def sqDist (p q : Nat × Nat) : Nat := fadd (fmul (fsub p.1 q.1) (fsub p.1 q.1)) (fmul (fsub p.2 q.2) (fsub p.2 q.2))
/-- The square of the distance. -/
def segSq (a b p : Nat × Nat) : Nat := sqDist p (segAt a b p)

def Small (n : Int) : Prop := -1000 ≤ n ∧ n ≤ 1000

theorem mul_small {a b : Int} {A B : Int} (h1 : -A ≤ a) (h2 : a ≤ A) (h3 : -B ≤ b) (h4 : b ≤ B) : -(A * B) ≤ a * b ∧ a * b ≤ A * B := by
  have m1 := Int.mul_nonneg (show 0 ≤ A - a by omega) (show 0 ≤ B - b by omega)
  have m2 := Int.mul_nonneg (show 0 ≤ A + a by omega) (show 0 ≤ B + b by omega)
  have m3 := Int.mul_nonneg (show 0 ≤ A - a by omega) (show 0 ≤ B + b by omega)
  have m4 := Int.mul_nonneg (show 0 ≤ A + a by omega) (show 0 ≤ B - b by omega)
  constructor <;> grind

section
variable {a b p : Nat × Nat} {ax ay bx by' px py : Int}
theorem seg_ints (ha : IsP a ax ay) (hb : IsP b bx by') (hp : IsP p px py) (sa : Small ax ∧ Small ay) (sb : Small bx ∧ Small by') (sp : Small px ∧ Small py) :
    IsI (fsub b.1 a.1) (bx - ax) ∧ IsI (fsub b.2 a.2) (by' - ay) ∧ IsI (fsub p.1 a.1) (px - ax) ∧ IsI (fsub p.2 a.2) (py - ay) ∧
    IsI (fmul (fsub p.1 a.1) (fsub b.1 a.1)) ((px - ax) * (bx - ax)) ∧ IsI (fmul (fsub p.2 a.2) (fsub b.2 a.2)) ((py - ay) * (by' - ay)) ∧
    IsI (fadd (fmul (fsub p.1 a.1) (fsub b.1 a.1)) (fmul (fsub p.2 a.2) (fsub b.2 a.2))) ((px - ax) * (bx - ax) + (py - ay) * (by' - ay)) ∧
    IsI (fmul (fsub b.1 a.1) (fsub b.1 a.1)) ((bx - ax) * (bx - ax)) ∧ IsI (fmul (fsub b.2 a.2) (fsub b.2 a.2)) ((by' - ay) * (by' - ay)) ∧
    IsI (fadd (fmul (fsub b.1 a.1) (fsub b.1 a.1)) (fmul (fsub b.2 a.2) (fsub b.2 a.2))) ((bx - ax) * (bx - ax) + (by' - ay) * (by' - ay)) := by
  unfold Small at *
  have d1 := isI_sub hb.1 ha.1 (by omega)
  have d2 := isI_sub hb.2 ha.2 (by omega)
  have d3 := isI_sub hp.1 ha.1 (by omega)
  have d4 := isI_sub hp.2 ha.2 (by omega)
  have b1 := mul_small (a := px - ax) (b := bx - ax) (A := 2000) (B := 2000) (by omega) (by omega) (by omega) (by omega)
  have b2 := mul_small (a := py - ay) (b := by' - ay) (A := 2000) (B := 2000) (by omega) (by omega) (by omega) (by omega)
  have b3 := mul_small (a := bx - ax) (b := bx - ax) (A := 2000) (B := 2000) (by omega) (by omega) (by omega) (by omega)
  have b4 := mul_small (a := by' - ay) (b := by' - ay) (A := 2000) (B := 2000) (by omega) (by omega) (by omega) (by omega)
  have m1 := isI_mul d3 d1 (by omega)
  have m2 := isI_mul d4 d2 (by omega)
  have m3 := isI_mul d1 d1 (by omega)
  have m4 := isI_mul d2 d2 (by omega)
  exact ⟨d1, d2, d3, d4, m1, m2, isI_add m1 m2 (by omega), m3, m4, isI_add m3 m4 (by omega)⟩

theorem neq_iff {x : Nat} {n : Int} (h : IsI x n) : (double.order x 0 != some .eq) = decide (n ≠ 0) := by
  have := isI_eq h isI_lit0
  unfold bne
  rw [this]
  by_cases h : n = 0 <;> simp [h]
theorem segNe_iff (ha : IsP a ax ay) (hb : IsP b bx by') (sa : Small ax ∧ Small ay) (sb : Small bx ∧ Small by') : segNe a b = decide (bx - ax ≠ 0 ∨ by' - ay ≠ 0) := by
  have hs := seg_ints ha hb ha sa sb sa
  unfold segNe
  rw [neq_iff hs.1, neq_iff hs.2.1]
  simp only [Bool.decide_or]
theorem int_sq (x : Int) : 0 ≤ x * x := by
  rcases Int.le_total 0 x with h | h
  · exact Int.mul_nonneg h h
  · exact Int.mul_nonneg_of_nonpos_of_nonpos h h
theorem sq_pos {x y : Int} (h : x ≠ 0 ∨ y ≠ 0) : 0 < x * x + y * y := by
  have h1 := int_sq x
  have h2 := int_sq y
  rcases h with h | h
  · have : 0 < x * x := by
      rcases Int.lt_or_gt_of_ne h with h | h
      · exact Int.mul_pos_of_neg_of_neg h h
      · exact Int.mul_pos h h
    omega
  · have : 0 < y * y := by
      rcases Int.lt_or_gt_of_ne h with h | h
      · exact Int.mul_pos_of_neg_of_neg h h
      · exact Int.mul_pos h h
    omega

/-- How far along: a number. -/
theorem segT_bd (ha : IsP a ax ay) (hb : IsP b bx by') (hp : IsP p px py) (sa : Small ax ∧ Small ay) (sb : Small bx ∧ Small by') (sp : Small px ∧ Small py) (hne : segNe a b = true) :
    double.div (fadd (fmul (fsub p.1 a.1) (fsub b.1 a.1)) (fmul (fsub p.2 a.2) (fsub b.2 a.2))) (fadd (fmul (fsub b.1 a.1) (fsub b.1 a.1)) (fmul (fsub b.2 a.2) (fsub b.2 a.2))) = some (segT a b p) ∧ Bd (segT a b p) 24 ∧
    Rnd (segT a b p) (((px - ax) * (bx - ax) + (py - ay) * (by' - ay) : Int) / ((bx - ax) * (bx - ax) + (by' - ay) * (by' - ay) : Int)) := by
  have hs := seg_ints ha hb hp sa sb sp
  rw [segNe_iff ha hb sa sb] at hne
  have hpos := sq_pos (of_decide_eq_true hne)
  unfold Small at *
  have b1 := mul_small (a := px - ax) (b := bx - ax) (A := 2000) (B := 2000) (by omega) (by omega) (by omega) (by omega)
  have b2 := mul_small (a := py - ay) (b := by' - ay) (A := 2000) (B := 2000) (by omega) (by omega) (by omega) (by omega)
  exact bd_div (k := 23) hs.2.2.2.2.2.2.1 hs.2.2.2.2.2.2.2.2.2 hpos (by omega) (by omega)

theorem bd_small {x : Nat} {n : Int} (h : IsI x n) (hs : Small n) : Bd x 10 := bd_of_isI (k := 10) h (by unfold Small at hs; omega)

/-- The point that is nearest: numbers. -/
theorem segAt_bd (ha : IsP a ax ay) (hb : IsP b bx by') (hp : IsP p px py) (sa : Small ax ∧ Small ay) (sb : Small bx ∧ Small by') (sp : Small px ∧ Small py) :
    Bd (segAt a b p).1 50 ∧ Bd (segAt a b p).2 50 ∧ (segNe a b = true → Bd (fmul (fsub b.1 a.1) (segT a b p)) 48 ∧ Bd (fmul (fsub b.2 a.2) (segT a b p)) 48) := by
  have a1 := bd_small ha.1 sa.1
  have a2 := bd_small ha.2 sa.2
  have b1 := bd_small hb.1 sb.1
  have b2 := bd_small hb.2 sb.2
  have d1 := bd_sub b1 a1 (by omega) (by omega)
  have d2 := bd_sub b2 a2 (by omega) (by omega)
  refine ⟨?_, ?_, ?_⟩
  · unfold segAt
    split
    · rename_i hne
      have ht := (segT_bd ha hb hp sa sb sp hne).2.1
      split
      · exact b1.mono (by omega)
      · split
        · exact (bd_add (a1.mono (l := 37) (by omega)) (bd_mul d1 ht (by omega) (by omega)) (by omega) (by omega)).mono (by omega)
        · exact a1.mono (by omega)
    · exact a1.mono (by omega)
  · unfold segAt
    split
    · rename_i hne
      have ht := (segT_bd ha hb hp sa sb sp hne).2.1
      split
      · exact b2.mono (by omega)
      · split
        · exact (bd_add (a2.mono (l := 37) (by omega)) (bd_mul d2 ht (by omega) (by omega)) (by omega) (by omega)).mono (by omega)
        · exact a2.mono (by omega)
    · exact a2.mono (by omega)
  · intro hne
    have ht := (segT_bd ha hb hp sa sb sp hne).2.1
    exact ⟨(bd_mul d1 ht (by omega) (by omega)).mono (by omega), (bd_mul d2 ht (by omega) (by omega)).mono (by omega)⟩

theorem sqDist_bd {p q : Nat × Nat} {k : Int} (h1 : Bd p.1 k) (h2 : Bd p.2 k) (h3 : Bd q.1 k) (h4 : Bd q.2 k) (hk : 0 ≤ k) (hk2 : k ≤ 200) :
    IsFin (fsub p.1 q.1) ∧ IsFin (fsub p.2 q.2) ∧ IsFin (fmul (fsub p.1 q.1) (fsub p.1 q.1)) ∧ IsFin (fmul (fsub p.2 q.2) (fsub p.2 q.2)) ∧ Bd (sqDist p q) (2 * k + 7) := by
  have d1 := bd_sub h1 h3 (by omega) (by omega)
  have d2 := bd_sub h2 h4 (by omega) (by omega)
  have m1 := bd_mul d1 d1 (by omega) (by omega)
  have m2 := bd_mul d2 d2 (by omega) (by omega)
  have s := bd_add m1 m2 (by omega) (by omega)
  exact ⟨d1.1, d2.1, m1.1, m2.1, s.mono (by omega)⟩
/-- The square of the distance: a number. -/
theorem segSq_fin (ha : IsP a ax ay) (hb : IsP b bx by') (hp : IsP p px py) (sa : Small ax ∧ Small ay) (sb : Small bx ∧ Small by') (sp : Small px ∧ Small py) : Bd (segSq a b p) 107 := by
  have h := segAt_bd ha hb hp sa sb sp
  exact (sqDist_bd ((bd_small hp.1 sp.1).mono (by omega)) ((bd_small hp.2 sp.2).mono (by omega)) h.1 h.2.1 (by omega) (by omega)).2.2.2.2
end
end Fl
