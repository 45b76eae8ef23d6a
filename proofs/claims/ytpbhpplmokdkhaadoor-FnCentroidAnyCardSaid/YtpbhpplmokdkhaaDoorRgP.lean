/- Plain laws for rings: the sums over the triangles of a fan. -/
import Derived.Test.YtpbhpplmokdkhaaDoorFlF
namespace Rg
open Fl Ieee

section
variable (X Y : Nat → Int)
def tri (i : Nat) : Int := (X i - X 0) * (Y (i + 1) - Y 0) - (X (i + 1) - X 0) * (Y i - Y 0)
def TN : Nat → Int
  | 0 => 0
  | k + 1 => TN k + tri X Y (k + 1)
def CN (Z : Nat → Int) : Nat → Int
  | 0 => 0
  | k + 1 => CN Z k + (Z (k + 1) + Z (k + 1 + 1) - 2 * Z 0) * tri X Y (k + 1)
end

def Mid (n : Int) : Prop := -2000 ≤ n ∧ n ≤ 2000

theorem tri_le {X Y : Nat → Int} {i : Nat} (x0 : Mid (X 0)) (y0 : Mid (Y 0)) (xi : Mid (X i)) (yi : Mid (Y i)) (xj : Mid (X (i + 1))) (yj : Mid (Y (i + 1))) :
    ((X i - X 0) * (Y (i + 1) - Y 0)).natAbs ≤ 16000000 ∧ ((X (i + 1) - X 0) * (Y i - Y 0)).natAbs ≤ 16000000 ∧ (tri X Y i).natAbs ≤ 32000000 := by
  unfold Mid at *
  have h1 := mul_small (a := X i - X 0) (b := Y (i + 1) - Y 0) (A := 4000) (B := 4000) (by omega) (by omega) (by omega) (by omega)
  have h2 := mul_small (a := X (i + 1) - X 0) (b := Y i - Y 0) (A := 4000) (B := 4000) (by omega) (by omega) (by omega) (by omega)
  unfold tri
  omega

theorem TN_le {X Y : Nat → Int} {n : Nat} (hm : ∀ i, i < n → Mid (X i) ∧ Mid (Y i)) : ∀ k, k + 1 < n ∨ k = 0 → (TN X Y k).natAbs ≤ k * 32000000 := by
  intro k
  induction k with
  | zero => intro _; simp [TN]
  | succ k ih =>
    intro hk
    have h1 := ih (by omega)
    have h2 := (tri_le (hm 0 (by omega)).1 (hm 0 (by omega)).2 (hm (k + 1) (by omega)).1 (hm (k + 1) (by omega)).2 (hm (k + 1 + 1) (by omega)).1 (hm (k + 1 + 1) (by omega)).2).2.2
    unfold TN
    omega
theorem CN_step {X Y Z : Nat → Int} {k : Nat} (ht : (tri X Y (k + 1)).natAbs ≤ 32000000) (z0 : Mid (Z 0)) (z1 : Mid (Z (k + 1))) (z2 : Mid (Z (k + 1 + 1))) :
    ((Z (k + 1) + Z (k + 1 + 1) - 2 * Z 0) * tri X Y (k + 1)).natAbs ≤ 256000000000 := by
  unfold Mid at *
  have h1 := mul_small (a := Z (k + 1) + Z (k + 1 + 1) - 2 * Z 0) (b := tri X Y (k + 1)) (A := 8000) (B := 32000000) (by omega) (by omega) (by omega) (by omega)
  omega
theorem CN_le {X Y Z : Nat → Int} {n : Nat} (hm : ∀ i, i < n → Mid (X i) ∧ Mid (Y i)) (hz : ∀ i, i < n → Mid (Z i)) : ∀ k, k + 1 < n ∨ k = 0 → (CN X Y Z k).natAbs ≤ k * 256000000000 := by
  intro k
  induction k with
  | zero => intro _; simp [CN]
  | succ k ih =>
    intro hk
    have h1 := ih (by omega)
    have h2 := (tri_le (hm 0 (by omega)).1 (hm 0 (by omega)).2 (hm (k + 1) (by omega)).1 (hm (k + 1) (by omega)).2 (hm (k + 1 + 1) (by omega)).1 (hm (k + 1 + 1) (by omega)).2).2.2
    have h3 := CN_step (Z := Z) h2 (hz 0 (by omega)) (hz (k + 1) (by omega)) (hz (k + 1 + 1) (by omega))
    unfold CN
    omega

/-- One triangle, as the program reckons it. -/
def fTri (x0 y0 x y x1 y1 : Nat) : Nat := fsub (fmul (fsub x x0) (fsub y1 y0)) (fmul (fsub x1 x0) (fsub y y0))
theorem isI_tri {x0 y0 x y x1 y1 : Nat} {X Y : Nat → Int} {i : Nat} (hx0 : IsI x0 (X 0)) (hy0 : IsI y0 (Y 0)) (hx : IsI x (X i)) (hy : IsI y (Y i)) (hx1 : IsI x1 (X (i + 1))) (hy1 : IsI y1 (Y (i + 1)))
    (m0 : Mid (X 0) ∧ Mid (Y 0)) (m1 : Mid (X i) ∧ Mid (Y i)) (m2 : Mid (X (i + 1)) ∧ Mid (Y (i + 1))) :
    IsFin (fsub x x0) ∧ IsFin (fsub y1 y0) ∧ IsFin (fsub x1 x0) ∧ IsFin (fsub y y0) ∧ IsFin (fmul (fsub x x0) (fsub y1 y0)) ∧ IsFin (fmul (fsub x1 x0) (fsub y y0)) ∧ IsI (fTri x0 y0 x y x1 y1) (tri X Y i) := by
  obtain ⟨b1, b2, b3⟩ := tri_le m0.1 m0.2 m1.1 m1.2 m2.1 m2.2
  unfold Mid at m0 m1 m2
  have a1 := isI_sub hx hx0 (by omega)
  have a2 := isI_sub hy1 hy0 (by omega)
  have a3 := isI_sub hx1 hx0 (by omega)
  have a4 := isI_sub hy hy0 (by omega)
  have p1 := isI_mul a1 a2 (by omega)
  have p2 := isI_mul a3 a4 (by omega)
  exact ⟨a1.1, a2.1, a3.1, a4.1, p1.1, p2.1, isI_sub p1 p2 (by unfold tri at b3; omega)⟩

theorem isI_lit2 : IsI 4611686018427387904 2 := isI_nearest 2 (by decide)
theorem isI_lit6 : IsI 4618441417868443648 6 := isI_nearest 6 (by decide)

/-- One step of a sum for the middle. -/
def fStep (z0 z z1 a : Nat) : Nat := fmul (fsub (fadd z z1) (fmul 4611686018427387904 z0)) a
theorem isI_step {z0 z z1 a : Nat} {X Y Z : Nat → Int} {k : Nat} (h0 : IsI z0 (Z 0)) (h1 : IsI z (Z (k + 1))) (h2 : IsI z1 (Z (k + 1 + 1))) (ha : IsI a (tri X Y (k + 1))) (hb : (tri X Y (k + 1)).natAbs ≤ 32000000) (m0 : Mid (Z 0)) (m1 : Mid (Z (k + 1))) (m2 : Mid (Z (k + 1 + 1))) :
    IsFin (fadd z z1) ∧ IsFin (fmul 4611686018427387904 z0) ∧ IsFin (fsub (fadd z z1) (fmul 4611686018427387904 z0)) ∧ IsI (fStep z0 z z1 a) ((Z (k + 1) + Z (k + 1 + 1) - 2 * Z 0) * tri X Y (k + 1)) := by
  have hc := CN_step (X := X) (Y := Y) (Z := Z) hb m0 m1 m2
  unfold Mid at m0 m1 m2
  have a1 := isI_add h1 h2 (by omega)
  have a2 := isI_mul isI_lit2 h0 (by omega)
  have a3 := isI_sub a1 a2 (by omega)
  exact ⟨a1.1, a2.1, a3.1, isI_mul a3 ha (by omega)⟩

/-- The half of a whole number. -/
theorem half_val {a : Nat} {n : Int} (h : IsI a n) (hb : n.natAbs ≤ 1000000000000000) : double.div a 4611686018427387904 = some (fdiv a 4611686018427387904) ∧ IsFin (fdiv a 4611686018427387904) ∧ val (fdiv a 4611686018427387904) = (n : Rat) * p2 (-1) := by
  have e2 : (2 : Rat) * p2 (-1) = 1 := by
    have := p2_val 1
    have e : ((2 ^ 1 : Nat) : Rat) = 2 := rfl
    have e' : p2 (-((1 : Nat) : Int)) = p2 (-1) := rfl
    rw [e, e'] at this; grind
  have h2 : val 4611686018427387904 = 2 := isI_lit2.2
  have h0 : val 4611686018427387904 ≠ 0 := by rw [h2]; decide
  have hv : ((n : Rat) * p2 (-1)) * val 4611686018427387904 = val a := by rw [h2, h.2]; grind
  have hp := p2_pos (-1)
  have hbn := p2_1023_big n (by omega)
  have hpb := p2_pos 1022
  have eh : p2 (-1) = 1 / 2 := by grind
  have r := fdiv_rnd h.1 isI_lit2.1 h0 hv (by rw [eh]; grind) (by rw [eh]; grind)
  exact ⟨div_some h.1 isI_lit2.1 h0, r.1, rnd_exact r rfl (by omega) (by omega)⟩

theorem quot_bd {v d c B : Rat} (hB : 0 ≤ B) (h : v * d = c) (hd : 1 ≤ d ∨ d ≤ -1) (h1 : c ≤ B) (h2 : -B ≤ c) : v ≤ B ∧ -B ≤ v := by
  rcases hd with hd | hd
  · constructor
    · by_cases hv : 0 ≤ v
      · have := Rat.mul_le_mul_of_nonneg_left hd hv
        grind
      · grind
    · by_cases hv : v ≤ 0
      · have := Rat.mul_le_mul_of_nonneg_left hd (show 0 ≤ -v by grind)
        grind
      · grind
  · have hd' : 1 ≤ -d := by grind
    constructor
    · by_cases hv : 0 ≤ v
      · have := Rat.mul_le_mul_of_nonneg_left hd' hv
        grind
      · grind
    · by_cases hv : v ≤ 0
      · have := Rat.mul_le_mul_of_nonneg_left hd' (show 0 ≤ -v by grind)
        grind
      · grind

/-- The divisor of the middle, and the quotients. -/
theorem six_facts {A : Nat} {t : Int} (h : IsI A t) (hb : t.natAbs ≤ 1000000000000000) : IsI (fmul 4618441417868443648 (fdiv A 4611686018427387904)) (3 * t) := by
  obtain ⟨_, f, hv⟩ := half_val h hb
  have e2 : (2 : Rat) * p2 (-1) = 1 := by
    have := p2_val 1
    have e : ((2 ^ 1 : Nat) : Rat) = 2 := rfl
    have e' : p2 (-((1 : Nat) : Int)) = p2 (-1) := rfl
    rw [e, e'] at this; grind
  have h6 : val 4618441417868443648 = 6 := isI_lit6.2
  have hp : val 4618441417868443648 * val (fdiv A 4611686018427387904) = ((3 * t : Int) : Rat) := by
    rw [h6, hv, Rat.intCast_mul]
    have e3 : ((3 : Int) : Rat) = 3 := rfl
    rw [e3]
    have eh : p2 (-1) = 1 / 2 := by grind
    rw [eh]; grind
  have hbn := p2_1023_big (3 * t) (by omega)
  exact isI_of_rnd (fmul_rnd isI_lit6.1 f (by rw [hp]; exact lt_1023 hbn.1) (by rw [hp]; exact gt_1023 hbn.2)) hp (by omega)
theorem quot_facts {C S : Nat} {c s : Int} (hC : IsI C c) (hS : IsI S s) (hs : s ≠ 0) (hc : c.natAbs ≤ 1000000000000000) :
    double.div C S = some (fdiv C S) ∧ IsFin (fdiv C S) ∧ Rnd (fdiv C S) ((c : Rat) / (s : Rat)) := by
  have hs0 : (s : Rat) ≠ 0 := fun h => hs (Rat.intCast_inj.1 h)
  have h0 : val S ≠ 0 := by rw [hS.2]; exact hs0
  have hv : ((c : Rat) / (s : Rat)) * val S = val C := by rw [hS.2, hC.2]; exact Rat.div_mul_cancel hs0
  have hd : 1 ≤ (s : Rat) ∨ (s : Rat) ≤ -1 := by
    rcases Int.lt_or_gt_of_ne hs with h | h
    · right; exact Rat.intCast_le_intCast.2 (show s ≤ -1 by omega)
    · left; exact Rat.intCast_le_intCast.2 (show 1 ≤ s by omega)
  have hb1 : (c : Rat) ≤ ((1000000000000000 : Int) : Rat) := Rat.intCast_le_intCast.2 (by omega)
  have hb2 : ((-1000000000000000 : Int) : Rat) ≤ (c : Rat) := Rat.intCast_le_intCast.2 (by omega)
  have hbn := p2_1023_big 1000000000000000 (by decide)
  have e1 : ((-1000000000000000 : Int) : Rat) = -((1000000000000000 : Int) : Rat) := Rat.intCast_neg _
  have hB0 : (0 : Rat) ≤ ((1000000000000000 : Int) : Rat) := Rat.intCast_le_intCast.2 (show (0 : Int) ≤ 1000000000000000 by decide)
  obtain ⟨v1, v2⟩ := quot_bd hB0 (Rat.div_mul_cancel hs0) hd hb1 (by rw [← e1]; exact hb2)
  have r := fdiv_rnd hC.1 hS.1 h0 hv (by grind) (by grind)
  exact ⟨div_some hC.1 hS.1 h0, r.1, r⟩
end Rg
