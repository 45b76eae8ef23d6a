/- Plain law: how near the computed distance from a segment is to the exact one. -/
import Derived.Test.YtpbhpplmokdkhaaDoorFlF
import Derived.Test.YtpbhpplmokdkhaaDoorBase
set_option linter.unusedVariables false
namespace Go.Proofs.YtpbhpplmokdkhaaDoor
open Fl Go.RowKit
namespace Sg

theorem bd_mul {a b A B : Rat} (h1 : -A ≤ a) (h2 : a ≤ A) (h3 : -B ≤ b) (h4 : b ≤ B) : -(A * B) ≤ a * b ∧ a * b ≤ A * B := by
  have m1 := Rat.mul_nonneg (show 0 ≤ A - a by grind) (show 0 ≤ B - b by grind)
  have m2 := Rat.mul_nonneg (show 0 ≤ A + a by grind) (show 0 ≤ B + b by grind)
  have m3 := Rat.mul_nonneg (show 0 ≤ A - a by grind) (show 0 ≤ B + b by grind)
  have m4 := Rat.mul_nonneg (show 0 ≤ A + a by grind) (show 0 ≤ B - b by grind)
  constructor <;> grind
theorem n51 : p2 (-51) = 1 / 2251799813685248 := by have := p2_val 51; have e : ((2 ^ 51 : Nat) : Rat) = 2251799813685248 := rfl; have e' : p2 (-((51 : Nat) : Int)) = p2 (-51) := rfl; rw [e, e'] at this; grind
theorem n41 : p2 (-41) = 1 / 2199023255552 := by have := p2_val 41; have e : ((2 ^ 41 : Nat) : Rat) = 2199023255552 := rfl; have e' : p2 (-((41 : Nat) : Int)) = p2 (-41) := rfl; rw [e, e'] at this; grind
theorem n40 : p2 (-40) = 1 / 1099511627776 := by have := p2_val 40; have e : ((2 ^ 40 : Nat) : Rat) = 1099511627776 := rfl; have e' : p2 (-((40 : Nat) : Int)) = p2 (-40) := rfl; rw [e, e'] at this; grind
theorem n38 : p2 (-38) = 1 / 274877906944 := by have := p2_val 38; have e : ((2 ^ 38 : Nat) : Rat) = 274877906944 := rfl; have e' : p2 (-((38 : Nat) : Int)) = p2 (-38) := rfl; rw [e, e'] at this; grind
theorem n37 : p2 (-37) = 1 / 137438953472 := by have := p2_val 37; have e : ((2 ^ 37 : Nat) : Rat) = 137438953472 := rfl; have e' : p2 (-((37 : Nat) : Int)) = p2 (-37) := rfl; rw [e, e'] at this; grind
theorem n28 : p2 (-28) = 1 / 268435456 := by have := p2_val 28; have e : ((2 ^ 28 : Nat) : Rat) = 268435456 := rfl; have e' : p2 (-((28 : Nat) : Int)) = p2 (-28) := rfl; rw [e, e'] at this; grind
theorem n27 : p2 (-27) = 1 / 134217728 := by have := p2_val 27; have e : ((2 ^ 27 : Nat) : Rat) = 134217728 := rfl; have e' : p2 (-((27 : Nat) : Int)) = p2 (-27) := rfl; rw [e, e'] at this; grind
theorem n11 : p2 11 = 2048 := p2_nat 11
theorem n12 : p2 12 = 4096 := p2_nat 12
theorem n24 : p2 24 = 16777216 := p2_nat 24
theorem n25 : p2 25 = 33554432 := p2_nat 25
theorem cast_bd {n : Int} {a b : Int} (h1 : a ≤ n) (h2 : n ≤ b) : (a : Rat) ≤ (n : Rat) ∧ (n : Rat) ≤ (b : Rat) := ⟨Rat.intCast_le_intCast.2 h1, Rat.intCast_le_intCast.2 h2⟩
theorem small_bd {n : Int} (h : Small n) : -1000 ≤ (n : Rat) ∧ (n : Rat) ≤ 1000 := by
  have := cast_bd h.1 h.2
  exact this
theorem two_bd {n : Int} (h1 : -2000 ≤ n) (h2 : n ≤ 2000) : -2000 ≤ (n : Rat) ∧ (n : Rat) ≤ 2000 := by
  have := cast_bd h1 h2
  exact this

section
variable {a d t m p X : Nat} {ax dx px : Int} {ts vt x : Rat}
theorem part_bd (sd : -2000 ≤ dx ∧ dx ≤ 2000) (h0 : 0 ≤ vt) (h1 : vt ≤ 1) : -2000 ≤ (dx : Rat) * vt ∧ (dx : Rat) * vt ≤ 2000 := by
  have b := two_bd sd.1 sd.2
  have := bd_mul (A := 2000) (B := 1) b.1 b.2 (by grind) h1
  constructor <;> grind
theorem mul_near_l (hd : IsI d dx) (sd : -2000 ≤ dx ∧ dx ≤ 2000) (ft : IsFin t) (h0 : 0 ≤ val t) (h1 : val t ≤ 1) : IsFin (fmul d t) ∧ Nr (val (fmul d t)) (dx * val t) (p2 (-41)) := by
  have b := part_bd sd h0 h1
  have := nr_mul hd.1 ft (k := 11) (by omega) (by omega) (by rw [hd.2, n11]; grind) (by rw [hd.2, n11]; grind)
  rw [hd.2] at this
  exact this
theorem mul_near_r (hd : IsI d dx) (sd : -2000 ≤ dx ∧ dx ≤ 2000) (ft : IsFin t) (h0 : 0 ≤ val t) (h1 : val t ≤ 1) : IsFin (fmul t d) ∧ Nr (val (fmul t d)) (dx * val t) (p2 (-41)) := by
  have b := part_bd sd h0 h1
  have := nr_mul ft hd.1 (k := 11) (by omega) (by omega) (by rw [hd.2, n11]; grind) (by rw [hd.2, n11]; grind)
  rw [hd.2, Rat.mul_comm] at this
  exact this
theorem at_near (ha : IsI a ax) (sa : Small ax) (sd : -2000 ≤ dx ∧ dx ≤ 2000) (fm : IsFin m) (hm : Nr (val m) (dx * vt) (p2 (-41))) (h0 : 0 ≤ vt) (h1 : vt ≤ 1) (ht : Nr vt ts (p2 (-51))) :
    IsFin (fadd a m) ∧ Nr (val (fadd a m)) (ax + dx * ts) (p2 (-38)) := by
  have b := part_bd sd h0 h1
  have b2 := small_bd sa
  have b3 := two_bd sd.1 sd.2
  have n1 := n41
  have n2 := n51
  have n3 := n40
  have n4 := n38
  have hm1 := hm.1
  have hm2 := hm.2
  have ht1 := ht.1
  have ht2 := ht.2
  rw [n1] at hm1 hm2
  rw [n2] at ht1 ht2
  have := nr_add ha.1 fm (k := 12) (by omega) (by omega) (by rw [ha.2, n12]; grind) (by rw [ha.2, n12]; grind)
  obtain ⟨r1, r2⟩ := this
  have r3 := r2.1
  have r4 := r2.2
  rw [ha.2, show (12 : Int) - 52 = -40 from rfl, n3] at r3 r4
  have q := bd_mul (a := (dx : Rat)) (b := vt - ts) (A := 2000) (B := 1 / 2251799813685248) b3.1 b3.2 (by grind) (by grind)
  have e : (dx : Rat) * (vt - ts) = dx * vt - dx * ts := by grind
  rw [e] at q
  refine ⟨r1, ?_, ?_⟩ <;> rw [n4] <;> grind
/-- The square of a difference. -/
theorem sq_near {U : Nat} {u : Rat} (hU : IsFin U) (h : Nr (val U) u (p2 (-37))) (hu : -4000 ≤ u ∧ u ≤ 4000) : IsFin (fmul U U) ∧ Nr (val (fmul U U)) (u * u) (1 / 16777216 + 1 / 268435456) := by
  have n1 := n37
  have n2 := n28
  have h1 := h.1
  have h2 := h.2
  rw [n1] at h1 h2
  have b1 := bd_mul (a := val U) (b := val U) (A := 4001) (B := 4001) (by grind) (by grind) (by grind) (by grind)
  have := nr_mul hU hU (k := 24) (by omega) (by omega) (by rw [n24]; grind) (by rw [n24]; grind)
  obtain ⟨r1, r2⟩ := this
  have r3 := r2.1
  have r4 := r2.2
  rw [show (24 : Int) - 52 = -28 from rfl, n2] at r3 r4
  have q := bd_mul (a := val U - u) (b := val U + u) (A := 1 / 137438953472) (B := 8001) (by grind) (by grind) (by grind) (by grind)
  have e : (val U - u) * (val U + u) = val U * val U - u * u := by grind
  rw [e] at q
  refine ⟨r1, ?_, ?_⟩ <;> grind
theorem diff_near_l (hp : IsI p px) (sp : Small px) (fX : IsFin X) (hX : Nr (val X) x (p2 (-38))) (bx : -3000 ≤ x ∧ x ≤ 3000) : IsFin (fsub p X) ∧ Nr (val (fsub p X)) (px - x) (p2 (-37)) := by
  have b2 := small_bd sp
  have n1 := n38
  have n2 := n37
  have n3 := n40
  have h1 := hX.1
  have h2 := hX.2
  rw [n1] at h1 h2
  have := nr_sub hp.1 fX (k := 12) (by omega) (by omega) (by rw [hp.2, n12]; grind) (by rw [hp.2, n12]; grind)
  obtain ⟨r1, r2⟩ := this
  have r3 := r2.1
  have r4 := r2.2
  rw [hp.2, show (12 : Int) - 52 = -40 from rfl, n3] at r3 r4
  refine ⟨r1, ?_, ?_⟩ <;> rw [n2] <;> grind
theorem diff_near_r (hp : IsI p px) (sp : Small px) (fX : IsFin X) (hX : Nr (val X) x (p2 (-38))) (bx : -3000 ≤ x ∧ x ≤ 3000) : IsFin (fsub X p) ∧ Nr (val (fsub X p)) (x - px) (p2 (-37)) := by
  have b2 := small_bd sp
  have n1 := n38
  have n2 := n37
  have n3 := n40
  have h1 := hX.1
  have h2 := hX.2
  rw [n1] at h1 h2
  have := nr_sub fX hp.1 (k := 12) (by omega) (by omega) (by rw [hp.2, n12]; grind) (by rw [hp.2, n12]; grind)
  obtain ⟨r1, r2⟩ := this
  have r3 := r2.1
  have r4 := r2.2
  rw [hp.2, show (12 : Int) - 52 = -40 from rfl, n3] at r3 r4
  refine ⟨r1, ?_, ?_⟩ <;> rw [n2] <;> grind
theorem sum_near {s r : Nat} {u v : Rat} (fs : IsFin s) (fr : IsFin r) (hs : Nr (val s) (u * u) (1 / 16777216 + 1 / 268435456)) (hr : Nr (val r) (v * v) (1 / 16777216 + 1 / 268435456)) (hu : -4000 ≤ u ∧ u ≤ 4000) (hv : -4000 ≤ v ∧ v ≤ 4000) :
    IsFin (fadd s r) ∧ Nr (val (fadd s r)) (u * u + v * v) (1 / 4194304) := by
  have b1 := bd_mul (a := u) (b := u) (A := 4000) (B := 4000) (by grind) (by grind) (by grind) (by grind)
  have b2 := bd_mul (a := v) (b := v) (A := 4000) (B := 4000) (by grind) (by grind) (by grind) (by grind)
  have h1 := hs.1
  have h2 := hs.2
  have h3 := hr.1
  have h4 := hr.2
  have := nr_add fs fr (k := 25) (by omega) (by omega) (by rw [n25]; grind) (by rw [n25]; grind)
  obtain ⟨r1, r2⟩ := this
  have r3 := r2.1
  have r4 := r2.2
  rw [show (25 : Int) - 52 = -27 from rfl, n27] at r3 r4
  refine ⟨r1, ?_, ?_⟩ <;> grind
end
/-- The least of all squares on a segment. -/
theorem proj_least {D N s t : Rat} (hD : 0 ≤ D) (h0 : 0 ≤ s) (h1 : s ≤ 1) (ht : (N ≤ 0 ∧ t = 0) ∨ (D ≤ N ∧ t = 1) ∨ t * D = N) : t * t * D - 2 * t * N ≤ s * s * D - 2 * s * N := by
  rcases ht with ⟨h, rfl⟩ | ⟨h, rfl⟩ | h
  · have a : 0 ≤ s * s * D := Rat.mul_nonneg (Rat.mul_nonneg h0 h0) hD
    have b : 0 ≤ s * (-N) := Rat.mul_nonneg h0 (by grind)
    grind
  · have a : 0 ≤ (1 - s) * (2 * (N - D)) := Rat.mul_nonneg (by grind) (by grind)
    have b : 0 ≤ (1 - s) * ((1 - s) * D) := Rat.mul_nonneg (by grind) (Rat.mul_nonneg (by grind) hD)
    grind
  · subst h
    have b : 0 ≤ (s - t) * (s - t) := by
      by_cases h : s ≤ t
      · have : 0 ≤ (t - s) * (t - s) := Rat.mul_nonneg (by grind) (by grind)
        grind
      · exact Rat.mul_nonneg (by grind) (by grind)
    have c : 0 ≤ (s - t) * (s - t) * D := Rat.mul_nonneg b hD
    grind
/-- The square of the distance of the point at a share of a segment. -/
def F (ax ay bx by' px py : Int) (s : Rat) : Rat :=
  ((px : Rat) - (ax + ((bx - ax : Int) : Rat) * s)) * (px - (ax + ((bx - ax : Int) : Rat) * s)) + ((py : Rat) - (ay + ((by' - ay : Int) : Rat) * s)) * (py - (ay + ((by' - ay : Int) : Rat) * s))
def DD (ax ay bx by' : Int) : Rat := (((bx - ax) * (bx - ax) + (by' - ay) * (by' - ay) : Int) : Rat)
def NN (ax ay bx by' px py : Int) : Rat := (((px - ax) * (bx - ax) + (py - ay) * (by' - ay) : Int) : Rat)
theorem F_eq (ax ay bx by' px py : Int) (s : Rat) : F ax ay bx by' px py s = (((px - ax) * (px - ax) + (py - ay) * (py - ay) : Int) : Rat) + (s * s * DD ax ay bx by' - 2 * s * NN ax ay bx by' px py) := by
  unfold F DD NN
  simp only [Rat.intCast_add, Rat.intCast_sub, Rat.intCast_mul]
  grind
theorem sq_nn (a : Int) : 0 ≤ a * a := by
  rcases Int.le_total 0 a with h | h
  · exact Int.mul_nonneg h h
  · have := Int.mul_nonneg (show 0 ≤ -a by omega) (show 0 ≤ -a by omega)
    rwa [Int.neg_mul_neg] at this
theorem DD_nonneg (ax ay bx by' : Int) : 0 ≤ DD ax ay bx by' := by
  unfold DD
  have : (0 : Int) ≤ (bx - ax) * (bx - ax) + (by' - ay) * (by' - ay) := by
    have := sq_nn (bx - ax)
    have := sq_nn (by' - ay)
    omega
  exact Rat.intCast_le_intCast.2 this
/-- A share that is the nearest one. -/
def Best (ax ay bx by' px py : Int) (t : Rat) : Prop := (NN ax ay bx by' px py ≤ 0 ∧ t = 0) ∨ (DD ax ay bx by' ≤ NN ax ay bx by' px py ∧ t = 1) ∨ t * DD ax ay bx by' = NN ax ay bx by' px py
theorem best_least {ax ay bx by' px py : Int} {t s : Rat} (ht : Best ax ay bx by' px py t) (h0 : 0 ≤ s) (h1 : s ≤ 1) : F ax ay bx by' px py t ≤ F ax ay bx by' px py s := by
  rw [F_eq, F_eq]
  have := proj_least (DD_nonneg ax ay bx by') h0 h1 ht
  grind
theorem n52 : p2 (-52) = 1 / 4503599627370496 := by have := p2_val 52; have e : ((2 ^ 52 : Nat) : Rat) = 4503599627370496 := rfl; have e' : p2 (-((52 : Nat) : Int)) = p2 (-52) := rfl; rw [e, e'] at this; grind
/-- Cut to what lies between 0 and 1. -/
def clampQ (v : Rat) : Rat := if v ≤ 0 then 0 else if 1 ≤ v then 1 else v
theorem clamp_bd (v : Rat) : 0 ≤ clampQ v ∧ clampQ v ≤ 1 := by
  unfold clampQ
  split
  · exact ⟨by grind, by grind⟩
  · split <;> exact ⟨by grind, by grind⟩
theorem clamp_best {ax ay bx by' px py : Int} {v : Rat} (h : v * DD ax ay bx by' = NN ax ay bx by' px py) : Best ax ay bx by' px py (clampQ v) := by
  have hD := DD_nonneg ax ay bx by'
  unfold clampQ Best
  split
  · next hv =>
    have := Rat.mul_nonneg (show 0 ≤ -v by grind) hD
    exact .inl ⟨by grind, rfl⟩
  · split
    · next hv =>
      have := Rat.mul_nonneg (show 0 ≤ v - 1 by grind) hD
      exact .inr (.inl ⟨by grind, rfl⟩)
    · exact .inr (.inr h)
theorem clamp_near {r : Nat} {v : Rat} (h : Rnd r v) (h1 : v ≤ p2 24) (h2 : -p2 24 ≤ v) :
    (1 < val r → Nr 1 (clampQ v) (p2 (-51))) ∧ (0 ≤ val r → val r ≤ 1 → Nr (val r) (clampQ v) (p2 (-51))) ∧ (val r ≤ 0 → Nr 0 (clampQ v) (p2 (-51))) := by
  have m1 := n28
  have m2 := n51
  have far := rnd_near h (k := 24) (by omega) h1 h2
  rw [show (24 : Int) - 52 = -28 from rfl, m1] at far
  rw [m2]
  have hp1 : p2 1 = 2 := p2_nat 1
  by_cases c1 : 2 ≤ v
  · have e : clampQ v = 1 := by unfold clampQ; rw [if_neg (by grind), if_pos (by grind)]
    rw [e]
    refine ⟨fun _ => ⟨by grind, by grind⟩, fun _ _ => ?_, fun _ => ?_⟩
    · exfalso; grind
    · exfalso; grind
  · by_cases c2 : v ≤ -2
    · have e : clampQ v = 0 := by unfold clampQ; rw [if_pos (by grind)]
      rw [e]
      refine ⟨fun _ => ?_, fun _ _ => ?_, fun _ => ⟨by grind, by grind⟩⟩
      · exfalso; grind
      · exfalso; grind
    · have near := rnd_near h (k := 1) (by omega) (by rw [hp1]; grind) (by rw [hp1]; grind)
      rw [show (1 : Int) - 52 = -51 from rfl, m2] at near
      have cases : (v ≤ 0 ∧ clampQ v = 0) ∨ (1 ≤ v ∧ clampQ v = 1) ∨ (0 ≤ v ∧ v ≤ 1 ∧ clampQ v = v) := by
        unfold clampQ
        by_cases a : v ≤ 0
        · rw [if_pos a]; exact .inl ⟨a, rfl⟩
        · rw [if_neg a]
          by_cases b : 1 ≤ v
          · rw [if_pos b]; exact .inr (.inl ⟨b, rfl⟩)
          · rw [if_neg b]; exact .inr (.inr ⟨by grind, by grind, rfl⟩)
      rcases cases with ⟨a, e⟩ | ⟨a, e⟩ | ⟨a, b, e⟩ <;> rw [e] <;> refine ⟨fun _ => ⟨?_, ?_⟩, fun _ _ => ⟨?_, ?_⟩, fun _ => ⟨?_, ?_⟩⟩ <;> grind
/-- The end of a segment, told as a share. -/
theorem end_near {ts : Rat} {b : Nat} {ax bx : Int} (hb : IsI b bx) (sd : -2000 ≤ bx - ax ∧ bx - ax ≤ 2000) (h : Nr 1 ts (p2 (-51))) : Nr (val b) ((ax : Rat) + ((bx - ax : Int) : Rat) * ts) (p2 (-38)) := by
  have m1 := n38
  have m2 := n51
  have h1 := h.1
  have h2 := h.2
  rw [m2] at h1 h2
  have b3 := two_bd sd.1 sd.2
  have q := bd_mul (a := ((bx - ax : Int) : Rat)) (b := 1 - ts) (A := 2000) (B := 1 / 2251799813685248) b3.1 b3.2 (by grind) (by grind)
  have e : ((bx - ax : Int) : Rat) * (1 - ts) = ((bx - ax : Int) : Rat) - ((bx - ax : Int) : Rat) * ts := by grind
  rw [e] at q
  have e2 : ((bx - ax : Int) : Rat) = (bx : Rat) - (ax : Rat) := Rat.intCast_sub _ _
  rw [hb.2]
  constructor <;> rw [m1] <;> grind
theorem start_near {ts : Rat} {a : Nat} {ax dx : Int} (ha : IsI a ax) (sd : -2000 ≤ dx ∧ dx ≤ 2000) (h : Nr 0 ts (p2 (-51))) : Nr (val a) ((ax : Rat) + (dx : Rat) * ts) (p2 (-38)) := by
  have m1 := n38
  have m2 := n51
  have h1 := h.1
  have h2 := h.2
  rw [m2] at h1 h2
  have b3 := two_bd sd.1 sd.2
  have q := bd_mul (a := (dx : Rat)) (b := ts) (A := 2000) (B := 1 / 2251799813685248) b3.1 b3.2 (by grind) (by grind)
  rw [ha.2]
  constructor <;> rw [m1] <;> grind
section
variable {a b p : Nat × Nat} {ax ay bx by' px py : Int}
theorem seg_quot (sa : Small ax ∧ Small ay) (sb : Small bx ∧ Small by') (sp : Small px ∧ Small py) (hne : bx - ax ≠ 0 ∨ by' - ay ≠ 0) :
    ∃ v : Rat, v = NN ax ay bx by' px py / DD ax ay bx by' ∧ v * DD ax ay bx by' = NN ax ay bx by' px py ∧ v ≤ p2 24 ∧ -p2 24 ≤ v := by
  unfold Small at *
  have b1 := mul_small (a := px - ax) (b := bx - ax) (A := 2000) (B := 2000) (by omega) (by omega) (by omega) (by omega)
  have b2 := mul_small (a := py - ay) (b := by' - ay) (A := 2000) (B := 2000) (by omega) (by omega) (by omega) (by omega)
  have hD : (1 : Int) ≤ (bx - ax) * (bx - ax) + (by' - ay) * (by' - ay) := by
    have q1 := sq_nn (bx - ax)
    have q2 := sq_nn (by' - ay)
    rcases hne with h | h
    · have : (bx - ax) * (bx - ax) ≠ 0 := fun e => by rcases Int.mul_eq_zero.1 e with h' | h' <;> exact h h'
      omega
    · have : (by' - ay) * (by' - ay) ≠ 0 := fun e => by rcases Int.mul_eq_zero.1 e with h' | h' <;> exact h h'
      omega
  have d1 : (1 : Rat) ≤ DD ax ay bx by' := Rat.intCast_le_intCast.2 hD
  have n1 : -8000000 ≤ NN ax ay bx by' px py ∧ NN ax ay bx by' px py ≤ 8000000 := by
    have := cast_bd (n := (px - ax) * (bx - ax) + (py - ay) * (by' - ay)) (a := -8000000) (b := 8000000) (by omega) (by omega)
    exact this
  have hv : NN ax ay bx by' px py / DD ax ay bx by' * DD ax ay bx by' = NN ax ay bx by' px py := Rat.div_mul_cancel (by grind)
  obtain ⟨v, hvv⟩ : ∃ v, v = NN ax ay bx by' px py / DD ax ay bx by' := ⟨_, rfl⟩
  rw [← hvv] at hv
  refine ⟨v, hvv, hv, ?_, ?_⟩ <;> rw [n24]
  · by_cases h : v ≤ 16777216
    · exact h
    · exfalso
      have := Rat.mul_nonneg (show 0 ≤ v - 16777216 by grind) (show 0 ≤ DD ax ay bx by' by grind)
      grind
  · by_cases h : -16777216 ≤ v
    · exact h
    · exfalso
      have := Rat.mul_nonneg (show 0 ≤ -v - 16777216 by grind) (show 0 ≤ DD ax ay bx by' by grind)
      grind
theorem seg_near (ha : IsP a ax ay) (hb : IsP b bx by') (hp : IsP p px py) (sa : Small ax ∧ Small ay) (sb : Small bx ∧ Small by') (sp : Small px ∧ Small py) (hne : bx - ax ≠ 0 ∨ by' - ay ≠ 0) :
    ∃ ts : Rat, 0 ≤ ts ∧ ts ≤ 1 ∧ Best ax ay bx by' px py ts ∧ IsFin (segT a b p) ∧
      ((1 < val (segT a b p) → Nr 1 ts (p2 (-51))) ∧ (0 ≤ val (segT a b p) → val (segT a b p) ≤ 1 → Nr (val (segT a b p)) ts (p2 (-51))) ∧ (val (segT a b p) ≤ 0 → Nr 0 ts (p2 (-51)))) ∧
      IsFin (segAt a b p).1 ∧ IsFin (segAt a b p).2 ∧ Nr (val (segAt a b p).1) ((ax : Rat) + ((bx - ax : Int) : Rat) * ts) (p2 (-38)) ∧ Nr (val (segAt a b p).2) ((ay : Rat) + ((by' - ay : Int) : Rat) * ts) (p2 (-38)) := by
  have hn : segNe a b = true := by rw [segNe_iff ha hb sa sb]; exact decide_eq_true hne
  obtain ⟨_, hT, hR⟩ := segT_bd ha hb hp sa sb sp hn
  obtain ⟨v, hv, hvD, h1, h2⟩ := seg_quot sa sb sp hne
  have hs := seg_ints ha hb hp sa sb sp
  have hR' : Rnd (segT a b p) v := by rw [hv]; exact hR
  have cn := clamp_near hR' h1 h2
  have cb := clamp_bd v
  unfold Small at sa sb
  have sd1 : -2000 ≤ bx - ax ∧ bx - ax ≤ 2000 := by omega
  have sd2 : -2000 ≤ by' - ay ∧ by' - ay ≤ 2000 := by omega
  refine ⟨clampQ v, cb.1, cb.2, clamp_best hvD, hT.1, cn, ?_⟩
  unfold segAt
  rw [if_pos hn, gt_iff hT.1 isI_lit1.1, gt_iff hT.1 isI_lit0.1, isI_lit1.2, isI_lit0.2]
  have e1 : ((1 : Int) : Rat) = 1 := rfl
  have e0 : ((0 : Int) : Rat) = 0 := rfl
  rw [e1, e0]
  by_cases c1 : 1 < val (segT a b p)
  · rw [if_pos (decide_eq_true c1)]
    exact ⟨hb.1.1, hb.2.1, end_near hb.1 sd1 (cn.1 c1), end_near hb.2 sd2 (cn.1 c1)⟩
  · rw [if_neg (by simpa using c1)]
    by_cases c2 : 0 < val (segT a b p)
    · rw [if_pos (decide_eq_true c2)]
      have g0 : 0 ≤ val (segT a b p) := by grind
      have g1 : val (segT a b p) ≤ 1 := by grind
      have m1 := mul_near_l hs.1 sd1 hT.1 g0 g1
      have m2 := mul_near_l hs.2.1 sd2 hT.1 g0 g1
      have r1 := at_near ha.1 sa.1 sd1 m1.1 m1.2 g0 g1 (cn.2.1 g0 g1)
      have r2 := at_near ha.2 sa.2 sd2 m2.1 m2.2 g0 g1 (cn.2.1 g0 g1)
      exact ⟨r1.1, r2.1, r1.2, r2.2⟩
    · rw [if_neg (by simpa using c2)]
      have g0 : val (segT a b p) ≤ 0 := by grind
      exact ⟨ha.1.1, ha.2.1, start_near ha.1 sd1 (cn.2.2 g0), start_near ha.2 sd2 (cn.2.2 g0)⟩
theorem at_bd {s : Rat} (sa : Small ax) (sb : Small bx) (h0 : 0 ≤ s) (h1 : s ≤ 1) : -3000 ≤ (ax : Rat) + ((bx - ax : Int) : Rat) * s ∧ (ax : Rat) + ((bx - ax : Int) : Rat) * s ≤ 3000 := by
  have b1 := small_bd sa
  unfold Small at sa sb
  have := part_bd (dx := bx - ax) (vt := s) (by omega) h0 h1
  constructor <;> grind
/-- The computed square, from a point that is near the one at a share. -/
theorem sq_l {q : Nat × Nat} {s : Rat} (hp : IsP p px py) (sa : Small ax ∧ Small ay) (sb : Small bx ∧ Small by') (sp : Small px ∧ Small py) (h0 : 0 ≤ s) (h1 : s ≤ 1) (f1 : IsFin q.1) (f2 : IsFin q.2)
    (n1 : Nr (val q.1) ((ax : Rat) + ((bx - ax : Int) : Rat) * s) (p2 (-38))) (n2 : Nr (val q.2) ((ay : Rat) + ((by' - ay : Int) : Rat) * s) (p2 (-38))) :
    IsFin (sqDist p q) ∧ Nr (val (sqDist p q)) (F ax ay bx by' px py s) (1 / 4194304) := by
  have x1 := at_bd (ax := ax) (bx := bx) sa.1 sb.1 h0 h1
  have x2 := at_bd (ax := ay) (bx := by') sa.2 sb.2 h0 h1
  have p1 := small_bd sp.1
  have p2 := small_bd sp.2
  have d1 := diff_near_l hp.1 sp.1 f1 n1 x1
  have d2 := diff_near_l hp.2 sp.2 f2 n2 x2
  have u1 : -4000 ≤ (px : Rat) - ((ax : Rat) + ((bx - ax : Int) : Rat) * s) ∧ (px : Rat) - ((ax : Rat) + ((bx - ax : Int) : Rat) * s) ≤ 4000 := by constructor <;> grind
  have u2 : -4000 ≤ (py : Rat) - ((ay : Rat) + ((by' - ay : Int) : Rat) * s) ∧ (py : Rat) - ((ay : Rat) + ((by' - ay : Int) : Rat) * s) ≤ 4000 := by constructor <;> grind
  have s1 := sq_near d1.1 d1.2 u1
  have s2 := sq_near d2.1 d2.2 u2
  exact sum_near s1.1 s2.1 s1.2 s2.2 u1 u2
theorem sq_r {q : Nat × Nat} {s : Rat} (hp : IsP p px py) (sa : Small ax ∧ Small ay) (sb : Small bx ∧ Small by') (sp : Small px ∧ Small py) (h0 : 0 ≤ s) (h1 : s ≤ 1) (f1 : IsFin q.1) (f2 : IsFin q.2)
    (n1 : Nr (val q.1) ((ax : Rat) + ((bx - ax : Int) : Rat) * s) (p2 (-38))) (n2 : Nr (val q.2) ((ay : Rat) + ((by' - ay : Int) : Rat) * s) (p2 (-38))) :
    (IsFin (fsub q.1 p.1) ∧ IsFin (fsub q.2 p.2) ∧ IsFin (fmul (fsub q.1 p.1) (fsub q.1 p.1)) ∧ IsFin (fmul (fsub q.2 p.2) (fsub q.2 p.2))) ∧ IsFin (sqDist q p) ∧ Nr (val (sqDist q p)) (F ax ay bx by' px py s) (1 / 4194304) := by
  have x1 := at_bd (ax := ax) (bx := bx) sa.1 sb.1 h0 h1
  have x2 := at_bd (ax := ay) (bx := by') sa.2 sb.2 h0 h1
  have p1 := small_bd sp.1
  have p2 := small_bd sp.2
  have d1 := diff_near_r hp.1 sp.1 f1 n1 x1
  have d2 := diff_near_r hp.2 sp.2 f2 n2 x2
  have u1 : -4000 ≤ ((ax : Rat) + ((bx - ax : Int) : Rat) * s) - (px : Rat) ∧ ((ax : Rat) + ((bx - ax : Int) : Rat) * s) - (px : Rat) ≤ 4000 := by constructor <;> grind
  have u2 : -4000 ≤ ((ay : Rat) + ((by' - ay : Int) : Rat) * s) - (py : Rat) ∧ ((ay : Rat) + ((by' - ay : Int) : Rat) * s) - (py : Rat) ≤ 4000 := by constructor <;> grind
  have s1 := sq_near d1.1 d1.2 u1
  have s2 := sq_near d2.1 d2.2 u2
  have r := sum_near s1.1 s2.1 s1.2 s2.2 u1 u2
  refine ⟨⟨d1.1, d2.1, s1.1, s2.1⟩, r.1, ?_⟩
  have e : F ax ay bx by' px py s = (((ax : Rat) + ((bx - ax : Int) : Rat) * s) - (px : Rat)) * (((ax : Rat) + ((bx - ax : Int) : Rat) * s) - (px : Rat)) + (((ay : Rat) + ((by' - ay : Int) : Rat) * s) - (py : Rat)) * (((ay : Rat) + ((by' - ay : Int) : Rat) * s) - (py : Rat)) := by
    unfold F
    grind
  rw [e]
  exact r.2
end
theorem lit6 : IsFin 4517329193108106637 ∧ p2 (-20) ≤ val 4517329193108106637 ∧ val 4517329193108106637 ≤ 1 := by
  have hr : Ieee.double.read 4517329193108106637 = .number false 4722366482869645 (-72) := by kernel_rfl
  refine ⟨⟨_, _, _, hr⟩, ?_, ?_⟩
  · rw [val_of hr]
    have e1 : ((4722366482869645 : Nat) : Rat) = 4722366482869645 := rfl
    have h1 : p2 (-20) = p2 (-72) * p2 52 := by rw [← p2_add]; rfl
    have h2 : p2 52 = 4503599627370496 := p2_nat 52
    have := p2_pos (-72)
    rw [h1, h2, e1]
    simp only [sg]
    grind
  · rw [val_of hr]
    have e1 : ((4722366482869645 : Nat) : Rat) = 4722366482869645 := rfl
    have h1 : p2 0 = p2 (-72) * p2 72 := by rw [← p2_add]; rfl
    have h2 : p2 72 = 4722366482869645213696 := p2_nat 72
    have h3 : p2 0 = 1 := rfl
    have := p2_pos (-72)
    rw [h2, h3] at h1
    rw [e1]
    simp only [sg]
    grind
theorem n20 : p2 (-20) = 1 / 1048576 := by have := p2_val 20; have e : ((2 ^ 20 : Nat) : Rat) = 1048576 := rfl; have e' : p2 (-((20 : Nat) : Int)) = p2 (-20) := rfl; rw [e, e'] at this; grind
/-- The first law. -/
theorem least_ok {far sq : Nat} {f g : Rat} (h1 : IsFin far) (h2 : IsFin sq) (n1 : Nr (val far) f (1 / 4194304)) (n2 : Nr (val sq) g (1 / 4194304)) (h : f ≤ g) (hg0 : 0 ≤ g) (hg : g ≤ 32000000) : IsFin (fadd sq 4517329193108106637) ∧ val far ≤ val (fadd sq 4517329193108106637) := by
  have l := lit6
  have m1 := n20
  have m2 := n27
  have a1 := n1.1
  have a2 := n1.2
  have a3 := n2.1
  have a4 := n2.2
  obtain ⟨l1, l2, l3⟩ := l
  rw [m1] at l2
  have := nr_add h2 l1 (k := 25) (by omega) (by omega) (by rw [n25]; grind) (by rw [n25]; grind)
  obtain ⟨r1, r2⟩ := this
  have r3 := r2.1
  have r4 := r2.2
  rw [show (25 : Int) - 52 = -27 from rfl, m2] at r3 r4
  exact ⟨r1, by grind⟩
theorem near_same {x y : Nat} {f : Rat} (h1 : IsFin x) (h2 : IsFin y) (n1 : Nr (val x) f (1 / 4194304)) (n2 : Nr (val y) f (1 / 4194304)) : IsFin (fsub x y) ∧ val (fabs (fsub x y)) ≤ val 4517329193108106637 := by
  have m1 := n20
  have m2 := n52
  have a1 := n1.1
  have a2 := n1.2
  have a3 := n2.1
  have a4 := n2.2
  obtain ⟨l1, l2, l3⟩ := lit6
  rw [m1] at l2
  have e0 : p2 0 = 1 := rfl
  have := nr_sub h1 h2 (k := 0) (by omega) (by omega) (by rw [e0]; grind) (by rw [e0]; grind)
  obtain ⟨r1, r2⟩ := this
  have r3 := r2.1
  have r4 := r2.2
  rw [show (0 : Int) - 52 = -52 from rfl, m2] at r3 r4
  refine ⟨r1, ?_⟩
  rcases val_fabs r1 with ⟨_, e⟩ | ⟨_, e⟩ <;> rw [e] <;> grind
end Sg
end Go.Proofs.YtpbhpplmokdkhaaDoor
