/- The joined law of FnSegmentLeast: what the computed numbers answer. -/
import Derived.Test.YtpbhpplmokdkhaaDoorSg
set_option linter.unusedVariables false
namespace Go.Proofs.YtpbhpplmokdkhaaDoor
open Go.RowKit Fl
namespace Sg

theorem order_inf {x : Nat} (s : Bool) (hx : Ieee.double.read x = .infinity s) {y : Nat} (hy : IsFin y) : Ieee.double.order x y = some (if s then .lt else .gt) := by
  obtain ⟨t, m, e, hy⟩ := hy
  unfold Ieee.Format.order
  rw [hx, hy]; rfl
theorem share_fin {x : Nat} (h1 : (FloatKind.f64.format.order x 0 == some .gt || FloatKind.f64.format.order x 0 == some .eq) = true)
    (h2 : (FloatKind.f64.format.order x 4607182418800017408 == some .lt || FloatKind.f64.format.order x 4607182418800017408 == some .eq) = true) : IsFin x ∧ 0 ≤ val x ∧ val x ≤ 1 := by
  have h1 : (Ieee.double.order x 0 == some .gt || Ieee.double.order x 0 == some .eq) = true := h1
  have h2 : (Ieee.double.order x 4607182418800017408 == some .lt || Ieee.double.order x 4607182418800017408 == some .eq) = true := h2
  have hf : IsFin x := by
    cases hd : Ieee.double.read x with
    | nan s t =>
      unfold Ieee.Format.order at h1
      rw [hd] at h1
      simp [Ieee.Datum.order] at h1
    | infinity s =>
      rw [order_inf s hd isI_lit0.1] at h1
      rw [order_inf s hd isI_lit1.1] at h2
      cases s <;> simp at h1 h2
    | number s m e => exact ⟨s, m, e, hd⟩
  refine ⟨hf, ?_, ?_⟩
  · rw [gt_iff hf isI_lit0.1, eq_iff hf isI_lit0.1, isI_lit0.2] at h1
    have e : ((0 : Int) : Rat) = 0 := rfl
    rw [e] at h1
    simp only [Bool.or_eq_true, decide_eq_true_eq] at h1
    grind
  · rw [lt_iff hf isI_lit1.1, eq_iff hf isI_lit1.1, isI_lit1.2] at h2
    have e : ((1 : Int) : Rat) = 1 := rfl
    rw [e] at h2
    simp only [Bool.or_eq_true, decide_eq_true_eq] at h2
    grind
theorem le_of_val {x y : Nat} (hx : IsFin x) (hy : IsFin y) (h : val x ≤ val y) : (FloatKind.f64.format.order x y == some .lt || FloatKind.f64.format.order x y == some .eq) = true := by
  show (Ieee.double.order x y == some .lt || Ieee.double.order x y == some .eq) = true
  rw [lt_iff hx hy, eq_iff hx hy, Bool.or_eq_true, decide_eq_true_eq, decide_eq_true_eq]
  grind
section
variable {a b p : Nat × Nat} {ax ay bx by' px py : Int} {s : Nat}
/-- The point at a share, as it is reckoned. -/
def onP (a b : Nat × Nat) (s : Nat) : Nat × Nat := (fadd a.1 (fmul s (fsub b.1 a.1)), fadd a.2 (fmul s (fsub b.2 a.2)))
theorem on_near (ha : IsP a ax ay) (hb : IsP b bx by') (sa : Small ax ∧ Small ay) (sb : Small bx ∧ Small by') (fs : IsFin s) (h0 : 0 ≤ val s) (h1 : val s ≤ 1) :
    (IsI (fsub b.1 a.1) (bx - ax) ∧ IsI (fsub b.2 a.2) (by' - ay) ∧ IsFin (fmul s (fsub b.1 a.1)) ∧ IsFin (fmul s (fsub b.2 a.2))) ∧ IsFin (onP a b s).1 ∧ IsFin (onP a b s).2 ∧
    Nr (val (onP a b s).1) ((ax : Rat) + ((bx - ax : Int) : Rat) * val s) (p2 (-38)) ∧ Nr (val (onP a b s).2) ((ay : Rat) + ((by' - ay : Int) : Rat) * val s) (p2 (-38)) := by
  have hsa := sa
  have hsb := sb
  unfold Small at hsa hsb
  have i1 := isI_sub hb.1 ha.1 (by omega)
  have i2 := isI_sub hb.2 ha.2 (by omega)
  have sd1 : -2000 ≤ bx - ax ∧ bx - ax ≤ 2000 := by omega
  have sd2 : -2000 ≤ by' - ay ∧ by' - ay ≤ 2000 := by omega
  have u1 := mul_near_r i1 sd1 fs h0 h1
  have u2 := mul_near_r i2 sd2 fs h0 h1
  have z : Nr (val s) (val s) (p2 (-51)) := by have := p2_pos (-51); exact ⟨by grind, by grind⟩
  have w1 := at_near ha.1 sa.1 sd1 u1.1 u1.2 h0 h1 z
  have w2 := at_near ha.2 sa.2 sd2 u2.1 u2.2 h0 h1 z
  exact ⟨⟨i1, i2, u1.1, u2.1⟩, w1.1, w2.1, w1.2, w2.2⟩
theorem F_nonneg (t : Rat) : 0 ≤ F ax ay bx by' px py t := by
  unfold F
  have sq : ∀ a : Rat, 0 ≤ a * a := fun a => by
    by_cases h : 0 ≤ a
    · exact Rat.mul_nonneg h h
    · have := Rat.mul_nonneg (show 0 ≤ -a by grind) (show 0 ≤ -a by grind); grind
  have := sq ((px : Rat) - (ax + ((bx - ax : Int) : Rat) * t))
  have := sq ((py : Rat) - (ay + ((by' - ay : Int) : Rat) * t))
  grind
theorem F_le (sa : Small ax ∧ Small ay) (sb : Small bx ∧ Small by') (sp : Small px ∧ Small py) {t : Rat} (h0 : 0 ≤ t) (h1 : t ≤ 1) : F ax ay bx by' px py t ≤ 32000000 := by
  have x1 := at_bd (ax := ax) (bx := bx) sa.1 sb.1 h0 h1
  have x2 := at_bd (ax := ay) (bx := by') sa.2 sb.2 h0 h1
  have p1 := small_bd sp.1
  have p2 := small_bd sp.2
  have b1 := bd_mul (a := (px : Rat) - (ax + ((bx - ax : Int) : Rat) * t)) (b := (px : Rat) - (ax + ((bx - ax : Int) : Rat) * t)) (A := 4000) (B := 4000) (by grind) (by grind) (by grind) (by grind)
  have b2 := bd_mul (a := (py : Rat) - (ay + ((by' - ay : Int) : Rat) * t)) (b := (py : Rat) - (ay + ((by' - ay : Int) : Rat) * t)) (A := 4000) (B := 4000) (by grind) (by grind) (by grind) (by grind)
  unfold F
  grind
/-- What is needed of a point that is computed on the segment. -/
def SqOk (q p : Nat × Nat) : Prop := IsFin q.1 ∧ IsFin q.2 ∧ IsFin p.1 ∧ IsFin p.2 ∧ IsFin (fsub q.1 p.1) ∧ IsFin (fsub q.2 p.2) ∧ IsFin (fmul (fsub q.1 p.1) (fsub q.1 p.1)) ∧ IsFin (fmul (fsub q.2 p.2) (fsub q.2 p.2))
theorem first_ok (ha : IsP a ax ay) (hb : IsP b bx by') (hp : IsP p px py) (sa : Small ax ∧ Small ay) (sb : Small bx ∧ Small by') (sp : Small px ∧ Small py) (hne : bx - ax ≠ 0 ∨ by' - ay ≠ 0)
    (fs : IsFin s) (h0 : 0 ≤ val s) (h1 : val s ≤ 1) :
    SqOk (onP a b s) p ∧ IsFin (sqDist (onP a b s) p) ∧ IsFin (segSq a b p) ∧
      (FloatKind.f64.format.order (segSq a b p) (fadd (sqDist (onP a b s) p) 4517329193108106637) == some .lt || FloatKind.f64.format.order (segSq a b p) (fadd (sqDist (onP a b s) p) 4517329193108106637) == some .eq) = true := by
  obtain ⟨ts, t0, t1, hB, fT, _, f1, f2, n1, n2⟩ := seg_near ha hb hp sa sb sp hne
  obtain ⟨_, g1, g2, m1, m2⟩ := on_near ha hb sa sb fs h0 h1
  obtain ⟨r1, r2⟩ := sq_l hp sa sb sp t0 t1 f1 f2 n1 n2
  obtain ⟨⟨q1, q2, q3, q4⟩, q5, q6⟩ := sq_r hp sa sb sp h0 h1 g1 g2 m1 m2
  have hl := best_least hB h0 h1
  obtain ⟨e1, e2⟩ := least_ok r1 q5 r2 q6 hl (F_nonneg _) (F_le sa sb sp h0 h1)
  exact ⟨⟨g1, g2, hp.1.1, hp.2.1, q1, q2, q3, q4⟩, q5, r1, le_of_val r1 e1 e2⟩
theorem second_ok (ha : IsP a ax ay) (hb : IsP b bx by') (hp : IsP p px py) (sa : Small ax ∧ Small ay) (sb : Small bx ∧ Small by') (sp : Small px ∧ Small py) (hne : bx - ax ≠ 0 ∨ by' - ay ≠ 0)
    {q : Nat × Nat} (hq : ∃ ts : Rat, 0 ≤ ts ∧ ts ≤ 1 ∧ Best ax ay bx by' px py ts ∧ IsFin q.1 ∧ IsFin q.2 ∧ Nr (val q.1) ((ax : Rat) + ((bx - ax : Int) : Rat) * ts) (p2 (-38)) ∧ Nr (val q.2) ((ay : Rat) + ((by' - ay : Int) : Rat) * ts) (p2 (-38))) :
    SqOk q p ∧ IsFin (sqDist q p) ∧ IsFin (fsub (segSq a b p) (sqDist q p)) ∧
      (FloatKind.f64.format.order (fabs (fsub (segSq a b p) (sqDist q p))) 4517329193108106637 == some .lt || FloatKind.f64.format.order (fabs (fsub (segSq a b p) (sqDist q p))) 4517329193108106637 == some .eq) = true := by
  obtain ⟨ts, t0, t1, hB, fT, _, f1, f2, n1, n2⟩ := seg_near ha hb hp sa sb sp hne
  obtain ⟨us, u0, u1, hC, g1, g2, m1, m2⟩ := hq
  obtain ⟨r1, r2⟩ := sq_l hp sa sb sp t0 t1 f1 f2 n1 n2
  obtain ⟨⟨q1, q2, q3, q4⟩, q5, q6⟩ := sq_r hp sa sb sp u0 u1 g1 g2 m1 m2
  have l1 := best_least hB u0 u1
  have l2 := best_least hC t0 t1
  have e : F ax ay bx by' px py us = F ax ay bx by' px py ts := by grind
  rw [e] at q6
  obtain ⟨e1, e2⟩ := near_same r1 q5 r2 q6
  exact ⟨⟨g1, g2, hp.1.1, hp.2.1, q1, q2, q3, q4⟩, q5, e1, le_of_val (fabs_fin e1) lit6.1 e2⟩
end
end Sg
end Go.Proofs.YtpbhpplmokdkhaaDoor
