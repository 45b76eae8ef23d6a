/- Plain law: the least of the squares of the distances, and the square root of it. -/
import Derived.Test.YtpbhpplmokdkhaaDoorLe3
import Derived.Test.YtpbhpplmokdkhaaDoorSl1
set_option linter.unusedVariables false
namespace Go.Proofs.YtpbhpplmokdkhaaDoor
open Go.RowKit Fl
namespace Dl

theorem rnd_nonneg {r : Nat} {v : Rat} (h : Rnd r v) (h0 : 0 ≤ v) : 0 ≤ val r := by
  obtain ⟨hf, L, hL, hm, b1, b2, hex⟩ := h
  by_cases hz : v = 0
  · have := hex ⟨0, by rw [hz]; have e : ((0 : Int) : Rat) = 0 := rfl; rw [e]; grind⟩
    rw [this]; exact h0
  · rcases hm with hm | hm | hm
    · subst hm
      obtain ⟨c, q, h1, h2, h3⟩ := Le.fin_form hf
      have hp := p2_pos q
      have hpm := p2_mono h3
      by_cases hc : 0 ≤ c
      · rw [h1]
        exact Rat.mul_nonneg (Rat.intCast_nonneg.2 hc) (Rat.le_of_lt hp)
      · exfalso
        have hc1 : ((c : Int) : Rat) ≤ ((-1 : Int) : Rat) := Rat.intCast_le_intCast.2 (by omega)
        have e1 : ((-1 : Int) : Rat) = -1 := rfl
        rw [e1] at hc1
        have m := Rat.mul_nonneg (show 0 ≤ -1 - (c : Rat) by grind) (Rat.le_of_lt hp)
        rw [h1] at b2
        grind
    · have e := p2_add L 52
      have e52 : p2 52 = 4503599627370496 := p2_nat 52
      have hp := p2_pos L
      rw [e, e52] at hm
      grind
    · have hp := p2_pos (L + 52)
      grind
theorem sq_rat (a : Rat) : 0 ≤ a * a := by
  by_cases h : 0 ≤ a
  · exact Rat.mul_nonneg h h
  · have := Rat.mul_nonneg (show 0 ≤ -a by grind) (show 0 ≤ -a by grind); grind
theorem bd_lt {x : Nat} {k : Int} (h : Bd x k) (hk : k ≤ 500) : val x * val x < p2 1023 ∧ -p2 1023 < val x * val x := by
  have e := p2_add k k
  have hl : p2 (k + k) < p2 1023 := p2_lt (by omega)
  have hm := abs_mul_le h.2.1 h.2.2 h.2.1 h.2.2
  have := p2_pos 1023
  have := sq_rat (val x)
  constructor <;> grind
theorem sq_nonneg' {p q : Nat × Nat} {k : Int} (h1 : Bd p.1 k) (h2 : Bd p.2 k) (h3 : Bd q.1 k) (h4 : Bd q.2 k) (hk : 0 ≤ k) (hk2 : k ≤ 200) : 0 ≤ val (sqDist p q) := by
  have d1 := bd_sub h1 h3 (by omega) (by omega)
  have d2 := bd_sub h2 h4 (by omega) (by omega)
  have m1 := bd_mul d1 d1 (by omega) (by omega)
  have m2 := bd_mul d2 d2 (by omega) (by omega)
  have l1 := bd_lt d1 (by omega)
  have l2 := bd_lt d2 (by omega)
  have n1 := rnd_nonneg (fmul_rnd d1.1 d1.1 l1.1 l1.2) (sq_rat _)
  have n2 := rnd_nonneg (fmul_rnd d2.1 d2.1 l2.1 l2.2) (sq_rat _)
  have hb := p2_add 1 (k + 2 + (k + 2) + 1)
  have hlt : p2 (1 + (k + 2 + (k + 2) + 1)) < p2 1023 := p2_lt (by omega)
  have e1 : p2 1 = 2 := p2_nat 1
  rw [e1] at hb
  have u1 := m1.2.2
  have u2 := m2.2.2
  have hp := p2_pos 1023
  exact rnd_nonneg (fadd_rnd m1.1 m2.1 (by grind) (by grind)) (by grind)
section
variable {a b p : Nat × Nat} {ax ay bx by' px py : Int}
theorem segSq_ok (ha : IsP a ax ay) (hb : IsP b bx by') (hp : IsP p px py) (sa : Small ax ∧ Small ay) (sb : Small bx ∧ Small by') (sp : Small px ∧ Small py) :
    IsFin (segSq a b p) ∧ 0 ≤ val (segSq a b p) ∧ val (segSq a b p) ≤ 33000000 := by
  have h := segAt_bd ha hb hp sa sb sp
  have p1 := (bd_small hp.1 sp.1).mono (l := 50) (by omega)
  have p2' := (bd_small hp.2 sp.2).mono (l := 50) (by omega)
  refine ⟨(segSq_fin ha hb hp sa sb sp).1, sq_nonneg' p1 p2' h.1 h.2.1 (by omega) (by omega), ?_⟩
  by_cases hne : bx - ax ≠ 0 ∨ by' - ay ≠ 0
  · obtain ⟨ts, t0, t1, hB, fT, _, f1, f2, n1, n2⟩ := Sg.seg_near ha hb hp sa sb sp hne
    obtain ⟨_, r2⟩ := Sg.sq_l hp sa sb sp t0 t1 f1 f2 n1 n2
    have hF := Sg.F_le (ax := ax) (ay := ay) (bx := bx) (by' := by') (px := px) (py := py) sa sb sp t0 t1
    have := r2.1
    unfold segSq
    grind
  · have hn : segNe a b = false := by rw [segNe_iff ha hb sa sb]; exact decide_eq_false hne
    have e : segSq a b p = sqDist p a := by unfold segSq segAt; rw [hn]; rfl
    rw [e]
    obtain ⟨_, _, _, _, s⟩ := sq_ints hp ha sp sa
    have d1 : -2000 ≤ px - ax ∧ px - ax ≤ 2000 := by unfold Small at sp sa; omega
    have d2 : -2000 ≤ py - ay ∧ py - ay ≤ 2000 := by unfold Small at sp sa; omega
    have m1 := mul_small (a := px - ax) (b := px - ax) (A := 2000) (B := 2000) d1.1 d1.2 d1.1 d1.2
    have m2 := mul_small (a := py - ay) (b := py - ay) (A := 2000) (B := 2000) d2.1 d2.2 d2.1 d2.2
    have : (((px - ax) * (px - ax) + (py - ay) * (py - ay) : Int) : Rat) ≤ ((33000000 : Int) : Rat) := Rat.intCast_le_intCast.2 (by omega)
    rw [s.2]
    exact this
end
theorem n50 : p2 (-50) = 1 / 1125899906842624 := by have := p2_val 50; have e : ((2 ^ 50 : Nat) : Rat) = 1125899906842624 := rfl; have e' : p2 (-((50 : Nat) : Int)) = p2 (-50) := rfl; rw [e, e'] at this; grind
/-- A square root that is not much greater than that of a greater number. -/
theorem sqrt_le {d e : Nat} (fd : IsFin d) (fe : IsFin e) (hd : 0 ≤ val d) (he : 0 ≤ val e) (h : val d ≤ val e) (hb : val e ≤ 33000000) :
    IsFin (fsqrt d) ∧ IsFin (fsqrt e) ∧ 0 ≤ val (fsqrt e) ∧ val (fsqrt e) ≤ 6001 ∧ val (fsqrt d) ≤ val (fsqrt e) + 1 / 8589934592 := by
  obtain ⟨f1, g1, _, u1, _⟩ := fsqrt_spec fd hd
  obtain ⟨f2, g2, l2, u2, _⟩ := fsqrt_spec fe he
  have h50 := n50
  have hs := u2 6000 (by grind) (by grind)
  rw [h50] at hs
  obtain ⟨s, hse⟩ : ∃ s, s = val (fsqrt e) := ⟨_, rfl⟩
  rw [← hse] at g2 l2 hs ⊢
  obtain ⟨b, hbe⟩ : ∃ b, b = s + s * (1 / 1125899906842624) + 1 / 1099511627776 := ⟨_, rfl⟩
  have hb0 : 0 ≤ b := by rw [hbe]; grind
  have hbb : val e ≤ b * b := by
    by_cases c : val e ≤ b * b
    · exact c
    · exfalso
      have := l2 b hb0 (by grind)
      rw [hbe, h50] at this
      clear u1 u2 l2
      grind
  have := u1 b hb0 (by grind)
  rw [h50] at this
  clear u1 u2 l2
  refine ⟨f1, f2, g2, by grind, ?_⟩
  rw [hbe] at this
  grind
/-- The word that stands for no end. -/
theorem order_inf (x : Nat) (hx : IsFin x) : (FloatKind.f64.format.order x 9218868437227405312 == some .lt) = true := by
  obtain ⟨s, m, e, h⟩ := hx
  have hi : Ieee.double.read 9218868437227405312 = .infinity false := by kernel_rfl
  show (Ieee.double.order x 9218868437227405312 == some .lt) = true
  unfold Ieee.Format.order
  rw [h, hi]; rfl
end Dl
end Go.Proofs.YtpbhpplmokdkhaaDoor
