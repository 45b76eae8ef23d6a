/- The walk of laws.near. -/
import Derived.Test.YtpbhpplmokdkhaaDoorLe2
set_option linter.unusedVariables false
namespace Go.Proofs.YtpbhpplmokdkhaaDoor
open Go.RowKit Go.WideShapes Fl
namespace Le
theorem n31 : p2 (-31) = 1 / 2147483648 := by have := p2_val 31; have e : ((2 ^ 31 : Nat) : Rat) = 2147483648 := rfl; have e' : p2 (-((31 : Nat) : Int)) = p2 (-31) := rfl; rw [e, e'] at this; grind
theorem n30 : p2 (-30) = 1 / 1073741824 := by have := p2_val 30; have e : ((2 ^ 30 : Nat) : Rat) = 1073741824 := rfl; have e' : p2 (-((30 : Nat) : Int)) = p2 (-30) := rfl; rw [e, e'] at this; grind
theorem n83 : p2 (-83) ≤ 1 / 2147483648 := by rw [← n31]; exact p2_mono (by omega)
theorem n8 : p2 (-8) = 1 / 256 := by have := p2_val 8; have e : ((2 ^ 8 : Nat) : Rat) = 256 := rfl; have e' : p2 (-((8 : Nat) : Int)) = p2 (-8) := rfl; rw [e, e'] at this; grind
theorem n60 : p2 (-60) = 1 / 1152921504606846976 := by have := p2_val 60; have e : ((2 ^ 60 : Nat) : Rat) = 1152921504606846976 := rfl; have e' : p2 (-((60 : Nat) : Int)) = p2 (-60) := rfl; rw [e, e'] at this; grind
theorem lit9 : IsFin 4472406533629990549 ∧ 999 / 1000000000000 ≤ val 4472406533629990549 ∧ val 4472406533629990549 ≤ 1001 / 1000000000000 := by
  have hr : Ieee.double.read 4472406533629990549 = .number false 4835703278458517 (-82) := by kernel_rfl
  have h82 : p2 (-82) * 4835703278458516698824704 = 1 := by
    have := p2_val 82
    have e : ((2 ^ 82 : Nat) : Rat) = 4835703278458516698824704 := rfl
    have e' : p2 (-((82 : Nat) : Int)) = p2 (-82) := rfl
    rw [e, e'] at this; grind
  have e1 : ((4835703278458517 : Nat) : Rat) = 4835703278458517 := rfl
  refine ⟨⟨_, _, _, hr⟩, ?_, ?_⟩
  · rw [val_of hr, e1]; simp only [sg]; grind
  · rw [val_of hr, e1]; simp only [sg]; grind
theorem near_ok {a b : Nat} (fa : IsFin a) (fb : IsFin b) (h : Nr (val a) (val b) (1 / 2147483648)) (hb1 : -2097152 ≤ val b) (hb2 : val b ≤ 2097152) :
    IsFin (fadd 4607182418800017408 (fabs b)) ∧ (FloatKind.f64.format.order (fabs (fsub a b)) (fmul 4472406533629990549 (fadd 4607182418800017408 (fabs b))) == some .lt || FloatKind.f64.format.order (fabs (fsub a b)) (fmul 4472406533629990549 (fadd 4607182418800017408 (fabs b))) == some .eq) = true := by
  have h1 := h.1
  have h2 := h.2
  have e31 := n31
  have e30 := n30
  have e8 := n8
  have e60 := n60
  have e83 := n83
  obtain ⟨d1, d2⟩ := nr_sub fa fb (k := -31) (by omega) (by omega) (by rw [e31]; grind) (by rw [e31]; grind)
  have d3 := d2.1
  have d4 := d2.2
  rw [show (-31 : Int) - 52 = -83 from rfl] at d3 d4
  have hab : 0 ≤ val (fabs b) ∧ val (fabs b) ≤ 2097152 := by rcases val_fabs fb with ⟨p, q⟩ | ⟨p, q⟩ <;> rw [q] <;> constructor <;> grind
  have hl1 : val 4607182418800017408 = 1 := isI_lit1.2
  have e22 : p2 22 = 4194304 := p2_nat 22
  obtain ⟨s1, s2⟩ := nr_add isI_lit1.1 (fabs_fin fb) (k := 22) (by omega) (by omega) (by rw [e22, hl1]; grind) (by rw [e22, hl1]; grind)
  have s3 := s2.1
  have s4 := s2.2
  rw [show (22 : Int) - 52 = -30 from rfl, e30, hl1] at s3 s4
  obtain ⟨l1, l2, l3⟩ := lit9
  obtain ⟨S, hS⟩ : ∃ S, S = fadd 4607182418800017408 (fabs b) := ⟨_, rfl⟩
  rw [← hS] at s1 s3 s4 ⊢
  obtain ⟨c, hc⟩ : ∃ c, c = val 4472406533629990549 := ⟨_, rfl⟩
  rw [← hc] at l2 l3
  have m1 := Rat.mul_nonneg (show 0 ≤ c - 999 / 1000000000000 by grind) (show 0 ≤ val S - 999 / 1000 by grind)
  have m2 := Rat.mul_nonneg (show 0 ≤ 1001 / 1000000000000 - c by grind) (show 0 ≤ 2097155 - val S by grind)
  have m3 := Rat.mul_nonneg (show 0 ≤ c by grind) (show 0 ≤ 2097155 - val S by grind)
  obtain ⟨p1, p2'⟩ := nr_mul l1 s1 (k := -8) (by omega) (by omega) (by rw [e8, ← hc]; grind) (by rw [e8, ← hc]; grind)
  have p3 := p2'.1
  have p4 := p2'.2
  rw [show (-8 : Int) - 52 = -60 from rfl, e60, ← hc] at p3 p4
  refine ⟨s1, Sg.le_of_val (fabs_fin d1) p1 ?_⟩
  rcases val_fabs d1 with ⟨p, q⟩ | ⟨p, q⟩ <;> rw [q] <;> grind
end Le
theorem near_any (a b : Nat) (fa : IsFin a) (fb : IsFin b) (b64 : b < 18446744073709551616) (h : Nr (val a) (val b) (1 / 2147483648)) (hb1 : -2097152 ≤ val b) (hb2 : val b ≤ 2097152) (w : World) :
    Calls Tryd.prog 33 #[.float .f64 a, .float .f64 b] w fun e w' => e = .returned (.bool true) ∧ w = w' := by
  obtain ⟨h1, h2⟩ := Le.near_ok fa fb h hb1 hb2
  have r1 := run_fsub (P := Tryd.prog) fa fb 27
  have r2 := run_fadd (P := Tryd.prog) isI_lit1.1 (fabs_fin fb) 27
  have r3 := run_fmul (P := Tryd.prog) Le.lit9.1 h1 27
  have c1 := fun W => abs_any (fsub a b) (fsub_lt _ _) W
  have c2 := fun W => abs_any b b64 W
  obtain ⟨d, hd⟩ : ∃ d, d = fsub a b := ⟨_, rfl⟩
  rw [← hd] at r1 c1 h2
  obtain ⟨x, hx⟩ : ∃ e, e = fabs d := ⟨_, rfl⟩
  rw [← hx] at c1 h2
  obtain ⟨y, hy⟩ : ∃ d, d = fabs b := ⟨_, rfl⟩
  rw [← hy] at c2 h2 r2 r3
  obtain ⟨z, hz⟩ : ∃ d, d = fadd 4607182418800017408 y := ⟨_, rfl⟩
  rw [← hz] at r2 h2 r3
  obtain ⟨u, hu⟩ : ∃ d, d = fmul 4472406533629990549 z := ⟨_, rfl⟩
  rw [← hu] at r3 h2
  clear fa fb b64 h hb1 hb2 h1 hd hx hy hz hu
  go_enter Tryd.func33, Tryd.ntmps33
  go_wp2_with fail
  refine (c1 _).mono ?_
  rintro e w1 ⟨rfl, rfl⟩
  go_wp2_with fail
  refine (c2 _).mono ?_
  rintro e w2 ⟨rfl, rfl⟩
  go_wp2
  go_ret
  exact ⟨rfl, rfl⟩
end Go.Proofs.YtpbhpplmokdkhaaDoor
