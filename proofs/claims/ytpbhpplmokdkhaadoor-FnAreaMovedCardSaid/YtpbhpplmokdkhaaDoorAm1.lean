/- The sign of a float, turned; areas that are the same. -/
import Derived.Test.YtpbhpplmokdkhaaDoorOr
import Derived.Test.YtpbhpplmokdkhaaDoorMvW
import Derived.Test.YtpbhpplmokdkhaaDoorRv
set_option linter.unusedVariables false
namespace Go.Proofs.YtpbhpplmokdkhaaDoor
open Go.RowKit Fl

theorem xor63_mod (x : Nat) : (x ^^^ 2 ^ 63) % 2 ^ 63 = x % 2 ^ 63 := by
  rw [Nat.xor_mod_two_pow]; simp
theorem xor63_div (x : Nat) : (x ^^^ 2 ^ 63) / 2 ^ 63 % 2 = 1 - x / 2 ^ 63 % 2 := by
  rw [Nat.xor_div_two_pow, Nat.div_self (by decide)]
  have h : ∀ y : Nat, (y ^^^ 1) % 2 = 1 - y % 2 := by
    intro y
    have := Nat.xor_mod_two_pow (a := y) (b := 1) (n := 1)
    simp only [Nat.pow_one] at this
    rw [this]
    rcases Nat.mod_two_eq_zero_or_one y with h | h <;> rw [h] <;> rfl
  exact h _
theorem read_neg {x : Nat} {s : Bool} {m : Nat} {e : Int} (h : Ieee.double.read x = .number s m e) : Ieee.double.read (x ^^^ 2 ^ 63) = .number (!s) m e := by
  have e1 := xor63_mod x
  have e2 := xor63_div x
  have p63 : (2 : Nat) ^ 63 = 9223372036854775808 := by decide
  unfold Ieee.Format.read at *
  simp only [sw, bin, infR, lp] at h ⊢
  rw [p63] at e1 e2 ⊢
  rw [e1, e2]
  have hb : ∀ b : Nat, b < 2 → ((1 - b == 1) = !(b == 1)) := by intro b hb; match b, hb with | 0, _ => rfl | 1, _ => rfl
  rw [hb _ (Nat.mod_lt _ (by omega))]
  split at h
  · rename_i h1
    rw [if_pos h1]
    cases h; rfl
  · rename_i h1
    rw [if_neg h1]
    split at h
    · rename_i h2
      rw [if_pos h2]
      cases h; rfl
    · split at h <;> cases h
def fneg (x : Nat) : Nat := x ^^^ 2 ^ 63
theorem val_neg {x : Nat} (h : IsFin x) : IsFin (fneg x) ∧ val (fneg x) = - val x := by
  obtain ⟨s, m, e, h⟩ := h
  refine ⟨⟨_, _, _, read_neg h⟩, ?_⟩
  unfold fneg
  rw [val_of h, val_of (read_neg h)]
  cases s
  · simp only [sg, Bool.not_false]; grind
  · simp only [sg, Bool.not_true]; grind
theorem run_fneg {P : Program} (x : Nat) (w : World) : (Op.unary .neg (.float .f64 x)).run P w = .ok (.float .f64 (fneg x)) w := rfl
theorem eq_of_val {x y : Nat} (hx : IsFin x) (hy : IsFin y) (h : val x = val y) : (FloatKind.f64.format.order x y == some .eq) = true := by
  show (Ieee.double.order x y == some .eq) = true
  rw [eq_iff hx hy, h]; exact decide_eq_true rfl
end Go.Proofs.YtpbhpplmokdkhaaDoor
