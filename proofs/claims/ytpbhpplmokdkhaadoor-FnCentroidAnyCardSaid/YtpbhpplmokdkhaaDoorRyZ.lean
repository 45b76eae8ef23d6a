/- Where a point stands to a segment, in whole numbers. -/
import Derived.Test.YtpbhpplmokdkhaaDoorFlD
set_option linter.unusedVariables false
namespace Ry

/-- On the segment, its ends included. -/
def On (px py ax ay bx by' : Int) : Prop :=
  (py - ay) * (bx - ax) = (by' - ay) * (px - ax) ∧ ((ax ≤ px ∧ px ≤ bx) ∨ (bx ≤ px ∧ px ≤ ax)) ∧ ((ay ≤ py ∧ py ≤ by') ∨ (by' ≤ py ∧ py ≤ ay))
/-- Under the segment, whose first end is on the left. -/
def UpO (px py ax ay bx by' : Int) : Prop := ax ≤ px ∧ px < bx ∧ (py - ay) * (bx - ax) < (by' - ay) * (px - ax)
def Up (px py ax ay bx by' : Int) : Prop := UpO px py ax ay bx by' ∨ UpO px py bx by' ax ay
instance {px py ax ay bx by' : Int} : Decidable (On px py ax ay bx by') := by unfold On; infer_instance
instance {px py ax ay bx by' : Int} : Decidable (UpO px py ax ay bx by') := by unfold UpO; infer_instance
instance {px py ax ay bx by' : Int} : Decidable (Up px py ax ay bx by') := by unfold Up; infer_instance

variable {px py ax ay bx by' : Int}
theorem up_comm : Up px py ax ay bx by' ↔ Up px py bx by' ax ay := by unfold Up; exact or_comm
theorem on_comm : On px py ax ay bx by' ↔ On px py bx by' ax ay := by
  have key : ∀ {ax ay bx by' : Int}, On px py ax ay bx by' → On px py bx by' ax ay := by
    intro ax ay bx by' ⟨h1, h2, h3⟩
    exact ⟨by grind, by omega, by omega⟩
  exact ⟨key, key⟩
theorem up_ord (h : ax ≤ bx) : Up px py ax ay bx by' ↔ UpO px py ax ay bx by' := by
  unfold Up
  constructor
  · rintro (h1 | h1)
    · exact h1
    · obtain ⟨h2, h3, _⟩ := h1; omega
  · exact .inl
/-- The cross product, parted. -/
theorem cross_parts : (py - ay) * (bx - ax) - (by' - ay) * (px - ax) = (py - ay) * (bx - px) + (py - by') * (px - ax) := by grind

theorem mpos {a b : Int} (h : 0 < a) (h' : 0 < b) : 0 < a * b := Int.mul_pos h h'
theorem mneg {a b : Int} (h : a < 0) (h' : 0 < b) : a * b < 0 := Int.mul_neg_of_neg_of_pos h h'
theorem mnn {a b : Int} (h : 0 ≤ a) (h' : 0 ≤ b) : 0 ≤ a * b := Int.mul_nonneg h h'
theorem mnp {a b : Int} (h : a ≤ 0) (h' : 0 ≤ b) : a * b ≤ 0 := Int.mul_nonpos_of_nonpos_of_nonneg h h'

theorem l1 (h : ax ≤ bx) (h1 : px = ax) (h2 : py = ay) : ¬ Up px py ax ay bx by' ∧ On px py ax ay bx by' := by
  rw [up_ord h]
  subst h1 h2
  refine ⟨fun ⟨_, _, h3⟩ => ?_, ?_, by omega, by omega⟩
  · simp at h3
  · simp
theorem l2 (h1 : px = ax) (h2 : ax = bx) (h3 : (ay ≤ py ∧ py ≤ by') ∨ (by' ≤ py ∧ py ≤ ay)) : ¬ Up px py ax ay bx by' ∧ On px py ax ay bx by' := by
  rw [up_ord (by omega)]
  subst h1 h2
  exact ⟨fun ⟨_, h4, _⟩ => by omega, by simp, by omega, h3⟩
theorem l3 (h1 : px = ax) (h2 : ax = bx) (h3 : ¬ ((ay ≤ py ∧ py ≤ by') ∨ (by' ≤ py ∧ py ≤ ay))) : ¬ Up px py ax ay bx by' ∧ ¬ On px py ax ay bx by' := by
  rw [up_ord (by omega)]
  subst h1 h2
  exact ⟨fun ⟨_, h4, _⟩ => by omega, fun ⟨_, _, h5⟩ => h3 h5⟩
theorem l4 (h : ax < bx) (h1 : px = ax) (h2 : py ≠ ay) : (Up px py ax ay bx by' ↔ py < ay) ∧ ¬ On px py ax ay bx by' := by
  rw [up_ord (by omega)]
  subst h1
  have e : (by' - ay) * (px - px) = 0 := by simp
  constructor
  · constructor
    · rintro ⟨_, _, h5⟩
      rw [e] at h5
      by_cases hlt : py < ay
      · exact hlt
      · have := mpos (show 0 < py - ay by omega) (show 0 < bx - px by omega)
        omega
    · intro h5
      refine ⟨by omega, by omega, ?_⟩
      rw [e]
      exact mneg (by omega) (by omega)
  · rintro ⟨h5, _⟩
    rw [e] at h5
    rcases Int.mul_eq_zero.1 h5 with h6 | h6 <;> omega
theorem l5 (h : ax ≤ bx) (h1 : px = bx) (h2 : py = by') : ¬ Up px py ax ay bx by' ∧ On px py ax ay bx by' := by
  rw [up_ord h]
  subst h1 h2
  exact ⟨fun ⟨_, h4, _⟩ => by omega, rfl, by omega, by omega⟩
theorem l6 (h : ax ≤ bx) (h0 : px ≠ ax) (h1 : px = bx) (h2 : py ≠ by') : ¬ Up px py ax ay bx by' ∧ ¬ On px py ax ay bx by' := by
  rw [up_ord h]
  subst h1
  refine ⟨fun ⟨_, h4, _⟩ => by omega, ?_⟩
  rintro ⟨h5, _⟩
  have h6 : (py - by') * (px - ax) = 0 := by grind
  rcases Int.mul_eq_zero.1 h6 with h6 | h6 <;> omega
theorem l7 (h : ax ≤ bx) (h1 : px < ax ∨ bx < px) : ¬ Up px py ax ay bx by' ∧ ¬ On px py ax ay bx by' := by
  rw [up_ord h]
  exact ⟨fun ⟨h3, h4, _⟩ => by omega, fun ⟨_, h5, _⟩ => by omega⟩
theorem l8 (h1 : ax < px) (h2 : px < bx) (h3 : ay < py) (h4 : by' < py) : ¬ Up px py ax ay bx by' ∧ ¬ On px py ax ay bx by' := by
  rw [up_ord (by omega)]
  have e := cross_parts (px := px) (py := py) (ax := ax) (ay := ay) (bx := bx) (by' := by')
  have m1 := mpos (show 0 < py - ay by omega) (show 0 < bx - px by omega)
  have m2 := mpos (show 0 < py - by' by omega) (show 0 < px - ax by omega)
  exact ⟨fun ⟨_, _, h5⟩ => by omega, fun ⟨h5, _⟩ => by omega⟩
theorem l9 (h1 : ax < px) (h2 : px < bx) (h3 : py < ay) (h4 : py < by') : Up px py ax ay bx by' ∧ ¬ On px py ax ay bx by' := by
  rw [up_ord (by omega)]
  have e := cross_parts (px := px) (py := py) (ax := ax) (ay := ay) (bx := bx) (by' := by')
  have m1 := mneg (show py - ay < 0 by omega) (show 0 < bx - px by omega)
  have m2 := mneg (show py - by' < 0 by omega) (show 0 < px - ax by omega)
  exact ⟨⟨by omega, h2, by omega⟩, fun ⟨h5, _⟩ => by omega⟩
theorem l10 (h1 : ax < px) (h2 : px < bx) (h3 : (ay ≤ py ∧ py ≤ by') ∨ (by' ≤ py ∧ py ≤ ay)) : (Up px py ax ay bx by' ↔ (py - ay) * (bx - ax) < (by' - ay) * (px - ax)) ∧ (On px py ax ay bx by' ↔ (py - ay) * (bx - ax) = (by' - ay) * (px - ax)) := by
  rw [up_ord (by omega)]
  exact ⟨⟨fun h => h.2.2, fun h => ⟨by omega, h2, h⟩⟩, ⟨fun h => h.1, fun h => ⟨h, by omega, h3⟩⟩⟩
end Ry
