/- Plain law: a line upwards and a line to the right from a point that is not on a closed ring go through as many of its sides, but for an even number. -/
import Derived.Test.YtpbhpplmokdkhaaDoorHsP
namespace Go.Proofs.YtpbhpplmokdkhaaDoor

/-- Twice the area of a triangle. -/
def crI (ax ay bx by' cx cy : Int) : Int := (bx - ax) * (cy - ay) - (by' - ay) * (cx - ax)
/-- Left of the segment, whose first end is the lower one. -/
def RtO (px py ax ay bx by' : Int) : Prop := ay ≤ py ∧ py < by' ∧ 0 < crI ax ay bx by' px py
def Rt (px py ax ay bx by' : Int) : Prop := if by' < ay then RtO px py bx by' ax ay else RtO px py ax ay bx by'
instance {px py ax ay bx by' : Int} : Decidable (RtO px py ax ay bx by') := by unfold RtO; infer_instance
instance {px py ax ay bx by' : Int} : Decidable (Rt px py ax ay bx by') := by unfold Rt; infer_instance
def quad (px py x y : Int) : Bool := decide (px < x) && decide (py < y)
/-- What spec.Inside answers. -/
def inB (px py : Int) (X Y : Nat → Int) : Nat → Bool
  | 0 => false
  | k + 1 => inB px py X Y k ^^ decide (Rt px py (X k) (Y k) (X (k + 1)) (Y (k + 1)))

section
variable {px py ax ay bx by' : Int}
theorem rt_or : Rt px py ax ay bx by' ↔ RtO px py ax ay bx by' ∨ RtO px py bx by' ax ay := by
  unfold Rt
  split
  · constructor
    · exact .inr
    · rintro (⟨h1, h2, _⟩ | h)
      · omega
      · exact h
  · constructor
    · exact .inl
    · rintro (h | ⟨h1, h2, _⟩)
      · exact h
      · omega
theorem rt_comm : Rt px py ax ay bx by' ↔ Rt px py bx by' ax ay := by rw [rt_or, rt_or]; exact or_comm
theorem cr_parts : crI ax ay bx by' px py = (bx - px) * (py - ay) + (ax - px) * (by' - py) := by unfold crI; grind
theorem cr_swap : crI bx by' ax ay px py = - crI ax ay bx by' px py := by unfold crI; grind
theorem up_cr : Ry.UpO px py ax ay bx by' ↔ ax ≤ px ∧ px < bx ∧ crI ax ay bx by' px py < 0 := by
  unfold Ry.UpO
  have e : crI ax ay bx by' px py = (py - ay) * (bx - ax) - (by' - ay) * (px - ax) := by unfold crI; grind
  rw [e]
  constructor
  · rintro ⟨h1, h2, h3⟩; exact ⟨h1, h2, by omega⟩
  · rintro ⟨h1, h2, h3⟩; exact ⟨h1, h2, by omega⟩
theorem on_cr : Ry.On px py ax ay bx by' ↔ crI ax ay bx by' px py = 0 ∧ ((ax ≤ px ∧ px ≤ bx) ∨ (bx ≤ px ∧ px ≤ ax)) ∧ ((ay ≤ py ∧ py ≤ by') ∨ (by' ≤ py ∧ py ≤ ay)) := by
  unfold Ry.On
  have e : crI ax ay bx by' px py = (py - ay) * (bx - ax) - (by' - ay) * (px - ax) := by unfold crI; grind
  rw [e]
  constructor
  · rintro ⟨h1, h2⟩; exact ⟨by omega, h2⟩
  · rintro ⟨h1, h2⟩; exact ⟨by omega, h2⟩
/-- A side whose left end is the first one. -/
theorem up_rt_lr (h1 : ax ≤ px) (h2 : px < bx) (ho : ¬ Ry.On px py ax ay bx by') : (decide (Ry.Up px py ax ay bx by') ^^ decide (Rt px py ax ay bx by')) = decide (py < by') := by
  have hup : Ry.Up px py ax ay bx by' ↔ crI ax ay bx by' px py < 0 := by
    rw [Ry.up_ord (by omega), up_cr]
    exact ⟨fun h => h.2.2, fun h => ⟨h1, h2, h⟩⟩
  have hrt := rt_or (px := px) (py := py) (ax := ax) (ay := ay) (bx := bx) (by' := by')
  have hcr := cr_parts (px := px) (py := py) (ax := ax) (ay := ay) (bx := bx) (by' := by')
  have hsw := cr_swap (px := px) (py := py) (ax := ax) (ay := ay) (bx := bx) (by' := by')
  rw [on_cr] at ho
  by_cases ua : py < ay
  · by_cases ub : py < by'
    · have m1 := Ry.mpos (show 0 < bx - px by omega) (show 0 < ay - py by omega)
      have m2 := Ry.mnn (show 0 ≤ px - ax by omega) (show 0 ≤ by' - py by omega)
      have e1 : (bx - px) * (py - ay) = -((bx - px) * (ay - py)) := by grind
      have e2 : (ax - px) * (by' - py) = -((px - ax) * (by' - py)) := by grind
      have c1 : Ry.Up px py ax ay bx by' := hup.2 (by omega)
      have c2 : ¬ Rt px py ax ay bx by' := by
        rw [hrt]; rintro (⟨h3, _⟩ | ⟨h3, _⟩) <;> omega
      rw [decide_eq_true c1, decide_eq_false c2, decide_eq_true ub]; rfl
    · have hrt' : Rt px py ax ay bx by' ↔ crI ax ay bx by' px py < 0 := by
        rw [hrt]
        constructor
        · rintro (⟨h3, _⟩ | ⟨_, _, h3⟩) <;> omega
        · intro h3; exact .inr ⟨by omega, ua, by omega⟩
      rw [decide_eq_decide.2 (hup.trans hrt'.symm), decide_eq_false ub, Bool.xor_self]
  · by_cases ub : py < by'
    · have hrt' : Rt px py ax ay bx by' ↔ 0 < crI ax ay bx by' px py := by
        rw [hrt]
        constructor
        · rintro (⟨_, _, h3⟩ | ⟨_, h3, _⟩) <;> omega
        · intro h3; exact .inl ⟨by omega, ub, h3⟩
      have h0 : crI ax ay bx by' px py ≠ 0 := fun h => ho ⟨h, by omega, by omega⟩
      rw [decide_eq_true ub]
      by_cases hc : crI ax ay bx by' px py < 0
      · rw [decide_eq_true (hup.2 hc), decide_eq_false (fun h => by have := hrt'.1 h; omega)]; rfl
      · rw [decide_eq_false (fun h => hc (hup.1 h)), decide_eq_true (hrt'.2 (by omega))]; rfl
    · have m1 := Ry.mnn (show 0 ≤ bx - px by omega) (show 0 ≤ py - ay by omega)
      have m2 := Ry.mnn (show 0 ≤ px - ax by omega) (show 0 ≤ py - by' by omega)
      have e2 : (ax - px) * (by' - py) = (px - ax) * (py - by') := by grind
      have c1 : ¬ Ry.Up px py ax ay bx by' := fun h => by have := hup.1 h; omega
      have c2 : ¬ Rt px py ax ay bx by' := by
        rw [hrt]; rintro (⟨_, h3, _⟩ | ⟨_, h3, _⟩) <;> omega
      rw [decide_eq_false c1, decide_eq_false c2, decide_eq_false ub]; rfl
/-- The law of one side. -/
theorem up_rt (ho : ¬ Ry.On px py ax ay bx by') : (decide (Ry.Up px py ax ay bx by') ^^ decide (Rt px py ax ay bx by')) = (quad px py ax ay ^^ quad px py bx by') := by
  unfold quad
  by_cases ra : px < ax
  · by_cases rb : px < bx
    · have c1 : ¬ Ry.Up px py ax ay bx by' := by
        rintro (⟨h3, _⟩ | ⟨h3, _⟩) <;> omega
      have hcr := cr_parts (px := px) (py := py) (ax := ax) (ay := ay) (bx := bx) (by' := by')
      have hcr' := cr_parts (px := px) (py := py) (ax := bx) (ay := by') (bx := ax) (by' := ay)
      have hrt := rt_or (px := px) (py := py) (ax := ax) (ay := ay) (bx := bx) (by' := by')
      rw [decide_eq_true ra, decide_eq_true rb, decide_eq_false c1, Bool.true_and, Bool.true_and, Bool.false_xor]
      by_cases ua : py < ay <;> by_cases ub : py < by'
      · rw [decide_eq_true ua, decide_eq_true ub]
        exact decide_eq_false (by rw [hrt]; rintro (⟨h3, _⟩ | ⟨h3, _⟩) <;> omega)
      · rw [decide_eq_true ua, decide_eq_false ub]
        have m1 := Ry.mnn (show 0 ≤ ax - px by omega) (show 0 ≤ py - by' by omega)
        have m2 := Ry.mpos (show 0 < bx - px by omega) (show 0 < ay - py by omega)
        exact decide_eq_true (hrt.2 (.inr ⟨by omega, ua, by omega⟩))
      · rw [decide_eq_false ua, decide_eq_true ub]
        have m1 := Ry.mnn (show 0 ≤ bx - px by omega) (show 0 ≤ py - ay by omega)
        have m2 := Ry.mpos (show 0 < ax - px by omega) (show 0 < by' - py by omega)
        exact decide_eq_true (hrt.2 (.inl ⟨by omega, ub, by omega⟩))
      · rw [decide_eq_false ua, decide_eq_false ub]
        exact decide_eq_false (by rw [hrt]; rintro (⟨_, h3, _⟩ | ⟨_, h3, _⟩) <;> omega)
    · have h := up_rt_lr (px := px) (py := py) (ax := bx) (ay := by') (bx := ax) (by' := ay) (by omega) ra (fun h => ho (Ry.on_comm.1 h))
      rw [decide_eq_decide.2 Ry.up_comm, decide_eq_decide.2 rt_comm, h, decide_eq_true ra, decide_eq_false rb]
      simp
  · by_cases rb : px < bx
    · rw [up_rt_lr (by omega) rb ho, decide_eq_false ra, decide_eq_true rb]
      simp
    · have c1 : ¬ Ry.Up px py ax ay bx by' := by
        rintro (⟨_, h3, _⟩ | ⟨_, h3, _⟩) <;> omega
      have hcr := cr_parts (px := px) (py := py) (ax := ax) (ay := ay) (bx := bx) (by' := by')
      have hcr' := cr_parts (px := px) (py := py) (ax := bx) (ay := by') (bx := ax) (by' := ay)
      have c2 : ¬ Rt px py ax ay bx by' := by
        rw [rt_or]
        rintro (⟨h3, h4, h5⟩ | ⟨h3, h4, h5⟩)
        · have m1 := Ry.mnn (show 0 ≤ px - bx by omega) (show 0 ≤ py - ay by omega)
          have m2 := Ry.mnn (show 0 ≤ px - ax by omega) (show 0 ≤ by' - py by omega)
          have e1 : (bx - px) * (py - ay) = -((px - bx) * (py - ay)) := by grind
          have e2 : (ax - px) * (by' - py) = -((px - ax) * (by' - py)) := by grind
          omega
        · have m1 := Ry.mnn (show 0 ≤ px - ax by omega) (show 0 ≤ py - by' by omega)
          have m2 := Ry.mnn (show 0 ≤ px - bx by omega) (show 0 ≤ ay - py by omega)
          have e1 : (ax - px) * (py - by') = -((px - ax) * (py - by')) := by grind
          have e2 : (bx - px) * (ay - py) = -((px - bx) * (ay - py)) := by grind
          omega
      rw [decide_eq_false c1, decide_eq_false c2, decide_eq_false ra, decide_eq_false rb]
      simp
end
theorem up_in {px py : Int} {X Y : Nat → Int} : ∀ k, rcOn px py X Y k = false → (rcUp px py X Y k ^^ inB px py X Y k) = (quad px py (X 0) (Y 0) ^^ quad px py (X k) (Y k)) := by
  intro k
  induction k with
  | zero => intro _; unfold rcUp inB; simp
  | succ k ih =>
    intro h
    unfold rcOn at h
    rw [Bool.or_eq_false_iff] at h
    have h1 := ih h.1
    have h2 := up_rt (of_decide_eq_false h.2)
    unfold rcUp inB
    have e : ∀ a b c d p q r : Bool, (a ^^ b) = (p ^^ q) → (c ^^ d) = (q ^^ r) → ((a ^^ c) ^^ (b ^^ d)) = (p ^^ r) := by decide
    exact e _ _ _ _ _ _ _ h1 h2
/-- The law: both rules agree on closed rings. -/
theorem has_eq {px py : Int} {X Y : Nat → Int} {n : Nat} (h2 : 2 ≤ n) (hc : X (n - 1) = X 0 ∧ Y (n - 1) = Y 0) : ringB px py X Y n = (rcOn px py X Y (n - 1) || inB px py X Y (n - 1)) := by
  rw [ringB_closed h2 hc]
  cases h : rcOn px py X Y (n - 1) with
  | true => rfl
  | false =>
    have := up_in (n - 1) h
    rw [hc.1, hc.2, Bool.xor_self] at this
    have e : ∀ a b : Bool, (a ^^ b) = false → a = b := by decide
    rw [e _ _ this]
end Go.Proofs.YtpbhpplmokdkhaaDoor
