/- Plain law: of a closed ring and a point outside a box that holds it, RingContains would tell false, too. -/
import Derived.Test.YtpbhpplmokdkhaaDoorRc
namespace Go.Proofs.YtpbhpplmokdkhaaDoor

theorem rcOn_out {px py x0 y0 x1 y1 : Int} {X Y : Nat → Int} {n : Nat} (h : Covers X Y n x0 y0 x1 y1) (ho : ¬ ((y0 ≤ py ∧ py ≤ y1) ∧ x0 ≤ px ∧ px ≤ x1)) : ∀ k, k + 1 ≤ n → rcOn px py X Y k = false := by
  intro k
  induction k with
  | zero => intro _; rfl
  | succ k ih =>
    intro hk
    unfold rcOn
    rw [ih (by omega), Bool.false_or]
    refine decide_eq_false ?_
    rintro ⟨_, h1, h2⟩
    have a := h k (by omega)
    have b := h (k + 1) (by omega)
    omega
theorem on_out {px py x0 y0 x1 y1 : Int} {X Y : Nat → Int} {n : Nat} (h : Covers X Y n x0 y0 x1 y1) (ho : ¬ ((y0 ≤ py ∧ py ≤ y1) ∧ x0 ≤ px ∧ px ≤ x1)) {i j : Nat} (hi : i < n) (hj : j < n) : ¬ Ry.On px py (X i) (Y i) (X j) (Y j) := by
  rintro ⟨_, h1, h2⟩
  have a := h i hi
  have b := h j hj
  omega
/-- A vertical line: on which side a corner stands. -/
def sideB (px : Int) (x : Int) : Bool := decide (px < x)
theorem up_above {px py ax ay bx by' : Int} (h1 : py < ay) (h2 : py < by') : decide (Ry.Up px py ax ay bx by') = (sideB px ax ^^ sideB px bx) := by
  unfold sideB
  have key : ∀ {ax ay bx by' : Int}, py < ay → py < by' → (Ry.UpO px py ax ay bx by' ↔ ax ≤ px ∧ px < bx) := by
    intro ax ay bx by' h1 h2
    constructor
    · exact fun h => ⟨h.1, h.2.1⟩
    · rintro ⟨h3, h4⟩
      refine ⟨h3, h4, ?_⟩
      have e := Ry.cross_parts (px := px) (py := py) (ax := ax) (ay := ay) (bx := bx) (by' := by')
      have m1 := Ry.mneg (show py - ay < 0 by omega) (show 0 < bx - px by omega)
      have m2 := Ry.mnp (show py - by' ≤ 0 by omega) (show 0 ≤ px - ax by omega)
      omega
  have k1 := key (ax := ax) (bx := bx) h1 h2
  have k2 := key (ax := bx) (bx := ax) h2 h1
  by_cases ha : px < ax <;> by_cases hb : px < bx
  · rw [decide_eq_true ha, decide_eq_true hb]
    exact decide_eq_false (fun h => by rcases h with h | h; · have := k1.1 h; omega
                                       · have := k2.1 h; omega)
  · rw [decide_eq_true ha, decide_eq_false hb]
    exact decide_eq_true (.inr (k2.2 ⟨by omega, ha⟩))
  · rw [decide_eq_false ha, decide_eq_true hb]
    exact decide_eq_true (.inl (k1.2 ⟨by omega, hb⟩))
  · rw [decide_eq_false ha, decide_eq_false hb]
    exact decide_eq_false (fun h => by rcases h with h | h; · have := k1.1 h; omega
                                       · have := k2.1 h; omega)
theorem up_side {px py ax ay bx by' : Int} (h : (px < ax ∧ px < bx) ∨ (ax < px ∧ bx < px) ∨ (ay < py ∧ by' < py)) : decide (Ry.Up px py ax ay bx by') = false := by
  refine decide_eq_false ?_
  have key : ∀ {ax ay bx by' : Int}, ((px < ax ∧ px < bx) ∨ (ax < px ∧ bx < px) ∨ (ay < py ∧ by' < py)) → ¬ Ry.UpO px py ax ay bx by' := by
    rintro ax ay bx by' h ⟨h3, h4, h5⟩
    rcases h with h | h | h
    · omega
    · omega
    · have e := Ry.cross_parts (px := px) (py := py) (ax := ax) (ay := ay) (bx := bx) (by' := by')
      have m1 := Ry.mpos (show 0 < py - ay by omega) (show 0 < bx - px by omega)
      have m2 := Ry.mnn (show 0 ≤ py - by' by omega) (show 0 ≤ px - ax by omega)
      omega
  rintro (h1 | h1)
  · exact key h h1
  · exact key (by omega) h1
theorem rcUp_out {px py x0 y0 x1 y1 : Int} {X Y : Nat → Int} {n : Nat} (h : Covers X Y n x0 y0 x1 y1) (ho : ¬ ((y0 ≤ py ∧ py ≤ y1) ∧ x0 ≤ px ∧ px ≤ x1)) (k : Nat) (hk : k + 1 ≤ n) :
    rcUp px py X Y k = false ∨ (py < y0 ∧ rcUp px py X Y k = (sideB px (X 0) ^^ sideB px (X k))) := by
  by_cases hy : py < y0
  · right
    refine ⟨hy, ?_⟩
    induction k with
    | zero => unfold rcUp; simp
    | succ k ih =>
      have a := h k (by omega)
      have b := h (k + 1) (by omega)
      unfold rcUp
      rw [ih (by omega), up_above (by omega) (by omega)]
      cases sideB px (X 0) <;> cases sideB px (X k) <;> cases sideB px (X (k + 1)) <;> rfl
  · left
    induction k with
    | zero => rfl
    | succ k ih =>
      have a := h k (by omega)
      have b := h (k + 1) (by omega)
      unfold rcUp
      rw [ih (by omega), up_side (by omega)]
      rfl
theorem up_self {px py ax ay : Int} : decide (Ry.Up px py ax ay ax ay) = false := by
  refine decide_eq_false ?_
  rintro (⟨h1, h2, _⟩ | ⟨h1, h2, _⟩) <;> omega
theorem ringB_out {px py x0 y0 x1 y1 : Int} {X Y : Nat → Int} {n : Nat} (h1 : 1 ≤ n) (hc : X (n - 1) = X 0 ∧ Y (n - 1) = Y 0) (h : Covers X Y n x0 y0 x1 y1) (ho : ¬ ((y0 ≤ py ∧ py ≤ y1) ∧ x0 ≤ px ∧ px ≤ x1)) : ringB px py X Y n = false := by
  unfold ringB
  rw [rcOn_out h ho (n - 1) (by omega), decide_eq_false (on_out h ho (by omega) (by omega)), hc.1, hc.2, up_self]
  rcases rcUp_out h ho (n - 1) (by omega) with h2 | ⟨_, h2⟩
  · rw [h2]; rfl
  · rw [h2, hc.1]; simp
/-- What RingContains answers of a closed ring. -/
theorem rc_closed {px py : Int} {X Y : Nat → Int} {n : Nat} {b : Bool} (h1 : 1 ≤ n) (hc : X (n - 1) = X 0 ∧ Y (n - 1) = Y 0) (h : RcOut px py X Y n b) : b = ringB px py X Y n := by
  rcases h with h | ⟨h, x0, y0, x1, y1, h2, h3⟩
  · exact h
  · rw [h, ringB_out h1 hc h2 h3]
/-- Where the ring is closed its closing side adds nothing. -/
theorem ringB_closed {px py : Int} {X Y : Nat → Int} {n : Nat} (h2 : 2 ≤ n) (hc : X (n - 1) = X 0 ∧ Y (n - 1) = Y 0) : ringB px py X Y n = (rcOn px py X Y (n - 1) || rcUp px py X Y (n - 1)) := by
  unfold ringB
  rw [hc.1, hc.2, up_self]
  by_cases ho : Ry.On px py (X 0) (Y 0) (X 0) (Y 0)
  · have h1 : rcOn px py X Y 1 = true := by
      unfold rcOn
      have : Ry.On px py (X 0) (Y 0) (X 1) (Y 1) := by
        obtain ⟨_, h4, h5⟩ := ho
        have e1 : px = X 0 := by omega
        have e2 : py = Y 0 := by omega
        refine ⟨by rw [e1, e2]; simp, by omega, by omega⟩
      rw [decide_eq_true this, Bool.or_true]
    have h3 := rcOn_mono h1 (n - 1 - 1)
    rw [show 1 + (n - 1 - 1) = n - 1 by omega] at h3
    rw [h3]; simp
  · rw [decide_eq_false ho]; simp
end Go.Proofs.YtpbhpplmokdkhaaDoor
