/- The walks of math.Min and math.Max. -/
import Derived.Test.YtpbhpplmokdkhaaDoorBase
import Derived.Test.YtpbhpplmokdkhaaDoorFlF
namespace Go.Proofs.YtpbhpplmokdkhaaDoor
open Go.RowKit Fl

theorem min_entry : Extern.find Tryd.f60 = some (Extern.MathDim.pick "math.archMin" true .lt) := by kernel_rfl
theorem max_entry : Extern.find Tryd.f69 = some (Extern.MathDim.pick "math.archMax" false .gt) := by kernel_rfl

theorem zero_val {x : Nat} (h : (Ieee.double.read x).isZero = true) : val x = 0 := by
  cases hr : Ieee.double.read x with
  | nan s t => rw [hr] at h; simp [Ieee.Datum.isZero] at h
  | infinity s => rw [hr] at h; simp [Ieee.Datum.isZero] at h
  | number s m e =>
    rw [hr] at h
    have hm : m = 0 := by
      cases m with
      | zero => rfl
      | succ m => simp [Ieee.Datum.isZero] at h
    subst hm
    rw [val_of hr]
    have : ((0 : Nat) : Rat) = 0 := rfl
    rw [this]; grind

theorem pick_min {x y : Nat} (hx : IsFin x) (hy : IsFin y) : ∃ z, Extern.MathDim.pick "math.archMin" true .lt #[.float .f64 x, .float .f64 y] = pure (.float .f64 z) ∧ (z = x ∨ z = y) ∧ val z ≤ val x ∧ val z ≤ val y := by
  obtain ⟨s, m, i, hr⟩ := hx
  obtain ⟨t, n, j, hq⟩ := hy
  refine ⟨_, rfl, ?_⟩
  have ex : FloatKind.f64.decode x = .number s m i := hr
  have ey : FloatKind.f64.decode y = .number t n j := hq
  have ho : ((FloatKind.f64.decode x).order (FloatKind.f64.decode y) == some .lt) = decide (val x < val y) := lt_iff ⟨_, _, _, hr⟩ ⟨_, _, _, hq⟩
  have c1 : (FloatKind.f64.decode x == .infinity true || FloatKind.f64.decode y == .infinity true) = false := by rw [ex, ey]; rfl
  have c2 : ((FloatKind.f64.decode x).isNaN || (FloatKind.f64.decode y).isNaN) = false := by rw [ex, ey]; rfl
  simp only [c1, c2, ho, Bool.false_eq_true, if_false]
  by_cases hz : ((FloatKind.f64.decode x).isZero && (FloatKind.f64.decode y).isZero) = true
  · rw [if_pos hz]
    rw [Bool.and_eq_true] at hz
    have zx := zero_val (x := x) hz.1
    have zy := zero_val (x := y) hz.2
    split
    · exact ⟨.inl rfl, by grind, by rw [zx, zy]; grind⟩
    · exact ⟨.inr rfl, by rw [zx, zy]; grind, by grind⟩
  · rw [if_neg hz]
    by_cases hl : val x < val y
    · rw [if_pos (decide_eq_true hl)]; exact ⟨.inl rfl, by grind, by grind⟩
    · rw [if_neg (by simpa using hl)]; exact ⟨.inr rfl, by grind, by grind⟩
theorem pick_max {x y : Nat} (hx : IsFin x) (hy : IsFin y) : ∃ z, Extern.MathDim.pick "math.archMax" false .gt #[.float .f64 x, .float .f64 y] = pure (.float .f64 z) ∧ (z = x ∨ z = y) ∧ val x ≤ val z ∧ val y ≤ val z := by
  obtain ⟨s, m, i, hr⟩ := hx
  obtain ⟨t, n, j, hq⟩ := hy
  refine ⟨_, rfl, ?_⟩
  have ex : FloatKind.f64.decode x = .number s m i := hr
  have ey : FloatKind.f64.decode y = .number t n j := hq
  have ho : ((FloatKind.f64.decode x).order (FloatKind.f64.decode y) == some .gt) = decide (val y < val x) := gt_iff ⟨_, _, _, hr⟩ ⟨_, _, _, hq⟩
  have c1 : (FloatKind.f64.decode x == .infinity false || FloatKind.f64.decode y == .infinity false) = false := by rw [ex, ey]; rfl
  have c2 : ((FloatKind.f64.decode x).isNaN || (FloatKind.f64.decode y).isNaN) = false := by rw [ex, ey]; rfl
  simp only [c1, c2, ho, Bool.false_eq_true, if_false]
  by_cases hz : ((FloatKind.f64.decode x).isZero && (FloatKind.f64.decode y).isZero) = true
  · rw [if_pos hz]
    rw [Bool.and_eq_true] at hz
    have zx := zero_val (x := x) hz.1
    have zy := zero_val (x := y) hz.2
    split
    · exact ⟨.inl rfl, by grind, by rw [zx, zy]; grind⟩
    · exact ⟨.inr rfl, by rw [zx, zy]; grind, by grind⟩
  · rw [if_neg hz]
    by_cases hl : val y < val x
    · rw [if_pos (decide_eq_true hl)]; exact ⟨.inl rfl, by grind, by grind⟩
    · rw [if_neg (by simpa using hl)]; exact ⟨.inr rfl, by grind, by grind⟩

theorem min_any {x y : Nat} (hx : IsFin x) (hy : IsFin y) : ∃ z, ((z = x ∨ z = y) ∧ val z ≤ val x ∧ val z ≤ val y) ∧ ∀ w, Calls Tryd.prog 36 #[.float .f64 x, .float .f64 y] w fun e w' => e = .returned (.float .f64 z) ∧ w = w' := by
  obtain ⟨z, hz, h⟩ := pick_min hx hy
  refine ⟨z, h, fun w => ?_⟩
  have hc : ∀ w, (callFunc 60 #[.float .f64 x, .float .f64 y]).run Tryd.prog w = .ok (.value (.float .f64 z)) w := by
    intro w
    rw [run_callFunc_extern (P := Tryd.prog) (f := 60) (fn := Tryd.f60) (by kernel_rfl) (by kernel_rfl) (by kernel_rfl) (by kernel_rfl) min_entry, hz]
    rfl
  clear hz h hx hy
  go_enter Tryd.func36, Tryd.ntmps36
  go_wp2
  go_ret
  exact ⟨rfl, rfl⟩
theorem max_any {x y : Nat} (hx : IsFin x) (hy : IsFin y) : ∃ z, ((z = x ∨ z = y) ∧ val x ≤ val z ∧ val y ≤ val z) ∧ ∀ w, Calls Tryd.prog 48 #[.float .f64 x, .float .f64 y] w fun e w' => e = .returned (.float .f64 z) ∧ w = w' := by
  obtain ⟨z, hz, h⟩ := pick_max hx hy
  refine ⟨z, h, fun w => ?_⟩
  have hc : ∀ w, (callFunc 69 #[.float .f64 x, .float .f64 y]).run Tryd.prog w = .ok (.value (.float .f64 z)) w := by
    intro w
    rw [run_callFunc_extern (P := Tryd.prog) (f := 69) (fn := Tryd.f69) (by kernel_rfl) (by kernel_rfl) (by kernel_rfl) (by kernel_rfl) max_entry, hz]
    rfl
  clear hz h hx hy
  go_enter Tryd.func48, Tryd.ntmps48
  go_wp2
  go_ret
  exact ⟨rfl, rfl⟩
theorem min_int {x y : Nat} {a b : Int} (hx : IsI x a) (hy : IsI y b) : ∃ z c, IsI z c ∧ c ≤ a ∧ c ≤ b ∧ (c = a ∨ c = b) ∧ ∀ w, Calls Tryd.prog 36 #[.float .f64 x, .float .f64 y] w fun e w' => e = .returned (.float .f64 z) ∧ w = w' := by
  obtain ⟨z, ⟨h1, h2, h3⟩, h⟩ := min_any hx.1 hy.1
  rw [hx.2] at h2
  rw [hy.2] at h3
  rcases h1 with rfl | rfl
  · rw [hx.2] at h2 h3; exact ⟨z, a, hx, by omega, Rat.intCast_le_intCast.1 h3, .inl rfl, h⟩
  · rw [hy.2] at h2 h3; exact ⟨z, b, hy, Rat.intCast_le_intCast.1 h2, by omega, .inr rfl, h⟩
theorem max_int {x y : Nat} {a b : Int} (hx : IsI x a) (hy : IsI y b) : ∃ z c, IsI z c ∧ a ≤ c ∧ b ≤ c ∧ (c = a ∨ c = b) ∧ ∀ w, Calls Tryd.prog 48 #[.float .f64 x, .float .f64 y] w fun e w' => e = .returned (.float .f64 z) ∧ w = w' := by
  obtain ⟨z, ⟨h1, h2, h3⟩, h⟩ := max_any hx.1 hy.1
  rw [hx.2] at h2
  rw [hy.2] at h3
  rcases h1 with rfl | rfl
  · rw [hx.2] at h2 h3; exact ⟨z, a, hx, by omega, Rat.intCast_le_intCast.1 h3, .inl rfl, h⟩
  · rw [hy.2] at h2 h3; exact ⟨z, b, hy, Rat.intCast_le_intCast.1 h2, by omega, .inr rfl, h⟩
end Go.Proofs.YtpbhpplmokdkhaaDoor
