/- The walks of math.Inf, math.Copysign and math.Nextafter. -/
import Derived.Test.YtpbhpplmokdkhaaDoorRyP
import Derived.Test.YtpbhpplmokdkhaaDoorUt
namespace Go.Proofs.YtpbhpplmokdkhaaDoor
open Go.RowKit Fl

theorem inf_any (w : World) : Calls Tryd.prog 35 #[.int .i64 1] w fun e w' => e = .returned (.float .f64 9218868437227405312) ∧ w = w' := by
  have h2 := fun w => call_frombits 9218868437227405312 w
  go_enter Tryd.func35, Tryd.ntmps35
  go_wp2
  go_ret
  exact ⟨rfl, rfl⟩

set_option maxRecDepth 100000 in
theorem copysign_any (w : World) : Calls Tryd.prog 98 #[.float .f64 1, .float .f64 9218868437227405312] w fun e w' => e = .returned (.float .f64 1) ∧ w = w' := by
  have h1 := fun w => call_bits 1 w
  have h2 := fun w => call_bits 9218868437227405312 w
  have h3 := fun w => call_frombits 1 w
  have b1 : bits .andNot .u64 1 9223372036854775808 = 1 := by decide +kernel
  have b2 : bits .and .u64 9218868437227405312 9223372036854775808 = 0 := by decide +kernel
  have b3 : bits .or .u64 1 0 = 1 := by decide +kernel
  go_enter Tryd.func98, Tryd.ntmps98
  go_wp2
  go_ret
  exact ⟨rfl, rfl⟩

/-- The comparisons that Nextafter makes. -/
theorem next_facts {x : Nat} {n : Int} (h : IsI x n) :
    (FloatKind.f64.format.order x x != some .eq) = false ∧ (FloatKind.f64.format.order 9218868437227405312 9218868437227405312 != some .eq) = false ∧ (FloatKind.f64.format.order x 9218868437227405312 == some .eq) = false ∧
    (FloatKind.f64.format.order x 0 == some .eq) = decide (n = 0) ∧ (FloatKind.f64.format.order 9218868437227405312 x == some .gt) = true ∧ (FloatKind.f64.format.order x 0 == some .gt) = decide (0 < n) := by
  have hi : Ieee.double.read 9218868437227405312 = .infinity false := by decide +kernel
  obtain ⟨s, m, e, hr⟩ := h.1
  refine ⟨?_, ?_, ?_, isI_eq h isI_lit0, ?_, isI_gt h isI_lit0⟩
  · have e1 : (FloatKind.f64.format.order x x == some .eq) = decide (n = n) := isI_eq h h
    rw [decide_eq_true rfl] at e1
    rw [bne, e1]; rfl
  · decide +kernel
  · show (Ieee.double.order x 9218868437227405312 == some .eq) = false
    unfold Ieee.Format.order
    rw [hr, hi]; rfl
  · show (Ieee.double.order 9218868437227405312 x == some .gt) = true
    unfold Ieee.Format.order
    rw [hr, hi]; rfl

theorem nxt_pos_bits {x : Nat} {n : Int} (h : IsI x n) (hx : x < 18446744073709551616) (hn : n.natAbs ≤ 2047) (h0 : 0 < n) : IntKind.u64.wrap ((x : Int) + 1) = (x : Int) + 1 ∧ ((x : Int) + 1).toNat = Ry.nxt x n := by
  have := (Ry.nx_of h hx hn).lt
  unfold Ry.nxt at this ⊢
  rw [if_neg (by omega), if_pos h0] at this ⊢
  exact ⟨by rw [show IntKind.u64.wrap ((x : Int) + 1) = ((x : Int) + 1) % 18446744073709551616 from rfl]; omega, by omega⟩
theorem nxt_neg_bits {x : Nat} {n : Int} (h : IsI x n) (hx : x < 18446744073709551616) (h0 : n < 0) : IntKind.u64.wrap ((x : Int) - 1) = (x : Int) - 1 ∧ ((x : Int) - 1).toNat = Ry.nxt x n := by
  have h1 : x ≠ 0 := by
    rintro rfl
    have := h.2.symm.trans isI_lit0.2
    have := Rat.intCast_inj.1 this
    omega
  unfold Ry.nxt
  rw [if_neg (by omega), if_neg (by omega)]
  exact ⟨by rw [show IntKind.u64.wrap ((x : Int) - 1) = ((x : Int) - 1) % 18446744073709551616 from rfl]; omega, by omega⟩

set_option maxRecDepth 100000 in
theorem next_any {x : Nat} {n : Int} (h : IsI x n) (hx : x < 18446744073709551616) (hn : n.natAbs ≤ 2047) (w : World) :
    Calls Tryd.prog 91 #[.float .f64 x, .float .f64 9218868437227405312] w fun e w' => e = .returned (.float .f64 (Ry.nxt x n)) ∧ w = w' := by
  obtain ⟨f1, f2, f3, f4, f5, f6⟩ := next_facts h
  have hc := copysign_any
  have hb := fun w => call_bits x w
  have hf1 := fun w => call_frombits 1 w
  by_cases h0 : n = 0
  · rw [decide_eq_true h0] at f4
    have hq : Ry.nxt x n = 1 := by unfold Ry.nxt; rw [if_pos h0]
    rw [hq]
    clear h hn h0 hq hc
    go_enter Tryd.func91, Tryd.ntmps91
    have hb1 := fun w => call_bits 1 w
    have hb2 := fun w => call_bits 9218868437227405312 w
    have b1 : bits .andNot .u64 1 9223372036854775808 = 1 := by decide +kernel
    have b2 : bits .and .u64 9218868437227405312 9223372036854775808 = 0 := by decide +kernel
    have b3 : bits .or .u64 1 0 = 1 := by decide +kernel
    go_wp2
    go_ret
    exact ⟨rfl, rfl⟩
  · rw [decide_eq_false h0] at f4
    by_cases h1 : 0 < n
    · rw [decide_eq_true h1] at f6
      obtain ⟨b1, b2⟩ := nxt_pos_bits h hx hn h1
      have hf := fun w => call_frombits ((x : Int) + 1) w
      rw [b2] at hf
      clear h hn h0 h1 b2
      go_enter Tryd.func91, Tryd.ntmps91
      go_wp2
      go_ret
      exact ⟨rfl, rfl⟩
    · rw [decide_eq_false h1] at f6
      obtain ⟨b1, b2⟩ := nxt_neg_bits h hx (by omega)
      have hf := fun w => call_frombits ((x : Int) - 1) w
      rw [b2] at hf
      clear h hn h0 h1 b2
      go_enter Tryd.func91, Tryd.ntmps91
      go_wp2
      go_ret
      exact ⟨rfl, rfl⟩
end Go.Proofs.YtpbhpplmokdkhaaDoor
