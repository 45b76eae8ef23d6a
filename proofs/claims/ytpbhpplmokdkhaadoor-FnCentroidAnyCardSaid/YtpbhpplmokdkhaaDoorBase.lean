/- The walks of the small functions on floats: math.Abs, math.Trunc, math.Signbit, math.Sqrt, spec.IsWhole. -/
import Derived.Test.YtpbhpplmokdkhaaDoorRows
import Derived.Test.YtpbhpplmokdkhaaDoorFlD
import Derived.WalkKit
import Derived.WalkSpells
import Derived.WalkLawsBesides
import Derived.Laws.Externs
import Derived.Laws.FloatArith
import Derived.Lib.Hide
namespace Go.Proofs.YtpbhpplmokdkhaaDoor
open Go.RowKit Fl

@[go_sem] theorem run_store_float {P : Program} {w : World} {a : Addr} {m : Mode} (k : FloatKind) (b : Nat) : (store a (.float k b) m).run P w = stored P w a (.float k b) m := run_store P w a _ m rfl

theorem call_bits (b : Nat) (w : World) : (callFunc 50 #[.float .f64 b]).run Tryd.prog w = .ok (.value (.int .u64 b)) w := by
  rw [run_callFunc_extern (P := Tryd.prog) (f := 50) (fn := Tryd.f50) (e := Extern.MathFloatBits.float64bits) (by kernel_rfl) (by kernel_rfl) (by kernel_rfl) (by kernel_rfl) (by kernel_rfl)]
  rfl
theorem call_frombits (n : Int) (w : World) : (callFunc 49 #[.int .u64 n]).run Tryd.prog w = .ok (.value (.float .f64 n.toNat)) w := by
  rw [run_callFunc_extern (P := Tryd.prog) (f := 49) (fn := Tryd.f49) (e := Extern.MathFloatBits.float64frombits) (by kernel_rfl) (by kernel_rfl) (by kernel_rfl) (by kernel_rfl) (by kernel_rfl)]
  rfl
theorem call_sqrt {x : Nat} (hx : IsFin x) (h0 : 0 ≤ val x) (w : World) : (callFunc 62 #[.float .f64 x]).run Tryd.prog w = .ok (.value (.float .f64 (fsqrt x))) w := by
  rw [run_callFunc_extern (P := Tryd.prog) (f := 62) (fn := Tryd.f62) (e := Extern.MathSqrt.sqrt) (by kernel_rfl) (by kernel_rfl) (by kernel_rfl) (by kernel_rfl) (by kernel_rfl)]
  have h := sqrt_some hx h0
  have e : Extern.MathSqrt.sqrt #[.float .f64 x] = (match FloatKind.f64.format.sqrt x with
    | some r => pure (.float .f64 r)
    | none => do pure (.float .f64 (← choose (.nanBits .f64 x x)))) := rfl
  rw [e, show FloatKind.f64.format.sqrt x = some (fsqrt x) from h]
  rfl
theorem trunc_entry : Extern.find Tryd.f88 = some (Extern.MathFloor.toIntegral "math.archTrunc" .zero) := by kernel_rfl
/-- What is cut to a whole number: no NaN. -/
theorem call_trunc {x : Nat} (hx : (Ieee.double.read x).isNaN = false) (w : World) : (callFunc 88 #[.float .f64 x]).run Tryd.prog w = .ok (.value (.float .f64 (ftrunc x))) w := by
  rw [run_callFunc_extern (P := Tryd.prog) (f := 88) (fn := Tryd.f88) (by kernel_rfl) (by kernel_rfl) (by kernel_rfl) (by kernel_rfl) trunc_entry]
  have e : Extern.MathFloor.toIntegral "math.archTrunc" .zero #[.float .f64 x] = (match FloatKind.f64.decode x with
    | .nan s t =>
      if FloatKind.f64.format.quiet t = t then pure (.float .f64 x) else do
      let kept ← choose (.extern "math.Floor,Ceil,Trunc,RoundToEven.signallingNaN kept" 2)
      pure (.float .f64 (if kept == 1 then x else FloatKind.f64.encode (.nan s (FloatKind.f64.format.quiet t))))
    | d => pure (.float .f64 (FloatKind.f64.encode (d.integral .zero)))) := rfl
  rw [e]
  have hd : FloatKind.f64.decode x = Ieee.double.read x := rfl
  rw [hd]
  unfold ftrunc
  cases h : Ieee.double.read x with
  | nan s t => rw [h] at hx; simp [Ieee.Datum.isNaN] at hx
  | infinity s => rfl
  | number s m e => rfl
/-- A NaN: some word, and it may have been asked of the tape. -/
theorem call_trunc_nan {x : Nat} (hx : (Ieee.double.read x).isNaN = true) (w : World) : ∃ y w', (callFunc 88 #[.float .f64 x]).run Tryd.prog w = .ok (.value (.float .f64 y)) w' ∧ (w' = w ∨ w' = w.drew) := by
  rw [run_callFunc_extern (P := Tryd.prog) (f := 88) (fn := Tryd.f88) (by kernel_rfl) (by kernel_rfl) (by kernel_rfl) (by kernel_rfl) trunc_entry]
  have e : Extern.MathFloor.toIntegral "math.archTrunc" .zero #[.float .f64 x] = (match FloatKind.f64.decode x with
    | .nan s t =>
      if FloatKind.f64.format.quiet t = t then pure (.float .f64 x) else do
      let kept ← choose (.extern "math.Floor,Ceil,Trunc,RoundToEven.signallingNaN kept" 2)
      pure (.float .f64 (if kept == 1 then x else FloatKind.f64.encode (.nan s (FloatKind.f64.format.quiet t))))
    | d => pure (.float .f64 (FloatKind.f64.encode (d.integral .zero)))) := rfl
  rw [e]
  have hd : FloatKind.f64.decode x = Ieee.double.read x := rfl
  rw [hd]
  cases h : Ieee.double.read x with
  | nan s t =>
    simp only
    by_cases hq : FloatKind.f64.format.quiet t = t
    · rw [if_pos hq]; exact ⟨_, _, rfl, .inl rfl⟩
    · rw [if_neg hq]; exact ⟨_, _, rfl, .inr rfl⟩
  | infinity s => rw [h] at hx; simp [Ieee.Datum.isNaN] at hx
  | number s m e => rw [h] at hx; simp [Ieee.Datum.isNaN] at hx

theorem andNot_abs (x : Nat) (hx : x < 18446744073709551616) : bits .andNot .u64 (x : Int) 9223372036854775808 = ((fabs x : Nat) : Int) := by
  rw [u64_andNot _ _ (by omega) (by omega) (by omega) (by omega)]
  congr 1
  have e : (18446744073709551615 - (9223372036854775808 : Int).toNat) = 2 ^ 63 - 1 := rfl
  rw [e, Int.toNat_natCast, Nat.and_two_pow_sub_one_eq_mod]
  rfl

theorem abs_any (x : Nat) (hx : x < 18446744073709551616) (w : World) :
    Calls Tryd.prog 24 #[.float .f64 x] w fun e w' => e = .returned (.float .f64 (fabs x)) ∧ w = w' := by
  have h1 := call_bits x
  have h2 := fun w => call_frombits ((fabs x : Nat) : Int) w
  have h3 := andNot_abs x hx
  go_enter Tryd.func24, Tryd.ntmps24
  go_wp2
  go_ret
  exact ⟨rfl, rfl⟩

theorem trunc_any (x : Nat) (hx : (Ieee.double.read x).isNaN = false) (w : World) :
    Calls Tryd.prog 63 #[.float .f64 x] w fun e w' => e = .returned (.float .f64 (ftrunc x)) ∧ w = w' := by
  have h1 := fun w => call_trunc hx w
  go_enter Tryd.func63, Tryd.ntmps63
  go_wp2
  go_ret
  exact ⟨rfl, rfl⟩

set_option maxRecDepth 100000 in
theorem trunc_nan (x : Nat) (hx : (Ieee.double.read x).isNaN = true) (w : World) :
    Calls Tryd.prog 63 #[.float .f64 x] w fun e w' => ∃ y, e = .returned (.float .f64 y) ∧ (w' = w ∨ w' = w.drew) := by
  obtain ⟨y, w', h1, hw⟩ := call_trunc_nan hx w
  have H := Lib.hid hw; clear hw
  go_enter Tryd.func63, Tryd.ntmps63
  go_wp2
  go_ret
  exact ⟨y, rfl, H.out⟩

theorem wrap_sign (x : Nat) (hx : x < 18446744073709551616) : decide (wrap64 (x : Int) < 0) = fsign x := by
  unfold fsign wrap64
  simp only [decide_eq_decide]
  omega
theorem sign_any (x : Nat) (hx : x < 18446744073709551616) (w : World) :
    Calls Tryd.prog 64 #[.float .f64 x] w fun e w' => e = .returned (.bool (fsign x)) ∧ w = w' := by
  have h1 := call_bits x
  have h2 := wrap_sign x hx
  go_enter Tryd.func64, Tryd.ntmps64
  go_wp2
  go_ret
  exact ⟨rfl, rfl⟩

theorem sqrt_any (x : Nat) (hx : IsFin x) (h0 : 0 ≤ val x) (w : World) :
    Calls Tryd.prog 37 #[.float .f64 x] w fun e w' => e = .returned (.float .f64 (fsqrt x)) ∧ w = w' := by
  have h1 := fun w => call_sqrt hx h0 w
  clear hx h0
  go_enter Tryd.func37, Tryd.ntmps37
  go_wp2
  go_ret
  exact ⟨rfl, rfl⟩

theorem order_nan {x : Nat} (hx : (Ieee.double.read x).isNaN = true) (y : Nat) : FloatKind.f64.format.order x y = none := by
  have e : FloatKind.f64.format.order x y = (Ieee.double.read x).order (Ieee.double.read y) := rfl
  rw [e]
  cases h : Ieee.double.read x with
  | nan s t => rfl
  | infinity s => rw [h] at hx; simp [Ieee.Datum.isNaN] at hx
  | number s m e => rw [h] at hx; simp [Ieee.Datum.isNaN] at hx

set_option maxHeartbeats 400000 in
theorem whole_walk (x : Nat) (hx : x < 18446744073709551616) (hnan : (Ieee.double.read x).isNaN = false) (w : World) :
    Calls Tryd.prog 41 #[.float .f64 x] w fun e w' => e = .returned (.bool (wholeB x)) ∧ w = w' := by
  obtain ⟨b, hb⟩ : ∃ b, b = wholeB x := ⟨_, rfl⟩
  have HB := Lib.hid hb
  clear hb
  by_cases h1 : (FloatKind.f64.format.order x (ftrunc x) == some .eq) = true
  · by_cases h2 : (FloatKind.f64.format.order (fabs x) 4652007308841189376 == some .lt || FloatKind.f64.format.order (fabs x) 4652007308841189376 == some .eq) = true
    · by_cases h4 : (FloatKind.f64.format.order x 0 != some .eq) = true
      · go_enter Tryd.func41, Tryd.ntmps41
        go_wp2_with (first | (go_at_call 63; refine (trunc_any x hnan _).mono ?_; rintro e w' ⟨rfl, rfl⟩) | (go_at_call 24; refine (abs_any x hx _).mono ?_; rintro e w' ⟨rfl, rfl⟩) | (go_at_call 64; refine (sign_any x hx _).mono ?_; rintro e w' ⟨rfl, rfl⟩))
        go_ret
        refine ⟨?_, rfl⟩
        have : wholeB x = true := by
          unfold wholeB
          rw [show (Ieee.double.order x (ftrunc x) == some Ordering.eq) = true from h1, show (Ieee.double.order (fabs x) 4652007308841189376 == some Ordering.lt || Ieee.double.order (fabs x) 4652007308841189376 == some Ordering.eq) = true from h2, show (Ieee.double.order x 0 != some Ordering.eq) = true from h4]
          rfl
        rw [this]; rfl
      · have h4' : (FloatKind.f64.format.order x 0 != some .eq) = false := by simpa using h4
        clear h4
        obtain ⟨sg', hs'⟩ : ∃ s, s = fsign x := ⟨_, rfl⟩
        go_enter Tryd.func41, Tryd.ntmps41
        go_wp2_with (first | (go_at_call 63; refine (trunc_any x hnan _).mono ?_; rintro e w' ⟨rfl, rfl⟩) | (go_at_call 24; refine (abs_any x hx _).mono ?_; rintro e w' ⟨rfl, rfl⟩) | (go_at_call 64; refine (sign_any x hx _).mono ?_; rintro e w' ⟨rfl, rfl⟩))
        go_ret
        refine ⟨?_, rfl⟩
        have : wholeB x = !fsign x := by
          unfold wholeB
          rw [show (Ieee.double.order x (ftrunc x) == some Ordering.eq) = true from h1, show (Ieee.double.order (fabs x) 4652007308841189376 == some Ordering.lt || Ieee.double.order (fabs x) 4652007308841189376 == some Ordering.eq) = true from h2, show (Ieee.double.order x 0 != some Ordering.eq) = false from h4']
          simp
        rw [this]; rfl
    · have h2' : (FloatKind.f64.format.order (fabs x) 4652007308841189376 == some .lt || FloatKind.f64.format.order (fabs x) 4652007308841189376 == some .eq) = false := by simpa using h2
      clear h2
      go_enter Tryd.func41, Tryd.ntmps41
      go_wp2_with (first | (go_at_call 63; refine (trunc_any x hnan _).mono ?_; rintro e w' ⟨rfl, rfl⟩) | (go_at_call 24; refine (abs_any x hx _).mono ?_; rintro e w' ⟨rfl, rfl⟩) | (go_at_call 64; refine (sign_any x hx _).mono ?_; rintro e w' ⟨rfl, rfl⟩))
      go_ret
      refine ⟨?_, rfl⟩
      have : wholeB x = false := by
        unfold wholeB
        rw [show (Ieee.double.order (fabs x) 4652007308841189376 == some Ordering.lt || Ieee.double.order (fabs x) 4652007308841189376 == some Ordering.eq) = false from h2']
        simp
      rw [this]; rfl
  · have h1' : (FloatKind.f64.format.order x (ftrunc x) == some .eq) = false := by simpa using h1
    clear h1
    go_enter Tryd.func41, Tryd.ntmps41
    go_wp2_with (first | (go_at_call 63; refine (trunc_any x hnan _).mono ?_; rintro e w' ⟨rfl, rfl⟩) | (go_at_call 24; refine (abs_any x hx _).mono ?_; rintro e w' ⟨rfl, rfl⟩) | (go_at_call 64; refine (sign_any x hx _).mono ?_; rintro e w' ⟨rfl, rfl⟩))
    go_ret
    refine ⟨?_, rfl⟩
    have : wholeB x = false := by
      unfold wholeB
      rw [show (Ieee.double.order x (ftrunc x) == some Ordering.eq) = false from h1']
      simp
    rw [this]; rfl

set_option maxHeartbeats 400000 in
theorem whole_nan (x : Nat) (hnan : (Ieee.double.read x).isNaN = true) (w : World) :
    Calls Tryd.prog 41 #[.float .f64 x] w fun e w' => e = .returned (.bool false) ∧ (w' = w ∨ w' = w.drew) := by
  have ho := fun y => order_nan hnan y
  go_enter Tryd.func41, Tryd.ntmps41
  go_wp2_with (go_at_call 63; refine (trunc_nan x hnan _).mono ?_; rintro e w' ⟨y, rfl, hw⟩; have HW := Lib.hid hw; clear hw)
  go_ret
  exact ⟨rfl, HW.out⟩

/-- spec.IsWhole: what it answers, whatever the word. -/
theorem whole_any (x : Nat) (hx : x < 18446744073709551616) (w : World) :
    Calls Tryd.prog 41 #[.float .f64 x] w fun e w' => e = .returned (.bool (wholeB x)) ∧ Below w.heap.size w w' := by
  by_cases hnan : (Ieee.double.read x).isNaN = true
  · refine (whole_nan x hnan w).mono ?_
    rintro e w' ⟨he, hw⟩
    have : wholeB x = false := by
      unfold wholeB
      rw [show Ieee.double.order x (ftrunc x) = none from order_nan hnan _]
      simp
    rw [this]
    refine ⟨he, ?_⟩
    rcases hw with rfl | rfl
    · exact Below.refl _ _
    · exact (Below.refl _ _).drew
  · refine (whole_walk x hx (by simpa using hnan) w).mono ?_
    rintro e w' ⟨he, rfl⟩
    exact ⟨he, Below.refl _ _⟩
end Go.Proofs.YtpbhpplmokdkhaaDoor
