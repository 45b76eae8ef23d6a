/- spec.Axes on any line. -/
import Derived.Test.YtoibohoelcdomaaRe5
namespace Go.Proofs.Ytoibohoelcdomaa
open Go.RowKit Fl

set_option maxHeartbeats 1000000 in
theorem axes_any {w : World} {v : Value} {ps : List (Nat × Nat)} (hv : IsPts w v ps) (hwf : Wf ps) (hn : ps.length * 16 ≤ 140737488351232) :
    Calls Try.prog 6 #[v] w
      fun e w' => Below w.heap.size w w' ∧ ((∃ x, e = .returned (.tuple #[.float .f64 x, .bool false])) ∨ ∃ T X Y, e = .returned (.tuple #[.float .f64 T, .bool true]) ∧ 2 ≤ ps.length ∧ ps.length ≤ 40 ∧ Dat ps X Y ∧ (∀ i, i + 1 < ps.length → X (i + 1) = X i ∨ Y (i + 1) = Y i) ∧ IsI T (Re.SN X Y (ps.length - 1) : Int) ∧ T < 18446744073709551616) := by
  have hcall1 := are_any hv hwf hn 40
  obtain ⟨ao, cap, rfl, hpl⟩ := hv
  by_cases hare : areB ps 40 = true
  · by_cases h2 : 2 ≤ ps.length
    · have hare' := hare
      unfold areB at hare'
      rw [Bool.and_eq_true, List.all_eq_true, decide_eq_true_eq] at hare'
      rcases hpl with rfl | ⟨b, off, rfl, hps⟩
      · simp at h2
      · obtain ⟨X, Y, hd⟩ := dat_of hare'.1
        refine (axes_full ps.length cap b off ps X Y w rfl h2 (by have := hare'.2; omega) hps hwf hd hare).mono ?_
        rintro e w' ⟨hb, h⟩
        refine ⟨hb, ?_⟩
        rcases h with h | ⟨T, h1, h3, h4, h5⟩
        · exact .inl h
        · exact .inr ⟨T, X, Y, h1, h2, by have := hare'.2; omega, hd, h3, h4, h5⟩
    · rw [hare] at hcall1
      obtain ⟨n, hne⟩ : ∃ n, n = ps.length := ⟨_, rfl⟩
      rw [← hne] at hcall1 h2 ⊢
      have hn2 : (n : Int) < 2 := by omega
      clear hare h2 hwf hpl hne
      go_enter Try.func6, Try.ntmps6
      go_wp2_with fail
      refine hcall1.mono ?_
      rintro e w1 ⟨rfl, hb1⟩
      have HB1 := Lib.hid hb1
      clear hb1 hcall1
      go_wp2
      go_ret2
      exact ⟨HB1.out, .inl ⟨_, rfl⟩⟩
  · rw [Bool.not_eq_true] at hare
    rw [hare] at hcall1
    clear hare hwf hpl
    go_enter Try.func6, Try.ntmps6
    go_wp2_with fail
    refine hcall1.mono ?_
    rintro e w1 ⟨rfl, hb1⟩
    have HB1 := Lib.hid hb1
    clear hb1 hcall1
    go_wp2
    go_ret2
    exact ⟨HB1.out, .inl ⟨_, rfl⟩⟩
end Go.Proofs.Ytoibohoelcdomaa
