/- The walk of spec.SamePoints on the same points. -/
import Derived.Test.YtoibohoelcdomaaAre
import Derived.Deep.QuietTactic
import Derived.BigQuiet
namespace Go.Proofs.Ytoibohoelcdomaa
open Go.RowKit Fl

theorem sameBits_any (x : Nat) (w : World) :
    Calls Try.prog 21 #[.float .f64 x, .float .f64 x] w fun e w' => e = .returned (.bool true) ∧ w' = w := by
  have h1 := call_bits x
  go_enter Try.func21, Try.ntmps21
  go_wp2
  go_ret
  exact ⟨rfl, rfl⟩

set_option maxRecDepth 100000 in
set_option maxHeartbeats 1000000 in
theorem same_full (n capa capb ba oa bb ob : Nat) (ps : List (Nat × Nat)) (w : World) (hl : ps.length = n) (hn : n * 16 ≤ 140737488351232) (ha : PtsAt w ba oa ps) (hb : PtsAt w bb ob ps) :
    Calls Try.prog 11 #[.slice (some ⟨ba, oa, none⟩) n capa, .slice (some ⟨bb, ob, none⟩) n capb] w fun e w' => e = .returned (.bool true) ∧ Below w.heap.size w w' := by
  go_enter Try.func11, Try.ntmps11
  go_wp2
  go_loopw [13] (fun i wr => ∃ k : Nat, k ≤ n ∧ i = .int .i64 k ∧ Below w.heap.size w wr) (fun i _ => n - (intOf i).toNat)
  case atStart => exact ⟨0, Nat.zero_le _, rfl, Below.refl _ _⟩
  case round =>
    obtain ⟨k, hk, rfl, hbw⟩ := hrel
    by_cases hlt : k < n
    · have hp : ps[k]? = some ps[k] := List.getElem?_eq_getElem (by omega)
      obtain ⟨c0, c1⟩ := ha k _ hp
      obtain ⟨d0, d1⟩ := hb k _ hp
      obtain ⟨⟨x, y⟩, hpe⟩ : ∃ p, p = ps[k] := ⟨_, rfl⟩
      rw [← hpe] at c0 c1 d0 d1
      have c0' := cell_later hbw c0
      have c1' := cell_later hbw c1
      have d0' := cell_later hbw d0
      have d1' := cell_later hbw d1
      have HB := Lib.hid hbw
      have hki : ((k : Nat) : Int) < n := by omega
      clear c0 c1 d0 d1 hp hpe ha hb hl hbw
      go_wp2
      go_quiet ((go_at_call 21; exact Calls.quiet_of_same (sameBits_any _ _)))
      go_wp2
      go_roundw
      case rel => exact ⟨k + 1, by omega, by go_num, below_drewN HB.out _⟩
      case measure => simp [intOf]; omega
    · obtain rfl : k = n := by omega
      have HB := Lib.hid hbw
      clear hl ha hb hbw
      go_wp2
      go_ret
      exact ⟨rfl, HB.out⟩

set_option maxHeartbeats 400000 in
theorem same_none (ao bo : Option Addr) (capa capb : Nat) (w : World) :
    Calls Try.prog 11 #[.slice ao 0 capa, .slice bo 0 capb] w fun e w' => e = .returned (.bool true) ∧ Below w.heap.size w w' := by
  go_enter Try.func11, Try.ntmps11
  go_wp2
  refine wp_loop_rounds 1 ?_
  rw [rounds_succ]
  go_wp2
  go_ret
  exact ⟨rfl, Below.refl _ _⟩

/-- spec.SamePoints of the same points. -/
theorem same_any {w : World} {v1 v2 : Value} {ps : List (Nat × Nat)} (h1 : IsPts w v1 ps) (h2 : IsPts w v2 ps) (hn : ps.length * 16 ≤ 140737488351232) :
    Calls Try.prog 11 #[v1, v2] w fun e w' => e = .returned (.bool true) ∧ Below w.heap.size w w' := by
  obtain ⟨ao, capa, rfl, h1⟩ := h1
  obtain ⟨bo, capb, rfl, h2⟩ := h2
  by_cases hz : ps = []
  · subst hz; exact same_none ao bo capa capb w
  · rcases h1 with h1 | ⟨ba, oa, rfl, h1⟩
    · exact absurd h1 hz
    · rcases h2 with h2 | ⟨bb, ob, rfl, h2⟩
      · exact absurd h2 hz
      · exact same_full _ capa capb ba oa bb ob ps w rfl hn h1 h2
end Go.Proofs.Ytoibohoelcdomaa
