/- The walks of laws.square and laws.measures. -/
import Derived.Test.YtpbhpplmokdkhaaDoorHs
namespace Go.Proofs.YtpbhpplmokdkhaaDoor
open Go.RowKit Fl

theorem sq_pts (w : World) (T : TypeId) : PtsAt (w.alloc (.cells #[.float .f64 0, .float .f64 0, .float .f64 4616189618054758400, .float .f64 0, .float .f64 4616189618054758400, .float .f64 4616189618054758400, .float .f64 0, .float .f64 4616189618054758400, .float .f64 0, .float .f64 0] T)) w.heap.size 0 sq := by
  intro i p hp
  unfold sq at hp
  match i, hp with
  | 0, hp => simp at hp; subst hp; simp
  | 1, hp => simp at hp; subst hp; simp
  | 2, hp => simp at hp; subst hp; simp
  | 3, hp => simp at hp; subst hp; simp
  | 4, hp => simp at hp; subst hp; simp

set_option maxRecDepth 100000 in
theorem square_any (w : World) : Calls Tryd.prog 38 #[] w fun e w' => ∃ v, e = .returned v ∧ IsPts w' v sq ∧ Below w.heap.size w w' := by
  have hs := sq_pts w 31
  go_enter Tryd.func38, Tryd.ntmps38
  go_wp2
  go_ret
  exact ⟨_, rfl, ⟨_, _, rfl, .inr ⟨_, _, rfl, hs⟩⟩, (Below.refl _ _).alloc (Nat.le_refl _) _⟩

set_option maxRecDepth 100000 in
set_option maxHeartbeats 1000000 in
theorem measures_any (w : World) : Calls Tryd.prog 12 #[] w fun e w' => e = .returned (.bool true) ∧ Below w.heap.size w w' := by
  go_enter Tryd.func12, Tryd.ntmps12
  go_wp2_with fail
  refine (square_any _).mono ?_
  rintro e w1 ⟨v1, rfl, hv1, hb1⟩
  have hcall1 := ringArea_any 5 sqX sqY hv1 rfl (by decide) (by decide) sq_dat
  go_wp2_with fail
  refine hcall1.mono ?_
  rintro e w2 ⟨r, rfl, hf, hval, hb2⟩
  have ht := sq_test hf hval
  clear hcall1 hv1 hf hval
  go_wp2_with fail
  refine (square_any _).mono ?_
  rintro e w3 ⟨v3, rfl, hv3, hb3⟩
  have hcall3 := ringHas_any 5 sqX sqY (4616189618054758400, 4607182418800017408) 4 1 hv3 rfl (by decide) (by decide) sq_dat (by decide) ⟨isI_lit4, isI_lit1⟩ (by unfold Rg.Mid; decide) (by decide)
  rw [sq_in] at hcall3
  go_wp2_with fail
  refine hcall3.mono ?_
  rintro e w4 ⟨rfl, hb4⟩
  clear hcall3 hv3
  go_wp2_with fail
  refine (square_any _).mono ?_
  rintro e w5 ⟨v5, rfl, hv5, hb5⟩
  have hcall5 := ringHas_any 5 sqX sqY (4617315517961601024, 4607182418800017408) 5 1 hv5 rfl (by decide) (by decide) sq_dat (by decide) ⟨isI_lit5, isI_lit1⟩ (by unfold Rg.Mid; decide) (by decide)
  rw [sq_out] at hcall5
  go_wp2_with fail
  refine hcall5.mono ?_
  rintro e w6 ⟨rfl, hb6⟩
  clear hcall5 hv5
  go_wp2
  go_ret
  refine ⟨rfl, ?_⟩
  have s1 := hb1.size
  have s2 := hb2.size
  have s3 := hb3.size
  have s4 := hb4.size
  have s5 := hb5.size
  exact ((((hb1.trans (hb2.mono s1)).trans (hb3.mono (by omega))).trans (hb4.mono (by omega))).trans (hb5.mono (by omega))).trans (hb6.mono (by omega))
end Go.Proofs.YtpbhpplmokdkhaaDoor
