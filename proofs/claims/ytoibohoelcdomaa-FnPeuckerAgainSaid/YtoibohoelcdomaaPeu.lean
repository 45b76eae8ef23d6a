/- laws.FnPeuckerAgain returns true for every line and every threshold, and leaves its arguments as they were: no condition. -/
import Derived.Test.YtoibohoelcdomaaPeuL
import Derived.Test.YtoibohoelcdomaaOpen
namespace Go.Proofs.Ytoibohoelcdomaa
open Go.ChangeShapes Go.WideShapes Go.ChangeAt Go.RowKit Go.Deep Fl

set_option maxRecDepth 100000 in
theorem peu_lifted (os : Os) (started : os.Started) (H : Type) (enc : TypeId × Value → H) :
    ReturnsInHanded {} Try.checked os 4 .any (Rows.fnPeuckerAgainSpec.pre6 enc Try.prog Try.f4 Rows.fnPeuckerAgainRow.domain false) (Rows.fnPeuckerAgainSpec.post enc Try.prog Try.f4 false true false false) := by
  refine returnsInHanded_of_change_sized (C := Try.checked) Try.own started (by kernel_rfl) Try.func4
    (ChangeSpec.witness6 (enc := enc) (C := Try.checked) false ⟨#[], #[.slice none 0 0, .float .f64 0], []⟩ 8 (by kernel_rfl) (by kernel_rfl) (by kernel_rfl) (by kernel_rfl)) ?_
  intro W base args ds gs before hval0 hW _ hsz0 _
  have hsz : (DataW.weightsEach Try.prog (Try.f4.params.toList ++ Rows.fnPeuckerAgainSpec.plain.varTypes Try.prog) (ds ++ gs)).all (· ≤ reachBytes) = true := hsz0
  clear hsz0
  have hval : ∀ (j : Nat) t v, Try.f4.params[j]? = some t → args[j]? = some v → Value.okWide Try.prog W .any base t v := hval0
  have hW' := hW
  obtain ⟨p, q, hA0, hV, rfl, _, _⟩ := hW
  have hA : DataW.TrodAll enc Try.prog W 0 (fun _ => true) true Try.f4.params.toList args.toList ds p := hA0
  rw [Try.params4] at hA hval hsz
  obtain ⟨v0, v1, d0, d1, p0, p1, rfl, rfl, rfl, h0, h1⟩ := trodAll_two hA
  obtain ⟨rfl, rfl⟩ := trodVars_none hV
  obtain ⟨thr, rfl, rfl, rfl, wm⟩ := open_float Try.underlying24 (hval 1 24 v1 rfl rfl) h1
  obtain ⟨ps, hps, hwf, hd⟩ := open_pts (hval 0 22 v0 rfl rfl) h0
  clear hA0 hval0
  simp only [List.append_nil] at hW'
  have hlt : ∀ x ∈ p0, x.block < W.heap.size := fun x hx => by simpa using hW'.lt x hx
  have hreach : ps.length * 16 ≤ 140737488351232 := by
    rcases hd with ⟨_, hz⟩ | ⟨es, ss, rfl, hl⟩
    · omega
    · have := sized_slice hsz (j := 0) (t := 22) (e := 26) rfl rfl Try.underlying22
      rw [bytes_ipoint] at this
      simp only [reachBytes] at this
      omega
  refine (peu_walk v0 ps thr W hps hwf hreach).mono fun e W' ⟨he, hnx⟩ => ?_
  subst he
  have hargs : DataW.Trod enc Try.prog W' 0 (fun b => decide (b < W.heap.size)) true 22 v0 d0 p0 :=
    Below.trod Try.laidOut (by kernel_rfl) (of_decide_eq_true (by kernel_rfl)) h0 hnx hlt
  exact ⟨_, rfl, _, _, _, [], p0 ++ [], [], hW', trodAll_mk1 (shut_bool Try.underlying4 true), trodAll_mk2 hargs (shut_float Try.underlying24 wm), rfl, hnx.frame _, fun h => by cases h⟩

theorem peuckerAgain_holds : Rows.FnPeuckerAgainSaid :=
  OpenClaim.holds_of_wide 4 Try.f4 rfl rfl rfl rfl rfl rfl rfl ⟨rfl, rfl, rfl, rfl, rfl⟩ rfl rfl rfl rfl rfl (by kernel_rfl) Try.func4 (by kernel_rfl)
    (of_decide_eq_true (by kernel_rfl)) (by unfold Func.isWrapper; first | (rw [if_pos (by decide +kernel)]; kernel_rfl) | (rw [if_neg (by decide +kernel)]; exact ⟨rfl, rfl⟩))
    (fun os started H enc _ => peu_lifted os started H enc)
end Go.Proofs.Ytoibohoelcdomaa
