/- laws.FnCentroidAny returns true for every ring, and leaves its arguments and the variable as they were, where the variable holds what it is laid with: no other condition. -/
import Derived.Test.YtpbhpplmokdkhaaDoorCe
import Derived.Test.YtpbhpplmokdkhaaDoorCd
namespace Go.Proofs.YtpbhpplmokdkhaaDoor
open Go.ChangeShapes Go.WideShapes Go.ChangeAt Go.RowKit Go.Deep Fl
namespace CeC

theorem laid_met (os : Os) : laidMet Tryd.prog Rows.fnCentroidAnyRow.laid ((laidWorld os).forCall (fun _ _ => 0) ⟨#[], #[.slice none 0 0], []⟩).memory :=
  laidMet_of_run' 8 (by kernel_rfl) (by kernel_rfl)
set_option maxRecDepth 100000 in
theorem reads (os : Os) {H : Type} (enc : TypeId × Value → H) : ∃ places, DataW.whole enc Tryd.prog ((laidWorld os).forCall (fun _ _ => 0) ⟨#[], #[.slice none 0 0], []⟩).memory Tryd.f8.params.toList Rows.fnCentroidAnySpec.vars false (#[.slice none 0 0] : Array Value).toList 8 = some ([.nil], [ebD H], places) :=
  reads_of (by kernel_rfl) (by kernel_rfl)
set_option maxRecDepth 100000 in
theorem lifted (os : Os) (started : os.Started) (H : Type) (enc : TypeId × Value → H) (F : Stop.Interp) :
    ReturnsInHanded {} Tryd.checked os 8 .any ((OpenSpec.ofChange Rows.fnCentroidAnySpec).preRow enc Tryd.prog Tryd.f8 Rows.fnCentroidAnyRow.domain false Rows.fnCentroidAnyRow.laid) (((OpenSpec.ofChange Rows.fnCentroidAnySpec).at F).post enc Tryd.prog Tryd.f8 false true false false) := by
  obtain ⟨places, hx⟩ := reads os enc
  refine returnsInHanded_of_row (C := Tryd.checked) (s := OpenSpec.ofChange Rows.fnCentroidAnySpec) Tryd.own started (by kernel_rfl) Tryd.func8
    (witness_row_at (enc := enc) (C := Tryd.checked) false (laidWorld os) #[.slice none 0 0] rfl (by kernel_rfl) (by kernel_rfl) (by kernel_rfl)
      (OpenSpec.preRow_of_cond 8 hx (by kernel_rfl) (fun k hk => by cases hk) (by kernel_rfl) (laid_met os))) ?_
  intro W base args ds gs before hval0 hW _ _ hsz0 _ _ _
  have hsz : (DataW.weightsEach Tryd.prog (Tryd.f8.params.toList ++ Rows.fnCentroidAnySpec.plain.varTypes Tryd.prog) (ds ++ gs)).all (· ≤ reachBytes) = true := hsz0
  clear hsz0
  have hval : ∀ (j : Nat) t v, Tryd.f8.params[j]? = some t → args[j]? = some v → Value.okWide Tryd.prog W .any base t v := hval0
  have hW' : DataW.Whole enc Tryd.prog Tryd.f8.params.toList Rows.fnCentroidAnySpec.vars false W args.toList ds gs before := hW
  obtain ⟨p, q, hA0, hV, rfl, _, _⟩ := hW
  have hA : DataW.TrodAll enc Tryd.prog W 0 (fun _ => true) true Tryd.f8.params.toList args.toList ds p := hA0
  rw [Tryd.params8] at hA hval hsz
  obtain ⟨v0, vs0, d0, ds0, p0, q0, hargs, rfl, rfl, h0, r0⟩ := trodAll_cons hA
  obtain ⟨rfl, rfl, rfl⟩ := trodAll_nil r0
  obtain rfl : args = #[v0] := by cases args; simp_all
  obtain ⟨g, rfl⟩ := one_var hV
  obtain ⟨ps, hps, hwf_ps, hd_ps⟩ := open_pts (hval 0 22 v0 rfl rfl) h0
  have hreach_ps : ps.length * 16 ≤ 140737488351232 := by
    rcases hd_ps with ⟨_, hz⟩ | ⟨es, ss, rfl, hl⟩
    · omega
    · have := sized_slice hsz (j := 0) (t := 22) (e := 31) rfl rfl Tryd.underlying22
      rw [bytes_ipoint] at this
      simp only [reachBytes] at this
      omega
  refine (ce_walk v0 ps W hps hwf_ps hreach_ps).mono fun e W' ⟨he, hnx⟩ => ?_
  subst he
  exact ⟨_, rfl, door_post Tryd.laidOut Tryd.underlying4 rfl (by kernel_rfl) (by kernel_rfl) rfl hW' hnx⟩

theorem said : Rows.FnCentroidAnySaid :=
  OpenClaim.holds_of_cond 8 Tryd.f8 rfl rfl rfl rfl rfl rfl rfl ⟨rfl, rfl, rfl, rfl, rfl⟩ rfl rfl rfl rfl rfl (by kernel_rfl) Tryd.func8 (by kernel_rfl)
    (of_decide_eq_true (by kernel_rfl)) (by unfold Func.isWrapper; first | (rw [if_pos (by decide +kernel)]; kernel_rfl) | (rw [if_neg (by decide +kernel)]; exact ⟨rfl, rfl⟩))
    (fun os started H enc _ F => by rw [OpenClaim.pre_eq_preRow]; exact lifted os started H enc F)
theorem plain (f : FuncId) (fn : Func) (hf : Tryd.pinned.checked.prog.funcNamed "loop.example/pub-g01495/laws.FnCentroidAny" = some f) (hfn : Tryd.pinned.checked.prog.funcs[f]? = some fn) :
    true = Tryd.pinned.checked.prog.looks [] ∧ ∀ (j : Nat) t, fn.params[j]? = some t → Tryd.pinned.checked.prog.wantsStandIn t = false := by
  obtain rfl : f = 8 := Option.some.inj ((show Tryd.prog.funcNamed "loop.example/pub-g01495/laws.FnCentroidAny" = some 8 by kernel_rfl).symm.trans hf) |>.symm
  obtain rfl : fn = Tryd.f8 := (Option.some.inj (Tryd.func8.symm.trans hfn)).symm
  refine ⟨by kernel_rfl, fun j t ht => ?_⟩
  rw [Tryd.params8] at ht
  have ht' := Array.mem_of_getElem? ht
  simp only [List.mem_toArray, List.mem_cons, List.not_mem_nil, or_false] at ht'
  have k0 : Tryd.pinned.checked.prog.wantsStandIn 22 = false := by kernel_rfl
  subst ht'
  exact k0
end CeC

theorem centroidAny_holds : Rows.FnCentroidAnyCardSaid :=
  Claim7.holds_tied_plain_at .later [] _ _ _ _ CeC.said (fun _ h => by cases h) (by kernel_rfl) (fun _ h => by cases h) fnCentroidAny_row_tie rfl ⟨rfl, rfl⟩ (by kernel_rfl) rfl CeC.plain (by kernel_rfl)
end Go.Proofs.YtpbhpplmokdkhaaDoor
