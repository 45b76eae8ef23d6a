/- laws.FnStreamAny returns true for any bytes, and leaves its argument and the variables as they were, where the variables hold the errors that they are laid with: no other condition. -/
import Derived.Test.YtjbjjphgnilhmaaGreatDoorEl
import Derived.Test.YtjbjjphgnilhmaaGreatDoorEa
namespace Go.Proofs.YtjbjjphgnilhmaaGreatDoor
open Go.ChangeShapes Go.WideShapes Go.ChangeAt Go.RowKit
set_option maxRecDepth 100000
namespace SaC

theorem laid_met (os : Os) : laidMet Tryz.prog Rows.fnStreamAnyRow.laid ((laidWorld os).forCall (fun _ _ => 0) ⟨#[], #[.slice none 0 0], []⟩).memory :=
  laidMet_of_run' 8 (by kernel_rfl) (by kernel_rfl)
theorem reads (os : Os) {H : Type} (enc : TypeId × Value → H) : ∃ places, DataW.whole enc Tryz.prog ((laidWorld os).forCall (fun _ _ => 0) ⟨#[], #[.slice none 0 0], []⟩).memory Tryz.f4.params.toList Rows.fnStreamAnySpec.vars false (#[.slice none 0 0] : Array Value).toList 8 = some ([.nil], laidReads enc, places) :=
  reads_of (by kernel_rfl) (by kernel_rfl)
theorem lifted (os : Os) (started : os.Started) (H : Type) (enc : TypeId × Value → H) (F : Stop.Interp) :
    ReturnsInHanded {} Tryz.checked os 4 .any ((OpenSpec.ofChange Rows.fnStreamAnySpec).preRow enc Tryz.prog Tryz.f4 Rows.fnStreamAnyRow.domain false Rows.fnStreamAnyRow.laid) (((OpenSpec.ofChange Rows.fnStreamAnySpec).at F).post enc Tryz.prog Tryz.f4 false true false false) := by
  obtain ⟨places, hx⟩ := reads os enc
  refine returnsInHanded_of_row (C := Tryz.checked) (s := OpenSpec.ofChange Rows.fnStreamAnySpec) Tryz.own started (by kernel_rfl) Tryz.func4
    (witness_row_at (enc := enc) (C := Tryz.checked) false (laidWorld os) #[.slice none 0 0] rfl (by kernel_rfl) (by kernel_rfl) (by kernel_rfl)
      (OpenSpec.preRow_of_cond 8 hx (by kernel_rfl) (fun k hk => by cases hk) (by kernel_rfl) (by rw [MakeChecks.laidMetH_plain _ _ _ (by kernel_rfl)]; exact laid_met os))) ?_
  intro W base args ds gs before hval0 hW _ _ _ hlaid _ _
  have hEK := ek_of_laid hlaid
  have hval : ∀ (j : Nat) t v, Tryz.f4.params[j]? = some t → args[j]? = some v → Value.okWide Tryz.prog W .any base t v := hval0
  have hW' : DataW.Whole enc Tryz.prog Tryz.f4.params.toList Rows.fnStreamAnySpec.vars false W args.toList ds gs before := hW
  obtain ⟨p, q, hA0, hV, rfl, _, _⟩ := hW
  have hA : DataW.TrodAll enc Tryz.prog W 0 (fun _ => true) true Tryz.f4.params.toList args.toList ds p := hA0
  rw [Tryz.params4] at hA hval
  obtain ⟨v0, vs0, d0, ds0, p0, q0, hargs, rfl, rfl, h0, r0⟩ := trodAll_cons hA
  obtain ⟨rfl, rfl, rfl⟩ := trodAll_nil r0
  obtain rfl : args = #[v0] := by cases args; simp_all
  obtain ⟨g1, g2, g3, g4, g5, g6, g7, g8, g9, rfl⟩ := nine (vars_len hV)
  obtain ⟨ao, n, c, rfl, hc, hn, hd⟩ := open_bytes (hval 0 22 v0 rfl rfl) h0
  have hcall : Calls Tryz.prog 4 #[.slice ao n c] W fun e w' => e = .returned (.bool true) ∧ Below W.heap.size W w' := by
    rcases hd with rfl | ⟨b, off, l, rfl, hl, hx⟩
    · exact stream_nil ao c W hEK
    · exact stream_bytes b off n c l W hEK hl hc hn hx
  refine hcall.mono fun e W' ⟨he, hnx⟩ => ?_
  subst he
  exact ⟨_, rfl, door_post Tryz.laidOut Tryz.underlying4 rfl (by kernel_rfl) (by kernel_rfl) rfl hW' hnx⟩

theorem said : Rows.FnStreamAnySaid :=
  OpenClaim.holds_of_cond 4 Tryz.f4 rfl rfl rfl rfl rfl rfl rfl ⟨rfl, rfl, rfl, rfl, rfl⟩ rfl rfl rfl rfl rfl (by kernel_rfl) Tryz.func4 (by kernel_rfl)
    (of_decide_eq_true (by kernel_rfl)) (by unfold Func.isWrapper; first | (rw [if_pos (by decide +kernel)]; kernel_rfl) | (rw [if_neg (by decide +kernel)]; exact ⟨rfl, rfl⟩))
    (fun os started H enc _ F => by rw [OpenClaim.pre_eq_preRow]; exact lifted os started H enc F)
theorem plain (f : FuncId) (fn : Func) (hf : Tryz.pinned.checked.prog.funcNamed "loop.example/pub-g01495/laws.FnStreamAny" = some f) (hfn : Tryz.pinned.checked.prog.funcs[f]? = some fn) :
    true = Tryz.pinned.checked.prog.looks [] ∧ ∀ (j : Nat) t, fn.params[j]? = some t → Tryz.pinned.checked.prog.wantsStandIn t = false := by
  obtain rfl : f = 4 := Option.some.inj ((show Tryz.prog.funcNamed "loop.example/pub-g01495/laws.FnStreamAny" = some 4 by kernel_rfl).symm.trans hf) |>.symm
  obtain rfl : fn = Tryz.f4 := (Option.some.inj (Tryz.func4.symm.trans hfn)).symm
  refine ⟨by kernel_rfl, fun j t ht => ?_⟩
  rw [Tryz.params4] at ht
  have ht' := Array.mem_of_getElem? ht
  simp only [List.mem_toArray, List.mem_cons, List.not_mem_nil, or_false] at ht'
  have k0 : Tryz.pinned.checked.prog.wantsStandIn 22 = false := by kernel_rfl
  subst ht'
  exact k0
end SaC

theorem streamAny_holds : Rows.FnStreamAnyCardSaid :=
  Claim7.holds_tied_plain_at .later [] _ _ _ _ SaC.said (fun _ h => by cases h) (by kernel_rfl) (fun _ h => by cases h) fnStreamAny_row_tie rfl ⟨rfl, rfl⟩ (by kernel_rfl) rfl SaC.plain (by kernel_rfl)
end Go.Proofs.YtjbjjphgnilhmaaGreatDoor
