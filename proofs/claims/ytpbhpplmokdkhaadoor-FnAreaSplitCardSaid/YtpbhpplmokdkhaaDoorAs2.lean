/- laws.FnAreaSplit returns true for every ring and any two places, and leaves its arguments and the variable as they were, where the variable holds what it is laid with: no other condition. -/
import Derived.Test.YtpbhpplmokdkhaaDoorAs1
import Derived.Test.YtpbhpplmokdkhaaDoorCd
namespace Go.Proofs.YtpbhpplmokdkhaaDoor
open Go.ChangeShapes Go.WideShapes Go.ChangeAt Go.RowKit Go.Deep Fl
namespace AsC

theorem laid_met (os : Os) : laidMet Tryd.prog Rows.fnAreaSplitRow.laid ((laidWorld os).forCall (fun _ _ => 0) ⟨#[], #[.slice none 0 0, .int .i64 0, .int .i64 0], []⟩).memory :=
  laidMet_of_run' 8 (by kernel_rfl) (by kernel_rfl)
set_option maxRecDepth 100000 in
theorem reads (os : Os) {H : Type} (enc : TypeId × Value → H) : ∃ places, DataW.whole enc Tryd.prog ((laidWorld os).forCall (fun _ _ => 0) ⟨#[], #[.slice none 0 0, .int .i64 0, .int .i64 0], []⟩).memory Tryd.f3.params.toList Rows.fnAreaSplitSpec.vars false #[Value.slice none 0 0, .int .i64 0, .int .i64 0].toList 8 = some ([.nil, .lit (.int .i64 0), .lit (.int .i64 0)], [ebD H], places) :=
  reads_of (by kernel_rfl) (by kernel_rfl)
set_option maxRecDepth 100000 in
theorem lifted (os : Os) (started : os.Started) (H : Type) (enc : TypeId × Value → H) (F : Stop.Interp) :
    ReturnsInHanded {} Tryd.checked os 3 .any ((OpenSpec.ofChange Rows.fnAreaSplitSpec).preRow enc Tryd.prog Tryd.f3 Rows.fnAreaSplitRow.domain false Rows.fnAreaSplitRow.laid) (((OpenSpec.ofChange Rows.fnAreaSplitSpec).at F).post enc Tryd.prog Tryd.f3 false true false false) := by
  obtain ⟨places, hx⟩ := reads os enc
  refine returnsInHanded_of_row (C := Tryd.checked) (s := OpenSpec.ofChange Rows.fnAreaSplitSpec) Tryd.own started (by kernel_rfl) Tryd.func3
    (witness_row_at (enc := enc) (C := Tryd.checked) false (laidWorld os) #[.slice none 0 0, .int .i64 0, .int .i64 0] rfl (by kernel_rfl) (by kernel_rfl) (by kernel_rfl)
      (OpenSpec.preRow_of_cond 8 hx (by kernel_rfl) (fun k hk => by cases hk) (by kernel_rfl) (laid_met os))) ?_
  intro W base args ds gs before hval0 hW _ _ hsz0 _ _ _
  have hsz : (DataW.weightsEach Tryd.prog (Tryd.f3.params.toList ++ Rows.fnAreaSplitSpec.plain.varTypes Tryd.prog) (ds ++ gs)).all (· ≤ reachBytes) = true := hsz0
  clear hsz0
  have hval : ∀ (j : Nat) t v, Tryd.f3.params[j]? = some t → args[j]? = some v → Value.okWide Tryd.prog W .any base t v := hval0
  have hW' : DataW.Whole enc Tryd.prog Tryd.f3.params.toList Rows.fnAreaSplitSpec.vars false W args.toList ds gs before := hW
  obtain ⟨p, q, hA0, hV, rfl, _, _⟩ := hW
  have hA : DataW.TrodAll enc Tryd.prog W 0 (fun _ => true) true Tryd.f3.params.toList args.toList ds p := hA0
  rw [Tryd.params3] at hA hval hsz
  obtain ⟨v0, vs0, d0, ds0, p0, q0, hargs, rfl, rfl, h0, r0⟩ := trodAll_cons hA
  obtain ⟨v1, vs1, d1, ds1, p1, q1, rfl, rfl, rfl, h1, r1⟩ := trodAll_cons r0
  obtain ⟨v2, vs2, d2, ds2, p2, q2, rfl, rfl, rfl, h2, r2⟩ := trodAll_cons r1
  obtain ⟨rfl, rfl, rfl⟩ := trodAll_nil r2
  obtain rfl : args = #[v0, v1, v2] := by cases args; simp_all
  obtain ⟨g, rfl⟩ := one_var hV
  obtain ⟨i, rfl, rfl, rfl, wi⟩ := open_int Tryd.underlying3 (hval 1 3 v1 rfl rfl) h1
  obtain ⟨k, rfl, rfl, rfl, wk⟩ := open_int Tryd.underlying3 (hval 2 3 v2 rfl rfl) h2
  obtain ⟨ps, hps, hwf, hd⟩ := open_pts (hval 0 22 v0 rfl rfl) h0
  have hcap := open_cap h0
  have hreach : ps.length * 16 ≤ 140737488351232 := by
    rcases hd with ⟨_, hz⟩ | ⟨es, ss, rfl, hl⟩
    · omega
    · have := sized_slice hsz (j := 0) (t := 22) (e := 31) rfl rfl Tryd.underlying22
      rw [bytes_ipoint] at this
      simp only [reachBytes] at this
      omega
  refine (aspl_walk v0 ps i k W hps hcap hwf hreach).mono fun e W' ⟨he, hnx⟩ => ?_
  subst he
  exact ⟨_, rfl, door_post Tryd.laidOut Tryd.underlying4 rfl (by kernel_rfl) (by kernel_rfl) rfl hW' hnx⟩

theorem said : Rows.FnAreaSplitSaid :=
  OpenClaim.holds_of_cond 3 Tryd.f3 rfl rfl rfl rfl rfl rfl rfl ⟨rfl, rfl, rfl, rfl, rfl⟩ rfl rfl rfl rfl rfl (by kernel_rfl) Tryd.func3 (by kernel_rfl)
    (of_decide_eq_true (by kernel_rfl)) (by unfold Func.isWrapper; first | (rw [if_pos (by decide +kernel)]; kernel_rfl) | (rw [if_neg (by decide +kernel)]; exact ⟨rfl, rfl⟩))
    (fun os started H enc _ F => by rw [OpenClaim.pre_eq_preRow]; exact lifted os started H enc F)
theorem plain (f : FuncId) (fn : Func) (hf : Tryd.pinned.checked.prog.funcNamed "loop.example/pub-g01495/laws.FnAreaSplit" = some f) (hfn : Tryd.pinned.checked.prog.funcs[f]? = some fn) :
    true = Tryd.pinned.checked.prog.looks [] ∧ ∀ (j : Nat) t, fn.params[j]? = some t → Tryd.pinned.checked.prog.wantsStandIn t = false := by
  obtain rfl : f = 3 := Option.some.inj ((show Tryd.prog.funcNamed "loop.example/pub-g01495/laws.FnAreaSplit" = some 3 by kernel_rfl).symm.trans hf) |>.symm
  obtain rfl : fn = Tryd.f3 := (Option.some.inj (Tryd.func3.symm.trans hfn)).symm
  refine ⟨by kernel_rfl, fun j t ht => ?_⟩
  rw [Tryd.params3] at ht
  have ht' := Array.mem_of_getElem? ht
  simp only [List.mem_toArray, List.mem_cons, List.not_mem_nil, or_false] at ht'
  have k0 : Tryd.pinned.checked.prog.wantsStandIn 22 = false := by kernel_rfl
  have k1 : Tryd.pinned.checked.prog.wantsStandIn 3 = false := by kernel_rfl
  rcases ht' with rfl | rfl | rfl
  · exact k0
  · exact k1
  · exact k1
end AsC

theorem areaSplit_holds : Rows.FnAreaSplitCardSaid :=
  Claim7.holds_tied_plain_at .later [] _ _ _ _ AsC.said (fun _ h => by cases h) (by kernel_rfl) (fun _ h => by cases h) fnAreaSplit_row_tie rfl ⟨rfl, rfl⟩ (by kernel_rfl) rfl AsC.plain (by kernel_rfl)
end Go.Proofs.YtpbhpplmokdkhaaDoor
