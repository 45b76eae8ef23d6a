/- laws.FnSegmentLeast returns true for any three points and any share, and leaves its arguments and the variable as they were, where the variable holds what it is laid with: no other condition. -/
import Derived.Test.YtpbhpplmokdkhaaDoorSl
import Derived.Test.YtpbhpplmokdkhaaDoorCd
namespace Go.Proofs.YtpbhpplmokdkhaaDoor
open Go.ChangeShapes Go.WideShapes Go.ChangeAt Go.RowKit Go.Deep Fl
namespace SlC

theorem laid_met (os : Os) : laidMet Tryd.prog Rows.fnSegmentLeastRow.laid ((laidWorld os).forCall (fun _ _ => 0) ⟨#[], #[.agg #[.float .f64 0, .float .f64 0], .agg #[.float .f64 0, .float .f64 0], .agg #[.float .f64 0, .float .f64 0], .float .f64 0], []⟩).memory :=
  laidMet_of_run' 8 (by kernel_rfl) (by kernel_rfl)
set_option maxRecDepth 100000 in
theorem reads (os : Os) {H : Type} (enc : TypeId × Value → H) : ∃ places, DataW.whole enc Tryd.prog ((laidWorld os).forCall (fun _ _ => 0) ⟨#[], #[.agg #[.float .f64 0, .float .f64 0], .agg #[.float .f64 0, .float .f64 0], .agg #[.float .f64 0, .float .f64 0], .float .f64 0], []⟩).memory Tryd.f6.params.toList Rows.fnSegmentLeastSpec.vars false (#[.agg #[.float .f64 0, .float .f64 0], .agg #[.float .f64 0, .float .f64 0], .agg #[.float .f64 0, .float .f64 0], .float .f64 0] : Array Value).toList 8 = some ([.agg [.lit (.float .f64 0), .lit (.float .f64 0)], .agg [.lit (.float .f64 0), .lit (.float .f64 0)], .agg [.lit (.float .f64 0), .lit (.float .f64 0)], .lit (.float .f64 0)], [ebD H], places) :=
  reads_of (by kernel_rfl) (by kernel_rfl)
set_option maxRecDepth 100000 in
theorem lifted (os : Os) (started : os.Started) (H : Type) (enc : TypeId × Value → H) (F : Stop.Interp) :
    ReturnsInHanded {} Tryd.checked os 6 .any ((OpenSpec.ofChange Rows.fnSegmentLeastSpec).preRow enc Tryd.prog Tryd.f6 Rows.fnSegmentLeastRow.domain false Rows.fnSegmentLeastRow.laid) (((OpenSpec.ofChange Rows.fnSegmentLeastSpec).at F).post enc Tryd.prog Tryd.f6 false true false false) := by
  obtain ⟨places, hx⟩ := reads os enc
  refine returnsInHanded_of_row (C := Tryd.checked) (s := OpenSpec.ofChange Rows.fnSegmentLeastSpec) Tryd.own started (by kernel_rfl) Tryd.func6
    (witness_row_at (enc := enc) (C := Tryd.checked) false (laidWorld os) #[.agg #[.float .f64 0, .float .f64 0], .agg #[.float .f64 0, .float .f64 0], .agg #[.float .f64 0, .float .f64 0], .float .f64 0] rfl (by kernel_rfl) (by kernel_rfl) (by kernel_rfl)
      (OpenSpec.preRow_of_cond 8 hx (by kernel_rfl) (fun k hk => by cases hk) (by kernel_rfl) (laid_met os))) ?_
  intro W base args ds gs before hval0 hW _ _ hsz0 _ _ _
  have hsz : (DataW.weightsEach Tryd.prog (Tryd.f6.params.toList ++ Rows.fnSegmentLeastSpec.plain.varTypes Tryd.prog) (ds ++ gs)).all (· ≤ reachBytes) = true := hsz0
  clear hsz0
  have hval : ∀ (j : Nat) t v, Tryd.f6.params[j]? = some t → args[j]? = some v → Value.okWide Tryd.prog W .any base t v := hval0
  have hW' : DataW.Whole enc Tryd.prog Tryd.f6.params.toList Rows.fnSegmentLeastSpec.vars false W args.toList ds gs before := hW
  obtain ⟨p, q, hA0, hV, rfl, _, _⟩ := hW
  have hA : DataW.TrodAll enc Tryd.prog W 0 (fun _ => true) true Tryd.f6.params.toList args.toList ds p := hA0
  rw [Tryd.params6] at hA hval hsz
  obtain ⟨v0, vs0, d0, ds0, p0, q0, hargs, rfl, rfl, h0, r0⟩ := trodAll_cons hA
  obtain ⟨v1, vs1, d1, ds1, p1, q1, rfl, rfl, rfl, h1, r1⟩ := trodAll_cons r0
  obtain ⟨v2, vs2, d2, ds2, p2, q2, rfl, rfl, rfl, h2, r2⟩ := trodAll_cons r1
  obtain ⟨v3, vs3, d3, ds3, p3, q3, rfl, rfl, rfl, h3, r3⟩ := trodAll_cons r2
  obtain ⟨rfl, rfl, rfl⟩ := trodAll_nil r3
  obtain rfl : args = #[v0, v1, v2, v3] := by cases args; simp_all
  obtain ⟨g, rfl⟩ := one_var hV
  obtain ⟨a, rfl, ha⟩ := open_ipoint (hval 0 31 v0 rfl rfl) h0
  obtain ⟨b, rfl, hb⟩ := open_ipoint (hval 1 31 v1 rfl rfl) h1
  obtain ⟨p, rfl, hp⟩ := open_ipoint (hval 2 31 v2 rfl rfl) h2
  obtain ⟨s, rfl, rfl, rfl, ws⟩ := open_float Tryd.underlying27 (hval 3 27 v3 rfl rfl) h3
  have hs := wf_lt ws
  refine (sl_walk a b p s W ha hb hp hs).mono fun e W' ⟨he, hnx⟩ => ?_
  subst he
  exact ⟨_, rfl, door_post Tryd.laidOut Tryd.underlying4 rfl (by kernel_rfl) (by kernel_rfl) rfl hW' hnx⟩

theorem said : Rows.FnSegmentLeastSaid :=
  OpenClaim.holds_of_cond 6 Tryd.f6 rfl rfl rfl rfl rfl rfl rfl ⟨rfl, rfl, rfl, rfl, rfl⟩ rfl rfl rfl rfl rfl (by kernel_rfl) Tryd.func6 (by kernel_rfl)
    (of_decide_eq_true (by kernel_rfl)) (by unfold Func.isWrapper; first | (rw [if_pos (by decide +kernel)]; kernel_rfl) | (rw [if_neg (by decide +kernel)]; exact ⟨rfl, rfl⟩))
    (fun os started H enc _ F => by rw [OpenClaim.pre_eq_preRow]; exact lifted os started H enc F)
theorem plain (f : FuncId) (fn : Func) (hf : Tryd.pinned.checked.prog.funcNamed "loop.example/pub-g01495/laws.FnSegmentLeast" = some f) (hfn : Tryd.pinned.checked.prog.funcs[f]? = some fn) :
    true = Tryd.pinned.checked.prog.looks [] ∧ ∀ (j : Nat) t, fn.params[j]? = some t → Tryd.pinned.checked.prog.wantsStandIn t = false := by
  obtain rfl : f = 6 := Option.some.inj ((show Tryd.prog.funcNamed "loop.example/pub-g01495/laws.FnSegmentLeast" = some 6 by kernel_rfl).symm.trans hf) |>.symm
  obtain rfl : fn = Tryd.f6 := (Option.some.inj (Tryd.func6.symm.trans hfn)).symm
  refine ⟨by kernel_rfl, fun j t ht => ?_⟩
  rw [Tryd.params6] at ht
  have ht' := Array.mem_of_getElem? ht
  simp only [List.mem_toArray, List.mem_cons, List.not_mem_nil, or_false] at ht'
  have k0 : Tryd.pinned.checked.prog.wantsStandIn 31 = false := by kernel_rfl
  have k1 : Tryd.pinned.checked.prog.wantsStandIn 27 = false := by kernel_rfl
  rcases ht' with rfl | rfl | rfl | rfl
  · exact k0
  · exact k0
  · exact k0
  · exact k1
end SlC

theorem segmentLeast_holds : Rows.FnSegmentLeastCardSaid :=
  Claim7.holds_tied_plain_at .later [] _ _ _ _ SlC.said (fun _ h => by cases h) (by kernel_rfl) (fun _ h => by cases h) fnSegmentLeast_row_tie rfl ⟨rfl, rfl⟩ (by kernel_rfl) rfl SlC.plain (by kernel_rfl)
end Go.Proofs.YtpbhpplmokdkhaaDoor
