/- laws.FnAreaMoved returns true for every ring, any point and any place, and leaves its arguments and the variable as they were, where the variable holds what it is laid with: no other condition. -/
import Derived.Test.YtpbhpplmokdkhaaDoorAm
import Derived.Test.YtpbhpplmokdkhaaDoorCd
namespace Go.Proofs.YtpbhpplmokdkhaaDoor
open Go.ChangeShapes Go.WideShapes Go.ChangeAt Go.RowKit Go.Deep Fl
namespace AmC

theorem laid_met (os : Os) : laidMet Tryd.prog Rows.fnAreaMovedRow.laid ((laidWorld os).forCall (fun _ _ => 0) ⟨#[], #[.slice none 0 0, .agg #[.float .f64 0, .float .f64 0], .int .i64 0], []⟩).memory :=
  laidMet_of_run' 8 (by kernel_rfl) (by kernel_rfl)
set_option maxRecDepth 100000 in
theorem reads (os : Os) {H : Type} (enc : TypeId × Value → H) : ∃ places, DataW.whole enc Tryd.prog ((laidWorld os).forCall (fun _ _ => 0) ⟨#[], #[.slice none 0 0, .agg #[.float .f64 0, .float .f64 0], .int .i64 0], []⟩).memory Tryd.f7.params.toList Rows.fnAreaMovedSpec.vars false (#[.slice none 0 0, .agg #[.float .f64 0, .float .f64 0], .int .i64 0] : Array Value).toList 8 = some ([.nil, .agg [.lit (.float .f64 0), .lit (.float .f64 0)], .lit (.int .i64 0)], [ebD H], places) :=
  reads_of (by kernel_rfl) (by kernel_rfl)
set_option maxRecDepth 100000 in
theorem lifted (os : Os) (started : os.Started) (H : Type) (enc : TypeId × Value → H) (F : Stop.Interp) :
    ReturnsInHanded {} Tryd.checked os 7 .any ((OpenSpec.ofChange Rows.fnAreaMovedSpec).preRow enc Tryd.prog Tryd.f7 Rows.fnAreaMovedRow.domain false Rows.fnAreaMovedRow.laid) (((OpenSpec.ofChange Rows.fnAreaMovedSpec).at F).post enc Tryd.prog Tryd.f7 false true false false) := by
  obtain ⟨places, hx⟩ := reads os enc
  refine returnsInHanded_of_row (C := Tryd.checked) (s := OpenSpec.ofChange Rows.fnAreaMovedSpec) Tryd.own started (by kernel_rfl) Tryd.func7
    (witness_row_at (enc := enc) (C := Tryd.checked) false (laidWorld os) #[.slice none 0 0, .agg #[.float .f64 0, .float .f64 0], .int .i64 0] rfl (by kernel_rfl) (by kernel_rfl) (by kernel_rfl)
      (OpenSpec.preRow_of_cond 8 hx (by kernel_rfl) (fun k hk => by cases hk) (by kernel_rfl) (laid_met os))) ?_
  intro W base args ds gs before hval0 hW _ _ hsz0 _ _ _
  have hsz : (DataW.weightsEach Tryd.prog (Tryd.f7.params.toList ++ Rows.fnAreaMovedSpec.plain.varTypes Tryd.prog) (ds ++ gs)).all (· ≤ reachBytes) = true := hsz0
  clear hsz0
  have hval : ∀ (j : Nat) t v, Tryd.f7.params[j]? = some t → args[j]? = some v → Value.okWide Tryd.prog W .any base t v := hval0
  have hW' : DataW.Whole enc Tryd.prog Tryd.f7.params.toList Rows.fnAreaMovedSpec.vars false W args.toList ds gs before := hW
  obtain ⟨p, q, hA0, hV, rfl, _, _⟩ := hW
  have hA : DataW.TrodAll enc Tryd.prog W 0 (fun _ => true) true Tryd.f7.params.toList args.toList ds p := hA0
  rw [Tryd.params7] at hA hval hsz
  obtain ⟨v0, vs0, d0, ds0, p0, q0, hargs, rfl, rfl, h0, r0⟩ := trodAll_cons hA
  obtain ⟨v1, vs1, d1, ds1, p1, q1, rfl, rfl, rfl, h1, r1⟩ := trodAll_cons r0
  obtain ⟨v2, vs2, d2, ds2, p2, q2, rfl, rfl, rfl, h2, r2⟩ := trodAll_cons r1
  obtain ⟨rfl, rfl, rfl⟩ := trodAll_nil r2
  obtain rfl : args = #[v0, v1, v2] := by cases args; simp_all
  obtain ⟨g, rfl⟩ := one_var hV
  obtain ⟨ps, hps, hwf_ps, hd_ps⟩ := open_pts (hval 0 22 v0 rfl rfl) h0
  have hcap_ps := open_cap h0
  have hreach_ps : ps.length * 16 ≤ 140737488351232 := by
    rcases hd_ps with ⟨_, hz⟩ | ⟨es, ss, rfl, hl⟩
    · omega
    · have := sized_slice hsz (j := 0) (t := 22) (e := 31) rfl rfl Tryd.underlying22
      rw [bytes_ipoint] at this
      simp only [reachBytes] at this
      omega
  obtain ⟨d, rfl, hd⟩ := open_ipoint (hval 1 31 v1 rfl rfl) h1
  obtain ⟨a, rfl, rfl, rfl, wa⟩ := open_int Tryd.underlying3 (hval 2 3 v2 rfl rfl) h2
  refine (am_walk v0 ps d a W hps hcap_ps hwf_ps hreach_ps hd).mono fun e W' ⟨he, hnx⟩ => ?_
  subst he
  exact ⟨_, rfl, door_post Tryd.laidOut Tryd.underlying4 rfl (by kernel_rfl) (by kernel_rfl) rfl hW' hnx⟩

theorem said : Rows.FnAreaMovedSaid :=
  OpenClaim.holds_of_cond 7 Tryd.f7 rfl rfl rfl rfl rfl rfl rfl ⟨rfl, rfl, rfl, rfl, rfl⟩ rfl rfl rfl rfl rfl (by kernel_rfl) Tryd.func7 (by kernel_rfl)
    (of_decide_eq_true (by kernel_rfl)) (by unfold Func.isWrapper; first | (rw [if_pos (by decide +kernel)]; kernel_rfl) | (rw [if_neg (by decide +kernel)]; exact ⟨rfl, rfl⟩))
    (fun os started H enc _ F => by rw [OpenClaim.pre_eq_preRow]; exact lifted os started H enc F)
theorem plain (f : FuncId) (fn : Func) (hf : Tryd.pinned.checked.prog.funcNamed "loop.example/pub-g01495/laws.FnAreaMoved" = some f) (hfn : Tryd.pinned.checked.prog.funcs[f]? = some fn) :
    true = Tryd.pinned.checked.prog.looks [] ∧ ∀ (j : Nat) t, fn.params[j]? = some t → Tryd.pinned.checked.prog.wantsStandIn t = false := by
  obtain rfl : f = 7 := Option.some.inj ((show Tryd.prog.funcNamed "loop.example/pub-g01495/laws.FnAreaMoved" = some 7 by kernel_rfl).symm.trans hf) |>.symm
  obtain rfl : fn = Tryd.f7 := (Option.some.inj (Tryd.func7.symm.trans hfn)).symm
  refine ⟨by kernel_rfl, fun j t ht => ?_⟩
  rw [Tryd.params7] at ht
  have ht' := Array.mem_of_getElem? ht
  simp only [List.mem_toArray, List.mem_cons, List.not_mem_nil, or_false] at ht'
  have k0 : Tryd.pinned.checked.prog.wantsStandIn 22 = false := by kernel_rfl
  have k1 : Tryd.pinned.checked.prog.wantsStandIn 31 = false := by kernel_rfl
  have k2 : Tryd.pinned.checked.prog.wantsStandIn 3 = false := by kernel_rfl
  rcases ht' with rfl | rfl | rfl
  · exact k0
  · exact k1
  · exact k2
end AmC

theorem areaMoved_holds : Rows.FnAreaMovedCardSaid :=
  Claim7.holds_tied_plain_at .later [] _ _ _ _ AmC.said (fun _ h => by cases h) (by kernel_rfl) (fun _ h => by cases h) fnAreaMoved_row_tie rfl ⟨rfl, rfl⟩ (by kernel_rfl) rfl AmC.plain (by kernel_rfl)
end Go.Proofs.YtpbhpplmokdkhaaDoor
