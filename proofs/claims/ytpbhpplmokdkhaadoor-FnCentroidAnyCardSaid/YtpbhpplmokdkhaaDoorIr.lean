/- The walk of spec.IsRing. -/
import Derived.Test.YtpbhpplmokdkhaaDoorUt
import Derived.Test.YtpbhpplmokdkhaaDoorAre
import Derived.Test.YtpbhpplmokdkhaaDoorRgP
import Derived.Test.YtpbhpplmokdkhaaDoorDist
import Derived.Test.YtpbhpplmokdkhaaDoorRg1
import Derived.Deep.RegionWith
set_option linter.unusedSimpArgs false
namespace Go.Proofs.YtpbhpplmokdkhaaDoor
open Go.RowKit Fl

theorem eq_float (d x y : Nat) (w : World) : (Op.equalIn (d + 1) 27 (.float .f64 x) (.float .f64 y)).run Tryd.prog w = .ok (FloatKind.f64.format.order x y == some .eq) w := by
  simp [Op.equalIn, run_underlying Tryd.underlying27]
  rfl
theorem eq_float' (x y : Nat) (w : World) : (Op.equalIn 9999 27 (.float .f64 x) (.float .f64 y)).run Tryd.prog w = .ok (FloatKind.f64.format.order x y == some .eq) w := eq_float 9998 x y w
theorem eq_float2 {x y : Nat} {c : Bool} (h : (FloatKind.f64.format.order x y == some .eq) = c) (w : World) : (Op.equalIn 9999 27 (.float .f64 x) (.float .f64 y)).run Tryd.prog w = .ok c w := by rw [eq_float', h]

set_option maxRecDepth 100000 in
set_option maxHeartbeats 1000000 in
theorem isRing_full (n cap b off : Nat) (ps : List (Nat × Nat)) (w : World) (h4 : 4 ≤ n) (hps : PtsAt w b off ps) (hare : ∀ W, Below w.heap.size w W → Calls Tryd.prog 30 #[.slice (some ⟨b, off, none⟩) n cap, .int .i64 100] W fun e w' => e = .returned (.bool true) ∧ Below W.heap.size W w') (h100 : n ≤ 100)
    (p q : Nat × Nat) (hp : ps[0]? = some p) (hq : ps[n - 1]? = some q) (c1 c2 : Bool) (e1 : (FloatKind.f64.format.order p.1 q.1 == some .eq) = c1) (e2 : (FloatKind.f64.format.order p.2 q.2 == some .eq) = c2) :
    Calls Tryd.prog 11 #[.slice (some ⟨b, off, none⟩) n cap] w fun e w' => e = .returned (.bool (c1 && c2)) ∧ Below w.heap.size w w' := by
  obtain ⟨z0, z1⟩ := hps 0 _ hp
  obtain ⟨y0, y1⟩ := hps (n - 1) _ hq
  simp only [Nat.zero_mul, Nat.add_zero] at z0 z1
  have hn0 : (0 : Int) < n := by omega
  have hn0' : 0 < n := by omega
  have hn1 : (1 : Int) ≤ n := by omega
  have hn4 : (4 : Int) ≤ n := by omega
  have hnw : IntKind.i64.wrap ((n : Int) - 1) = (n : Int) - 1 := IntWalk.i64_in _ (by omega)
  have hnt : ((n : Int) - 1).toNat = n - 1 := by omega
  have hnk : (0 : Int) ≤ (n : Int) - 1 := by omega
  have hnl : (n : Int) - 1 < n := by omega
  have q1 := eq_float2 e1
  have q2 := eq_float2 e2
  clear hps hp hq e1 e2
  go_enter Tryd.func11, Tryd.ntmps11
  cases c1 <;> cases c2 <;> (go_wp2_with fail)
  all_goals go_region_held3 (fun w' => w'.cell? ⟨b, off, none⟩ = some (.float .f64 p.1) ∧ w'.cell? ⟨b, off + 1, none⟩ = some (.float .f64 p.2) ∧ w'.cell? ⟨b, off + (n - 1) * 2, none⟩ = some (.float .f64 q.1) ∧ w'.cell? ⟨b, off + (n - 1) * 2 + 1, none⟩ = some (.float .f64 q.2))
    (first | exact ⟨z0, z1, y0, y1⟩ | exact keep4 hb1 ⟨z0, z1, y0, y1⟩ | go_keep)
    ((go_simp; go_at_call 30; refine (hare _ (Below.refl _ _).drew).mono ?_; rintro e w1 ⟨rfl, hb1⟩))
  all_goals have HB1 := Lib.hid ((Below.refl w.heap.size w).drew.trans hb1)
  all_goals clear hb1 z0 z1 y0 y1 hare
  all_goals go_wp2
  all_goals go_ret
  all_goals exact ⟨rfl, HB1.out⟩

/-- A closed ring of whole points. -/
structure RingD (ps : List (Nat × Nat)) (X Y : Nat → Int) : Prop where
  four : 4 ≤ ps.length
  most : ps.length ≤ 100
  dat : Dat ps X Y
  closed : X (ps.length - 1) = X 0 ∧ Y (ps.length - 1) = Y 0
theorem RingD.datM {ps : List (Nat × Nat)} {X Y : Nat → Int} (h : RingD ps X Y) : DatM ps X Y := by
  intro i p hp
  obtain ⟨h1, h2, h3⟩ := h.dat i p hp
  unfold Small at h2 h3
  exact ⟨h1, by unfold Rg.Mid; omega, by unfold Rg.Mid; omega⟩

set_option maxRecDepth 100000 in
set_option maxHeartbeats 1000000 in
theorem isRing_no {w : World} {v : Value} {ps : List (Nat × Nat)} (hv : IsPts w v ps) (hwf : Wf ps) (hn : ps.length * 16 ≤ 140737488351232) (hno : ps.length < 4 ∨ areB ps 100 = false) :
    Calls Tryd.prog 11 #[v] w fun e w' => e = .returned (.bool false) ∧ Below w.heap.size w w' := by
  by_cases h4 : ps.length < 4
  · obtain ⟨ao, cap, rfl, hpl⟩ := hv
    obtain ⟨n, hne⟩ : ∃ n, n = ps.length := ⟨_, rfl⟩
    rw [← hne] at h4 ⊢
    have hn4 : decide ((4 : Int) ≤ (n : Int)) = false := decide_eq_false (by omega)
    clear hwf hpl hne hn hno h4
    go_enter Tryd.func11, Tryd.ntmps11
    go_wp2_with fail
    go_quiet (fail)
    go_wp2
    go_ret
    exact ⟨rfl, below_drewN (Below.refl _ _) _⟩
  · have hare := hno.resolve_left h4
    have hcall : ∀ W, Below w.heap.size w W → Calls Tryd.prog 30 #[v, .int .i64 100] W fun e w' => e = .returned (.bool false) ∧ Below W.heap.size W w' := by
      intro W hW
      have := are_any (hv.below hW) hwf hn 100
      rw [hare] at this
      exact this
    obtain ⟨ao, cap, rfl, hpl⟩ := hv
    obtain ⟨n, hne⟩ : ∃ n, n = ps.length := ⟨_, rfl⟩
    rw [← hne] at h4 hcall ⊢
    have hn4 : (4 : Int) ≤ n := by omega
    clear hwf hpl hne hn hno h4 hare
    go_enter Tryd.func11, Tryd.ntmps11
    go_wp2_with fail
    refine wp_region_held_drew (S := fun _ => True) (by kernel_rfl) trivial (fun _ => ?_)
    refine wpAnyH_take (i := 0) (v := .slice ao n cap) rfl (by kernel_rfl) (by kernel_rfl) (by kernel_rfl) (fun _ _ _ h => h) (Or.inl ⟨by kernel_rfl, fun w hSw => by go_simp⟩) trivial ?_
    change wpAnyH _ _ _ _ _ _ _ { tmps := #[.slice ao n cap, undef, .bool false, .slice ao n cap, undef, undef, undef, undef, undef, undef, undef, undef, undef, undef, undef, undef, undef, undef, undef, undef, undef, undef], defers := [] } _
    refine wpAnyH_take (i := 1) (v := .int .i64 n) rfl (by kernel_rfl) (by kernel_rfl) (by kernel_rfl) (fun _ _ _ h => h) (Or.inl ⟨by kernel_rfl, fun w hSw => by go_simp⟩) trivial ?_
    change wpAnyH _ _ _ _ _ _ _ { tmps := #[.slice ao n cap, undef, .bool false, .slice ao n cap, .int .i64 n, undef, undef, undef, undef, undef, undef, undef, undef, undef, undef, undef, undef, undef, undef, undef, undef, undef], defers := [] } _
    refine wpAnyH_take (i := 2) (v := .bool true) rfl (by kernel_rfl) (by kernel_rfl) (by kernel_rfl) (fun _ _ _ h => h) (Or.inl ⟨by kernel_rfl, fun w hSw => by go_simp⟩) trivial ?_
    change wpAnyH _ _ _ _ _ _ _ { tmps := #[.slice ao n cap, undef, .bool false, .slice ao n cap, .int .i64 n, .bool true, undef, undef, undef, undef, undef, undef, undef, undef, undef, undef, undef, undef, undef, undef, undef, undef], defers := [] } _
    refine wpAnyH_take (i := 3) (v := .bool true) rfl (by kernel_rfl) (by kernel_rfl) (by kernel_rfl) (fun _ _ _ h => h) (Or.inl ⟨by kernel_rfl, fun w hSw => by go_simp⟩) trivial ?_
    change wpAnyH _ _ _ _ _ _ _ { tmps := #[.slice ao n cap, undef, .bool false, .slice ao n cap, .int .i64 n, .bool true, .bool true, undef, undef, undef, undef, undef, undef, undef, undef, undef, undef, undef, undef, undef, undef, undef], defers := [] } _
    refine wpAnyH_take (i := 4) (v := .slice ao n cap) rfl (by kernel_rfl) (by kernel_rfl) (by kernel_rfl) (fun _ _ _ h => h) (Or.inl ⟨by kernel_rfl, fun w hSw => by go_simp⟩) trivial ?_
    change wpAnyH _ _ _ _ _ _ _ { tmps := #[.slice ao n cap, undef, .bool false, .slice ao n cap, .int .i64 n, .bool true, .bool true, .slice ao n cap, undef, undef, undef, undef, undef, undef, undef, undef, undef, undef, undef, undef, undef, undef], defers := [] } _
    refine wpAnyH_ready (rs := [5]) (by kernel_rfl) (by simp) ?_
    refine AllReadyH.cons rfl (fun K hK => ?_) AllReadyH.nil
    go_simp
    go_at_call 30
    refine (hcall _ (Below.refl _ _).drew).mono ?_
    rintro e w1 ⟨rfl, hb1⟩
    refine hK.out _ _ trivial (fun _ => ?_)
    clear hK K
    change wpAnyH _ _ _ _ _ _ _ { tmps := #[.slice ao n cap, undef, .bool false, .slice ao n cap, .int .i64 n, .bool true, .bool true, .slice ao n cap, .bool false, undef, undef, undef, undef, undef, undef, undef, undef, undef, undef, undef, undef, undef], defers := [] } _
    refine wpAnyH_take (i := 6) (v := .bool false) rfl (by kernel_rfl) (by kernel_rfl) (by kernel_rfl) (fun _ _ _ h => h) (Or.inl ⟨by kernel_rfl, fun w hSw => by go_simp⟩) trivial ?_
    change wpAnyH _ _ _ _ _ _ _ { tmps := #[.slice ao n cap, undef, .bool false, .slice ao n cap, .int .i64 n, .bool true, .bool true, .slice ao n cap, .bool false, .bool false, undef, undef, undef, undef, undef, undef, undef, undef, undef, undef, undef, undef], defers := [] } _
    refine wpAnyH_take (i := 7) (v := .bool false) rfl (by kernel_rfl) (by kernel_rfl) (by kernel_rfl) (fun _ _ _ h => h) (Or.inl ⟨by kernel_rfl, fun w hSw => by go_simp⟩) trivial ?_
    change wpAnyH _ _ _ _ _ _ _ { tmps := #[.slice ao n cap, undef, .bool false, .slice ao n cap, .int .i64 n, .bool true, .bool true, .slice ao n cap, .bool false, .bool false, .bool false, undef, undef, undef, undef, undef, undef, undef, undef, undef, undef, undef], defers := [] } _
    refine wpAnyH_take (i := 8) (v := undef) rfl (by kernel_rfl) (by kernel_rfl) (by kernel_rfl) (fun _ _ _ h => h) (Or.inr ⟨by kernel_rfl, rfl⟩) trivial ?_
    change wpAnyH _ _ _ _ _ _ _ { tmps := #[.slice ao n cap, undef, .bool false, .slice ao n cap, .int .i64 n, .bool true, .bool true, .slice ao n cap, .bool false, .bool false, .bool false, undef, undef, undef, undef, undef, undef, undef, undef, undef, undef, undef], defers := [] } _
    refine wpAnyH_take (i := 9) (v := undef) rfl (by kernel_rfl) (by kernel_rfl) (by kernel_rfl) (fun _ _ _ h => h) (Or.inr ⟨by kernel_rfl, rfl⟩) trivial ?_
    change wpAnyH _ _ _ _ _ _ _ { tmps := #[.slice ao n cap, undef, .bool false, .slice ao n cap, .int .i64 n, .bool true, .bool true, .slice ao n cap, .bool false, .bool false, .bool false, undef, undef, undef, undef, undef, undef, undef, undef, undef, undef, undef], defers := [] } _
    refine wpAnyH_take (i := 10) (v := undef) rfl (by kernel_rfl) (by kernel_rfl) (by kernel_rfl) (fun _ _ _ h => h) (Or.inr ⟨by kernel_rfl, rfl⟩) trivial ?_
    change wpAnyH _ _ _ _ _ _ _ { tmps := #[.slice ao n cap, undef, .bool false, .slice ao n cap, .int .i64 n, .bool true, .bool true, .slice ao n cap, .bool false, .bool false, .bool false, undef, undef, undef, undef, undef, undef, undef, undef, undef, undef, undef], defers := [] } _
    refine wpAnyH_take (i := 11) (v := undef) rfl (by kernel_rfl) (by kernel_rfl) (by kernel_rfl) (fun _ _ _ h => h) (Or.inr ⟨by kernel_rfl, rfl⟩) trivial ?_
    change wpAnyH _ _ _ _ _ _ _ { tmps := #[.slice ao n cap, undef, .bool false, .slice ao n cap, .int .i64 n, .bool true, .bool true, .slice ao n cap, .bool false, .bool false, .bool false, undef, undef, undef, undef, undef, undef, undef, undef, undef, undef, undef], defers := [] } _
    refine wpAnyH_take (i := 12) (v := undef) rfl (by kernel_rfl) (by kernel_rfl) (by kernel_rfl) (fun _ _ _ h => h) (Or.inr ⟨by kernel_rfl, rfl⟩) trivial ?_
    change wpAnyH _ _ _ _ _ _ _ { tmps := #[.slice ao n cap, undef, .bool false, .slice ao n cap, .int .i64 n, .bool true, .bool true, .slice ao n cap, .bool false, .bool false, .bool false, undef, undef, undef, undef, undef, undef, undef, undef, undef, undef, undef], defers := [] } _
    refine wpAnyH_take (i := 13) (v := undef) rfl (by kernel_rfl) (by kernel_rfl) (by kernel_rfl) (fun _ _ _ h => h) (Or.inr ⟨by kernel_rfl, rfl⟩) trivial ?_
    change wpAnyH _ _ _ _ _ _ _ { tmps := #[.slice ao n cap, undef, .bool false, .slice ao n cap, .int .i64 n, .bool true, .bool true, .slice ao n cap, .bool false, .bool false, .bool false, undef, undef, undef, undef, undef, undef, undef, undef, undef, undef, undef], defers := [] } _
    refine wpAnyH_take (i := 14) (v := undef) rfl (by kernel_rfl) (by kernel_rfl) (by kernel_rfl) (fun _ _ _ h => h) (Or.inr ⟨by kernel_rfl, rfl⟩) trivial ?_
    change wpAnyH _ _ _ _ _ _ _ { tmps := #[.slice ao n cap, undef, .bool false, .slice ao n cap, .int .i64 n, .bool true, .bool true, .slice ao n cap, .bool false, .bool false, .bool false, undef, undef, undef, undef, undef, undef, undef, undef, undef, undef, undef], defers := [] } _
    refine wpAnyH_take (i := 15) (v := undef) rfl (by kernel_rfl) (by kernel_rfl) (by kernel_rfl) (fun _ _ _ h => h) (Or.inr ⟨by kernel_rfl, rfl⟩) trivial ?_
    change wpAnyH _ _ _ _ _ _ _ { tmps := #[.slice ao n cap, undef, .bool false, .slice ao n cap, .int .i64 n, .bool true, .bool true, .slice ao n cap, .bool false, .bool false, .bool false, undef, undef, undef, undef, undef, undef, undef, undef, undef, undef, undef], defers := [] } _
    refine wpAnyH_take (i := 16) (v := undef) rfl (by kernel_rfl) (by kernel_rfl) (by kernel_rfl) (fun _ _ _ h => h) (Or.inr ⟨by kernel_rfl, rfl⟩) trivial ?_
    change wpAnyH _ _ _ _ _ _ _ { tmps := #[.slice ao n cap, undef, .bool false, .slice ao n cap, .int .i64 n, .bool true, .bool true, .slice ao n cap, .bool false, .bool false, .bool false, undef, undef, undef, undef, undef, undef, undef, undef, undef, undef, undef], defers := [] } _
    refine wpAnyH_take (i := 17) (v := undef) rfl (by kernel_rfl) (by kernel_rfl) (by kernel_rfl) (fun _ _ _ h => h) (Or.inr ⟨by kernel_rfl, rfl⟩) trivial ?_
    change wpAnyH _ _ _ _ _ _ _ { tmps := #[.slice ao n cap, undef, .bool false, .slice ao n cap, .int .i64 n, .bool true, .bool true, .slice ao n cap, .bool false, .bool false, .bool false, undef, undef, undef, undef, undef, undef, undef, undef, undef, undef, undef], defers := [] } _
    refine wpAnyH_take (i := 18) (v := .bool false) rfl (by kernel_rfl) (by kernel_rfl) (by kernel_rfl) (fun _ _ _ h => h) (Or.inl ⟨by kernel_rfl, fun w hSw => by go_simp⟩) trivial ?_
    change wpAnyH _ _ _ _ _ _ _ { tmps := #[.slice ao n cap, undef, .bool false, .slice ao n cap, .int .i64 n, .bool true, .bool true, .slice ao n cap, .bool false, .bool false, .bool false, undef, undef, undef, undef, undef, undef, undef, undef, undef, undef, .bool false], defers := [] } _
    refine wpAnyH_take (i := 19) (v := .bool false) rfl (by kernel_rfl) (by kernel_rfl) (by kernel_rfl) (fun _ _ _ h => h) (Or.inl ⟨by kernel_rfl, fun w hSw => by go_simp⟩) trivial ?_
    change wpAnyH _ _ _ _ _ _ _ { tmps := #[.slice ao n cap, undef, .bool false, .slice ao n cap, .int .i64 n, .bool true, .bool true, .slice ao n cap, .bool false, .bool false, .bool false, undef, undef, undef, undef, undef, undef, undef, undef, undef, undef, .bool false], defers := [] } _
    refine wpAnyH_done (by kernel_rfl) ?_ _
    have HB1 := Lib.hid ((Below.refl w.heap.size w).drew.trans hb1)
    clear hb1 hcall
    go_wp2
    go_ret
    exact ⟨rfl, HB1.out⟩

/-- spec.IsRing. -/
theorem isRing_any {w : World} {v : Value} {ps : List (Nat × Nat)} (hv : IsPts w v ps) (hwf : Wf ps) (hn : ps.length * 16 ≤ 140737488351232) :
    Calls Tryd.prog 11 #[v] w fun e w' => ∃ c, e = .returned (.bool c) ∧ Hid (c = true → ∃ X Y, RingD ps X Y) ∧ Below w.heap.size w w' := by
  by_cases h4 : ps.length < 4
  · exact (isRing_no hv hwf hn (.inl h4)).mono fun _ _ h => ⟨false, h.1, Lib.hid (fun h => by cases h), h.2⟩
  · by_cases ha : areB ps 100 = true
    · have ha' := ha
      unfold areB at ha'
      rw [Bool.and_eq_true, List.all_eq_true, decide_eq_true_eq] at ha'
      obtain ⟨X, Y, hd⟩ := dat_of ha'.1
      have hp0 : ps[0]? = some ps[0] := List.getElem?_eq_getElem (by omega)
      have hpl : ps[ps.length - 1]? = some ps[ps.length - 1] := List.getElem?_eq_getElem (by omega)
      obtain ⟨i0, _⟩ := hd 0 _ hp0
      obtain ⟨il, _⟩ := hd (ps.length - 1) _ hpl
      have e1 : (FloatKind.f64.format.order ps[0].1 ps[ps.length - 1].1 == some .eq) = decide (X 0 = X (ps.length - 1)) := isI_eq i0.1 il.1
      have e2 : (FloatKind.f64.format.order ps[0].2 ps[ps.length - 1].2 == some .eq) = decide (Y 0 = Y (ps.length - 1)) := isI_eq i0.2 il.2
      have hcall : ∀ W, Below w.heap.size w W → Calls Tryd.prog 30 #[v, .int .i64 100] W fun e w' => e = .returned (.bool true) ∧ Below W.heap.size W w' := by
        intro W hW
        have := are_any (hv.below hW) hwf hn 100
        rw [ha] at this
        exact this
      have h100 : ps.length ≤ 100 := by have := ha'.2; omega
      obtain ⟨ao, cap, rfl, hpl'⟩ := hv
      rcases hpl' with rfl | ⟨b, off, rfl, hps⟩
      · simp at h4
      · refine (isRing_full ps.length cap b off ps w (by omega) hps hcall h100 _ _ hp0 hpl _ _ e1 e2).mono fun _ _ h => ⟨_, h.1, Lib.hid ?_, h.2⟩
        intro hc
        rw [Bool.and_eq_true, decide_eq_true_eq, decide_eq_true_eq] at hc
        exact ⟨X, Y, by omega, h100, hd, hc.1.symm, hc.2.symm⟩
    · exact (isRing_no hv hwf hn (.inr (by simpa using ha))).mono fun _ _ h => ⟨false, h.1, Lib.hid (fun h => by cases h), h.2⟩
end Go.Proofs.YtpbhpplmokdkhaaDoor
