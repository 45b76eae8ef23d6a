/- Shapes as the package's geometries: the walk of impl.geometry. -/
import Derived.Test.YtjbjjphgnilhmaaGreatDoorDr
set_option linter.unusedVariables false
set_option linter.unusedSimpArgs false
namespace Go.Proofs.YtjbjjphgnilhmaaGreatDoor
open Go.RowKit

/-- What impl.geometry gives. -/
def GaveG (f : Nat) (g : By.G) (w : World) (e : Ending) (w' : World) : Prop := ∃ u K, e = .returned u ∧ IsG f K u g ∧ Has w.heap.size K w' ∧ Below w.heap.size w w'
theorem Rowed.at0 {base : Nat} {E : TypeId} {w : World} {v : Value} {p : By.Pt} {g cap n : Nat} (h : Rowed False repPt base E w v [p]) (hv : v = .slice (some ⟨g, 0, none⟩) n cap) :
    w.cell? ⟨g, 0, none⟩ = some (.float .f64 p.1) ∧ w.cell? ⟨g, 1, none⟩ = some (.float .f64 p.2) := by
  subst hv
  obtain ⟨ho, _⟩ := rowed_pt.1 h
  exact ⟨(owns_cell (g := g) (i := 0) ho rfl rfl).1, (owns_cell (g := g) (i := 1) ho rfl rfl).1⟩
theorem IsS.three {f : Nat} {H : Knows} {us : List Value} {k : Nat} {ls : List (List By.Pt)} {ps : List Sh} (h : IsS (f + 1) H us (.mk k ls ps)) : ∃ ao n cap bo m d, us = [.int .i64 k, .slice ao n cap, .slice bo m d] ∧ RowIs True 1 (repRow repPt 70).rel 52 H (.slice ao n cap) ls ∧ RowIs True 3 (IsS f) 26 H (.slice bo m d) ps := by
  obtain ⟨vl, vp, rfl, hl, hp⟩ := h
  obtain ⟨ao, n, cap, rfl⟩ : ∃ bo m d, vl = .slice bo m d := by rcases hl with ⟨_, rfl, _⟩ | ⟨_, _, _, _, rfl, _⟩ <;> exact ⟨_, _, _, rfl⟩
  obtain ⟨bo, m, d, rfl⟩ : ∃ bo m d, vp = .slice bo m d := by rcases hp with ⟨_, rfl, _⟩ | ⟨_, _, _, _, rfl, _⟩ <;> exact ⟨_, _, _, rfl⟩
  exact ⟨_, _, _, _, _, _, rfl, hl, hp⟩


set_option maxRecDepth 100000 in
set_option maxHeartbeats 1000000 in
theorem ge_pt (f : Nat) (us : List Value) (p : By.Pt) (H : Knows) (lo : Nat) (w : World) (hs : IsS (f + 1) H us (.mk 1 [[p]] [])) (hH : Has lo H w) (hsz : By.size (.pt p) ≤ 2147483647) :
    Calls Tryz.prog 14 #[.agg us.toArray] w (GaveG (f + 1) (.pt p) w) := by
  obtain ⟨ao, n0, cap, bo, m0, d, rfl, hl, hp⟩ := hs.three
  obtain ⟨W0, hW0⟩ : ∃ W, W = w.alloc (.cells #[.int .i64 1, .slice ao n0 cap, .slice bo m0 d] 26) := ⟨_, rfl⟩
  have b0 : Below w.heap.size w W0 := by rw [hW0]; exact (Below.refl _ _).alloc (Nat.le_refl _) _
  have r0 : Blk W0 w.heap.size #[.int .i64 1, .slice ao n0 cap, .slice bo m0 d] 26 := by rw [hW0]; exact Blk.new w _ _
  have hcall := fun (w0 : World) (hb : Below W0.heap.size W0 w0) => first_any (us := [.int .i64 1, .slice ao n0 cap, .slice bo m0 d]) w0 hs ((hH.below b0).below hb)
  have hcall2 := fun (w1 : World) (g c : Nat) (hr : rowIs repPt 70 H (.slice (some ⟨g, 0, none⟩) 1 c) [p]) (hb : Below W0.heap.size W0 w1) => po_any _ [p] H lo w1 hr ((hH.below b0).below hb) (by simp)
  have HF := Lib.hid (⟨b0, r0⟩ : _ ∧ _)
  have HC := Lib.hid hcall
  have HC2 := Lib.hid hcall2
  have HW0 := Lib.hid hW0
  clear hl hp hs hH hsz hW0 b0 r0 hcall2 hcall
  go_enter Tryz.func14, Tryz.ntmps14
  go_wp2_with fail
  rw [← HW0.out]
  refine (HC.out W0 (Below.refl _ _)).mono ?_
  rintro e w1 ⟨g1, cap1, rfl, hr1, hb1⟩
  have r1 := HF.out.2.below hb1 HF.out.2.lt
  obtain ⟨c0, _⟩ := r1.cell (i := 0) (v := .int .i64 1) rfl
  obtain ⟨c1, _⟩ := r1.cell (i := 1) (v := .slice ao n0 cap) rfl
  obtain ⟨c2, _⟩ := r1.cell (i := 2) (v := .slice bo m0 d) rfl
  have HB1 := Lib.hid hb1
  clear hr1 hb1 r1
  simp only [List.length_cons, List.length_nil, Nat.zero_add]
  go_wp2_with fail
  refine (HC.out w1 HB1.out).mono ?_
  rintro e w2 ⟨g2, cap2, rfl, hr2, hb2⟩
  have hb2' := HB1.out.trans (hb2.mono HB1.out.size)
  have hcall2 := HC2.out w2 g2 cap2 hr2 hb2'
  have HB2 := Lib.hid (HF.out.1.trans (hb2'.mono HF.out.1.size))
  clear hr2 hb2 hb2' c0 c1 c2 HB1
  simp only [List.length_cons, List.length_nil, Nat.zero_add]
  go_wp2_with fail
  refine hcall2.mono ?_
  rintro e w3 ⟨u, rfl, hR3, hb3⟩
  obtain ⟨g3, cap3, hv3, _⟩ := hR3.formN
  obtain ⟨e0, e1⟩ := hR3.at0 hv3
  subst hv3
  have HB3 := Lib.hid (HB2.out.trans (hb3.mono HB2.out.size))
  clear hcall2 hR3 hb3
  simp only [List.length_cons, List.length_nil, Nat.zero_add]
  go_wp2_with fail
  go_ret
  exact ⟨_, fun _ _ => False, rfl, ⟨_, rfl, rfl⟩, fun _ _ h => h.elim, HB3.out⟩


set_option maxRecDepth 100000 in
set_option maxHeartbeats 1000000 in
theorem ge_ln (f : Nat) (us : List Value) (l : List By.Pt) (H : Knows) (lo : Nat) (w : World) (hs : IsS (f + 1) H us (.mk 2 [l] [])) (hH : Has lo H w) (hsz : By.size (.ln l) ≤ 2147483647) :
    Calls Tryz.prog 14 #[.agg us.toArray] w (GaveG (f + 1) (.ln l) w) := by
  obtain ⟨ao, n0, cap, bo, m0, d, rfl, hl, hp⟩ := hs.three
  obtain ⟨W0, hW0⟩ : ∃ W, W = w.alloc (.cells #[.int .i64 2, .slice ao n0 cap, .slice bo m0 d] 26) := ⟨_, rfl⟩
  have b0 : Below w.heap.size w W0 := by rw [hW0]; exact (Below.refl _ _).alloc (Nat.le_refl _) _
  have r0 : Blk W0 w.heap.size #[.int .i64 2, .slice ao n0 cap, .slice bo m0 d] 26 := by rw [hW0]; exact Blk.new w _ _
  have hn := size_ln hsz
  have hcall := first_any (us := [.int .i64 2, .slice ao n0 cap, .slice bo m0 d]) W0 hs (hH.below b0)
  have hcall2 := fun (w1 : World) (g c : Nat) (hr : rowIs repPt 70 H (.slice (some ⟨g, 0, none⟩) l.length c) l) (hb : Below W0.heap.size W0 w1) => po_any _ l H lo w1 hr ((hH.below b0).below hb) hn
  have HF := Lib.hid (⟨b0, r0⟩ : _ ∧ _)
  have HC2 := Lib.hid hcall2
  have HW0 := Lib.hid hW0
  clear hl hp hs hH hsz hW0 b0 r0 hcall2
  go_enter Tryz.func14, Tryz.ntmps14
  go_wp2_with fail
  rw [← HW0.out]
  refine hcall.mono ?_
  rintro e w1 ⟨g1, cap1, rfl, hr1, hb1⟩
  have hcall2 := HC2.out w1 g1 cap1 hr1 hb1
  have HB1 := Lib.hid (HF.out.1.trans (hb1.mono HF.out.1.size))
  clear hcall hr1 hb1
  go_wp2_with fail
  refine hcall2.mono ?_
  rintro e w2 ⟨u, rfl, hR2, hb2⟩
  obtain ⟨K, hK2, hI2⟩ := hR2.is
  have HE := Lib.hid (⟨hK2.mono HB1.out.size, hI2, HB1.out.trans (hb2.mono HB1.out.size)⟩ : Has w.heap.size K w2 ∧ rowIs repPt 68 K u l ∧ _)
  clear hcall2 hR2 hb2 hK2 hI2
  go_wp2_with fail
  go_ret
  exact ⟨_, K, rfl, ⟨_, rfl, HE.out.2.1⟩, HE.out.1, HE.out.2.2⟩


set_option maxRecDepth 100000 in
set_option maxHeartbeats 1000000 in
theorem ge_mp (f : Nat) (us : List Value) (l : List By.Pt) (H : Knows) (lo : Nat) (w : World) (hs : IsS (f + 1) H us (.mk 4 [l] [])) (hH : Has lo H w) (hsz : By.size (.mp l) ≤ 2147483647) :
    Calls Tryz.prog 14 #[.agg us.toArray] w (GaveG (f + 1) (.mp l) w) := by
  obtain ⟨ao, n0, cap, bo, m0, d, rfl, hl, hp⟩ := hs.three
  obtain ⟨W0, hW0⟩ : ∃ W, W = w.alloc (.cells #[.int .i64 4, .slice ao n0 cap, .slice bo m0 d] 26) := ⟨_, rfl⟩
  have b0 : Below w.heap.size w W0 := by rw [hW0]; exact (Below.refl _ _).alloc (Nat.le_refl _) _
  have r0 : Blk W0 w.heap.size #[.int .i64 4, .slice ao n0 cap, .slice bo m0 d] 26 := by rw [hW0]; exact Blk.new w _ _
  have hn := size_mp hsz
  have hcall := first_any (us := [.int .i64 4, .slice ao n0 cap, .slice bo m0 d]) W0 hs (hH.below b0)
  have hcall2 := fun (w1 : World) (g c : Nat) (hr : rowIs repPt 70 H (.slice (some ⟨g, 0, none⟩) l.length c) l) (hb : Below W0.heap.size W0 w1) => po_any _ l H lo w1 hr ((hH.below b0).below hb) hn
  have HF := Lib.hid (⟨b0, r0⟩ : _ ∧ _)
  have HC2 := Lib.hid hcall2
  have HW0 := Lib.hid hW0
  clear hl hp hs hH hsz hW0 b0 r0 hcall2
  go_enter Tryz.func14, Tryz.ntmps14
  go_wp2_with fail
  rw [← HW0.out]
  refine hcall.mono ?_
  rintro e w1 ⟨g1, cap1, rfl, hr1, hb1⟩
  have hcall2 := HC2.out w1 g1 cap1 hr1 hb1
  have HB1 := Lib.hid (HF.out.1.trans (hb1.mono HF.out.1.size))
  clear hcall hr1 hb1
  go_wp2_with fail
  refine hcall2.mono ?_
  rintro e w2 ⟨u, rfl, hR2, hb2⟩
  obtain ⟨K, hK2, hI2⟩ := hR2.is
  have HE := Lib.hid (⟨hK2.mono HB1.out.size, hI2, HB1.out.trans (hb2.mono HB1.out.size)⟩ : Has w.heap.size K w2 ∧ rowIs repPt 68 K u l ∧ _)
  clear hcall2 hR2 hb2 hK2 hI2
  go_wp2_with fail
  go_ret
  exact ⟨_, K, rfl, ⟨_, rfl, HE.out.2.1⟩, HE.out.1, HE.out.2.2⟩


set_option maxRecDepth 100000 in
set_option maxHeartbeats 1000000 in
theorem ge_pg (f : Nat) (us : List Value) (pss : List (List By.Pt)) (H : Knows) (lo : Nat) (w : World) (hs : IsS (f + 1) H us (.mk 3 pss [])) (hH : Has lo H w) (hsz : By.size (.pg pss) ≤ 2147483647) :
    Calls Tryz.prog 14 #[.agg us.toArray] w (GaveG (f + 1) (.pg pss) w) := by
  obtain ⟨ao, n0, cap, bo, m0, d, rfl, hl, hp⟩ := hs.three
  obtain ⟨W0, hW0⟩ : ∃ W, W = w.alloc (.cells #[.int .i64 3, .slice ao n0 cap, .slice bo m0 d] 26) := ⟨_, rfl⟩
  have b0 : Below w.heap.size w W0 := by rw [hW0]; exact (Below.refl _ _).alloc (Nat.le_refl _) _
  have r0 : Blk W0 w.heap.size #[.int .i64 3, .slice ao n0 cap, .slice bo m0 d] 26 := by rw [hW0]; exact Blk.new w _ _
  obtain ⟨hn, hm⟩ := size_pg hsz
  have hcall := pgo_any (us := [.int .i64 3, .slice ao n0 cap, .slice bo m0 d]) W0 hs (hH.below b0) hn hm
  have HF := Lib.hid b0
  have HW0 := Lib.hid hW0
  clear hl hp hs hH hsz hW0 b0 r0 hn hm
  go_enter Tryz.func14, Tryz.ntmps14
  go_wp2_with fail
  rw [← HW0.out]
  refine hcall.mono ?_
  rintro e w2 ⟨u, rfl, hR2, hb2⟩
  obtain ⟨K, hK2, hI2⟩ := hR2.is
  have HE := Lib.hid (⟨hK2.mono HF.out.size, hI2, HF.out.trans (hb2.mono HF.out.size)⟩ : Has w.heap.size K w2 ∧ rowIs (repRow repPt 68) 127 K u pss ∧ _)
  clear hcall hR2 hb2 hK2 hI2
  go_wp2_with fail
  go_ret
  exact ⟨_, K, rfl, ⟨_, rfl, HE.out.2.1⟩, HE.out.1, HE.out.2.2⟩


set_option maxRecDepth 100000 in
set_option maxHeartbeats 1000000 in
theorem ge_ml (f : Nat) (us : List Value) (gs : List (List By.Pt)) (H : Knows) (lo : Nat) (w : World) (hs : IsS (f + 1) H us (.mk 5 gs [])) (hH : Has lo H w) (hsz : By.size (.ml gs) ≤ 2147483647) :
    Calls Tryz.prog 14 #[.agg us.toArray] w (GaveG (f + 1) (.ml gs) w) := by
  obtain ⟨ao, n0, cap, bo, m0, d, rfl, hl, hp⟩ := hs.three
  obtain ⟨W0, hW0⟩ : ∃ W, W = w.alloc (.cells #[.int .i64 5, .slice ao n0 cap, .slice bo m0 d] 26) := ⟨_, rfl⟩
  have b0 : Below w.heap.size w W0 := by rw [hW0]; exact (Below.refl _ _).alloc (Nat.le_refl _) _
  have r0 : Blk W0 w.heap.size #[.int .i64 5, .slice ao n0 cap, .slice bo m0 d] 26 := by rw [hW0]; exact Blk.new w _ _
  obtain ⟨i0, hi, hz0, hz1, hz2⟩ := info_parts info72
  obtain ⟨hn, hm⟩ := size_ml hsz
  obtain ⟨q1, q2, hq, hcap, hget⟩ := rowz_at hl hH
  simp only [Value.slice.injEq] at hq
  obtain ⟨hq1, hne, hq3⟩ := hq
  subst hq1 hq3
  skip
  rw [← hne] at hcap
  have hnn : n0 ≤ 2147483647 := by omega
  obtain ⟨W1, hW1⟩ : ∃ W, W = W0.alloc (.cells #[] 72) := ⟨_, rfl⟩
  have h0 := Rowed.made (r := (repRow repPt 68)) (E := 72) (base := w.heap.size) W0 #[] 0 b0.size (Nat.zero_le _) rfl False
  have hz : W0.heap.size = w.heap.size + 1 := by rw [hW0]; simp
  rw [← hW1] at h0
  have hb0 : Below w.heap.size w W1 := by rw [hW1]; exact b0.alloc b0.size _
  rw [hW0] at hW1
  rw [hz] at h0
  have HNE := Lib.hid (⟨hne, hm⟩ : _ ∧ _)
  have HG := Lib.hid hget
  have HI := Lib.hid (⟨hi, hz0, hz1, hz2⟩ : _ ∧ _ ∧ _ ∧ _)
  have H0 := Lib.hid h0
  have HHH := Lib.hid hH
  have HB0 := Lib.hid hb0
  have HW1 := Lib.hid hW1
  clear hl hp hs hH hi hz0 hz1 hz2 h0 hget hm hb0 hW0 hW1 b0 r0 hz hsz
  clear hne hn
  go_enter Tryz.func14, Tryz.ntmps14
  go_wp2_with fail
  rw [← HW1.out]
  go_loopw [3, 50] (fun v jv wr => ∃ j : Nat, j ≤ n0 ∧ jv = .int .i64 j ∧ Rowed False (repRow repPt 68) w.heap.size 72 wr v (gs.take j) ∧ Hid (Below w.heap.size w wr)) (fun _ jv _ => n0 - (intOf jv).toNat)
  case atStart => exact ⟨0, Nat.zero_le _, rfl, H0.out, HB0⟩
  case round =>
    clear H0 HB0
    obtain ⟨j, hj, rfl, hR, HB⟩ := hrel
    by_cases hlt : j < n0
    · have hp : gs[j]? = some (gs[j]'(by have := HNE.out.1; omega)) := List.getElem?_eq_getElem (by have := HNE.out.1; omega)
      obtain ⟨ps, hpe⟩ : ∃ ps, ps = gs[j]'(by have := HNE.out.1; omega) := ⟨_, rfl⟩
      rw [← hpe] at hp
      obtain ⟨g, us, rfl, _, ⟨x, rfl, hx⟩, hc⟩ := HG.out j ps hp
      have c0 := hc 0 _ rfl
      simp only [Nat.mul_one, Nat.add_zero] at c0
      have d0 := cell_later HB.out c0
      have hps := HNE.out.2 ps (List.mem_of_getElem? hp)
      have hcall := po_any x ps H lo wr hx (HHH.out.below HB.out) hps
      have HA := Lib.hid (⟨Below.refl wr.heap.size wr, hR⟩ : _ ∧ _)
      clear c0
      have HP := Lib.hid hp
      have HRL := Lib.hid hR.lt
      have htl : (gs.take j).length = j := by rw [List.length_take]; have := HNE.out.1; omega
      have HTL := Lib.hid htl
      have hjn : (j : Int) < n0 := by omega
      obtain ⟨ao1, uc, hform, _⟩ := hR.form
      rw [htl] at hform
      subst hform
      have HRR := Lib.hid hR
      clear hpe hp htl hc hx hps hR
      go_wp2_with fail
      refine hcall.mono ?_
      rintro e w3 ⟨y, rfl, hRy, hb3⟩
      obtain ⟨K, hK3, hI3⟩ := hRy.is
      obtain ⟨g3, cap3, rfl, _⟩ := hRy.formN
      clear hRy
      have HK3 := Lib.hid hK3
      have HI3 := Lib.hid hI3
      have HB3 := Lib.hid hb3
      clear hK3 hI3 hb3 hcall
      go_wp2_with (at_builtin; refine wpList_append_rowed (r := (repRow repPt 68)) rfl _ _ 79 rfl (lo := wr.heap.size) 72 72 i0 (.slice none 0 0) 24 Tryz.underlying79 HI.out.1 HI.out.2.1 HI.out.2.2.1 HI.out.2.2.2 rfl (Nat.succ_pos _) _ _ rfl (HRR.out.below HB3.out) [.slice (some ⟨g3, 0, none⟩) ps.length cap3] ps K HK3.out ⟨_, rfl, HI3.out⟩ ?c4 ?c1 #[.slice (some ⟨g3, 0, none⟩) ps.length cap3] rfl _ rfl ?c6 ?c2 ?c3 ?c5 ?_)
      case c4 => have := HB.out.size; have := HA.out.1.size; omega
      case c1 => exact fun k hk => by have := (HRL.out k hk).2; have := HA.out.1.size; omega
      case c2 => rw [HTL.out]; unfold maxLen; omega
      case c3 => rw [HTL.out]; omega
      case c5 => have := HB.out.size; have := HB3.out.size; have := HA.out.1.size; omega
      case c6 => rfl
      intro v2 w4 hR2 hg
      have hbA := HB.out.trans (HA.out.1.mono HB.out.size)
      have hb4 := (HRR.out.below HB3.out).grownKeep (hbA.trans (HB3.out.mono hbA.size)) hg (Nat.le_refl _) (by have := HB.out.size; have := HB3.out.size; have := HA.out.1.size; omega)
      rw [← List.take_succ_of HP.out] at hR2
      have HB4 := Lib.hid hb4
      clear hg hb4 hbA
      go_wp2_with fail
      go_roundw
      case rel => exact ⟨_, _, _, _, _, _, _, _, _, _, _, _, ⟨j + 1, by omega, by go_num, hR2, HB4⟩, rfl⟩
      case measure => simp [intOf]; omega
    · obtain rfl : j = n0 := by omega
      have hle : gs.take j = gs := List.take_of_length_le (by have := HNE.out.1; omega)
      rw [hle] at hR
      obtain ⟨K, hK, hI⟩ := hR.is
      have HR := Lib.hid (⟨hK, hI⟩ : _ ∧ _)
      clear hR hle hlt hK hI
      go_wp2_with fail
      go_ret
      exact ⟨_, K, rfl, ⟨_, rfl, HR.out.2⟩, HR.out.1, HB.out⟩


set_option maxRecDepth 100000 in
set_option maxHeartbeats 1000000 in
theorem ge_mg (f : Nat) (us : List Value) (gs : List (List (List By.Pt))) (H : Knows) (lo : Nat) (w : World) (hs : IsS (f + 1) H us (.mk 6 [] (gs.map fun rs => .mk 3 rs []))) (hH : Has lo H w) (hsz : By.size (.mg gs) ≤ 2147483647) :
    Calls Tryz.prog 14 #[.agg us.toArray] w (GaveG (f + 1) (.mg gs) w) := by
  obtain ⟨ao, n0, cap, bo, m0, d, rfl, hl, hp⟩ := hs.three
  obtain ⟨W0, hW0⟩ : ∃ W, W = w.alloc (.cells #[.int .i64 6, .slice ao n0 cap, .slice bo m0 d] 26) := ⟨_, rfl⟩
  have b0 : Below w.heap.size w W0 := by rw [hW0]; exact (Below.refl _ _).alloc (Nat.le_refl _) _
  have r0 : Blk W0 w.heap.size #[.int .i64 6, .slice ao n0 cap, .slice bo m0 d] 26 := by rw [hW0]; exact Blk.new w _ _
  obtain ⟨i0, hi, hz0, hz1, hz2⟩ := info_parts info75
  obtain ⟨hn, hm⟩ := size_mg hsz
  obtain ⟨q1, q2, hq, hcap, hget⟩ := rowz_at hp hH
  simp only [Value.slice.injEq] at hq
  obtain ⟨hq1, hne, hq3⟩ := hq
  subst hq1 hq3
  rw [List.length_map] at hne hcap
  rw [← hne] at hcap
  have hnn : m0 ≤ 2147483647 := by omega
  obtain ⟨W1, hW1⟩ : ∃ W, W = W0.alloc (.cells #[] 75) := ⟨_, rfl⟩
  have h0 := Rowed.made (r := (repRow (repRow repPt 68) 127)) (E := 75) (base := w.heap.size) W0 #[] 0 b0.size (Nat.zero_le _) rfl False
  have hz : W0.heap.size = w.heap.size + 1 := by rw [hW0]; simp
  rw [← hW1] at h0
  have hb0 : Below w.heap.size w W1 := by rw [hW1]; exact b0.alloc b0.size _
  rw [hW0] at hW1
  rw [hz] at h0
  have HNE := Lib.hid (⟨hne, hm⟩ : _ ∧ _)
  have HG := Lib.hid hget
  have HI := Lib.hid (⟨hi, hz0, hz1, hz2⟩ : _ ∧ _ ∧ _ ∧ _)
  have H0 := Lib.hid h0
  have HHH := Lib.hid hH
  have HB0 := Lib.hid hb0
  have HW1 := Lib.hid hW1
  clear hl hp hs hH hi hz0 hz1 hz2 h0 hget hm hb0 hW0 hW1 b0 r0 hz hsz
  clear hne hn
  go_enter Tryz.func14, Tryz.ntmps14
  go_wp2_with fail
  rw [← HW1.out]
  go_loopw [6, 68] (fun v jv wr => ∃ j : Nat, j ≤ m0 ∧ jv = .int .i64 j ∧ Rowed False (repRow (repRow repPt 68) 127) w.heap.size 75 wr v (gs.take j) ∧ Hid (Below w.heap.size w wr)) (fun _ jv _ => m0 - (intOf jv).toNat)
  case atStart => exact ⟨0, Nat.zero_le _, rfl, H0.out, HB0⟩
  case round =>
    clear H0 HB0
    obtain ⟨j, hj, rfl, hR, HB⟩ := hrel
    by_cases hlt : j < m0
    · have hp : gs[j]? = some (gs[j]'(by have := HNE.out.1; omega)) := List.getElem?_eq_getElem (by have := HNE.out.1; omega)
      obtain ⟨ps, hpe⟩ : ∃ ps, ps = gs[j]'(by have := HNE.out.1; omega) := ⟨_, rfl⟩
      rw [← hpe] at hp
      obtain ⟨g, us, rfl, _, hx, hc⟩ := HG.out j (.mk 3 ps []) (by rw [List.getElem?_map, hp]; rfl)
      obtain ⟨k3, ao3, n3, cap3, bo3, m3, cap4, rfl⟩ := hx.form
      have c0 := hc 0 _ rfl
      have c1 := hc 1 _ rfl
      have c2 := hc 2 _ rfl
      rw [Nat.add_zero] at c0
      have d0 := cell_later HB.out c0
      have d1 := cell_later HB.out c1
      have d2 := cell_later HB.out c2
      obtain ⟨WA, hWA⟩ : ∃ W, W = wr.alloc (.cells #[.int .i64 k3, .slice ao3 n3 cap3, .slice bo3 m3 cap4] 26) := ⟨_, rfl⟩
      have hbA : Below wr.heap.size wr WA := by rw [hWA]; exact (Below.refl _ _).alloc (Nat.le_refl _) _
      have HA := Lib.hid (⟨hbA, hR.below hbA⟩ : _ ∧ _)
      have HWA := Lib.hid hWA
      clear c0 c1 c2 hWA
      have hps := HNE.out.2 ps (List.mem_of_getElem? hp)
      have hcall := pgo_any WA hx ((HHH.out.below HB.out).below hbA) hps.1 hps.2
      clear hbA
      have HP := Lib.hid hp
      have HRL := Lib.hid hR.lt
      have htl : (gs.take j).length = j := by rw [List.length_take]; have := HNE.out.1; omega
      have HTL := Lib.hid htl
      have hjn : (j : Int) < m0 := by omega
      obtain ⟨ao1, uc, hform, _⟩ := hR.form
      rw [htl] at hform
      subst hform
      have HRR := Lib.hid hR
      clear hpe hp htl hc hx hps hR
      go_wp2_with fail
      rw [← HWA.out]
      refine hcall.mono ?_
      rintro e w3 ⟨y, rfl, hRy, hb3⟩
      obtain ⟨K, hK3, hI3⟩ := hRy.is
      obtain ⟨g3, cap5, rfl, _⟩ := hRy.formN
      clear hRy
      have HK3 := Lib.hid hK3
      have HI3 := Lib.hid hI3
      have HB3 := Lib.hid hb3
      clear hK3 hI3 hb3 hcall
      go_wp2_with (at_builtin; refine wpList_append_rowed (r := (repRow (repRow repPt 68) 127)) rfl _ _ 81 rfl (lo := WA.heap.size) 75 75 i0 (.slice none 0 0) 24 Tryz.underlying81 HI.out.1 HI.out.2.1 HI.out.2.2.1 HI.out.2.2.2 rfl (Nat.succ_pos _) _ _ rfl (HA.out.2.below HB3.out) [.slice (some ⟨g3, 0, none⟩) ps.length cap5] ps K HK3.out ⟨_, rfl, HI3.out⟩ ?c4 ?c1 #[.slice (some ⟨g3, 0, none⟩) ps.length cap5] rfl _ rfl ?c6 ?c2 ?c3 ?c5 ?_)
      case c4 => have := HB.out.size; have := HA.out.1.size; omega
      case c1 => exact fun k hk => by have := (HRL.out k hk).2; have := HA.out.1.size; omega
      case c2 => rw [HTL.out]; unfold maxLen; omega
      case c3 => rw [HTL.out]; omega
      case c5 => have := HB.out.size; have := HB3.out.size; have := HA.out.1.size; omega
      case c6 => rfl
      intro v2 w4 hR2 hg
      have hbA := HB.out.trans (HA.out.1.mono HB.out.size)
      have hb4 := (HA.out.2.below HB3.out).grownKeep (hbA.trans (HB3.out.mono hbA.size)) hg (Nat.le_refl _) (by have := HB.out.size; have := HB3.out.size; have := HA.out.1.size; omega)
      rw [← List.take_succ_of HP.out] at hR2
      have HB4 := Lib.hid hb4
      clear hg hb4 hbA
      go_wp2_with fail
      go_roundw
      case rel => exact ⟨_, _, _, _, _, _, _, _, _, _, _, _, ⟨j + 1, by omega, by go_num, hR2, HB4⟩, rfl⟩
      case measure => simp [intOf]; omega
    · obtain rfl : j = m0 := by omega
      have hle : gs.take j = gs := List.take_of_length_le (by have := HNE.out.1; omega)
      rw [hle] at hR
      obtain ⟨K, hK, hI⟩ := hR.is
      have HR := Lib.hid (⟨hK, hI⟩ : _ ∧ _)
      clear hR hle hlt hK hI
      go_wp2_with fail
      go_ret
      exact ⟨_, K, rfl, ⟨_, rfl, HR.out.2⟩, HR.out.1, HB.out⟩


/-- geometry as it should be, of shapes of a depth. -/
def Geos (f : Nat) : Prop := ∀ (us : List Value) (g : By.G) (H : Knows) (lo : Nat) (w : World), IsS f H us (shG g) → Has lo H w → By.size g ≤ 2147483647 → Calls Tryz.prog 14 #[.agg us.toArray] w (GaveG f g w)


set_option maxRecDepth 100000 in
set_option maxHeartbeats 1000000 in
theorem ge_co (f : Nat) (ih : Geos f) (us : List Value) (gs : List By.G) (H : Knows) (lo : Nat) (w : World) (hs : IsS (f + 1) H us (.mk 7 [] (gs.map shG))) (hH : Has lo H w) (hsz : By.size (.co gs) ≤ 2147483647) :
    Calls Tryz.prog 14 #[.agg us.toArray] w (GaveG (f + 1) (.co gs) w) := by
  obtain ⟨ao, n0, cap, bo, m0, d, rfl, hl, hp⟩ := hs.three
  obtain ⟨W0, hW0⟩ : ∃ W, W = w.alloc (.cells #[.int .i64 7, .slice ao n0 cap, .slice bo m0 d] 26) := ⟨_, rfl⟩
  have b0 : Below w.heap.size w W0 := by rw [hW0]; exact (Below.refl _ _).alloc (Nat.le_refl _) _
  have r0 : Blk W0 w.heap.size #[.int .i64 7, .slice ao n0 cap, .slice bo m0 d] 26 := by rw [hW0]; exact Blk.new w _ _
  obtain ⟨i0, hi, hz0, hz1, hz2⟩ := info_parts info39
  obtain ⟨hn, hm⟩ := size_co hsz
  obtain ⟨q1, q2, hq, hcap, hget⟩ := rowz_at hp hH
  simp only [Value.slice.injEq] at hq
  obtain ⟨hq1, hne, hq3⟩ := hq
  subst hq1 hq3
  rw [List.length_map] at hne hcap
  rw [← hne] at hcap
  have hnn : m0 ≤ 2147483647 := by omega
  obtain ⟨W1, hW1⟩ : ∃ W, W = W0.alloc (.cells #[] 39) := ⟨_, rfl⟩
  have h0 := Rowed.made (r := (repG f)) (E := 39) (base := w.heap.size) W0 #[] 0 b0.size (Nat.zero_le _) rfl False
  have hz : W0.heap.size = w.heap.size + 1 := by rw [hW0]; simp
  rw [← hW1] at h0
  have hb0 : Below w.heap.size w W1 := by rw [hW1]; exact b0.alloc b0.size _
  rw [hW0] at hW1
  rw [hz] at h0
  have HNE := Lib.hid (⟨hne, hm⟩ : _ ∧ _)
  have HG := Lib.hid hget
  have HI := Lib.hid (⟨hi, hz0, hz1, hz2⟩ : _ ∧ _ ∧ _ ∧ _)
  have H0 := Lib.hid h0
  have HHH := Lib.hid hH
  have HB0 := Lib.hid hb0
  have HW1 := Lib.hid hW1
  have IH := Lib.hid ih
  clear ih
  clear hl hp hs hH hi hz0 hz1 hz2 h0 hget hm hb0 hW0 hW1 b0 r0 hz hsz
  clear hne hn
  go_enter Tryz.func14, Tryz.ntmps14
  go_wp2_with fail
  rw [← HW1.out]
  go_loopw [9, 86] (fun v jv wr => ∃ j : Nat, j ≤ m0 ∧ jv = .int .i64 j ∧ Rowed False (repG f) w.heap.size 39 wr v (gs.take j) ∧ Hid (Below w.heap.size w wr)) (fun _ jv _ => m0 - (intOf jv).toNat)
  case atStart => exact ⟨0, Nat.zero_le _, rfl, H0.out, HB0⟩
  case round =>
    clear H0 HB0
    obtain ⟨j, hj, rfl, hR, HB⟩ := hrel
    by_cases hlt : j < m0
    · have hp : gs[j]? = some (gs[j]'(by have := HNE.out.1; omega)) := List.getElem?_eq_getElem (by have := HNE.out.1; omega)
      obtain ⟨ps, hpe⟩ : ∃ ps, ps = gs[j]'(by have := HNE.out.1; omega) := ⟨_, rfl⟩
      rw [← hpe] at hp
      obtain ⟨g, us, rfl, _, hx, hc⟩ := HG.out j (shG ps) (by rw [List.getElem?_map, hp]; rfl)
      obtain ⟨k3, ao3, n3, cap3, bo3, m3, cap4, rfl⟩ := hx.form
      have c0 := hc 0 _ rfl
      have c1 := hc 1 _ rfl
      have c2 := hc 2 _ rfl
      rw [Nat.add_zero] at c0
      have d0 := cell_later HB.out c0
      have d1 := cell_later HB.out c1
      have d2 := cell_later HB.out c2
      obtain ⟨WA, hWA⟩ : ∃ W, W = wr.alloc (.cells #[.int .i64 k3, .slice ao3 n3 cap3, .slice bo3 m3 cap4] 26) := ⟨_, rfl⟩
      have hbA : Below wr.heap.size wr WA := by rw [hWA]; exact (Below.refl _ _).alloc (Nat.le_refl _) _
      have HA := Lib.hid (⟨hbA, hR.below hbA⟩ : _ ∧ _)
      have HWA := Lib.hid hWA
      clear c0 c1 c2 hWA
      have hps := HNE.out.2 ps (List.mem_of_getElem? hp)
      have hcall := IH.out _ ps H lo WA hx ((HHH.out.below HB.out).below hbA) hps
      clear hbA
      have HP := Lib.hid hp
      have HRL := Lib.hid hR.lt
      have htl : (gs.take j).length = j := by rw [List.length_take]; have := HNE.out.1; omega
      have HTL := Lib.hid htl
      have hjn : (j : Int) < m0 := by omega
      obtain ⟨ao1, uc, hform, _⟩ := hR.form
      rw [htl] at hform
      subst hform
      have HRR := Lib.hid hR
      clear hpe hp htl hc hx hps hR
      go_wp2_with fail
      rw [← HWA.out]
      refine hcall.mono ?_
      rintro e w3 ⟨y, K, rfl, hI3, hK3, hb3⟩
      obtain ⟨T3, x3, rfl⟩ := hI3.iface
      have HK3 := Lib.hid hK3
      have HI3 := Lib.hid hI3
      have HB3 := Lib.hid hb3
      clear hK3 hI3 hb3 hcall
      go_wp2_with (at_builtin; refine wpList_append_rowed (r := (repG f)) rfl _ _ 83 rfl (lo := WA.heap.size) 39 39 i0 .nilIface 16 Tryz.underlying83 HI.out.1 HI.out.2.1 HI.out.2.2.1 HI.out.2.2.2 rfl (Nat.succ_pos _) _ _ rfl (HA.out.2.below HB3.out) [.iface T3 x3] ps K HK3.out ⟨_, rfl, HI3.out⟩ ?c4 ?c1 #[.iface T3 x3] rfl _ rfl ?c6 ?c2 ?c3 ?c5 ?_)
      case c4 => have := HB.out.size; have := HA.out.1.size; omega
      case c1 => exact fun k hk => by have := (HRL.out k hk).2; have := HA.out.1.size; omega
      case c2 => rw [HTL.out]; unfold maxLen; omega
      case c3 => rw [HTL.out]; omega
      case c5 => have := HB.out.size; have := HB3.out.size; have := HA.out.1.size; omega
      case c6 => rfl
      intro v2 w4 hR2 hg
      have hbA := HB.out.trans (HA.out.1.mono HB.out.size)
      have hb4 := (HA.out.2.below HB3.out).grownKeep (hbA.trans (HB3.out.mono hbA.size)) hg (Nat.le_refl _) (by have := HB.out.size; have := HB3.out.size; have := HA.out.1.size; omega)
      rw [← List.take_succ_of HP.out] at hR2
      have HB4 := Lib.hid hb4
      clear hg hb4 hbA
      go_wp2_with fail
      go_roundw
      case rel => exact ⟨_, _, _, _, _, _, _, _, _, _, _, _, _, _, _, _, ⟨j + 1, by omega, by go_num, hR2, HB4⟩, rfl⟩
      case measure => simp [intOf]; omega
    · obtain rfl : j = m0 := by omega
      have hle : gs.take j = gs := List.take_of_length_le (by have := HNE.out.1; omega)
      rw [hle] at hR
      obtain ⟨K, hK, hI⟩ := hR.is
      have HR := Lib.hid (⟨hK, hI⟩ : _ ∧ _)
      clear hR hle hlt hK hI
      go_wp2_with fail
      go_ret
      exact ⟨_, K, rfl, ⟨_, rfl, HR.out.2⟩, HR.out.1, HB.out⟩


theorem geos_any : ∀ f, Geos f
  | 0 => fun us g H lo w h _ _ => h.elim
  | f + 1 => fun us g H lo w h hH hs => by
    cases g with
    | pt p => exact ge_pt f us p H lo w h hH hs
    | ln l => exact ge_ln f us l H lo w h hH hs
    | pg l => exact ge_pg f us l H lo w h hH hs
    | mp l => exact ge_mp f us l H lo w h hH hs
    | ml l => exact ge_ml f us l H lo w h hH hs
    | mg l => exact ge_mg f us l H lo w h hH hs
    | co l => exact ge_co f (geos_any f) us l H lo w (by have h1 : IsS (f + 1) H us (.mk 7 [] (shGs l)) := h; rw [shGs_map] at h1; exact h1) hH hs
end Go.Proofs.YtjbjjphgnilhmaaGreatDoor
