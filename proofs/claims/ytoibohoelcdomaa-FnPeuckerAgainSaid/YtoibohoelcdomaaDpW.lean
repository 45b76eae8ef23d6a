/- The walk of simplify.dpWorker. -/
import Derived.Test.YtoibohoelcdomaaDpL
namespace Go.Proofs.Ytoibohoelcdomaa
open Go.RowKit Fl

set_option maxRecDepth 100000 in
set_option maxHeartbeats 1000000 in
theorem dp_any (g cap n gm mcap : Nat) (ps : List (Nat × Nat)) (thr : Nat) (w : World) (hn : ps.length = n) (h2 : 2 ≤ n) (hn60 : n ≤ 1000000) (hps : PtsAt w g 0 ps) (hgm : g ≠ gm)
    (hm : w.heap[gm]? = some (.cells (marks n fun i => i == 0 || i == n - 1) 5 (0, 0))) (hthr : IsFin thr) (ht : IsFin (fmul thr thr)) (ht0 : 0 ≤ val (fmul thr thr)) (hwh : ∀ p ∈ ps, ptB p = true) :
    Calls Try.prog 54 #[.slice (some ⟨g, 0, none⟩) n cap, .float .f64 thr, .slice (some ⟨gm, 0, none⟩) n mcap] w
      fun e w' => ∃ c, e = .returned (.int .i64 c) ∧ w'.heap[gm]? = some (.cells (marks n (target ps (fmul thr thr))) 5 (0, 0)) ∧ w.grownBy w' (some gm) := by
  obtain ⟨i0, hi, hz0, hz1, hz2⟩ := info_parts info_int
  have hnum := Lib.hid (nums_of hwh)
  have htt := run_fmul (P := Try.prog) hthr hthr 24
  obtain ⟨t, hte⟩ : ∃ t, t = fmul thr thr := ⟨_, rfl⟩
  rw [← hte] at ht ht0 htt ⊢
  clear hte
  have h1n : 1 ≤ (n : Int) := by omega
  have h1n' : (n : Int) ≤ 1000000 := by omega
  go_enter Try.func54, Try.ntmps54
  go_wp2_with (at_builtin; refine wpList_append_own _ rfl _ _ 67 rfl w.heap.size 3 i0 (.int .i64 0) 1 8 Try.underlying67 hi hz0 hz1 hz2 rfl (by decide) _ _ _ rfl (World.ownsRow_nil _ _ _ _) ⟨w.heap.size, 0, none⟩ 2 2 [.int .i64 0, .int .i64 ((n : Int) - 1)] rfl rfl ?c1 ?c2 ?c3 ?c4 ?c5 ?_)
  case c1 =>
    intro j u hj
    match j, hj with
    | 0, hj => simp at hj; subst hj; simp [Addr.add]
    | 1, hj => simp at hj; subst hj; simp [Addr.add]
  case c2 => intro u hu; simp at hu; rcases hu with rfl | rfl <;> rfl
  case c3 => unfold maxLen; omega
  case c4 => omega
  case c5 => simp
  intro v1 w1 hown1 hgrow1 _
  have HO := Lib.hid hown1
  have HG := Lib.hid hgrow1
  have HPS := Lib.hid hps
  have HM1 : Hid (w1.heap[gm]? = some (.cells (marks n fun i => i == 0 || i == n - 1) 5 (0, 0))) := Lib.hid ((hgrow1.block gm (by have := lt_of_block hm; simp; omega) (by simp [Value.ownBlock])).trans ((Below.heap_alloc w _ gm (lt_of_block hm)).trans hm))
  have hgmw := lt_of_block hm
  clear hown1 hgrow1 hps hm
  go_wp2
  go_loopg [7, 8] (2 * n) (fun gk v7 v8 wr => ∃ (st : List (Nat × Nat)) (M : Nat → Bool) (c : Int), (meas st < gk ∧ st.length + meas st ≤ 2 * n) ∧ v7 = .int .i64 c ∧ wr.ownsRow w.heap.size 3 1 v8 (2 * st.length) (flat st) ∧ Hid (∀ q ∈ st, q.1 < q.2 ∧ q.2 < n) ∧
    wr.heap[gm]? = some (.cells (marks n M) 5 (0, 0)) ∧ Hid (∀ i, i < n → (M i || pending ps t st i) = target ps t i) ∧ w.grownBy wr (some gm))
  case atStart =>
    refine ⟨[(0, n - 1)], _, 2, ⟨?_, ?_⟩, rfl, ?_, ?_, HM1.out, ?_, gb_own (gb_alloc (gb_refl _ _) _) HG.out (by simp [Value.ownBlock])⟩
    · simp [meas]; omega
    · simp [meas]; omega
    · have e : flat [(0, n - 1)] = [.int .i64 0, .int .i64 ((n : Int) - 1)] := by
        have e1 : ((n - 1 : Nat) : Int) = (n : Int) - 1 := by omega
        simp [flat, e1]
      rw [e]; exact HO.out
    · refine Lib.hid ?_
      intro q hq; simp at hq; subst hq; simp only; omega
    · refine Lib.hid ?_
      intro i _
      unfold pending target
      rw [hn]; simp
  case round =>
    obtain ⟨st, M, c, hms, rfl, hown, HQ, hmask, HI, hgb⟩ := hrel
    rcases List.eq_nil_or_concat st with rfl | ⟨st', ⟨s, e⟩, rfl⟩
    · have hfin : marks n M = marks n (target ps t) := marks_congr fun i hi => by
        have := HI.out i hi
        unfold pending at this
        simpa using this
      rw [hfin] at hmask
      obtain ⟨ao, cap8, rfl, _⟩ := owns_form hown
      have HMASK := Lib.hid hmask
      clear hown hmask hfin
      go_wp2
      go_ret
      exact ⟨c, rfl, HMASK.out, hgb⟩
    · rw [List.concat_eq_append] at *
      obtain ⟨L, hL⟩ : ∃ L, L = 2 * st'.length := ⟨_, rfl⟩
      have hL2 : 2 * (st' ++ [(s, e)]).length = L + 2 := by simp; omega
      rw [hL2, flat_snoc] at hown
      obtain ⟨ao, cap8, rfl, hf⟩ := owns_form hown
      obtain ⟨gs, rfl, hgs, hgsz, hcap, hcm⟩ := hf (by omega)
      have fl : (flat st').length = L := by rw [flat_length, hL]
      have ca : wr.cell? ⟨gs, L, none⟩ = some (.int .i64 s) := by
        rw [hown.cellAt L (by omega), List.getElem?_append_right (by omega), fl]; simp
      have cb : wr.cell? ⟨gs, L + 1, none⟩ = some (.int .i64 e) := by
        rw [hown.cellAt (L + 1) (by omega), List.getElem?_append_right (by omega), fl]; simp
      have hse := HQ.out (s, e) (by simp)
      simp only at hse
      have hLm : (L : Int) ≤ 4000000 := by have := hms.2; simp at this; omega
      have FLEN := Lib.hid fl
      have HL := Lib.hid hL
      clear hL hL2 fl hf
      have HOWN := Lib.hid hown
      have HMASK := Lib.hid hmask
      clear hown hmask
      clear hcm hgsz
      obtain ⟨wo, rfl⟩ : ∃ wo : World, wo = wr := ⟨_, rfl⟩
      have hpo := pts_grown HPS.out hgb (by simpa using hgm)
      obtain ⟨⟨a1, a2⟩, ha⟩ : ∃ q, q = ps[s] := ⟨_, rfl⟩
      obtain ⟨⟨b1, b2⟩, hb⟩ : ∃ q, q = ps[e] := ⟨_, rfl⟩
      have pa := hpo.get (i := s) (by omega)
      have pb := hpo.get (i := e) (by omega)
      simp only [Nat.zero_add] at pa pb
      rw [← ha] at pa
      rw [← hb] at pb
      have HPO := Lib.hid hpo
      clear hpo
      have hsn : (s : Int) < n := by omega
      have hs1 : (s : Int) ≤ 1000000 := by omega
      have hen : (e : Int) < n := by omega
      have hes : s < e := hse.1
      go_wp2
      go_loopw [11, 12, 13] (fun md mi i wi => ∃ (j x m : Nat), (s + 1 ≤ j ∧ j ≤ e) ∧ i = .int .i64 j ∧ md = .float .f64 x ∧ mi = .int .i64 m ∧ Hid (Dp.scan (Dw ps s e) s (j - s - 1) = (x, m)) ∧ Below wo.heap.size wo wi) (fun _ _ i _ => e - (intOf i).toNat)
      case atStart => exact ⟨s + 1, 0, 0, by omega, by go_num, rfl, rfl, Lib.hid (by rw [show s + 1 - s - 1 = 0 by omega]; rfl), Below.refl _ _⟩
      case round =>
        obtain ⟨j, x, m, hk, rfl, rfl, rfl, HS, hbi⟩ := hrel
        by_cases hlt : j < e
        · have hkn : j < ps.length := by omega
          obtain ⟨⟨p1, p2⟩, hp⟩ : ∃ q, q = ps[j] := ⟨_, rfl⟩
          have pp := HPO.out.get (i := j) hkn
          rw [← hp] at pp
          simp only [Nat.zero_add] at pp
          have a0 := cell_later hbi pa.1
          have a1' := cell_later hbi pa.2
          have b0 := cell_later hbi pb.1
          have b1' := cell_later hbi pb.2
          have p0 := cell_later hbi pp.1
          have p1' := cell_later hbi pp.2
          have hi1 : ((j : Nat) : Int) < n := by omega
          have HBI := Lib.hid hbi
          clear hbi pp
          obtain ⟨ax, ay, ia, sa⟩ := pt_isP (hwh _ (show (a1, a2) ∈ ps by rw [ha]; exact List.getElem_mem _))
          obtain ⟨bx, by', ib, sb⟩ := pt_isP (hwh _ (show (b1, b2) ∈ ps by rw [hb]; exact List.getElem_mem _))
          obtain ⟨px, py, ip, sp⟩ := pt_isP (hwh _ (show (p1, p2) ∈ ps by rw [hp]; exact List.getElem_mem _))
          have hcall := fun w => seg_any (a1, a2) (b1, b2) (p1, p2) ia ib ip sa sb sp w
          have hd : segSq (a1, a2) (b1, b2) (p1, p2) = Dw ps s e j := by
            unfold Dw
            rw [ha, hb, hp]
            simp [List.getD, hkn, show s < ps.length by omega, show e < ps.length by omega]
          rw [hd] at hcall
          obtain ⟨d, hde⟩ : ∃ d, d = Dw ps s e j := ⟨_, rfl⟩
          rw [← hde] at hcall
          have HD := Lib.hid hde
          have hsc := scan_next hk.1 HS.out
          rw [← hde] at hsc
          have HSC := Lib.hid hsc
          clear hde hd ia ib ip sa sb sp hsc ha hb hp
          go_wp2
          go_still_tail 12, (by kernel_rfl)
          change wpList _ _ _ _ _ wr.drew
          clear pa pb a0 a1' b0 b1' p0 p1'
          by_cases hgt : (FloatKind.f64.format.order d x == some .gt) = true
          · go_wp2_with fail
            refine (hcall _).mono ?_
            rintro e' w2 ⟨rfl, hb2⟩
            have HB2 := Lib.hid hb2
            clear hb2 hcall
            go_wp2
            go_roundw
            case rel => exact ⟨j + 1, d, j, by omega, by go_num, rfl, rfl, Lib.hid (by rw [HSC.out]; exact if_pos hgt), (HBI.out.drew.trans (HB2.out.mono (by have := HBI.out.size; exact this)))⟩
            case measure => simp [intOf]; omega
          · have hgt' : (FloatKind.f64.format.order d x == some .gt) = false := by simpa using hgt
            go_wp2_with fail
            refine (hcall _).mono ?_
            rintro e' w2 ⟨rfl, hb2⟩
            have HB2 := Lib.hid hb2
            clear hb2 hcall hgt
            go_wp2
            go_roundw
            case rel => exact ⟨j + 1, x, m, by omega, by go_num, rfl, rfl, Lib.hid (by rw [HSC.out]; exact if_neg (by rw [show Ieee.double.order d x = FloatKind.f64.format.order d x from rfl, hgt']; simp)), (HBI.out.drew.trans (HB2.out.mono (by have := HBI.out.size; exact this)))⟩
            case measure => simp [intOf]; omega
        · obtain rfl : j = e := by omega
          have flen := FLEN.out
          have hmaskr : wr.heap[gm]? = some (.cells (marks n M) 5 (0, 0)) := (hbi.block gm (lt_of_block HMASK.out)).trans HMASK.out
          have hownr : wr.ownsRow w.heap.size 3 1 (.slice (some ⟨gs, 0, none⟩) (L + 2) cap8) (L + 2) (flat st' ++ [.int .i64 s, .int .i64 j]) := HOWN.out.kept (gb_below (gb_refl wo none) hbi) (.inr (by simp [Value.ownBlock]))
          have hgbr := gb_below hgb hbi
          have hgsw : w.heap.size ≤ gs := hgs
          by_cases hgt : (FloatKind.f64.format.order x t == some .gt) = true
          · have hbest : Dp.best (Dw ps) t s j = some m := by
              unfold Dp.best; rw [HS.out]; exact if_pos hgt
            have hbs := Dp.best_some (fun i a b => hnum.out s j i a b (by omega)) ht ht0 hbest
            obtain ⟨hm1, hm2, _⟩ := hbs
            obtain ⟨mc, mf⟩ := marks_cell hmaskr (i := m) (by omega)
            have hms' := marks_set hmaskr (i := m) (by omega)
            have hgb2 := gb_set hgbr m (.int .u8 1)
            have hne : gs ≠ gm := by omega
            have hown2 := ownsRow_setCell_other hownr (a := ⟨gm, m, none⟩) (by simp [Value.ownBlock]; exact hne) (.int .u8 1)
            have c1 : (wr.setCell ⟨gm, m, none⟩ (.int .u8 1)).cell? ⟨gs, L + 1, none⟩ = some (.int .i64 j) := by
              rw [hown2.cellAt (L + 1) (by omega), List.getElem?_append_right (by omega), flen]; simp
            have f1 : (wr.setCell ⟨gm, m, none⟩ (.int .u8 1)).frozen? ⟨gs, L + 1, none⟩ = false := hown2.frozenAt (L + 1)
            obtain ⟨hown3, hg3⟩ := hown2.stored (L + 1) (.int .i64 m)
            rw [flat_set flen] at hown3
            have hgb3 := gb_own hgb2 hg3 (by intro k hk; simp at hk; omega)
            have hmask3 := (hg3.block gm (lt_of_block hms') (by simpa using fun e => hne e.symm)).trans hms'
            have H1 := Lib.hid hms'
            have H2 := Lib.hid hmask3
            have H3 := Lib.hid (inv_split hnum.out ht ht0 (by omega) hbest (fun i hi => HI.out i (by omega)))
            have H4 := Lib.hid hgb3
            have H5 := Lib.hid hg3
            have H6 := Lib.hid hown2
            have H7 := Lib.hid hgb2
            have HMS := Lib.hid hms
            have HBI := Lib.hid hbi
            clear flen hms' hmask3 hgb3 hg3 hown2 hgb2 hmaskr hownr hgbr hbest pa pb hms hbi ha hb
            have hmi : (m : Int) < n := by omega
            go_wp2_with (at_builtin; refine wpList_append_own _ rfl _ _ 67 rfl w.heap.size 3 i0 (.int .i64 0) 1 8 Try.underlying67 hi hz0 hz1 hz2 rfl (by decide) _ _ _ rfl (hown3.alloc _) ⟨wr.heap.size, 0, none⟩ 2 2 [.int .i64 m, .int .i64 j] rfl rfl ?d1 ?d2 ?d3 ?d4 ?d5 ?_)
            case d1 =>
              intro i u hj
              have h := cell_two_new ((wr.setCell ⟨gm, m, none⟩ (.int .u8 1)).setCell ⟨gs, L + 1, none⟩ (.int .i64 m)) (.int .i64 m) (.int .i64 j) 3 i u hj
              have e : ((wr.setCell ⟨gm, m, none⟩ (.int .u8 1)).setCell ⟨gs, L + 1, none⟩ (.int .i64 m)).heap.size = wr.heap.size := by simp
              rw [e] at h
              exact h
            case d2 => intro u hu; simp at hu; rcases hu with rfl | rfl <;> rfl
            case d3 => unfold maxLen; omega
            case d4 => omega
            case d5 => have := hgb.size; have := HBI.out.size; simp; omega
            · intro v8 w3 hown4 hgrow4 _
              have hm3 := (hgrow4.block gm (by have := lt_of_block H2.out; simp at this ⊢; omega) (by simpa [Value.ownBlock] using fun e => hne e.symm)).trans ((Below.heap_alloc _ _ gm (lt_of_block H2.out)).trans H2.out)
              have hgb4 := gb_own (gb_alloc H4.out _) hgrow4 (by intro k hk; simp [Value.ownBlock] at hk; omega)
              have M1 := Lib.hid hm3
              have M2 := Lib.hid hgb4
              have M3 := Lib.hid hown4
              clear hm3 hgb4 hown4 hgrow4 hown3 c1 f1 mc mf ca cb
              go_wp2
              go_roundg (gk - 1)
              case measure => have := HMS.out.1; omega
              case rel =>
                have hms := HMS.out
                rw [meas_snoc, List.length_append] at hms
                simp only [List.length_cons, List.length_nil] at hms
                refine ⟨st' ++ [(s, m)] ++ [(m, j)], _, _, ⟨?_, ?_⟩, rfl, ?_, ?_, M1.out, Lib.hid (fun i hi => H3.out i (by omega)), M2.out⟩
                · rw [meas_snoc, meas_snoc]; omega
                · rw [meas_snoc, meas_snoc, List.length_append, List.length_append]; simp only [List.length_cons, List.length_nil]; omega
                · have e1 : 2 * (st' ++ [(s, m)] ++ [(m, j)]).length = L + 2 + 2 := by have := HL.out; simp; omega
                  rw [e1, flat_snoc]
                  exact M3.out
                · refine Lib.hid ?_
                  intro q hq
                  rw [List.mem_append, List.mem_append] at hq
                  rcases hq with (hq | hq) | hq
                  · exact HQ.out q (List.mem_append.2 (.inl hq))
                  · simp at hq; subst hq; simp only; omega
                  · simp at hq; subst hq; simp only; omega
          · have hgt' : (FloatKind.f64.format.order x t == some .gt) = false := by simpa using hgt
            have hbest : Dp.best (Dw ps) t s j = none := by
              unfold Dp.best; rw [HS.out]; exact if_neg hgt
            have hpop : wr.ownsRow w.heap.size 3 1 (.slice (some ⟨gs, 0, none⟩) L cap8) L (flat st') := by
              have h1 := ownsRow_pop (size := 1) (n := L + 1) (last := [.int .i64 j]) (xs := flat st' ++ [.int .i64 s]) (by rw [List.length_append, flen, Nat.mul_one]; rfl) (by simpa using hownr)
              exact ownsRow_pop (size := 1) (n := L) (last := [.int .i64 s]) (xs := flat st') (by omega) h1
            have H3 := Lib.hid (inv_pop hbest (fun i hi => HI.out i (by omega)))
            have HP := Lib.hid hpop
            have HM' := Lib.hid hmaskr
            have HMS := Lib.hid hms
            clear flen hmaskr hownr hbest pa pb hms hbi ha hb hgt hpop ca cb
            go_wp2
            go_roundg (gk - 1)
            case measure => have := HMS.out.1; omega
            case rel =>
              have hms := HMS.out
              rw [meas_snoc, List.length_append] at hms
              simp only [List.length_cons, List.length_nil] at hms
              refine ⟨st', M, c, ⟨by omega, by omega⟩, rfl, ?_, ?_, HM'.out, Lib.hid (fun i hi => H3.out i (by omega)), hgbr⟩
              · rw [← HL.out]; exact HP.out
              · exact Lib.hid (fun q hq => HQ.out q (List.mem_append.2 (.inl hq)))
end Go.Proofs.Ytoibohoelcdomaa
