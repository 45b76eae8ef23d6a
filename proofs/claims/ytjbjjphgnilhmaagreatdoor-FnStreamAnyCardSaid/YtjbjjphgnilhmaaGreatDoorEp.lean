/- The walk of spec's (*reader).part: a point. -/
import Derived.Test.YtjbjjphgnilhmaaGreatDoorEg
set_option linter.unusedVariables false
set_option linter.unusedSimpArgs false
namespace Go.Proofs.YtjbjjphgnilhmaaGreatDoor
open Go.RowKit


set_option maxRecDepth 100000 in
set_option maxHeartbeats 1000000 in
theorem part_pt (S : Psr) (sb j d : Nat) (D : Int) (hD : D = (d : Int) + 1) (hd : d ≤ 1000) (le : Bool) (sub : SubOk d S) (w : World) (s : Sh) (l : By.Bs) (hs : AtP sb j w s) (h : Prs S w l) (hrb : S.rb < sb) (hj : j ≤ 2147483647) :
    Calls Tryz.prog 56 #[.pointer (some ⟨S.rb, 0, none⟩), .pointer (some ⟨sb, 0, none⟩), .bool (!le), .int .i64 D] w (GavePt S sb (AtP sb (j + 1)) (pPart (pShape d) le s l) w) := by
  obtain ⟨i0, hi, hz0, hz1, hz2⟩ := info_parts info70
  have HI := Lib.hid (⟨hi, hz0, hz1, hz2⟩ : _ ∧ _ ∧ _ ∧ _)
  obtain ⟨ps, v, lb, rfl, hlen, hb, hbl, hlb, hR⟩ := hs
  have e : pPart (pShape d) le (.mk 4 [ps] []) l = match pShape d 1 l with | .fine p r => .fine (Sh.take (.mk 4 [ps] []) p) r | .wrong => .wrong | .unsaid => .unsaid := rfl
  rw [e]
  have hw : IntKind.i64.wrap (D - 1) = (d : Int) := by rw [hD, Int.add_sub_cancel]; exact IntWalk.i64_in _ (by omega)
  obtain ⟨c0, _⟩ := hb.cell (i := 0) (v := .int .i64 4) rfl
  have hcall : Calls Tryz.prog 18 #[.pointer (some ⟨S.rb, 0, none⟩), .int .i64 1, .bool false, .int .i64 d] w (GaveSh d S (pShape d 1 l) w) := sub 1 l w (by omega) h
  obtain ⟨o, ho⟩ : ∃ o, o = pShape d 1 l := ⟨_, rfl⟩
  rw [← ho] at hcall ⊢
  have hix : ∀ w, (Instr.index 192 (.agg #[.int .i64 0, .int .i64 0, .int .i64 0, .int .i64 0, .int .i64 1, .int .i64 2, .int .i64 3, .int .i64 0]) (.int .i64 4)).run Tryz.prog w = .ok (.int .i64 1) w := fun w => index_only 4 (by omega) w
  have HO := Lib.hid ho
  have HB := Lib.hid (⟨hb, hbl, hlb, hR⟩ : _ ∧ _ ∧ _ ∧ _)
  have hblt := hb.lt
  clear h hi hz0 hz1 hz2 e ho hb hbl hR sub hD
  go_enter Tryz.func56, Tryz.ntmps56
  go_wp2_with fail
  refine hcall.mono ?_
  rintro e w1 ⟨hK, hg⟩
  clear hcall
  rcases o with ⟨p, r⟩ | _ | _
  · obtain ⟨us, K, rfl, hI, hKs, hP⟩ := hg
    have HK := Lib.hid hK
    have HF := Lib.hid (⟨hI, hKs, hP⟩ : _ ∧ _ ∧ _)
    obtain ⟨q, rfl⟩ := pShape_one HO.out.symm
    obtain ⟨f, rfl⟩ : ∃ f, d = f + 1 := by
      cases d with
      | zero => exact hI.elim
      | succ f => exact ⟨f, rfl⟩
    obtain ⟨vl, vp, rfl, hvl, hvp⟩ := hI
    obtain ⟨bo, m, dd, rfl⟩ : ∃ bo m dd, vp = .slice bo m dd := by
      rcases hvp with ⟨_, rfl, _⟩ | ⟨g', cap', _, _, rfl, _⟩ <;> exact ⟨_, _, _, rfl⟩
    obtain ⟨g, cap, rfl, hgw⟩ : ∃ g cap, vl = .slice (some ⟨g, 0, none⟩) 1 cap ∧ w.heap.size ≤ g := by
      rcases hvl with ⟨_, _, h⟩ | ⟨g', cap', _, _, rfl, _, h3, _⟩
      · cases h
      · exact ⟨_, _, rfl, (hKs _ _ h3).1⟩
    obtain ⟨x, cx, hx⟩ := rows_at (pss := [[q]]) hvl hKs 0 [q] rfl
    obtain ⟨g2, cap2, rfl, _⟩ := RowIs.form hx
    have hg2w : w.heap.size ≤ g2 := by
      rcases hx with ⟨h, _⟩ | ⟨g', cap', _, _, h1, _, h3, _⟩
      · exact h.elim
      · simp only [Value.slice.injEq, Option.some.injEq, Addr.mk.injEq] at h1
        rw [h1.1.1]
        exact (hKs _ _ h3).1
    obtain ⟨cy0, cy1⟩ := pts_at (ps := [q]) hx hKs 0 q rfl
    obtain ⟨W2, hW2⟩ : ∃ W, W = w1.alloc (.cells #[.int .i64 1, .slice (some ⟨g, 0, none⟩) 1 cap, .slice bo m dd] 26) := ⟨_, rfl⟩
    have b2 : Below w1.heap.size w1 W2 := by rw [hW2]; exact (Below.refl _ _).alloc (Nat.le_refl _) _
    have p2 : Blk W2 w1.heap.size #[.int .i64 1, .slice (some ⟨g, 0, none⟩) 1 cap, .slice bo m dd] 26 := by rw [hW2]; exact Blk.new w1 _ _
    have hK2 := hK.below b2
    have hb2 := HB.out.1.kept hK2 (by show ¬ sb = S.rb; omega)
    have hl2 := HB.out.2.1.kept hK2 (by show ¬ lb = S.rb; omega)
    have hR2 := HB.out.2.2.2.kept hK2 (fun b hb => by rw [hb]; omega)
    have hx2 := cell_later b2 cx
    have hy0 := cell_later b2 cy0
    have hy1 := cell_later b2 cy1
    simp only [Nat.zero_mul, Nat.zero_add] at hy0 hy1
    obtain ⟨c0', _⟩ := hb2.cell (i := 0) (v := .int .i64 4) rfl
    obtain ⟨c1, f1⟩ := hb2.cell (i := 1) (v := .slice (some ⟨lb, 0, none⟩) 1 1) rfl
    obtain ⟨l1, k1⟩ := hl2.cell (i := 0) (v := v) rfl
    obtain ⟨d1, _⟩ := p2.cell (i := 1) (v := .slice (some ⟨g, 0, none⟩) 1 cap) rfl
    have e0 := c0'
    rw [hW2] at e0
    have HP2 := Lib.hid (hP.below b2)
    have hlo : sb + 1 ≤ w.heap.size := hblt
    have HRL := Lib.hid HB.out.2.2.2.lt
    have HW2 := Lib.hid hW2
    have hsz := hK.size
    have hsz2 := b2.size
    have HR2 := Lib.hid hR2
    have HK2 := Lib.hid hK2
    have c1a := cell_alloc c1 (.cells #[.float .f64 q.1, .float .f64 q.2] 70)
    have l1a := cell_alloc l1 (.cells #[.float .f64 q.1, .float .f64 q.2] 70)
    have d1a := cell_alloc d1 (.cells #[.float .f64 q.1, .float .f64 q.2] 70)
    have hx2a := cell_alloc hx2 (.cells #[.float .f64 q.1, .float .f64 q.2] 70)
    have hy0a := cell_alloc hy0 (.cells #[.float .f64 q.1, .float .f64 q.2] 70)
    have hy1a := cell_alloc hy1 (.cells #[.float .f64 q.1, .float .f64 q.2] 70)
    have hne : v.ownBlock ≠ some sb := fun e => by have := (HRL.out sb e).1; omega
    have hnl : v.ownBlock ≠ some lb := HB.out.2.2.2.notBlk HB.out.2.1 (by decide)
    have HB2 := Lib.hid (⟨hb2, hl2⟩ : _ ∧ _)
    have S4 : ∀ w4, W2.drew.grownBy w4 v.ownBlock → w4.cell? ⟨lb, 0, none⟩ = some v ∧ w4.frozen? ⟨lb, 0, none⟩ = false := fun w4 hg => (Blk.grown (HB2.out.2.drewN 1) hg hnl).cell (i := 0) (v := v) rfl
    have hlbw : lb < w.heap.size := HB.out.2.1.lt
    have KW : ∀ w4, W2.drew.grownBy w4 v.ownBlock → ∀ a u, W2.cell? a = some u → v.ownBlock ≠ some a.block → w4.cell? a = some u := fun w4 hg a u hc hn => Kept.cell (((Kept.refl (fun b => v.ownBlock = some b) W2).drewN 1).grown hg (fun k hk => .inr hk)) hc hn
    have KZ : ∀ (w4 : World) (x : Value) a u, w4.cell? a = some u → a.block ≠ lb → (w4.setCell ⟨lb, 0, none⟩ x).cell? a = some u := fun w4 x a u hc hn => Kept.cell ((Kept.refl (fun b => b = lb) w4).setCell ⟨lb, 0, none⟩ x (.inr rfl)) hc hn
    have hvw : ∀ a, w.heap.size ≤ a → v.ownBlock ≠ some a := fun a ha e => by have := (HRL.out a e).2; omega
    have D4 : ∀ w4, W2.drew.grownBy w4 v.ownBlock → w4.cell? ⟨w1.heap.size, 1, none⟩ = some (.slice (some ⟨g, 0, none⟩) 1 cap) ∧ w4.cell? ⟨g, 0, none⟩ = some (.slice (some ⟨g2, 0, none⟩) 1 cap2) ∧ w4.cell? ⟨g2, 0, none⟩ = some (.float .f64 q.1) ∧ w4.cell? ⟨g2, 1, none⟩ = some (.float .f64 q.2) := fun w4 hg =>
      ⟨KW w4 hg _ _ d1 (hvw _ hsz), KW w4 hg _ _ hx2 (hvw _ hgw), KW w4 hg _ _ hy0 (hvw _ hg2w), KW w4 hg _ _ hy1 (hvw _ hg2w)⟩
    have hsl : sb ≠ lb := by omega
    have hpl : w1.heap.size ≠ lb := by omega
    have hgl : g ≠ lb := by omega
    have hg2l : g2 ≠ lb := by omega
    have C4 : ∀ w4, W2.drew.grownBy w4 v.ownBlock → w4.cell? ⟨sb, 1, none⟩ = some (.slice (some ⟨lb, 0, none⟩) 1 1) := fun w4 hg => ((Blk.grown (HB2.out.1.drewN 1) hg hne).cell (i := 1) (v := .slice (some ⟨lb, 0, none⟩) 1 1) rfl).1
    clear hvl hvp hx hP hK hK2 hR2 hW2 b2 p2 hb2 hl2 cx cy0 cy1 c0 hKs
    go_wp2_with fail
    rw [← HW2.out]
    refine wp_region_held_drew (S := (fun w' => w'.cell? ⟨sb, 1, none⟩ = some (.slice (some ⟨lb, 0, none⟩) 1 1) ∧ w'.cell? ⟨w1.heap.size, 1, none⟩ = some (.slice (some ⟨g, 0, none⟩) 1 cap) ∧ w'.cell? ⟨g, 0, none⟩ = some (.slice (some ⟨g2, 0, none⟩) 1 cap2) ∧ w'.cell? ⟨g2, 0, none⟩ = some (.float .f64 q.1) ∧ w'.cell? ⟨g2, 1, none⟩ = some (.float .f64 q.2))) (by kernel_rfl) ⟨c1, d1, hx2, hy0, hy1⟩ (fun hHeld => ?_)
    refine wpAnyH_take (i := 0) (v := ?_) rfl (by kernel_rfl) (by kernel_rfl) (by kernel_rfl) (fun _ _ _ h => h) (Or.inl ⟨by rfl, ?_⟩) (by assumption) ?_
    rotate_left
    · (intro w hSw; (try dsimp only at hSw); (try simp only [List.getElem_toArray, List.getElem_cons_succ, List.getElem_cons_zero]); go_simp; (try with_reducible rfl))
    simp only [Act.put, List.setIfInBounds_toArray, List.set_cons_zero, List.set_cons_succ, List.getElem_toArray, List.getElem_cons_succ, List.getElem_cons_zero]
    refine wpAnyH_take (i := 1) (v := ?_) rfl (by kernel_rfl) (by kernel_rfl) (by kernel_rfl) (fun _ _ _ h => h) (Or.inl ⟨by rfl, ?_⟩) (by assumption) ?_
    rotate_left
    · (intro w hSw; (try dsimp only at hSw); (try simp only [List.getElem_toArray, List.getElem_cons_succ, List.getElem_cons_zero]); go_simp; (try with_reducible rfl))
    simp only [Act.put, List.setIfInBounds_toArray, List.set_cons_zero, List.set_cons_succ, List.getElem_toArray, List.getElem_cons_succ, List.getElem_cons_zero]
    refine wpAnyH_take (i := 2) (v := ?_) rfl (by kernel_rfl) (by kernel_rfl) (by kernel_rfl) (fun _ _ _ h => h) (Or.inl ⟨by rfl, ?_⟩) (by assumption) ?_
    rotate_left
    · (intro w hSw; (try dsimp only at hSw); (try simp only [List.getElem_toArray, List.getElem_cons_succ, List.getElem_cons_zero]); go_simp; (try with_reducible rfl))
    simp only [Act.put, List.setIfInBounds_toArray, List.set_cons_zero, List.set_cons_succ, List.getElem_toArray, List.getElem_cons_succ, List.getElem_cons_zero]
    refine wpAnyH_take (i := 3) (v := ?_) rfl (by kernel_rfl) (by kernel_rfl) (by kernel_rfl) (fun _ _ _ h => h) (Or.inl ⟨by rfl, ?_⟩) (by assumption) ?_
    rotate_left
    · (intro w hSw; (try dsimp only at hSw); (try simp only [List.getElem_toArray, List.getElem_cons_succ, List.getElem_cons_zero]); go_simp; (try with_reducible rfl))
    simp only [Act.put, List.setIfInBounds_toArray, List.set_cons_zero, List.set_cons_succ, List.getElem_toArray, List.getElem_cons_succ, List.getElem_cons_zero]
    refine wpAnyH_take (i := 4) (v := ?_) rfl (by kernel_rfl) (by kernel_rfl) (by kernel_rfl) (fun _ _ _ h => h) (Or.inl ⟨by rfl, ?_⟩) (by assumption) ?_
    rotate_left
    · (intro w hSw; (try dsimp only at hSw); (try simp only [List.getElem_toArray, List.getElem_cons_succ, List.getElem_cons_zero]); go_simp; (try with_reducible rfl))
    simp only [Act.put, List.setIfInBounds_toArray, List.set_cons_zero, List.set_cons_succ, List.getElem_toArray, List.getElem_cons_succ, List.getElem_cons_zero]
    refine wpAnyH_take (i := 5) (v := ?_) rfl (by kernel_rfl) (by kernel_rfl) (by kernel_rfl) (fun _ _ _ h => h) (Or.inl ⟨by rfl, ?_⟩) (by assumption) ?_
    rotate_left
    · (intro w hSw; (try dsimp only at hSw); (try simp only [List.getElem_toArray, List.getElem_cons_succ, List.getElem_cons_zero]); go_simp; (try with_reducible rfl))
    simp only [Act.put, List.setIfInBounds_toArray, List.set_cons_zero, List.set_cons_succ, List.getElem_toArray, List.getElem_cons_succ, List.getElem_cons_zero]
    refine wpAnyH_take (i := 6) (v := ?_) rfl (by kernel_rfl) (by kernel_rfl) (by kernel_rfl) (fun _ _ _ h => h) (Or.inl ⟨by rfl, ?_⟩) (by assumption) ?_
    rotate_left
    · (intro w hSw; (try dsimp only at hSw); (try simp only [List.getElem_toArray, List.getElem_cons_succ, List.getElem_cons_zero]); go_simp; (try with_reducible rfl))
    simp only [Act.put, List.setIfInBounds_toArray, List.set_cons_zero, List.set_cons_succ, List.getElem_toArray, List.getElem_cons_succ, List.getElem_cons_zero]
    refine wpAnyH_take (i := 7) (v := ?_) rfl (by kernel_rfl) (by kernel_rfl) (by kernel_rfl) (fun _ _ _ h => h) (Or.inl ⟨by rfl, ?_⟩) (by assumption) ?_
    rotate_left
    · (intro w hSw; (try dsimp only at hSw); (try simp only [List.getElem_toArray, List.getElem_cons_succ, List.getElem_cons_zero]); go_simp; (try with_reducible rfl))
    simp only [Act.put, List.setIfInBounds_toArray, List.set_cons_zero, List.set_cons_succ, List.getElem_toArray, List.getElem_cons_succ, List.getElem_cons_zero]
    refine wpAnyH_take (i := 8) (v := ?_) rfl (by kernel_rfl) (by kernel_rfl) (by kernel_rfl) (fun _ _ _ h => h) (Or.inl ⟨by rfl, ?_⟩) (by assumption) ?_
    rotate_left
    · (intro w hSw; (try dsimp only at hSw); (try simp only [List.getElem_toArray, List.getElem_cons_succ, List.getElem_cons_zero]); go_simp; (try with_reducible rfl))
    simp only [Act.put, List.setIfInBounds_toArray, List.set_cons_zero, List.set_cons_succ, List.getElem_toArray, List.getElem_cons_succ, List.getElem_cons_zero]
    refine wpAnyH_take (i := 10) (v := ?_) rfl (by kernel_rfl) (by kernel_rfl) (by kernel_rfl) (fun _ _ _ h => h) (Or.inl ⟨by rfl, ?_⟩) (by assumption) ?_
    rotate_left
    · (intro w hSw; (try dsimp only at hSw); (try simp only [List.getElem_toArray, List.getElem_cons_succ, List.getElem_cons_zero]); go_simp; (try with_reducible rfl))
    simp only [Act.put, List.setIfInBounds_toArray, List.set_cons_zero, List.set_cons_succ, List.getElem_toArray, List.getElem_cons_succ, List.getElem_cons_zero]
    refine wpAnyH_take (i := 11) (v := ?_) rfl (by kernel_rfl) (by kernel_rfl) (by kernel_rfl) (fun _ _ _ h => h) (Or.inl ⟨by rfl, ?_⟩) (by assumption) ?_
    rotate_left
    · (intro w hSw; (try dsimp only at hSw); (try simp only [List.getElem_toArray, List.getElem_cons_succ, List.getElem_cons_zero]); go_simp; (try with_reducible rfl))
    simp only [Act.put, List.setIfInBounds_toArray, List.set_cons_zero, List.set_cons_succ, List.getElem_toArray, List.getElem_cons_succ, List.getElem_cons_zero]
    refine wpAnyH_take (i := 12) (v := ?_) rfl (by kernel_rfl) (by kernel_rfl) (by kernel_rfl) (fun _ _ _ h => h) (Or.inl ⟨by rfl, ?_⟩) (by assumption) ?_
    rotate_left
    · (intro w hSw; (try dsimp only at hSw); (try simp only [List.getElem_toArray, List.getElem_cons_succ, List.getElem_cons_zero]); go_simp; (try with_reducible rfl))
    simp only [Act.put, List.setIfInBounds_toArray, List.set_cons_zero, List.set_cons_succ, List.getElem_toArray, List.getElem_cons_succ, List.getElem_cons_zero]
    refine wpAnyH_take (i := 13) (v := ?_) rfl (by kernel_rfl) (by kernel_rfl) (by kernel_rfl) (fun _ _ _ h => h) (Or.inl ⟨by rfl, ?_⟩) (by assumption) ?_
    rotate_left
    · (intro w hSw; (try dsimp only at hSw); (try simp only [List.getElem_toArray, List.getElem_cons_succ, List.getElem_cons_zero]); go_simp; (try with_reducible rfl))
    simp only [Act.put, List.setIfInBounds_toArray, List.set_cons_zero, List.set_cons_succ, List.getElem_toArray, List.getElem_cons_succ, List.getElem_cons_zero]
    refine wpAnyH_take (i := 14) (v := ?_) rfl (by kernel_rfl) (by kernel_rfl) (by kernel_rfl) (fun _ _ _ h => h) (Or.inl ⟨by rfl, ?_⟩) (by assumption) ?_
    rotate_left
    · (intro w hSw; (try dsimp only at hSw); (try simp only [List.getElem_toArray, List.getElem_cons_succ, List.getElem_cons_zero]); go_simp; (try with_reducible rfl))
    simp only [Act.put, List.setIfInBounds_toArray, List.set_cons_zero, List.set_cons_succ, List.getElem_toArray, List.getElem_cons_succ, List.getElem_cons_zero]
    refine wpAnyH_take (i := 15) (v := ?_) rfl (by kernel_rfl) (by kernel_rfl) (by kernel_rfl) (fun _ _ _ h => h) (Or.inl ⟨by rfl, ?_⟩) (by assumption) ?_
    rotate_left
    · (intro w hSw; (try dsimp only at hSw); (try simp only [List.getElem_toArray, List.getElem_cons_succ, List.getElem_cons_zero]); go_simp; (try with_reducible rfl))
    simp only [Act.put, List.setIfInBounds_toArray, List.set_cons_zero, List.set_cons_succ, List.getElem_toArray, List.getElem_cons_succ, List.getElem_cons_zero]
    refine wpAnyH_ready (rs := [9, 16]) (by kernel_rfl) (by simp) ?_
    refine AllReadyH.cons rfl (fun K hK => ?_) (AllReadyH.cons rfl (fun K hK => ?_) AllReadyH.nil)
    · try simp only [List.getElem_toArray, List.getElem_cons_succ, List.getElem_cons_zero]
      go_simp
      refine hK.out _ _ ⟨c1, d1, hx2, hy0, hy1⟩ (fun hHeld => ?_)
      clear hK K
      try simp only [Act.put, List.setIfInBounds_toArray, List.set_cons_zero, List.set_cons_succ, List.getElem_toArray, List.getElem_cons_succ, List.getElem_cons_zero]
      refine wpAnyH_ready (rs := [16]) (by kernel_rfl) (by simp) ?_
      refine AllReadyH.cons rfl (fun K hK => ?_) AllReadyH.nil
      try simp only [List.getElem_toArray, List.getElem_cons_succ, List.getElem_cons_zero]
      go_simp
      refine hK.out _ _ ⟨c1a, d1a, hx2a, hy0a, hy1a⟩ (fun hHeld => ?_)
      clear hK K
      try simp only [Act.put, List.setIfInBounds_toArray, List.set_cons_zero, List.set_cons_succ, List.getElem_toArray, List.getElem_cons_succ, List.getElem_cons_zero]
      refine wpAnyH_ready (rs := [17]) (by kernel_rfl) (by simp) ?_
      refine AllReadyH.cons (o := { dst := some 102, op := .call { callee := .builtin .append, args := #[.tmp 94, .tmp 101], argTypes := #[52, 52] }, type := 52, pos := _, after := _, guard := none }) rfl (fun K hK => ?_) AllReadyH.nil
      refine step_append_rowed (r := repPt) rfl (.tmp 94) (.tmp 101) 52 rfl (lo := w.heap.size) 70 70 i0 (.agg #[.float .f64 0, .float .f64 0]) 16 Tryz.underlying52 HI.out.1 HI.out.2.1 HI.out.2.2.1 HI.out.2.2.2 rfl (by decide) v ps rfl (HR2.out.below (below_drewN (Below.refl _ _) 1)) (ptCells q) q (fun _ _ => False) (fun _ _ h => h.elim) rfl hlo (fun k hk => (HRL.out k hk).2) #[.float .f64 q.1, .float .f64 q.2] rfl _ rfl (by simp) (by rw [hlen]; unfold maxLen; omega) (by rw [hlen]; omega) (Nat.le_trans hlo (Nat.le_trans hsz hsz2)) ?_; intro v4 w4 hR4 hg4; obtain ⟨ao4, cap4, hv4, _⟩ := hR4.form; rw [List.length_append, hlen, List.length_cons, List.length_nil, Nat.zero_add] at hv4; subst hv4; obtain ⟨s4, f4⟩ := S4 w4 hg4; have c1w := C4 w4 hg4; obtain ⟨d1w, x2w, y0w, y1w⟩ := D4 w4 hg4; have c1z := KZ w4 (.slice ao4 (j + 1) cap4) _ _ c1w hsl; have d1z := KZ w4 (.slice ao4 (j + 1) cap4) _ _ d1w hpl; have x2z := KZ w4 (.slice ao4 (j + 1) cap4) _ _ x2w hgl; have y0z := KZ w4 (.slice ao4 (j + 1) cap4) _ _ y0w hg2l; have y1z := KZ w4 (.slice ao4 (j + 1) cap4) _ _ y1w hg2l
      refine hK.out _ _ ⟨c1w, d1w, x2w, y0w, y1w⟩ (fun hHeld => ?_)
      clear hK K
      try simp only [Act.put, List.setIfInBounds_toArray, List.set_cons_zero, List.set_cons_succ, List.getElem_toArray, List.getElem_cons_succ, List.getElem_cons_zero]
      refine wpAnyH_take (i := 18) (v := ?_) rfl (by kernel_rfl) (by kernel_rfl) (by kernel_rfl) (fun _ _ _ h => h) (Or.inl ⟨by rfl, ?_⟩) (by assumption) ?_
      rotate_left
      · (intro w hSw; (try dsimp only at hSw); (try simp only [List.getElem_toArray, List.getElem_cons_succ, List.getElem_cons_zero]); go_simp; (try with_reducible rfl))
      simp only [Act.put, List.setIfInBounds_toArray, List.set_cons_zero, List.set_cons_succ, List.getElem_toArray, List.getElem_cons_succ, List.getElem_cons_zero]
      refine wpAnyH_ready (rs := [19]) (by kernel_rfl) (by simp) ?_
      refine AllReadyH.cons rfl (fun K hK => ?_) AllReadyH.nil
      try simp only [List.getElem_toArray, List.getElem_cons_succ, List.getElem_cons_zero]
      go_simp
      refine hK.out _ _ ⟨c1z, d1z, x2z, y0z, y1z⟩ (fun hHeld => ?_)
      clear hK K
      try simp only [Act.put, List.setIfInBounds_toArray, List.set_cons_zero, List.set_cons_succ, List.getElem_toArray, List.getElem_cons_succ, List.getElem_cons_zero]
      refine wpAnyH_done (by kernel_rfl) ?_ _
      have b5 := Blk.grown (HB2.out.1.drewN 1) hg4 hne
      have l5 := Blk.grown (HB2.out.2.drewN 1) hg4 hnl
      have K4 := (((HK2.out.weaken (Y := fun b => b = S.rb ∨ sb ≤ b) fun _ _ h => .inl h).drewN 1).grown hg4 (fun k hk => .inr (.inr (by have := (HRL.out k hk).1; omega)))).setCell ⟨lb, 0, none⟩ (.slice ao4 (j + 1) cap4) (.inr (.inr (by show sb ≤ lb; omega)))
      have k5 : Kept (fun b => b = lb) w4 (w4.setCell ⟨lb, 0, none⟩ (.slice ao4 (j + 1) cap4)) := (Kept.refl (fun b => b = lb) w4).setCell ⟨lb, 0, none⟩ _ (.inr rfl)
      have n4 := hR4.notBlk l5 (by decide)
      have P4 := ((HP2.out.kept (((Kept.refl (fun b => v.ownBlock = some b) W2).drewN 1).grown hg4 (fun k hk => .inr hk)) (fun k hk => by have := (HRL.out k hk).1; omega))).kept k5 (fun k hk => by omega)
      have HZ := Lib.hid (⟨K4, ⟨_, _, lb, rfl, by simp [hlen], Blk.kept b5 k5 (by omega), l5.set 0 _, by omega, hR4.keptPt k5 (fun k hk hkl => n4 (by rw [hk, hkl]))⟩, P4⟩ : Kept _ w _ ∧ AtP sb (j + 1) (w4.setCell ⟨lb, 0, none⟩ (.slice ao4 (j + 1) cap4)) (.mk 4 [ps ++ [q]] []) ∧ _)
      clear hg4 hR4 b5 l5 K4 k5 n4 P4
      go_wp2_with fail
      go_ret
      exact ⟨HZ.out.1, rfl, HZ.out.2.1, HZ.out.2.2⟩
    · try simp only [List.getElem_toArray, List.getElem_cons_succ, List.getElem_cons_zero]
      go_simp
      refine hK.out _ _ ⟨c1a, d1a, hx2a, hy0a, hy1a⟩ (fun hHeld => ?_)
      clear hK K
      try simp only [Act.put, List.setIfInBounds_toArray, List.set_cons_zero, List.set_cons_succ, List.getElem_toArray, List.getElem_cons_succ, List.getElem_cons_zero]
      refine wpAnyH_ready (rs := [9]) (by kernel_rfl) (by simp) ?_
      refine AllReadyH.cons rfl (fun K hK => ?_) AllReadyH.nil
      try simp only [List.getElem_toArray, List.getElem_cons_succ, List.getElem_cons_zero]
      go_simp
      refine hK.out _ _ ⟨c1a, d1a, hx2a, hy0a, hy1a⟩ (fun hHeld => ?_)
      clear hK K
      try simp only [Act.put, List.setIfInBounds_toArray, List.set_cons_zero, List.set_cons_succ, List.getElem_toArray, List.getElem_cons_succ, List.getElem_cons_zero]
      refine wpAnyH_ready (rs := [17]) (by kernel_rfl) (by simp) ?_
      refine AllReadyH.cons (o := { dst := some 102, op := .call { callee := .builtin .append, args := #[.tmp 94, .tmp 101], argTypes := #[52, 52] }, type := 52, pos := _, after := _, guard := none }) rfl (fun K hK => ?_) AllReadyH.nil
      refine step_append_rowed (r := repPt) rfl (.tmp 94) (.tmp 101) 52 rfl (lo := w.heap.size) 70 70 i0 (.agg #[.float .f64 0, .float .f64 0]) 16 Tryz.underlying52 HI.out.1 HI.out.2.1 HI.out.2.2.1 HI.out.2.2.2 rfl (by decide) v ps rfl (HR2.out.below (below_drewN (Below.refl _ _) 1)) (ptCells q) q (fun _ _ => False) (fun _ _ h => h.elim) rfl hlo (fun k hk => (HRL.out k hk).2) #[.float .f64 q.1, .float .f64 q.2] rfl _ rfl (by simp) (by rw [hlen]; unfold maxLen; omega) (by rw [hlen]; omega) (Nat.le_trans hlo (Nat.le_trans hsz hsz2)) ?_; intro v4 w4 hR4 hg4; obtain ⟨ao4, cap4, hv4, _⟩ := hR4.form; rw [List.length_append, hlen, List.length_cons, List.length_nil, Nat.zero_add] at hv4; subst hv4; obtain ⟨s4, f4⟩ := S4 w4 hg4; have c1w := C4 w4 hg4; obtain ⟨d1w, x2w, y0w, y1w⟩ := D4 w4 hg4; have c1z := KZ w4 (.slice ao4 (j + 1) cap4) _ _ c1w hsl; have d1z := KZ w4 (.slice ao4 (j + 1) cap4) _ _ d1w hpl; have x2z := KZ w4 (.slice ao4 (j + 1) cap4) _ _ x2w hgl; have y0z := KZ w4 (.slice ao4 (j + 1) cap4) _ _ y0w hg2l; have y1z := KZ w4 (.slice ao4 (j + 1) cap4) _ _ y1w hg2l
      refine hK.out _ _ ⟨c1w, d1w, x2w, y0w, y1w⟩ (fun hHeld => ?_)
      clear hK K
      try simp only [Act.put, List.setIfInBounds_toArray, List.set_cons_zero, List.set_cons_succ, List.getElem_toArray, List.getElem_cons_succ, List.getElem_cons_zero]
      refine wpAnyH_take (i := 18) (v := ?_) rfl (by kernel_rfl) (by kernel_rfl) (by kernel_rfl) (fun _ _ _ h => h) (Or.inl ⟨by rfl, ?_⟩) (by assumption) ?_
      rotate_left
      · (intro w hSw; (try dsimp only at hSw); (try simp only [List.getElem_toArray, List.getElem_cons_succ, List.getElem_cons_zero]); go_simp; (try with_reducible rfl))
      simp only [Act.put, List.setIfInBounds_toArray, List.set_cons_zero, List.set_cons_succ, List.getElem_toArray, List.getElem_cons_succ, List.getElem_cons_zero]
      refine wpAnyH_ready (rs := [19]) (by kernel_rfl) (by simp) ?_
      refine AllReadyH.cons rfl (fun K hK => ?_) AllReadyH.nil
      try simp only [List.getElem_toArray, List.getElem_cons_succ, List.getElem_cons_zero]
      go_simp
      refine hK.out _ _ ⟨c1z, d1z, x2z, y0z, y1z⟩ (fun hHeld => ?_)
      clear hK K
      try simp only [Act.put, List.setIfInBounds_toArray, List.set_cons_zero, List.set_cons_succ, List.getElem_toArray, List.getElem_cons_succ, List.getElem_cons_zero]
      refine wpAnyH_done (by kernel_rfl) ?_ _
      have b5 := Blk.grown (HB2.out.1.drewN 1) hg4 hne
      have l5 := Blk.grown (HB2.out.2.drewN 1) hg4 hnl
      have K4 := (((HK2.out.weaken (Y := fun b => b = S.rb ∨ sb ≤ b) fun _ _ h => .inl h).drewN 1).grown hg4 (fun k hk => .inr (.inr (by have := (HRL.out k hk).1; omega)))).setCell ⟨lb, 0, none⟩ (.slice ao4 (j + 1) cap4) (.inr (.inr (by show sb ≤ lb; omega)))
      have k5 : Kept (fun b => b = lb) w4 (w4.setCell ⟨lb, 0, none⟩ (.slice ao4 (j + 1) cap4)) := (Kept.refl (fun b => b = lb) w4).setCell ⟨lb, 0, none⟩ _ (.inr rfl)
      have n4 := hR4.notBlk l5 (by decide)
      have P4 := ((HP2.out.kept (((Kept.refl (fun b => v.ownBlock = some b) W2).drewN 1).grown hg4 (fun k hk => .inr hk)) (fun k hk => by have := (HRL.out k hk).1; omega))).kept k5 (fun k hk => by omega)
      have HZ := Lib.hid (⟨K4, ⟨_, _, lb, rfl, by simp [hlen], Blk.kept b5 k5 (by omega), l5.set 0 _, by omega, hR4.keptPt k5 (fun k hk hkl => n4 (by rw [hk, hkl]))⟩, P4⟩ : Kept _ w _ ∧ AtP sb (j + 1) (w4.setCell ⟨lb, 0, none⟩ (.slice ao4 (j + 1) cap4)) (.mk 4 [ps ++ [q]] []) ∧ _)
      clear hg4 hR4 b5 l5 K4 k5 n4 P4
      go_wp2_with fail
      go_ret
      exact ⟨HZ.out.1, rfl, HZ.out.2.1, HZ.out.2.2⟩
  · obtain ⟨k', ao', n', c', bo', m', d', rfl, l2, hP2⟩ := hg
    have HP2 := Lib.hid (hP2.below ((Below.refl _ _).alloc (Nat.le_refl _) (.cells #[.int .i64 k', .slice ao' n' c', .slice bo' m' d'] 26)))
    have HK := Lib.hid ((hK.alloc (.cells #[.int .i64 k', .slice ao' n' c', .slice bo' m' d'] 26)).weaken (Y := fun b => b = S.rb ∨ sb ≤ b) fun _ _ h => .inl h)
    clear hK hP2
    go_wp2_with fail
    go_ret
    exact ⟨HK.out, rfl, _, HP2.out⟩
  · obtain ⟨k', ao', n', c', bo', m', d', rfl, l2, hP2⟩ := hg
    have HP2 := Lib.hid (hP2.below ((Below.refl _ _).alloc (Nat.le_refl _) (.cells #[.int .i64 k', .slice ao' n' c', .slice bo' m' d'] 26)))
    have HK := Lib.hid ((hK.alloc (.cells #[.int .i64 k', .slice ao' n' c', .slice bo' m' d'] 26)).weaken (Y := fun b => b = S.rb ∨ sb ≤ b) fun _ _ h => .inl h)
    clear hK hP2
    go_wp2_with fail
    go_ret
    exact ⟨HK.out, rfl, _, HP2.out⟩

end Go.Proofs.YtjbjjphgnilhmaaGreatDoor
