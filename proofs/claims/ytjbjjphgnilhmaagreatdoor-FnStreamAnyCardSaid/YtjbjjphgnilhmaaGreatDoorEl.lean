/- The walk of laws.FnStreamAny: what Parse reads at the beginning of the bytes, one behind the other, is what the stream reads. -/
import Derived.Test.YtjbjjphgnilhmaaGreatDoorEi
import Derived.Test.YtjbjjphgnilhmaaGreatDoorEj
import Derived.Test.YtjbjjphgnilhmaaGreatDoorDv
set_option linter.unusedVariables false
set_option linter.unusedSimpArgs false
namespace Go.Proofs.YtjbjjphgnilhmaaGreatDoor
open Go.RowKit
variable {A : Addr → Prop}

theorem gsize_pos (g : By.G) : 1 ≤ By.size g := by
  cases g <;> simp only [By.size] <;> omega
theorem Reads.fits {f : Nat} : ∀ {gs : List By.G} {a b : By.Bs}, Reads f gs a b → gs.length + b.length ≤ a.length ∧ ∀ g ∈ gs, By.size g ≤ a.length
  | [], a, b, h => by
    have h : a = b := h
    subst h; exact ⟨by simp, by simp⟩
  | x :: gs, a, b, ⟨r, h1, h⟩ => by
    have h2 := By.rG_fits f a x r h1
    have h3 := Reads.fits h
    have h4 := gsize_pos x
    refine ⟨by rw [List.length_cons]; have := h2.2; omega, fun g hg => ?_⟩
    rcases List.mem_cons.1 hg with rfl | hg
    · have := h2.2; omega
    · have := h3.2 g hg; have := h2.2; omega
theorem rG_nil (f : Nat) : By.rG f [] = none := by
  cases f <;> rfl


set_option maxRecDepth 100000 in
set_option maxHeartbeats 2000000 in
theorem stream_law (ao0 : Option Addr) (n c : Nat) (l : By.Bs) (w : World) (he : EK A w) (hl : l.length = n) (hc : n ≤ c) (h31 : n ≤ 2147483647) (hx : n = 0 ∨ ∃ b off, ao0 = some ⟨b, off, none⟩ ∧ b < w.heap.size ∧ BytesAt w b off l) :
    Calls Tryz.prog 4 #[.slice ao0 n c] w fun e w' => e = .returned (.bool true) ∧ Below w.heap.size w w' := by
  obtain ⟨i0, hi, hz0, hz1, hz2⟩ := info_parts info26
  have HI := Lib.hid (⟨hi, hz0, hz1, hz2⟩ : _ ∧ _ ∧ _ ∧ _)
  have HE := Lib.hid he
  have HX := Lib.hid (⟨hl, hc, h31, hx⟩ : _ ∧ _ ∧ _ ∧ _)
  have hgt : decide ((2147483647 : Int) < n) = false := decide_eq_false (by omega)
  have hRow := Rowed.made (r := repS 8) (E := 26) (base := w.heap.size) w #[] 0 (Nat.le_refl _) (Nat.zero_le _) rfl True
  have HRow := Lib.hid hRow
  have HB0 : Hid (Below w.heap.size w (w.alloc (.cells #[] 26))) := Lib.hid ((Below.refl _ _).alloc (Nat.le_refl _) _)
  clear hi hz0 hz1 hz2 he hl hx hRow
  go_enter Tryz.func4, Tryz.ntmps4
  go_wp2_with fail
  go_loopw [3, 4] (fun v av wr => ∃ (gs : List By.G) (at_ : Nat), at_ ≤ n ∧ av = .int .i64 at_ ∧ Hid (Reads (n + 8) gs l (l.drop at_)) ∧ Rowed True (repS 8) w.heap.size 26 wr v (gs.map shG) ∧ Hid (Below w.heap.size w wr)) (fun _ av _ => n - (intOf av).toNat)
  case atStart => exact ⟨[], 0, Nat.zero_le _, rfl, Lib.hid rfl, HRow.out, HB0⟩
  case round =>
    clear HRow HB0
    obtain ⟨gs, at_, hat, rfl, HRE, hR, HB⟩ := hrel
    by_cases hlt : at_ < n
    · have hltI : (at_ : Int) < n := by omega
      obtain ⟨b, off, rfl, hbw, hx⟩ := HX.out.2.2.2.resolve_left (by omega)
      have hxr := hx.below HB.out
      obtain ⟨o', hsl, ho'⟩ := from_run b off n c at_ (at_ : Int) rfl hat hc
      have hfb := from_bytes hxr HX.out.1 hc hat ho'
      have hne : l.drop at_ ≠ [] := by
        intro h0
        have := congrArg List.length h0
        rw [hfb.1] at this
        simp at this
        omega
      have hcall := parse_any b o' (n - at_) (c - at_) (l.drop at_) wr hfb.1 hfb.2.1 (by omega) hne hfb.2.2
      have hag := pShape_agrees 8 (n + 8) 0 (l.drop at_) (by omega) (by omega)
      have hplt : ∀ s r, pShape 8 0 (l.drop at_) = .fine s r → r.length + 4 ≤ (l.drop at_).length := fun s r h => pShape_lt 8 0 _ s r h
      obtain ⟨o, ho⟩ : ∃ o, o = pShape 8 0 (l.drop at_) := ⟨_, rfl⟩
      rw [← ho] at hcall hag hplt
      have HAG := Lib.hid hag
      have HPL := Lib.hid hplt
      have HRR := Lib.hid hR
      have HXX := Lib.hid (⟨hx, hxr, hfb⟩ : _ ∧ _ ∧ _)
      clear ho hag hplt hR hx hxr hfb hne ho'
      go_wp2_with fail
      refine hcall.mono ?_
      rintro e w1 ⟨hb1, hg⟩
      clear hcall
      have HB1 := Lib.hid (HB.out.trans (hb1.mono HB.out.size))
      rcases o with ⟨s, r⟩ | _ | _
      · obtain ⟨us, K, i, rfl, hI, hKs, hi, hr⟩ := hg
        obtain ⟨k3, ao3, n3, c3, bo3, m3, d3, rfl⟩ := hI.form
        obtain ⟨g, rfl, hrg⟩ : ∃ g, s = shG g ∧ By.rG (n + 8) (l.drop at_) = some (g, r) := HAG.out
        have hlt4 := HPL.out _ _ rfl
        have hrl := HXX.out.2.2.1
        rw [hr, List.length_drop, hrl] at hlt4
        rw [hrl] at hi
        have hr2 : r = l.drop (at_ + i) := by rw [hr, List.drop_drop]
        have hre := Reads.snoc HRE.out hrg
        rw [hr2] at hre
        have hfits := Reads.fits HRE.out
        have hgl : (gs.map shG).length ≤ n := by rw [List.length_map]; have := hfits.1; have := HX.out.1; omega
        have hb2 : Below w1.heap.size w1 (w1.alloc (.cells #[.int .i64 k3, .slice ao3 n3 c3, .slice bo3 m3 d3] 26)) := (Below.refl _ _).alloc (Nat.le_refl _) _
        obtain ⟨⟨p0, _⟩, ⟨p1, _⟩, ⟨p2, _⟩⟩ := Blk.cf3 (Blk.new w1 #[.int .i64 k3, .slice ao3 n3 c3, .slice bo3 m3 d3] 26)
        have hR2 := (HRR.out.below hb1).below hb2
        have HRL := Lib.hid HRR.out.lt
        have hsz := HB.out.size
        have hsz1 := hb1.size
        have HF := Lib.hid (⟨hI, hKs.below hb2, hre, HB1.out.trans (hb2.mono HB1.out.size)⟩ : _ ∧ Has wr.heap.size K _ ∧ _ ∧ Below w.heap.size w _)
        have hadd : IntKind.i64.wrap ((at_ : Int) + (i : Int)) = (at_ : Int) + (i : Int) := IntWalk.i64_in _ (by omega)
        clear hb1 hb2 hI hKs hr hr2 hre hfits hrg hrl
        go_wp2_with (at_builtin; refine wpList_append_rowed (r := repS 8) rfl _ _ 24 rfl (lo := wr.heap.size) 26 26 i0 (.agg #[.int .i64 0, .slice none 0 0, .slice none 0 0]) 56 Tryz.underlying24 HI.out.1 HI.out.2.1 HI.out.2.2.1 HI.out.2.2.2 rfl (by decide) _ _ rfl hR2 [.int .i64 k3, .slice ao3 n3 c3, .slice bo3 m3 d3] (shG g) K HF.out.2.1 HF.out.1 ?c4 ?c1 #[.int .i64 k3, .slice ao3 n3 c3, .slice bo3 m3 d3] rfl _ rfl ?c6 ?c2 ?c3 ?c5 ?_)
        case c4 => exact hsz
        case c1 => exact fun k hk => (HRL.out k hk).2
        case c2 => unfold maxLen; omega
        case c3 => omega
        case c5 => simp; omega
        case c6 => simp
        intro v2 w4 hR4 hg4
        have hB4 := HF.out.2.2.2.grown hg4 (by simp; omega) (fun k hk => (HRL.out k hk).1)
        have HB4 := Lib.hid hB4
        have HRE2 := Lib.hid HF.out.2.2.1
        have hR5 : Rowed True (repS 8) w.heap.size 26 w4 v2 ((gs ++ [g]).map shG) := by rw [List.map_append]; exact hR4
        clear hg4 hB4 hR4 hR2
        go_wp2_with fail
        go_roundw
        case rel => exact ⟨gs ++ [g], at_ + i, by omega, by go_num, HRE2, hR5, HB4⟩
        case measure => simp [intOf]; omega
      · obtain ⟨k3, ao3, n3, c3, bo3, m3, d3, i3, rfl⟩ := hg
        have hnone : By.rG (n + 8) (l.drop at_) = none := HAG.out
        obtain ⟨W2, hW2⟩ : ∃ W, W = w1.alloc (.cells #[.int .i64 k3, .slice ao3 n3 c3, .slice bo3 m3 d3] 26) := ⟨_, rfl⟩
        have hb12 : Below w1.heap.size w1 W2 := by rw [hW2]; exact (Below.refl _ _).alloc (Nat.le_refl _) _
        have hR : Rowed True (repS 8) w.heap.size 26 W2 _ (gs.map shG) := (HRR.out.below hb1).below hb12
        have HBw := HB
        have HB : Hid (Below w.heap.size w W2) := Lib.hid (HB1.out.trans (hb12.mono HB1.out.size))
        have HW2 := Lib.hid hW2
        clear hb1 hb12 hW2 HAG HPL HXX HRR HBw HB1
        have hfits := Reads.fits HRE.out
        obtain ⟨ao, uc, huf, -⟩ := hR.form
        have htl : (gs.map shG).length = gs.length := List.length_map ..
        rw [htl] at huf
        subst huf
        have hcallD : Calls Tryz.prog 10 #[.slice (some ⟨b, off, none⟩) n c, .int .i64 ((gs.length : Int) + 1)] W2 fun e w' => ∃ v, e = .returned v ∧ Rowed True (repS (n + 8 + 1)) W2.heap.size 26 w' v (gs.map shG) ∧ Below W2.heap.size W2 w' :=
          all_any (A := A) (n + 8) n c (gs.length + 1) (some ⟨b, off, none⟩) l (l.drop at_) gs W2 (HE.out.below HB.out) HX.out.1 HX.out.2.1 HX.out.2.2.1 (HX.out.2.2.2.imp id fun ⟨b, off, h1, h2, h3⟩ => ⟨b, off, h1, by have := HB.out.size; omega, h3.below HB.out⟩) (by omega) rfl (by have := hfits.1; have := HX.out.1; omega) HRE.out hnone
        obtain ⟨K1, hK1, hI1⟩ := hR.is
        obtain ⟨j, hj⟩ : ∃ j, j = gs.length := ⟨_, rfl⟩
        rw [← hj] at hcallD htl hI1 ⊢
        have hjn : j ≤ n := by have := hfits.1; have := HX.out.1; omega
        have hj31 : IntKind.i64.wrap ((j : Int) + 1) = (j : Int) + 1 := IntWalk.i64_in _ (by omega)
        have HF1 := Lib.hid (⟨hK1, hI1, hfits⟩ : Has w.heap.size K1 W2 ∧ RowIs True 3 (IsS 8) 26 K1 (.slice ao j uc) (gs.map shG) ∧ _)
        have HJ := Lib.hid (⟨hj, htl⟩ : _ ∧ _)
        clear hR hfits hK1 hI1 hnone htl hj
        go_wp2_with fail
        rw [← HW2.out]
        refine hcallD.mono ?_
        rintro e w5 ⟨v5, rfl, hR5, hb5⟩
        obtain ⟨K5, hK5, hI5⟩ := hR5.is
        obtain ⟨ao5, c5, huf5, -⟩ := hR5.form
        rw [HJ.out.2] at huf5
        subst huf5
        have HF5 := Lib.hid (⟨HF1.out.1.below hb5, HF1.out.2.1, hK5, hI5⟩ : Has w.heap.size K1 w5 ∧ _ ∧ Has W2.heap.size K5 w5 ∧ RowIs True 3 (IsS (n + 8 + 1)) 26 K5 (.slice ao5 j c5) (gs.map shG))
        have HB5 := Lib.hid (HB.out.trans (hb5.mono HB.out.size))
        have HB0' : Hid (Below w5.heap.size w5 w5) := Lib.hid (Below.refl _ _)
        have hSZ := Lib.hid HF1.out.2.2.2
        clear hcallD hR5 hK5 hI5 hb5
        go_wp2_with fail
        go_loopw [53] (fun iv wr2 => ∃ i : Nat, i ≤ j ∧ iv = .int .i64 i ∧ Hid (Below w5.heap.size w5 wr2)) (fun iv _ => j - (intOf iv).toNat)
        case atStart => exact ⟨0, Nat.zero_le _, rfl, HB0'⟩
        case round =>
          clear HB0'
          obtain ⟨i, hij, rfl, HBr⟩ := hrel
          by_cases hlt2 : i < j
          · have hgi : gs[i]? = some (gs[i]'(by have := HJ.out.1; omega)) := List.getElem?_eq_getElem (by have := HJ.out.1; omega)
            obtain ⟨g, hg⟩ : ∃ g, g = gs[i]'(by have := HJ.out.1; omega) := ⟨_, rfl⟩
            rw [← hg] at hgi
            have hsg := hSZ.out g (List.mem_of_getElem? hgi)
            have hmi : (gs.map shG)[i]? = some (shG g) := by rw [List.getElem?_map, hgi]; rfl
            have hne : gs.map shG ≠ [] := by intro h; rw [h] at hmi; simp at hmi
            have hH1 := HF5.out.1.below HBr.out
            have hH5 := HF5.out.2.2.1.below HBr.out
            obtain ⟨g1, cap1, hv1, -, -, -, hget1⟩ := RowIs.get HF5.out.2.1 hH1 hne
            obtain ⟨us1, hl1, hI1, hc1⟩ := hget1 i (shG g) hmi
            obtain ⟨g5, cap5, hv5, -, -, -, hget5⟩ := RowIs.get HF5.out.2.2.2 hH5 hne
            obtain ⟨us5, hl5, hI5, hc5⟩ := hget5 i (shG g) hmi
            simp only [Value.slice.injEq] at hv1 hv5
            obtain ⟨rfl, -, rfl⟩ := hv1
            obtain ⟨rfl, -, rfl⟩ := hv5
            obtain ⟨k1, a1, n1, p1, b1, m1, d1, rfl⟩ := IsS.form hI1
            obtain ⟨k5, a5, n5, p5, b5, m5, d5, rfl⟩ := IsS.form hI5
            have x0 := hc1 0 _ rfl
            have x1 := hc1 1 _ rfl
            have x2 := hc1 2 _ rfl
            obtain ⟨W8, hW8⟩ : ∃ W, W = wr.alloc (.cells #[.int .i64 k1, .slice a1 n1 p1, .slice b1 m1 d1] 26) := ⟨_, rfl⟩
            have hb8 : Below wr.heap.size wr W8 := by rw [hW8]; exact (Below.refl _ _).alloc (Nat.le_refl _) _
            have y0 := cell_later hb8 (hc5 0 _ rfl)
            have y1 := cell_later hb8 (hc5 1 _ rfl)
            have y2 := cell_later hb8 (hc5 2 _ rfl)
            have hnew := Blk.new wr #[.int .i64 k1, .slice a1 n1 p1, .slice b1 m1 d1] 26
            rw [← hW8] at hnew
            obtain ⟨⟨z0, _⟩, ⟨z1, _⟩, ⟨z2, _⟩⟩ := Blk.cf3 hnew
            simp only [Nat.add_zero] at x0 y0
            have hsame := fun W (hb : Below W8.heap.size W8 W) => same_any (n + 8 + 1) _ _ g K5 K1 _ _ W hI5 ((hH5.below hb8).below hb) (hI1.le (by omega)) ((hH1.below hb8).below hb) (by have := HX.out.1; have := HX.out.2.2.1; omega)
            have HSM := Lib.hid hsame
            have HB8 := Lib.hid (HBr.out.trans (hb8.mono HBr.out.size))
            have HW8 := Lib.hid hW8
            have hijI : (i : Int) < j := by omega
            clear hc1 hc5 hget1 hget5 hI1 hI5 hH1 hH5 hnew hsame hb8 hW8 hgi hg hsg hmi hne
            go_wp2_with fail
            rw [← HW8.out]
            go_region_law ((go_simp; go_at_call 8; refine (HSM.out _ ?_).mono ?_; exact (Below.refl _ _).drew; rintro e w8 ⟨rfl, hb9⟩; have hb9 := below_drew_un hb9))
            all_goals
              have HB9 := Lib.hid (HB8.out.trans (hb9.mono HB8.out.size))
              clear hb9
              go_wp2_with fail
              go_roundw
              case rel => exact ⟨i + 1, by omega, by go_num, HB9⟩
              case measure => simp [intOf]; omega
          · obtain rfl : i = j := by omega
            have HZ := Lib.hid (HB5.out.trans (HBr.out.mono HB5.out.size))
            have hcall2 := decodes_law wr (HE.out.below HZ.out)
            clear hlt2
            go_wp2_with fail
            refine hcall2.mono ?_
            rintro e w9 ⟨rfl, hb9⟩
            have HZ9 := Lib.hid (HZ.out.trans (hb9.mono HZ.out.size))
            clear hcall2 hb9
            go_wp2_with fail
            go_ret
            exact ⟨rfl, HZ9.out⟩

      · obtain ⟨k3, ao3, n3, c3, bo3, m3, d3, i3, rfl⟩ := hg
        obtain ⟨W2, hW2⟩ : ∃ W, W = w1.alloc (.cells #[.int .i64 k3, .slice ao3 n3 c3, .slice bo3 m3 d3] 26) := ⟨_, rfl⟩
        have hb2 : Below w.heap.size w W2 := by rw [hW2]; exact HB1.out.alloc HB1.out.size _
        have hcall2 := decodes_law W2 (HE.out.below hb2)
        have HW2 := Lib.hid hW2
        have HB2 := Lib.hid hb2
        clear hb1 hW2 hb2
        go_wp2_with fail
        rw [← HW2.out]
        refine hcall2.mono ?_
        rintro e w3 ⟨rfl, hb3⟩
        have HB3 := Lib.hid (HB2.out.trans (hb3.mono HB2.out.size))
        clear hcall2 hb3
        go_wp2_with fail
        go_ret
        exact ⟨rfl, HB3.out⟩
    · have hatn : at_ = n := by omega
      have hnone : By.rG (n + 8) (l.drop at_) = none := by rw [hatn, List.drop_eq_nil_of_le (by have := HX.out.1; omega)]; exact rG_nil _
      have hfits := Reads.fits HRE.out
      obtain ⟨ao, uc, huf, -⟩ := hR.form
      have htl : (gs.map shG).length = gs.length := List.length_map ..
      rw [htl] at huf
      subst huf
      have hcallD : Calls Tryz.prog 10 #[.slice ao0 n c, .int .i64 ((gs.length : Int) + 1)] wr fun e w' => ∃ v, e = .returned v ∧ Rowed True (repS (n + 8 + 1)) wr.heap.size 26 w' v (gs.map shG) ∧ Below wr.heap.size wr w' :=
        all_any (A := A) (n + 8) n c (gs.length + 1) ao0 l (l.drop at_) gs wr (HE.out.below HB.out) HX.out.1 HX.out.2.1 HX.out.2.2.1 (HX.out.2.2.2.imp id fun ⟨b, off, h1, h2, h3⟩ => ⟨b, off, h1, by have := HB.out.size; omega, h3.below HB.out⟩) (by omega) rfl (by have := hfits.1; have := HX.out.1; omega) HRE.out hnone
      obtain ⟨K1, hK1, hI1⟩ := hR.is
      obtain ⟨j, hj⟩ : ∃ j, j = gs.length := ⟨_, rfl⟩
      rw [← hj] at hcallD htl hI1 ⊢
      have hjn : j ≤ n := by have := hfits.1; have := HX.out.1; omega
      have hj31 : IntKind.i64.wrap ((j : Int) + 1) = (j : Int) + 1 := IntWalk.i64_in _ (by omega)
      have HF1 := Lib.hid (⟨hK1, hI1, hfits⟩ : Has w.heap.size K1 wr ∧ RowIs True 3 (IsS 8) 26 K1 (.slice ao j uc) (gs.map shG) ∧ _)
      have HJ := Lib.hid (⟨hj, htl⟩ : _ ∧ _)
      clear hR hfits hK1 hI1 hnone htl hj
      go_wp2_with fail
      refine hcallD.mono ?_
      rintro e w5 ⟨v5, rfl, hR5, hb5⟩
      obtain ⟨K5, hK5, hI5⟩ := hR5.is
      obtain ⟨ao5, c5, huf5, -⟩ := hR5.form
      rw [HJ.out.2] at huf5
      subst huf5
      have HF5 := Lib.hid (⟨HF1.out.1.below hb5, HF1.out.2.1, hK5, hI5⟩ : Has w.heap.size K1 w5 ∧ _ ∧ Has wr.heap.size K5 w5 ∧ RowIs True 3 (IsS (n + 8 + 1)) 26 K5 (.slice ao5 j c5) (gs.map shG))
      have HB5 := Lib.hid (HB.out.trans (hb5.mono HB.out.size))
      have HB0' : Hid (Below w5.heap.size w5 w5) := Lib.hid (Below.refl _ _)
      have hSZ := Lib.hid HF1.out.2.2.2
      clear hcallD hR5 hK5 hI5 hb5
      go_wp2_with fail
      go_loopw [53] (fun iv wr2 => ∃ i : Nat, i ≤ j ∧ iv = .int .i64 i ∧ Hid (Below w5.heap.size w5 wr2)) (fun iv _ => j - (intOf iv).toNat)
      case atStart => exact ⟨0, Nat.zero_le _, rfl, HB0'⟩
      case round =>
        clear HB0'
        obtain ⟨i, hij, rfl, HBr⟩ := hrel
        by_cases hlt2 : i < j
        · have hgi : gs[i]? = some (gs[i]'(by have := HJ.out.1; omega)) := List.getElem?_eq_getElem (by have := HJ.out.1; omega)
          obtain ⟨g, hg⟩ : ∃ g, g = gs[i]'(by have := HJ.out.1; omega) := ⟨_, rfl⟩
          rw [← hg] at hgi
          have hsg := hSZ.out g (List.mem_of_getElem? hgi)
          have hmi : (gs.map shG)[i]? = some (shG g) := by rw [List.getElem?_map, hgi]; rfl
          have hne : gs.map shG ≠ [] := by intro h; rw [h] at hmi; simp at hmi
          have hH1 := HF5.out.1.below HBr.out
          have hH5 := HF5.out.2.2.1.below HBr.out
          obtain ⟨g1, cap1, hv1, -, -, -, hget1⟩ := RowIs.get HF5.out.2.1 hH1 hne
          obtain ⟨us1, hl1, hI1, hc1⟩ := hget1 i (shG g) hmi
          obtain ⟨g5, cap5, hv5, -, -, -, hget5⟩ := RowIs.get HF5.out.2.2.2 hH5 hne
          obtain ⟨us5, hl5, hI5, hc5⟩ := hget5 i (shG g) hmi
          simp only [Value.slice.injEq] at hv1 hv5
          obtain ⟨rfl, -, rfl⟩ := hv1
          obtain ⟨rfl, -, rfl⟩ := hv5
          obtain ⟨k1, a1, n1, p1, b1, m1, d1, rfl⟩ := IsS.form hI1
          obtain ⟨k5, a5, n5, p5, b5, m5, d5, rfl⟩ := IsS.form hI5
          have x0 := hc1 0 _ rfl
          have x1 := hc1 1 _ rfl
          have x2 := hc1 2 _ rfl
          obtain ⟨W8, hW8⟩ : ∃ W, W = wr.alloc (.cells #[.int .i64 k1, .slice a1 n1 p1, .slice b1 m1 d1] 26) := ⟨_, rfl⟩
          have hb8 : Below wr.heap.size wr W8 := by rw [hW8]; exact (Below.refl _ _).alloc (Nat.le_refl _) _
          have y0 := cell_later hb8 (hc5 0 _ rfl)
          have y1 := cell_later hb8 (hc5 1 _ rfl)
          have y2 := cell_later hb8 (hc5 2 _ rfl)
          have hnew := Blk.new wr #[.int .i64 k1, .slice a1 n1 p1, .slice b1 m1 d1] 26
          rw [← hW8] at hnew
          obtain ⟨⟨z0, _⟩, ⟨z1, _⟩, ⟨z2, _⟩⟩ := Blk.cf3 hnew
          simp only [Nat.add_zero] at x0 y0
          have hsame := fun W (hb : Below W8.heap.size W8 W) => same_any (n + 8 + 1) _ _ g K5 K1 _ _ W hI5 ((hH5.below hb8).below hb) (hI1.le (by omega)) ((hH1.below hb8).below hb) (by have := HX.out.1; have := HX.out.2.2.1; omega)
          have HSM := Lib.hid hsame
          have HB8 := Lib.hid (HBr.out.trans (hb8.mono HBr.out.size))
          have HW8 := Lib.hid hW8
          have hijI : (i : Int) < j := by omega
          clear hc1 hc5 hget1 hget5 hI1 hI5 hH1 hH5 hnew hsame hb8 hW8 hgi hg hsg hmi hne
          go_wp2_with fail
          rw [← HW8.out]
          go_region_law ((go_simp; go_at_call 8; refine (HSM.out _ ?_).mono ?_; exact (Below.refl _ _).drew; rintro e w8 ⟨rfl, hb9⟩; have hb9 := below_drew_un hb9))
          all_goals
            have HB9 := Lib.hid (HB8.out.trans (hb9.mono HB8.out.size))
            clear hb9
            go_wp2_with fail
            go_roundw
            case rel => exact ⟨i + 1, by omega, by go_num, HB9⟩
            case measure => simp [intOf]; omega
        · obtain rfl : i = j := by omega
          have HZ := Lib.hid (HB5.out.trans (HBr.out.mono HB5.out.size))
          have hcall2 := decodes_law wr (HE.out.below HZ.out)
          clear hlt2
          go_wp2_with fail
          refine hcall2.mono ?_
          rintro e w9 ⟨rfl, hb9⟩
          have HZ9 := Lib.hid (HZ.out.trans (hb9.mono HZ.out.size))
          clear hcall2 hb9
          go_wp2_with fail
          go_ret
          exact ⟨rfl, HZ9.out⟩

theorem stream_big (ao : Option Addr) (n c : Nat) (w : World) (h31 : ¬ n ≤ 2147483647) :
    Calls Tryz.prog 4 #[.slice ao n c] w fun e w' => e = .returned (.bool true) ∧ Below w.heap.size w w' := by
  have hgt : decide ((2147483647 : Int) < n) = true := decide_eq_true (by omega)
  go_enter Tryz.func4, Tryz.ntmps4
  go_wp2_with fail
  go_ret
  exact ⟨rfl, Below.refl _ _⟩
/-- The law, of any bytes. -/
theorem stream_bytes (b off n c : Nat) (l : By.Bs) (w : World) (he : EK A w) (hl : l.length = n) (hc : n ≤ c) (hn : n ≤ 9223372036854775807) (hx : BytesAt w b off l) :
    Calls Tryz.prog 4 #[.slice (some ⟨b, off, none⟩) n c] w fun e w' => e = .returned (.bool true) ∧ Below w.heap.size w w' := by
  by_cases h31 : n ≤ 2147483647
  · refine stream_law _ n c l w he hl hc h31 ?_
    by_cases h0 : n = 0
    · exact .inl h0
    · exact .inr ⟨b, off, rfl, hx.lt (by intro h; subst h; simp at hl; omega), hx⟩
  · exact stream_big _ n c w h31
theorem stream_nil (ao : Option Addr) (c : Nat) (w : World) (he : EK A w) :
    Calls Tryz.prog 4 #[.slice ao 0 c] w fun e w' => e = .returned (.bool true) ∧ Below w.heap.size w w' :=
  stream_law ao 0 c [] w he rfl (Nat.zero_le _) (by omega) (.inl rfl)
end Go.Proofs.YtjbjjphgnilhmaaGreatDoor
