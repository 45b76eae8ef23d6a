/- Shapes as the package's geometries: the walks of impl.pointsOf, impl.first, impl.polygonOf. -/
import Derived.Test.YtjbjjphgnilhmaaGreatDoorBz
set_option linter.unusedVariables false
set_option linter.unusedSimpArgs false
namespace Go.Proofs.YtjbjjphgnilhmaaGreatDoor
open Go.RowKit

/-- A row's elements, read; nil where it may be. -/
theorem rowz_at {α : Type} {z : Prop} {size : Nat} {rel : Knows → List Value → α → Prop} {E : TypeId} {H : Knows} {v : Value} {ls : List α} {w : World} {lo : Nat} (h : RowIs z size rel E H v ls) (hH : Has lo H w) :
    ∃ ao cap, v = .slice ao ls.length cap ∧ ls.length ≤ cap ∧ (∀ (i : Nat) a, ls[i]? = some a → ∃ g us, ao = some ⟨g, 0, none⟩ ∧ us.length = size ∧ rel H us a ∧ ∀ (j : Nat) u, us[j]? = some u → w.cell? ⟨g, i * size + j, none⟩ = some u) := by
  by_cases hne : ls = []
  · subst hne
    rcases h with ⟨_, rfl, _⟩ | ⟨g, cap, _, _, rfl, hc, _⟩
    · exact ⟨none, 0, rfl, Nat.le_refl _, fun i a ha => by simp at ha⟩
    · exact ⟨_, cap, rfl, hc, fun i a ha => by simp at ha⟩
  · obtain ⟨g, cap, hv, hc, _, _, hget⟩ := RowIs.get h hH hne
    exact ⟨_, cap, hv, hc, fun i a ha => by obtain ⟨us, h1, h2, h3⟩ := hget i a ha; exact ⟨g, us, rfl, h1, h2, h3⟩⟩

set_option maxRecDepth 100000 in
set_option maxHeartbeats 1000000 in
/-- impl.pointsOf. -/
theorem po_any {E0 : TypeId} (v : Value) (ps : List By.Pt) (H : Knows) (lo : Nat) (w : World) (hv : rowIs repPt E0 H v ps) (hH : Has lo H w) (hn : ps.length ≤ 2147483647) :
    Calls Tryz.prog 27 #[v] w fun e w' => ∃ u, e = .returned u ∧ Rowed False repPt w.heap.size 68 w' u ps ∧ Below w.heap.size w w' := by
  obtain ⟨i0, hi, hz0, hz1, hz2⟩ := info_parts info68
  obtain ⟨g, cap, rfl, hcap⟩ := RowIs.form hv
  have HPT := Lib.hid (pts_at hv hH)
  obtain ⟨n, hne⟩ : ∃ n, n = ps.length := ⟨_, rfl⟩
  rw [← hne] at hn hcap ⊢
  have h0 := Rowed.made (r := repPt) (E := 68) (base := w.heap.size) w #[] 0 (Nat.le_refl _) (Nat.zero_le _) rfl False
  have HNE := Lib.hid hne
  have HI := Lib.hid (⟨hi, hz0, hz1, hz2⟩ : _ ∧ _ ∧ _ ∧ _)
  have H0 := Lib.hid h0
  have HB0 : Hid (Below w.heap.size w (w.alloc (.cells #[] 68))) := Lib.hid ((Below.refl _ _).alloc (Nat.le_refl _) _)
  clear hv hH hne hi hz0 hz1 hz2 h0
  go_enter Tryz.func27, Tryz.ntmps27
  go_wp2_with fail
  go_loopw [3, 9] (fun v jv wr => ∃ j : Nat, j ≤ n ∧ jv = .int .i64 j ∧ Rowed False repPt w.heap.size 68 wr v (ps.take j) ∧ Hid (Below w.heap.size w wr)) (fun _ jv _ => n - (intOf jv).toNat)
  case atStart => exact ⟨0, Nat.zero_le _, rfl, H0.out, HB0⟩
  case round =>
    clear H0 HB0
    obtain ⟨j, hj, rfl, hR, HB⟩ := hrel
    by_cases hlt : j < n
    · have hp : ps[j]? = some ps[j] := List.getElem?_eq_getElem (by have := HNE.out; omega)
      obtain ⟨p, hpe⟩ : ∃ p, p = ps[j]'(by have := HNE.out; omega) := ⟨_, rfl⟩
      rw [← hpe] at hp
      obtain ⟨c0, c1⟩ := HPT.out j p hp
      have d0 := cell_later HB.out c0
      have d1 := cell_later HB.out c1
      have HP := Lib.hid hp
      have HRL := Lib.hid hR.lt
      have htl : (ps.take j).length = j := by rw [List.length_take]; have := HNE.out; omega
      have HTL := Lib.hid htl
      have hjn : (j : Int) < n := by omega
      clear c0 c1 hpe hp htl
      go_wp2_with (at_builtin; refine wpList_append_rowed (r := repPt) rfl _ _ 71 rfl (lo := wr.heap.size + 1) 68 68 i0 (.agg #[.float .f64 0, .float .f64 0]) 16 Tryz.underlying71 HI.out.1 HI.out.2.1 HI.out.2.2.1 HI.out.2.2.2 rfl (by decide) _ _ rfl (hR.alloc _) (ptCells p) p (fun _ _ => False) ?c0 rfl ?c4 ?c1 #[.float .f64 p.1, .float .f64 p.2] rfl _ rfl ?c6 ?c2 ?c3 ?c5 ?_)
      case c0 => exact fun _ _ h => h.elim
      case c4 => have := HB.out.size; omega
      case c1 => exact fun k hk => by have := (HRL.out k hk).2; omega
      case c2 => rw [HTL.out]; unfold maxLen; omega
      case c3 => rw [HTL.out]; omega
      case c5 => have := HB.out.size; simp; omega
      case c6 => simp
      intro v2 w4 hR2 hg
      have hb4 := (hR.alloc (.cells #[.float .f64 p.1, .float .f64 p.2] 70)).grownKeep (HB.out.alloc HB.out.size _) hg (Nat.le_refl _) (by have := HB.out.size; simp; omega)
      rw [← List.take_succ_of HP.out] at hR2
      have HB4 := Lib.hid hb4
      clear hg hb4 hR d0 d1
      go_wp2_with fail
      go_roundw
      case rel => exact ⟨j + 1, by omega, by go_num, hR2, HB4⟩
      case measure => simp [intOf]; omega
    · obtain rfl : j = n := by omega
      have hle : ps.take j = ps := List.take_of_length_le (by have := HNE.out; omega)
      rw [hle] at hR
      have HR := Lib.hid hR
      clear hR hle hlt
      go_wp2_with fail
      go_ret
      exact ⟨_, rfl, HR.out, HB.out⟩

set_option maxRecDepth 100000 in
/-- impl.first of a shape of one list. -/
theorem first_any {f k : Nat} {us : List Value} {ps : List By.Pt} {parts : List Sh} {H : Knows} {lo : Nat} (w : World) (h : IsS f H us (.mk k [ps] parts)) (hH : Has lo H w) :
    Calls Tryz.prog 26 #[.agg us.toArray] w fun e w' => ∃ g cap, e = .returned (.slice (some ⟨g, 0, none⟩) ps.length cap) ∧ rowIs repPt 70 H (.slice (some ⟨g, 0, none⟩) ps.length cap) ps ∧ Below w.heap.size w w' := by
  obtain _ | f := f
  · exact h.elim
  obtain ⟨vl, vp, rfl, hl, hp⟩ := h
  obtain ⟨ao, cap, rfl, hcap, hget⟩ := rowz_at hl hH
  obtain ⟨g, us, rfl, _, ⟨x, rfl, hx⟩, hc⟩ := hget 0 ps rfl
  obtain ⟨g2, cap2, rfl, hcap2⟩ := RowIs.form hx
  have c0 := hc 0 _ rfl
  simp only [Nat.zero_mul, Nat.add_zero] at c0
  have d0 := cell_alloc c0 (.cells #[.int .i64 k, .slice (some ⟨g, 0, none⟩) 1 cap, vp] 26)
  obtain ⟨bo, m, d, rfl⟩ : ∃ bo m d, vp = .slice bo m d := by rcases hp with ⟨_, rfl, _⟩ | ⟨_, _, _, _, rfl, _⟩ <;> exact ⟨_, _, _, rfl⟩
  have HX := Lib.hid hx
  clear hl hp hget hc hx hH c0
  simp only [List.length_cons, List.length_nil, Nat.zero_add] at hcap ⊢
  go_enter Tryz.func26, Tryz.ntmps26
  go_wp2_with fail
  go_ret
  exact ⟨_, _, rfl, HX.out, (Below.refl _ _).alloc (Nat.le_refl _) _⟩

set_option maxRecDepth 100000 in
set_option maxHeartbeats 1000000 in
/-- impl.polygonOf. -/
theorem pgo_any {f k : Nat} {us : List Value} {pss : List (List By.Pt)} {parts : List Sh} {H : Knows} {lo : Nat} (w : World) (h : IsS f H us (.mk k pss parts)) (hH : Has lo H w) (hn : pss.length ≤ 2147483647) (hm : ∀ ps ∈ pss, ps.length ≤ 2147483647) :
    Calls Tryz.prog 28 #[.agg us.toArray] w fun e w' => ∃ u, e = .returned u ∧ Rowed False (repRow repPt 68) w.heap.size 127 w' u pss ∧ Below w.heap.size w w' := by
  obtain _ | f := f
  · exact h.elim
  obtain ⟨i0, hi, hz0, hz1, hz2⟩ := info_parts info127
  obtain ⟨vl, vp, rfl, hl, hp⟩ := h
  obtain ⟨ao, cap, rfl, hcap, hget⟩ := rowz_at hl hH
  obtain ⟨bo, m, d, rfl⟩ : ∃ bo m d, vp = .slice bo m d := by rcases hp with ⟨_, rfl, _⟩ | ⟨_, _, _, _, rfl, _⟩ <;> exact ⟨_, _, _, rfl⟩
  obtain ⟨n, hne⟩ : ∃ n, n = pss.length := ⟨_, rfl⟩
  rw [← hne] at hn hcap ⊢
  have hb0 : Below w.heap.size w (w.alloc (.cells #[.int .i64 k, .slice ao n cap, .slice bo m d] 26)) := (Below.refl _ _).alloc (Nat.le_refl _) _
  have h0 := Rowed.made (r := repRow repPt 68) (E := 127) (base := w.heap.size) (w.alloc (.cells #[.int .i64 k, .slice ao n cap, .slice bo m d] 26)) #[] 0 (by simp) (Nat.zero_le _) rfl False
  have HNE := Lib.hid (⟨hne, hm⟩ : _ ∧ _)
  have HG := Lib.hid hget
  have HI := Lib.hid (⟨hi, hz0, hz1, hz2⟩ : _ ∧ _ ∧ _ ∧ _)
  have H0 := Lib.hid h0
  have HHH := Lib.hid hH
  have HB0 := Lib.hid (hb0.alloc hb0.size (.cells #[] 127))
  clear hl hp hH hne hi hz0 hz1 hz2 h0 hget hm hb0
  go_enter Tryz.func28, Tryz.ntmps28
  go_wp2_with fail
  go_loopw [3, 10] (fun v jv wr => ∃ j : Nat, j ≤ n ∧ jv = .int .i64 j ∧ Rowed False (repRow repPt 68) w.heap.size 127 wr v (pss.take j) ∧ Hid (Below w.heap.size w wr)) (fun _ jv _ => n - (intOf jv).toNat)
  case atStart => exact ⟨0, Nat.zero_le _, rfl, by simpa using H0.out, HB0⟩
  case round =>
    clear H0 HB0
    obtain ⟨j, hj, rfl, hR, HB⟩ := hrel
    by_cases hlt : j < n
    · have hp : pss[j]? = some (pss[j]'(by have := HNE.out.1; omega)) := List.getElem?_eq_getElem (by have := HNE.out.1; omega)
      obtain ⟨ps, hpe⟩ : ∃ ps, ps = pss[j]'(by have := HNE.out.1; omega) := ⟨_, rfl⟩
      rw [← hpe] at hp
      obtain ⟨g, us, rfl, _, ⟨x, rfl, hx⟩, hc⟩ := HG.out j ps hp
      have c0 := hc 0 _ rfl
      simp only [Nat.mul_one, Nat.add_zero] at c0
      have d0 := cell_later HB.out c0
      have hps := HNE.out.2 ps (List.mem_of_getElem? hp)
      have hcall := po_any x ps H lo wr hx (HHH.out.below HB.out) hps
      have HP := Lib.hid hp
      have HRL := Lib.hid hR.lt
      have htl : (pss.take j).length = j := by rw [List.length_take]; have := HNE.out.1; omega
      have HTL := Lib.hid htl
      have hjn : (j : Int) < n := by omega
      obtain ⟨ao1, uc, hform, _⟩ := hR.form
      rw [htl] at hform
      subst hform
      have HRR := Lib.hid hR
      clear c0 hpe hp htl hc hx hps hR
      go_wp2_with fail
      refine hcall.mono ?_
      rintro e w3 ⟨y, rfl, hRy, hb3⟩
      obtain ⟨K, hK3, hI3⟩ := hRy.is
      obtain ⟨g3, cap3, rfl, _⟩ := hRy.formN
      have HK3 := Lib.hid hK3
      have HI3 := Lib.hid hI3
      have HB3 := Lib.hid hb3
      clear hK3 hI3 hRy hb3 hcall
      go_wp2_with (at_builtin; refine wpList_append_rowed (r := repRow repPt 68) rfl _ _ 75 rfl (lo := wr.heap.size) 127 127 i0 (.slice none 0 0) 24 Tryz.underlying75 HI.out.1 HI.out.2.1 HI.out.2.2.1 HI.out.2.2.2 rfl (by decide) _ _ rfl (HRR.out.below HB3.out) [.slice (some ⟨g3, 0, none⟩) ps.length cap3] ps K HK3.out ⟨_, rfl, HI3.out⟩ (by exact HB.out.size) (by intro k hk; exact (HRL.out k hk).2) #[.slice (some ⟨g3, 0, none⟩) ps.length cap3] rfl _ rfl ?c6 ?c2 ?c3 ?c5 ?_)
      case c2 => rw [HTL.out]; unfold maxLen; omega
      case c3 => rw [HTL.out]; omega
      case c5 => have := HB.out.size; have := HB3.out.size; omega
      case c6 => rfl
      intro v2 w4 hR2 hg
      have hb4 := (HRR.out.below HB3.out).grownKeep (HB.out.trans (HB3.out.mono HB.out.size)) hg (Nat.le_refl _) (by have := HB.out.size; have := HB3.out.size; omega)
      rw [← List.take_succ_of HP.out] at hR2
      have HB4 := Lib.hid hb4
      clear hg hb4 d0
      go_wp2_with fail
      go_roundw
      case rel => exact ⟨j + 1, by omega, by go_num, hR2, HB4⟩
      case measure => simp [intOf]; omega
    · obtain rfl : j = n := by omega
      have hle : pss.take j = pss := List.take_of_length_le (by have := HNE.out.1; omega)
      rw [hle] at hR
      have HR := Lib.hid hR
      clear hR hle hlt
      go_wp2_with fail
      go_ret
      exact ⟨_, rfl, HR.out, HB.out⟩
end Go.Proofs.YtjbjjphgnilhmaaGreatDoor
