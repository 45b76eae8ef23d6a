/- The walk of writePolygon. -/
import Derived.Test.YtjbjjphgnilhmaaGreatDoorDf
set_option linter.unusedVariables false
set_option linter.unusedSimpArgs false
namespace Go.Proofs.YtjbjjphgnilhmaaGreatDoor
open Go.RowKit

theorem flat_room {α : Type} (F : α → By.Bs) {l : List α} {j : Nat} {x : α} (h : l[j]? = some x) : ((l.take j).flatMap F).length + (F x).length ≤ (l.flatMap F).length := by
  have e : l.flatMap F = (l.take (j + 1)).flatMap F ++ (l.drop (j + 1)).flatMap F := by rw [← List.flatMap_append, List.take_append_drop]
  rw [e, flat_snoc F h, List.length_append, List.length_append]
  omega

set_option maxRecDepth 100000 in
set_option maxHeartbeats 4000000 in
theorem wpg_any {E0 E1 : TypeId} (E : Enr) (v : Value) (pss : List (List By.Pt)) (K : Knows) (l : By.Bs) (ws : List Value) (w : World) (h : EncW E w l ws) (hv : rowIs (repRow repPt E0) E1 K v pss) (hL : Lies E.B K w) (hok : ∀ r ∈ pss, By.OkL r) (hn0 : pss.length ≤ 2147483647) (hm : ∀ r ∈ pss, r.length ≤ 2147483647) (hfit0 : l.length + 8 + (pss.flatMap (By.encPts E.le)).length ≤ E.S.cap) :
    Calls Tryz.prog 79 #[.pointer (some ⟨E.en, 0, none⟩), v, .int .i64 0] w fun e w' => e = .returned .nilIface ∧ (∃ ws', EncW E w' (l ++ (By.spell E.le 4 3 ++ By.encRings E.le pss)) ws') ∧ Below E.B w w' := by
  obtain ⟨g, cap, rfl, hcap⟩ := RowIs.form hv
  obtain ⟨n, hne⟩ : ∃ n, n = pss.length := ⟨_, rfl⟩
  obtain ⟨T, hT⟩ : ∃ T, T = (pss.flatMap (By.encPts E.le)).length := ⟨_, rfl⟩
  have three : ((3 : Nat) : Int) = 3 := rfl
  have hcall : Calls Tryz.prog 91 #[.pointer (some ⟨E.en, 0, none⟩), .int .u32 3, .int .i64 pss.length, .int .i64 0] w _ := three ▸ wtp_any E 3 pss.length l ws w h (by omega) hn0 (by omega)
  have HV := Lib.hid hv
  have HL := Lib.hid hL
  have HOK := Lib.hid (⟨hok, hm⟩ : _ ∧ _)
  have HNE := Lib.hid (⟨hne, hT⟩ : _ ∧ _)
  rw [← hne] at hcap hn0 hcall ⊢
  rw [← hT] at hfit0
  have hn1 := nil_write
  have hn2 := method_write
  have hk := call_bits
  clear h hv hL hok hne three hT hm
  go_enter Tryz.func79, Tryz.ntmps79
  go_wp2_with fail
  refine hcall.mono ?_
  rintro e w1 ⟨rfl, hE, hb⟩
  have H0 := Lib.hid (⟨hE, hb⟩ : _ ∧ _)
  clear hE hb hcall
  go_wp2_with fail
  go_loopw [24] (fun jv wr => ∃ (j : Nat), j ≤ n ∧ jv = .int .i64 j ∧ Hid (∃ ws', EncW E wr ((l ++ (By.spell E.le 4 3 ++ By.spell E.le 4 n)) ++ (pss.take j).flatMap (By.encPts E.le)) ws') ∧ Hid (Below E.B w wr)) (fun jv _ => n - (intOf jv).toNat)
  case atStart => exact ⟨0, Nat.zero_le _, rfl, Lib.hid (by rw [List.take_zero, List.flatMap_nil, List.append_nil]; exact H0.out.1), Lib.hid H0.out.2⟩
  case round =>
    clear H0
    obtain ⟨j, hj, rfl, HE, HB⟩ := hrel
    by_cases hlt : j < n
    · have hps : pss[j]? = some (pss[j]'(by have := HNE.out.1; omega)) := List.getElem?_eq_getElem (by have := HNE.out.1; omega)
      obtain ⟨ps, hpe⟩ : ∃ ps, ps = pss[j]'(by have := HNE.out.1; omega) := ⟨_, rfl⟩
      rw [← hpe] at hps
      obtain ⟨x, d0, hx⟩ := rows_at HV.out (HL.out.below HB.out).has j ps hps
      obtain ⟨g2, cap2, rfl, hcap2⟩ := RowIs.form hx
      obtain ⟨m, hme⟩ : ∃ m, m = ps.length := ⟨_, rfl⟩
      have hm31 := HOK.out.2 ps (List.mem_of_getElem? hps)
      have OKL := Lib.hid (HOK.out.1 ps (List.mem_of_getElem? hps))
      have HPS := Lib.hid hps
      have HX := Lib.hid hx
      obtain ⟨ws0, hE⟩ := HE.out
      have hroom := flat_room (By.encPts E.le) hps
      rw [← HNE.out.2, By.encPts_length, ← hme] at hroom
      have hlL : (l ++ (By.spell E.le 4 3 ++ By.spell E.le 4 n) ++ (pss.take j).flatMap (By.encPts E.le)).length = l.length + 8 + ((pss.take j).flatMap (By.encPts E.le)).length := by
        rw [List.length_append, List.length_append, List.length_append, By.spell_length, By.spell_length]
      obtain ⟨L, hLe⟩ : ∃ L, L = (l ++ (By.spell E.le 4 3 ++ By.spell E.le 4 n)) ++ (pss.take j).flatMap (By.encPts E.le) := ⟨_, rfl⟩
      rw [← hLe] at hE hlL
      have hfitL : L.length + 4 + 16 * m ≤ E.S.cap := by omega
      have HLE := Lib.hid hLe
      have HME := Lib.hid hme
      rw [← hme] at d0 hcap2 hm31
      have hjn : (j : Int) < n := by omega
      have HWR := Lib.hid (show IntKind.u32.wrap (m : Int) = (m : Int) from IntWalk.u32_in _ (by omega))
      have hlen0 := hE.len
      have H := Lib.hid (⟨hE, HB.out⟩ : EncW E wr L ws0 ∧ Below E.B w wr)
      clear hpe hps HE hLe hx hE hroom hlL HB hme
      go_wp2_with fail
      have hcells := H.out.1.cells
      obtain ⟨c0, c1, c2⟩ := hcells
      have HC := Lib.hid (p32_any E.le E.wb 0 16 16 m ws0 wr.drew (H.out.1.drewN 1).work (by rw [hlen0]; omega) (by omega) (by omega))
      go_wp2_with fail
      go_region_held3 (fun w' => w'.cell? ⟨E.en, 0, none⟩ = some (.slice (some ⟨E.wb, 0, none⟩) 16 16) ∧ w'.cell? ⟨E.en, 1, none⟩ = some (.iface 88 (.pointer (some ⟨E.S.bb, 0, none⟩))) ∧ w'.cell? ⟨E.en, 2, none⟩ = some (bo E.le)) (first | exact ⟨c0, c1, c2⟩ | exact h2.1.cells) ((go_at_call 89; rw [HWR.out]; refine Calls.mono HC.out ?_; rintro e x1 ⟨rfl, hp⟩; have h2 := (H.out.1.drewN 1).put hp (by rw [By.spell_length]; omega)))
      have H2 := Lib.hid (⟨h2.1, H.out.2.trans (below_un2 (q := 1) h2.2)⟩ : _ ∧ _)
      clear hp H HC c0 c1 c2 h2
      have H := H2
      clear H2
      have hcells := H.out.1.cells
      obtain ⟨c0, c1, c2⟩ := hcells
      have HC := Lib.hid ((show EncW _ x1.drew _ _ from H.out.1.drewN 1).write 4 16 (By.spell_length _ _ _) (by omega) (by omega))
      go_wp2_with fail
      go_region_held3 (fun w' => w'.cell? ⟨E.en, 0, none⟩ = some (.slice (some ⟨E.wb, 0, none⟩) 16 16) ∧ w'.cell? ⟨E.en, 1, none⟩ = some (.iface 88 (.pointer (some ⟨E.S.bb, 0, none⟩))) ∧ w'.cell? ⟨E.en, 2, none⟩ = some (bo E.le)) (first | exact ⟨c0, c1, c2⟩ | exact h2.1.cells) ((go_at_call 142; refine Calls.mono HC.out ?_; rintro e x2 ⟨rfl, h2⟩))
      have H2 := Lib.hid (⟨h2.1, H.out.2.trans (below_un2 (q := 1) h2.2)⟩ : _ ∧ _)
      clear  H HC c0 c1 c2 h2
      have H := H2
      clear H2
      have H1 := H
      clear H hlen0
      go_wp2_with fail
      go_loopw [60] (fun iv xr => ∃ (i : Nat), i ≤ m ∧ iv = .int .i64 i ∧ Hid (∃ ws', EncW E xr ((L ++ By.spell E.le 4 m) ++ (ps.take i).flatMap (By.encPt E.le)) ws') ∧ Hid (Below E.B w xr)) (fun iv _ => m - (intOf iv).toNat)
      case atStart => exact ⟨0, Nat.zero_le _, rfl, Lib.hid (by rw [List.take_zero, List.flatMap_nil, List.append_nil]; exact ⟨_, H1.out.1⟩), Lib.hid H1.out.2⟩
      case round =>
        clear H1
        obtain ⟨i, hi, rfl, HE, HB⟩ := hrel
        by_cases hlt2 : i < m
        · have hp : ps[i]? = some (ps[i]'(by have := HME.out; omega)) := List.getElem?_eq_getElem (by have := HME.out; omega)
          obtain ⟨p, hpe⟩ : ∃ p, p = ps[i]'(by have := HME.out; omega) := ⟨_, rfl⟩
          rw [← hpe] at hp
          have OK := Lib.hid (OKL.out.2 p (List.mem_of_getElem? hp))
          obtain ⟨e0, e1⟩ := pts_at HX.out (HL.out.below HB.out).has i p hp
          have HP := Lib.hid hp
          obtain ⟨ws1, hE⟩ := HE.out
          have hfit : ((L ++ By.spell E.le 4 m) ++ (ps.take i).flatMap (By.encPt E.le)).length + 16 ≤ E.S.cap := by
            rw [List.length_append, flat_pts, List.length_take, List.length_append, By.spell_length, Nat.min_eq_left (by have := HME.out; omega)]
            omega
          obtain ⟨L2, hLe⟩ : ∃ L2, L2 = (L ++ By.spell E.le 4 m) ++ (ps.take i).flatMap (By.encPt E.le) := ⟨_, rfl⟩
          rw [← hLe] at hE hfit
          have HLE2 := Lib.hid hLe
          have him : (i : Int) < m := by omega
          clear hpe hp HE hLe
          obtain ⟨W0, hW0⟩ : ∃ W, W = wr.alloc (.cells #[.float .f64 p.1, .float .f64 p.2] 68) := ⟨_, rfl⟩
          have b0 : Below wr.heap.size wr W0 := by rw [hW0]; exact (Below.refl _ _).alloc (Nat.le_refl _) _
          have q0 : Blk W0 wr.heap.size #[.float .f64 p.1, .float .f64 p.2] 68 := by rw [hW0]; exact Blk.new wr _ _
          have hbl : E.B ≤ wr.heap.size := by have := hE.base.2.2.2; have := hE.work.lt; omega
          have H := Lib.hid (⟨hE.below b0, HB.out.trans (b0.mono hbl)⟩ : EncW E W0 _ ws1 ∧ Below E.B w W0)
          have P := Lib.hid (⟨q0, by have := hE.work.lt; omega⟩ : Blk W0 wr.heap.size #[.float .f64 p.1, .float .f64 p.2] 68 ∧ wr.heap.size ≠ E.wb)
          have HW0 := Lib.hid hW0
          have hlen := hE.len
          clear hE b0 q0 hW0 hbl HB
          go_wp2_with fail
          rw [← HW0.out]
          have hcells := H.out.1.cells
          obtain ⟨c0, c1, c2⟩ := hcells
          obtain ⟨p0, _⟩ := P.out.1.cell (i := 0) (v := .float .f64 p.1) rfl
          obtain ⟨p1, _⟩ := P.out.1.cell (i := 1) (v := .float .f64 p.2) rfl
          have HC := Lib.hid (p64_any E.le E.wb 0 16 16 p.1 ws1 W0.drew (H.out.1.drewN 1).work (by rw [hlen]; omega) (by omega) (by omega) OK.out.1)
          go_wp2_with fail
          go_region_held3 (fun w' => w'.cell? ⟨E.en, 0, none⟩ = some (.slice (some ⟨E.wb, 0, none⟩) 16 16) ∧ w'.cell? ⟨E.en, 1, none⟩ = some (.iface 88 (.pointer (some ⟨E.S.bb, 0, none⟩))) ∧ w'.cell? ⟨E.en, 2, none⟩ = some (bo E.le) ∧ w'.cell? ⟨wr.heap.size, 0, none⟩ = some (.float .f64 p.1) ∧ w'.cell? ⟨wr.heap.size, 1, none⟩ = some (.float .f64 p.2)) (first | exact ⟨c0, c1, c2, p0, p1⟩ | exact ⟨h2.1.cells.1, h2.1.cells.2.1, h2.1.cells.2.2, hq0, hq1⟩) ((go_at_call 90; refine Calls.mono HC.out ?_; rintro e w3 ⟨rfl, hp⟩; have h2 := (H.out.1.drewN 1).put hp (by rw [By.spell_length]; omega); have hq0 := hp.2.cell (w := W0.drew) (show W0.drew.cell? ⟨wr.heap.size, 0, none⟩ = _ from p0) P.out.2; have hq1 := hp.2.cell (w := W0.drew) (show W0.drew.cell? ⟨wr.heap.size, 1, none⟩ = _ from p1) P.out.2))
          have H2 := Lib.hid (⟨h2.1, H.out.2.trans (below_un2 (q := 1) h2.2)⟩ : _ ∧ _)
          have hpk : Blk w3 wr.heap.size #[.float .f64 p.1, .float .f64 p.2] 68 := (hp.2.block wr.heap.size P.out.1.lt P.out.2).trans P.out.1
          have P2 := Lib.hid (⟨hpk, P.out.2⟩ : _ ∧ wr.heap.size ≠ E.wb)
          clear hpk
          clear hp hq0 hq1 P H HC c0 c1 c2 h2 p0 p1
          have H := H2
          clear H2
          have P := P2
          clear P2
          have hcells := H.out.1.cells
          obtain ⟨c0, c1, c2⟩ := hcells
          obtain ⟨p0, _⟩ := P.out.1.cell (i := 0) (v := .float .f64 p.1) rfl
          obtain ⟨p1, _⟩ := P.out.1.cell (i := 1) (v := .float .f64 p.2) rfl
          have HC := Lib.hid (p64_any E.le E.wb 8 8 8 p.2 (splice ws1 0 ((By.spell E.le 8 p.1).map byteV)) w3.drew (H.out.1.drewN 1).work (by rw [H.out.1.len]; omega) (by omega) (by omega) OK.out.2)
          go_wp2_with fail
          go_region_held3 (fun w' => w'.cell? ⟨E.en, 0, none⟩ = some (.slice (some ⟨E.wb, 0, none⟩) 16 16) ∧ w'.cell? ⟨E.en, 1, none⟩ = some (.iface 88 (.pointer (some ⟨E.S.bb, 0, none⟩))) ∧ w'.cell? ⟨E.en, 2, none⟩ = some (bo E.le) ∧ w'.cell? ⟨wr.heap.size, 0, none⟩ = some (.float .f64 p.1) ∧ w'.cell? ⟨wr.heap.size, 1, none⟩ = some (.float .f64 p.2)) (first | exact ⟨c0, c1, c2, p0, p1⟩ | exact ⟨h2.1.cells.1, h2.1.cells.2.1, h2.1.cells.2.2, hq0, hq1⟩) ((go_at_call 90; refine Calls.mono HC.out ?_; rintro e w4 ⟨rfl, hp⟩; have h2 := (H.out.1.drewN 1).more (By.spell_length _ _ _) hp (by rw [By.spell_length]; omega) hlen; have hq0 := hp.2.cell (w := w3.drew) (show w3.drew.cell? ⟨wr.heap.size, 0, none⟩ = _ from p0) P.out.2; have hq1 := hp.2.cell (w := w3.drew) (show w3.drew.cell? ⟨wr.heap.size, 1, none⟩ = _ from p1) P.out.2))
          have H2 := Lib.hid (⟨h2.1, H.out.2.trans (below_un2 (q := 1) h2.2)⟩ : _ ∧ _)
          clear hp hq0 hq1 P H HC c0 c1 c2 h2 p0 p1
          have H := H2
          clear H2
          have hcells := H.out.1.cells
          obtain ⟨c0, c1, c2⟩ := hcells
          have HC := Lib.hid ((show EncW _ w4.drew _ _ from H.out.1.drewN 1).write 16 16 (by rw [List.length_append, By.spell_length, By.spell_length]) (by omega) hfit)
          go_wp2_with fail
          go_region_held3 (fun w' => w'.cell? ⟨E.en, 0, none⟩ = some (.slice (some ⟨E.wb, 0, none⟩) 16 16) ∧ w'.cell? ⟨E.en, 1, none⟩ = some (.iface 88 (.pointer (some ⟨E.S.bb, 0, none⟩))) ∧ w'.cell? ⟨E.en, 2, none⟩ = some (bo E.le)) (first | exact ⟨c0, c1, c2⟩ | exact h2.1.cells) ((go_at_call 142; refine Calls.mono HC.out ?_; rintro e w5 ⟨rfl, h2⟩))
          have H2 := Lib.hid (⟨h2.1, H.out.2.trans (below_un2 (q := 1) h2.2)⟩ : _ ∧ _)
          clear  H HC c0 c1 c2 h2
          have H := H2
          clear H2
          go_wp2_with fail
          go_roundw
          case rel =>
            have h5 : EncW E w5 (L2 ++ By.encPt E.le p) _ := H.out.1
            rw [HLE2.out, List.append_assoc, ← flat_snoc _ HP.out] at h5
            exact ⟨i + 1, by omega, by go_num, Lib.hid ⟨_, h5⟩, Lib.hid H.out.2⟩
          case measure => simp [intOf]; omega
        · obtain rfl : i = m := by omega
          have hle : ps.take i = ps := List.take_of_length_le (by have := HME.out; omega)
          rw [hle] at HE
          clear hle hlt2 d0
          go_wp2_with fail
          go_roundw
          case rel =>
            obtain ⟨ws1, h5⟩ := HE.out
            rw [HLE.out, List.append_assoc, List.append_assoc, show By.spell E.le 4 i ++ ps.flatMap (By.encPt E.le) = By.encPts E.le ps from by rw [By.encPts, ← HME.out], ← flat_snoc _ HPS.out] at h5
            exact ⟨j + 1, by omega, by go_num, Lib.hid ⟨_, h5⟩, Lib.hid HB.out⟩
          case measure => simp [intOf]; omega
    · obtain rfl : j = n := by omega
      have hle : pss.take j = pss := List.take_of_length_le (by have := HNE.out.1; omega)
      rw [hle] at HE
      clear hle hlt
      go_wp2_with fail
      go_ret
      obtain ⟨ws1, hE⟩ := HE.out
      rw [By.encRings, ← HNE.out.1, ← List.append_assoc (By.spell E.le 4 3), ← List.append_assoc l]
      exact ⟨rfl, ⟨_, hE⟩, HB.out⟩
end Go.Proofs.YtjbjjphgnilhmaaGreatDoor
