/- The walk of writeLineString. -/
import Derived.Test.YtjbjjphgnilhmaaGreatDoorDe
set_option linter.unusedVariables false
set_option linter.unusedSimpArgs false
namespace Go.Proofs.YtjbjjphgnilhmaaGreatDoor
open Go.RowKit

/-- What is known lies ahead of a block. -/
def Lies (B : Nat) (H : Knows) (w : World) : Prop := ∀ b o, H b o → b < B ∧ w.heap[b]? = some o
theorem Lies.below {B : Nat} {H : Knows} {w w' : World} (h : Lies B H w) (hb : Below B w w') : Lies B H w' := fun b o hk => ⟨(h b o hk).1, (hb.block b (h b o hk).1).trans (h b o hk).2⟩
theorem Lies.has {B : Nat} {H : Knows} {w : World} (h : Lies B H w) : Has 0 H w := fun b o hk => ⟨Nat.zero_le _, (h b o hk).2⟩
theorem flat_pts (le : Bool) (l : List By.Pt) : (l.flatMap (By.encPt le)).length = 16 * l.length := By.flat_length _ 16 l fun p _ => By.encPt_length le p
theorem flat_snoc {α : Type} (F : α → By.Bs) {l : List α} {j : Nat} {x : α} (h : l[j]? = some x) : (l.take (j + 1)).flatMap F = (l.take j).flatMap F ++ F x := by
  rw [List.take_succ_of h, List.flatMap_append]; simp

set_option maxRecDepth 100000 in
set_option maxHeartbeats 2000000 in
theorem wl_any {E0 : TypeId} (E : Enr) (v : Value) (ps : List By.Pt) (K : Knows) (l : By.Bs) (ws : List Value) (w : World) (h : EncW E w l ws) (hv : rowIs repPt E0 K v ps) (hL : Lies E.B K w) (hok : By.OkL ps) (hn0 : ps.length ≤ 2147483647) (hfit0 : l.length + 8 + 16 * ps.length ≤ E.S.cap) :
    Calls Tryz.prog 77 #[.pointer (some ⟨E.en, 0, none⟩), v, .int .i64 0] w fun e w' => e = .returned .nilIface ∧ (∃ ws', EncW E w' (l ++ (By.spell E.le 4 2 ++ By.encPts E.le ps)) ws') ∧ Below E.B w w' := by
  obtain ⟨g, cap, rfl, hcap⟩ := RowIs.form hv
  obtain ⟨n, hne⟩ : ∃ n, n = ps.length := ⟨_, rfl⟩
  have two : ((2 : Nat) : Int) = 2 := rfl
  have hcall : Calls Tryz.prog 91 #[.pointer (some ⟨E.en, 0, none⟩), .int .u32 2, .int .i64 ps.length, .int .i64 0] w _ := two ▸ wtp_any E 2 ps.length l ws w h (by omega) hn0 (by omega)
  have HV := Lib.hid hv
  have HL := Lib.hid hL
  have HOK := Lib.hid hok
  have HNE := Lib.hid hne
  rw [← hne] at hcap hn0 hfit0 hcall ⊢
  have hn1 := nil_write
  have hn2 := method_write
  have hk := call_bits
  clear h hv hL hok hne two
  go_enter Tryz.func77, Tryz.ntmps77
  go_wp2_with fail
  refine hcall.mono ?_
  rintro e w1 ⟨rfl, hE, hb⟩
  have H0 := Lib.hid (⟨hE, hb⟩ : _ ∧ _)
  clear hE hb hcall
  go_wp2_with fail
  go_loopw [20] (fun jv wr => ∃ (j : Nat), j ≤ n ∧ jv = .int .i64 j ∧ Hid (∃ ws', EncW E wr ((l ++ (By.spell E.le 4 2 ++ By.spell E.le 4 n)) ++ (ps.take j).flatMap (By.encPt E.le)) ws') ∧ Hid (Below E.B w wr)) (fun jv _ => n - (intOf jv).toNat)
  case atStart => exact ⟨0, Nat.zero_le _, rfl, Lib.hid (by rw [List.take_zero, List.flatMap_nil, List.append_nil]; exact H0.out.1), Lib.hid H0.out.2⟩
  case round =>
    clear H0
    obtain ⟨j, hj, rfl, HE, HB⟩ := hrel
    by_cases hlt : j < n
    · have hp : ps[j]? = some (ps[j]'(by have := HNE.out; omega)) := List.getElem?_eq_getElem (by have := HNE.out; omega)
      obtain ⟨p, hpe⟩ : ∃ p, p = ps[j]'(by have := HNE.out; omega) := ⟨_, rfl⟩
      rw [← hpe] at hp
      have OK := Lib.hid (HOK.out.2 p (List.mem_of_getElem? hp))
      obtain ⟨d0, d1⟩ := pts_at HV.out (HL.out.below HB.out).has j p hp
      have HP := Lib.hid hp
      obtain ⟨ws1, hE⟩ := HE.out
      have hfit : ((l ++ (By.spell E.le 4 2 ++ By.spell E.le 4 n)) ++ (ps.take j).flatMap (By.encPt E.le)).length + 16 ≤ E.S.cap := by
        rw [List.length_append, flat_pts, List.length_take, List.length_append, List.length_append, By.spell_length, By.spell_length, Nat.min_eq_left (by have := HNE.out; omega)]
        omega
      obtain ⟨L, hLe⟩ : ∃ L, L = (l ++ (By.spell E.le 4 2 ++ By.spell E.le 4 n)) ++ (ps.take j).flatMap (By.encPt E.le) := ⟨_, rfl⟩
      rw [← hLe] at hE hfit
      have HLE := Lib.hid hLe
      have hjn : (j : Int) < n := by omega
      clear hpe hp HE hLe
      obtain ⟨W0, hW0⟩ : ∃ W, W = wr.alloc (.cells #[.float .f64 p.1, .float .f64 p.2] 68) := ⟨_, rfl⟩
      have b0 : Below wr.heap.size wr W0 := by rw [hW0]; exact (Below.refl _ _).alloc (Nat.le_refl _) _
      have q0 : Blk W0 wr.heap.size #[.float .f64 p.1, .float .f64 p.2] 68 := by rw [hW0]; exact Blk.new wr _ _
      have hbl : E.B ≤ wr.heap.size := by have := hE.base.2.2.2; have := hE.work.lt; omega
      have H := Lib.hid (⟨hE.below b0, HB.out.trans (b0.mono hbl)⟩ : EncW E W0 _ ws1 ∧ Below E.B w W0)
      have P := Lib.hid (⟨q0, by have := hE.work.lt; omega⟩ : Blk W0 wr.heap.size #[.float .f64 p.1, .float .f64 p.2] 68 ∧ wr.heap.size ≠ E.wb)
      have HW0 := Lib.hid hW0
      have hlen := hE.len
      clear hE b0 q0 hW0 hbl HB
      go_wp2_with fail
      rw [← HW0.out]
      have hcells := H.out.1.cells
      obtain ⟨c0, c1, c2⟩ := hcells
      obtain ⟨p0, _⟩ := P.out.1.cell (i := 0) (v := .float .f64 p.1) rfl
      obtain ⟨p1, _⟩ := P.out.1.cell (i := 1) (v := .float .f64 p.2) rfl
      have HC := Lib.hid (p64_any E.le E.wb 0 16 16 p.1 ws1 W0.drew (H.out.1.drewN 1).work (by rw [hlen]; omega) (by omega) (by omega) OK.out.1)
      go_wp2_with fail
      go_region_held3 (fun w' => w'.cell? ⟨E.en, 0, none⟩ = some (.slice (some ⟨E.wb, 0, none⟩) 16 16) ∧ w'.cell? ⟨E.en, 1, none⟩ = some (.iface 88 (.pointer (some ⟨E.S.bb, 0, none⟩))) ∧ w'.cell? ⟨E.en, 2, none⟩ = some (bo E.le) ∧ w'.cell? ⟨wr.heap.size, 0, none⟩ = some (.float .f64 p.1) ∧ w'.cell? ⟨wr.heap.size, 1, none⟩ = some (.float .f64 p.2)) (first | exact ⟨c0, c1, c2, p0, p1⟩ | exact ⟨h2.1.cells.1, h2.1.cells.2.1, h2.1.cells.2.2, hq0, hq1⟩) ((go_at_call 90; refine Calls.mono HC.out ?_; rintro e w3 ⟨rfl, hp⟩; have h2 := (H.out.1.drewN 1).put hp (by rw [By.spell_length]; omega); have hq0 := hp.2.cell (w := W0.drew) (show W0.drew.cell? ⟨wr.heap.size, 0, none⟩ = _ from p0) P.out.2; have hq1 := hp.2.cell (w := W0.drew) (show W0.drew.cell? ⟨wr.heap.size, 1, none⟩ = _ from p1) P.out.2))
      have H2 := Lib.hid (⟨h2.1, H.out.2.trans (below_un2 (q := 1) h2.2)⟩ : _ ∧ _)
      have hpk : Blk w3 wr.heap.size #[.float .f64 p.1, .float .f64 p.2] 68 := (hp.2.block wr.heap.size P.out.1.lt P.out.2).trans P.out.1
      have P2 := Lib.hid (⟨hpk, P.out.2⟩ : _ ∧ wr.heap.size ≠ E.wb)
      clear hpk
      clear hp hq0 hq1 P H HC c0 c1 c2 h2 p0 p1
      have H := H2
      clear H2
      have P := P2
      clear P2
      have hcells := H.out.1.cells
      obtain ⟨c0, c1, c2⟩ := hcells
      obtain ⟨p0, _⟩ := P.out.1.cell (i := 0) (v := .float .f64 p.1) rfl
      obtain ⟨p1, _⟩ := P.out.1.cell (i := 1) (v := .float .f64 p.2) rfl
      have HC := Lib.hid (p64_any E.le E.wb 8 8 8 p.2 (splice ws1 0 ((By.spell E.le 8 p.1).map byteV)) w3.drew (H.out.1.drewN 1).work (by rw [H.out.1.len]; omega) (by omega) (by omega) OK.out.2)
      go_wp2_with fail
      go_region_held3 (fun w' => w'.cell? ⟨E.en, 0, none⟩ = some (.slice (some ⟨E.wb, 0, none⟩) 16 16) ∧ w'.cell? ⟨E.en, 1, none⟩ = some (.iface 88 (.pointer (some ⟨E.S.bb, 0, none⟩))) ∧ w'.cell? ⟨E.en, 2, none⟩ = some (bo E.le) ∧ w'.cell? ⟨wr.heap.size, 0, none⟩ = some (.float .f64 p.1) ∧ w'.cell? ⟨wr.heap.size, 1, none⟩ = some (.float .f64 p.2)) (first | exact ⟨c0, c1, c2, p0, p1⟩ | exact ⟨h2.1.cells.1, h2.1.cells.2.1, h2.1.cells.2.2, hq0, hq1⟩) ((go_at_call 90; refine Calls.mono HC.out ?_; rintro e w4 ⟨rfl, hp⟩; have h2 := (H.out.1.drewN 1).more (By.spell_length _ _ _) hp (by rw [By.spell_length]; omega) hlen; have hq0 := hp.2.cell (w := w3.drew) (show w3.drew.cell? ⟨wr.heap.size, 0, none⟩ = _ from p0) P.out.2; have hq1 := hp.2.cell (w := w3.drew) (show w3.drew.cell? ⟨wr.heap.size, 1, none⟩ = _ from p1) P.out.2))
      have H2 := Lib.hid (⟨h2.1, H.out.2.trans (below_un2 (q := 1) h2.2)⟩ : _ ∧ _)
      clear hp hq0 hq1 P H HC c0 c1 c2 h2 p0 p1
      have H := H2
      clear H2
      have hcells := H.out.1.cells
      obtain ⟨c0, c1, c2⟩ := hcells
      have HC := Lib.hid ((show EncW _ w4.drew _ _ from H.out.1.drewN 1).write 16 16 (by rw [List.length_append, By.spell_length, By.spell_length]) (by omega) hfit)
      go_wp2_with fail
      go_region_held3 (fun w' => w'.cell? ⟨E.en, 0, none⟩ = some (.slice (some ⟨E.wb, 0, none⟩) 16 16) ∧ w'.cell? ⟨E.en, 1, none⟩ = some (.iface 88 (.pointer (some ⟨E.S.bb, 0, none⟩))) ∧ w'.cell? ⟨E.en, 2, none⟩ = some (bo E.le)) (first | exact ⟨c0, c1, c2⟩ | exact h2.1.cells) ((go_at_call 142; refine Calls.mono HC.out ?_; rintro e w5 ⟨rfl, h2⟩))
      have H2 := Lib.hid (⟨h2.1, H.out.2.trans (below_un2 (q := 1) h2.2)⟩ : _ ∧ _)
      clear  H HC c0 c1 c2 h2
      have H := H2
      clear H2
      go_wp2_with fail
      go_roundw
      case rel =>
        have h5 : EncW E w5 (L ++ By.encPt E.le p) _ := H.out.1
        rw [HLE.out, List.append_assoc, ← flat_snoc _ HP.out] at h5
        exact ⟨j + 1, by omega, by go_num, Lib.hid ⟨_, h5⟩, Lib.hid H.out.2⟩
      case measure => simp [intOf]; omega
    · obtain rfl : j = n := by omega
      have hle : ps.take j = ps := List.take_of_length_le (by have := HNE.out; omega)
      rw [hle] at HE
      clear hle hlt
      go_wp2_with fail
      go_ret
      obtain ⟨ws1, hE⟩ := HE.out
      rw [By.encPts, ← HNE.out, ← List.append_assoc (By.spell E.le 4 2), ← List.append_assoc l]
      exact ⟨rfl, ⟨_, hE⟩, HB.out⟩
end Go.Proofs.YtjbjjphgnilhmaaGreatDoor
