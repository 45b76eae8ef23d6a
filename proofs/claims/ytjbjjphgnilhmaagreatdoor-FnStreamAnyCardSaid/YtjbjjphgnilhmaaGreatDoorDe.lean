/- The walk of writePoint. -/
import Derived.Test.YtjbjjphgnilhmaaGreatDoorDd
set_option linter.unusedVariables false
set_option linter.unusedSimpArgs false
namespace Go.Proofs.YtjbjjphgnilhmaaGreatDoor
open Go.RowKit

theorem EncW.writeK {E : Enr} {w : World} {l a : By.Bs} {ws : List Value} (h : EncW E w l (splice ws 0 (a.map byteV))) (k c : Nat) (ha : a.length = k) (hk : 1 ≤ k) (hf : l.length + k ≤ E.S.cap) :
    Calls Tryz.prog 142 #[.pointer (some ⟨E.S.bb, 0, none⟩), .slice (some ⟨E.wb, 0, none⟩) k c] w fun e w' => e = .returned (.tuple #[.int .i64 k, .nilIface]) ∧ (EncW E w' (l ++ a) (splice ws 0 (a.map byteV)) ∧ Below E.B w w') ∧ Kept (fun i => i = E.S.bb ∨ i = E.S.db) w w' :=
  (write_any E.S l a E.wb 0 k c w h.hold ha hk hf h.ready h.apart.2.2.1 h.apart.2.2.2.1).mono fun e w' he => ⟨he.1, h.wrote he.2.1 he.2.2, he.2.2⟩

set_option maxRecDepth 100000 in
set_option maxHeartbeats 2000000 in
theorem wp_any (E : Enr) (p : By.Pt) (l : By.Bs) (ws : List Value) (w : World) (h : EncW E w l ws) (hok : By.OkP p) (hfit0 : l.length + 20 ≤ E.S.cap) :
    Calls Tryz.prog 75 #[.pointer (some ⟨E.en, 0, none⟩), .agg #[.float .f64 p.1, .float .f64 p.2], .int .i64 0] w fun e w' => e = .returned .nilIface ∧ (∃ ws', EncW E w' (l ++ (By.spell E.le 4 1 ++ By.encPt E.le p)) ws') ∧ Below E.B w w' := by
  have hlen0 := h.len
  obtain ⟨W0, hW0⟩ : ∃ W, W = w.alloc (.cells #[.float .f64 p.1, .float .f64 p.2] 68) := ⟨_, rfl⟩
  have b0 : Below w.heap.size w W0 := by rw [hW0]; exact (Below.refl _ _).alloc (Nat.le_refl _) _
  have q0 : Blk W0 w.heap.size #[.float .f64 p.1, .float .f64 p.2] 68 := by rw [hW0]; exact Blk.new w _ _
  have hbl : E.B ≤ w.heap.size := by have := h.base.2.2.2; have := h.work.lt; omega
  have H := Lib.hid (⟨h.below b0, b0.mono hbl⟩ : EncW E W0 l ws ∧ Below E.B w W0)
  have P := Lib.hid (⟨q0, by have := h.work.lt; omega⟩ : Blk W0 w.heap.size #[.float .f64 p.1, .float .f64 p.2] 68 ∧ w.heap.size ≠ E.wb)
  have OK := Lib.hid hok
  have HBD := Lib.hid (⟨by have := h.hold.buf.lt; omega, by obtain ⟨_, _, _, hd⟩ := h.hold.data; have := hd.lt; omega⟩ : w.heap.size ≠ E.S.bb ∧ w.heap.size ≠ E.S.db)
  have HW0 := Lib.hid hW0
  have hn1 := nil_write
  have hn2 := method_write
  have hk := call_bits
  have one : ((1 : Nat) : Int) = 1 := rfl
  clear h b0 q0 hW0 hok hbl
  go_enter Tryz.func75, Tryz.ntmps75
  go_wp2_with fail
  rw [← HW0.out]

  have hcells := H.out.1.cells
  obtain ⟨c0, c1, c2⟩ := hcells
  have HC := Lib.hid (one ▸ p32_any E.le E.wb 0 16 16 1 ws W0.drew (H.out.1.drewN 1).work (by rw [hlen0]; omega) (by omega) (by omega))
  go_wp2_with fail
  go_region_held3 (fun w' => w'.cell? ⟨E.en, 0, none⟩ = some (.slice (some ⟨E.wb, 0, none⟩) 16 16) ∧ w'.cell? ⟨E.en, 1, none⟩ = some (.iface 88 (.pointer (some ⟨E.S.bb, 0, none⟩))) ∧ w'.cell? ⟨E.en, 2, none⟩ = some (bo E.le)) (first | exact ⟨c0, c1, c2⟩ | exact h2.1.cells) ((go_at_call 89; refine Calls.mono HC.out ?_; rintro e w1 ⟨rfl, hp⟩; have h2 := (H.out.1.drewN 1).put hp (by rw [By.spell_length]; omega)))
  have H2 := Lib.hid (⟨h2.1, H.out.2.trans (below_un2 (q := 1) h2.2)⟩ : _ ∧ _)
  have hpk : Blk w1 w.heap.size #[.float .f64 p.1, .float .f64 p.2] 68 := (hp.2.block w.heap.size P.out.1.lt P.out.2).trans P.out.1
  have P2 := Lib.hid (⟨hpk, P.out.2⟩ : _ ∧ w.heap.size ≠ E.wb)
  clear hpk hp P
  clear one H HC c0 c1 c2 h2
  have P := P2
  clear P2
  have H := H2
  clear H2

  obtain ⟨ws1, hws1⟩ : ∃ x, x = splice ws 0 ((By.spell E.le 4 1).map byteV) := ⟨_, rfl⟩

  have hcells := H.out.1.cells
  obtain ⟨c0, c1, c2⟩ := hcells
  have HC := Lib.hid ((show EncW _ w1.drew _ _ from H.out.1.drewN 1).writeK 4 16 (By.spell_length _ _ _) (by omega) (by omega))
  go_wp2_with fail
  go_region_held3 (fun w' => w'.cell? ⟨E.en, 0, none⟩ = some (.slice (some ⟨E.wb, 0, none⟩) 16 16) ∧ w'.cell? ⟨E.en, 1, none⟩ = some (.iface 88 (.pointer (some ⟨E.S.bb, 0, none⟩))) ∧ w'.cell? ⟨E.en, 2, none⟩ = some (bo E.le)) (first | exact ⟨c0, c1, c2⟩ | exact h2.1.cells) ((go_at_call 142; refine Calls.mono HC.out ?_; rintro e w2 ⟨rfl, h2, hkp⟩))
  have H2 := Lib.hid (⟨h2.1, H.out.2.trans (below_un2 (q := 1) h2.2)⟩ : _ ∧ _)
  have hpk : Blk w2 w.heap.size #[.float .f64 p.1, .float .f64 p.2] 68 := (hkp.block w.heap.size P.out.1.lt (fun e => e.elim HBD.out.1 HBD.out.2)).trans P.out.1
  have P2 := Lib.hid (⟨hpk, P.out.2⟩ : _ ∧ w.heap.size ≠ E.wb)
  clear hpk hkp P
  clear  H HC c0 c1 c2 h2
  have P := P2
  clear P2
  have H := H2
  clear H2

  have hfit : (l ++ By.spell E.le 4 1).length + 16 ≤ E.S.cap := by rw [List.length_append, By.spell_length]; omega
  rw [← hws1] at H
  have hlen := H.out.1.len
  clear hws1

  have hcells := H.out.1.cells
  obtain ⟨c0, c1, c2⟩ := hcells
  obtain ⟨p0, _⟩ := P.out.1.cell (i := 0) (v := .float .f64 p.1) rfl
  obtain ⟨p1, _⟩ := P.out.1.cell (i := 1) (v := .float .f64 p.2) rfl
  have HC := Lib.hid (p64_any E.le E.wb 0 16 16 p.1 ws1 w2.drew (H.out.1.drewN 1).work (by rw [hlen]; omega) (by omega) (by omega) OK.out.1)
  go_wp2_with fail
  go_region_held3 (fun w' => w'.cell? ⟨E.en, 0, none⟩ = some (.slice (some ⟨E.wb, 0, none⟩) 16 16) ∧ w'.cell? ⟨E.en, 1, none⟩ = some (.iface 88 (.pointer (some ⟨E.S.bb, 0, none⟩))) ∧ w'.cell? ⟨E.en, 2, none⟩ = some (bo E.le) ∧ w'.cell? ⟨w.heap.size, 0, none⟩ = some (.float .f64 p.1) ∧ w'.cell? ⟨w.heap.size, 1, none⟩ = some (.float .f64 p.2)) (first | exact ⟨c0, c1, c2, p0, p1⟩ | exact ⟨h2.1.cells.1, h2.1.cells.2.1, h2.1.cells.2.2, hq0, hq1⟩) ((go_at_call 90; refine Calls.mono HC.out ?_; rintro e w3 ⟨rfl, hp⟩; have h2 := (H.out.1.drewN 1).put hp (by rw [By.spell_length]; omega); have hq0 := hp.2.cell (w := w2.drew) (show w2.drew.cell? ⟨w.heap.size, 0, none⟩ = _ from p0) P.out.2; have hq1 := hp.2.cell (w := w2.drew) (show w2.drew.cell? ⟨w.heap.size, 1, none⟩ = _ from p1) P.out.2))
  have H2 := Lib.hid (⟨h2.1, H.out.2.trans (below_un2 (q := 1) h2.2)⟩ : _ ∧ _)
  have hpk : Blk w3 w.heap.size #[.float .f64 p.1, .float .f64 p.2] 68 := (hp.2.block w.heap.size P.out.1.lt P.out.2).trans P.out.1
  have P2 := Lib.hid (⟨hpk, P.out.2⟩ : _ ∧ w.heap.size ≠ E.wb)
  clear hpk
  clear hp hq0 hq1 P H HC c0 c1 c2 h2 p0 p1
  have H := H2
  clear H2
  have P := P2
  clear P2
  have hcells := H.out.1.cells
  obtain ⟨c0, c1, c2⟩ := hcells
  obtain ⟨p0, _⟩ := P.out.1.cell (i := 0) (v := .float .f64 p.1) rfl
  obtain ⟨p1, _⟩ := P.out.1.cell (i := 1) (v := .float .f64 p.2) rfl
  have HC := Lib.hid (p64_any E.le E.wb 8 8 8 p.2 (splice ws1 0 ((By.spell E.le 8 p.1).map byteV)) w3.drew (H.out.1.drewN 1).work (by rw [H.out.1.len]; omega) (by omega) (by omega) OK.out.2)
  go_wp2_with fail
  go_region_held3 (fun w' => w'.cell? ⟨E.en, 0, none⟩ = some (.slice (some ⟨E.wb, 0, none⟩) 16 16) ∧ w'.cell? ⟨E.en, 1, none⟩ = some (.iface 88 (.pointer (some ⟨E.S.bb, 0, none⟩))) ∧ w'.cell? ⟨E.en, 2, none⟩ = some (bo E.le) ∧ w'.cell? ⟨w.heap.size, 0, none⟩ = some (.float .f64 p.1) ∧ w'.cell? ⟨w.heap.size, 1, none⟩ = some (.float .f64 p.2)) (first | exact ⟨c0, c1, c2, p0, p1⟩ | exact ⟨h2.1.cells.1, h2.1.cells.2.1, h2.1.cells.2.2, hq0, hq1⟩) ((go_at_call 90; refine Calls.mono HC.out ?_; rintro e w4 ⟨rfl, hp⟩; have h2 := (H.out.1.drewN 1).more (By.spell_length _ _ _) hp (by rw [By.spell_length]; omega) hlen; have hq0 := hp.2.cell (w := w3.drew) (show w3.drew.cell? ⟨w.heap.size, 0, none⟩ = _ from p0) P.out.2; have hq1 := hp.2.cell (w := w3.drew) (show w3.drew.cell? ⟨w.heap.size, 1, none⟩ = _ from p1) P.out.2))
  have H2 := Lib.hid (⟨h2.1, H.out.2.trans (below_un2 (q := 1) h2.2)⟩ : _ ∧ _)
  clear hp hq0 hq1 P H HC c0 c1 c2 h2 p0 p1
  have H := H2
  clear H2
  have hcells := H.out.1.cells
  obtain ⟨c0, c1, c2⟩ := hcells
  have HC := Lib.hid ((show EncW _ w4.drew _ _ from H.out.1.drewN 1).write 16 16 (by rw [List.length_append, By.spell_length, By.spell_length]) (by omega) hfit)
  go_wp2_with fail
  go_region_held3 (fun w' => w'.cell? ⟨E.en, 0, none⟩ = some (.slice (some ⟨E.wb, 0, none⟩) 16 16) ∧ w'.cell? ⟨E.en, 1, none⟩ = some (.iface 88 (.pointer (some ⟨E.S.bb, 0, none⟩))) ∧ w'.cell? ⟨E.en, 2, none⟩ = some (bo E.le)) (first | exact ⟨c0, c1, c2⟩ | exact h2.1.cells) ((go_at_call 142; refine Calls.mono HC.out ?_; rintro e w5 ⟨rfl, h2⟩))
  have H2 := Lib.hid (⟨h2.1, H.out.2.trans (below_un2 (q := 1) h2.2)⟩ : _ ∧ _)
  clear  H HC c0 c1 c2 h2
  have H := H2
  clear H2

  go_wp2_with fail
  go_ret
  rw [By.encPt, ← List.append_assoc]
  exact ⟨rfl, ⟨_, H.out.1⟩, H.out.2⟩
end Go.Proofs.YtjbjjphgnilhmaaGreatDoor
