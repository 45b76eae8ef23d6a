/- The walk of wkb.Marshal. -/
import Derived.Test.YtjbjjphgnilhmaaGreatDoorDp
set_option linter.unusedVariables false
set_option linter.unusedSimpArgs false
namespace Go.Proofs.YtjbjjphgnilhmaaGreatDoor
open Go.RowKit
set_option maxRecDepth 100000 in
set_option maxHeartbeats 1000000 in
/-- wkb.Marshal with a byte order told. -/
theorem marshal_any (f : Nat) (x : Value) (g : By.G) (K : Knows) (lo ob : Nat) (le : Bool) (w : World) (h : IsG f K x g) (hH : Has lo K w) (hob : Blk w ob #[bo le] 49) (hok : By.Ok g) (hs : By.size g ≤ 2147483647) :
    Calls Tryz.prog 15 #[x, .slice (some ⟨ob, 0, none⟩) 1 1] w fun e w' => ∃ (db : Nat), e = .returned (.tuple #[.slice (some ⟨db, 0, none⟩) (By.size g) (By.size g), .nilIface]) ∧ w.heap.size ≤ db ∧ BytesAt w' db 0 (By.enc le g) ∧ Below w.heap.size w w' := by
  have hcall := lengths_any f x g K lo w h hH hs
  obtain ⟨tt, xx, rfl⟩ := h.iface
  have HG := Lib.hid (⟨h, hH, hob, hok, hs⟩ : _ ∧ _ ∧ _ ∧ _ ∧ _)
  obtain ⟨T, hT⟩ : ∃ T, T = By.size g := ⟨_, rfl⟩
  unfold Length at hcall
  rw [← hT] at hcall hs ⊢
  have HT := Lib.hid hT
  have hmk := make_cap T hs
  clear h hH hok hob hT
  go_enter Tryz.func15, Tryz.ntmps15
  go_wp2_with fail
  refine hcall.mono ?_
  rintro e w1 ⟨rfl, hb⟩
  have d1 := Blk.new w1 (List.replicate T (Value.int .u8 0)).toArray 5
  have hcall2 := newBuf w1.heap.size T _ d1 hs
  have HB := Lib.hid hb
  clear hcall hb d1
  go_wp2_with fail
  refine hcall2.mono ?_
  rintro e w2 ⟨rfl, hh, hb2⟩
  obtain ⟨bb, hbb⟩ : ∃ b, b = (w1.alloc (Obj.cells (List.replicate T (Value.int IntKind.u8 0)).toArray 5)).heap.size := ⟨_, rfl⟩
  rw [← hbb] at hh hb2 ⊢
  have hdb : w1.heap.size < bb := by rw [hbb, World.size_alloc]; omega
  have B2 : Below w1.heap.size w1 w2 := ((Below.refl _ _).alloc (Nat.le_refl _) _).trans (hb2.mono (Nat.le_of_lt hdb))
  have hcall3 := new31 bb w2
  have H2 := Lib.hid (⟨hh, HB.out.trans (B2.mono HB.out.size), hdb⟩ : _ ∧ _ ∧ _)
  clear hh hb2 hbb hcall2 B2 hdb
  go_wp2_with fail
  refine hcall3.mono ?_
  rintro e w3 ⟨we, rfl, hwe, hW, hE, hb3⟩
  have o3 : Blk w3 ob #[bo le] 49 := ((HG.out.2.2.1.below H2.out.2.1 HG.out.2.2.1.lt).below hb3 (Nat.lt_of_lt_of_le HG.out.2.2.1.lt H2.out.2.1.size))
  obtain ⟨co, _⟩ := o3.cell (i := 0) (v := bo le) rfl
  have hcall4 := set32 we w2.heap.size bb true le w3 hW hE (by omega)
  have H3 := Lib.hid (⟨hW, hE, hb3, hwe⟩ : _ ∧ _ ∧ _ ∧ _)
  clear hcall3 hW hE hb3 hwe o3
  go_wp2_with fail
  refine hcall4.mono ?_
  rintro e w4 ⟨rfl, hW, hE, hk4⟩
  have l2 : bb < w2.heap.size := H2.out.1.buf.lt
  have b3 : Below w.heap.size w w3 := H2.out.2.1.trans (H3.out.2.2.1.mono H2.out.2.1.size)
  have b4 : Below w.heap.size w w4 := b3.trans (hk4.to_below (fun k hk => by rw [hk]; exact H2.out.2.1.size) b3.size)
  have k34 := (Kept.of_below H3.out.2.2.1 (fun b => b = w2.heap.size)).trans hk4 (fun _ _ h => h)
  have hh4 : Holds ⟨bb, w1.heap.size, T⟩ w4 [] := H2.out.1.kept k34 (by show bb ≠ _; exact Nat.ne_of_lt l2) (by show w1.heap.size ≠ _; have := H2.out.2.2; exact Nat.ne_of_lt (Nat.lt_trans this l2))
  obtain ⟨E, hEn⟩ : ∃ E : Enr, E = ⟨w2.heap.size, ⟨bb, w1.heap.size, T⟩, 0, le, w1.heap.size⟩ := ⟨_, rfl⟩
  have hE0 : Enc0 E w4 [] := by
    rw [hEn]
    have := H2.out.2.2
    exact ⟨hE, hh4, ⟨by show w2.heap.size ≠ bb; omega, by show w2.heap.size ≠ w1.heap.size; omega⟩, by show w1.heap.size ≤ w2.heap.size; omega, by show w1.heap.size ≤ bb; omega, Nat.le_refl _⟩
  have hWE : WEn w4 we E.en := by rw [hEn]; exact hW
  have hL : Lies E.B K w4 := by
    rw [hEn]
    intro b o hk
    have h1 := (HG.out.2.1 b o hk).2
    have hlt := (Array.getElem?_eq_some_iff.1 h1).1
    exact ⟨Nat.lt_of_lt_of_le hlt HB.out.size, (b4.block b hlt).trans h1⟩
  have hcall5 := enc33 E we f (.iface tt xx) g K [] w4 hWE HG.out.1 hE0 hL HG.out.2.2.2.1 HG.out.2.2.2.2 (by rw [hEn, By.enc_length, ← HT.out]; simp)
  have H4 := Lib.hid (⟨b4, hEn⟩ : _ ∧ _)
  clear hcall4 hW hE hk4 l2 b3 b4 k34 hh4 hE0 hWE hL hEn co
  go_wp2_with fail
  refine hcall5.mono ?_
  rintro e w5 ⟨b, rfl, ⟨ws', hE5⟩, hb5⟩
  have hh5 : Holds ⟨bb, w1.heap.size, T⟩ w5 (By.enc le g) := by have := hE5.hold; rw [H4.out.2] at this; exact this
  have hlen : (By.enc le g).length = T := by rw [By.enc_length, HT.out]
  have hcall6 := fun q => len_any ⟨bb, w1.heap.size, T⟩ (By.enc le g) (w5.drewN q) (hh5.kept ((Kept.refl (fun _ => False) w5).drewN q) id id)
  have hB5 : Below w.heap.size w w5 := by have h5 := hb5; rw [H4.out.2] at h5; exact H4.out.1.trans (h5.mono HB.out.size)
  have hpos : 0 < T := by rw [HT.out]; exact size_pos g
  have hl6 := len_any ⟨bb, w1.heap.size, T⟩ (By.enc le g) w5 hh5
  rw [hlen] at hl6
  have H5 := Lib.hid (⟨hh5, hlen, hB5⟩ : _ ∧ _ ∧ _)
  clear hcall5 hcall6 hE5 hb5 hh5 hlen hB5
  go_wp2_with fail
  refine hl6.mono ?_
  rintro e w6 ⟨rfl, q, hq⟩
  have hh6 : Holds ⟨bb, w1.heap.size, T⟩ w6 (By.enc le g) := by rw [hq]; exact H5.out.1.kept ((Kept.refl (fun _ => False) w5).drewN q) id id
  have hB6 : Below w.heap.size w w6 := by rw [hq]; exact below_drewN H5.out.2.2 q
  have hl7 := bytes_any ⟨bb, w1.heap.size, T⟩ (By.enc le g) w6 hh6
  rw [H5.out.2.1] at hl7
  have hz : decide ((T : Int) = 0) = false := decide_eq_false (by omega)
  have H6 := Lib.hid (⟨hh6, hB6⟩ : _ ∧ _)
  clear hl6 hq hh6 hB6
  go_wp2_with fail
  refine hl7.mono ?_
  rintro e w7 ⟨rfl, q7, hq7⟩
  have hh7 : Holds ⟨bb, w1.heap.size, T⟩ w7 (By.enc le g) := by rw [hq7]; exact H6.out.1.kept ((Kept.refl (fun _ => False) w6).drewN q7) id id
  have hB7 : Below w.heap.size w w7 := by rw [hq7]; exact below_drewN H6.out.2 q7
  have H7 := Lib.hid (⟨hh7, hB7⟩ : _ ∧ _)
  clear hl7 hq7 hh7 hB7
  go_wp2_with fail
  go_ret2
  obtain ⟨ds, h1, h2, h3⟩ := H7.out.1.data
  exact ⟨w1.heap.size, rfl, HB.out.size, bytes_of h3 h2, H7.out.2⟩
end Go.Proofs.YtjbjjphgnilhmaaGreatDoor
