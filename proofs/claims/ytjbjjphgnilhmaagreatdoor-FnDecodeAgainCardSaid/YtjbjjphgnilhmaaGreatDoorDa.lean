/- The walk of impl.Decode. -/
import Derived.Test.YtjbjjphgnilhmaaGreatDoorBz
set_option linter.unusedVariables false
namespace Go.Proofs.YtjbjjphgnilhmaaGreatDoor
open Go.RowKit
variable {A : Addr → Prop}

/-- What impl.Decode gives. -/
def GaveD (f : Nat) (o : Option By.G) (w : World) (e : Ending) (w' : World) : Prop := match o with
  | some g => ∃ us K, e = .returned (.tuple #[.agg us.toArray, .bool true]) ∧ IsS (f + 1) K us (shG g) ∧ Has w.heap.size K w' ∧ Below w.heap.size w w'
  | none => ∃ us, e = .returned (.tuple #[.agg us.toArray, .bool false]) ∧ us = [.int .i64 0, .slice none 0 0, .slice none 0 0] ∧ Below w.heap.size w w'
set_option maxRecDepth 100000 in
theorem dc_of {f : Nat} {o : Option By.G} {v : Value} {w : World} (h : ∀ W, Below w.heap.size w W → Calls Tryz.prog 11 #[v] W (GetsW f o W)) (hs : ∀ g, o = some g → By.size g ≤ 2147483647) : Calls Tryz.prog 5 #[v] w (GaveD f o w) := by
  obtain ⟨W0, hW0⟩ : ∃ W, W = w.alloc (.cells #[.int .i64 0, .slice none 0 0, .slice none 0 0] 26) := ⟨_, rfl⟩
  have b0 : Below w.heap.size w W0 := by rw [hW0]; exact (Below.refl _ _).alloc (Nat.le_refl _) _
  have r0 : Blk W0 w.heap.size #[.int .i64 0, .slice none 0 0, .slice none 0 0] 26 := by rw [hW0]; exact Blk.new w _ _
  have hcall := h W0 b0
  have HF := Lib.hid (⟨b0, r0⟩ : _ ∧ _)
  have HW0 := Lib.hid hW0
  have HS := Lib.hid hs
  clear h hW0 b0 r0 hs
  go_enter Tryz.func5, Tryz.ntmps5
  go_wp2_with fail
  rw [← HW0.out]
  refine hcall.mono ?_
  intro e w1 hg
  clear hcall
  rcases o with _ | g
  · obtain ⟨a, rfl, hb⟩ := hg
    have r1 := HF.out.2.below hb HF.out.2.lt
    obtain ⟨c0, f0⟩ := r1.cell (i := 0) (v := .int .i64 0) rfl
    obtain ⟨c1, f1⟩ := r1.cell (i := 1) (v := .slice none 0 0) rfl
    obtain ⟨c2, f2⟩ := r1.cell (i := 2) (v := .slice none 0 0) rfl
    have HB := Lib.hid (⟨HF.out.1.trans (hb.mono HF.out.1.size), r1⟩ : Below w.heap.size w w1 ∧ _)
    clear hb r1
    go_wp2_with fail
    have k2 : Kept (fun b => b = w.heap.size) w1 (((w1.setCell ⟨w.heap.size, 0, none⟩ (.int .i64 0)).setCell ⟨w.heap.size, 1, none⟩ (.slice none 0 0)).setCell ⟨w.heap.size, 2, none⟩ (.slice none 0 0)) := ((((Kept.refl (fun b => b = w.heap.size) w1)).setCell ⟨w.heap.size, 0, none⟩ _ (.inr rfl)).setCell ⟨w.heap.size, 1, none⟩ _ (.inr rfl)).setCell ⟨w.heap.size, 2, none⟩ _ (.inr rfl)
    have q2 := ((HB.out.2.set 0 (.int .i64 0)).set 1 (.slice none 0 0)).set 2 (.slice none 0 0)
    refine bodyPost_ret (results_row2 Tryz.results5 _ _ w.heap.size 26 _ (0, 0) _ rfl q2 Tryz.underlying26 rfl size26) rfl ?_
    exact ⟨[.int .i64 0, .slice none 0 0, .slice none 0 0], rfl, rfl, HB.out.1.trans (k2.to_below (fun k hk => by omega) HB.out.1.size)⟩
  · obtain ⟨u, K, rfl, hu, hK, hb⟩ := hg
    obtain ⟨T, x, rfl⟩ := hu.iface
    have hcall := so_any f (.iface T x) g K W0.heap.size w1 hu hK (HS.out g rfl)
    have r1 := HF.out.2.below hb HF.out.2.lt
    have HB := Lib.hid (⟨HF.out.1.trans (hb.mono HF.out.1.size), r1⟩ : Below w.heap.size w w1 ∧ _)
    clear hb r1 hu hK
    go_wp2_with fail
    refine hcall.mono ?_
    rintro e w2 ⟨us, K2, rfl, hI, hK2, hb2⟩
    obtain ⟨k3, ao3, n3, cap3, bo3, m3, cap4, hy3⟩ := hI.form
    subst hy3
    have r2 := HB.out.2.below hb2 HB.out.2.lt
    obtain ⟨c0, f0⟩ := r2.cell (i := 0) (v := .int .i64 0) rfl
    obtain ⟨c1, f1⟩ := r2.cell (i := 1) (v := .slice none 0 0) rfl
    obtain ⟨c2, f2⟩ := r2.cell (i := 2) (v := .slice none 0 0) rfl
    have HC := Lib.hid (⟨hI, hK2.mono HB.out.1.size, HB.out.1.trans (hb2.mono HB.out.1.size), r2⟩ : _ ∧ Has w.heap.size K2 w2 ∧ _ ∧ _)
    have hlt := HB.out.2.lt
    have HK2 := Lib.hid (hK2.mono hlt : Has (w.heap.size + 1) K2 w2)
    clear hcall hI hK2 hb2 r2 hlt
    go_wp2_with fail
    have k2 : Kept (fun b => b = w.heap.size) w2 (((w2.setCell ⟨w.heap.size, 0, none⟩ (.int .i64 k3)).setCell ⟨w.heap.size, 1, none⟩ (.slice ao3 n3 cap3)).setCell ⟨w.heap.size, 2, none⟩ (.slice bo3 m3 cap4)) := ((((Kept.refl (fun b => b = w.heap.size) w2)).setCell ⟨w.heap.size, 0, none⟩ _ (.inr rfl)).setCell ⟨w.heap.size, 1, none⟩ _ (.inr rfl)).setCell ⟨w.heap.size, 2, none⟩ _ (.inr rfl)
    have q2 := ((HC.out.2.2.2.set 0 (.int .i64 k3)).set 1 (.slice ao3 n3 cap3)).set 2 (.slice bo3 m3 cap4)
    refine bodyPost_ret (results_row2 Tryz.results5 _ _ w.heap.size 26 _ (0, 0) _ rfl q2 Tryz.underlying26 rfl size26) rfl ?_
    exact ⟨[.int .i64 k3, .slice ao3 n3 cap3, .slice bo3 m3 cap4], K2, rfl, HC.out.1, (HK2.out.kept k2 (fun k hk => by omega)).mono (Nat.le_succ _), HC.out.2.2.1.trans (k2.to_below (fun k hk => by omega) HC.out.2.2.1.size)⟩
theorem dc_any (b off n c : Nat) (l : By.Bs) (w : World) (he : EK A w) (hl : l.length = n) (hc : n ≤ c) (h31 : n ≤ 2147483647) (hx : BytesAt w b off l) :
    Calls Tryz.prog 5 #[.slice (some ⟨b, off, none⟩) n c] w (GaveD (l.length + 1) (By.unm l) w) :=
  dc_of (fun W hb => wu_any b off n c l W (he.below hb) hl hc h31 (hx.below hb)) (fun g h => by have := (By.unm_fits l g h).2; omega)
theorem dc_nil (ao : Option Addr) (c : Nat) (w : World) (he : EK A w) : Calls Tryz.prog 5 #[.slice ao 0 c] w (GaveD 0 none w) :=
  dc_of (fun W hb => wu_nil W ao c (he.below hb)) (fun g h => by cases h)
end Go.Proofs.YtjbjjphgnilhmaaGreatDoor
