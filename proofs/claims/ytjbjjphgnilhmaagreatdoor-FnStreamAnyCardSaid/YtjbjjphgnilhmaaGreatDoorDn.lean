/- The walks of impl.order, NewEncoder, SetByteOrder. -/
import Derived.Test.YtjbjjphgnilhmaaGreatDoorDl
set_option linter.unusedVariables false
set_option linter.unusedSimpArgs false
namespace Go.Proofs.YtjbjjphgnilhmaaGreatDoor
open Go.RowKit

theorem order_call (big : Bool) (w : World) : Calls Tryz.prog 16 #[.bool big] w fun e w' => e = .returned (bo (!big)) ∧ w' = w := by
  cases big <;>
  · go_enter Tryz.func16, Tryz.ntmps16
    go_wp2_with fail
    go_ret
    exact ⟨rfl, rfl⟩
theorem new48 (bb : Nat) (w : World) : Calls Tryz.prog 48 #[.iface 88 (.pointer (some ⟨bb, 0, none⟩))] w fun e w' => e = .returned (.pointer (some ⟨w.heap.size, 0, none⟩)) ∧ w' = w.alloc (.cells #[.slice none 0 0, .iface 88 (.pointer (some ⟨bb, 0, none⟩)), .int .u8 0] 176) := by
  go_enter Tryz.func48, Tryz.ntmps48
  go_wp2_with fail
  go_ret
  exact ⟨rfl, rfl⟩
theorem set49 (en : Nat) (o : Int) (cs : Array Value) (v : Value) (w : World) (h : Blk w en cs 176) (h2 : cs[2]? = some v) : Calls Tryz.prog 49 #[.pointer (some ⟨en, 0, none⟩), .int .u8 o] w fun e w' => e = .returned (.tuple #[]) ∧ w' = w.setCell ⟨en, 2, none⟩ (.int .u8 o) := by
  obtain ⟨c2, f2⟩ := h.cell h2
  clear h h2
  go_enter Tryz.func49, Tryz.ntmps49
  go_wp2_with fail
  refine bodyPost_end (results_none Tryz.results49 _ _ _) rfl ?_
  exact ⟨rfl, rfl⟩
/-- An encoder of wkb. -/
def WEn (w : World) (we en : Nat) : Prop := Blk w we #[.pointer (some ⟨en, 0, none⟩)] 138
def enCells (bb : Nat) (le : Bool) : Array Value := #[.slice none 0 0, .iface 88 (.pointer (some ⟨bb, 0, none⟩)), bo le]
theorem new31 (bb : Nat) (w : World) : Calls Tryz.prog 31 #[.iface 88 (.pointer (some ⟨bb, 0, none⟩))] w fun e w' => ∃ we, e = .returned (.pointer (some ⟨we, 0, none⟩)) ∧ w.heap.size < we ∧ WEn w' we w.heap.size ∧ Blk w' w.heap.size (enCells bb true) 176 ∧ Below w.heap.size w w' := by
  have hcall := new48 bb w
  have b1 := Blk.new w (enCells bb true) 176
  have hcall2 := set49 w.heap.size 0 (enCells bb true) (.int .u8 0) (w.alloc (.cells (enCells bb true) 176)) b1 rfl
  unfold enCells bo at hcall2
  have H := Lib.hid b1
  clear b1
  go_enter Tryz.func31, Tryz.ntmps31
  go_wp2_with fail
  refine hcall.mono ?_
  rintro e w1 ⟨rfl, rfl⟩
  clear hcall
  go_wp2_with fail
  refine hcall2.mono ?_
  rintro e w2 ⟨rfl, hw2⟩
  have b2 : Blk w2 w.heap.size (enCells bb true) 176 := by rw [hw2]; exact H.out.set 2 (.int .u8 0)
  have l2 : Below w.heap.size w w2 := by rw [hw2]; exact ((Below.refl _ _).alloc (Nat.le_refl _) _).setCell (p := ⟨w.heap.size, 2, none⟩) (Nat.le_refl _) _
  have H2 := Lib.hid (⟨b2, l2⟩ : _ ∧ _)
  clear hcall2 hw2 b2 l2
  go_wp2_with fail
  go_ret
  have lt2 := H2.out.1.lt
  exact ⟨w2.heap.size, rfl, lt2, Blk.new w2 _ _, H2.out.1.alloc _, H2.out.2.alloc (Nat.le_of_lt lt2) _⟩
theorem set32o (we en : Nat) (bb : Nat) (le : Bool) (o : Int) (w : World) (h : WEn w we en) (h2 : Blk w en (enCells bb le) 176) (hne : we ≠ en) : Calls Tryz.prog 32 #[.pointer (some ⟨we, 0, none⟩), (.int .u8 o)] w fun e w' => e = .returned (.pointer (some ⟨we, 0, none⟩)) ∧ WEn w' we en ∧ Blk w' en #[.slice none 0 0, .iface 88 (.pointer (some ⟨bb, 0, none⟩)), .int .u8 o] 176 ∧ Kept (fun b => b = en) w w' := by
  have hcall := set49 en o (enCells bb le) (bo le) w h2 rfl
  obtain ⟨c0, _⟩ := Blk.cell h (i := 0) (v := .pointer (some ⟨en, 0, none⟩)) rfl
  have H := Lib.hid (⟨h, h2⟩ : _ ∧ _)
  clear h h2
  go_enter Tryz.func32, Tryz.ntmps32
  go_wp2_with fail
  refine hcall.mono ?_
  rintro e w1 ⟨rfl, hw1⟩
  have k1 : Kept (fun b => b = en) w w1 := by rw [hw1]; exact (Kept.refl (fun b => b = en) w).setCell ⟨en, 2, none⟩ _ (.inr rfl)
  have b1 : Blk w1 en #[.slice none 0 0, .iface 88 (.pointer (some ⟨bb, 0, none⟩)), .int .u8 o] 176 := by rw [hw1]; exact H.out.2.set 2 _
  have H1 := Lib.hid (⟨k1, b1⟩ : _ ∧ _)
  clear hcall hw1 k1 b1 c0
  go_wp2_with fail
  go_ret
  exact ⟨rfl, (H1.out.1.block _ (Blk.lt H.out.1) hne).trans H.out.1, H1.out.2, H1.out.1⟩
theorem set32 (we en : Nat) (bb : Nat) (le le2 : Bool) (w : World) (h : WEn w we en) (h2 : Blk w en (enCells bb le) 176) (hne : we ≠ en) : Calls Tryz.prog 32 #[.pointer (some ⟨we, 0, none⟩), bo le2] w fun e w' => e = .returned (.pointer (some ⟨we, 0, none⟩)) ∧ WEn w' we en ∧ Blk w' en (enCells bb le2) 176 ∧ Kept (fun b => b = en) w w' :=
  set32o we en bb le (if le2 then 0 else 1) w h h2 hne
end Go.Proofs.YtjbjjphgnilhmaaGreatDoor
