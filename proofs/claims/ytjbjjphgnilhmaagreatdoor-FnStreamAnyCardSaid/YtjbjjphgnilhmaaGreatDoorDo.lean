/- The walk of wkb's Encode and Marshal. -/
import Derived.Test.YtjbjjphgnilhmaaGreatDoorDn
import Derived.Test.YtjbjjphgnilhmaaGreatDoorDm
set_option linter.unusedVariables false
set_option linter.unusedSimpArgs false
namespace Go.Proofs.YtjbjjphgnilhmaaGreatDoor
open Go.RowKit

theorem enc33 (E : Enr) (we : Nat) (f : Nat) (x : Value) (g : By.G) (K : Knows) (l : By.Bs) (w : World) (hw : WEn w we E.en) (h : IsG f K x g) (he : Enc0 E w l) (hL : Lies E.B K w) (hok : By.Ok g) (hs : By.size g ≤ 2147483647) (hfit : l.length + (By.enc E.le g).length ≤ E.S.cap) :
    Calls Tryz.prog 33 #[.pointer (some ⟨we, 0, none⟩), x] w fun e w' => ∃ b, Wrote (E.at b) l (By.enc E.le g) w e w' := by
  have hcall := first_encode E f x g K l w h he hL hok hs hfit
  obtain ⟨c0, _⟩ := Blk.cell hw (i := 0) (v := .pointer (some ⟨E.en, 0, none⟩)) rfl
  obtain ⟨tt, xx, rfl⟩ := h.iface
  clear h he hL hw hok hs hfit
  go_enter Tryz.func33, Tryz.ntmps33
  go_wp2_with fail
  refine hcall.mono ?_
  rintro e w1 ⟨b, rfl, hr⟩
  have H := Lib.hid hr
  clear hcall hr
  go_wp2_with fail
  go_ret
  exact ⟨b, rfl, H.out⟩
end Go.Proofs.YtjbjjphgnilhmaaGreatDoor
