/- The walk of spec.OnBorder. -/
import Derived.Test.YtpbhpplmokdkhaaDoorHa2
import Derived.Test.YtpbhpplmokdkhaaDoorRc
import Derived.Test.YtpbhpplmokdkhaaDoorIr
import Derived.Deep.RegionHeld3
set_option linter.unusedVariables false
namespace Go.Proofs.YtpbhpplmokdkhaaDoor
open Go.RowKit Go.WideShapes Fl

theorem rcOn_up {px py : Int} {X Y : Nat → Int} {k n : Nat} (h : rcOn px py X Y k = true) (hk : k ≤ n) : rcOn px py X Y n = true := by
  have := rcOn_mono h (n - k)
  rwa [show k + (n - k) = n by omega] at this
set_option maxRecDepth 100000 in
set_option maxHeartbeats 2000000 in
theorem border_any (n cap b off : Nat) (ps : List (Nat × Nat)) (X Y : Nat → Int) (p : Nat × Nat) (px py : Int) (w : World) (hn : ps.length = n) (h2 : 2 ≤ n) (h100 : n ≤ 100) (hps : PtsAt w b off ps) (hd : Dat ps X Y)
    (hp : IsP p px py) (sp : Small px ∧ Small py) :
    Calls Tryd.prog 43 #[.slice (some ⟨b, off, none⟩) n cap, .agg #[.float .f64 p.1, .float .f64 p.2]] w
      fun e w' => e = .returned (.bool (rcOn px py X Y (n - 1))) ∧ Below w.heap.size w w' := by
  have HP := Lib.hid (And.intro hp sp)
  have HD := Lib.hid hd
  have HN := Lib.hid hn
  have HPS := Lib.hid hps
  have h2n : (2 : Int) ≤ n := by omega
  have hnn : (n : Int) ≤ 100 := by omega
  have hp0 := heap_alloc_new w (.cells #[.float .f64 p.1, .float .f64 p.2] 31)
  have HP0 : Hid (Blk (w.alloc (.cells #[.float .f64 p.1, .float .f64 p.2] 31)) w.heap.size #[.float .f64 p.1, .float .f64 p.2] 31) := Lib.hid hp0
  clear hp sp hd hn hps hp0
  go_enter Tryd.func43, Tryd.ntmps43
  go_wp2
  go_loopw [5] (fun iv wr => ∃ k : Nat, k + 1 ≤ n ∧ iv = .int .i64 ((k : Int) + 1) ∧ Hid (rcOn px py X Y k = false) ∧ Hid (Blk wr w.heap.size #[.float .f64 p.1, .float .f64 p.2] 31) ∧ Below w.heap.size w wr) (fun iv _ => n - (intOf iv).toNat)
  case atStart => exact ⟨0, by omega, rfl, Lib.hid rfl, HP0, (Below.refl _ _).alloc (Nat.le_refl _) _⟩
  case round =>
    obtain ⟨k, hk, rfl, HI, HBp, hb⟩ := hrel
    by_cases hlt : k + 1 < n
    · have hil : k < ps.length := by have := HN.out; omega
      have hjl : k + 1 < ps.length := by have := HN.out; omega
      have hpi : ps[k]? = some ps[k] := List.getElem?_eq_getElem hil
      have hpj : ps[k + 1]? = some ps[k + 1] := List.getElem?_eq_getElem hjl
      obtain ⟨ii, mi⟩ := HD.out k _ hpi
      obtain ⟨ij, mj⟩ := HD.out (k + 1) _ hpj
      obtain ⟨c0, c1⟩ := HPS.out k _ hpi
      obtain ⟨d0, d1⟩ := HPS.out (k + 1) _ hpj
      obtain ⟨⟨x, y⟩, hpe⟩ : ∃ p, p = ps[k] := ⟨_, rfl⟩
      obtain ⟨⟨x1, y1⟩, hpe1⟩ : ∃ p, p = ps[k + 1] := ⟨_, rfl⟩
      rw [← hpe] at ii c0 c1
      rw [← hpe1] at ij d0 d1
      have c0' := cell_later hb c0
      have c1' := cell_later hb c1
      have d0' := cell_later hb d0
      have d1' := cell_later hb d1
      have hki : (k : Int) < n := by omega
      have hki1 : (k : Int) + 1 < n := by omega
      have hk0 : (0 : Int) ≤ k := by omega
      have hk1 : (0 : Int) ≤ (k : Int) + 1 := by omega
      have hkt : ((k : Int) + 1).toNat = k + 1 := by omega
      have hwm : IntKind.i64.wrap ((k : Int) + 1 - 1) = (k : Int) := by rw [Int.add_sub_cancel]; exact IntWalk.i64_in _ (by omega)
      have hwk0 : IntKind.i64.wrap (k : Int) = (k : Int) := IntWalk.i64_in _ (by omega)
      have hcall := fun W => on_any (x, y) (x1, y1) p ii ij HP.out.1 mi mj HP.out.2 W
      obtain ⟨z, hz⟩ : ∃ z, z = decide (Ry.On px py (X k) (Y k) (X (k + 1)) (Y (k + 1))) := ⟨_, rfl⟩
      rw [← hz] at hcall
      have HZ := Lib.hid hz
      obtain ⟨⟨p0, p1⟩, _, _⟩ := cells2 HBp.out
      have HB := Lib.hid hb
      clear hb c0 c1 d0 d1 hpi hpj hpe hpe1 hil hjl ii ij mi mj hz
      go_wp2_with fail
      go_region_held3 (fun w' => w'.cell? ⟨w.heap.size, 0, none⟩ = some (.float .f64 p.1) ∧ w'.cell? ⟨w.heap.size, 1, none⟩ = some (.float .f64 p.2) ∧ w'.cell? ⟨b, off + k * 2, none⟩ = some (.float .f64 x) ∧ w'.cell? ⟨b, off + k * 2 + 1, none⟩ = some (.float .f64 y) ∧ w'.cell? ⟨b, off + (k + 1) * 2, none⟩ = some (.float .f64 x1) ∧ w'.cell? ⟨b, off + (k + 1) * 2 + 1, none⟩ = some (.float .f64 y1))
        (first | exact ⟨p0, p1, c0', c1', d0', d1'⟩ | exact keep6 hb4 ⟨p0, p1, c0', c1', d0', d1'⟩ | go_keep)
        ((go_simp; go_at_call 54; refine (hcall _).mono ?_; rintro e w4 ⟨rfl, hb4⟩))
      have L4 : Below w.heap.size w w4 := HB.out.drew.trans (hb4.mono HB.out.size)
      have P4 : Blk w4 w.heap.size #[.float .f64 p.1, .float .f64 p.2] 31 := blk_below (blk_drew HBp.out) hb4 (Array.getElem?_eq_some_iff.1 HBp.out).1
      have HL4 := Lib.hid L4
      have HP4 := Lib.hid P4
      clear hb4 L4 P4 p0 p1 c0' c1' d0' d1' hcall
      have hwp : IntKind.i64.wrap ((k : Int) + 1 + 1) = (k : Int) + 1 + 1 := IntWalk.i64_in _ (by omega)
      cases z with
      | true =>
        go_wp2
        go_ret
        have h1 : rcOn px py X Y (k + 1) = true := by unfold rcOn; rw [← HZ.out, Bool.or_true]
        have h2 := rcOn_up h1 (show k + 1 ≤ n - 1 by omega)
        rw [h2]
        exact ⟨rfl, HL4.out⟩
      | false =>
        go_wp2
        go_roundw
        case rel => exact ⟨k + 1, by omega, by go_num, Lib.hid (by unfold rcOn; rw [← HZ.out, HI.out]; rfl), HP4, HL4.out⟩
        case measure => simp [intOf]; omega
    · have hkn : k = n - 1 := by omega
      have hnlt : ¬ ((k : Int) + 1 < (n : Int)) := by omega
      have HB := Lib.hid hb
      have hfin : rcOn px py X Y (n - 1) = false := by rw [← hkn]; exact HI.out
      have HF := Lib.hid hfin
      clear hb hkn hfin
      go_wp2
      go_ret
      rw [HF.out]
      exact ⟨rfl, HB.out⟩
end Go.Proofs.YtpbhpplmokdkhaaDoor
