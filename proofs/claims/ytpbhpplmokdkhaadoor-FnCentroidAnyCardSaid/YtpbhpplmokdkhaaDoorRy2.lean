/- The walk of rayIntersect. -/
import Derived.Test.YtpbhpplmokdkhaaDoorRy1
import Derived.Test.YtpbhpplmokdkhaaDoorRyZ
import Derived.Test.YtpbhpplmokdkhaaDoorSeg
namespace Go.Proofs.YtpbhpplmokdkhaaDoor
open Go.RowKit Fl

theorem isI_ge {x y : Nat} {a b : Int} (hx : IsI x a) (hy : IsI y b) : (FloatKind.f64.format.order x y == some .gt || FloatKind.f64.format.order x y == some .eq) = decide (b ≤ a) := by
  have e1 : (FloatKind.f64.format.order x y == some .gt) = decide (b < a) := isI_gt hx hy
  have e2 : (FloatKind.f64.format.order x y == some .eq) = decide (a = b) := isI_eq hx hy
  rw [e1, e2, ← Bool.decide_or, decide_eq_decide]
  omega
/-- The world of the three points. -/
def rayW (w : World) (p a b : Nat × Nat) : World := ((w.alloc (.cells #[.float .f64 p.1, .float .f64 p.2] 69)).alloc (.cells #[.float .f64 a.1, .float .f64 a.2] 69)).alloc (.cells #[.float .f64 b.1, .float .f64 b.2] 69)
theorem rayBelow (w : World) (o1 o2 o3 : Obj) : Below w.heap.size w (((w.alloc o1).alloc o2).alloc o3) := (((Below.refl _ _).alloc (Nat.le_refl _) _).alloc (by simp) _).alloc (by simp; omega) _
theorem ray_cells {w W : World} {p a b : Nat × Nat} (hW : W = ((w.alloc (.cells #[.float .f64 p.1, .float .f64 p.2] 69)).alloc (.cells #[.float .f64 a.1, .float .f64 a.2] 69)).alloc (.cells #[.float .f64 b.1, .float .f64 b.2] 69)) :
    W.cell? ⟨w.heap.size, 0, none⟩ = some (.float .f64 p.1) ∧ W.cell? ⟨w.heap.size, 1, none⟩ = some (.float .f64 p.2) ∧ W.cell? ⟨w.heap.size + 1, 0, none⟩ = some (.float .f64 a.1) ∧ W.cell? ⟨w.heap.size + 1, 1, none⟩ = some (.float .f64 a.2) ∧
    W.cell? ⟨w.heap.size + 1 + 1, 0, none⟩ = some (.float .f64 b.1) ∧ W.cell? ⟨w.heap.size + 1 + 1, 1, none⟩ = some (.float .f64 b.2) ∧ W.frozen? ⟨w.heap.size, 0, none⟩ = false ∧ Below w.heap.size w W := by
  have b1 : Blk W w.heap.size #[.float .f64 p.1, .float .f64 p.2] 69 := by rw [hW]; exact (heap_alloc_old _ _ (by simp; omega)).trans (heap_alloc2_old w _ _)
  have b2 : Blk W (w.heap.size + 1) #[.float .f64 a.1, .float .f64 a.2] 69 := by rw [hW]; exact (heap_alloc_old _ _ (by simp)).trans (heap_alloc2_new w _ _)
  have b3 : Blk W (w.heap.size + 1 + 1) #[.float .f64 b.1, .float .f64 b.2] 69 := by
    rw [hW]
    have := heap_alloc_new ((w.alloc (.cells #[.float .f64 p.1, .float .f64 p.2] 69)).alloc (.cells #[.float .f64 a.1, .float .f64 a.2] 69)) (.cells #[.float .f64 b.1, .float .f64 b.2] 69)
    simpa [Blk] using this
  exact ⟨(blk_cell b1 (i := 0) rfl).1, (blk_cell b1 (i := 1) rfl).1, (blk_cell b2 (i := 0) rfl).1, (blk_cell b2 (i := 1) rfl).1, (blk_cell b3 (i := 0) rfl).1, (blk_cell b3 (i := 1) rfl).1, (blk_cell b1 (i := 0) (v := .float .f64 p.1) rfl).2, by rw [hW]; exact rayBelow _ _ _ _⟩
theorem rayBelowS (w : World) (o1 o2 o3 : Obj) (i : Nat) (u : Value) : Below w.heap.size w ((((w.alloc o1).alloc o2).alloc o3).setCell ⟨w.heap.size, i, none⟩ u) := (rayBelow w o1 o2 o3).setCell (Nat.le_refl _) _

set_option maxRecDepth 100000 in
set_option maxHeartbeats 4000000 in
theorem ray_ns (p s e : Nat × Nat) (px py sx sy ex ey : Int) (w : World) (hp : IsP p px py) (hs : IsP s sx sy) (he : IsP e ex ey) (mp : Rg.Mid px ∧ Rg.Mid py) (ms : Rg.Mid sx ∧ Rg.Mid sy) (me : Rg.Mid ex ∧ Rg.Mid ey) (bp : p.1 < 18446744073709551616) (hle : sx ≤ ex) :
    Calls Tryd.prog 67 #[.agg #[.float .f64 p.1, .float .f64 p.2], .agg #[.float .f64 s.1, .float .f64 s.2], .agg #[.float .f64 e.1, .float .f64 e.2]] w
      fun r w' => r = .returned (.tuple #[.bool (decide (Ry.Up px py sx sy ex ey)), .bool (decide (Ry.On px py sx sy ex ey))]) ∧ Below w.heap.size w w' := by
  unfold Rg.Mid at mp ms me
  have o1 : (FloatKind.f64.format.order s.1 e.1 == some .gt) = decide (ex < sx) := isI_gt hs.1 he.1
  rw [decide_eq_false (by omega)] at o1
  have c1 : (FloatKind.f64.format.order p.1 s.1 == some .eq) = decide (px = sx) := isI_eq hp.1 hs.1
  have c2 : (FloatKind.f64.format.order p.2 s.2 == some .eq) = decide (py = sy) := isI_eq hp.2 hs.2
  have c3 : (FloatKind.f64.format.order s.1 e.1 == some .eq) = decide (sx = ex) := isI_eq hs.1 he.1
  have c4 : (FloatKind.f64.format.order p.1 e.1 == some .eq) = decide (px = ex) := isI_eq hp.1 he.1
  have c5 : (FloatKind.f64.format.order p.2 e.2 == some .eq) = decide (py = ey) := isI_eq hp.2 he.2
  have d1 : (FloatKind.f64.format.order s.2 e.2 == some .gt) = decide (ey < sy) := isI_gt hs.2 he.2
  have d2 : (FloatKind.f64.format.order e.2 s.2 == some .gt) = decide (sy < ey) := isI_gt he.2 hs.2
  have d3 := isI_ge hs.2 hp.2
  have d4 := isI_ge hp.2 he.2
  have d5 := isI_ge he.2 hp.2
  have d6 := isI_ge hp.2 hs.2
  have f1 : (FloatKind.f64.format.order p.2 s.2 == some .gt) = decide (sy < py) := isI_gt hp.2 hs.2
  have f2 : (FloatKind.f64.format.order p.2 e.2 == some .lt) = decide (py < ey) := isI_lt hp.2 he.2
  have f3 : (FloatKind.f64.format.order p.2 e.2 == some .gt) = decide (ey < py) := isI_gt hp.2 he.2
  have f4 : (FloatKind.f64.format.order p.2 s.2 == some .lt) = decide (py < sy) := isI_lt hp.2 hs.2
  have g1 : (FloatKind.f64.format.order p.1 s.1 == some .lt) = decide (px < sx) := isI_lt hp.1 hs.1
  have g2 : (FloatKind.f64.format.order p.1 e.1 == some .gt) = decide (ex < px) := isI_gt hp.1 he.1
  have hinf := inf_any
  have hnext := fun w => next_any hp.1 bp (show px.natAbs ≤ 2047 by omega) w
  have hnx := Ry.nx_of hp.1 bp (show px.natAbs ≤ 2047 by omega)
  have n1 : (FloatKind.f64.format.order (Ry.nxt p.1 px) s.1 == some .lt) = decide (px < sx) := Ry.nx_lt hnx hs.1
  have n2 : (FloatKind.f64.format.order (Ry.nxt p.1 px) e.1 == some .gt) = decide (ex ≤ px) := Ry.nx_gt hnx he.1
  obtain ⟨q, hq⟩ : ∃ q, q = Ry.nxt p.1 px := ⟨_, rfl⟩
  rw [← hq] at hnx n1 n2
  have hnext' : ∀ w, Calls Tryd.prog 91 #[.float .f64 p.1, .float .f64 9218868437227405312] w fun e w' => e = .returned (.float .f64 q) ∧ w = w' := by rw [hq]; exact hnext
  clear hnext hq
  by_cases k1 : px = sx
  · rw [decide_eq_true k1] at c1
    by_cases k2 : py = sy
    · obtain ⟨u, v⟩ := Ry.l1 (by' := ey) (show sx ≤ ex by omega) k1 k2
      rw [decide_eq_false u, decide_eq_true v]
      rw [decide_eq_true k2] at c2
      clear u v
      (go_enter Tryd.func67, Tryd.ntmps67; go_wp2; go_ret2; exact ⟨rfl, rayBelow _ _ _ _⟩)
    · rw [decide_eq_false k2] at c2
      by_cases k3 : sx = ex
      · rw [decide_eq_true k3] at c3
        have n2' := n2
        rw [decide_eq_true (by omega)] at n2'
        rw [decide_eq_false (by omega)] at n1
        by_cases k4 : (sy ≤ py ∧ py ≤ ey) ∨ (ey ≤ py ∧ py ≤ sy)
        · obtain ⟨u, v⟩ := Ry.l2 k1 k3 k4
          rw [decide_eq_false u, decide_eq_true v]
          clear u v
          by_cases k5 : ey < sy
          · rw [decide_eq_true (by omega)] at d1; rw [decide_eq_true (by omega)] at d3; rw [decide_eq_true (by omega)] at d4
            (go_enter Tryd.func67, Tryd.ntmps67; go_wp2; go_ret2; exact ⟨rfl, rayBelow _ _ _ _⟩)
          · rw [decide_eq_false (by omega)] at d1; rw [decide_eq_true (by omega)] at d2; rw [decide_eq_true (by omega)] at d5; rw [decide_eq_true (by omega)] at d6
            (go_enter Tryd.func67, Tryd.ntmps67; go_wp2; go_ret2; exact ⟨rfl, rayBelow _ _ _ _⟩)
        · obtain ⟨u, v⟩ := Ry.l3 k1 k3 k4
          rw [decide_eq_false u, decide_eq_false v]
          clear u v
          by_cases k5 : ey < sy
          · rw [decide_eq_true (by omega)] at d1; rw [decide_eq_false (by omega)] at d2
            by_cases k6 : py ≤ sy
            · rw [decide_eq_true (by omega)] at d3; rw [decide_eq_false (by omega)] at d4
              (go_enter Tryd.func67, Tryd.ntmps67; go_wp2_with fail; obtain ⟨W, hW⟩ : ∃ W, W = ((w.alloc (.cells #[.float .f64 p.1, .float .f64 p.2] 69)).alloc (.cells #[.float .f64 s.1, .float .f64 s.2] 69)).alloc (.cells #[.float .f64 e.1, .float .f64 e.2] 69) := ⟨_, rfl⟩; rw [← hW]; obtain ⟨P0, P1, P2, P3, P4, P5, PF, PB⟩ := ray_cells hW; clear hW; go_still_tail 4, (by kernel_rfl); still_call ((hinf _).mono (fun _ _ h => ⟨h.1, h.2.symm⟩)); still_call ((hnext' _).mono (fun _ _ h => ⟨h.1, h.2.symm⟩)); refine wpStill_nil ?_; change wpList _ _ _ _ _ W.drew; go_wp2; go_ret2; exact ⟨rfl, (PB.drew).setCell (p := ⟨w.heap.size, 0, none⟩) (Nat.le_refl _) _⟩)
            · rw [decide_eq_false (by omega)] at d3
              (go_enter Tryd.func67, Tryd.ntmps67; go_wp2_with fail; obtain ⟨W, hW⟩ : ∃ W, W = ((w.alloc (.cells #[.float .f64 p.1, .float .f64 p.2] 69)).alloc (.cells #[.float .f64 s.1, .float .f64 s.2] 69)).alloc (.cells #[.float .f64 e.1, .float .f64 e.2] 69) := ⟨_, rfl⟩; rw [← hW]; obtain ⟨P0, P1, P2, P3, P4, P5, PF, PB⟩ := ray_cells hW; clear hW; go_still_tail 4, (by kernel_rfl); still_call ((hinf _).mono (fun _ _ h => ⟨h.1, h.2.symm⟩)); still_call ((hnext' _).mono (fun _ _ h => ⟨h.1, h.2.symm⟩)); refine wpStill_nil ?_; change wpList _ _ _ _ _ W.drew; go_wp2; go_ret2; exact ⟨rfl, (PB.drew).setCell (p := ⟨w.heap.size, 0, none⟩) (Nat.le_refl _) _⟩)
          · rw [decide_eq_false k5] at d1
            by_cases k6 : sy < ey
            · rw [decide_eq_true k6] at d2
              by_cases k7 : py ≤ ey
              · rw [decide_eq_true (by omega)] at d5; rw [decide_eq_false (by omega)] at d6
                (go_enter Tryd.func67, Tryd.ntmps67; go_wp2_with fail; obtain ⟨W, hW⟩ : ∃ W, W = ((w.alloc (.cells #[.float .f64 p.1, .float .f64 p.2] 69)).alloc (.cells #[.float .f64 s.1, .float .f64 s.2] 69)).alloc (.cells #[.float .f64 e.1, .float .f64 e.2] 69) := ⟨_, rfl⟩; rw [← hW]; obtain ⟨P0, P1, P2, P3, P4, P5, PF, PB⟩ := ray_cells hW; clear hW; go_still_tail 4, (by kernel_rfl); still_call ((hinf _).mono (fun _ _ h => ⟨h.1, h.2.symm⟩)); still_call ((hnext' _).mono (fun _ _ h => ⟨h.1, h.2.symm⟩)); refine wpStill_nil ?_; change wpList _ _ _ _ _ W.drew; go_wp2; go_ret2; exact ⟨rfl, (PB.drew).setCell (p := ⟨w.heap.size, 0, none⟩) (Nat.le_refl _) _⟩)
              · rw [decide_eq_false (by omega)] at d5
                (go_enter Tryd.func67, Tryd.ntmps67; go_wp2_with fail; obtain ⟨W, hW⟩ : ∃ W, W = ((w.alloc (.cells #[.float .f64 p.1, .float .f64 p.2] 69)).alloc (.cells #[.float .f64 s.1, .float .f64 s.2] 69)).alloc (.cells #[.float .f64 e.1, .float .f64 e.2] 69) := ⟨_, rfl⟩; rw [← hW]; obtain ⟨P0, P1, P2, P3, P4, P5, PF, PB⟩ := ray_cells hW; clear hW; go_still_tail 4, (by kernel_rfl); still_call ((hinf _).mono (fun _ _ h => ⟨h.1, h.2.symm⟩)); still_call ((hnext' _).mono (fun _ _ h => ⟨h.1, h.2.symm⟩)); refine wpStill_nil ?_; change wpList _ _ _ _ _ W.drew; go_wp2; go_ret2; exact ⟨rfl, (PB.drew).setCell (p := ⟨w.heap.size, 0, none⟩) (Nat.le_refl _) _⟩)
            · rw [decide_eq_false k6] at d2
              (go_enter Tryd.func67, Tryd.ntmps67; go_wp2_with fail; obtain ⟨W, hW⟩ : ∃ W, W = ((w.alloc (.cells #[.float .f64 p.1, .float .f64 p.2] 69)).alloc (.cells #[.float .f64 s.1, .float .f64 s.2] 69)).alloc (.cells #[.float .f64 e.1, .float .f64 e.2] 69) := ⟨_, rfl⟩; rw [← hW]; obtain ⟨P0, P1, P2, P3, P4, P5, PF, PB⟩ := ray_cells hW; clear hW; go_still_tail 4, (by kernel_rfl); still_call ((hinf _).mono (fun _ _ h => ⟨h.1, h.2.symm⟩)); still_call ((hnext' _).mono (fun _ _ h => ⟨h.1, h.2.symm⟩)); refine wpStill_nil ?_; change wpList _ _ _ _ _ W.drew; go_wp2; go_ret2; exact ⟨rfl, (PB.drew).setCell (p := ⟨w.heap.size, 0, none⟩) (Nat.le_refl _) _⟩)
      · rw [decide_eq_false k3] at c3
        rw [decide_eq_false (by omega)] at n1 n2
        obtain ⟨u, v⟩ := Ry.l4 (by' := ey) (show sx < ex by omega) k1 k2
        have hu : decide (Ry.Up px py sx sy ex ey) = decide (py < sy) := decide_eq_decide.2 u
        rw [hu, decide_eq_false v]
        clear u v hu
        have i1 := isI_sub hp.2 hs.2 (show (py - sy).natAbs ≤ 9007199254740992 by omega)
        have i2 := isI_sub he.2 hs.2 (show (ey - sy).natAbs ≤ 9007199254740992 by omega)
        have i3 := isI_sub he.1 hs.1 (show (ex - sx).natAbs ≤ 9007199254740992 by omega)
        rw [← k1] at hs
        obtain ⟨j1, j2, j3⟩ := Ry.tiny i1 (show py - sy ≠ 0 by omega) (by omega) hnx hs.1
        rw [k1] at hs
        obtain ⟨j4, j5, _⟩ := bd_div (k := 13) i2 i3 (by omega) (by omega) (by omega)
        obtain ⟨t1, t2⟩ := j3 _ j5.1 j5.2.1 j5.2.2
        have r1 := run_fsub (P := Tryd.prog) hp.2.1 hs.2.1 27
        have r2 := run_fsub (P := Tryd.prog) hnx.fin hs.1.1 27
        have r3 := run_fdiv (P := Tryd.prog) j2 27
        have r4 := run_fsub (P := Tryd.prog) he.2.1 hs.2.1 27
        have r5 := run_fsub (P := Tryd.prog) he.1.1 hs.1.1 27
        have r6 := run_fdiv (P := Tryd.prog) j4 27
        have t1' : (FloatKind.f64.format.order (fdiv (fsub p.2 s.2) (fsub q s.1)) (fdiv (fsub e.2 s.2) (fsub e.1 s.1)) == some .eq) = false := t1
        have t2' : (FloatKind.f64.format.order (fdiv (fsub p.2 s.2) (fsub q s.1)) (fdiv (fsub e.2 s.2) (fsub e.1 s.1)) == some .lt) = decide (py - sy < 0) := t2
        clear i1 i2 i3 j1 j2 j3 j4 j5 t1 t2 hnx
        by_cases k5 : ey < sy
        · rw [decide_eq_true k5] at d1
          by_cases k6 : sy < py
          · rw [decide_eq_true k6] at f1
            rw [decide_eq_false (show ¬ py < sy by omega)]
            (go_enter Tryd.func67, Tryd.ntmps67; go_wp2_with fail; obtain ⟨W, hW⟩ : ∃ W, W = ((w.alloc (.cells #[.float .f64 p.1, .float .f64 p.2] 69)).alloc (.cells #[.float .f64 s.1, .float .f64 s.2] 69)).alloc (.cells #[.float .f64 e.1, .float .f64 e.2] 69) := ⟨_, rfl⟩; rw [← hW]; obtain ⟨P0, P1, P2, P3, P4, P5, PF, PB⟩ := ray_cells hW; clear hW; go_still_tail 4, (by kernel_rfl); still_call ((hinf _).mono (fun _ _ h => ⟨h.1, h.2.symm⟩)); still_call ((hnext' _).mono (fun _ _ h => ⟨h.1, h.2.symm⟩)); refine wpStill_nil ?_; change wpList _ _ _ _ _ W.drew; go_wp2; go_ret2; exact ⟨rfl, (PB.drew).setCell (p := ⟨w.heap.size, 0, none⟩) (Nat.le_refl _) _⟩)
          · rw [decide_eq_false k6] at f1
            rw [decide_eq_true (show py < sy by omega)]
            by_cases k7 : py < ey
            · rw [decide_eq_true k7] at f2
              (go_enter Tryd.func67, Tryd.ntmps67; go_wp2_with fail; obtain ⟨W, hW⟩ : ∃ W, W = ((w.alloc (.cells #[.float .f64 p.1, .float .f64 p.2] 69)).alloc (.cells #[.float .f64 s.1, .float .f64 s.2] 69)).alloc (.cells #[.float .f64 e.1, .float .f64 e.2] 69) := ⟨_, rfl⟩; rw [← hW]; obtain ⟨P0, P1, P2, P3, P4, P5, PF, PB⟩ := ray_cells hW; clear hW; go_still_tail 4, (by kernel_rfl); still_call ((hinf _).mono (fun _ _ h => ⟨h.1, h.2.symm⟩)); still_call ((hnext' _).mono (fun _ _ h => ⟨h.1, h.2.symm⟩)); refine wpStill_nil ?_; change wpList _ _ _ _ _ W.drew; go_wp2; go_ret2; exact ⟨rfl, (PB.drew).setCell (p := ⟨w.heap.size, 0, none⟩) (Nat.le_refl _) _⟩)
            · rw [decide_eq_false k7] at f2
              rw [decide_eq_true (show py - sy < 0 by omega)] at t2'
              (go_enter Tryd.func67, Tryd.ntmps67; go_wp2_with fail; obtain ⟨W, hW⟩ : ∃ W, W = ((w.alloc (.cells #[.float .f64 p.1, .float .f64 p.2] 69)).alloc (.cells #[.float .f64 s.1, .float .f64 s.2] 69)).alloc (.cells #[.float .f64 e.1, .float .f64 e.2] 69) := ⟨_, rfl⟩; rw [← hW]; obtain ⟨P0, P1, P2, P3, P4, P5, PF, PB⟩ := ray_cells hW; clear hW; go_still_tail 4, (by kernel_rfl); still_call ((hinf _).mono (fun _ _ h => ⟨h.1, h.2.symm⟩)); still_call ((hnext' _).mono (fun _ _ h => ⟨h.1, h.2.symm⟩)); refine wpStill_nil ?_; change wpList _ _ _ _ _ W.drew; go_wp2; go_ret2; exact ⟨rfl, (PB.drew).setCell (p := ⟨w.heap.size, 0, none⟩) (Nat.le_refl _) _⟩)
        · rw [decide_eq_false k5] at d1
          by_cases k6 : ey < py
          · rw [decide_eq_true k6] at f3
            rw [decide_eq_false (show ¬ py < sy by omega)]
            (go_enter Tryd.func67, Tryd.ntmps67; go_wp2_with fail; obtain ⟨W, hW⟩ : ∃ W, W = ((w.alloc (.cells #[.float .f64 p.1, .float .f64 p.2] 69)).alloc (.cells #[.float .f64 s.1, .float .f64 s.2] 69)).alloc (.cells #[.float .f64 e.1, .float .f64 e.2] 69) := ⟨_, rfl⟩; rw [← hW]; obtain ⟨P0, P1, P2, P3, P4, P5, PF, PB⟩ := ray_cells hW; clear hW; go_still_tail 4, (by kernel_rfl); still_call ((hinf _).mono (fun _ _ h => ⟨h.1, h.2.symm⟩)); still_call ((hnext' _).mono (fun _ _ h => ⟨h.1, h.2.symm⟩)); refine wpStill_nil ?_; change wpList _ _ _ _ _ W.drew; go_wp2; go_ret2; exact ⟨rfl, (PB.drew).setCell (p := ⟨w.heap.size, 0, none⟩) (Nat.le_refl _) _⟩)
          · rw [decide_eq_false k6] at f3
            by_cases k7 : py < sy
            · rw [decide_eq_true k7] at f4
              rw [decide_eq_true k7]
              (go_enter Tryd.func67, Tryd.ntmps67; go_wp2_with fail; obtain ⟨W, hW⟩ : ∃ W, W = ((w.alloc (.cells #[.float .f64 p.1, .float .f64 p.2] 69)).alloc (.cells #[.float .f64 s.1, .float .f64 s.2] 69)).alloc (.cells #[.float .f64 e.1, .float .f64 e.2] 69) := ⟨_, rfl⟩; rw [← hW]; obtain ⟨P0, P1, P2, P3, P4, P5, PF, PB⟩ := ray_cells hW; clear hW; go_still_tail 4, (by kernel_rfl); still_call ((hinf _).mono (fun _ _ h => ⟨h.1, h.2.symm⟩)); still_call ((hnext' _).mono (fun _ _ h => ⟨h.1, h.2.symm⟩)); refine wpStill_nil ?_; change wpList _ _ _ _ _ W.drew; go_wp2; go_ret2; exact ⟨rfl, (PB.drew).setCell (p := ⟨w.heap.size, 0, none⟩) (Nat.le_refl _) _⟩)
            · rw [decide_eq_false k7] at f4
              rw [decide_eq_false k7]
              rw [decide_eq_false (show ¬ py - sy < 0 by omega)] at t2'
              (go_enter Tryd.func67, Tryd.ntmps67; go_wp2_with fail; obtain ⟨W, hW⟩ : ∃ W, W = ((w.alloc (.cells #[.float .f64 p.1, .float .f64 p.2] 69)).alloc (.cells #[.float .f64 s.1, .float .f64 s.2] 69)).alloc (.cells #[.float .f64 e.1, .float .f64 e.2] 69) := ⟨_, rfl⟩; rw [← hW]; obtain ⟨P0, P1, P2, P3, P4, P5, PF, PB⟩ := ray_cells hW; clear hW; go_still_tail 4, (by kernel_rfl); still_call ((hinf _).mono (fun _ _ h => ⟨h.1, h.2.symm⟩)); still_call ((hnext' _).mono (fun _ _ h => ⟨h.1, h.2.symm⟩)); refine wpStill_nil ?_; change wpList _ _ _ _ _ W.drew; go_wp2; go_ret2; exact ⟨rfl, (PB.drew).setCell (p := ⟨w.heap.size, 0, none⟩) (Nat.le_refl _) _⟩)
  · rw [decide_eq_false k1] at c1
    by_cases k2 : px = ex
    · rw [decide_eq_true k2] at c4
      by_cases k3 : py = ey
      · rw [decide_eq_true k3] at c5
        obtain ⟨u, v⟩ := Ry.l5 (ay := sy) (show sx ≤ ex by omega) k2 k3
        rw [decide_eq_false u, decide_eq_true v]
        clear u v
        (go_enter Tryd.func67, Tryd.ntmps67; go_wp2; go_ret2; exact ⟨rfl, rayBelow _ _ _ _⟩)
      · rw [decide_eq_false k3] at c5
        obtain ⟨u, v⟩ := Ry.l6 (ay := sy) (show sx ≤ ex by omega) k1 k2 k3
        rw [decide_eq_false u, decide_eq_false v]
        rw [decide_eq_true (by omega)] at n2
        rw [decide_eq_false (by omega)] at n1
        clear u v
        (go_enter Tryd.func67, Tryd.ntmps67; go_wp2_with fail; obtain ⟨W, hW⟩ : ∃ W, W = ((w.alloc (.cells #[.float .f64 p.1, .float .f64 p.2] 69)).alloc (.cells #[.float .f64 s.1, .float .f64 s.2] 69)).alloc (.cells #[.float .f64 e.1, .float .f64 e.2] 69) := ⟨_, rfl⟩; rw [← hW]; obtain ⟨P0, P1, P2, P3, P4, P5, PF, PB⟩ := ray_cells hW; clear hW; go_still_tail 4, (by kernel_rfl); still_call ((hinf _).mono (fun _ _ h => ⟨h.1, h.2.symm⟩)); still_call ((hnext' _).mono (fun _ _ h => ⟨h.1, h.2.symm⟩)); refine wpStill_nil ?_; change wpList _ _ _ _ _ W.drew; go_wp2; go_ret2; exact ⟨rfl, (PB.drew).setCell (p := ⟨w.heap.size, 0, none⟩) (Nat.le_refl _) _⟩)
    · rw [decide_eq_false k2] at c4
      by_cases k3 : px < sx
      · rw [decide_eq_true k3] at g1
        obtain ⟨u, v⟩ := Ry.l7 (py := py) (ay := sy) (by' := ey) (show sx ≤ ex by omega) (.inl k3)
        rw [decide_eq_false u, decide_eq_false v]
        clear u v
        (go_enter Tryd.func67, Tryd.ntmps67; go_wp2; go_ret2; exact ⟨rfl, rayBelow _ _ _ _⟩)
      · rw [decide_eq_false k3] at g1
        by_cases k4 : ex < px
        · rw [decide_eq_true k4] at g2
          obtain ⟨u, v⟩ := Ry.l7 (py := py) (ay := sy) (by' := ey) (show sx ≤ ex by omega) (.inr k4)
          rw [decide_eq_false u, decide_eq_false v]
          clear u v
          (go_enter Tryd.func67, Tryd.ntmps67; go_wp2; go_ret2; exact ⟨rfl, rayBelow _ _ _ _⟩)
        · rw [decide_eq_false k4] at g2
          have m1 : sx < px := by omega
          have m2 : px < ex := by omega
          have i1 := isI_sub hp.2 hs.2 (show (py - sy).natAbs ≤ 9007199254740992 by omega)
          have i2 := isI_sub hp.1 hs.1 (show (px - sx).natAbs ≤ 9007199254740992 by omega)
          have i3 := isI_sub he.2 hs.2 (show (ey - sy).natAbs ≤ 9007199254740992 by omega)
          have i4 := isI_sub he.1 hs.1 (show (ex - sx).natAbs ≤ 9007199254740992 by omega)
          obtain ⟨j1, j2, t1, t2⟩ := Ry.quot_cmp i1 i2 i3 i4 (by omega) (by omega) (by omega) (by omega) (by omega) (by omega)
          have r1 := run_fsub (P := Tryd.prog) hp.2.1 hs.2.1 27
          have r2 := run_fsub (P := Tryd.prog) hp.1.1 hs.1.1 27
          have r3 := run_fdiv (P := Tryd.prog) j1 27
          have r4 := run_fsub (P := Tryd.prog) he.2.1 hs.2.1 27
          have r5 := run_fsub (P := Tryd.prog) he.1.1 hs.1.1 27
          have r6 := run_fdiv (P := Tryd.prog) j2 27
          have t1' : (FloatKind.f64.format.order (fdiv (fsub p.2 s.2) (fsub p.1 s.1)) (fdiv (fsub e.2 s.2) (fsub e.1 s.1)) == some .eq) = decide ((py - sy) * (ex - sx) = (ey - sy) * (px - sx)) := t1
          have t2' : (FloatKind.f64.format.order (fdiv (fsub p.2 s.2) (fsub p.1 s.1)) (fdiv (fsub e.2 s.2) (fsub e.1 s.1)) == some .lt) = decide ((py - sy) * (ex - sx) < (ey - sy) * (px - sx)) := t2
          clear i1 i2 i3 i4 j1 j2 t1 t2 hnx
          by_cases k5 : ey < sy
          · rw [decide_eq_true k5] at d1
            by_cases k6 : sy < py
            · rw [decide_eq_true k6] at f1
              obtain ⟨u, v⟩ := Ry.l8 m1 m2 k6 (show ey < py by omega)
              rw [decide_eq_false u, decide_eq_false v]
              clear u v
              (go_enter Tryd.func67, Tryd.ntmps67; go_wp2; go_ret2; exact ⟨rfl, rayBelow _ _ _ _⟩)
            · rw [decide_eq_false k6] at f1
              by_cases k7 : py < ey
              · rw [decide_eq_true k7] at f2
                obtain ⟨u, v⟩ := Ry.l9 m1 m2 (show py < sy by omega) k7
                rw [decide_eq_true u, decide_eq_false v]
                clear u v
                (go_enter Tryd.func67, Tryd.ntmps67; go_wp2; go_ret2; exact ⟨rfl, rayBelow _ _ _ _⟩)
              · rw [decide_eq_false k7] at f2
                obtain ⟨u, v⟩ := Ry.l10 (ay := sy) (by' := ey) m1 m2 (.inr (show ey ≤ py ∧ py ≤ sy by omega))
                have hu : decide (Ry.Up px py sx sy ex ey) = decide ((py - sy) * (ex - sx) < (ey - sy) * (px - sx)) := decide_eq_decide.2 u
                have hv : decide (Ry.On px py sx sy ex ey) = decide ((py - sy) * (ex - sx) = (ey - sy) * (px - sx)) := decide_eq_decide.2 v
                rw [hu, hv]
                clear u v hu hv
                by_cases k8 : (py - sy) * (ex - sx) = (ey - sy) * (px - sx)
                · rw [decide_eq_true k8] at t1' ⊢
                  rw [decide_eq_false (show ¬ (py - sy) * (ex - sx) < (ey - sy) * (px - sx) by omega)]
                  clear k8
                  (go_enter Tryd.func67, Tryd.ntmps67; go_wp2; go_ret2; exact ⟨rfl, rayBelow _ _ _ _⟩)
                · rw [decide_eq_false k8] at t1' ⊢
                  by_cases k9 : (py - sy) * (ex - sx) < (ey - sy) * (px - sx)
                  · rw [decide_eq_true k9] at t2' ⊢
                    clear k8 k9
                    (go_enter Tryd.func67, Tryd.ntmps67; go_wp2; go_ret2; exact ⟨rfl, rayBelow _ _ _ _⟩)
                  · rw [decide_eq_false k9] at t2' ⊢
                    clear k8 k9
                    (go_enter Tryd.func67, Tryd.ntmps67; go_wp2; go_ret2; exact ⟨rfl, rayBelow _ _ _ _⟩)
          · rw [decide_eq_false k5] at d1
            by_cases k6 : ey < py
            · rw [decide_eq_true k6] at f3
              obtain ⟨u, v⟩ := Ry.l8 m1 m2 (show sy < py by omega) k6
              rw [decide_eq_false u, decide_eq_false v]
              clear u v
              (go_enter Tryd.func67, Tryd.ntmps67; go_wp2; go_ret2; exact ⟨rfl, rayBelow _ _ _ _⟩)
            · rw [decide_eq_false k6] at f3
              by_cases k7 : py < sy
              · rw [decide_eq_true k7] at f4
                obtain ⟨u, v⟩ := Ry.l9 m1 m2 k7 (show py < ey by omega)
                rw [decide_eq_true u, decide_eq_false v]
                clear u v
                (go_enter Tryd.func67, Tryd.ntmps67; go_wp2; go_ret2; exact ⟨rfl, rayBelow _ _ _ _⟩)
              · rw [decide_eq_false k7] at f4
                obtain ⟨u, v⟩ := Ry.l10 (ay := sy) (by' := ey) m1 m2 (.inl (show sy ≤ py ∧ py ≤ ey by omega))
                have hu : decide (Ry.Up px py sx sy ex ey) = decide ((py - sy) * (ex - sx) < (ey - sy) * (px - sx)) := decide_eq_decide.2 u
                have hv : decide (Ry.On px py sx sy ex ey) = decide ((py - sy) * (ex - sx) = (ey - sy) * (px - sx)) := decide_eq_decide.2 v
                rw [hu, hv]
                clear u v hu hv
                by_cases k8 : (py - sy) * (ex - sx) = (ey - sy) * (px - sx)
                · rw [decide_eq_true k8] at t1' ⊢
                  rw [decide_eq_false (show ¬ (py - sy) * (ex - sx) < (ey - sy) * (px - sx) by omega)]
                  clear k8
                  (go_enter Tryd.func67, Tryd.ntmps67; go_wp2; go_ret2; exact ⟨rfl, rayBelow _ _ _ _⟩)
                · rw [decide_eq_false k8] at t1' ⊢
                  by_cases k9 : (py - sy) * (ex - sx) < (ey - sy) * (px - sx)
                  · rw [decide_eq_true k9] at t2' ⊢
                    clear k8 k9
                    (go_enter Tryd.func67, Tryd.ntmps67; go_wp2; go_ret2; exact ⟨rfl, rayBelow _ _ _ _⟩)
                  · rw [decide_eq_false k9] at t2' ⊢
                    clear k8 k9
                    (go_enter Tryd.func67, Tryd.ntmps67; go_wp2; go_ret2; exact ⟨rfl, rayBelow _ _ _ _⟩)

set_option maxRecDepth 100000 in
set_option maxHeartbeats 4000000 in
theorem ray_sw (p s e : Nat × Nat) (px py sx sy ex ey : Int) (w : World) (hp : IsP p px py) (hs : IsP s sx sy) (he : IsP e ex ey) (mp : Rg.Mid px ∧ Rg.Mid py) (ms : Rg.Mid sx ∧ Rg.Mid sy) (me : Rg.Mid ex ∧ Rg.Mid ey) (bp : p.1 < 18446744073709551616) (hle : ex < sx) :
    Calls Tryd.prog 67 #[.agg #[.float .f64 p.1, .float .f64 p.2], .agg #[.float .f64 s.1, .float .f64 s.2], .agg #[.float .f64 e.1, .float .f64 e.2]] w
      fun r w' => r = .returned (.tuple #[.bool (decide (Ry.Up px py ex ey sx sy)), .bool (decide (Ry.On px py ex ey sx sy))]) ∧ Below w.heap.size w w' := by
  unfold Rg.Mid at mp ms me
  have o1 : (FloatKind.f64.format.order s.1 e.1 == some .gt) = decide (ex < sx) := isI_gt hs.1 he.1
  rw [decide_eq_true (by omega)] at o1
  have c1 : (FloatKind.f64.format.order p.1 e.1 == some .eq) = decide (px = ex) := isI_eq hp.1 he.1
  have c2 : (FloatKind.f64.format.order p.2 e.2 == some .eq) = decide (py = ey) := isI_eq hp.2 he.2
  have c3 : (FloatKind.f64.format.order e.1 s.1 == some .eq) = decide (ex = sx) := isI_eq he.1 hs.1
  have c4 : (FloatKind.f64.format.order p.1 s.1 == some .eq) = decide (px = sx) := isI_eq hp.1 hs.1
  have c5 : (FloatKind.f64.format.order p.2 s.2 == some .eq) = decide (py = sy) := isI_eq hp.2 hs.2
  have d1 : (FloatKind.f64.format.order e.2 s.2 == some .gt) = decide (sy < ey) := isI_gt he.2 hs.2
  have d2 : (FloatKind.f64.format.order s.2 e.2 == some .gt) = decide (ey < sy) := isI_gt hs.2 he.2
  have d3 := isI_ge he.2 hp.2
  have d4 := isI_ge hp.2 hs.2
  have d5 := isI_ge hs.2 hp.2
  have d6 := isI_ge hp.2 he.2
  have f1 : (FloatKind.f64.format.order p.2 e.2 == some .gt) = decide (ey < py) := isI_gt hp.2 he.2
  have f2 : (FloatKind.f64.format.order p.2 s.2 == some .lt) = decide (py < sy) := isI_lt hp.2 hs.2
  have f3 : (FloatKind.f64.format.order p.2 s.2 == some .gt) = decide (sy < py) := isI_gt hp.2 hs.2
  have f4 : (FloatKind.f64.format.order p.2 e.2 == some .lt) = decide (py < ey) := isI_lt hp.2 he.2
  have g1 : (FloatKind.f64.format.order p.1 e.1 == some .lt) = decide (px < ex) := isI_lt hp.1 he.1
  have g2 : (FloatKind.f64.format.order p.1 s.1 == some .gt) = decide (sx < px) := isI_gt hp.1 hs.1
  have hinf := inf_any
  have hnext := fun w => next_any hp.1 bp (show px.natAbs ≤ 2047 by omega) w
  have hnx := Ry.nx_of hp.1 bp (show px.natAbs ≤ 2047 by omega)
  have n1 : (FloatKind.f64.format.order (Ry.nxt p.1 px) e.1 == some .lt) = decide (px < ex) := Ry.nx_lt hnx he.1
  have n2 : (FloatKind.f64.format.order (Ry.nxt p.1 px) s.1 == some .gt) = decide (sx ≤ px) := Ry.nx_gt hnx hs.1
  obtain ⟨q, hq⟩ : ∃ q, q = Ry.nxt p.1 px := ⟨_, rfl⟩
  rw [← hq] at hnx n1 n2
  have hnext' : ∀ w, Calls Tryd.prog 91 #[.float .f64 p.1, .float .f64 9218868437227405312] w fun e w' => e = .returned (.float .f64 q) ∧ w = w' := by rw [hq]; exact hnext
  clear hnext hq
  by_cases k1 : px = ex
  · rw [decide_eq_true k1] at c1
    by_cases k2 : py = ey
    · obtain ⟨u, v⟩ := Ry.l1 (by' := sy) (show ex ≤ sx by omega) k1 k2
      rw [decide_eq_false u, decide_eq_true v]
      rw [decide_eq_true k2] at c2
      clear u v
      (go_enter Tryd.func67, Tryd.ntmps67; go_wp2; go_ret2; exact ⟨rfl, rayBelow _ _ _ _⟩)
    · rw [decide_eq_false k2] at c2
      by_cases k3 : ex = sx
      · exact absurd k3 (by omega)
      · rw [decide_eq_false k3] at c3
        rw [decide_eq_false (by omega)] at n1 n2
        obtain ⟨u, v⟩ := Ry.l4 (by' := sy) (show ex < sx by omega) k1 k2
        have hu : decide (Ry.Up px py ex ey sx sy) = decide (py < ey) := decide_eq_decide.2 u
        rw [hu, decide_eq_false v]
        clear u v hu
        have i1 := isI_sub hp.2 he.2 (show (py - ey).natAbs ≤ 9007199254740992 by omega)
        have i2 := isI_sub hs.2 he.2 (show (sy - ey).natAbs ≤ 9007199254740992 by omega)
        have i3 := isI_sub hs.1 he.1 (show (sx - ex).natAbs ≤ 9007199254740992 by omega)
        rw [← k1] at he
        obtain ⟨j1, j2, j3⟩ := Ry.tiny i1 (show py - ey ≠ 0 by omega) (by omega) hnx he.1
        rw [k1] at he
        obtain ⟨j4, j5, _⟩ := bd_div (k := 13) i2 i3 (by omega) (by omega) (by omega)
        obtain ⟨t1, t2⟩ := j3 _ j5.1 j5.2.1 j5.2.2
        have r1 := run_fsub (P := Tryd.prog) hp.2.1 he.2.1 27
        have r2 := run_fsub (P := Tryd.prog) hnx.fin he.1.1 27
        have r3 := run_fdiv (P := Tryd.prog) j2 27
        have r4 := run_fsub (P := Tryd.prog) hs.2.1 he.2.1 27
        have r5 := run_fsub (P := Tryd.prog) hs.1.1 he.1.1 27
        have r6 := run_fdiv (P := Tryd.prog) j4 27
        have t1' : (FloatKind.f64.format.order (fdiv (fsub p.2 e.2) (fsub q e.1)) (fdiv (fsub s.2 e.2) (fsub s.1 e.1)) == some .eq) = false := t1
        have t2' : (FloatKind.f64.format.order (fdiv (fsub p.2 e.2) (fsub q e.1)) (fdiv (fsub s.2 e.2) (fsub s.1 e.1)) == some .lt) = decide (py - ey < 0) := t2
        clear i1 i2 i3 j1 j2 j3 j4 j5 t1 t2 hnx
        by_cases k5 : sy < ey
        · rw [decide_eq_true k5] at d1
          by_cases k6 : ey < py
          · rw [decide_eq_true k6] at f1
            rw [decide_eq_false (show ¬ py < ey by omega)]
            (go_enter Tryd.func67, Tryd.ntmps67; go_wp2_with fail; obtain ⟨W, hW⟩ : ∃ W, W = ((w.alloc (.cells #[.float .f64 p.1, .float .f64 p.2] 69)).alloc (.cells #[.float .f64 e.1, .float .f64 e.2] 69)).alloc (.cells #[.float .f64 s.1, .float .f64 s.2] 69) := ⟨_, rfl⟩; rw [← hW]; obtain ⟨P0, P1, P2, P3, P4, P5, PF, PB⟩ := ray_cells hW; clear hW; go_still_tail 4, (by kernel_rfl); still_call ((hinf _).mono (fun _ _ h => ⟨h.1, h.2.symm⟩)); still_call ((hnext' _).mono (fun _ _ h => ⟨h.1, h.2.symm⟩)); refine wpStill_nil ?_; change wpList _ _ _ _ _ W.drew; go_wp2; go_ret2; exact ⟨rfl, (PB.drew).setCell (p := ⟨w.heap.size, 0, none⟩) (Nat.le_refl _) _⟩)
          · rw [decide_eq_false k6] at f1
            rw [decide_eq_true (show py < ey by omega)]
            by_cases k7 : py < sy
            · rw [decide_eq_true k7] at f2
              (go_enter Tryd.func67, Tryd.ntmps67; go_wp2_with fail; obtain ⟨W, hW⟩ : ∃ W, W = ((w.alloc (.cells #[.float .f64 p.1, .float .f64 p.2] 69)).alloc (.cells #[.float .f64 e.1, .float .f64 e.2] 69)).alloc (.cells #[.float .f64 s.1, .float .f64 s.2] 69) := ⟨_, rfl⟩; rw [← hW]; obtain ⟨P0, P1, P2, P3, P4, P5, PF, PB⟩ := ray_cells hW; clear hW; go_still_tail 4, (by kernel_rfl); still_call ((hinf _).mono (fun _ _ h => ⟨h.1, h.2.symm⟩)); still_call ((hnext' _).mono (fun _ _ h => ⟨h.1, h.2.symm⟩)); refine wpStill_nil ?_; change wpList _ _ _ _ _ W.drew; go_wp2; go_ret2; exact ⟨rfl, (PB.drew).setCell (p := ⟨w.heap.size, 0, none⟩) (Nat.le_refl _) _⟩)
            · rw [decide_eq_false k7] at f2
              rw [decide_eq_true (show py - ey < 0 by omega)] at t2'
              (go_enter Tryd.func67, Tryd.ntmps67; go_wp2_with fail; obtain ⟨W, hW⟩ : ∃ W, W = ((w.alloc (.cells #[.float .f64 p.1, .float .f64 p.2] 69)).alloc (.cells #[.float .f64 e.1, .float .f64 e.2] 69)).alloc (.cells #[.float .f64 s.1, .float .f64 s.2] 69) := ⟨_, rfl⟩; rw [← hW]; obtain ⟨P0, P1, P2, P3, P4, P5, PF, PB⟩ := ray_cells hW; clear hW; go_still_tail 4, (by kernel_rfl); still_call ((hinf _).mono (fun _ _ h => ⟨h.1, h.2.symm⟩)); still_call ((hnext' _).mono (fun _ _ h => ⟨h.1, h.2.symm⟩)); refine wpStill_nil ?_; change wpList _ _ _ _ _ W.drew; go_wp2; go_ret2; exact ⟨rfl, (PB.drew).setCell (p := ⟨w.heap.size, 0, none⟩) (Nat.le_refl _) _⟩)
        · rw [decide_eq_false k5] at d1
          by_cases k6 : sy < py
          · rw [decide_eq_true k6] at f3
            rw [decide_eq_false (show ¬ py < ey by omega)]
            (go_enter Tryd.func67, Tryd.ntmps67; go_wp2_with fail; obtain ⟨W, hW⟩ : ∃ W, W = ((w.alloc (.cells #[.float .f64 p.1, .float .f64 p.2] 69)).alloc (.cells #[.float .f64 e.1, .float .f64 e.2] 69)).alloc (.cells #[.float .f64 s.1, .float .f64 s.2] 69) := ⟨_, rfl⟩; rw [← hW]; obtain ⟨P0, P1, P2, P3, P4, P5, PF, PB⟩ := ray_cells hW; clear hW; go_still_tail 4, (by kernel_rfl); still_call ((hinf _).mono (fun _ _ h => ⟨h.1, h.2.symm⟩)); still_call ((hnext' _).mono (fun _ _ h => ⟨h.1, h.2.symm⟩)); refine wpStill_nil ?_; change wpList _ _ _ _ _ W.drew; go_wp2; go_ret2; exact ⟨rfl, (PB.drew).setCell (p := ⟨w.heap.size, 0, none⟩) (Nat.le_refl _) _⟩)
          · rw [decide_eq_false k6] at f3
            by_cases k7 : py < ey
            · rw [decide_eq_true k7] at f4
              rw [decide_eq_true k7]
              (go_enter Tryd.func67, Tryd.ntmps67; go_wp2_with fail; obtain ⟨W, hW⟩ : ∃ W, W = ((w.alloc (.cells #[.float .f64 p.1, .float .f64 p.2] 69)).alloc (.cells #[.float .f64 e.1, .float .f64 e.2] 69)).alloc (.cells #[.float .f64 s.1, .float .f64 s.2] 69) := ⟨_, rfl⟩; rw [← hW]; obtain ⟨P0, P1, P2, P3, P4, P5, PF, PB⟩ := ray_cells hW; clear hW; go_still_tail 4, (by kernel_rfl); still_call ((hinf _).mono (fun _ _ h => ⟨h.1, h.2.symm⟩)); still_call ((hnext' _).mono (fun _ _ h => ⟨h.1, h.2.symm⟩)); refine wpStill_nil ?_; change wpList _ _ _ _ _ W.drew; go_wp2; go_ret2; exact ⟨rfl, (PB.drew).setCell (p := ⟨w.heap.size, 0, none⟩) (Nat.le_refl _) _⟩)
            · rw [decide_eq_false k7] at f4
              rw [decide_eq_false k7]
              rw [decide_eq_false (show ¬ py - ey < 0 by omega)] at t2'
              (go_enter Tryd.func67, Tryd.ntmps67; go_wp2_with fail; obtain ⟨W, hW⟩ : ∃ W, W = ((w.alloc (.cells #[.float .f64 p.1, .float .f64 p.2] 69)).alloc (.cells #[.float .f64 e.1, .float .f64 e.2] 69)).alloc (.cells #[.float .f64 s.1, .float .f64 s.2] 69) := ⟨_, rfl⟩; rw [← hW]; obtain ⟨P0, P1, P2, P3, P4, P5, PF, PB⟩ := ray_cells hW; clear hW; go_still_tail 4, (by kernel_rfl); still_call ((hinf _).mono (fun _ _ h => ⟨h.1, h.2.symm⟩)); still_call ((hnext' _).mono (fun _ _ h => ⟨h.1, h.2.symm⟩)); refine wpStill_nil ?_; change wpList _ _ _ _ _ W.drew; go_wp2; go_ret2; exact ⟨rfl, (PB.drew).setCell (p := ⟨w.heap.size, 0, none⟩) (Nat.le_refl _) _⟩)
  · rw [decide_eq_false k1] at c1
    by_cases k2 : px = sx
    · rw [decide_eq_true k2] at c4
      by_cases k3 : py = sy
      · rw [decide_eq_true k3] at c5
        obtain ⟨u, v⟩ := Ry.l5 (ay := ey) (show ex ≤ sx by omega) k2 k3
        rw [decide_eq_false u, decide_eq_true v]
        clear u v
        (go_enter Tryd.func67, Tryd.ntmps67; go_wp2; go_ret2; exact ⟨rfl, rayBelow _ _ _ _⟩)
      · rw [decide_eq_false k3] at c5
        obtain ⟨u, v⟩ := Ry.l6 (ay := ey) (show ex ≤ sx by omega) k1 k2 k3
        rw [decide_eq_false u, decide_eq_false v]
        rw [decide_eq_true (by omega)] at n2
        rw [decide_eq_false (by omega)] at n1
        clear u v
        (go_enter Tryd.func67, Tryd.ntmps67; go_wp2_with fail; obtain ⟨W, hW⟩ : ∃ W, W = ((w.alloc (.cells #[.float .f64 p.1, .float .f64 p.2] 69)).alloc (.cells #[.float .f64 e.1, .float .f64 e.2] 69)).alloc (.cells #[.float .f64 s.1, .float .f64 s.2] 69) := ⟨_, rfl⟩; rw [← hW]; obtain ⟨P0, P1, P2, P3, P4, P5, PF, PB⟩ := ray_cells hW; clear hW; go_still_tail 4, (by kernel_rfl); still_call ((hinf _).mono (fun _ _ h => ⟨h.1, h.2.symm⟩)); still_call ((hnext' _).mono (fun _ _ h => ⟨h.1, h.2.symm⟩)); refine wpStill_nil ?_; change wpList _ _ _ _ _ W.drew; go_wp2; go_ret2; exact ⟨rfl, (PB.drew).setCell (p := ⟨w.heap.size, 0, none⟩) (Nat.le_refl _) _⟩)
    · rw [decide_eq_false k2] at c4
      by_cases k3 : px < ex
      · rw [decide_eq_true k3] at g1
        obtain ⟨u, v⟩ := Ry.l7 (py := py) (ay := ey) (by' := sy) (show ex ≤ sx by omega) (.inl k3)
        rw [decide_eq_false u, decide_eq_false v]
        clear u v
        (go_enter Tryd.func67, Tryd.ntmps67; go_wp2; go_ret2; exact ⟨rfl, rayBelow _ _ _ _⟩)
      · rw [decide_eq_false k3] at g1
        by_cases k4 : sx < px
        · rw [decide_eq_true k4] at g2
          obtain ⟨u, v⟩ := Ry.l7 (py := py) (ay := ey) (by' := sy) (show ex ≤ sx by omega) (.inr k4)
          rw [decide_eq_false u, decide_eq_false v]
          clear u v
          (go_enter Tryd.func67, Tryd.ntmps67; go_wp2; go_ret2; exact ⟨rfl, rayBelow _ _ _ _⟩)
        · rw [decide_eq_false k4] at g2
          have m1 : ex < px := by omega
          have m2 : px < sx := by omega
          have i1 := isI_sub hp.2 he.2 (show (py - ey).natAbs ≤ 9007199254740992 by omega)
          have i2 := isI_sub hp.1 he.1 (show (px - ex).natAbs ≤ 9007199254740992 by omega)
          have i3 := isI_sub hs.2 he.2 (show (sy - ey).natAbs ≤ 9007199254740992 by omega)
          have i4 := isI_sub hs.1 he.1 (show (sx - ex).natAbs ≤ 9007199254740992 by omega)
          obtain ⟨j1, j2, t1, t2⟩ := Ry.quot_cmp i1 i2 i3 i4 (by omega) (by omega) (by omega) (by omega) (by omega) (by omega)
          have r1 := run_fsub (P := Tryd.prog) hp.2.1 he.2.1 27
          have r2 := run_fsub (P := Tryd.prog) hp.1.1 he.1.1 27
          have r3 := run_fdiv (P := Tryd.prog) j1 27
          have r4 := run_fsub (P := Tryd.prog) hs.2.1 he.2.1 27
          have r5 := run_fsub (P := Tryd.prog) hs.1.1 he.1.1 27
          have r6 := run_fdiv (P := Tryd.prog) j2 27
          have t1' : (FloatKind.f64.format.order (fdiv (fsub p.2 e.2) (fsub p.1 e.1)) (fdiv (fsub s.2 e.2) (fsub s.1 e.1)) == some .eq) = decide ((py - ey) * (sx - ex) = (sy - ey) * (px - ex)) := t1
          have t2' : (FloatKind.f64.format.order (fdiv (fsub p.2 e.2) (fsub p.1 e.1)) (fdiv (fsub s.2 e.2) (fsub s.1 e.1)) == some .lt) = decide ((py - ey) * (sx - ex) < (sy - ey) * (px - ex)) := t2
          clear i1 i2 i3 i4 j1 j2 t1 t2 hnx
          by_cases k5 : sy < ey
          · rw [decide_eq_true k5] at d1
            by_cases k6 : ey < py
            · rw [decide_eq_true k6] at f1
              obtain ⟨u, v⟩ := Ry.l8 m1 m2 k6 (show sy < py by omega)
              rw [decide_eq_false u, decide_eq_false v]
              clear u v
              (go_enter Tryd.func67, Tryd.ntmps67; go_wp2; go_ret2; exact ⟨rfl, rayBelow _ _ _ _⟩)
            · rw [decide_eq_false k6] at f1
              by_cases k7 : py < sy
              · rw [decide_eq_true k7] at f2
                obtain ⟨u, v⟩ := Ry.l9 m1 m2 (show py < ey by omega) k7
                rw [decide_eq_true u, decide_eq_false v]
                clear u v
                (go_enter Tryd.func67, Tryd.ntmps67; go_wp2; go_ret2; exact ⟨rfl, rayBelow _ _ _ _⟩)
              · rw [decide_eq_false k7] at f2
                obtain ⟨u, v⟩ := Ry.l10 (ay := ey) (by' := sy) m1 m2 (.inr (show sy ≤ py ∧ py ≤ ey by omega))
                have hu : decide (Ry.Up px py ex ey sx sy) = decide ((py - ey) * (sx - ex) < (sy - ey) * (px - ex)) := decide_eq_decide.2 u
                have hv : decide (Ry.On px py ex ey sx sy) = decide ((py - ey) * (sx - ex) = (sy - ey) * (px - ex)) := decide_eq_decide.2 v
                rw [hu, hv]
                clear u v hu hv
                by_cases k8 : (py - ey) * (sx - ex) = (sy - ey) * (px - ex)
                · rw [decide_eq_true k8] at t1' ⊢
                  rw [decide_eq_false (show ¬ (py - ey) * (sx - ex) < (sy - ey) * (px - ex) by omega)]
                  clear k8
                  (go_enter Tryd.func67, Tryd.ntmps67; go_wp2; go_ret2; exact ⟨rfl, rayBelow _ _ _ _⟩)
                · rw [decide_eq_false k8] at t1' ⊢
                  by_cases k9 : (py - ey) * (sx - ex) < (sy - ey) * (px - ex)
                  · rw [decide_eq_true k9] at t2' ⊢
                    clear k8 k9
                    (go_enter Tryd.func67, Tryd.ntmps67; go_wp2; go_ret2; exact ⟨rfl, rayBelow _ _ _ _⟩)
                  · rw [decide_eq_false k9] at t2' ⊢
                    clear k8 k9
                    (go_enter Tryd.func67, Tryd.ntmps67; go_wp2; go_ret2; exact ⟨rfl, rayBelow _ _ _ _⟩)
          · rw [decide_eq_false k5] at d1
            by_cases k6 : sy < py
            · rw [decide_eq_true k6] at f3
              obtain ⟨u, v⟩ := Ry.l8 m1 m2 (show ey < py by omega) k6
              rw [decide_eq_false u, decide_eq_false v]
              clear u v
              (go_enter Tryd.func67, Tryd.ntmps67; go_wp2; go_ret2; exact ⟨rfl, rayBelow _ _ _ _⟩)
            · rw [decide_eq_false k6] at f3
              by_cases k7 : py < ey
              · rw [decide_eq_true k7] at f4
                obtain ⟨u, v⟩ := Ry.l9 m1 m2 k7 (show py < sy by omega)
                rw [decide_eq_true u, decide_eq_false v]
                clear u v
                (go_enter Tryd.func67, Tryd.ntmps67; go_wp2; go_ret2; exact ⟨rfl, rayBelow _ _ _ _⟩)
              · rw [decide_eq_false k7] at f4
                obtain ⟨u, v⟩ := Ry.l10 (ay := ey) (by' := sy) m1 m2 (.inl (show ey ≤ py ∧ py ≤ sy by omega))
                have hu : decide (Ry.Up px py ex ey sx sy) = decide ((py - ey) * (sx - ex) < (sy - ey) * (px - ex)) := decide_eq_decide.2 u
                have hv : decide (Ry.On px py ex ey sx sy) = decide ((py - ey) * (sx - ex) = (sy - ey) * (px - ex)) := decide_eq_decide.2 v
                rw [hu, hv]
                clear u v hu hv
                by_cases k8 : (py - ey) * (sx - ex) = (sy - ey) * (px - ex)
                · rw [decide_eq_true k8] at t1' ⊢
                  rw [decide_eq_false (show ¬ (py - ey) * (sx - ex) < (sy - ey) * (px - ex) by omega)]
                  clear k8
                  (go_enter Tryd.func67, Tryd.ntmps67; go_wp2; go_ret2; exact ⟨rfl, rayBelow _ _ _ _⟩)
                · rw [decide_eq_false k8] at t1' ⊢
                  by_cases k9 : (py - ey) * (sx - ex) < (sy - ey) * (px - ex)
                  · rw [decide_eq_true k9] at t2' ⊢
                    clear k8 k9
                    (go_enter Tryd.func67, Tryd.ntmps67; go_wp2; go_ret2; exact ⟨rfl, rayBelow _ _ _ _⟩)
                  · rw [decide_eq_false k9] at t2' ⊢
                    clear k8 k9
                    (go_enter Tryd.func67, Tryd.ntmps67; go_wp2; go_ret2; exact ⟨rfl, rayBelow _ _ _ _⟩)


/-- rayIntersect: whether a line upwards from the point goes through the segment, and whether the point is on it. -/
theorem ray_any (p s e : Nat × Nat) (px py sx sy ex ey : Int) (w : World) (hp : IsP p px py) (hs : IsP s sx sy) (he : IsP e ex ey) (mp : Rg.Mid px ∧ Rg.Mid py) (ms : Rg.Mid sx ∧ Rg.Mid sy) (me : Rg.Mid ex ∧ Rg.Mid ey) (bp : p.1 < 18446744073709551616) :
    Calls Tryd.prog 67 #[.agg #[.float .f64 p.1, .float .f64 p.2], .agg #[.float .f64 s.1, .float .f64 s.2], .agg #[.float .f64 e.1, .float .f64 e.2]] w
      fun r w' => r = .returned (.tuple #[.bool (decide (Ry.Up px py sx sy ex ey)), .bool (decide (Ry.On px py sx sy ex ey))]) ∧ Below w.heap.size w w' := by
  by_cases h : sx ≤ ex
  · exact ray_ns p s e px py sx sy ex ey w hp hs he mp ms me bp h
  · have := ray_sw p s e px py sx sy ex ey w hp hs he mp ms me bp (by omega)
    rw [decide_eq_decide.2 Ry.up_comm, decide_eq_decide.2 Ry.on_comm]
    exact this
end Go.Proofs.YtpbhpplmokdkhaaDoor
