/- The walks of orb.Bound's methods and of MultiPoint.Bound. -/
import Derived.Test.YtpbhpplmokdkhaaDoorMm
import Derived.Test.YtpbhpplmokdkhaaDoorRg1
namespace Go.Proofs.YtpbhpplmokdkhaaDoor
open Go.RowKit Fl

theorem bdBelow2 (w : World) (o1 o2 : Obj) : Below w.heap.size w ((w.alloc o1).alloc o2) := ((Below.refl _ _).alloc (Nat.le_refl _) _).alloc (by simp) _
theorem bdBelow3 (w : World) (o1 o2 o3 : Obj) : Below w.heap.size w (((w.alloc o1).alloc o2).alloc o3) := (bdBelow2 w o1 o2).alloc (by simp; omega) _
/-- The three blocks that a function makes at its entry. -/
theorem three_blk {w W : World} {c1 c2 c3 : Array Value} {T1 T2 T3 : TypeId} (hW : W = ((w.alloc (.cells c1 T1)).alloc (.cells c2 T2)).alloc (.cells c3 T3)) :
    Blk W w.heap.size c1 T1 ∧ Blk W (w.heap.size + 1) c2 T2 ∧ Blk W (w.heap.size + 1 + 1) c3 T3 ∧ Below w.heap.size w W ∧ W.heap.size = w.heap.size + 3 := by
  refine ⟨?_, ?_, ?_, by rw [hW]; exact bdBelow3 _ _ _ _, by rw [hW]; simp⟩
  · rw [hW]; exact (heap_alloc_old _ _ (by simp; omega)).trans (heap_alloc2_old w _ _)
  · rw [hW]; exact (heap_alloc_old _ _ (by simp)).trans (heap_alloc2_new w _ _)
  · rw [hW]
    have := heap_alloc_new ((w.alloc (.cells c1 T1)).alloc (.cells c2 T2)) (.cells c3 T3)
    simpa [Blk] using this
theorem size_bound : (Tryd.prog.info? 89).map (·.size) = some 4 := by kernel_rfl
theorem cells4 {W : World} {b : Nat} {u0 u1 u2 u3 : Value} {T : TypeId} (h : Blk W b #[u0, u1, u2, u3] T) :
    (W.cell? ⟨b, 0, none⟩ = some u0 ∧ W.cell? ⟨b, 1, none⟩ = some u1 ∧ W.cell? ⟨b, 2, none⟩ = some u2 ∧ W.cell? ⟨b, 3, none⟩ = some u3) ∧
    W.frozen? ⟨b, 0, none⟩ = false ∧ W.frozen? ⟨b, 1, none⟩ = false ∧ W.frozen? ⟨b, 2, none⟩ = false ∧ W.frozen? ⟨b, 3, none⟩ = false :=
  ⟨⟨(blk_cell h (i := 0) rfl).1, (blk_cell h (i := 1) rfl).1, (blk_cell h (i := 2) rfl).1, (blk_cell h (i := 3) rfl).1⟩, (blk_cell h (i := 0) (v := u0) rfl).2, (blk_cell h (i := 1) (v := u1) rfl).2, (blk_cell h (i := 2) (v := u2) rfl).2, (blk_cell h (i := 3) (v := u3) rfl).2⟩
theorem cells2 {W : World} {b : Nat} {u0 u1 : Value} {T : TypeId} (h : Blk W b #[u0, u1] T) :
    (W.cell? ⟨b, 0, none⟩ = some u0 ∧ W.cell? ⟨b, 1, none⟩ = some u1) ∧ W.frozen? ⟨b, 0, none⟩ = false ∧ W.frozen? ⟨b, 1, none⟩ = false :=
  ⟨⟨(blk_cell h (i := 0) rfl).1, (blk_cell h (i := 1) rfl).1⟩, (blk_cell h (i := 0) (v := u0) rfl).2, (blk_cell h (i := 1) (v := u1) rfl).2⟩
/-- A box as a value. -/
def boxV (m M : Nat × Nat) : Value := .agg #[.float .f64 m.1, .float .f64 m.2, .float .f64 M.1, .float .f64 M.2]

set_option maxRecDepth 100000 in
theorem contains_any (m M p : Nat × Nat) (x0 y0 x1 y1 px py : Int) (w : World) (hm : IsP m x0 y0) (hM : IsP M x1 y1) (hp : IsP p px py) :
    Calls Tryd.prog 66 #[boxV m M, .agg #[.float .f64 p.1, .float .f64 p.2]] w fun e w' => e = .returned (.bool (decide ((y0 ≤ py ∧ py ≤ y1) ∧ x0 ≤ px ∧ px ≤ x1))) ∧ Below w.heap.size w w' := by
  have o1 : (FloatKind.f64.format.order p.2 m.2 == some .lt) = decide (py < y0) := isI_lt hp.2 hm.2
  have o2 : (FloatKind.f64.format.order M.2 p.2 == some .lt) = decide (y1 < py) := isI_lt hM.2 hp.2
  have o3 : (FloatKind.f64.format.order p.1 m.1 == some .lt) = decide (px < x0) := isI_lt hp.1 hm.1
  have o4 : (FloatKind.f64.format.order M.1 p.1 == some .lt) = decide (x1 < px) := isI_lt hM.1 hp.1
  unfold boxV
  by_cases k1 : py < y0
  · rw [decide_eq_true k1] at o1
    rw [decide_eq_false (by omega)]
    clear k1 hm hM hp o2 o3 o4
    go_enter Tryd.func66, Tryd.ntmps66
    go_wp2
    go_ret
    exact ⟨rfl, bdBelow2 _ _ _⟩
  · rw [decide_eq_false k1] at o1
    by_cases k2 : y1 < py
    · rw [decide_eq_true k2] at o2
      rw [decide_eq_false (by omega)]
      clear k1 k2 hm hM hp o3 o4
      go_enter Tryd.func66, Tryd.ntmps66
      go_wp2
      go_ret
      exact ⟨rfl, bdBelow2 _ _ _⟩
    · rw [decide_eq_false k2] at o2
      by_cases k3 : px < x0
      · rw [decide_eq_true k3] at o3
        rw [decide_eq_false (by omega)]
        clear k1 k2 k3 hm hM hp o4
        go_enter Tryd.func66, Tryd.ntmps66
        go_wp2
        go_ret
        exact ⟨rfl, bdBelow2 _ _ _⟩
      · rw [decide_eq_false k3] at o3
        by_cases k4 : x1 < px
        · rw [decide_eq_true k4] at o4
          rw [decide_eq_false (by omega)]
          clear k1 k2 k3 k4 hm hM hp
          go_enter Tryd.func66, Tryd.ntmps66
          go_wp2
          go_ret
          exact ⟨rfl, bdBelow2 _ _ _⟩
        · rw [decide_eq_false k4] at o4
          rw [decide_eq_true (by omega)]
          clear k1 k2 k3 k4 hm hM hp
          go_enter Tryd.func66, Tryd.ntmps66
          go_wp2
          go_ret
          exact ⟨rfl, bdBelow2 _ _ _⟩

set_option maxRecDepth 100000 in
theorem isEmpty_any (m M : Nat × Nat) (x0 y0 x1 y1 : Int) (w : World) (hm : IsP m x0 y0) (hM : IsP M x1 y1) (h1 : x0 ≤ x1) (h2 : y0 ≤ y1) :
    Calls Tryd.prog 100 #[boxV m M] w fun e w' => e = .returned (.bool false) ∧ Below w.heap.size w w' := by
  have o1 : (FloatKind.f64.format.order m.1 M.1 == some .gt) = decide (x1 < x0) := isI_gt hm.1 hM.1
  have o2 : (FloatKind.f64.format.order m.2 M.2 == some .gt) = decide (y1 < y0) := isI_gt hm.2 hM.2
  rw [decide_eq_false (by omega)] at o1 o2
  unfold boxV
  clear h1 h2 hm hM
  go_enter Tryd.func100, Tryd.ntmps100
  go_wp2
  go_ret
  exact ⟨rfl, (Below.refl _ _).alloc (Nat.le_refl _) _⟩

/-- A box that holds another one and a point. -/
structure Holds (x0 y0 x1 y1 px py X0 Y0 X1 Y1 : Int) : Prop where
  a : X0 ≤ x0
  b : Y0 ≤ y0
  c : x1 ≤ X1
  d : y1 ≤ Y1
  e : X0 ≤ px ∧ px ≤ X1
  f : Y0 ≤ py ∧ py ≤ Y1

set_option maxRecDepth 100000 in
set_option maxHeartbeats 1000000 in
theorem extend_any (m M p : Nat × Nat) (x0 y0 x1 y1 px py : Int) (w : World) (hm : IsP m x0 y0) (hM : IsP M x1 y1) (hp : IsP p px py) (h1 : x0 ≤ x1) (h2 : y0 ≤ y1) :
    Calls Tryd.prog 99 #[boxV m M, .agg #[.float .f64 p.1, .float .f64 p.2]] w
      fun e w' => ∃ m' M' X0 Y0 X1 Y1, e = .returned (boxV m' M') ∧ IsP m' X0 Y0 ∧ IsP M' X1 Y1 ∧ Holds x0 y0 x1 y1 px py X0 Y0 X1 Y1 ∧ Below w.heap.size w w' := by
  have hE := fun w => isEmpty_any m M x0 y0 x1 y1 w hm hM h1 h2
  have hC := fun w => contains_any m M p x0 y0 x1 y1 px py w hm hM hp
  unfold boxV at hE hC ⊢
  obtain ⟨W, hW⟩ : ∃ W, W = ((w.alloc (.cells #[.float .f64 m.1, .float .f64 m.2, .float .f64 M.1, .float .f64 M.2] 89)).alloc (.cells #[.float .f64 p.1, .float .f64 p.2] 69)).alloc (.cells #[.float .f64 0, .float .f64 0, .float .f64 0, .float .f64 0] 89) := ⟨_, rfl⟩
  obtain ⟨B1, B2, B3, B4, B5⟩ := three_blk hW
  have H1 := Lib.hid (And.intro B1 (And.intro B2 (And.intro B3 (And.intro B4 B5))))
  clear B1 B2 B3 B4 B5
  by_cases hin : (y0 ≤ py ∧ py ≤ y1) ∧ x0 ≤ px ∧ px ≤ x1
  · rw [decide_eq_true hin] at hC
    have H := Lib.hid (And.intro hm (And.intro hM (And.intro hin (And.intro h1 h2))))
    clear hm hM hp hin h1 h2
    go_enter Tryd.func99, Tryd.ntmps99
    go_wp2_with fail
    rw [← hW]
    refine (hE _).mono ?_
    rintro e w1 ⟨rfl, hb1⟩
    have E1 := Lib.hid (And.intro (blk_below H1.out.1 hb1 (by rw [H1.out.2.2.2.2]; omega)) (And.intro (blk_below H1.out.2.1 hb1 (by rw [H1.out.2.2.2.2]; omega)) (And.intro (blk_below H1.out.2.2.1 hb1 (by rw [H1.out.2.2.2.2]; omega)) (H1.out.2.2.2.1.trans (hb1.mono H1.out.2.2.2.1.size)))))
    obtain ⟨⟨a0, a1, a2, a3⟩, _, _, _, _⟩ := cells4 E1.out.1
    obtain ⟨⟨b0, b1⟩, _, _⟩ := cells2 E1.out.2.1
    have HS1 := Lib.hid (Nat.le_trans (Nat.le_of_eq H1.out.2.2.2.2.symm) hb1.size)
    clear hb1 hE
    go_wp2_with fail
    refine (hC _).mono ?_
    rintro e w2 ⟨rfl, hb2⟩
    have E2 := Lib.hid (And.intro (blk_below E1.out.1 hb2 (by have := HS1.out; omega)) (And.intro (blk_below E1.out.2.1 hb2 (by have := HS1.out; omega)) (And.intro (blk_below E1.out.2.2.1 hb2 (by have := HS1.out; omega)) (E1.out.2.2.2.trans (hb2.mono (by have := HS1.out; omega))))))
    clear a0 a1 a2 a3 b0 b1 hb2 hC
    obtain ⟨⟨a0, a1, a2, a3⟩, _, _, _, _⟩ := cells4 E2.out.1
    obtain ⟨⟨b0, b1⟩, _, _⟩ := cells2 E2.out.2.1
    obtain ⟨⟨c0, c1, c2, c3⟩, f0, f1, f2, f3⟩ := cells4 E2.out.2.2.1
    clear hW
    go_wp2
    try simp only [Exit.inBlock, Exit.then]
    refine bodyPost_ret (results_cell_row rfl _ _ (w.heap.size + 1 + 1) 89 #[.float .f64 m.1, .float .f64 m.2, .float .f64 M.1, .float .f64 M.2] (0, 0) _ rfl (blk_set (blk_set (blk_set (blk_set E2.out.2.2.1 0 _) 1 _) 2 _) 3 _) Tryd.underlying89 rfl size_bound) rfl ?_
    obtain ⟨hm, hM, hin, h1, h2⟩ := H.out
    have q0 : w.heap.size ≤ w.heap.size + 1 + 1 := by omega
    exact ⟨m, M, x0, y0, x1, y1, rfl, hm, hM, ⟨by omega, by omega, by omega, by omega, hin.2, hin.1⟩, (((E2.out.2.2.2.setCell (p := ⟨w.heap.size + 1 + 1, 0, none⟩) q0 _).setCell (p := ⟨w.heap.size + 1 + 1, 1, none⟩) q0 _).setCell (p := ⟨w.heap.size + 1 + 1, 2, none⟩) q0 _).setCell (p := ⟨w.heap.size + 1 + 1, 3, none⟩) q0 _⟩
  · rw [decide_eq_false hin] at hC
    obtain ⟨z0, X0, i0, u0, v0, _, g0⟩ := min_int hm.1 hp.1
    obtain ⟨z1, Y0, i1, u1, v1, _, g1⟩ := min_int hm.2 hp.2
    obtain ⟨z2, X1, i2, u2, v2, _, g2⟩ := max_int hM.1 hp.1
    obtain ⟨z3, Y1, i3, u3, v3, _, g3⟩ := max_int hM.2 hp.2
    have hh : Holds x0 y0 x1 y1 px py X0 Y0 X1 Y1 := ⟨u0, u1, u2, u3, ⟨v0, v2⟩, ⟨v1, v3⟩⟩
    have H := Lib.hid (And.intro i0 (And.intro i1 (And.intro i2 (And.intro i3 hh))))
    clear hm hM hp hin h1 h2 i0 i1 i2 i3 hh u0 u1 u2 u3 v0 v1 v2 v3
    go_enter Tryd.func99, Tryd.ntmps99
    go_wp2_with fail
    rw [← hW]
    refine (hE _).mono ?_
    rintro e w1 ⟨rfl, hb1⟩
    have E1 := Lib.hid (And.intro (blk_below H1.out.1 hb1 (by rw [H1.out.2.2.2.2]; omega)) (And.intro (blk_below H1.out.2.1 hb1 (by rw [H1.out.2.2.2.2]; omega)) (And.intro (blk_below H1.out.2.2.1 hb1 (by rw [H1.out.2.2.2.2]; omega)) (H1.out.2.2.2.1.trans (hb1.mono H1.out.2.2.2.1.size)))))
    obtain ⟨⟨a0, a1, a2, a3⟩, _, _, _, _⟩ := cells4 E1.out.1
    obtain ⟨⟨b0, b1⟩, _, _⟩ := cells2 E1.out.2.1
    have HS1 := Lib.hid (Nat.le_trans (Nat.le_of_eq H1.out.2.2.2.2.symm) hb1.size)
    clear hb1 hE
    go_wp2_with fail
    refine (hC _).mono ?_
    rintro e w2 ⟨rfl, hb2⟩
    have E2 := Lib.hid (And.intro (blk_below E1.out.1 hb2 (by have := HS1.out; omega)) (And.intro (blk_below E1.out.2.1 hb2 (by have := HS1.out; omega)) (And.intro (blk_below E1.out.2.2.1 hb2 (by have := HS1.out; omega)) (E1.out.2.2.2.trans (hb2.mono (by have := HS1.out; omega))))))
    clear a0 a1 a2 a3 b0 b1 hb2 hC
    obtain ⟨⟨a0, a1, a2, a3⟩, _, _, _, _⟩ := cells4 E2.out.1
    obtain ⟨⟨b0, b1⟩, _, _⟩ := cells2 E2.out.2.1
    obtain ⟨⟨c0, c1, c2, c3⟩, f0, f1, f2, f3⟩ := cells4 E2.out.2.2.1
    clear hW
    go_wp2_with fail
    go_still_tail 27, (by kernel_rfl)
    still_call ((g0 _).mono (fun _ _ h => ⟨h.1, h.2.symm⟩))
    repeat still_step
    still_call ((g1 _).mono (fun _ _ h => ⟨h.1, h.2.symm⟩))
    repeat still_step
    still_call ((g2 _).mono (fun _ _ h => ⟨h.1, h.2.symm⟩))
    repeat still_step
    still_call ((g3 _).mono (fun _ _ h => ⟨h.1, h.2.symm⟩))
    repeat still_step
    refine wpStill_nil ?_
    change wpList _ _ _ _ _ w2.drew
    go_wp2
    try simp only [Exit.inBlock, Exit.then]
    refine bodyPost_ret (results_cell_row rfl _ _ (w.heap.size + 1 + 1) 89 #[.float .f64 z0, .float .f64 z1, .float .f64 z2, .float .f64 z3] (0, 0) _ rfl (blk_set (blk_set (blk_set (blk_set (blk_drew E2.out.2.2.1) 0 _) 1 _) 2 _) 3 _) Tryd.underlying89 rfl size_bound) rfl ?_
    obtain ⟨i0, i1, i2, i3, hh⟩ := H.out
    have q0 : w.heap.size ≤ w.heap.size + 1 + 1 := by omega
    exact ⟨(z0, z1), (z2, z3), X0, Y0, X1, Y1, rfl, ⟨i0, i1⟩, ⟨i2, i3⟩, hh, (((E2.out.2.2.2.drew.setCell (p := ⟨w.heap.size + 1 + 1, 0, none⟩) q0 _).setCell (p := ⟨w.heap.size + 1 + 1, 1, none⟩) q0 _).setCell (p := ⟨w.heap.size + 1 + 1, 2, none⟩) q0 _).setCell (p := ⟨w.heap.size + 1 + 1, 3, none⟩) q0 _⟩
end Go.Proofs.YtpbhpplmokdkhaaDoor
