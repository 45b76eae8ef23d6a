/- The walk of MultiPoint.Bound and Ring.Bound. -/
import Derived.Test.YtpbhpplmokdkhaaDoorBd
namespace Go.Proofs.YtpbhpplmokdkhaaDoor
open Go.RowKit Fl

/-- A box that holds the first points. -/
def Covers (X Y : Nat → Int) (k : Nat) (x0 y0 x1 y1 : Int) : Prop := ∀ i, i < k → (x0 ≤ X i ∧ X i ≤ x1) ∧ (y0 ≤ Y i ∧ Y i ≤ y1)
theorem covers_next {X Y : Nat → Int} {k : Nat} {x0 y0 x1 y1 X0 Y0 X1 Y1 : Int} (h : Covers X Y k x0 y0 x1 y1) (hh : Holds x0 y0 x1 y1 (X k) (Y k) X0 Y0 X1 Y1) : Covers X Y (k + 1) X0 Y0 X1 Y1 := by
  intro i hi
  have h1 := hh.a
  have h2 := hh.b
  have h3 := hh.c
  have h4 := hh.d
  by_cases hk : i = k
  · subst hk; exact ⟨hh.e, hh.f⟩
  · have := h i (by omega)
    omega
theorem holds_ord {x0 y0 x1 y1 px py X0 Y0 X1 Y1 : Int} (hh : Holds x0 y0 x1 y1 px py X0 Y0 X1 Y1) : X0 ≤ X1 ∧ Y0 ≤ Y1 := ⟨by have := hh.e; omega, by have := hh.f; omega⟩

set_option maxRecDepth 100000 in
set_option maxHeartbeats 1000000 in
theorem mpBound_any (n cap b off : Nat) (ps : List (Nat × Nat)) (X Y : Nat → Int) (w : World) (hn : ps.length = n) (h1 : 1 ≤ n) (hn200 : n ≤ 200) (hps : PtsAt w b off ps) (hd : DatM ps X Y) :
    Calls Tryd.prog 90 #[.slice (some ⟨b, off, none⟩) n cap] w
      fun e w' => ∃ m M x0 y0 x1 y1, e = .returned (boxV m M) ∧ IsP m x0 y0 ∧ IsP M x1 y1 ∧ Covers X Y n x0 y0 x1 y1 ∧ Below w.heap.size w w' := by
  have HPS := Lib.hid hps
  have HD := Lib.hid hd
  have HN := Lib.hid hn
  have hp0 : ps[0]? = some ps[0] := List.getElem?_eq_getElem (by omega)
  obtain ⟨i0, m0⟩ := hd 0 _ hp0
  obtain ⟨z0, z1⟩ := hps 0 _ hp0
  obtain ⟨⟨x0, y0⟩, hpe⟩ : ∃ p, p = ps[0] := ⟨_, rfl⟩
  rw [← hpe] at i0 z0 z1 hp0
  simp only [Nat.zero_mul, Nat.add_zero] at z0 z1
  have hnz : ((n : Int) == 0) = false := by simp; omega
  have hn0 : (0 : Int) < n := by omega
  have hn0' : 0 < n := by omega
  have HP0 := Lib.hid i0
  clear hps hd hn hpe i0 m0
  go_enter Tryd.func90, Tryd.ntmps90
  go_wp2
  obtain ⟨W1, hW1⟩ : ∃ W1, W1 = w.alloc (.cells #[.float .f64 0, .float .f64 0, .float .f64 0, .float .f64 0] 89) := ⟨_, rfl⟩
  rw [← hW1]
  have B1 : Blk W1 w.heap.size #[.float .f64 0, .float .f64 0, .float .f64 0, .float .f64 0] 89 := by rw [hW1]; exact heap_alloc_new w _
  have L1 : Below w.heap.size w W1 := by rw [hW1]; exact (Below.refl _ _).alloc (Nat.le_refl _) _
  have S1 : W1.heap.size = w.heap.size + 1 := by rw [hW1]; simp
  have z0' := cell_later L1 z0
  have z1' := cell_later L1 z1
  have w1 := World.new_ne W1 _ z0'
  have w2 := World.new_ne W1 _ z1'
  have HB1 := Lib.hid B1
  have HL1 := Lib.hid L1
  have HS1 := Lib.hid S1
  clear hW1 B1 L1 S1 z0 z1
  go_region_held3 (fun w' => w'.cell? ⟨b, off, none⟩ = some (.float .f64 x0) ∧ w'.cell? ⟨b, off + 1, none⟩ = some (.float .f64 y0)) (go_keep) (fail)
  clear w1 w2
  go_wp2
  go_loopw [19] (fun iv wr => ∃ (k : Nat) (m M : Nat × Nat) (a0 b0 a1 b1 : Int), k ≤ n ∧ iv = .int .i64 k ∧ Hid (IsP m a0 b0 ∧ IsP M a1 b1 ∧ a0 ≤ a1 ∧ b0 ≤ b1 ∧ Covers X Y k a0 b0 a1 b1) ∧
    Hid (Blk wr w.heap.size #[.float .f64 0, .float .f64 0, .float .f64 0, .float .f64 0] 89) ∧
    Hid (Blk wr W1.heap.size #[.float .f64 m.1, .float .f64 m.2, .float .f64 M.1, .float .f64 M.2] 89) ∧ Below w.heap.size w wr) (fun iv _ => n - (intOf iv).toNat)
  case atStart =>
    refine ⟨0, (x0, y0), (x0, y0), X 0, Y 0, X 0, Y 0, Nat.zero_le _, rfl, Lib.hid ⟨HP0.out, HP0.out, Int.le_refl _, Int.le_refl _, fun i hi => by omega⟩, Lib.hid (blk_drew ((heap_alloc_old _ _ (by rw [HS1.out]; omega)).trans HB1.out)), Lib.hid (blk_drew (heap_alloc_new W1 _)), (HL1.out.alloc (by rw [HS1.out]; omega) _).drew⟩
  case round =>
    obtain ⟨k, m, M, a0, b0, a1, b1, hk, rfl, HI, HBa, HBb, hb⟩ := hrel
    by_cases hlt : k < n
    · have hil : k < ps.length := by have := HN.out; omega
      have hpi : ps[k]? = some ps[k] := List.getElem?_eq_getElem hil
      obtain ⟨ii, mi⟩ := HD.out k _ hpi
      obtain ⟨c0, c1⟩ := HPS.out k _ hpi
      obtain ⟨⟨x, y⟩, hpe⟩ : ∃ p, p = ps[k] := ⟨_, rfl⟩
      rw [← hpe] at ii c0 c1
      have c0' := cell_later hb c0
      have c1' := cell_later hb c1
      have hki : (k : Int) < n := by omega
      have hcall := fun w => extend_any m M (x, y) a0 b0 a1 b1 (X k) (Y k) w HI.out.1 HI.out.2.1 ii HI.out.2.2.1 HI.out.2.2.2.1
      unfold boxV at hcall
      obtain ⟨W2, hW2⟩ : ∃ W2, W2 = wr.alloc (.cells #[.float .f64 x, .float .f64 y] 69) := ⟨_, rfl⟩
      have hsz : W1.heap.size < wr.heap.size := (Array.getElem?_eq_some_iff.1 HBb.out).1
      have hsz0 : w.heap.size < wr.heap.size := (Array.getElem?_eq_some_iff.1 HBa.out).1
      have Bb2 : Blk W2 W1.heap.size #[.float .f64 m.1, .float .f64 m.2, .float .f64 M.1, .float .f64 M.2] 89 := by rw [hW2]; exact (heap_alloc_old _ _ hsz).trans HBb.out
      have Ba2 : Blk W2 w.heap.size #[.float .f64 0, .float .f64 0, .float .f64 0, .float .f64 0] 89 := by rw [hW2]; exact (heap_alloc_old _ _ hsz0).trans HBa.out
      have Bp2 : Blk W2 wr.heap.size #[.float .f64 x, .float .f64 y] 69 := by rw [hW2]; exact heap_alloc_new wr _
      have L2 : Below w.heap.size w W2 := by rw [hW2]; exact hb.alloc hb.size _
      have S2 : W2.heap.size = wr.heap.size + 1 := by rw [hW2]; simp
      obtain ⟨⟨d0, d1, d2, d3⟩, _, _, _, _⟩ := cells4 Bb2
      obtain ⟨⟨e0, e1⟩, _, _⟩ := cells2 Bp2
      rw [hW2] at d0 d1 d2 d3 e0 e1
      have H2 := Lib.hid (And.intro Ba2 (And.intro Bb2 (And.intro L2 (And.intro S2 (And.intro hsz hsz0)))))
      have HW2 := Lib.hid hW2
      clear hW2 Bb2 Ba2 Bp2 L2 S2 hsz hsz0 c0 c1 hpi hpe hil ii mi hb
      go_wp2_with fail
      rw [← HW2.out]
      refine (hcall _).mono ?_
      rintro e w3 ⟨m', M', X0, Y0, X1, Y1, rfl, im, iM, hh, hb3⟩
      have hlt1 : w.heap.size < W2.heap.size := by rw [H2.out.2.2.2.1]; have := H2.out.2.2.2.2.2; omega
      have hlt2 : W1.heap.size < W2.heap.size := by rw [H2.out.2.2.2.1]; have := H2.out.2.2.2.2.1; omega
      have A3 := blk_below H2.out.1 hb3 hlt1
      have C3 := blk_below H2.out.2.1 hb3 hlt2
      obtain ⟨⟨g0, g1, g2, g3⟩, f0, f1, f2, f3⟩ := cells4 C3
      have HA3 := Lib.hid A3
      have HC3 := Lib.hid C3
      have HL3 := Lib.hid (H2.out.2.2.1.trans (hb3.mono (Nat.le_of_lt hlt1)))
      have HH := Lib.hid (And.intro im (And.intro iM hh))
      clear A3 C3 hlt1 hlt2 im iM hh hb3 hcall c0' c1' d0 d1 d2 d3 e0 e1
      go_wp2
      go_roundw
      case rel =>
        have q1 : w.heap.size ≤ W1.heap.size := by rw [HS1.out]; omega
        have q2 : w.heap.size ≠ W1.heap.size := by rw [HS1.out]; omega
        obtain ⟨im, iM, hh⟩ := HH.out
        exact ⟨k + 1, m', M', X0, Y0, X1, Y1, hlt, by go_num, Lib.hid ⟨im, iM, (holds_ord hh).1, (holds_ord hh).2, covers_next HI.out.2.2.2.2 hh⟩,
          Lib.hid (blk_other (blk_other (blk_other (blk_other HA3.out q2) q2) q2) q2), Lib.hid (blk_set (blk_set (blk_set (blk_set HC3.out 0 _) 1 _) 2 _) 3 _),
          (((HL3.out.setCell (p := ⟨W1.heap.size, 0, none⟩) q1 _).setCell (p := ⟨W1.heap.size, 1, none⟩) q1 _).setCell (p := ⟨W1.heap.size, 2, none⟩) q1 _).setCell (p := ⟨W1.heap.size, 3, none⟩) q1 _⟩
      case measure => simp [intOf]; omega
    · obtain rfl : k = n := by omega
      obtain ⟨⟨d0, d1, d2, d3⟩, _, _, _, _⟩ := cells4 HBb.out
      obtain ⟨⟨g0, g1, g2, g3⟩, f0, f1, f2, f3⟩ := cells4 HBa.out
      have HB := Lib.hid hb
      clear hb
      go_wp2
      try simp only [Exit.inBlock, Exit.then]
      refine bodyPost_ret (results_cell_row rfl _ _ w.heap.size 89 #[.float .f64 m.1, .float .f64 m.2, .float .f64 M.1, .float .f64 M.2] (0, 0) _ rfl (blk_set (blk_set (blk_set (blk_set HBa.out 0 _) 1 _) 2 _) 3 _) Tryd.underlying89 rfl size_bound) rfl ?_
      have q0 : w.heap.size ≤ w.heap.size := Nat.le_refl _
      exact ⟨m, M, a0, b0, a1, b1, rfl, HI.out.1, HI.out.2.1, HI.out.2.2.2.2, (((HB.out.setCell (p := ⟨w.heap.size, 0, none⟩) q0 _).setCell (p := ⟨w.heap.size, 1, none⟩) q0 _).setCell (p := ⟨w.heap.size, 2, none⟩) q0 _).setCell (p := ⟨w.heap.size, 3, none⟩) q0 _⟩

set_option maxRecDepth 100000 in
theorem rgBound_any (n cap b off : Nat) (ps : List (Nat × Nat)) (X Y : Nat → Int) (w : World) (hn : ps.length = n) (h1 : 1 ≤ n) (hn200 : n ≤ 200) (hps : PtsAt w b off ps) (hd : DatM ps X Y) :
    Calls Tryd.prog 65 #[.slice (some ⟨b, off, none⟩) n cap] w
      fun e w' => ∃ m M x0 y0 x1 y1, e = .returned (boxV m M) ∧ IsP m x0 y0 ∧ IsP M x1 y1 ∧ Covers X Y n x0 y0 x1 y1 ∧ Below w.heap.size w w' := by
  have hb0 : Below w.heap.size w (w.alloc (.cells #[.float .f64 0, .float .f64 0, .float .f64 0, .float .f64 0] 89)) := (Below.refl _ _).alloc (Nat.le_refl _) _
  have hcall := mpBound_any n cap b off ps X Y _ hn h1 hn200 (fun i p hp => ⟨cell_later hb0 (hps i p hp).1, cell_later hb0 (hps i p hp).2⟩) hd
  have HB0 := Lib.hid hb0
  clear hn h1 hn200 hps hd hb0
  go_enter Tryd.func65, Tryd.ntmps65
  go_wp2_with fail
  refine hcall.mono ?_
  rintro e w1 ⟨m, M, x0, y0, x1, y1, rfl, im, iM, hc, hb1⟩
  have hbk : Blk w1 w.heap.size #[.float .f64 0, .float .f64 0, .float .f64 0, .float .f64 0] 89 := blk_below (heap_alloc_new w _) hb1 (by simp)
  obtain ⟨⟨g0, g1, g2, g3⟩, f0, f1, f2, f3⟩ := cells4 hbk
  have HBK := Lib.hid hbk
  have HB1 := Lib.hid (HB0.out.trans (hb1.mono HB0.out.size))
  have HI := Lib.hid (And.intro im (And.intro iM hc))
  clear hcall im iM hc hb1 hbk
  unfold boxV
  go_wp2
  try simp only [Exit.inBlock, Exit.then]
  refine bodyPost_ret (results_cell_row rfl _ _ w.heap.size 89 #[.float .f64 m.1, .float .f64 m.2, .float .f64 M.1, .float .f64 M.2] (0, 0) _ rfl (blk_set (blk_set (blk_set (blk_set HBK.out 0 _) 1 _) 2 _) 3 _) Tryd.underlying89 rfl size_bound) rfl ?_
  have q0 : w.heap.size ≤ w.heap.size := Nat.le_refl _
  exact ⟨m, M, x0, y0, x1, y1, rfl, HI.out.1, HI.out.2.1, HI.out.2.2, (((HB1.out.setCell (p := ⟨w.heap.size, 0, none⟩) q0 _).setCell (p := ⟨w.heap.size, 1, none⟩) q0 _).setCell (p := ⟨w.heap.size, 2, none⟩) q0 _).setCell (p := ⟨w.heap.size, 3, none⟩) q0 _⟩
end Go.Proofs.YtpbhpplmokdkhaaDoor
