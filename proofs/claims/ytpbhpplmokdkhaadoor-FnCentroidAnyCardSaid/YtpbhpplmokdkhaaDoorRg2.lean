/- The walks of planar.CentroidArea and planar.Area on a ring, and of impl.RingArea. -/
import Derived.Test.YtpbhpplmokdkhaaDoorRg1
import Derived.Test.YtpbhpplmokdkhaaDoorAs
namespace Go.Proofs.YtpbhpplmokdkhaaDoor
open Go.RowKit Fl

set_option maxRecDepth 100000 in
set_option maxHeartbeats 1000000 in
theorem cenArea_any (n cap b off : Nat) (ps : List (Nat × Nat)) (X Y : Nat → Int) (w : World) (hn : ps.length = n) (h1 : 1 ≤ n) (hn200 : n ≤ 200) (hps : PtsAt w b off ps) (hd : DatM ps X Y) :
    Calls Tryd.prog 57 #[.iface 64 (.slice (some ⟨b, off, none⟩) n cap)] w
      fun e w' => RingOut n ps X Y e ∧ Below w.heap.size w w' := by
  have hb0 : Below w.heap.size w (w.alloc (.cells #[.float .f64 0, .float .f64 0] 69)) := (Below.refl _ _).alloc (Nat.le_refl _) _
  have hcall := ring_any n cap b off ps X Y _ hn h1 hn200 (fun i p hp => ⟨cell_later hb0 (hps i p hp).1, cell_later hb0 (hps i p hp).2⟩) hd
  have a1 := as_ring_pt
  have a2 := as_ring_mp
  have a3 := as_ring_ls
  have a4 := as_ring_mls
  have a5 := as_ring_ring
  have HB0 := Lib.hid hb0
  clear hn h1 hn200 hps hd hb0
  go_enter Tryd.func57, Tryd.ntmps57
  go_wp2_with fail
  refine hcall.mono ?_
  rintro e w1 ⟨⟨cx, cy, r, p0, rfl, hp0, hr⟩, hb1⟩
  have hbk : Blk w1 w.heap.size #[.float .f64 0, .float .f64 0] 69 := blk_below (heap_alloc_new w _) hb1 (by simp)
  have HR := Lib.hid (And.intro hp0 hr)
  have HB1 := Lib.hid (HB0.out.trans (hb1.mono HB0.out.size))
  have HBK := Lib.hid hbk
  obtain ⟨e0, f0⟩ := blk_cell hbk (i := 0) rfl
  obtain ⟨e1, f1⟩ := blk_cell hbk (i := 1) rfl
  clear hcall hp0 hr hb1 hbk
  go_wp2
  try simp only [Exit.inBlock, Exit.then]
  refine bodyPost_ret (results_row_tmp rfl _ _ w.heap.size 69 #[.float .f64 cx, .float .f64 cy] (0, 0) _ rfl (blk_set (blk_set HBK.out 0 _) 1 _) Tryd.underlying69 rfl size_opoint) rfl ?_
  exact ⟨⟨cx, cy, r, p0, rfl, HR.out.1, HR.out.2⟩, (HB1.out.setCell (p := ⟨w.heap.size, 0, none⟩) (Nat.le_refl _) _).setCell (p := ⟨w.heap.size, 1, none⟩) (Nat.le_refl _) _⟩
theorem area_any (n cap b off : Nat) (ps : List (Nat × Nat)) (X Y : Nat → Int) (w : World) (hn : ps.length = n) (h1 : 1 ≤ n) (hn200 : n ≤ 200) (hps : PtsAt w b off ps) (hd : DatM ps X Y) :
    Calls Tryd.prog 39 #[.iface 64 (.slice (some ⟨b, off, none⟩) n cap)] w
      fun e w' => ∃ cx cy r, RingOut n ps X Y (.returned (.tuple #[.agg #[.float .f64 cx, .float .f64 cy], .float .f64 r])) ∧ e = .returned (.float .f64 r) ∧ Below w.heap.size w w' := by
  have hcall := cenArea_any n cap b off ps X Y w hn h1 hn200 hps hd
  clear hn h1 hn200 hps hd
  go_enter Tryd.func39, Tryd.ntmps39
  go_wp2_with fail
  refine hcall.mono ?_
  rintro e w1 ⟨⟨cx, cy, r, p0, rfl, hp0, hr⟩, hb1⟩
  have HR := Lib.hid (And.intro hp0 hr)
  have HB1 := Lib.hid hb1
  clear hcall hp0 hr hb1
  go_wp2
  go_ret
  exact ⟨cx, cy, r, ⟨cx, cy, r, p0, rfl, HR.out.1, HR.out.2⟩, rfl, HB1.out.alloc HB1.out.size _⟩

/-- The area of a ring: half the sum. -/
theorem ring_val {n : Nat} {ps : List (Nat × Nat)} {X Y : Nat → Int} {cx cy r : Nat} (h : RingOut n ps X Y (.returned (.tuple #[.agg #[.float .f64 cx, .float .f64 cy], .float .f64 r]))) (hb : (Rg.TN X Y (n - 2)).natAbs ≤ 1000000000000000) :
    IsFin r ∧ val r = (Rg.TN X Y (n - 2) : Rat) * p2 (-1) := by
  obtain ⟨_, _, r', p0, he, _, h⟩ := h
  simp only [Ending.returned.injEq, Value.tuple.injEq, Array.mk.injEq, List.cons.injEq, Value.agg.injEq, Value.float.injEq, true_and, and_true] at he
  obtain ⟨_, rfl⟩ := he
  rcases h with ⟨h0, _, _, rfl⟩ | ⟨_, A, C0, C1, hA, _, _, rfl, _⟩
  · refine ⟨isI_lit0.1, ?_⟩
    rw [h0, isI_lit0.2]
    have e0 : ((0 : Int) : Rat) = 0 := rfl
    rw [e0, Rat.zero_mul]
  · exact (Rg.half_val hA hb).2

set_option maxRecDepth 100000 in
theorem ringArea_any {w : World} {v : Value} {ps : List (Nat × Nat)} (n : Nat) (X Y : Nat → Int) (hv : IsPts w v ps) (hn : ps.length = n) (h1 : 1 ≤ n) (hn200 : n ≤ 200) (hd : DatM ps X Y) :
    Calls Tryd.prog 14 #[v] w
      fun e w' => ∃ r, e = .returned (.float .f64 r) ∧ IsFin r ∧ val r = (Rg.TN X Y (n - 2) : Rat) * p2 (-1) ∧ Below w.heap.size w w' := by
  have hcall1 := points_any hv (by omega)
  have H2 := Lib.hid (fun g cap w' (h : PtsAt w' g 0 ps) => area_any n cap g 0 ps X Y w' hn h1 hn200 h hd)
  have hmid : ∀ i, i < n → Rg.Mid (X i) ∧ Rg.Mid (Y i) := by
    intro i hi
    exact (hd i _ (List.getElem?_eq_getElem (show i < ps.length by omega))).2
  have hb : (Rg.TN X Y (n - 2)).natAbs ≤ 1000000000000000 := by
    have := Rg.TN_le hmid (n - 2) (by omega)
    omega
  have HBD := Lib.hid hb
  have HN := Lib.hid (And.intro hn h1)
  clear hd hv hn h1 hn200 hmid hb
  go_enter Tryd.func14, Tryd.ntmps14
  go_wp2_with fail
  refine hcall1.mono ?_
  rintro e w1 ⟨v1, rfl, hown1, hb1⟩
  have hv1 := (pts_of_owns hown1).2
  obtain ⟨ao, cap, rfl, hf⟩ := owns_form hown1
  obtain ⟨g, rfl, _, _, _, _⟩ := hf (by have := HN.out; omega)
  have hps1 : PtsAt w1 g 0 ps := by
    obtain ⟨ao', cap', he, h⟩ := hv1
    rcases h with h | ⟨b', off', h1, h2⟩
    · have h9 := HN.out; rw [h] at h9; simp at h9; omega
    · simp only [Value.slice.injEq] at he
      have h3 := he.1.trans h1
      simp only [Option.some.injEq] at h3
      injection h3 with i1 i2 i3
      rw [i1, i2]; exact h2
  have hcall2 := H2.out g cap w1 hps1
  rw [HN.out.1] at *
  have HB1 := Lib.hid hb1
  clear hown1 hv1 hf hps1 hb1 hcall1
  go_wp2_with fail
  refine hcall2.mono ?_
  rintro e w2 ⟨cx, cy, r, hr, rfl, hb2⟩
  have HR := Lib.hid hr
  have HB2 := Lib.hid hb2
  clear hr hb2 hcall2
  go_wp2
  go_ret
  exact ⟨r, rfl, (ring_val HR.out HBD.out).1, (ring_val HR.out HBD.out).2, HB1.out.trans (HB2.out.mono HB1.out.size)⟩
end Go.Proofs.YtpbhpplmokdkhaaDoor
