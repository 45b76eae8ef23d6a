/- The walks of impl.SegmentSquared, spec.Squared and spec.Nearest. -/
import Derived.Test.YtpbhpplmokdkhaaDoorSeg
import Derived.Test.YtpbhpplmokdkhaaDoorSgP
import Derived.Test.YtpbhpplmokdkhaaDoorUt
import Derived.Test.YtpbhpplmokdkhaaDoorMm
import Derived.Test.YtpbhpplmokdkhaaDoorBd
import Derived.WideShapes
import Derived.Deep.RegionHeld3
set_option linter.unusedVariables false
namespace Go.Proofs.YtpbhpplmokdkhaaDoor
open Go.RowKit Go.WideShapes Fl

theorem segsq_any (a b p : Nat × Nat) {ax ay bx by' px py : Int} (ha : IsP a ax ay) (hb : IsP b bx by') (hp : IsP p px py) (sa : Small ax ∧ Small ay) (sb : Small bx ∧ Small by') (sp : Small px ∧ Small py) (w : World) :
    Calls Tryd.prog 21 #[.agg #[.float .f64 a.1, .float .f64 a.2], .agg #[.float .f64 b.1, .float .f64 b.2], .agg #[.float .f64 p.1, .float .f64 p.2]] w
      fun e w' => e = .returned (.float .f64 (segSq a b p)) ∧ Below w.heap.size w w' := by
  have hcall := fun W => seg_any a b p ha hb hp sa sb sp W
  clear ha hb hp sa sb sp
  go_enter Tryd.func21, Tryd.ntmps21
  go_wp2_with fail
  refine (hcall _).mono ?_
  rintro e w1 ⟨rfl, hb1⟩
  have L := below_alloc_trans (below_alloc_trans (below_alloc_trans hb1))
  clear hcall hb1
  go_wp2
  go_ret
  exact ⟨rfl, L⟩

theorem squared_any (p q : Nat × Nat) (h : IsFin p.1 ∧ IsFin p.2 ∧ IsFin q.1 ∧ IsFin q.2 ∧ IsFin (fsub p.1 q.1) ∧ IsFin (fsub p.2 q.2) ∧ IsFin (fmul (fsub p.1 q.1) (fsub p.1 q.1)) ∧ IsFin (fmul (fsub p.2 q.2) (fsub p.2 q.2))) (w : World) :
    Calls Tryd.prog 23 #[.agg #[.float .f64 p.1, .float .f64 p.2], .agg #[.float .f64 q.1, .float .f64 q.2]] w
      fun e w' => e = .returned (.float .f64 (sqDist p q)) ∧ Below w.heap.size w w' := by
  obtain ⟨h1, h2, h3, h4, h5⟩ := sq_runs h 27
  clear h
  go_enter Tryd.func23, Tryd.ntmps23
  go_wp2
  go_ret
  exact ⟨rfl, ((Below.refl _ _).alloc (Nat.le_refl _) _).alloc (by simp) _⟩

namespace Sg
/-- The share, cut, as math.Max and math.Min tell it. -/
theorem near_t {T z t : Nat} {ts : Rat} (fT : IsFin T) (h1 : (z = 4607182418800017408 ∨ z = T) ∧ val z ≤ val 4607182418800017408 ∧ val z ≤ val T) (h2 : (t = 0 ∨ t = z) ∧ val 0 ≤ val t ∧ val z ≤ val t)
    (cn : (1 < val T → Nr 1 ts (p2 (-51))) ∧ (0 ≤ val T → val T ≤ 1 → Nr (val T) ts (p2 (-51))) ∧ (val T ≤ 0 → Nr 0 ts (p2 (-51)))) : IsFin z ∧ IsFin t ∧ 0 ≤ val t ∧ val t ≤ 1 ∧ Nr (val t) ts (p2 (-51)) := by
  obtain ⟨h1, h3, h4⟩ := h1
  obtain ⟨h2, h5, h6⟩ := h2
  have v1 : val 4607182418800017408 = 1 := isI_lit1.2
  have v0 : val 0 = 0 := isI_lit0.2
  rw [v1] at h3
  rw [v0] at h5
  obtain ⟨c1, c2, c3⟩ := cn
  rcases h1 with rfl | rfl
  · have fz := isI_lit1.1
    rw [v1] at h4 h6
    rcases h2 with rfl | rfl
    · exfalso; rw [v0] at h6; grind
    · refine ⟨fz, fz, by grind, by grind, ?_⟩
      rw [v1]
      by_cases hh : 1 < val T
      · exact c1 hh
      · have e : val T = 1 := by grind
        rw [e] at c2
        exact c2 (by grind) (by grind)
  · rcases h2 with rfl | rfl
    · rw [v0] at h6 ⊢
      exact ⟨fT, isI_lit0.1, by grind, by grind, c3 h6⟩
    · exact ⟨fT, fT, h5, h3, c2 h5 h3⟩
section
variable {a b p : Nat × Nat} {ax ay bx by' px py : Int}
/-- The parts of what spec.Nearest reckons. -/
def nNum (a b p : Nat × Nat) : Nat := fadd (fmul (fsub b.1 a.1) (fsub p.1 a.1)) (fmul (fsub b.2 a.2) (fsub p.2 a.2))
theorem near_ints (ha : IsP a ax ay) (hb : IsP b bx by') (hp : IsP p px py) (sa : Small ax ∧ Small ay) (sb : Small bx ∧ Small by') (sp : Small px ∧ Small py) (hne : bx - ax ≠ 0 ∨ by' - ay ≠ 0) :
    (IsI (fmul (fsub b.1 a.1) (fsub p.1 a.1)) ((px - ax) * (bx - ax)) ∧ IsI (fmul (fsub b.2 a.2) (fsub p.2 a.2)) ((py - ay) * (by' - ay))) ∧
    (IsI (fsub a.1 b.1) (ax - bx) ∧ IsI (fsub a.2 b.2) (ay - by') ∧ IsI (fmul (fsub a.1 b.1) (fsub a.1 b.1)) ((bx - ax) * (bx - ax)) ∧ IsI (fmul (fsub a.2 b.2) (fsub a.2 b.2)) ((by' - ay) * (by' - ay))) ∧
    Ieee.double.div (nNum a b p) (sqDist a b) = some (fdiv (nNum a b p) (sqDist a b)) ∧
    ∃ v : Rat, v * DD ax ay bx by' = NN ax ay bx by' px py ∧ IsFin (fdiv (nNum a b p) (sqDist a b)) ∧ Rnd (fdiv (nNum a b p) (sqDist a b)) v ∧ v ≤ p2 24 ∧ -p2 24 ≤ v := by
  obtain ⟨v, hv, hvD, h1, h2⟩ := seg_quot sa sb sp hne
  obtain ⟨i1, i2, i3, i4, i5, i6, i7, i8, i9, i10⟩ := seg_ints ha hb hp sa sb sp
  unfold Small at sa sb sp
  have b1 := mul_small (a := px - ax) (b := bx - ax) (A := 2000) (B := 2000) (by omega) (by omega) (by omega) (by omega)
  have b2 := mul_small (a := py - ay) (b := by' - ay) (A := 2000) (B := 2000) (by omega) (by omega) (by omega) (by omega)
  have b3 := mul_small (a := bx - ax) (b := bx - ax) (A := 2000) (B := 2000) (by omega) (by omega) (by omega) (by omega)
  have b4 := mul_small (a := by' - ay) (b := by' - ay) (A := 2000) (B := 2000) (by omega) (by omega) (by omega) (by omega)
  have e1 : (bx - ax) * (px - ax) = (px - ax) * (bx - ax) := Int.mul_comm _ _
  have e2 : (by' - ay) * (py - ay) = (py - ay) * (by' - ay) := Int.mul_comm _ _
  have e3 : (ax - bx) * (ax - bx) = (bx - ax) * (bx - ax) := by grind
  have e4 : (ay - by') * (ay - by') = (by' - ay) * (by' - ay) := by grind
  have m1 := isI_mul i1 i3 (by rw [e1]; omega)
  have m2 := isI_mul i2 i4 (by rw [e2]; omega)
  rw [e1] at m1
  rw [e2] at m2
  have n1 := isI_sub ha.1 hb.1 (by omega)
  have n2 := isI_sub ha.2 hb.2 (by omega)
  have q1 := isI_mul n1 n1 (by rw [e3]; omega)
  have q2 := isI_mul n2 n2 (by rw [e4]; omega)
  rw [e3] at q1
  rw [e4] at q2
  have s1 := isI_add m1 m2 (by omega)
  have s2 := isI_add q1 q2 (by omega)
  have hpos := sq_pos hne
  have r := bd_div (k := 23) s1 s2 hpos (by omega) (by omega)
  refine ⟨⟨m1, m2⟩, ⟨n1, n2, q1, q2⟩, r.1, v, hvD, r.2.1.1, ?_, h1, h2⟩
  rw [hv]
  exact r.2.2
end
end Sg
theorem cell_alloc2 {w : World} {a : Addr} {v : Value} (h : w.cell? a = some v) (o1 o2 : Obj) : ((w.alloc o1).alloc o2).cell? a = some v := cell_later (((Below.refl w.heap.size w).alloc (Nat.le_refl _) o1).alloc (by simp) o2) h
theorem six_cells {w : World} (a b p : Nat × Nat) {T U V : TypeId} {W : World} (hW : W = ((w.alloc (.cells #[.float .f64 a.1, .float .f64 a.2] T)).alloc (.cells #[.float .f64 b.1, .float .f64 b.2] U)).alloc (.cells #[.float .f64 p.1, .float .f64 p.2] V)) :
    W.cell? ⟨w.heap.size, 0, none⟩ = some (.float .f64 a.1) ∧ W.cell? ⟨w.heap.size, 1, none⟩ = some (.float .f64 a.2) ∧ W.cell? ⟨w.heap.size + 1, 0, none⟩ = some (.float .f64 b.1) ∧ W.cell? ⟨w.heap.size + 1, 1, none⟩ = some (.float .f64 b.2) ∧ W.cell? ⟨w.heap.size + 2, 0, none⟩ = some (.float .f64 p.1) ∧ W.cell? ⟨w.heap.size + 2, 1, none⟩ = some (.float .f64 p.2) := by
  subst hW
  have x := two_new w (.float .f64 a.1) (.float .f64 a.2) T
  have y := two_new (w.alloc (.cells #[.float .f64 a.1, .float .f64 a.2] T)) (.float .f64 b.1) (.float .f64 b.2) U
  have z := two_new ((w.alloc (.cells #[.float .f64 a.1, .float .f64 a.2] T)).alloc (.cells #[.float .f64 b.1, .float .f64 b.2] U)) (.float .f64 p.1) (.float .f64 p.2) V
  rw [World.size_alloc] at y z
  rw [World.size_alloc] at z
  exact ⟨cell_alloc (cell_alloc x.1 _) _, cell_alloc (cell_alloc x.2 _) _, cell_alloc y.1 _, cell_alloc y.2 _, z.1, z.2⟩
theorem keep6 {w w2 : World} {a b c d e f : Addr} {va vb vc vd ve vf : Value} (hb : Below w.heap.size w w2) (h : w.cell? a = some va ∧ w.cell? b = some vb ∧ w.cell? c = some vc ∧ w.cell? d = some vd ∧ w.cell? e = some ve ∧ w.cell? f = some vf) :
    w2.cell? a = some va ∧ w2.cell? b = some vb ∧ w2.cell? c = some vc ∧ w2.cell? d = some vd ∧ w2.cell? e = some ve ∧ w2.cell? f = some vf :=
  ⟨cell_later hb h.1, cell_later hb h.2.1, cell_later hb h.2.2.1, cell_later hb h.2.2.2.1, cell_later hb h.2.2.2.2.1, cell_later hb h.2.2.2.2.2⟩
set_option maxRecDepth 100000 in
set_option maxHeartbeats 2000000 in
theorem nearest_any (a b p : Nat × Nat) {ax ay bx by' px py : Int} (ha : IsP a ax ay) (hb : IsP b bx by') (hp : IsP p px py) (sa : Small ax ∧ Small ay) (sb : Small bx ∧ Small by') (sp : Small px ∧ Small py) (hne : bx - ax ≠ 0 ∨ by' - ay ≠ 0) (w : World) :
    Calls Tryd.prog 22 #[.agg #[.float .f64 a.1, .float .f64 a.2], .agg #[.float .f64 b.1, .float .f64 b.2], .agg #[.float .f64 p.1, .float .f64 p.2]] w
      fun e w' => (∃ q : Nat × Nat, e = .returned (.agg #[.float .f64 q.1, .float .f64 q.2]) ∧ ∃ ts : Rat, 0 ≤ ts ∧ ts ≤ 1 ∧ Sg.Best ax ay bx by' px py ts ∧ IsFin q.1 ∧ IsFin q.2 ∧
        Nr (val q.1) ((ax : Rat) + ((bx - ax : Int) : Rat) * ts) (p2 (-38)) ∧ Nr (val q.2) ((ay : Rat) + ((by' - ay : Int) : Rat) * ts) (p2 (-38))) ∧ Below w.heap.size w w' := by
  obtain ⟨⟨m1, m2⟩, ⟨n1, n2, n3, n4⟩, hdiv, v, hvD, fT, hR, g1, g2⟩ := Sg.near_ints ha hb hp sa sb sp hne
  obtain ⟨i1, i2, i3, i4, _⟩ := seg_ints ha hb hp sa sb sp
  have cn := Sg.clamp_near hR g1 g2
  obtain ⟨T, hT⟩ : ∃ T, T = fdiv (Sg.nNum a b p) (sqDist a b) := ⟨_, rfl⟩
  have HT := Lib.hid hT
  have rq := run_fdiv (P := Tryd.prog) hdiv 27
  rw [← hT] at fT cn rq
  obtain ⟨z, hz, cz⟩ := min_any isI_lit1.1 fT
  have fz : IsFin z := by rcases hz.1 with h | h <;> rw [h]; exact isI_lit1.1; exact fT
  obtain ⟨t, ht, ct⟩ := max_any isI_lit0.1 fz
  obtain ⟨_, ft, t0, t1, tn⟩ := Sg.near_t fT hz ht cn
  have cb := Sg.clamp_bd v
  have hsa := sa
  have hsb := sb
  unfold Small at hsa hsb
  have sd1 : -2000 ≤ bx - ax ∧ bx - ax ≤ 2000 := by omega
  have sd2 : -2000 ≤ by' - ay ∧ by' - ay ≤ 2000 := by omega
  have u1 := Sg.mul_near_r i1 sd1 ft t0 t1
  have u2 := Sg.mul_near_r i2 sd2 ft t0 t1
  have w1 := Sg.at_near ha.1 sa.1 sd1 u1.1 u1.2 t0 t1 tn
  have w2 := Sg.at_near ha.2 sa.2 sd2 u2.1 u2.2 t0 t1 tn
  have HR := Lib.hid (show ∃ ts : Rat, 0 ≤ ts ∧ ts ≤ 1 ∧ Sg.Best ax ay bx by' px py ts ∧ IsFin (fadd a.1 (fmul t (fsub b.1 a.1))) ∧ IsFin (fadd a.2 (fmul t (fsub b.2 a.2))) ∧
        Nr (val (fadd a.1 (fmul t (fsub b.1 a.1)))) ((ax : Rat) + ((bx - ax : Int) : Rat) * ts) (p2 (-38)) ∧ Nr (val (fadd a.2 (fmul t (fsub b.2 a.2)))) ((ay : Rat) + ((by' - ay : Int) : Rat) * ts) (p2 (-38)) from
    ⟨Sg.clampQ v, cb.1, cb.2, Sg.clamp_best hvD, w1.1, w2.1, w1.2, w2.2⟩)
  have hcall1 := fun W => squared_any a b ⟨ha.1.1, ha.2.1, hb.1.1, hb.2.1, n1.1, n2.1, n3.1, n4.1⟩ W
  have r1 := run_fsub (P := Tryd.prog) hb.1.1 ha.1.1 27
  have r2 := run_fsub (P := Tryd.prog) hp.1.1 ha.1.1 27
  have r3 := run_fmul (P := Tryd.prog) i1.1 i3.1 27
  have r4 := run_fsub (P := Tryd.prog) hb.2.1 ha.2.1 27
  have r5 := run_fsub (P := Tryd.prog) hp.2.1 ha.2.1 27
  have r6 := run_fmul (P := Tryd.prog) i2.1 i4.1 27
  have r7 := run_fadd (P := Tryd.prog) m1.1 m2.1 27
  have r8 := run_fmul (P := Tryd.prog) ft i1.1 27
  have r9 := run_fmul (P := Tryd.prog) ft i2.1 27
  have r10 := run_fadd (P := Tryd.prog) ha.1.1 u1.1 27
  have r11 := run_fadd (P := Tryd.prog) ha.2.1 u2.1 27
  rw [show fadd (fmul (fsub b.1 a.1) (fsub p.1 a.1)) (fmul (fsub b.2 a.2) (fsub p.2 a.2)) = Sg.nNum a b p from rfl] at r7
  clear ha hb hp sa sb sp hne m1 m2 n1 n2 n3 n4 hdiv v hvD fT hR g1 g2 i1 i2 i3 i4 cn hT hz fz ht ft t0 t1 tn cb hsa hsb sd1 sd2 u1 u2 w1 w2
  obtain ⟨W0, hW0⟩ : ∃ W0, W0 = ((w.alloc (.cells #[.float .f64 a.1, .float .f64 a.2] 31)).alloc (.cells #[.float .f64 b.1, .float .f64 b.2] 31)).alloc (.cells #[.float .f64 p.1, .float .f64 p.2] 31) := ⟨_, rfl⟩
  have L0 : Below w.heap.size w W0 := by rw [hW0]; exact (((Below.refl _ _).alloc (Nat.le_refl _) _).alloc (by simp) _).alloc (by simp; omega) _
  have C0 := six_cells a b p hW0
  obtain ⟨W1, hW1⟩ : ∃ W1, W1 = W0.alloc (.cells #[.float .f64 0, .float .f64 0] 31) := ⟨_, rfl⟩
  have L1 : Below w.heap.size w W1 := by rw [hW1]; exact L0.alloc L0.size _
  have C1 := keep6 ((Below.refl _ _).alloc (Nat.le_refl _) (.cells #[.float .f64 0, .float .f64 0] 31)) C0
  rw [← hW1] at C1
  have B1 : Blk W1 (w.heap.size + 3) #[.float .f64 0, .float .f64 0] 31 := by
    have hs : W0.heap.size = w.heap.size + 3 := by rw [hW0]; simp
    rw [hW1, ← hs]; exact heap_alloc_new W0 _
  obtain ⟨k0, k1, k2, k3, k4, k5⟩ := C1
  clear C0
  go_enter Tryd.func22, Tryd.ntmps22
  go_wp2_with fail
  rw [← hW0, ← hW1]
  have HW1 := Lib.hid hW1
  have HW0 := Lib.hid hW0
  clear hW0 hW1
  go_region_held3 (fun w' => w'.cell? ⟨w.heap.size, 0, none⟩ = some (.float .f64 a.1) ∧ w'.cell? ⟨w.heap.size, 1, none⟩ = some (.float .f64 a.2) ∧ w'.cell? ⟨w.heap.size + 1, 0, none⟩ = some (.float .f64 b.1) ∧ w'.cell? ⟨w.heap.size + 1, 1, none⟩ = some (.float .f64 b.2) ∧ w'.cell? ⟨w.heap.size + 2, 0, none⟩ = some (.float .f64 p.1) ∧ w'.cell? ⟨w.heap.size + 2, 1, none⟩ = some (.float .f64 p.2))
    (first | exact ⟨k0, k1, k2, k3, k4, k5⟩ | exact keep6 hb1 ⟨k0, k1, k2, k3, k4, k5⟩ | go_keep)
    ((go_simp; go_at_call 23; refine (hcall1 _).mono ?_; rintro e w1 ⟨rfl, hb1⟩))
  have C2 := keep6 hb1 ⟨k0, k1, k2, k3, k4, k5⟩
  have L2 : Below w.heap.size w w1 := L1.drew.trans (hb1.mono L1.size)
  have HL2 := Lib.hid L2
  have B2 := blk_below (blk_drew B1) hb1 (Array.getElem?_eq_some_iff.1 B1).1
  clear k0 k1 k2 k3 k4 k5 L2 hb1 L1 L0 B1
  obtain ⟨k0, k1, k2, k3, k4, k5⟩ := C2
  go_wp2_with fail
  refine (cz _).mono ?_
  rintro e w2 ⟨rfl, rfl⟩
  go_wp2_with fail
  refine (ct _).mono ?_
  rintro e w2 ⟨rfl, rfl⟩
  obtain ⟨⟨x0, x1⟩, f0, f1⟩ := cells2 B2
  go_wp2_with fail
  have HL2' : Below w.heap.size w ((w1.setCell ⟨w.heap.size + 1 + 1 + 1, 0, none⟩ (.float .f64 (fadd a.1 (fmul t (fsub b.1 a.1))))).setCell ⟨w.heap.size + 1 + 1 + 1, 1, none⟩ (.float .f64 (fadd a.2 (fmul t (fsub b.2 a.2))))) :=
    Below.setCell (Below.setCell HL2.out (show w.heap.size ≤ w.heap.size + 1 + 1 + 1 by omega) _) (show w.heap.size ≤ w.heap.size + 1 + 1 + 1 by omega) _
  have B3 : Blk w1 (w.heap.size + 1 + 1 + 1) #[.float .f64 0, .float .f64 0] 31 := B2
  refine bodyPost_ret (results_cell_row (fn := Tryd.f22) (p := 6) (ty := 31) rfl _ _ (w.heap.size + 1 + 1 + 1) 31 #[.float .f64 (fadd a.1 (fmul t (fsub b.1 a.1))), .float .f64 (fadd a.2 (fmul t (fsub b.2 a.2)))] (0, 0) _ (by rfl) (blk_set (blk_set B3 0 _) 1 _) Tryd.underlying31 rfl size_ipoint) (by rfl) ?_
  exact ⟨⟨(fadd a.1 (fmul t (fsub b.1 a.1)), fadd a.2 (fmul t (fsub b.2 a.2))), rfl, HR.out⟩, HL2'⟩
end Go.Proofs.YtpbhpplmokdkhaaDoor
