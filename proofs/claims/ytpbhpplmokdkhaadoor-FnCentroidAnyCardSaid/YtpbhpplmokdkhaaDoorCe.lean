/- The walk of spec.Middle. -/
import Derived.Test.YtpbhpplmokdkhaaDoorCnG
import Derived.Test.YtpbhpplmokdkhaaDoorHa4
import Derived.Test.YtpbhpplmokdkhaaDoorOr
import Derived.Deep.CutRange
import Derived.Deep.RegionHeld3
import Derived.Deep.QuietTactic
import Derived.OwnWalk
import Derived.Test.YtpbhpplmokdkhaaDoorRg2
import Derived.Test.YtpbhpplmokdkhaaDoorGe2
import Derived.Test.YtpbhpplmokdkhaaDoorSl1
import Derived.Test.YtpbhpplmokdkhaaDoorCe2
import Derived.Test.YtpbhpplmokdkhaaDoorMs
set_option linter.unusedVariables false
namespace Go.Proofs.YtpbhpplmokdkhaaDoor
open Go.RowKit Go.WideShapes Fl

theorem small_mul {a b : Int} (ha : Small a) (hb : Small b) : -1000000 ≤ a * b ∧ a * b ≤ 1000000 := by
  have := mul_small (a := a) (b := b) (A := 1000) (B := 1000) ha.1 ha.2 hb.1 hb.2
  omega
theorem step_bd {a b c d : Int} (ha : Small a) (hb : Small b) (hc : Small c) (hd : Small d) : ((a * d - c * b).natAbs ≤ 2000000) ∧ ((a + c) * (a * d - c * b)).natAbs ≤ 4000000000 ∧ ((b + d) * (a * d - c * b)).natAbs ≤ 4000000000 := by
  have m1 := small_mul ha hd
  have m2 := small_mul hc hb
  unfold Small at ha hb hc hd
  have m3 := mul_small (a := a + c) (b := a * d - c * b) (A := 2000) (B := 2000000) (by omega) (by omega) (by omega) (by omega)
  have m4 := mul_small (a := b + d) (b := a * d - c * b) (A := 2000) (B := 2000000) (by omega) (by omega) (by omega) (by omega)
  omega
theorem MX_le {X Y : Nat → Int} {n : Nat} (h : ∀ i, i < n → Small (X i) ∧ Small (Y i)) : ∀ k, k + 1 ≤ n ∨ k = 0 → (Cn.MX X Y k).natAbs ≤ k * 4000000000 ∧ (Cn.MY X Y k).natAbs ≤ k * 4000000000 := by
  intro k
  induction k with
  | zero => intro _; simp [Cn.MX, Cn.MY]
  | succ k ih =>
    intro hk
    have b := step_bd (h k (by omega)).1 (h k (by omega)).2 (h (k + 1) (by omega)).1 (h (k + 1) (by omega)).2
    have := ih (by omega)
    unfold Cn.MX Cn.MY
    omega
section
variable (w : World) (c0 c1 : Array Value) {T0 T1 : TypeId}
theorem n2_below {w0 : World} (h : Below w0.heap.size w0 w) : Below w0.heap.size w0 ((w.alloc (.cells c0 T0)).alloc (.cells c1 T1)) := by
  have hs := h.size
  exact (h.alloc hs _).alloc (by simp; omega) _
end
theorem keep4a {w : World} {o : Obj} {a b c d : Addr} {va vb vc vd : Value} (H : w.cell? a = some va ∧ w.cell? b = some vb ∧ w.cell? c = some vc ∧ w.cell? d = some vd) : (w.alloc o).cell? a = some va ∧ (w.alloc o).cell? b = some vb ∧ (w.alloc o).cell? c = some vc ∧ (w.alloc o).cell? d = some vd :=
  keep4 ((Below.refl w.heap.size w).alloc (Nat.le_refl _) o) H

set_option maxRecDepth 100000 in
set_option maxHeartbeats 8000000 in
theorem middle_any (n cap b off : Nat) (ps : List (Nat × Nat)) (X Y : Nat → Int) (w : World) (hn : ps.length = n) (h1 : 1 ≤ n) (h100 : n ≤ 100) (hps : PtsAt w b off ps) (hd : Dat ps X Y) :
    Calls Tryd.prog 29 #[.slice (some ⟨b, off, none⟩) n cap] w
      fun e w' => (∃ x y d, e = .returned (.tuple #[.float .f64 x, .float .f64 y, .float .f64 d]) ∧ IsI x (Cn.MX X Y (n - 1)) ∧ IsI y (Cn.MY X Y (n - 1)) ∧ IsI d (Rg.SH X Y (n - 1)) ∧ d < 18446744073709551616) ∧ Below w.heap.size w w' := by
  have HPS := Lib.hid hps
  have HD := Lib.hid hd
  have HN := Lib.hid hn
  have HS := Lib.hid (SH_small hd hn)
  have hnn : (n : Int) ≤ 100 := by omega
  have h1n : (1 : Int) ≤ n := by omega
  clear hps hd hn
  go_enter Tryd.func29, Tryd.ntmps29
  go_wp2
  go_loopw [5, 6, 7, 8, 9, 10, 11] (fun xv yv dv iv _ _ _ wr => ∃ (k x y d : Nat), k + 1 ≤ n ∧ iv = .int .i64 ((k : Int) + 1) ∧ xv = .float .f64 x ∧ yv = .float .f64 y ∧ dv = .float .f64 d ∧ Hid (IsI x (Cn.MX X Y k) ∧ IsI y (Cn.MY X Y k) ∧ IsI d (Rg.SH X Y k) ∧ d < 18446744073709551616) ∧ Below w.heap.size w wr) (fun _ _ _ iv _ _ _ _ => n - (intOf iv).toNat)
  case atStart => exact ⟨0, 0, 0, 0, by omega, rfl, rfl, rfl, rfl, Lib.hid ⟨isI_lit0, isI_lit0, isI_lit0, by decide⟩, Below.refl _ _⟩
  case round =>
    obtain ⟨k, x, y, d, hk, rfl, rfl, rfl, rfl, HA, hb⟩ := hrel
    by_cases hlt : k + 1 < n
    · have hil : k < ps.length := by have := HN.out; omega
      have hjl : k + 1 < ps.length := by have := HN.out; omega
      have hpi : ps[k]? = some ps[k] := List.getElem?_eq_getElem hil
      have hpj : ps[k + 1]? = some ps[k + 1] := List.getElem?_eq_getElem hjl
      obtain ⟨ii, mi⟩ := HD.out k _ hpi
      obtain ⟨ij, mj⟩ := HD.out (k + 1) _ hpj
      obtain ⟨c0, c1⟩ := HPS.out k _ hpi
      obtain ⟨d0, d1⟩ := HPS.out (k + 1) _ hpj
      obtain ⟨p, hpe⟩ : ∃ p, p = ps[k] := ⟨_, rfl⟩
      obtain ⟨q, hpe1⟩ : ∃ p, p = ps[k + 1] := ⟨_, rfl⟩
      rw [← hpe] at ii c0 c1
      rw [← hpe1] at ij d0 d1
      have c0' := cell_later hb c0
      have c1' := cell_later hb c1
      have d0' := cell_later hb d0
      have d1' := cell_later hb d1
      have bd := step_bd mi.1 mi.2 mj.1 mj.2
      have bm1 := small_mul mi.1 mj.2
      have bm2 := small_mul mj.1 mi.2
      have hle := MX_le HS.out k (by omega)
      have hle2 := SH_le HS.out k (by omega)
      have smi := mi
      have smj := mj
      unfold Small at smi smj
      have s1 := isI_mul ii.1 ij.2 (by omega)
      have s2 := isI_mul ij.1 ii.2 (by omega)
      have s3 := isI_sub s1 s2 (by omega)
      have s4 := isI_add ii.1 ij.1 (by omega)
      have s5 := isI_add ii.2 ij.2 (by omega)
      have s6 := isI_mul s4 s3 (by omega)
      have s7 := isI_mul s5 s3 (by omega)
      have s8 := isI_add HA.out.1 s6 (by omega)
      have s9 := isI_add HA.out.2.1 s7 (by omega)
      have s10 := isI_add HA.out.2.2.1 s3 (by omega)
      have r1 := run_fmul (P := Tryd.prog) ii.1.1 ij.2.1 27
      have r2 := run_fmul (P := Tryd.prog) ij.1.1 ii.2.1 27
      have r3 := run_fsub (P := Tryd.prog) s1.1 s2.1 27
      obtain ⟨c, hc⟩ : ∃ c, c = fsub (fmul p.1 q.2) (fmul q.1 p.2) := ⟨_, rfl⟩
      rw [← hc] at r3 s3 s6 s7 s8 s9 s10
      have r4 := run_fadd (P := Tryd.prog) ii.1.1 ij.1.1 27
      have r5 := run_fadd (P := Tryd.prog) ii.2.1 ij.2.1 27
      have r6 := run_fmul (P := Tryd.prog) s4.1 s3.1 27
      have r7 := run_fmul (P := Tryd.prog) s5.1 s3.1 27
      have r8 := run_fadd (P := Tryd.prog) HA.out.1.1 s6.1 27
      have r9 := run_fadd (P := Tryd.prog) HA.out.2.1.1 s7.1 27
      have r10 := run_fadd (P := Tryd.prog) HA.out.2.2.1.1 s3.1 27
      obtain ⟨x', hx'⟩ : ∃ z, z = fadd x (fmul (fadd p.1 q.1) c) := ⟨_, rfl⟩
      obtain ⟨y', hy'⟩ : ∃ z, z = fadd y (fmul (fadd p.2 q.2) c) := ⟨_, rfl⟩
      obtain ⟨d', hd'⟩ : ∃ z, z = fadd d c := ⟨_, rfl⟩
      rw [← hx'] at r8 s8
      rw [← hy'] at r9 s9
      rw [← hd'] at r10 s10
      have HA2 : Hid (IsI x' (Cn.MX X Y (k + 1)) ∧ IsI y' (Cn.MY X Y (k + 1)) ∧ IsI d' (Rg.SH X Y (k + 1)) ∧ d' < 18446744073709551616) := Lib.hid ⟨s8, s9, s10, by rw [hd']; exact fadd_lt _ _⟩
      have hki : (k : Int) < n := by omega
      have hki1 : (k : Int) + 1 < n := by omega
      have hk0 : (0 : Int) ≤ k := by omega
      have hk1 : (0 : Int) ≤ (k : Int) + 1 := by omega
      have hkt : ((k : Int) + 1).toNat = k + 1 := by omega
      have hwm : IntKind.i64.wrap ((k : Int) + 1 - 1) = (k : Int) := by rw [Int.add_sub_cancel]; exact IntWalk.i64_in _ (by omega)
      have hwk0 : IntKind.i64.wrap (k : Int) = (k : Int) := IntWalk.i64_in _ (by omega)
      have hwk1 : IntKind.i64.wrap ((k : Int) + 1 + 1) = (k : Int) + 1 + 1 := IntWalk.i64_in _ (by omega)
      have HB := Lib.hid hb
      clear hb c0 c1 d0 d1 hpi hpj hpe hpe1 hil hjl ii mi ij mj bd bm1 bm2 hle hle2 smi smj s1 s2 s3 s4 s5 s6 s7 s8 s9 s10 hc hx' hy' hd'
      go_wp2_with fail
      go_cut [9, 10] from 18 to 26 (fun s9 s10 wx => ∃ ga gb : Nat, s9 = .pointer (some ⟨ga, 0, none⟩) ∧ s10 = .pointer (some ⟨gb, 0, none⟩) ∧
        Hid (Blk wx ga #[.float .f64 p.1, .float .f64 p.2] 31 ∧ Blk wx gb #[.float .f64 q.1, .float .f64 q.2] 31) ∧ Hid (Below w.heap.size w wx))
      case first =>
        go_region_held3 (fun w' => w'.cell? ⟨b, off + k * 2, none⟩ = some (.float .f64 p.1) ∧ w'.cell? ⟨b, off + k * 2 + 1, none⟩ = some (.float .f64 p.2) ∧ w'.cell? ⟨b, off + (k + 1) * 2, none⟩ = some (.float .f64 q.1) ∧ w'.cell? ⟨b, off + (k + 1) * 2 + 1, none⟩ = some (.float .f64 q.2))
          (first | exact ⟨c0', c1', d0', d1'⟩ | exact keep4a ⟨c0', c1', d0', d1'⟩ | exact keep4a (keep4a ⟨c0', c1', d0', d1'⟩) | go_keep)
          (fail)
        all_goals (go_wp2_with fail; go_meet)
        all_goals (refine ⟨_, _, rfl, rfl, Lib.hid ⟨?_, ?_⟩, Lib.hid ?_⟩)
        all_goals first
          | exact blk_drew (blk_new2a _ _ _)
          | exact blk_drew (blk_new2b _ _ _)
          | exact (n2_below _ _ _ HB.out).drew
      case rest =>
        obtain ⟨ga, gb, rfl, rfl, HQ, HLc⟩ := hcut
        obtain ⟨⟨a0, a1⟩, _, _⟩ := cells2 HQ.out.1
        obtain ⟨⟨b0, b1⟩, _, _⟩ := cells2 HQ.out.2
        clear c0' c1' d0' d1' HB
        go_wp2
        go_quiet (fail)
        clear a0 a1 b0 b1 r1 r2 r3 r4 r5 r6 r7 r8 r9 r10
        have HB2 := Lib.hid (below_drewN HLc.out nq)
        go_wp2
        go_roundw
        case rel => exact ⟨k + 1, x', y', d', by omega, by go_num, rfl, rfl, rfl, HA2, HB2.out⟩
        case measure => simp [intOf]; omega
    · have hkn : k = n - 1 := by omega
      have hnlt : ¬ ((k : Int) + 1 < (n : Int)) := by omega
      have HB := Lib.hid hb
      have HF : Hid (IsI x (Cn.MX X Y (n - 1)) ∧ IsI y (Cn.MY X Y (n - 1)) ∧ IsI d (Rg.SH X Y (n - 1)) ∧ d < 18446744073709551616) := Lib.hid (by rw [← hkn]; exact HA.out)
      clear hb hkn
      go_wp2
      go_ret3
      exact ⟨⟨x, y, d, rfl, HF.out⟩, HB.out⟩
end Go.Proofs.YtpbhpplmokdkhaaDoor

/- The walks of planar.polygonCentroidArea, planar.CentroidArea and impl.Centroid, for a polygon of one ring. -/
set_option linter.unusedVariables false
namespace Go.Proofs.YtpbhpplmokdkhaaDoor
open Go.RowKit Go.WideShapes Fl

/-- What is told of the middle of a ring that has an area. -/
def CenOut (n : Nat) (ps : List (Nat × Nat)) (X Y : Nat → Int) (cx cy r : Nat) : Prop :=
  ∃ p0 A C0 C1, ps[0]? = some p0 ∧ IsI A (Rg.TN X Y (n - 2)) ∧ IsI C0 (Rg.CN X Y X (n - 2)) ∧ IsI C1 (Rg.CN X Y Y (n - 2)) ∧ r = fdiv A 4611686018427387904 ∧
    cx = fadd (fdiv C0 (fmul 4618441417868443648 r)) p0.1 ∧ cy = fadd (fdiv C1 (fmul 4618441417868443648 r)) p0.2
theorem cenOut_of {n : Nat} {ps : List (Nat × Nat)} {X Y : Nat → Int} {cx cy r : Nat} {p0 : Nat × Nat} (hp0 : ps[0]? = some p0) (ht : Rg.TN X Y (n - 2) ≠ 0)
    (hr : (Rg.TN X Y (n - 2) = 0 ∧ cx = p0.1 ∧ cy = p0.2 ∧ r = 0) ∨
     (Rg.TN X Y (n - 2) ≠ 0 ∧ ∃ A C0 C1, IsI A (Rg.TN X Y (n - 2)) ∧ IsI C0 (Rg.CN X Y X (n - 2)) ∧ IsI C1 (Rg.CN X Y Y (n - 2)) ∧ r = fdiv A 4611686018427387904 ∧
        cx = fadd (fdiv C0 (fmul 4618441417868443648 r)) p0.1 ∧ cy = fadd (fdiv C1 (fmul 4618441417868443648 r)) p0.2)) : CenOut n ps X Y cx cy r := by
  rcases hr with ⟨h, _⟩ | ⟨_, A, C0, C1, h1, h2, h3, h4, h5, h6⟩
  · exact absurd h ht
  · exact ⟨p0, A, C0, C1, hp0, h1, h2, h3, h4, h5, h6⟩
theorem fdiv_lt' (x y : Nat) : fdiv x y < 18446744073709551616 := getD_lt fun _ h => Ieee.double.div_lt h
theorem area_ne {n : Nat} {ps : List (Nat × Nat)} {X Y : Nat → Int} {cx cy r : Nat} (h : CenOut n ps X Y cx cy r) (ht : Rg.TN X Y (n - 2) ≠ 0) (hb : (Rg.TN X Y (n - 2)).natAbs ≤ 1000000000000000) :
    IsFin r ∧ val r = (Rg.TN X Y (n - 2) : Rat) * p2 (-1) ∧ r < 18446744073709551616 ∧ (FloatKind.f64.format.order (fabs r) 0 == some .eq) = false := by
  obtain ⟨p0, A, C0, C1, _, hA, _, _, rfl, _, _⟩ := h
  obtain ⟨_, hf, hv⟩ := Rg.half_val hA hb
  refine ⟨hf, hv, fdiv_lt' _ _, ?_⟩
  show (Ieee.double.order (fabs (fdiv A 4611686018427387904)) 0 == some .eq) = false
  rw [eq_iff (fabs_fin hf) isI_lit0.1, isI_lit0.2]
  refine decide_eq_false (fun h0 => ?_)
  have e0 : ((0 : Int) : Rat) = 0 := rfl
  rw [e0] at h0
  have hp := p2_pos (-1)
  have ht' : (Rg.TN X Y (n - 2) : Rat) ≠ 0 := fun h => ht (Rat.intCast_inj.1 h)
  have hz : val (fdiv A 4611686018427387904) = 0 := by rcases val_fabs hf with ⟨_, e⟩ | ⟨_, e⟩ <;> rw [e] at h0 <;> grind
  rw [hv] at hz
  rcases Rat.mul_eq_zero.1 hz with h | h
  · exact ht' h
  · grind

set_option maxRecDepth 100000 in
set_option maxHeartbeats 1000000 in
theorem polyC (g cap gu capu n : Nat) (ps : List (Nat × Nat)) (X Y : Nat → Int) (w : World) (hu : w.cell? ⟨g, 0, none⟩ = some (.slice (some ⟨gu, 0, none⟩) n capu)) (hn : ps.length = n) (h1 : 2 ≤ n) (hn200 : n ≤ 200) (hps : PtsAt w gu 0 ps) (hd : DatM ps X Y) (ht : Rg.TN X Y (n - 2) ≠ 0) :
    Calls Tryd.prog 76 #[.slice (some ⟨g, 0, none⟩) 1 cap] w
      fun e w' => (∃ cx cy r, e = .returned (.tuple #[.agg #[.float .f64 cx, .float .f64 cy], .float .f64 (fabs r)]) ∧ CenOut n ps X Y cx cy r) ∧ Below w.heap.size w w' := by
  have hmid : ∀ i, i < n → Rg.Mid (X i) ∧ Rg.Mid (Y i) := by
    intro i hi
    exact (hd i _ (List.getElem?_eq_getElem (show i < ps.length by omega))).2
  have hbt : (Rg.TN X Y (n - 2)).natAbs ≤ 1000000000000000 := by
    have := Rg.TN_le hmid (n - 2) (by omega)
    omega
  have hb0 : Below w.heap.size w (w.alloc (.cells #[.float .f64 0, .float .f64 0] 69)) := (Below.refl _ _).alloc (Nat.le_refl _) _
  have hcall := ring_any n capu gu 0 ps X Y _ hn (by omega) hn200 (hps.below hb0) hd
  have u0 := cell_later hb0 hu
  have HB0 := Lib.hid hb0
  have HT := Lib.hid (And.intro ht hbt)
  clear hn h1 hn200 hps hd hb0 hu hmid hbt ht
  go_enter Tryd.func76, Tryd.ntmps76
  go_wp2_with fail
  refine hcall.mono ?_
  rintro e w1 ⟨⟨cx, cy, r, p0, rfl, hp0, hr⟩, hb1⟩
  have hco := cenOut_of hp0 HT.out.1 hr
  obtain ⟨f1, f2, f3, f4⟩ := area_ne hco HT.out.1 HT.out.2
  have hbk : Blk w1 w.heap.size #[.float .f64 0, .float .f64 0] 69 := blk_below (heap_alloc_new w _) hb1 (by simp)
  have HCO := Lib.hid hco
  have habs := fun W => abs_any r f3 W
  have HB1 := Lib.hid (HB0.out.trans (hb1.mono HB0.out.size))
  obtain ⟨W2, hW2⟩ : ∃ W2, W2 = w1.alloc (.cells #[.float .f64 cx, .float .f64 cy] 69) := ⟨_, rfl⟩
  have BK2 : Blk W2 w.heap.size #[.float .f64 0, .float .f64 0] 69 := by rw [hW2]; exact blk_below hbk ((Below.refl _ _).alloc (Nat.le_refl _) _) (Array.getElem?_eq_some_iff.1 hbk).1
  have HB2 := Lib.hid (HB1.out.alloc HB1.out.size (.cells #[.float .f64 cx, .float .f64 cy] 69))
  obtain ⟨q0, q1⟩ := two_new w1 (.float .f64 cx) (.float .f64 cy) 69
  rw [← hW2] at HB2 q0 q1
  have HBK := Lib.hid BK2
  obtain ⟨e0, f0⟩ := blk_cell BK2 (i := 0) rfl
  obtain ⟨e1, f1'⟩ := blk_cell BK2 (i := 1) rfl
  clear hcall hp0 hr hb1 hbk hco f1 f2 f3 BK2 u0
  go_wp2_with fail
  rw [← hW2]
  clear hW2
  refine (habs _).mono ?_
  rintro e w3 ⟨rfl, rfl⟩
  go_wp2
  try simp only [Exit.inBlock, Exit.then]
  refine bodyPost_ret (results_row_tmp rfl _ _ w.heap.size 69 #[.float .f64 cx, .float .f64 cy] (0, 0) _ rfl (blk_set (blk_set HBK.out 0 _) 1 _) Tryd.underlying69 rfl size_opoint) rfl ?_
  exact ⟨⟨cx, cy, r, rfl, HCO.out⟩, (HB2.out.setCell (p := ⟨w.heap.size, 0, none⟩) (Nat.le_refl _) _).setCell (p := ⟨w.heap.size, 1, none⟩) (Nat.le_refl _) _⟩
set_option maxRecDepth 100000 in
set_option maxHeartbeats 1000000 in
theorem cenPoly (g cap gu capu n : Nat) (ps : List (Nat × Nat)) (X Y : Nat → Int) (w : World) (hu : w.cell? ⟨g, 0, none⟩ = some (.slice (some ⟨gu, 0, none⟩) n capu)) (hn : ps.length = n) (h1 : 2 ≤ n) (hn200 : n ≤ 200) (hps : PtsAt w gu 0 ps) (hd : DatM ps X Y) (ht : Rg.TN X Y (n - 2) ≠ 0) :
    Calls Tryd.prog 57 #[.iface 96 (.slice (some ⟨g, 0, none⟩) 1 cap)] w
      fun e w' => (∃ cx cy r, e = .returned (.tuple #[.agg #[.float .f64 cx, .float .f64 cy], .float .f64 (fabs r)]) ∧ CenOut n ps X Y cx cy r) ∧ Below w.heap.size w w' := by
  have hb0 : Below w.heap.size w (w.alloc (.cells #[.float .f64 0, .float .f64 0] 69)) := (Below.refl _ _).alloc (Nat.le_refl _) _
  have hcall := polyC g cap gu capu n ps X Y _ (cell_later hb0 hu) hn h1 hn200 (hps.below hb0) hd ht
  have a0 := as_poly_pt
  have a1 := as_poly_mp
  have a2 := as_poly_ls
  have a3 := as_poly_mls
  have a4 := as_poly_ring
  have a5 := as_poly_poly
  have HB0 := Lib.hid hb0
  clear hn h1 hn200 hps hd hb0 hu ht
  go_enter Tryd.func57, Tryd.ntmps57
  go_wp2_with fail
  refine hcall.mono ?_
  rintro e w1 ⟨⟨cx, cy, r, rfl, hr⟩, hb1⟩
  have hbk : Blk w1 w.heap.size #[.float .f64 0, .float .f64 0] 69 := blk_below (heap_alloc_new w _) hb1 (by simp)
  have HR := Lib.hid hr
  have HB1 := Lib.hid (HB0.out.trans (hb1.mono HB0.out.size))
  have HBK := Lib.hid hbk
  obtain ⟨e0, f0⟩ := blk_cell hbk (i := 0) rfl
  obtain ⟨e1, f1⟩ := blk_cell hbk (i := 1) rfl
  clear hcall hr hb1 hbk
  go_wp2
  try simp only [Exit.inBlock, Exit.then]
  refine bodyPost_ret (results_row_tmp rfl _ _ w.heap.size 69 #[.float .f64 cx, .float .f64 cy] (0, 0) _ rfl (blk_set (blk_set HBK.out 0 _) 1 _) Tryd.underlying69 rfl size_opoint) rfl ?_
  exact ⟨⟨cx, cy, r, rfl, HR.out⟩, (HB1.out.setCell (p := ⟨w.heap.size, 0, none⟩) (Nat.le_refl _) _).setCell (p := ⟨w.heap.size, 1, none⟩) (Nat.le_refl _) _⟩
set_option maxRecDepth 100000 in
set_option maxHeartbeats 1000000 in
theorem centroid_any (g cap n : Nat) (v : Value) (ps : List (Nat × Nat)) (X Y : Nat → Int) (w : World) (hv : w.cell? ⟨g, 0, none⟩ = some v) (hp : IsPts w v ps) (hn : ps.length = n) (h1 : 2 ≤ n) (hn200 : n ≤ 200) (hd : DatM ps X Y) (ht : Rg.TN X Y (n - 2) ≠ 0) :
    Calls Tryd.prog 28 #[.agg #[.int .i64 3, .slice (some ⟨g, 0, none⟩) 1 cap, .slice none 0 0]] w
      fun e w' => (∃ cx cy r, e = .returned (.tuple #[.agg #[.float .f64 cx, .float .f64 cy], .float .f64 (fabs r)]) ∧ CenOut n ps X Y cx cy r) ∧ Below w.heap.size w w' := by
  have hl : Lists w g [v] [ps] := by
    refine ⟨rfl, fun i u hi => ?_, fun i u qs hi hq => ?_⟩
    · match i, hi with
      | 0, hi => simp at hi; subst hi; exact hv
    · match i, hi, hq with
      | 0, hi, hq => simp at hi hq; subst hi hq; exact ⟨hp, by omega⟩
  obtain ⟨W0, hW0⟩ : ∃ W0, W0 = (w.alloc (.cells #[.int .i64 3, .slice (some ⟨g, 0, none⟩) 1 cap, .slice none 0 0] 50)).alloc (.cells #[.float .f64 0, .float .f64 0] 31) := ⟨_, rfl⟩
  have L0 : Below w.heap.size w W0 := by rw [hW0]; exact ((Below.refl _ _).alloc (Nat.le_refl _) _).alloc (by simp) _
  have BK0 : Blk W0 (w.heap.size + 1) #[.float .f64 0, .float .f64 0] 31 := by
    have := heap_alloc_new (w.alloc (.cells #[.int .i64 3, .slice (some ⟨g, 0, none⟩) 1 cap, .slice none 0 0] 50)) (.cells #[.float .f64 0, .float .f64 0] 31)
    rw [World.size_alloc] at this
    rw [hW0]; exact this
  have hcall1 := geom_poly g cap [v] [ps] 1 (.slice none 0 0) W0 rfl (by omega) (hl.below L0)
  have HL0 := Lib.hid L0
  have HBK0 := Lib.hid BK0
  have HH := Lib.hid (And.intro hn (And.intro h1 (And.intro hn200 (And.intro hd ht))))
  clear hl hv hp hn h1 hn200 hd ht L0 BK0
  go_enter Tryd.func28, Tryd.ntmps28
  go_wp2_with fail
  rw [← hW0]
  clear hW0
  refine hcall1.mono ?_
  rintro e w1 ⟨pv, us, rfl, hown, hrows, hb1⟩
  obtain ⟨po, pcap, rfl, hf⟩ := owns_form hown
  obtain ⟨pg, rfl, _, _, _, _⟩ := hf (by omega)
  have hus : us.length = 1 := hrows.1
  have hu0 : us[0]? = some us[0] := List.getElem?_eq_getElem (by omega)
  have hrow := hrows.2 0 us[0] ps hu0 rfl
  have hcellu : w1.cell? ⟨pg, 0, none⟩ = some us[0] := by rw [hown.cellAt 0 (by omega)]; exact hu0
  obtain ⟨u, hue⟩ : ∃ u, u = us[0] := ⟨_, rfl⟩
  rw [← hue] at hrow hcellu
  obtain ⟨gu, capu, rfl, _, _, _, hpsu⟩ := owns_pts hrow (by have := HH.out.1; have := HH.out.2.1; omega)
  rw [HH.out.1] at hcellu
  have hcall2 := cenPoly pg pcap gu capu n ps X Y w1 hcellu HH.out.1 HH.out.2.1 HH.out.2.2.1 hpsu HH.out.2.2.2.1 HH.out.2.2.2.2
  have HB1 := Lib.hid (HL0.out.trans (hb1.mono HL0.out.size))
  have HBK1 := Lib.hid (blk_below HBK0.out hb1 (Array.getElem?_eq_some_iff.1 HBK0.out).1)
  clear hcall1 hown hrows hb1 hus hu0 hrow hcellu hue hpsu hf HL0 HBK0
  go_wp2_with fail
  refine hcall2.mono ?_
  rintro e w2 ⟨⟨cx, cy, r, rfl, hr⟩, hb2⟩
  have HR := Lib.hid hr
  have HB2 := Lib.hid (HB1.out.trans (hb2.mono HB1.out.size))
  have BK2 := blk_below HBK1.out hb2 (Array.getElem?_eq_some_iff.1 HBK1.out).1
  obtain ⟨W3, hW3⟩ : ∃ W3, W3 = w2.alloc (.cells #[.float .f64 cx, .float .f64 cy] 69) := ⟨_, rfl⟩
  have BK3 : Blk W3 (w.heap.size + 1) #[.float .f64 0, .float .f64 0] 31 := by rw [hW3]; exact blk_below BK2 ((Below.refl _ _).alloc (Nat.le_refl _) _) (Array.getElem?_eq_some_iff.1 BK2).1
  have HB3 := Lib.hid (HB2.out.alloc HB2.out.size (.cells #[.float .f64 cx, .float .f64 cy] 69))
  obtain ⟨q0, q1⟩ := two_new w2 (.float .f64 cx) (.float .f64 cy) 69
  have HBK3 := Lib.hid BK3
  obtain ⟨e0, f0⟩ := blk_cell BK3 (i := 0) rfl
  obtain ⟨e1, f1⟩ := blk_cell BK3 (i := 1) rfl
  rw [hW3] at e0 f0 e1 f1
  rw [← hW3] at HB3
  clear hcall2 hr hb2 BK2 BK3 HBK1 HB2
  go_wp2
  rw [← hW3]
  try simp only [Exit.inBlock, Exit.then]
  refine bodyPost_ret (results_row_tmp rfl _ _ (w.heap.size + 1) 31 #[.float .f64 cx, .float .f64 cy] (0, 0) _ rfl (blk_set (blk_set HBK3.out 0 _) 1 _) Tryd.underlying31 rfl size_ipoint) rfl ?_
  exact ⟨⟨cx, cy, r, rfl, HR.out⟩, (HB3.out.setCell (p := ⟨w.heap.size + 1, 0, none⟩) (by simp) _).setCell (p := ⟨w.heap.size + 1, 1, none⟩) (by simp) _⟩
end Go.Proofs.YtpbhpplmokdkhaaDoor

/- Plain law: how near the computed middle of a ring is to what its sums tell. -/
set_option linter.unusedVariables false
namespace Go.Proofs.YtpbhpplmokdkhaaDoor
open Go.RowKit Fl
namespace Ce

theorem isI_lit3 : IsI 4613937818241073152 3 := isI_nearest 3 (by decide)
theorem isI_lit6 : IsI 4618441417868443648 6 := isI_nearest 6 (by decide)
/-- The sums of the triangles of a fan. -/
theorem fan_sum (X Y : Nat → Int) : ∀ m, Rg.CN X Y X m + 3 * X 0 * Rg.TN X Y m = Cn.MX X Y (m + 1) + (X (m + 1) + X 0) * (X (m + 1) * Y 0 - X 0 * Y (m + 1)) ∧
    Rg.CN X Y Y m + 3 * Y 0 * Rg.TN X Y m = Cn.MY X Y (m + 1) + (Y (m + 1) + Y 0) * (X (m + 1) * Y 0 - X 0 * Y (m + 1))
  | 0 => by
    simp only [Rg.CN, Rg.TN, Cn.MX, Cn.MY]
    constructor <;> grind
  | m + 1 => by
    obtain ⟨h1, h2⟩ := fan_sum X Y m
    have e1 : Cn.MX X Y (m + 1 + 1) = Cn.MX X Y (m + 1) + (X (m + 1) + X (m + 1 + 1)) * (X (m + 1) * Y (m + 1 + 1) - X (m + 1 + 1) * Y (m + 1)) := rfl
    have e2 : Cn.MY X Y (m + 1 + 1) = Cn.MY X Y (m + 1) + (Y (m + 1) + Y (m + 1 + 1)) * (X (m + 1) * Y (m + 1 + 1) - X (m + 1 + 1) * Y (m + 1)) := rfl
    rw [e1, e2]
    unfold Rg.CN Rg.TN
    unfold Rg.tri
    generalize Cn.MX X Y (m + 1) = a at *
    generalize Cn.MY X Y (m + 1) = b at *
    constructor <;> grind
theorem fan_closed {X Y : Nat → Int} {n : Nat} (h2 : 2 ≤ n) (hc : X (n - 1) = X 0 ∧ Y (n - 1) = Y 0) : Cn.MX X Y (n - 1) = Rg.CN X Y X (n - 2) + 3 * X 0 * Rg.TN X Y (n - 2) ∧ Cn.MY X Y (n - 1) = Rg.CN X Y Y (n - 2) + 3 * Y 0 * Rg.TN X Y (n - 2) := by
  obtain ⟨h1, h2'⟩ := fan_sum X Y (n - 2)
  rw [show n - 2 + 1 = n - 1 by omega, hc.1, hc.2] at h1 h2'
  constructor
  · rw [h1]; grind
  · rw [h2']; grind
theorem n41 : p2 (-41) = 1 / 2199023255552 := Sg.n41
theorem n40 : p2 (-40) = 1 / 1099511627776 := Sg.n40
theorem n44 : p2 (-44) = 1 / 17592186044416 := by have := p2_val 44; have e : ((2 ^ 44 : Nat) : Rat) = 17592186044416 := rfl; have e' : p2 (-((44 : Nat) : Int)) = p2 (-44) := rfl; rw [e, e'] at this; grind
theorem n52 : p2 (-52) = 1 / 4503599627370496 := Sg.n52
theorem n11 : p2 11 = 2048 := p2_nat 11
theorem n12 : p2 12 = 4096 := p2_nat 12
theorem n8 : p2 8 = 256 := p2_nat 8
theorem abs_cases (T : Int) : (0 ≤ T ∧ ((T.natAbs : Int) : Rat) = (T : Rat)) ∨ (T ≤ 0 ∧ ((T.natAbs : Int) : Rat) = -(T : Rat)) := by
  by_cases h : 0 ≤ T
  · exact .inl ⟨h, by rw [Int.natAbs_of_nonneg h]⟩
  · refine .inr ⟨by omega, ?_⟩
    rw [← Rat.intCast_neg]; congr 1; omega
/-- The computed coordinate is near the middle's. -/
theorem near_mid {C0 r p0 cx : Nat} {T cn M X0 : Int} (hT : T ≠ 0) (hTb : T.natAbs ≤ 200000000) (hr : IsFin r ∧ val r = (T : Rat) * p2 (-1)) (hC : IsI C0 cn) (hp : IsI p0 X0) (sX : Small X0) (hM : M = cn + 3 * X0 * T) (hMb : M.natAbs ≤ 3000 * T.natAbs)
    (hcx : cx = fadd (fdiv C0 (fmul 4618441417868443648 r)) p0) :
    ∃ G : Rat, G * (3 * T) = M ∧ -1000 ≤ G ∧ G ≤ 1000 ∧ IsFin cx ∧ Nr (val cx) G (1 / 549755813888) := by
  have e2 : (2 : Rat) * p2 (-1) = 1 := by
    have := p2_val 1
    have e : ((2 ^ 1 : Nat) : Rat) = 2 := rfl
    have e' : p2 (-((1 : Nat) : Int)) = p2 (-1) := rfl
    rw [e, e'] at this; grind
  have e6 : ((6 : Int) : Rat) = 6 := rfl
  have hv : val 4618441417868443648 * val r = ((3 * T : Int) : Rat) := by
    rw [isI_lit6.2, hr.2, e6, Rat.intCast_mul]
    have e3 : ((3 : Int) : Rat) = 3 := rfl
    rw [e3]; grind
  have hb := p2_1023_big (3 * T) (by omega)
  have h3 : IsI (fmul 4618441417868443648 r) (3 * T) := by
    have := fmul_rnd isI_lit6.1 hr.1 (by rw [hv]; exact lt_1023 hb.1) (by rw [hv]; exact gt_1023 hb.2)
    rw [hv] at this
    exact ⟨this.1, rnd_exact this (c := 3 * T) (q := 0) (by rw [p2_zero]; grind) (by omega) (by omega)⟩
  have hT' : (T : Rat) ≠ 0 := fun h => hT (Rat.intCast_inj.1 h)
  have e3 : ((3 * T : Int) : Rat) = 3 * (T : Rat) := by rw [Rat.intCast_mul]; rfl
  have h3ne : ((3 * T : Int) : Rat) ≠ 0 := by rw [e3]; grind
  obtain ⟨G, hG⟩ : ∃ G, G = (M : Rat) / ((3 * T : Int) : Rat) := ⟨_, rfl⟩
  have hGT : G * ((3 * T : Int) : Rat) = (M : Rat) := by rw [hG]; exact Rat.div_mul_cancel h3ne
  rw [e3] at hGT
  -- the middle lies within the bounds
  have hGb : -1000 ≤ G ∧ G ≤ 1000 := by
    have e3000 : ((3000 : Int) : Rat) = 3000 := rfl
    have hm1 : ((-(3000 * (T.natAbs : Int)) : Int) : Rat) ≤ (M : Rat) := Rat.intCast_le_intCast.2 (by omega)
    have hm2 : (M : Rat) ≤ ((3000 * (T.natAbs : Int) : Int) : Rat) := Rat.intCast_le_intCast.2 (by omega)
    rw [Rat.intCast_neg, Rat.intCast_mul, e3000] at hm1
    rw [Rat.intCast_mul, e3000] at hm2
    rcases abs_cases T with ⟨h0, e⟩ | ⟨h0, e⟩ <;> rw [e] at hm1 hm2
    · have hpos : (0 : Rat) < (T : Rat) := by have := Rat.intCast_nonneg.2 h0; grind
      constructor
      · by_cases c : -1000 ≤ G
        · exact c
        · have := Rat.mul_pos (show 0 < -1000 - G by grind) hpos; grind
      · by_cases c : G ≤ 1000
        · exact c
        · have := Rat.mul_pos (show 0 < G - 1000 by grind) hpos; grind
    · have hpos : (0 : Rat) < -(T : Rat) := by
        have := Rat.intCast_le_intCast.2 h0
        have e0 : ((0 : Int) : Rat) = 0 := rfl
        rw [e0] at this; grind
      constructor
      · by_cases c : -1000 ≤ G
        · exact c
        · have := Rat.mul_pos (show 0 < -1000 - G by grind) hpos; grind
      · by_cases c : G ≤ 1000
        · exact c
        · have := Rat.mul_pos (show 0 < G - 1000 by grind) hpos; grind
  have bX := Sg.small_bd sX
  obtain ⟨q, hq⟩ : ∃ q, q = G - (X0 : Rat) := ⟨_, rfl⟩
  have hqv : q * val (fmul 4618441417868443648 r) = val C0 := by
    rw [h3.2, hC.2, e3, hq]
    have : (M : Rat) = (cn : Rat) + 3 * (X0 : Rat) * (T : Rat) := by
      rw [hM, Rat.intCast_add, Rat.intCast_mul, Rat.intCast_mul]; rfl
    grind
  have m11 := n11
  have m41 := n41
  obtain ⟨f1, g1⟩ := nr_div hC.1 h3.1 (by rw [h3.2]; exact h3ne) hqv (k := 11) (by omega) (by omega) (by rw [m11]; grind) (by rw [m11]; grind)
  rw [show (11 : Int) - 52 = -41 from rfl, m41] at g1
  have g2 := g1.1
  have g3 := g1.2
  have m12 := n12
  have m40 := n40
  obtain ⟨f2, k1⟩ := nr_add f1 hp.1 (k := 12) (by omega) (by omega) (by rw [m12, hp.2]; grind) (by rw [m12, hp.2]; grind)
  rw [show (12 : Int) - 52 = -40 from rfl, m40, hp.2] at k1
  have k2 := k1.1
  have k3 := k1.2
  refine ⟨G, hGT, hGb.1, hGb.2, by rw [hcx]; exact f2, ?_⟩
  rw [hcx]
  exact ⟨by grind, by grind⟩
/-- A power of two that is near a number. -/
theorem near_pow {m : Nat} (hm : m ≠ 0) (hb : m ≤ 1000000000000) : ∃ k : Int, 0 ≤ k ∧ k ≤ 41 ∧ (m : Rat) ≤ p2 k ∧ p2 k ≤ 2 * (m : Rat) := by
  have h1 := Nat.log2_self_le hm
  have h2 := Nat.lt_log2_self (n := m)
  have h3 : m.log2 < 40 := by
    by_cases c : m.log2 < 40
    · exact c
    · exfalso
      have : 2 ^ 40 ≤ 2 ^ m.log2 := Nat.pow_le_pow_right (by decide) (by omega)
      have e : (2 : Nat) ^ 40 = 1099511627776 := by decide
      omega
  refine ⟨((m.log2 + 1 : Nat) : Int), by omega, by omega, ?_, ?_⟩
  · rw [p2_nat]
    exact Rat.natCast_le_natCast.2 (by omega)
  · rw [p2_nat]
    have : ((2 ^ (m.log2 + 1) : Nat) : Rat) ≤ ((2 * m : Nat) : Rat) := Rat.natCast_le_natCast.2 (by rw [Nat.pow_succ]; omega)
    have e : ((2 * m : Nat) : Rat) = 2 * (m : Rat) := by rw [Rat.natCast_mul]; rfl
    rw [e] at this
    exact this
/-- The law of one coordinate. -/
theorem coord_ok {D x cx : Nat} {T M : Int} {G : Rat} (hT : T ≠ 0) (hTb : T.natAbs ≤ 200000000) (hG : G * (3 * T) = M) (g1 : -1000 ≤ G) (g2 : G ≤ 1000) (fc : IsFin cx) (hc : Nr (val cx) G (1 / 549755813888)) (hD : IsI D T) (hx : IsI x M) :
    IsFin (fmul 4613937818241073152 D) ∧ IsFin (fmul (fmul 4613937818241073152 D) cx) ∧ IsFin (fsub (fmul (fmul 4613937818241073152 D) cx) x) ∧ IsFin (fmul 4517329193108106637 (fabs D)) ∧
      (FloatKind.f64.format.order (fabs (fsub (fmul (fmul 4613937818241073152 D) cx) x)) (fmul 4517329193108106637 (fabs D)) == some .lt || FloatKind.f64.format.order (fabs (fsub (fmul (fmul 4613937818241073152 D) cx) x)) (fmul 4517329193108106637 (fabs D)) == some .eq) = true := by
  have h3 := isI_mul isI_lit3 hD (by omega)
  have e3 : ((3 * T : Int) : Rat) = 3 * (T : Rat) := by rw [Rat.intCast_mul]; rfl
  have hTn : T.natAbs ≠ 0 := by omega
  obtain ⟨a, ha⟩ : ∃ a : Rat, a = ((T.natAbs : Int) : Rat) := ⟨_, rfl⟩
  have ha1 : 1 ≤ a := by
    have : ((1 : Int) : Rat) ≤ ((T.natAbs : Int) : Rat) := Rat.intCast_le_intCast.2 (by omega)
    rw [ha]; exact this
  have ha2 : a ≤ 200000000 := by
    have : ((T.natAbs : Int) : Rat) ≤ ((200000000 : Int) : Rat) := Rat.intCast_le_intCast.2 (by omega)
    rw [ha]; exact this
  have hTa : (T : Rat) = a ∨ (T : Rat) = -a := by rcases abs_cases T with ⟨_, e⟩ | ⟨_, e⟩ <;> rw [ha, e] <;> grind
  obtain ⟨k, k0, k41, kp1, kp2⟩ := near_pow (m := 3003 * T.natAbs) (by omega) (by omega)
  have ek : ((3003 * T.natAbs : Nat) : Rat) = 3003 * a := by rw [ha, Rat.natCast_mul]; rfl
  rw [ek] at kp1 kp2
  have c1 := hc.1
  have c2 := hc.2
  -- 3 d p
  have hm : -(3003 * a) ≤ val (fmul 4613937818241073152 D) * val cx ∧ val (fmul 4613937818241073152 D) * val cx ≤ 3003 * a := by
    rw [h3.2, e3]
    have b := Sg.bd_mul (a := (T : Rat)) (b := val cx) (A := a) (B := 1001) (by rcases hTa with e | e <;> rw [e] <;> grind) (by rcases hTa with e | e <;> rw [e] <;> grind) (by grind) (by grind)
    constructor <;> grind
  obtain ⟨f1, n1⟩ := nr_mul h3.1 fc (k := k) (by omega) (by omega) (by grind) (by grind)
  have m52 : p2 (k - 52) = p2 k * (1 / 4503599627370496) := by rw [show k - 52 = k + -52 by omega, p2_add, n52]
  rw [m52, h3.2, e3] at n1
  have n2 := n1.1
  have n3 := n1.2
  -- its distance from the sum
  have hd : -(a * (3 / 549755813888)) ≤ 3 * (T : Rat) * val cx - (M : Rat) ∧ 3 * (T : Rat) * val cx - (M : Rat) ≤ a * (3 / 549755813888) := by
    have b := Sg.bd_mul (a := (T : Rat)) (b := val cx - G) (A := a) (B := 1 / 549755813888) (by rcases hTa with e | e <;> rw [e] <;> grind) (by rcases hTa with e | e <;> rw [e] <;> grind) (by grind) (by grind)
    have e : (T : Rat) * (val cx - G) * 3 = 3 * (T : Rat) * val cx - (M : Rat) := by rw [← hG]; grind
    constructor <;> grind
  obtain ⟨P, hP⟩ : ∃ P, P = fmul (fmul 4613937818241073152 D) cx := ⟨_, rfl⟩
  rw [← hP] at f1 n2 n3 ⊢
  obtain ⟨z, hz⟩ : ∃ z, z = 3 * (T : Rat) * val cx := ⟨_, rfl⟩
  rw [← hz] at n2 n3 hd
  have hp2k := p2_pos k
  obtain ⟨f2, n4⟩ := nr_sub f1 hx.1 (k := k) (by omega) (by omega) (by rw [hx.2]; grind) (by rw [hx.2]; grind)
  rw [m52, hx.2] at n4
  have n5 := n4.1
  have n6 := n4.2
  -- the right side
  have hDa : IsI (fabs D) (T.natAbs : Int) := isI_fabs hD
  have hDav : val (fabs D) = a := by rw [hDa.2, ha]
  obtain ⟨l1, l2, l3⟩ := Sg.lit6
  have m20 := Sg.n20
  rw [m20] at l2
  have m8 := n8
  have m44 := n44
  have l3' : val 4517329193108106637 ≤ 1 / 999999 := by
    have hr : Ieee.double.read 4517329193108106637 = .number false 4722366482869645 (-72) := by kernel_rfl
    rw [val_of hr]
    have e1 : ((4722366482869645 : Nat) : Rat) = 4722366482869645 := rfl
    have h1 : p2 0 = p2 (-72) * p2 72 := by rw [← p2_add]; rfl
    have h2 : p2 72 = 4722366482869645213696 := p2_nat 72
    have h3 : p2 0 = 1 := rfl
    rw [h2, h3] at h1
    rw [e1]
    simp only [sg]
    grind
  obtain ⟨c, hcv⟩ : ∃ c, c = val 4517329193108106637 := ⟨_, rfl⟩
  rw [← hcv] at l2 l3'
  have q1 := Rat.mul_nonneg (show 0 ≤ c - 1 / 1048576 by grind) (show 0 ≤ a by grind)
  have q2 := Rat.mul_nonneg (show 0 ≤ 1 / 999999 - c by grind) (show 0 ≤ a by grind)
  obtain ⟨f3, n7⟩ := nr_mul l1 (fabs_fin hD.1) (k := 8) (by omega) (by omega) (by rw [m8, hDav, ← hcv]; grind) (by rw [m8, hDav, ← hcv]; grind)
  rw [show (8 : Int) - 52 = -44 from rfl, m44, hDav, ← hcv] at n7
  have n8' := n7.1
  have n9 := n7.2
  refine ⟨h3.1, f1, f2, f3, Sg.le_of_val (fabs_fin f2) f3 ?_⟩
  rcases val_fabs f2 with ⟨_, e⟩ | ⟨_, e⟩ <;> rw [e] <;> grind
end Ce
end Go.Proofs.YtpbhpplmokdkhaaDoor

/- The walk of laws.FnCentroidAny. -/
set_option linter.unusedVariables false
namespace Go.Proofs.YtpbhpplmokdkhaaDoor
open Go.RowKit Go.Deep Fl

theorem one_new3 (w : World) (u : Value) (T : TypeId) : (w.alloc (.cells #[u] T)).cell? ⟨w.heap.size, 0, none⟩ = some u := by simp
theorem eq_of_val' {x y : Nat} (hx : IsFin x) (hy : IsFin y) (h : val x = val y) : (FloatKind.f64.format.order x y == some .eq) = true := by
  show (Ieee.double.order x y == some .eq) = true
  rw [eq_iff hx hy, h]; exact decide_eq_true rfl
/-- What is compared at the end. -/
theorem all_ok {n : Nat} {ps : List (Nat × Nat)} {X Y : Nat → Int} {cx cy r x y D : Nat} (hn : ps.length = n) (hr : RingD ps X Y) (hs : Rg.SH X Y (n - 1) ≠ 0) (hsi : Cn.SimpleI X Y (n - 1)) (ho : CenOut n ps X Y cx cy r)
    (hx : IsI x (Cn.MX X Y (n - 1))) (hy : IsI y (Cn.MY X Y (n - 1))) (hD : IsI D (Rg.SH X Y (n - 1))) :
    (Ieee.double.div (fabs D) 4611686018427387904 = some (fdiv (fabs D) 4611686018427387904) ∧ (FloatKind.f64.format.order (fabs r) (fdiv (fabs D) 4611686018427387904) == some .eq) = true) ∧
    (∃ G : Rat, G * (3 * (Rg.SH X Y (n - 1) : Rat)) = Cn.MX X Y (n - 1) ∧ -1000 ≤ G ∧ G ≤ 1000 ∧ IsFin cx ∧ Nr (val cx) G (1 / 549755813888)) ∧
    (∃ G : Rat, G * (3 * (Rg.SH X Y (n - 1) : Rat)) = Cn.MY X Y (n - 1) ∧ -1000 ≤ G ∧ G ≤ 1000 ∧ IsFin cy ∧ Nr (val cy) G (1 / 549755813888)) ∧ (Rg.SH X Y (n - 1)).natAbs ≤ 200000000 := by
  have h4 := hr.four
  have h100 := hr.most
  have hcl := hr.closed
  rw [hn] at h4 h100 hcl
  have hsm := SH_small hr.dat hn
  have hT := Rg.SH_closed (by omega) hcl
  obtain ⟨p0, A, C0, C1, hp0, hA, hC0, hC1, hrr, hcx, hcy⟩ := ho
  obtain ⟨ip0, sx0, sy0⟩ := hr.dat 0 p0 hp0
  have hb := SH_le hsm (n - 1) (by omega)
  have hmid := Cn.middle_bd hsi (by omega) ⟨hcl.1, hcl.2⟩ (fun i hi => hsm i (by omega))
  have hfan := Ce.fan_closed (X := X) (Y := Y) (n := n) (by omega) hcl
  rw [hT] at hA hfan
  obtain ⟨_, fr, vr⟩ := Rg.half_val hA (by omega)
  rw [← hrr] at fr vr
  obtain ⟨d1, fd, vd⟩ := Rg.half_val (isI_fabs hD) (by omega)
  refine ⟨⟨d1, eq_of_val' (fabs_fin fr) fd ?_⟩, ?_, ?_, by omega⟩
  · rw [vd]
    have hp := p2_pos (-1)
    rcases Ce.abs_cases (Rg.SH X Y (n - 1)) with ⟨h0, e⟩ | ⟨h0, e⟩
    · have hnn := Rat.mul_nonneg (Rat.intCast_nonneg.2 h0) (Rat.le_of_lt hp)
      rcases val_fabs fr with ⟨_, e'⟩ | ⟨h', e'⟩ <;> rw [e', vr, e]
      rw [vr] at h'
      grind
    · have h0' : (0 : Rat) ≤ -(Rg.SH X Y (n - 1) : Rat) := by
        have := Rat.intCast_le_intCast.2 h0
        have e0 : ((0 : Int) : Rat) = 0 := rfl
        rw [e0] at this; grind
      have hnn := Rat.mul_nonneg h0' (Rat.le_of_lt hp)
      rcases val_fabs fr with ⟨h', e'⟩ | ⟨_, e'⟩ <;> rw [e', vr, e]
      · rw [vr] at h'
        grind
      · grind
  · exact Ce.near_mid hs (by omega) ⟨fr, vr⟩ hC0 ip0.1 sx0 hfan.1 hmid.1 hcx
  · exact Ce.near_mid hs (by omega) ⟨fr, vr⟩ hC1 ip0.2 sy0 hfan.2 hmid.2 hcy

set_option maxRecDepth 100000 in
set_option maxHeartbeats 4000000 in
theorem ce_walk (v : Value) (ps : List (Nat × Nat)) (w : World) (hv : IsPts w v ps) (hwf : Wf ps) (hn : ps.length * 16 ≤ 140737488351232) :
    Calls Tryd.prog 8 #[v] w fun e w' => e = .returned (.bool true) ∧ Below w.heap.size w w' := by
  have HV := Lib.hid hv
  have hcall1 := simple_any hv hwf hn
  obtain ⟨ao, cap, rfl, hv'⟩ := hv
  obtain ⟨n, hl⟩ : ∃ n, n = ps.length := ⟨_, rfl⟩
  rw [← hl] at hcall1 ⊢
  have HV : Hid (IsPts w (.slice ao n cap) ps) := by rw [hl]; exact HV
  have HL := Lib.hid hl
  clear hl hwf hn
  by_cases hbig : (2147483647 : Int) < n
  · clear hcall1 hv' HV
    go_enter Tryd.func8, Tryd.ntmps8
    go_wp2
    go_ret
    exact ⟨rfl, Below.refl _ _⟩
  go_enter Tryd.func8, Tryd.ntmps8
  go_wp2_with fail
  refine hcall1.mono ?_
  rintro e w1 ⟨c, rfl, hc, hb1⟩
  have HB1 := Lib.hid hb1
  clear hb1 hcall1
  cases c with
  | false =>
    clear hv'
    go_wp2_with fail
    refine (measures_any _).mono ?_
    rintro e wx ⟨rfl, hbx⟩
    have HBx := Lib.hid (HB1.out.trans (hbx.mono HB1.out.size))
    clear hbx
    go_wp2
    go_ret
    exact ⟨rfl, HBx.out⟩
  | true =>
    obtain ⟨X, Y, hr, hs, hsi⟩ := hc rfl
    have HH := Lib.hid (And.intro hr (And.intro hs hsi))
    have h4 := hr.four
    have h100 := hr.most
    rw [← HL.out] at h4 h100
    have hqs : ∃ b off, ao = some ⟨b, off, none⟩ ∧ PtsAt w b off ps := by
      rcases hv' with h | h
      · have h9 := HL.out; rw [h] at h9; simp at h9; omega
      · exact h
    obtain ⟨b, off, rfl, hps⟩ := hqs
    have hcl := hr.closed
    rw [← HL.out] at hcl
    have hT := Rg.SH_closed (X := X) (Y := Y) (n := n) (by omega) hcl
    have F1 := Lib.hid (fun g c W (h : Below w.heap.size w W) (hc : W.cell? ⟨g, 0, none⟩ = some (.slice (some ⟨b, off, none⟩) n cap)) => centroid_any g c n _ ps X Y W hc (HV.out.below h) HL.out.symm (by omega) (by omega) HH.out.1.datM (by rw [hT]; exact HH.out.2.1))
    have F2 := Lib.hid (fun W (h : Below w.heap.size w W) => middle_any n cap b off ps X Y W HL.out.symm (by omega) h100 (hps.below h) HH.out.1.dat)
    have hn100 : (n : Int) ≤ 100 := by omega
    have hn4 : (4 : Int) ≤ n := by omega
    have LA := HB1.out.alloc HB1.out.size (.cells #[.slice (some ⟨b, off, none⟩) n cap] 22)
    have CA := one_new3 w1 (.slice (some ⟨b, off, none⟩) n cap) 22
    have HLA := Lib.hid LA
    clear hv' hc hr hs hsi hps hcl hT hbig
    go_wp2_with fail
    refine (F1.out _ _ _ LA CA).mono ?_
    rintro e w2 ⟨⟨cx, cy, r, rfl, ho⟩, hb2⟩
    have HB2 := Lib.hid (HLA.out.trans (hb2.mono HLA.out.size))
    have HO := Lib.hid ho
    obtain ⟨W3, hW3⟩ : ∃ W, W = w2.alloc (.cells #[.float .f64 cx, .float .f64 cy] 31) := ⟨_, rfl⟩
    have C3 := two_new w2 (.float .f64 cx) (.float .f64 cy) 31
    have LB3 := HB2.out.alloc HB2.out.size (.cells #[.float .f64 cx, .float .f64 cy] 31)
    rw [← hW3] at C3 LB3
    have HC3 := Lib.hid C3
    have HB3 := Lib.hid LB3
    clear hb2 HLA LA CA F1 ho C3 LB3
    go_wp2_with fail
    rw [← hW3]
    clear hW3
    refine (F2.out _ HB3.out).mono ?_
    rintro e w4 ⟨⟨x, y, D, rfl, ix, iy, iD, hD64⟩, hb4⟩
    have HB4 := Lib.hid (HB3.out.trans (hb4.mono HB3.out.size))
    have C4 : w4.cell? ⟨w2.heap.size, 0, none⟩ = some (.float .f64 cx) ∧ w4.cell? ⟨w2.heap.size, 1, none⟩ = some (.float .f64 cy) := ⟨cell_later hb4 HC3.out.1, cell_later hb4 HC3.out.2⟩
    have HC4 := Lib.hid C4
    obtain ⟨⟨dv, e0⟩, ⟨G, g1, g2, g3, g4, g5⟩, ⟨G', g1', g2', g3', g4', g5'⟩, hTb⟩ := all_ok HL.out.symm HH.out.1 HH.out.2.1 HH.out.2.2 HO.out ix iy iD
    obtain ⟨m1, m2, m3, m4, m5⟩ := Ce.coord_ok HH.out.2.1 hTb g1 g2 g3 g4 g5 iD ix
    obtain ⟨_, m2', m3', _, m5'⟩ := Ce.coord_ok HH.out.2.1 hTb g1' g2' g3' g4' g5' iD iy
    have a1 := fun W => abs_any D hD64 W
    have rd := run_fdiv (P := Tryd.prog) dv 27
    have r1 := run_fmul (P := Tryd.prog) Ce.isI_lit3.1 iD.1 27
    have r2 := run_fmul (P := Tryd.prog) m1 g4 27
    have r2' := run_fmul (P := Tryd.prog) m1 g4' 27
    have r3 := run_fsub (P := Tryd.prog) m2 ix.1 27
    have r3' := run_fsub (P := Tryd.prog) m2' iy.1 27
    have r4 := run_fmul (P := Tryd.prog) Sg.lit6.1 (fabs_fin iD.1) 27
    have a2 := fun W => abs_any (fsub (fmul (fmul 4613937818241073152 D) cx) x) (fsub_lt _ _) W
    have a3 := fun W => abs_any (fsub (fmul (fmul 4613937818241073152 D) cy) y) (fsub_lt _ _) W
    obtain ⟨fD, hfD⟩ : ∃ zz, zz = fabs D := ⟨_, rfl⟩
    rw [← hfD] at a1 rd r4 e0 m5 m5'
    obtain ⟨hf, hhf⟩ : ∃ zz, zz = fdiv fD 4611686018427387904 := ⟨_, rfl⟩
    rw [← hhf] at rd e0
    obtain ⟨t3, ht3⟩ : ∃ zz, zz = fmul 4613937818241073152 D := ⟨_, rfl⟩
    rw [← ht3] at r1 r2 r2' r3 r3' a2 a3 m5 m5'
    obtain ⟨u1, hu1⟩ : ∃ zz, zz = fmul t3 cx := ⟨_, rfl⟩
    rw [← hu1] at r2 r3 a2 m5
    obtain ⟨u2, hu2⟩ : ∃ zz, zz = fmul t3 cy := ⟨_, rfl⟩
    rw [← hu2] at r2' r3' a3 m5'
    obtain ⟨v1, hv1⟩ : ∃ zz, zz = fsub u1 x := ⟨_, rfl⟩
    rw [← hv1] at r3 a2 m5
    obtain ⟨v2, hv2⟩ : ∃ zz, zz = fsub u2 y := ⟨_, rfl⟩
    rw [← hv2] at r3' a3 m5'
    obtain ⟨fv1, hfv1⟩ : ∃ zz, zz = fabs v1 := ⟨_, rfl⟩
    rw [← hfv1] at a2 m5
    obtain ⟨fv2, hfv2⟩ : ∃ zz, zz = fabs v2 := ⟨_, rfl⟩
    rw [← hfv2] at a3 m5'
    obtain ⟨rh, hrh⟩ : ∃ zz, zz = fmul 4517329193108106637 fD := ⟨_, rfl⟩
    rw [← hrh] at r4 m5 m5'
    clear hrh hfv2 hfv1 hv2 hv1 hu2 hu1 ht3 hhf hfD
    clear hb4 HC3 HB3 F2 ix iy iD hD64 dv g1 g2 g3 g4 g5 g1' g2' g3' g4' g5' hTb m1 m2 m3 m4 m2' m3' HO C4
    have HA1 := Lib.hid a1
    have HA2 := Lib.hid a2
    have HA3 := Lib.hid a3
    clear a1 a2 a3
    go_wp2_with fail
    refine (measures_any _).mono ?_
    rintro e w5 ⟨rfl, hb5⟩
    have HB5 := Lib.hid (HB4.out.trans (hb5.mono HB4.out.size))
    obtain ⟨k0, k1⟩ : w5.cell? ⟨w2.heap.size, 0, none⟩ = some (.float .f64 cx) ∧ w5.cell? ⟨w2.heap.size, 1, none⟩ = some (.float .f64 cy) := ⟨cell_later hb5 HC4.out.1, cell_later hb5 HC4.out.2⟩
    clear hb5 HB4 HC4
    go_wp2_with fail
    refine (HA1.out _).mono ?_
    rintro e wy ⟨rfl, rfl⟩
    go_wp2_with fail
    refine (HA2.out _).mono ?_
    rintro e wy ⟨rfl, rfl⟩
    go_wp2_with fail
    refine (HA1.out _).mono ?_
    rintro e wy ⟨rfl, rfl⟩
    go_wp2_with fail
    refine (HA3.out _).mono ?_
    rintro e wy ⟨rfl, rfl⟩
    go_wp2_with fail
    refine (HA1.out _).mono ?_
    rintro e wy ⟨rfl, rfl⟩
    go_wp2
    go_ret
    exact ⟨rfl, HB5.out⟩
end Go.Proofs.YtpbhpplmokdkhaaDoor
