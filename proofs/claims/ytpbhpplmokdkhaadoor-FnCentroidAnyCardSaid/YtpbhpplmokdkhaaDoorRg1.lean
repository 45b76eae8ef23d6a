/- The walk of ringCentroidArea. -/
import Derived.Test.YtpbhpplmokdkhaaDoorUt
import Derived.Test.YtpbhpplmokdkhaaDoorSeg
import Derived.Test.YtpbhpplmokdkhaaDoorRgP
namespace Go.Proofs.YtpbhpplmokdkhaaDoor
open Go.RowKit Fl

/-- Whole points, none far from 0. -/
def DatM (ps : List (Nat × Nat)) (X Y : Nat → Int) : Prop := ∀ i p, ps[i]? = some p → IsP p (X i) (Y i) ∧ Rg.Mid (X i) ∧ Rg.Mid (Y i)

/-- What ringCentroidArea answers. -/
def RingOut (n : Nat) (ps : List (Nat × Nat)) (X Y : Nat → Int) (e : Ending) : Prop :=
  ∃ cx cy r p0, e = .returned (.tuple #[.agg #[.float .f64 cx, .float .f64 cy], .float .f64 r]) ∧ ps[0]? = some p0 ∧
    ((Rg.TN X Y (n - 2) = 0 ∧ cx = p0.1 ∧ cy = p0.2 ∧ r = 0) ∨
     (Rg.TN X Y (n - 2) ≠ 0 ∧ ∃ A C0 C1, IsI A (Rg.TN X Y (n - 2)) ∧ IsI C0 (Rg.CN X Y X (n - 2)) ∧ IsI C1 (Rg.CN X Y Y (n - 2)) ∧ r = fdiv A 4611686018427387904 ∧
        cx = fadd (fdiv C0 (fmul 4618441417868443648 r)) p0.1 ∧ cy = fadd (fdiv C1 (fmul 4618441417868443648 r)) p0.2))

set_option maxRecDepth 100000 in
set_option maxHeartbeats 4000000 in
theorem ring_any (n cap b off : Nat) (ps : List (Nat × Nat)) (X Y : Nat → Int) (w : World) (hn : ps.length = n) (h1 : 1 ≤ n) (hn200 : n ≤ 200) (hps : PtsAt w b off ps) (hd : DatM ps X Y) :
    Calls Tryd.prog 75 #[.slice (some ⟨b, off, none⟩) n cap] w
      fun e w' => RingOut n ps X Y e ∧ Below w.heap.size w w' := by
  have HPS := Lib.hid hps
  have HD := Lib.hid hd
  have HN := Lib.hid hn
  have hnn : (n : Int) ≤ 200 := by omega
  have h1n : (1 : Int) ≤ n := by omega
  have hp0 : ps[0]? = some ps[0] := List.getElem?_eq_getElem (by omega)
  obtain ⟨i0, m0⟩ := hd 0 _ hp0
  obtain ⟨z0, z1⟩ := hps 0 _ hp0
  obtain ⟨⟨x0, y0⟩, hpe⟩ : ∃ p, p = ps[0] := ⟨_, rfl⟩
  rw [← hpe] at i0 z0 z1 hp0
  simp only [Nat.zero_mul, Nat.add_zero] at z0 z1
  have hw := cell_alloc (cell_alloc z0 (.cells #[.float .f64 0, .float .f64 0] 69)) (.cells #[.float .f64 0, .float .f64 0] 69)
  have hw1 := cell_alloc (cell_alloc z1 (.cells #[.float .f64 0, .float .f64 0] 69)) (.cells #[.float .f64 0, .float .f64 0] 69)
  have HP0 := Lib.hid (And.intro i0 m0)
  have hmid : ∀ i, i < n → Rg.Mid (X i) ∧ Rg.Mid (Y i) := by
    intro i hi
    exact (hd i _ (List.getElem?_eq_getElem (show i < ps.length by omega))).2
  have HMID := Lib.hid hmid
  clear hmid
  clear hps hd hn hpe z0 z1 i0 m0
  go_enter Tryd.func75, Tryd.ntmps75
  go_wp2
  rw [show ((n : Int) == 0) = false from by simp; omega]
  go_loopw [5, 8] (fun av iv wr => ∃ (k A C0 C1 : Nat), (k + 2 ≤ n ∨ k = 0) ∧ iv = .int .i64 ((k : Int) + 1) ∧ av = .float .f64 A ∧ Hid (IsI A (Rg.TN X Y k)) ∧ Hid (IsI C0 (Rg.CN X Y X k)) ∧ Hid (IsI C1 (Rg.CN X Y Y k)) ∧
    Hid (Blk wr w.heap.size #[.float .f64 0, .float .f64 0] 69) ∧ Hid (Blk wr (w.heap.size + 1) #[.float .f64 C0, .float .f64 C1] 69) ∧ Below w.heap.size w wr) (fun _ iv _ => n - (intOf iv).toNat)
  case atStart =>
    refine ⟨0, 0, 0, 0, .inr rfl, rfl, rfl, Lib.hid isI_lit0, Lib.hid isI_lit0, Lib.hid isI_lit0, Lib.hid (heap_alloc2_old w _ _), Lib.hid (heap_alloc2_new w _ _), ((Below.refl _ _).alloc (Nat.le_refl _) _).alloc (by simp) _⟩
  case round =>
    obtain ⟨k, A, C0, C1, hk, rfl, rfl, HA, HC0, HC1, HB0, HB1, hb⟩ := hrel
    by_cases hlt : k + 2 < n
    · have hil : k + 1 < ps.length := by have := HN.out; omega
      have hjl : k + 1 + 1 < ps.length := by have := HN.out; omega
      have hpi : ps[k + 1]? = some ps[k + 1] := List.getElem?_eq_getElem hil
      have hpj : ps[k + 1 + 1]? = some ps[k + 1 + 1] := List.getElem?_eq_getElem hjl
      obtain ⟨ii, mi⟩ := HD.out (k + 1) _ hpi
      obtain ⟨ij, mj⟩ := HD.out (k + 1 + 1) _ hpj
      obtain ⟨c0, c1⟩ := HPS.out (k + 1) _ hpi
      obtain ⟨d0, d1⟩ := HPS.out (k + 1 + 1) _ hpj
      obtain ⟨⟨x, y⟩, hpe⟩ : ∃ p, p = ps[k + 1] := ⟨_, rfl⟩
      obtain ⟨⟨x1, y1⟩, hpe1⟩ : ∃ p, p = ps[k + 1 + 1] := ⟨_, rfl⟩
      rw [← hpe] at ii c0 c1
      rw [← hpe1] at ij d0 d1
      have c0' := cell_later hb c0
      have c1' := cell_later hb c1
      have d0' := cell_later hb d0
      have d1' := cell_later hb d1
      clear c0 c1 d0 d1 hpi hpj hpe hpe1 hil hjl
      obtain ⟨s1, s2, s3, s4, s5, s6, s7⟩ := Rg.isI_tri HP0.out.1.1 HP0.out.1.2 ii.1 ii.2 ij.1 ij.2 HP0.out.2 mi mj
      have r1 := run_fsub (P := Tryd.prog) ii.1.1 HP0.out.1.1.1 27
      have r2 := run_fsub (P := Tryd.prog) ij.2.1 HP0.out.1.2.1 27
      have r3 := run_fsub (P := Tryd.prog) ij.1.1 HP0.out.1.1.1 27
      have r4 := run_fsub (P := Tryd.prog) ii.2.1 HP0.out.1.2.1 27
      have r5 := run_fmul (P := Tryd.prog) s1 s2 27
      have r6 := run_fmul (P := Tryd.prog) s3 s4 27
      have r7 := run_fsub (P := Tryd.prog) s5 s6 27
      clear s1 s2 s3 s4 s5 s6
      obtain ⟨a, hae⟩ : ∃ a, a = Rg.fTri x0 y0 x y x1 y1 := ⟨_, rfl⟩
      rw [show fsub (fmul (fsub x x0) (fsub y1 y0)) (fmul (fsub x1 x0) (fsub y y0)) = a from hae.symm] at r7
      rw [← hae] at s7
      have r8 := run_fadd (P := Tryd.prog) HA.out.1 s7.1 27
      have hki : (k : Int) + 1 + 1 < n := by omega
      have hki1 : (k : Int) + 1 < n := by omega
      have hk0 : (0 : Int) ≤ (k : Int) + 1 := by omega
      have hk1 : (0 : Int) ≤ (k : Int) + 1 + 1 := by omega
      have hkt : ((k : Int) + 1).toNat = k + 1 := by omega
      have hkt1 : ((k : Int) + 1 + 1).toNat = k + 1 + 1 := by omega
      have hwk : IntKind.i64.wrap ((k : Int) + 1) = (k : Int) + 1 := IntWalk.i64_in _ (by omega)
      have hwk1 : IntKind.i64.wrap ((k : Int) + 1 + 1) = (k : Int) + 1 + 1 := IntWalk.i64_in _ (by omega)
      have HB := Lib.hid hb
      have F4 : Hid (Four wr b (off + (k + 1) * 2) (off + (k + 1) * 2 + 1) (off + (k + 1 + 1) * 2) (off + (k + 1 + 1) * 2 + 1) x y x1 y1) := Lib.hid ⟨c0', c1', d0', d1'⟩
      have hbw : b < w.heap.size := World.block_lt_of_cell? w ⟨b, _, none⟩ (HPS.out 0 _ hp0).1
      have hne1 : w.heap.size + 1 ≠ b := by omega
      clear hb hae hbw
      obtain ⟨t1, t2, t3, t4⟩ := Rg.isI_step (X := X) (Y := Y) HP0.out.1.1 ii.1 ij.1 s7 (Rg.tri_le HP0.out.2.1 HP0.out.2.2 mi.1 mi.2 mj.1 mj.2).2.2 HP0.out.2.1 mi.1 mj.1
      obtain ⟨u1, u2, u3, u4⟩ := Rg.isI_step (X := X) (Y := Y) HP0.out.1.2 ii.2 ij.2 s7 (Rg.tri_le HP0.out.2.1 HP0.out.2.2 mi.1 mi.2 mj.1 mj.2).2.2 HP0.out.2.2 mi.2 mj.2
      have r10 := run_fadd (P := Tryd.prog) ii.1.1 ij.1.1 27
      have r11 := run_fmul (P := Tryd.prog) Rg.isI_lit2.1 HP0.out.1.1.1 27
      have r12 := run_fsub (P := Tryd.prog) t1 t2 27
      have r13 := run_fmul (P := Tryd.prog) t3 s7.1 27
      obtain ⟨sx, hsx⟩ : ∃ z, z = Rg.fStep x0 x x1 a := ⟨_, rfl⟩
      rw [show fmul (fsub (fadd x x1) (fmul 4611686018427387904 x0)) a = sx from hsx.symm] at r13
      rw [← hsx] at t4
      have r14 := run_fadd (P := Tryd.prog) HC0.out.1 t4.1 27
      have r20 := run_fadd (P := Tryd.prog) ii.2.1 ij.2.1 27
      have r21 := run_fmul (P := Tryd.prog) Rg.isI_lit2.1 HP0.out.1.2.1 27
      have r22 := run_fsub (P := Tryd.prog) u1 u2 27
      have r23 := run_fmul (P := Tryd.prog) u3 s7.1 27
      obtain ⟨sy, hsy⟩ : ∃ z, z = Rg.fStep y0 y y1 a := ⟨_, rfl⟩
      rw [show fmul (fsub (fadd y y1) (fmul 4611686018427387904 y0)) a = sy from hsy.symm] at r23
      rw [← hsy] at u4
      have r24 := run_fadd (P := Tryd.prog) HC1.out.1 u4.1 27
      clear hsx hsy t1 t2 t3 u1 u2 u3
      go_wp2
      go_quiet (fail)
      go_wp2
      clear c0' c1' d0' d1'
      obtain ⟨W2, hW2⟩ : ∃ W2, W2 = wr.drewN nq := ⟨_, rfl⟩
      rw [← hW2]
      have F2 : Four W2 b (off + (k + 1) * 2) (off + (k + 1) * 2 + 1) (off + (k + 1 + 1) * 2) (off + (k + 1 + 1) * 2 + 1) x y x1 y1 := by rw [hW2]; exact F4.out.drewN
      have B2 : Blk W2 (w.heap.size + 1) #[.float .f64 C0, .float .f64 C1] 69 := by rw [hW2]; exact blk_drewN HB1.out
      have HW2 := Lib.hid hW2
      obtain ⟨e0, f0⟩ := blk_cell B2 (i := 0) rfl
      obtain ⟨c0', c1', d0', d1'⟩ := F2
      clear hW2
      go_still_tail 20, (by kernel_rfl)
      change wpList _ _ _ _ _ W2.drew
      clear c0' c1' d0' d1'
      go_wp2
      obtain ⟨W3, hW3⟩ : ∃ W3, W3 = (W2.setCell ⟨w.heap.size + 1, 0, none⟩ (.float .f64 (fadd C0 sx))).drew := ⟨_, rfl⟩
      rw [← hW3]
      have F3 : Four W3 b (off + (k + 1) * 2) (off + (k + 1) * 2 + 1) (off + (k + 1 + 1) * 2) (off + (k + 1 + 1) * 2 + 1) x y x1 y1 := by rw [hW3, HW2.out]; exact (F4.out.drewN.set hne1).drew
      have B3 : Blk W3 (w.heap.size + 1) #[.float .f64 (fadd C0 sx), .float .f64 C1] 69 := by rw [hW3, HW2.out]; exact blk_drew (blk_set (blk_drewN HB1.out) 0 _)
      have A3 : Blk W3 w.heap.size #[.float .f64 0, .float .f64 0] 69 := by rw [hW3, HW2.out]; exact blk_drew (blk_other (blk_drewN HB0.out) (by omega))
      have L3 : Below w.heap.size w W3 := by rw [hW3, HW2.out]; exact ((below_drewN HB.out _).setCell (p := ⟨w.heap.size + 1, 0, none⟩) (by simp) _).drew
      have HB3 := Lib.hid B3
      have HA3 := Lib.hid A3
      have HL3 := Lib.hid L3
      obtain ⟨g0, g1⟩ := blk_cell B3 (i := 1) rfl
      obtain ⟨c0', c1', d0', d1'⟩ := F3
      clear hW3 e0 f0 B2 B3 A3 L3
      go_still_tail 20, (by kernel_rfl)
      change wpList _ _ _ _ _ W3.drew
      clear c0' c1' d0' d1'
      go_wp2
      go_roundw
      case rel =>
        have bt : (Rg.TN X Y k + Rg.tri X Y (k + 1)).natAbs ≤ 9007199254740992 := by
          have := Rg.TN_le HMID.out (k + 1) (.inl hlt)
          unfold Rg.TN at this
          omega
        have bx : (Rg.CN X Y X k + (X (k + 1) + X (k + 1 + 1) - 2 * X 0) * Rg.tri X Y (k + 1)).natAbs ≤ 9007199254740992 := by
          have := Rg.CN_le (Z := X) HMID.out (fun i hi => (HMID.out i hi).1) (k + 1) (.inl hlt)
          unfold Rg.CN at this
          omega
        have by' : (Rg.CN X Y Y k + (Y (k + 1) + Y (k + 1 + 1) - 2 * Y 0) * Rg.tri X Y (k + 1)).natAbs ≤ 9007199254740992 := by
          have := Rg.CN_le (Z := Y) HMID.out (fun i hi => (HMID.out i hi).2) (k + 1) (.inl hlt)
          unfold Rg.CN at this
          omega
        exact ⟨k + 1, _, _, _, .inl (by omega), by go_num, rfl, Lib.hid (isI_add HA.out s7 bt), Lib.hid (isI_add HC0.out t4 bx), Lib.hid (isI_add HC1.out u4 by'), Lib.hid (blk_other (blk_drew HA3.out) (by omega)), Lib.hid (blk_set (blk_drew HB3.out) 1 _), (HL3.out.drew).setCell (p := ⟨w.heap.size + 1, 1, none⟩) (by simp) _⟩
      case measure => simp [intOf]; omega
    · have hkn : k = n - 2 := by omega
      have hk2 : k + 1 < n ∨ k = 0 := by omega
      have bT := Rg.TN_le HMID.out k hk2
      have bX := Rg.CN_le (Z := X) HMID.out (fun i hi => (HMID.out i hi).1) k hk2
      have bY := Rg.CN_le (Z := Y) HMID.out (fun i hi => (HMID.out i hi).2) k hk2
      have hz : (FloatKind.f64.format.order A 0 == some .eq) = decide (Rg.TN X Y k = 0) := isI_eq HA.out isI_lit0
      obtain ⟨c0, c1⟩ := HPS.out 0 _ hp0
      simp only [Nat.zero_mul, Nat.add_zero] at c0 c1
      have c0' := cell_later hb c0
      have c1' := cell_later hb c1
      have HB := Lib.hid hb
      have HKN := Lib.hid hkn
      obtain ⟨e0, f0⟩ := blk_cell HB0.out (i := 0) rfl
      obtain ⟨e1, f1⟩ := blk_cell HB0.out (i := 1) rfl
      obtain ⟨g0, i0⟩ := blk_cell HB1.out (i := 0) rfl
      obtain ⟨g1, i1⟩ := blk_cell HB1.out (i := 1) rfl
      have hlt' : ¬ ((k : Int) + 1 < (n : Int) - 1) := by omega
      clear c0 c1 hb hkn hk2
      by_cases ht : Rg.TN X Y k = 0
      · rw [decide_eq_true ht] at hz
        have HT := Lib.hid ht
        clear ht bT bX bY
        go_wp2
        try simp only [Exit.inBlock, Exit.then]
        refine bodyPost_ret (results_row_tmp rfl _ _ w.heap.size 69 #[.float .f64 x0, .float .f64 y0] (0, 0) _ rfl (blk_set (blk_set HB0.out 0 _) 1 _) Tryd.underlying69 rfl size_opoint) rfl ?_
        have ht := HT.out
        rw [HKN.out] at ht
        exact ⟨⟨_, _, _, _, rfl, hp0, .inl ⟨ht, rfl, rfl, rfl⟩⟩, (HB.out.setCell (p := ⟨w.heap.size, 0, none⟩) (Nat.le_refl _) _).setCell (p := ⟨w.heap.size, 1, none⟩) (Nat.le_refl _) _⟩
      · rw [decide_eq_false ht] at hz
        obtain ⟨d1, d2, _⟩ := Rg.half_val HA.out (by omega)
        have d3 := Rg.six_facts HA.out (by omega)
        obtain ⟨q1, q2, _⟩ := Rg.quot_facts HC0.out d3 (by omega) (by omega)
        obtain ⟨s1, s2, _⟩ := Rg.quot_facts HC1.out d3 (by omega) (by omega)
        have r1 := run_fdiv (P := Tryd.prog) d1 27
        have r2 := run_fmul (P := Tryd.prog) Rg.isI_lit6.1 d2 27
        have r3 := run_fdiv (P := Tryd.prog) q1 27
        have r4 := run_fdiv (P := Tryd.prog) s1 27
        have r5 := run_fadd (P := Tryd.prog) q2 HP0.out.1.1.1 27
        have r6 := run_fadd (P := Tryd.prog) s2 HP0.out.1.2.1 27
        obtain ⟨r, hr⟩ : ∃ r, r = fdiv A 4611686018427387904 := ⟨_, rfl⟩
        rw [← hr] at r1 r2 r3 r4 r5 r6
        obtain ⟨s, hs⟩ : ∃ s, s = fmul 4618441417868443648 r := ⟨_, rfl⟩
        rw [← hs] at r2 r3 r4 r5 r6
        obtain ⟨qx, hqx⟩ : ∃ q, q = fdiv C0 s := ⟨_, rfl⟩
        obtain ⟨qy, hqy⟩ : ∃ q, q = fdiv C1 s := ⟨_, rfl⟩
        rw [← hqx] at r3 r5
        rw [← hqy] at r4 r6
        obtain ⟨px, hpx⟩ : ∃ q, q = fadd qx x0 := ⟨_, rfl⟩
        obtain ⟨py, hpy⟩ : ∃ q, q = fadd qy y0 := ⟨_, rfl⟩
        rw [← hpx] at r5
        rw [← hpy] at r6
        obtain ⟨HR, HS, HQX, HQY, HPX, HPY⟩ := And.intro (Lib.hid hr) (And.intro (Lib.hid hs) (And.intro (Lib.hid hqx) (And.intro (Lib.hid hqy) (And.intro (Lib.hid hpx) (Lib.hid hpy)))))
        have BB1 := blk_set HB1.out 0 (.float .f64 qx)
        have BB2 := blk_set BB1 1 (.float .f64 qy)
        have BB3 := blk_set BB2 0 (.float .f64 px)
        have BB4 := blk_set BB3 1 (.float .f64 py)
        have AA4 := blk_other (blk_other (blk_other (blk_other HB0.out (g := w.heap.size + 1) (i := 0) (u := .float .f64 qx) (by omega)) (g := w.heap.size + 1) (i := 1) (u := .float .f64 qy) (by omega)) (g := w.heap.size + 1) (i := 0) (u := .float .f64 px) (by omega)) (g := w.heap.size + 1) (i := 1) (u := .float .f64 py) (by omega)
        obtain ⟨k1, l1⟩ := blk_cell BB1 (i := 1) (v := .float .f64 C1) rfl
        obtain ⟨k2, l2⟩ := blk_cell BB2 (i := 0) (v := .float .f64 qx) rfl
        obtain ⟨k3, l3⟩ := blk_cell BB3 (i := 1) (v := .float .f64 qy) rfl
        obtain ⟨k4, l4⟩ := blk_cell BB4 (i := 0) (v := .float .f64 px) rfl
        obtain ⟨k5, l5⟩ := blk_cell BB4 (i := 1) (v := .float .f64 py) rfl
        obtain ⟨k6, l6⟩ := blk_cell AA4 (i := 0) (v := .float .f64 0) rfl
        obtain ⟨k7, l7⟩ := blk_cell AA4 (i := 1) (v := .float .f64 0) rfl
        have HAA := Lib.hid AA4
        have HT := Lib.hid ht
        clear ht bT bX bY d1 d2 d3 q1 q2 s1 s2 hr hs hqx hqy hpx hpy AA4 BB1 BB2 BB3 BB4
        go_wp2
        try simp only [Exit.inBlock, Exit.then]
        refine bodyPost_ret (results_row_tmp rfl _ _ w.heap.size 69 #[.float .f64 px, .float .f64 py] (0, 0) _ rfl (blk_set (blk_set HAA.out 0 _) 1 _) Tryd.underlying69 rfl size_opoint) rfl ?_
        have ht := HT.out
        have ha := HA.out
        have hc0 := HC0.out
        have hc1 := HC1.out
        rw [HKN.out] at ht ha hc0 hc1
        refine ⟨⟨_, _, _, _, rfl, hp0, .inr ⟨ht, A, C0, C1, ha, hc0, hc1, HR.out, ?_, ?_⟩⟩, ?_⟩
        · rw [HPX.out, HQX.out, HS.out]
        · rw [HPY.out, HQY.out, HS.out]
        · have q0 : w.heap.size ≤ w.heap.size + 1 := Nat.le_succ _
          exact (((((HB.out.setCell (p := ⟨w.heap.size + 1, 0, none⟩) q0 _).setCell (p := ⟨w.heap.size + 1, 1, none⟩) q0 _).setCell (p := ⟨w.heap.size + 1, 0, none⟩) q0 _).setCell (p := ⟨w.heap.size + 1, 1, none⟩) q0 _).setCell (p := ⟨w.heap.size, 0, none⟩) (Nat.le_refl _) _).setCell (p := ⟨w.heap.size, 1, none⟩) (Nat.le_refl _) _
end Go.Proofs.YtpbhpplmokdkhaaDoor
