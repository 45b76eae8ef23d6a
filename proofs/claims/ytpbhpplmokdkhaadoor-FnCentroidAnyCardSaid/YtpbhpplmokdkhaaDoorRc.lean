/- The walk of RingContains. -/
import Derived.Test.YtpbhpplmokdkhaaDoorBe
import Derived.Test.YtpbhpplmokdkhaaDoorRy2
namespace Go.Proofs.YtpbhpplmokdkhaaDoor
open Go.RowKit Fl

def rcOn (px py : Int) (X Y : Nat → Int) : Nat → Bool
  | 0 => false
  | k + 1 => rcOn px py X Y k || decide (Ry.On px py (X k) (Y k) (X (k + 1)) (Y (k + 1)))
def rcUp (px py : Int) (X Y : Nat → Int) : Nat → Bool
  | 0 => false
  | k + 1 => rcUp px py X Y k ^^ decide (Ry.Up px py (X k) (Y k) (X (k + 1)) (Y (k + 1)))
/-- What RingContains tells of a point within the box. -/
def ringB (px py : Int) (X Y : Nat → Int) (n : Nat) : Bool :=
  decide (Ry.On px py (X 0) (Y 0) (X (n - 1)) (Y (n - 1))) || rcOn px py X Y (n - 1) || (decide (Ry.Up px py (X 0) (Y 0) (X (n - 1)) (Y (n - 1))) ^^ rcUp px py X Y (n - 1))
theorem rcOn_mono {px py : Int} {X Y : Nat → Int} {i : Nat} (h : rcOn px py X Y i = true) : ∀ j, rcOn px py X Y (i + j) = true
  | 0 => h
  | j + 1 => by rw [← Nat.add_assoc]; unfold rcOn; rw [rcOn_mono h j, Bool.true_or]

/-- What RingContains answers. -/
def RcOut (px py : Int) (X Y : Nat → Int) (n : Nat) (b : Bool) : Prop :=
  b = ringB px py X Y n ∨ (b = false ∧ ∃ x0 y0 x1 y1, Covers X Y n x0 y0 x1 y1 ∧ ¬ ((y0 ≤ py ∧ py ≤ y1) ∧ x0 ≤ px ∧ px ≤ x1))

theorem contains_hid (m M p : Nat × Nat) (x0 y0 x1 y1 px py : Int) (w : World) (hm : IsP m x0 y0) (hM : IsP M x1 y1) (hp : IsP p px py) :
    Calls Tryd.prog 66 #[boxV m M, .agg #[.float .f64 p.1, .float .f64 p.2]] w fun e w' => ∃ c, e = .returned (.bool c) ∧ Hid (c = decide ((y0 ≤ py ∧ py ≤ y1) ∧ x0 ≤ px ∧ px ≤ x1)) ∧ Below w.heap.size w w' :=
  (contains_any m M p x0 y0 x1 y1 px py w hm hM hp).mono fun _ _ h => ⟨_, h.1, Lib.hid rfl, h.2⟩
theorem ray_hid (p s e : Nat × Nat) (px py sx sy ex ey : Int) (w : World) (hp : IsP p px py) (hs : IsP s sx sy) (he : IsP e ex ey) (mp : Rg.Mid px ∧ Rg.Mid py) (ms : Rg.Mid sx ∧ Rg.Mid sy) (me : Rg.Mid ex ∧ Rg.Mid ey) (bp : p.1 < 18446744073709551616) :
    Calls Tryd.prog 67 #[.agg #[.float .f64 p.1, .float .f64 p.2], .agg #[.float .f64 s.1, .float .f64 s.2], .agg #[.float .f64 e.1, .float .f64 e.2]] w
      fun r w' => ∃ u o, r = .returned (.tuple #[.bool u, .bool o]) ∧ Hid (u = decide (Ry.Up px py sx sy ex ey) ∧ o = decide (Ry.On px py sx sy ex ey)) ∧ Below w.heap.size w w' :=
  (ray_any p s e px py sx sy ex ey w hp hs he mp ms me bp).mono fun _ _ h => ⟨_, _, h.1, Lib.hid ⟨rfl, rfl⟩, h.2⟩

set_option maxRecDepth 100000 in
set_option maxHeartbeats 1000000 in
theorem rc_any (n cap b off : Nat) (ps : List (Nat × Nat)) (X Y : Nat → Int) (p : Nat × Nat) (px py : Int) (w : World) (hn : ps.length = n) (h1 : 1 ≤ n) (hn200 : n ≤ 200) (hps : PtsAt w b off ps) (hd : DatM ps X Y)
    (hp : IsP p px py) (mp : Rg.Mid px ∧ Rg.Mid py) (bp : p.1 < 18446744073709551616) :
    Calls Tryd.prog 42 #[.slice (some ⟨b, off, none⟩) n cap, .agg #[.float .f64 p.1, .float .f64 p.2]] w
      fun e w' => ∃ c, e = .returned (.bool c) ∧ RcOut px py X Y n c ∧ Below w.heap.size w w' := by
  have hcall1 := fun W (h : Below w.heap.size w W) => rgBound_any n cap b off ps X Y W hn h1 hn200 (fun i p hp => ⟨cell_later h (hps i p hp).1, cell_later h (hps i p hp).2⟩) hd
  have HPS := Lib.hid hps
  have HD := Lib.hid hd
  have HN := Lib.hid hn
  have hp0 : ps[0]? = some ps[0] := List.getElem?_eq_getElem (by omega)
  have hpl : ps[n - 1]? = some ps[n - 1] := List.getElem?_eq_getElem (by omega)
  obtain ⟨i0, m0⟩ := hd 0 _ hp0
  obtain ⟨il, ml⟩ := hd (n - 1) _ hpl
  obtain ⟨z0, z1⟩ := hps 0 _ hp0
  obtain ⟨y0, y1⟩ := hps (n - 1) _ hpl
  obtain ⟨⟨a0, a1⟩, hpe⟩ : ∃ p, p = ps[0] := ⟨_, rfl⟩
  obtain ⟨⟨b0, b1⟩, hpe1⟩ : ∃ p, p = ps[n - 1] := ⟨_, rfl⟩
  rw [← hpe] at i0 z0 z1
  rw [← hpe1] at il y0 y1
  simp only [Nat.zero_mul, Nat.add_zero] at z0 z1
  have hn0 : (0 : Int) < n := by omega
  have hn0' : 0 < n := by omega
  have hn1 : (1 : Int) ≤ n := by omega
  have hnw : IntKind.i64.wrap ((n : Int) - 1) = (n : Int) - 1 := IntWalk.i64_in _ (by omega)
  have hnt : ((n : Int) - 1).toNat = n - 1 := by omega
  have hnk : (0 : Int) ≤ (n : Int) - 1 := by omega
  have hnl : (n : Int) - 1 < n := by omega
  have hcall3 := fun w => ray_hid p (a0, a1) (b0, b1) px py (X 0) (Y 0) (X (n - 1)) (Y (n - 1)) w hp i0 il mp m0 ml bp
  have HP := Lib.hid (And.intro hp (And.intro mp bp))
  obtain ⟨W0, hW0⟩ : ∃ W0, W0 = w.alloc (.cells #[.float .f64 p.1, .float .f64 p.2] 69) := ⟨_, rfl⟩
  have L0 : Below w.heap.size w W0 := by rw [hW0]; exact (Below.refl _ _).alloc (Nat.le_refl _) _
  have P0 : Blk W0 w.heap.size #[.float .f64 p.1, .float .f64 p.2] 69 := by rw [hW0]; exact heap_alloc_new w _
  have S0 : w.heap.size < W0.heap.size := by rw [hW0]; simp
  obtain ⟨⟨p0, p1⟩, _, _⟩ := cells2 P0
  clear hps hd hn hpe hpe1 i0 m0 il ml hp0 hpl mp bp
  go_enter Tryd.func42, Tryd.ntmps42
  go_wp2_with fail
  rw [← hW0]
  have HW0 := Lib.hid hW0
  clear hW0
  go_region_held3 (fun w' => w'.cell? ⟨w.heap.size, 0, none⟩ = some (.float .f64 p.1) ∧ w'.cell? ⟨w.heap.size, 1, none⟩ = some (.float .f64 p.2)) (first | exact ⟨p0, p1⟩ | exact ⟨cell_later hb1 p0, cell_later hb1 p1⟩ | exact ⟨cell_later hb2 (cell_later hb1 p0), cell_later hb2 (cell_later hb1 p1)⟩ | go_keep) ((first
    | (go_simp; go_at_call 65; refine (hcall1 _ L0.drew).mono ?_; rintro e w1 ⟨m, M, x0, y0', x1, y1', rfl, im, iM, hc, hb1⟩)
    | (go_simp; go_at_call 66; refine (contains_hid m M p x0 y0' x1 y1' px py _ im iM hp).mono ?_; rintro e w2 ⟨c, rfl, hce, hb2⟩)))
  have hb01 : Below w.heap.size W0.drew w1 := hb1.mono (Nat.le_of_lt S0)
  have L2 : Below w.heap.size w w2 := (L0.drew.trans hb01).trans (hb2.mono (L0.drew.trans hb01).size)
  have P2 : Blk w2 w.heap.size #[.float .f64 p.1, .float .f64 p.2] 69 := blk_below (blk_below (blk_drew P0) hb1 S0) hb2 (Nat.lt_of_lt_of_le S0 hb1.size)
  have HL2 := Lib.hid L2
  have HP2 := Lib.hid P2
  have HC := Lib.hid hc
  clear hb01 L0 P0 S0 p0 p1 hb1 hb2 hc im iM hcall1 L2 P2
  cases c with
  | false =>
    go_wp2
    go_ret
    exact ⟨false, rfl, .inr ⟨rfl, _, _, _, _, HC.out, of_decide_eq_false hce.out.symm⟩, HL2.out⟩
  | true =>
    clear HC hce
    have z0' := cell_later HL2.out z0
    have z1' := cell_later HL2.out z1
    have y0'' := cell_later HL2.out y0
    have y1'' := cell_later HL2.out y1
    obtain ⟨⟨p0, p1⟩, _, _⟩ := cells2 HP2.out
    clear z0 z1 y0 y1
    go_wp2_with fail
    go_region_held3 (fun w' => w'.cell? ⟨w.heap.size, 0, none⟩ = some (.float .f64 p.1) ∧ w'.cell? ⟨w.heap.size, 1, none⟩ = some (.float .f64 p.2) ∧ w'.cell? ⟨b, off, none⟩ = some (.float .f64 a0) ∧ w'.cell? ⟨b, off + 1, none⟩ = some (.float .f64 a1) ∧ w'.cell? ⟨b, off + (n - 1) * 2, none⟩ = some (.float .f64 b0) ∧ w'.cell? ⟨b, off + (n - 1) * 2 + 1, none⟩ = some (.float .f64 b1))
      (first | exact ⟨p0, p1, z0', z1', y0'', y1''⟩ | exact ⟨cell_later hb3 p0, cell_later hb3 p1, cell_later hb3 z0', cell_later hb3 z1', cell_later hb3 y0'', cell_later hb3 y1''⟩ | go_keep)
      ((go_simp; go_at_call 67; refine (hcall3 _).mono ?_; rintro e w3 ⟨u, o, rfl, huo, hb3⟩))
    have L3 : Below w.heap.size w w3 := HL2.out.drew.trans (hb3.mono HL2.out.size)
    have P3 : Blk w3 w.heap.size #[.float .f64 p.1, .float .f64 p.2] 69 := blk_below (blk_drew HP2.out) hb3 (Array.getElem?_eq_some_iff.1 HP2.out).1
    have HL3 := Lib.hid L3
    have HP3 := Lib.hid P3
    clear hb3 L3 P3 p0 p1 z0' z1' y0'' y1'' hcall3
    cases o with
    | true =>
      go_wp2
      go_ret
      refine ⟨true, rfl, .inl ?_, HL3.out⟩
      unfold ringB
      rw [← huo.out.2]; rfl
    | false =>
      go_wp2
      go_loopw [5, 7, 8, 9] (fun cv iv _ _ wr => ∃ (k : Nat) (c : Bool), k + 1 ≤ n ∧ iv = .int .i64 k ∧ cv = .bool c ∧ Hid (c = (u ^^ rcUp px py X Y k) ∧ rcOn px py X Y k = false) ∧
        Hid (Blk wr w.heap.size #[.float .f64 p.1, .float .f64 p.2] 69) ∧ Below w.heap.size w wr) (fun _ iv _ _ _ => n - (intOf iv).toNat)
      case atStart => exact ⟨0, u, by omega, rfl, rfl, Lib.hid ⟨by simp [rcUp], rfl⟩, HP3, HL3.out⟩
      case round =>
        obtain ⟨k, c, hk, rfl, rfl, HI, HBp, hb⟩ := hrel
        by_cases hlt : k + 1 < n
        · have hil : k < ps.length := by have := HN.out; omega
          have hjl : k + 1 < ps.length := by have := HN.out; omega
          have hpi : ps[k]? = some ps[k] := List.getElem?_eq_getElem hil
          have hpj : ps[k + 1]? = some ps[k + 1] := List.getElem?_eq_getElem hjl
          obtain ⟨ii, mi⟩ := HD.out k _ hpi
          obtain ⟨ij, mj⟩ := HD.out (k + 1) _ hpj
          obtain ⟨c0, c1⟩ := HPS.out k _ hpi
          obtain ⟨d0, d1⟩ := HPS.out (k + 1) _ hpj
          obtain ⟨⟨x, y⟩, hpe⟩ : ∃ p, p = ps[k] := ⟨_, rfl⟩
          obtain ⟨⟨x1, y1⟩, hpe1⟩ : ∃ p, p = ps[k + 1] := ⟨_, rfl⟩
          rw [← hpe] at ii c0 c1
          rw [← hpe1] at ij d0 d1
          have c0' := cell_later hb c0
          have c1' := cell_later hb c1
          have d0' := cell_later hb d0
          have d1' := cell_later hb d1
          have hki : (k : Int) < n := by omega
          have hki1 : (k : Int) + 1 < n := by omega
          have hki2 : k < n := by omega
          have hki3 : (k : Int) < (n : Int) - 1 := by omega
          have hk0 : (0 : Int) ≤ k := by omega
          have hk1 : (0 : Int) ≤ (k : Int) + 1 := by omega
          have hkt : ((k : Int) + 1).toNat = k + 1 := by omega
          have hwk : IntKind.i64.wrap ((k : Int) + 1) = (k : Int) + 1 := IntWalk.i64_in _ (by omega)
          have hcall4 := fun w => ray_hid p (x, y) (x1, y1) px py (X k) (Y k) (X (k + 1)) (Y (k + 1)) w HP.out.1 ii ij HP.out.2.1 mi mj HP.out.2.2
          obtain ⟨⟨p0, p1⟩, _, _⟩ := cells2 HBp.out
          have HB := Lib.hid hb
          clear hb c0 c1 d0 d1 hpi hpj hpe hpe1 hil hjl ii ij mi mj
          go_wp2_with fail
          go_region_held3 (fun w' => w'.cell? ⟨w.heap.size, 0, none⟩ = some (.float .f64 p.1) ∧ w'.cell? ⟨w.heap.size, 1, none⟩ = some (.float .f64 p.2) ∧ w'.cell? ⟨b, off + k * 2, none⟩ = some (.float .f64 x) ∧ w'.cell? ⟨b, off + k * 2 + 1, none⟩ = some (.float .f64 y) ∧ w'.cell? ⟨b, off + (k + 1) * 2, none⟩ = some (.float .f64 x1) ∧ w'.cell? ⟨b, off + (k + 1) * 2 + 1, none⟩ = some (.float .f64 y1))
            (first | exact ⟨p0, p1, c0', c1', d0', d1'⟩ | exact ⟨cell_later hb4 p0, cell_later hb4 p1, cell_later hb4 c0', cell_later hb4 c1', cell_later hb4 d0', cell_later hb4 d1'⟩ | go_keep)
            ((go_simp; go_at_call 67; refine (hcall4 _).mono ?_; rintro e w4 ⟨v, z, rfl, hvz, hb4⟩))
          have L4 : Below w.heap.size w w4 := HB.out.drew.trans (hb4.mono HB.out.size)
          have P4 : Blk w4 w.heap.size #[.float .f64 p.1, .float .f64 p.2] 69 := blk_below (blk_drew HBp.out) hb4 (Array.getElem?_eq_some_iff.1 HBp.out).1
          have HL4 := Lib.hid L4
          have HP4 := Lib.hid P4
          clear hb4 L4 P4 p0 p1 c0' c1' d0' d1' hcall4
          cases z with
          | true =>
            go_wp2
            go_ret
            refine ⟨true, rfl, .inl ?_, HL4.out⟩
            have h1 : rcOn px py X Y (k + 1) = true := by unfold rcOn; rw [← hvz.out.2, Bool.or_true]
            have h2 := rcOn_mono h1 (n - 1 - (k + 1))
            rw [show k + 1 + (n - 1 - (k + 1)) = n - 1 by omega] at h2
            unfold ringB
            rw [h2, Bool.or_true, Bool.true_or]
          | false =>
            cases v with
            | true =>
              go_wp2
              go_roundw
              case rel => exact ⟨k + 1, !c, by omega, by go_num, rfl, Lib.hid ⟨by unfold rcUp; rw [← hvz.out.1, HI.out.1]; cases u <;> cases rcUp px py X Y k <;> rfl, by unfold rcOn; rw [← hvz.out.2, HI.out.2]; rfl⟩, HP4, HL4.out⟩
              case measure => simp [intOf]; omega
            | false =>
              go_wp2
              go_roundw
              case rel => exact ⟨k + 1, c, by omega, by go_num, rfl, Lib.hid ⟨by unfold rcUp; rw [← hvz.out.1, HI.out.1]; cases u <;> cases rcUp px py X Y k <;> rfl, by unfold rcOn; rw [← hvz.out.2, HI.out.2]; rfl⟩, HP4, HL4.out⟩
              case measure => simp [intOf]; omega
        · have hkn : k = n - 1 := by omega
          have hnlt : ¬ ((k : Int) < (n : Int) - 1) := by omega
          have HB := Lib.hid hb
          have HK := Lib.hid hkn
          clear hb hkn
          go_wp2
          go_ret
          have hfin : RcOut px py X Y n c := by
            refine .inl ?_
            have hi := HI.out
            rw [HK.out] at hi
            unfold ringB
            rw [← huo.out.2, ← huo.out.1, hi.2, hi.1]; rfl
          cases c with
          | false => exact .inl ⟨rfl, hfin, HB.out⟩
          | true => exact .inr ⟨rfl, hfin, HB.out⟩
end Go.Proofs.YtpbhpplmokdkhaaDoor
