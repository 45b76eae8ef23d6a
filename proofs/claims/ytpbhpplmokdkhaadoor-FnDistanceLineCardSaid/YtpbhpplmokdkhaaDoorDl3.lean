/- The walks of planar.lineStringDistanceFrom, planar.DistanceFromWithIndex and impl.DistanceFrom. -/
import Derived.Test.YtpbhpplmokdkhaaDoorDl1
import Derived.Test.YtpbhpplmokdkhaaDoorDl2
import Derived.Test.YtpbhpplmokdkhaaDoorGe2
import Derived.Test.YtpbhpplmokdkhaaDoorAs
import Derived.Deep.RegionHeld3
set_option linter.unusedVariables false
namespace Go.Proofs.YtpbhpplmokdkhaaDoor
open Go.RowKit Go.WideShapes Fl

def sqW (ps : List (Nat × Nat)) (p : Nat × Nat) (i : Nat) : Nat := segSq (Le.At ps i) (Le.At ps (i + 1)) p
/-- The least one of so many. -/
def Least (ps : List (Nat × Nat)) (p : Nat × Nat) (k d : Nat) (at' : Int) : Prop :=
  (k = 0 ∧ d = 9218868437227405312 ∧ at' = -1) ∨ ∃ j, j < k ∧ at' = j ∧ d = sqW ps p j ∧ ∀ i, i < k → val (sqW ps p j) ≤ val (sqW ps p i)
theorem inf_any (w : World) : Calls Tryd.prog 35 #[.int .i64 1] w fun e w' => e = .returned (.float .f64 9218868437227405312) ∧ w = w' := by
  have hc := fun W => call_frombits 9218868437227405312 W
  go_enter Tryd.func35, Tryd.ntmps35
  go_wp2
  go_ret
  exact ⟨rfl, rfl⟩
theorem sqW_ok {ps : List (Nat × Nat)} {X Y : Nat → Int} {p : Nat × Nat} {px py : Int} (hd : Dat ps X Y) (hp : IsP p px py) (sp : Small px ∧ Small py) {i : Nat} (hi : i + 1 < ps.length) :
    IsFin (sqW ps p i) ∧ 0 ≤ val (sqW ps p i) ∧ val (sqW ps p i) ≤ 33000000 := by
  have hpi : ps[i]? = some ps[i] := List.getElem?_eq_getElem (by omega)
  have hpj : ps[i + 1]? = some ps[i + 1] := List.getElem?_eq_getElem hi
  obtain ⟨ii, mi⟩ := hd i _ hpi
  obtain ⟨ij, mj⟩ := hd (i + 1) _ hpj
  unfold sqW
  rw [Le.at_some hpi, Le.at_some hpj]
  exact Dl.segSq_ok ii ij hp mi mj sp
set_option maxRecDepth 100000 in
set_option maxHeartbeats 4000000 in
theorem lineDist (g n cap : Nat) (ps : List (Nat × Nat)) (X Y : Nat → Int) (p : Nat × Nat) (px py : Int) (w : World) (hn : ps.length = n) (h2 : 2 ≤ n) (h100 : n ≤ 100) (hps : PtsAt w g 0 ps) (hd : Dat ps X Y) (hp : IsP p px py) (sp : Small px ∧ Small py) :
    Calls Tryd.prog 83 #[.slice (some ⟨g, 0, none⟩) n cap, .agg #[.float .f64 p.1, .float .f64 p.2]] w
      fun e w' => (∃ (j : Nat), e = .returned (.tuple #[.float .f64 (fsqrt (sqW ps p j)), .int .i64 j]) ∧ j + 1 < n ∧ ∀ i, i + 1 < n → val (sqW ps p j) ≤ val (sqW ps p i)) ∧ Below w.heap.size w w' := by
  have HPS := Lib.hid hps
  have HD := Lib.hid hd
  have HN := Lib.hid hn
  have HP := Lib.hid (And.intro hp sp)
  have hnn : (n : Int) ≤ 100 := by omega
  have h2n : (2 : Int) ≤ n := by omega
  have hnw : IntKind.i64.wrap ((n : Int) - 1) = (n : Int) - 1 := IntWalk.i64_in _ (by omega)
  have hp0 := heap_alloc_new w (.cells #[.float .f64 p.1, .float .f64 p.2] 69)
  have HP0 : Hid (Blk (w.alloc (.cells #[.float .f64 p.1, .float .f64 p.2] 69)) w.heap.size #[.float .f64 p.1, .float .f64 p.2] 69) := Lib.hid hp0
  have L0 := (Below.refl w.heap.size w).alloc (Nat.le_refl _) (.cells #[.float .f64 p.1, .float .f64 p.2] 69)
  have HL0 := Lib.hid L0
  clear hp sp hd hn hps hp0 L0
  go_enter Tryd.func83, Tryd.ntmps83
  go_wp2_with fail
  refine (inf_any _).mono ?_
  rintro e w1 ⟨rfl, rfl⟩
  go_wp2
  go_loopw [6, 7, 8, 9] (fun dv av iv _ wr => ∃ (k d : Nat) (a : Int), k + 1 ≤ n ∧ iv = .int .i64 k ∧ dv = .float .f64 d ∧ av = .int .i64 a ∧ Hid (Least ps p k d a) ∧ Hid (Blk wr w.heap.size #[.float .f64 p.1, .float .f64 p.2] 69) ∧ Below w.heap.size w wr) (fun _ _ iv _ _ => n - (intOf iv).toNat)
  case atStart => exact ⟨0, _, -1, by omega, rfl, rfl, rfl, Lib.hid (.inl ⟨rfl, rfl, rfl⟩), HP0, HL0.out⟩
  case round =>
    obtain ⟨k, d, a, hk, rfl, rfl, rfl, HLe, HBp, hb⟩ := hrel
    by_cases hlt : k + 1 < n
    · have hil : k < ps.length := by have := HN.out; omega
      have hjl : k + 1 < ps.length := by have := HN.out; omega
      have hpi : ps[k]? = some ps[k] := List.getElem?_eq_getElem hil
      have hpj : ps[k + 1]? = some ps[k + 1] := List.getElem?_eq_getElem hjl
      obtain ⟨ii, mi⟩ := HD.out k _ hpi
      obtain ⟨ij, mj⟩ := HD.out (k + 1) _ hpj
      obtain ⟨c0, c1⟩ := HPS.out k _ hpi
      obtain ⟨d0, d1⟩ := HPS.out (k + 1) _ hpj
      obtain ⟨u, hpe⟩ : ∃ p, p = ps[k] := ⟨_, rfl⟩
      obtain ⟨v, hpe1⟩ : ∃ p, p = ps[k + 1] := ⟨_, rfl⟩
      rw [← hpe] at ii c0 c1 hpi
      rw [← hpe1] at ij d0 d1 hpj
      have hcall := fun W => segd_any u v p ii ij HP.out.1 mi mj HP.out.2 W
      have hsq : segSq u v p = sqW ps p k := by unfold sqW; rw [Le.at_some hpi, Le.at_some hpj]
      rw [hsq] at hcall
      have hok := sqW_ok HD.out HP.out.1 HP.out.2 hjl
      have hcmp : ∃ c : Bool, (FloatKind.f64.format.order (sqW ps p k) d == some .lt) = c ∧ (c = true → Least ps p (k + 1) (sqW ps p k) k) ∧ (c = false → Least ps p (k + 1) d a) := by
        rcases HLe.out with ⟨h0, hd0, ha⟩ | ⟨j, hj, ha, hdj, hle⟩
        · refine ⟨true, by rw [hd0]; exact Dl.order_inf _ hok.1, fun _ => .inr ⟨k, by omega, rfl, rfl, fun i hi => ?_⟩, fun h => by cases h⟩
          obtain rfl : i = k := by omega
          exact Rat.le_refl
        · have hj2 : j + 1 < ps.length := by omega
          have hokj := sqW_ok HD.out HP.out.1 HP.out.2 hj2
          refine ⟨_, rfl, fun hc => ?_, fun hc => ?_⟩
          · rw [hdj] at hc
            have hc' : (Ieee.double.order (sqW ps p k) (sqW ps p j) == some .lt) = true := hc
            rw [lt_iff hok.1 hokj.1] at hc'
            have hlt' := of_decide_eq_true hc'
            refine .inr ⟨k, by omega, rfl, rfl, fun i hi => ?_⟩
            by_cases hik : i = k
            · subst hik; exact Rat.le_refl
            · have := hle i (by omega); grind
          · rw [hdj] at hc
            have hc' : (Ieee.double.order (sqW ps p k) (sqW ps p j) == some .lt) = false := hc
            rw [lt_iff hok.1 hokj.1] at hc'
            have hlt' := of_decide_eq_false hc'
            refine .inr ⟨j, by omega, ha, hdj, fun i hi => ?_⟩
            by_cases hik : i = k
            · subst hik; grind
            · exact hle i (by omega)
      obtain ⟨c, hc, hct, hcf⟩ := hcmp
      have HC := Lib.hid (And.intro hct hcf)
      obtain ⟨D, hD⟩ : ∃ D, D = sqW ps p k := ⟨_, rfl⟩
      rw [← hD] at hcall hc
      have HDD := Lib.hid hD
      have c0' := cell_later hb c0
      have c1' := cell_later hb c1
      have d0' := cell_later hb d0
      have d1' := cell_later hb d1
      simp only [Nat.zero_add] at c0' c1' d0' d1'
      obtain ⟨⟨p0, p1⟩, _, _⟩ := cells2 HBp.out
      have hki : (k : Int) < n := by omega
      have hki1 : (k : Int) + 1 < n := by omega
      have hki3 : (k : Int) < (n : Int) - 1 := by omega
      have hk0 : (0 : Int) ≤ k := by omega
      have hk1 : (0 : Int) ≤ (k : Int) + 1 := by omega
      have hkt : ((k : Int) + 1).toNat = k + 1 := by omega
      have hwk1 : IntKind.i64.wrap ((k : Int) + 1) = (k : Int) + 1 := IntWalk.i64_in _ (by omega)
      have HB := Lib.hid hb
      clear hb c0 c1 d0 d1 hpi hpj hpe hpe1 hil hjl ii ij mi mj hsq hok hct hcf hD
      go_wp2_with fail
      go_region_held3 (fun w' => w'.cell? ⟨w.heap.size, 0, none⟩ = some (.float .f64 p.1) ∧ w'.cell? ⟨w.heap.size, 1, none⟩ = some (.float .f64 p.2) ∧ w'.cell? ⟨g, k * 2, none⟩ = some (.float .f64 u.1) ∧ w'.cell? ⟨g, k * 2 + 1, none⟩ = some (.float .f64 u.2) ∧ w'.cell? ⟨g, (k + 1) * 2, none⟩ = some (.float .f64 v.1) ∧ w'.cell? ⟨g, (k + 1) * 2 + 1, none⟩ = some (.float .f64 v.2))
        (first | exact ⟨p0, p1, c0', c1', d0', d1'⟩ | exact keep6 hb4 ⟨p0, p1, c0', c1', d0', d1'⟩ | go_keep)
        ((go_simp; go_at_call 97; refine (hcall _).mono ?_; rintro e w4 ⟨rfl, hb4⟩))
      have L4 : Below w.heap.size w w4 := HB.out.drew.trans (hb4.mono HB.out.size)
      have P4 : Blk w4 w.heap.size #[.float .f64 p.1, .float .f64 p.2] 69 := blk_below (blk_drew HBp.out) hb4 (Array.getElem?_eq_some_iff.1 HBp.out).1
      have HL4 := Lib.hid L4
      have HP4 := Lib.hid P4
      clear hb4 L4 P4 p0 p1 c0' c1' d0' d1' hcall
      cases c with
      | true =>
        go_wp2
        go_roundw
        case rel => exact ⟨k + 1, D, k, by omega, by go_num, rfl, rfl, Lib.hid (by rw [HDD.out]; exact HC.out.1 rfl), HP4, HL4.out⟩
        case measure => simp [intOf]; omega
      | false =>
        go_wp2
        go_roundw
        case rel => exact ⟨k + 1, d, a, by omega, by go_num, rfl, rfl, Lib.hid (HC.out.2 rfl), HP4, HL4.out⟩
        case measure => simp [intOf]; omega
    · have hkn : k = n - 1 := by omega
      have hnlt : ¬ ((k : Int) < (n : Int) - 1) := by omega
      have HB := Lib.hid hb
      rcases HLe.out with ⟨h0, _⟩ | ⟨j, hj, rfl, rfl, hle⟩
      · omega
      · have hjl : j + 1 < ps.length := by have := HN.out; omega
        have hok := sqW_ok HD.out HP.out.1 HP.out.2 hjl
        have hsq := fun W => sqrt_any (sqW ps p j) hok.1 hok.2.1 W
        have HF := Lib.hid (show j + 1 < n ∧ ∀ i, i + 1 < n → val (sqW ps p j) ≤ val (sqW ps p i) from ⟨by omega, fun i hi => hle i (by omega)⟩)
        clear hb hkn hjl hok hle hj HLe
        obtain ⟨D, hD⟩ : ∃ D, D = sqW ps p j := ⟨_, rfl⟩
        rw [← hD] at hsq ⊢
        have HDD := Lib.hid hD
        clear hD
        go_wp2_with fail
        refine (hsq _).mono ?_
        rintro e w5 ⟨rfl, rfl⟩
        go_wp2
        go_ret2
        exact ⟨⟨j, by rw [← HDD.out]; rfl, HF.out⟩, HB.out⟩

set_option maxRecDepth 100000 in
theorem distWith (n : Nat) (v : Value) (ps : List (Nat × Nat)) (X Y : Nat → Int) (p : Nat × Nat) (px py : Int) (w : World) (hn : ps.length = n) (h2 : 2 ≤ n) (h100 : n ≤ 100) (hv : IsPts w v ps) (hoff : ∃ g cap, v = .slice (some ⟨g, 0, none⟩) n cap ∧ PtsAt w g 0 ps) (hd : Dat ps X Y) (hp : IsP p px py) (sp : Small px ∧ Small py) :
    Calls Tryd.prog 59 #[.iface 70 v, .agg #[.float .f64 p.1, .float .f64 p.2]] w fun e w' => (∃ (j : Nat), e = .returned (.tuple #[.float .f64 (fsqrt (sqW ps p j)), .int .i64 j]) ∧ j + 1 < n ∧ ∀ i, i + 1 < n → val (sqW ps p j) ≤ val (sqW ps p i)) ∧ Below w.heap.size w w' := by
  obtain ⟨g, cap, rfl, hps⟩ := hoff
  have L0 := (Below.refl w.heap.size w).alloc (Nat.le_refl _) (.cells #[.float .f64 p.1, .float .f64 p.2] 69)
  have hcall := lineDist g n cap ps X Y p px py (w.alloc (.cells #[.float .f64 p.1, .float .f64 p.2] 69)) hn h2 h100 (hps.below L0) hd hp sp
  obtain ⟨p0, p1⟩ := two_new w (.float .f64 p.1) (.float .f64 p.2) 69
  have a0 := as_ls_pt
  have a1 := as_ls_mp
  have a2 := as_ls_ls
  have HL0 := Lib.hid L0
  clear hv hps hd hp sp hn L0
  go_enter Tryd.func59, Tryd.ntmps59
  go_wp2_with fail
  refine hcall.mono ?_
  rintro e w1 ⟨⟨j, rfl, hj, hle⟩, hb1⟩
  have HB1 := Lib.hid (HL0.out.trans (hb1.mono HL0.out.size))
  have HJ := Lib.hid (And.intro hj hle)
  clear hb1 hcall hle hj p0 p1
  go_wp2
  go_ret2
  exact ⟨⟨j, rfl, HJ.out⟩, HB1.out⟩
set_option maxRecDepth 100000 in
theorem geom_line2 (g m cap : Nat) (v parts : Value) (ps : List (Nat × Nat)) (w : World) (hm : 1 ≤ m) (hv : w.cell? ⟨g, 0, none⟩ = some v) (hp : IsPts w v ps) (hn : ps.length * 16 ≤ 140737488351232) :
    Calls Tryd.prog 56 #[.agg #[.int .i64 2, .slice (some ⟨g, 0, none⟩) m cap, parts]] w fun e w' => ∃ u base, e = .returned (.iface 70 u) ∧ w'.ownsRow base 69 2 u ps.length (pc ps) ∧ Below w.heap.size w w' := by
  have h0 := cell_alloc hv (.cells #[.int .i64 2, .slice (some ⟨g, 0, none⟩) m cap, parts] 50)
  have L0 := (Below.refl w.heap.size w).alloc (Nat.le_refl _) (.cells #[.int .i64 2, .slice (some ⟨g, 0, none⟩) m cap, parts] 50)
  have hcall1 := first_any g m cap 2 parts v _ hm h0
  have H2 := Lib.hid (fun W (h : Below w.heap.size w W) => points_any (hp.below h) hn)
  have HL0 := Lib.hid L0
  clear hv hp hn L0 h0 hm
  go_enter Tryd.func56, Tryd.ntmps56
  go_wp2_with fail
  refine hcall1.mono ?_
  rintro e w1 ⟨rfl, hb1⟩
  have HL1 := Lib.hid (HL0.out.trans (hb1.mono HL0.out.size))
  clear hb1 hcall1 HL0
  go_wp2_with fail
  refine (H2.out _ HL1.out).mono ?_
  rintro e w2 ⟨u, rfl, hu, hb2⟩
  have HU := Lib.hid hu
  have HL2 := Lib.hid (HL1.out.trans (hb2.mono HL1.out.size))
  clear hb2 hu H2 HL1
  go_wp2
  go_ret
  exact ⟨u, _, rfl, HU.out, HL2.out⟩
set_option maxRecDepth 100000 in
theorem distFrom (g m cap n : Nat) (v : Value) (ps : List (Nat × Nat)) (X Y : Nat → Int) (p : Nat × Nat) (px py : Int) (w : World) (hm : 1 ≤ m) (hvc : w.cell? ⟨g, 0, none⟩ = some v) (hn : ps.length = n) (h2 : 2 ≤ n) (h100 : n ≤ 100) (hv : IsPts w v ps) (hd : Dat ps X Y) (hp : IsP p px py) (sp : Small px ∧ Small py) :
    Calls Tryd.prog 34 #[.agg #[.int .i64 2, .slice (some ⟨g, 0, none⟩) m cap, .slice none 0 0], .agg #[.float .f64 p.1, .float .f64 p.2]] w fun e w' => (∃ (j : Nat), e = .returned (.tuple #[.float .f64 (fsqrt (sqW ps p j)), .int .i64 j]) ∧ j + 1 < n ∧ ∀ i, i + 1 < n → val (sqW ps p j) ≤ val (sqW ps p i)) ∧ Below w.heap.size w w' := by
  obtain ⟨W0, hW0⟩ : ∃ W0, W0 = (w.alloc (.cells #[.int .i64 2, .slice (some ⟨g, 0, none⟩) m cap, .slice none 0 0] 50)).alloc (.cells #[.float .f64 p.1, .float .f64 p.2] 31) := ⟨_, rfl⟩
  have L0 : Below w.heap.size w W0 := by rw [hW0]; exact ((Below.refl _ _).alloc (Nat.le_refl _) _).alloc (by simp) _
  have C0 : W0.cell? ⟨w.heap.size + 1, 0, none⟩ = some (.float .f64 p.1) ∧ W0.cell? ⟨w.heap.size + 1, 1, none⟩ = some (.float .f64 p.2) := by
    have := two_new (w.alloc (.cells #[.int .i64 2, .slice (some ⟨g, 0, none⟩) m cap, .slice none 0 0] 50)) (.float .f64 p.1) (.float .f64 p.2) 31
    rw [World.size_alloc] at this
    rw [hW0]; exact this
  have hcall1 := geom_line2 g m cap v (.slice none 0 0) ps W0 hm (cell_later L0 hvc) (hv.below L0) (by omega)
  have H2 := Lib.hid (fun W u (hu : IsPts W u ps) (ho : ∃ g cap, u = .slice (some ⟨g, 0, none⟩) n cap ∧ PtsAt W g 0 ps) => distWith n u ps X Y p px py W hn h2 h100 hu ho hd hp sp)
  have HL0 := Lib.hid L0
  have HC0 := Lib.hid C0
  have HN := Lib.hid hn
  clear hvc hn hv hd hp sp L0 C0
  go_enter Tryd.func34, Tryd.ntmps34
  go_wp2_with fail
  rw [← hW0]
  clear hW0
  refine hcall1.mono ?_
  rintro e w1 ⟨u, base, rfl, hu, hb1⟩
  obtain ⟨g', cap', rfl, _, _, hnp, hps⟩ := owns_pts hu (by rw [HN.out]; omega)
  rw [HN.out] at hu ⊢
  have H3 := H2.out w1 _ (by rw [← HN.out] at hu ⊢; exact (pts_of_owns hu).2) ⟨g', cap', rfl, hps⟩
  obtain ⟨k0, k1⟩ : w1.cell? ⟨w.heap.size + 1, 0, none⟩ = some (.float .f64 p.1) ∧ w1.cell? ⟨w.heap.size + 1, 1, none⟩ = some (.float .f64 p.2) := ⟨cell_later hb1 HC0.out.1, cell_later hb1 HC0.out.2⟩
  have HB1 := Lib.hid (HL0.out.trans (hb1.mono HL0.out.size))
  clear hcall1 hu hb1 hps hnp H2 HC0
  go_wp2_with fail
  clear k0 k1
  refine H3.mono ?_
  rintro e w2 ⟨⟨j, rfl, hj, hle⟩, hb2⟩
  have HB2 := Lib.hid (HB1.out.trans (hb2.mono HB1.out.size))
  have HJ := Lib.hid (And.intro hj hle)
  clear hb2 H3 hle hj
  go_wp2
  go_ret2
  exact ⟨⟨j, rfl, HJ.out⟩, HB2.out⟩
end Go.Proofs.YtpbhpplmokdkhaaDoor
