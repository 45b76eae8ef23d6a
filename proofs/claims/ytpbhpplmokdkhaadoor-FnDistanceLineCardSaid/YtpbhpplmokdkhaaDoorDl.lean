/- The walk of laws.FnDistanceLine. -/
import Derived.Test.YtpbhpplmokdkhaaDoorDl3
import Derived.Test.YtpbhpplmokdkhaaDoorSl
import Derived.Test.YtpbhpplmokdkhaaDoorMs
import Derived.Deep.RegionHeld3
set_option linter.unusedVariables false
namespace Go.Proofs.YtpbhpplmokdkhaaDoor
open Go.RowKit Go.WideShapes Fl

theorem pick_min_inf {y : Nat} (hy : IsFin y) : ∃ z, Extern.MathDim.pick "math.archMin" true .lt #[.float .f64 9218868437227405312, .float .f64 y] = pure (.float .f64 z) ∧ z = y := by
  obtain ⟨t, n, j, hq⟩ := hy
  refine ⟨_, rfl, ?_⟩
  have ex : FloatKind.f64.decode 9218868437227405312 = .infinity false := by kernel_rfl
  have ey : FloatKind.f64.decode y = .number t n j := hq
  have ho : ((FloatKind.f64.decode 9218868437227405312).order (FloatKind.f64.decode y) == some .lt) = false := by rw [ex, ey]; rfl
  have c1 : (FloatKind.f64.decode 9218868437227405312 == .infinity true || FloatKind.f64.decode y == .infinity true) = false := by rw [ex, ey]; rfl
  have c2 : ((FloatKind.f64.decode 9218868437227405312).isNaN || (FloatKind.f64.decode y).isNaN) = false := by rw [ex, ey]; rfl
  have c3 : ((FloatKind.f64.decode 9218868437227405312).isZero && (FloatKind.f64.decode y).isZero) = false := by rw [ex]; rfl
  simp only [c1, c2, c3, ho, Bool.false_eq_true, if_false]
theorem min_inf {y : Nat} (hy : IsFin y) (w : World) : Calls Tryd.prog 36 #[.float .f64 9218868437227405312, .float .f64 y] w fun e w' => e = .returned (.float .f64 y) ∧ w = w' := by
  obtain ⟨z, hz, hzy⟩ := pick_min_inf hy
  rw [hzy] at hz
  have hc : ∀ w, (callFunc 60 #[.float .f64 9218868437227405312, .float .f64 y]).run Tryd.prog w = .ok (.value (.float .f64 y)) w := by
    intro w
    rw [run_callFunc_extern (P := Tryd.prog) (f := 60) (fn := Tryd.f60) (by kernel_rfl) (by kernel_rfl) (by kernel_rfl) (by kernel_rfl) min_entry, hz]
    rfl
  clear hz hy
  go_enter Tryd.func36, Tryd.ntmps36
  go_wp2
  go_ret
  exact ⟨rfl, rfl⟩
/-- The least square root of so many. -/
def LeastR (ps : List (Nat × Nat)) (p : Nat × Nat) (k m : Nat) : Prop :=
  (k = 0 ∧ m = 9218868437227405312) ∨ ((∃ j, j < k ∧ m = fsqrt (sqW ps p j)) ∧ ∀ i, i < k → val m ≤ val (fsqrt (sqW ps p i)))
theorem leastR_step {ps : List (Nat × Nat)} {X Y : Nat → Int} {p : Nat × Nat} {px py : Int} (hd : Dat ps X Y) (hp : IsP p px py) (sp : Small px ∧ Small py) {k m : Nat} (hk : k + 1 < ps.length) (h : LeastR ps p k m) :
    ∃ z, LeastR ps p (k + 1) z ∧ ∀ w, Calls Tryd.prog 36 #[.float .f64 m, .float .f64 (fsqrt (sqW ps p k))] w fun e w' => e = .returned (.float .f64 z) ∧ w = w' := by
  have hfin : ∀ i, i < k + 1 → IsFin (fsqrt (sqW ps p i)) := fun i hi => by
    have := sqW_ok hd hp sp (i := i) (by omega)
    exact (fsqrt_spec this.1 this.2.1).1
  rcases h with ⟨h0, hm⟩ | ⟨⟨j, hj, hm⟩, hle⟩
  · subst h0 hm
    refine ⟨_, .inr ⟨⟨0, by omega, rfl⟩, fun i hi => ?_⟩, fun w => min_inf (hfin 0 (by omega)) w⟩
    obtain rfl : i = 0 := by omega
    exact Rat.le_refl
  · have fm : IsFin m := by rw [hm]; exact hfin j (by omega)
    obtain ⟨z, ⟨h1, h2, h3⟩, hc⟩ := min_any fm (hfin k (by omega))
    refine ⟨z, .inr ⟨?_, fun i hi => ?_⟩, hc⟩
    · rcases h1 with h1 | h1
      · exact ⟨j, by omega, by rw [h1, hm]⟩
      · exact ⟨k, by omega, h1⟩
    · by_cases hik : i = k
      · subst hik; exact h3
      · have := hle i (by omega); grind
/-- What both answers are, at the end. -/
theorem least_near {ps : List (Nat × Nat)} {X Y : Nat → Int} {p : Nat × Nat} {px py : Int} (hd : Dat ps X Y) (hp : IsP p px py) (sp : Small px ∧ Small py) {n m j : Nat} (hn : ps.length = n) (h2 : 2 ≤ n) (h : LeastR ps p (n - 1) m) (hj : j + 1 < n)
    (hle : ∀ i, i + 1 < n → val (sqW ps p j) ≤ val (sqW ps p i)) :
    IsFin (fsqrt (sqW ps p j)) ∧ IsFin m ∧ m < 18446744073709551616 ∧ Nr (val (fsqrt (sqW ps p j))) (val m) (1 / 2147483648) ∧ -2097152 ≤ val m ∧ val m ≤ 2097152 := by
  rcases h with ⟨h0, _⟩ | ⟨⟨i, hi, hm⟩, hall⟩
  · omega
  · have oj := sqW_ok hd hp sp (i := j) (by omega)
    have oi := sqW_ok hd hp sp (i := i) (by omega)
    obtain ⟨f1, f2, g1, g2, g3⟩ := Dl.sqrt_le oj.1 oi.1 oj.2.1 oi.2.1 (hle i (by omega)) oi.2.2
    have hm2 := hall j (by omega)
    rw [hm] at hm2 ⊢
    exact ⟨f1, f2, fsqrt_lt _, ⟨by grind, by grind⟩, by grind, by grind⟩

theorem one_new' (w : World) (u : Value) (T : TypeId) : (w.alloc (.cells #[u] T)).cell? ⟨w.heap.size, 0, none⟩ = some u := by simp
set_option maxRecDepth 100000 in
set_option maxHeartbeats 8000000 in
theorem dl_walk (v : Value) (ps : List (Nat × Nat)) (p : Nat × Nat) (w : World) (hv : IsPts w v ps) (hwf : Wf ps) (hn : ps.length * 16 ≤ 140737488351232) (hp : p.1 < 18446744073709551616 ∧ p.2 < 18446744073709551616) :
    Calls Tryd.prog 10 #[v, .agg #[.float .f64 p.1, .float .f64 p.2]] w fun e w' => e = .returned (.bool true) ∧ Below w.heap.size w w' := by
  have HV := Lib.hid hv
  obtain ⟨ao, cap, rfl, hv'⟩ := hv
  obtain ⟨n, hl⟩ : ∃ n, n = ps.length := ⟨_, rfl⟩
  have HV : Hid (IsPts w (.slice ao n cap) ps) := by rw [hl]; exact HV
  have K1 : Hid (∀ W, Below w.heap.size w W → Calls Tryd.prog 30 #[.slice ao n cap, .int .i64 60] W fun e w' => e = .returned (.bool (areB ps 60)) ∧ Below W.heap.size W w') := by
    have h := Lib.hid (fun W (h : Below w.heap.size w W) => are_any (HV.out.below h) hwf hn 60)
    rw [hl] at h ⊢
    exact h
  have c2 := fun W => isPoint_any p.1 p.2 hp.1 hp.2 W
  rw [← hl]
  have HL := Lib.hid hl
  have HP64 := Lib.hid hp
  have HWF := Lib.hid hwf
  clear hl hp hwf hn
  obtain ⟨W0, hW0⟩ : ∃ W0, W0 = w.alloc (.cells #[.float .f64 p.1, .float .f64 p.2] 31) := ⟨_, rfl⟩
  have B0 : Below w.heap.size w W0 := by rw [hW0]; exact (Below.refl _ _).alloc (Nat.le_refl _) _
  have C0 : Blk W0 w.heap.size #[.float .f64 p.1, .float .f64 p.2] 31 := by rw [hW0]; exact heap_alloc_new w _
  by_cases hbig : (2147483647 : Int) < n
  · clear K1 c2 hv' HV
    go_enter Tryd.func10, Tryd.ntmps10
    go_wp2
    go_ret
    exact ⟨rfl, (Below.refl _ _).alloc (Nat.le_refl _) _⟩
  have HC0 := Lib.hid C0
  have HB0 := Lib.hid B0
  clear C0 B0
  obtain ⟨z1, hz1⟩ : ∃ z, z = areB ps 60 := ⟨_, rfl⟩
  rw [← hz1] at K1
  have HZ1 := Lib.hid hz1
  clear hz1
  go_enter Tryd.func10, Tryd.ntmps10
  go_wp2_with fail
  rw [← hW0]
  clear hW0
  refine (K1.out _ HB0.out).mono ?_
  rintro e w1 ⟨rfl, hb1⟩
  have HB1 := Lib.hid (HB0.out.trans (hb1.mono HB0.out.size))
  have HC1 := Lib.hid (blk_below HC0.out hb1 (Array.getElem?_eq_some_iff.1 HC0.out).1)
  clear hb1 K1 HB0 HC0
  cases z1 with
  | false =>
    clear c2 hv'
    go_wp2_with fail
    refine (measures_any _).mono ?_
    rintro e wx ⟨rfl, hbx⟩
    have HBx := Lib.hid (HB1.out.trans (hbx.mono HB1.out.size))
    clear hbx
    go_wp2
    go_ret
    exact ⟨rfl, HBx.out⟩
  | true =>
    by_cases h2 : (n : Int) < 2
    · have d2 : decide ((n : Int) < 2) = true := decide_eq_true h2
      clear c2 hv' h2
      go_wp2_with fail
      refine (measures_any _).mono ?_
      rintro e wx ⟨rfl, hbx⟩
      have HBx := Lib.hid (HB1.out.trans (hbx.mono HB1.out.size))
      clear hbx
      go_wp2
      go_ret
      exact ⟨rfl, HBx.out⟩
    have d2 : decide ((n : Int) < 2) = false := decide_eq_false h2
    obtain ⟨bp, hbp⟩ : ∃ b, b = ptB (p.1, p.2) := ⟨_, rfl⟩
    rw [← hbp] at c2
    have HBP := Lib.hid hbp
    clear hbp
    obtain ⟨⟨k0, k1⟩, _, _⟩ := cells2 HC1.out
    go_wp2_with fail
    clear k0 k1
    refine (c2 _).mono ?_
    rintro e w2 ⟨rfl, hb2⟩
    have HB2 := Lib.hid (HB1.out.trans (hb2.mono HB1.out.size))
    have HC2 := Lib.hid (blk_below HC1.out hb2 (Array.getElem?_eq_some_iff.1 HC1.out).1)
    clear hb2 c2 HC1 HB1
    cases bp with
    | false =>
      clear hv'
      go_wp2_with fail
      refine (measures_any _).mono ?_
      rintro e wx ⟨rfl, hbx⟩
      have HBx := Lib.hid (HB2.out.trans (hbx.mono HB2.out.size))
      clear hbx
      go_wp2
      go_ret
      exact ⟨rfl, HBx.out⟩
    | true =>
      obtain ⟨l1, hall⟩ : (ps.length : Int) ≤ 60 ∧ ∀ q ∈ ps, ptB q = true := by
        have h := HZ1.out.symm
        unfold areB at h
        rw [Bool.and_eq_true, List.all_eq_true] at h
        exact ⟨of_decide_eq_true h.2, h.1⟩
      obtain ⟨X, Y, hd⟩ := dat_of hall
      obtain ⟨px, py, hip, spx, spy⟩ := pt_isP' HBP.out.symm
      have hip : IsP p px py := hip
      have h60 : n ≤ 60 := by have := HL.out; omega
      have h2n : 2 ≤ n := by omega
      have hqs : ∃ b off, ao = some ⟨b, off, none⟩ ∧ PtsAt w b off ps := by
        rcases hv' with h | h
        · have h9 := HL.out; rw [h] at h9; simp at h9; omega
        · exact h
      obtain ⟨b, off, rfl, hps⟩ := hqs
      have HD := Lib.hid hd
      have HP := Lib.hid (And.intro hip (And.intro spx spy))
      have HPS := Lib.hid hps
      have F1 := Lib.hid (fun g c W (h : Below w.heap.size w W) (hc : W.cell? ⟨g, 0, none⟩ = some (.slice (some ⟨b, off, none⟩) n cap)) => distFrom g 1 c n _ ps X Y p px py W (Nat.le_refl _) hc HL.out.symm h2n (by omega) (HV.out.below h) HD.out HP.out.1 HP.out.2)
      have hnn : (n : Int) ≤ 60 := by omega
      have hn0 : (2 : Int) ≤ n := by omega
      clear l1 hall hd hip spx spy hv' hps HZ1 hbig
      have A2 := (Below.refl w2.heap.size w2).alloc (Nat.le_refl _) (.cells #[.slice (some ⟨b, off, none⟩) n cap] 22)
      have LA := HB2.out.alloc HB2.out.size (.cells #[.slice (some ⟨b, off, none⟩) n cap] 22)
      have CA := one_new' w2 (.slice (some ⟨b, off, none⟩) n cap) 22
      have BA := blk_below HC2.out A2 (Array.getElem?_eq_some_iff.1 HC2.out).1
      have HLA := Lib.hid LA
      have HBA := Lib.hid BA
      obtain ⟨⟨k0, k1⟩, _, _⟩ := cells2 BA
      obtain ⟨⟨k2, k3⟩, _, _⟩ := cells2 HC2.out
      clear A2
      go_wp2_with fail
      clear k0 k1 k2 k3
      refine (F1.out _ _ _ LA CA).mono ?_
      rintro e w3 ⟨⟨j, rfl, hj, hle⟩, hb3⟩
      have HB3 := Lib.hid (HLA.out.trans (hb3.mono HLA.out.size))
      have HC3 := Lib.hid (blk_below HBA.out hb3 (Array.getElem?_eq_some_iff.1 HBA.out).1)
      have HJ := Lib.hid (And.intro hj hle)
      clear hb3 HLA HBA LA BA CA F1 HC2 HB2 hj hle
      go_wp2_with fail
      refine (inf_any _).mono ?_
      rintro e w4 ⟨rfl, rfl⟩
      go_wp2
      go_loopw [7, 8] (fun mv iv wr => ∃ (k m : Nat), k + 1 ≤ n ∧ iv = .int .i64 ((k : Int) + 1) ∧ mv = .float .f64 m ∧ Hid (LeastR ps p k m) ∧ Hid (Blk wr w.heap.size #[.float .f64 p.1, .float .f64 p.2] 31) ∧ Below w.heap.size w wr) (fun _ iv _ => n - (intOf iv).toNat)
      case atStart => exact ⟨0, _, by omega, rfl, rfl, Lib.hid (.inl ⟨rfl, rfl⟩), HC3, HB3.out⟩
      case round =>
        obtain ⟨k, m, hk, rfl, rfl, HLe, HBp, hb⟩ := hrel
        by_cases hlt : k + 1 < n
        · have hil : k < ps.length := by have := HL.out; omega
          have hjl : k + 1 < ps.length := by have := HL.out; omega
          have hpi : ps[k]? = some ps[k] := List.getElem?_eq_getElem hil
          have hpj : ps[k + 1]? = some ps[k + 1] := List.getElem?_eq_getElem hjl
          obtain ⟨ii, mi⟩ := HD.out k _ hpi
          obtain ⟨ij, mj⟩ := HD.out (k + 1) _ hpj
          obtain ⟨c0, c1⟩ := HPS.out k _ hpi
          obtain ⟨d0, d1⟩ := HPS.out (k + 1) _ hpj
          obtain ⟨u, hpe⟩ : ∃ p, p = ps[k] := ⟨_, rfl⟩
          obtain ⟨v, hpe1⟩ : ∃ p, p = ps[k + 1] := ⟨_, rfl⟩
          rw [← hpe] at ii c0 c1 hpi
          rw [← hpe1] at ij d0 d1 hpj
          have hcall := fun W => segsq_any u v p ii ij HP.out.1 mi mj HP.out.2 W
          have hsq : segSq u v p = sqW ps p k := by unfold sqW; rw [Le.at_some hpi, Le.at_some hpj]
          rw [hsq] at hcall
          have hok := sqW_ok HD.out HP.out.1 HP.out.2 hjl
          have hcall2 := fun W => sqrt_any (sqW ps p k) hok.1 hok.2.1 W
          obtain ⟨z, hz, hcall3⟩ := leastR_step HD.out HP.out.1 HP.out.2 hjl HLe.out
          have HZ := Lib.hid hz
          have e1 : (FloatKind.f64.format.order v.1 u.1 == some .eq) = decide (X (k + 1) = X k) := isI_eq ij.1 ii.1
          have e2 : (FloatKind.f64.format.order v.2 u.2 == some .eq) = decide (Y (k + 1) = Y k) := isI_eq ij.2 ii.2
          have qe := eql_pt e1 e2
          obtain ⟨R, hR⟩ : ∃ R, R = fsqrt (sqW ps p k) := ⟨_, rfl⟩
          obtain ⟨Q, hQ⟩ : ∃ R, R = sqW ps p k := ⟨_, rfl⟩
          rw [← hR] at hcall2 hcall3
          rw [← hQ] at hcall hcall2
          generalize (decide (X (k + 1) = X k) && decide (Y (k + 1) = Y k)) = same at *
          have c0' := cell_later hb c0
          have c1' := cell_later hb c1
          have d0' := cell_later hb d0
          have d1' := cell_later hb d1
          have hki : (k : Int) < n := by omega
          have hki1 : (k : Int) + 1 < n := by omega
          have hk0 : (0 : Int) ≤ k := by omega
          have hk1 : (0 : Int) ≤ (k : Int) + 1 := by omega
          have hkt : ((k : Int) + 1).toNat = k + 1 := by omega
          have hwm : IntKind.i64.wrap ((k : Int) + 1 - 1) = (k : Int) := by rw [Int.add_sub_cancel]; exact IntWalk.i64_in _ (by omega)
          have hwk0 : IntKind.i64.wrap (k : Int) = (k : Int) := IntWalk.i64_in _ (by omega)
          have hwk1 : IntKind.i64.wrap ((k : Int) + 1 + 1) = (k : Int) + 1 + 1 := IntWalk.i64_in _ (by omega)
          have HB := Lib.hid hb
          clear hb c0 c1 d0 d1 hpi hpj hpe hpe1 hil hjl ii ij mi mj hsq hok hz hR hQ e1 e2
          go_wp2_with fail
          go_region_held3 (fun w' => w'.cell? ⟨b, off + k * 2, none⟩ = some (.float .f64 u.1) ∧ w'.cell? ⟨b, off + k * 2 + 1, none⟩ = some (.float .f64 u.2) ∧ w'.cell? ⟨b, off + (k + 1) * 2, none⟩ = some (.float .f64 v.1) ∧ w'.cell? ⟨b, off + (k + 1) * 2 + 1, none⟩ = some (.float .f64 v.2))
            (first | exact ⟨c0', c1', d0', d1'⟩ | go_keep)
            (fail)
          cases same with
          | true =>
            clear hcall hcall2 hcall3 c0' c1' d0' d1'
            have HBd := Lib.hid HB.out.drew
            go_wp2_with fail
            refine (measures_any _).mono ?_
            rintro e wx ⟨rfl, hbx⟩
            have HBx := Lib.hid (HBd.out.trans (hbx.mono HBd.out.size))
            clear hbx
            go_wp2
            go_ret
            exact ⟨rfl, HBx.out⟩
          | false =>
            have HBd := Lib.hid HB.out.drew
            have BPd := blk_drew HBp.out
            have e0 : wr.drew.cell? ⟨b, off + k * 2, none⟩ = some (.float .f64 u.1) := c0'
            have e1 : wr.drew.cell? ⟨b, off + k * 2 + 1, none⟩ = some (.float .f64 u.2) := c1'
            have e2 : wr.drew.cell? ⟨b, off + (k + 1) * 2, none⟩ = some (.float .f64 v.1) := d0'
            have e3 : wr.drew.cell? ⟨b, off + (k + 1) * 2 + 1, none⟩ = some (.float .f64 v.2) := d1'
            obtain ⟨⟨p0, p1⟩, _, _⟩ := cells2 BPd
            have HBPd := Lib.hid BPd
            obtain ⟨W5, hW5⟩ : ∃ W, W = wr.drew := ⟨_, rfl⟩
            clear c0' c1' d0' d1' BPd
            go_wp2_with fail
            rw [← hW5] at e0 e1 e2 e3 p0 p1 HBPd HBd ⊢
            clear hW5
            go_region_held3 (fun w' => w'.cell? ⟨w.heap.size, 0, none⟩ = some (.float .f64 p.1) ∧ w'.cell? ⟨w.heap.size, 1, none⟩ = some (.float .f64 p.2) ∧ w'.cell? ⟨b, off + k * 2, none⟩ = some (.float .f64 u.1) ∧ w'.cell? ⟨b, off + k * 2 + 1, none⟩ = some (.float .f64 u.2) ∧ w'.cell? ⟨b, off + (k + 1) * 2, none⟩ = some (.float .f64 v.1) ∧ w'.cell? ⟨b, off + (k + 1) * 2 + 1, none⟩ = some (.float .f64 v.2))
              (first | exact ⟨p0, p1, e0, e1, e2, e3⟩ | exact keep6 hb4 ⟨p0, p1, e0, e1, e2, e3⟩ | go_keep)
              ((first
              | (go_simp; go_at_call 36; refine (hcall3 _).mono ?_; rintro e w6 ⟨rfl, rfl⟩)
              | (go_simp; go_at_call 37; refine (hcall2 _).mono ?_; rintro e w5 ⟨rfl, rfl⟩)
              | (go_simp; go_at_call 21; refine (hcall _).mono ?_; rintro e w4 ⟨rfl, hb4⟩)))
            have HL4 := Lib.hid (HBd.out.drew.trans (hb4.mono HBd.out.size))
            have HP4 := Lib.hid (blk_below (blk_drew HBPd.out) hb4 (Array.getElem?_eq_some_iff.1 HBPd.out).1)
            clear hb4 e0 e1 e2 e3 p0 p1 hcall hcall2 hcall3
            go_wp2
            go_roundw
            case rel => exact ⟨k + 1, z, by omega, by go_num, rfl, HZ, HP4, HL4.out⟩
            case measure => simp [intOf]; omega
        · have hkn : k = n - 1 := by omega
          have hnlt : ¬ ((k : Int) + 1 < (n : Int)) := by omega
          have HB := Lib.hid hb
          have HLn : Hid (LeastR ps p (n - 1) m) := Lib.hid (by rw [← hkn]; exact HLe.out)
          clear hb hkn HLe
          obtain ⟨f1, f2, f3, f4, f5, f6⟩ := least_near HD.out HP.out.1 HP.out.2 HL.out.symm h2n HLn.out HJ.out.1 HJ.out.2
          have N1 := fun W => near_any (fsqrt (sqW ps p j)) m f1 f2 f3 f4 f5 f6 W
          have hjn := HJ.out.1
          have hil : j < ps.length := by have := HL.out; omega
          have hjl : j + 1 < ps.length := by have := HL.out; omega
          have hpi : ps[j]? = some ps[j] := List.getElem?_eq_getElem hil
          have hpj : ps[j + 1]? = some ps[j + 1] := List.getElem?_eq_getElem hjl
          obtain ⟨ii, mi⟩ := HD.out j _ hpi
          obtain ⟨ij, mj⟩ := HD.out (j + 1) _ hpj
          obtain ⟨c0, c1⟩ := HPS.out j _ hpi
          obtain ⟨d0, d1⟩ := HPS.out (j + 1) _ hpj
          obtain ⟨u, hpe⟩ : ∃ p, p = ps[j] := ⟨_, rfl⟩
          obtain ⟨v, hpe1⟩ : ∃ p, p = ps[j + 1] := ⟨_, rfl⟩
          rw [← hpe] at ii c0 c1 hpi
          rw [← hpe1] at ij d0 d1 hpj
          have hcall := fun W => segsq_any u v p ii ij HP.out.1 mi mj HP.out.2 W
          have hsq : segSq u v p = sqW ps p j := by unfold sqW; rw [Le.at_some hpi, Le.at_some hpj]
          rw [hsq] at hcall
          have hok := sqW_ok HD.out HP.out.1 HP.out.2 hjl
          have hcall2 := fun W => sqrt_any (sqW ps p j) hok.1 hok.2.1 W
          obtain ⟨R, hR⟩ : ∃ R, R = fsqrt (sqW ps p j) := ⟨_, rfl⟩
          obtain ⟨Q, hQ⟩ : ∃ R, R = sqW ps p j := ⟨_, rfl⟩
          rw [← hR] at hcall2 N1 ⊢
          rw [← hQ] at hcall hcall2
          have c0' := cell_later HB.out c0
          have c1' := cell_later HB.out c1
          have d0' := cell_later HB.out d0
          have d1' := cell_later HB.out d1
          obtain ⟨⟨p0, p1⟩, _, _⟩ := cells2 HBp.out
          have hki : (j : Int) < n := by omega
          have hki1 : (j : Int) + 1 < n := by omega
          have hk0 : (0 : Int) ≤ j := by omega
          have hk1 : (0 : Int) ≤ (j : Int) + 1 := by omega
          have hkt : ((j : Int) + 1).toNat = j + 1 := by omega
          have hwk1 : IntKind.i64.wrap ((j : Int) + 1) = (j : Int) + 1 := IntWalk.i64_in _ (by omega)
          have HN1 := Lib.hid N1
          clear f1 f2 f3 f4 f5 f6 c0 c1 d0 d1 hpi hpj hpe hpe1 hil hjl ii ij mi mj hsq hok hR hQ hjn N1
          go_wp2_with fail
          go_region_held3 (fun w' => w'.cell? ⟨w.heap.size, 0, none⟩ = some (.float .f64 p.1) ∧ w'.cell? ⟨w.heap.size, 1, none⟩ = some (.float .f64 p.2) ∧ w'.cell? ⟨b, off + j * 2, none⟩ = some (.float .f64 u.1) ∧ w'.cell? ⟨b, off + j * 2 + 1, none⟩ = some (.float .f64 u.2) ∧ w'.cell? ⟨b, off + (j + 1) * 2, none⟩ = some (.float .f64 v.1) ∧ w'.cell? ⟨b, off + (j + 1) * 2 + 1, none⟩ = some (.float .f64 v.2))
            (first | exact ⟨p0, p1, c0', c1', d0', d1'⟩ | exact keep6 hb6 ⟨p0, p1, c0', c1', d0', d1'⟩ | exact keep6 hb7 (keep6 hb6 ⟨p0, p1, c0', c1', d0', d1'⟩) | go_keep)
            ((first
            | (go_simp; go_at_call 33; refine (HN1.out _).mono ?_; rintro e w9 ⟨rfl, rfl⟩)
            | (go_simp; go_at_call 37; refine (hcall2 _).mono ?_; rintro e w8 ⟨rfl, rfl⟩)
            | (go_simp; go_at_call 21; refine (hcall _).mono ?_; rintro e w7 ⟨rfl, hb7⟩)
            | (go_simp; go_at_call 12; refine (measures_any _).mono ?_; rintro e w6 ⟨rfl, hb6⟩)))
          have L6 := HB.out.drew.trans (hb6.mono HB.out.size)
          have HL7 := Lib.hid (L6.trans (hb7.mono L6.size))
          clear L6 hb6 hb7 p0 p1 c0' c1' d0' d1' hcall hcall2
          go_wp2
          go_ret
          exact ⟨rfl, HL7.out⟩
end Go.Proofs.YtpbhpplmokdkhaaDoor

