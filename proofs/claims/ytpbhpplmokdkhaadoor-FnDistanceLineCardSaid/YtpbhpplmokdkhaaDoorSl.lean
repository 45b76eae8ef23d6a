/- The walk of laws.FnSegmentLeast. -/
import Derived.Test.YtpbhpplmokdkhaaDoorSl1
import Derived.Test.YtpbhpplmokdkhaaDoorMs
import Derived.Test.YtpbhpplmokdkhaaDoorIr
import Derived.Deep.RegionHeld3
set_option linter.unusedVariables false
namespace Go.Proofs.YtpbhpplmokdkhaaDoor
open Go.RowKit Go.Deep Fl

theorem below_drew_left' {n : Nat} {w w' : World} (h : Below n w.drew w') : Below n w w' := (Below.refl n w).drew.trans h
theorem eql_pt {x y x' y' : Nat} {c d : Bool} (h1 : (FloatKind.f64.format.order x x' == some .eq) = c) (h2 : (FloatKind.f64.format.order y y' == some .eq) = d) (w : World) :
    (binOp .eql 31 (.agg #[.float .f64 x, .float .f64 y]) (.agg #[.float .f64 x', .float .f64 y'])).run Tryd.prog w = .ok (.bool (c && d)) w := by
  have q1 := eq_float2 h1
  have q2 := eq_float2 h2
  clear h1 h2
  cases c <;> cases d <;> go_simp
set_option maxRecDepth 100000 in
set_option maxHeartbeats 4000000 in
theorem sl_walk (a b p : Nat × Nat) (s : Nat) (w : World) (ha : a.1 < 18446744073709551616 ∧ a.2 < 18446744073709551616) (hb : b.1 < 18446744073709551616 ∧ b.2 < 18446744073709551616) (hp : p.1 < 18446744073709551616 ∧ p.2 < 18446744073709551616) (hs : s < 18446744073709551616) :
    Calls Tryd.prog 6 #[.agg #[.float .f64 a.1, .float .f64 a.2], .agg #[.float .f64 b.1, .float .f64 b.2], .agg #[.float .f64 p.1, .float .f64 p.2], .float .f64 s] w fun e w' => e = .returned (.bool true) ∧ Below w.heap.size w w' := by
  have c1 := fun W => isPoint_any a.1 a.2 ha.1 ha.2 W
  have c2 := fun W => isPoint_any b.1 b.2 hb.1 hb.2 W
  have c3 := fun W => isPoint_any p.1 p.2 hp.1 hp.2 W
  obtain ⟨B1, hB1⟩ : ∃ c, c = ptB (a.1, a.2) := ⟨_, rfl⟩
  obtain ⟨B2, hB2⟩ : ∃ c, c = ptB (b.1, b.2) := ⟨_, rfl⟩
  obtain ⟨B3, hB3⟩ : ∃ c, c = ptB (p.1, p.2) := ⟨_, rfl⟩
  rw [← hB1] at c1
  rw [← hB2] at c2
  rw [← hB3] at c3
  have HB1 := Lib.hid hB1
  have HB2 := Lib.hid hB2
  have HB3 := Lib.hid hB3
  clear ha hb hp hB1 hB2 hB3 hs
  obtain ⟨W0, hW0⟩ : ∃ W0, W0 = ((w.alloc (.cells #[.float .f64 a.1, .float .f64 a.2] 31)).alloc (.cells #[.float .f64 b.1, .float .f64 b.2] 31)).alloc (.cells #[.float .f64 p.1, .float .f64 p.2] 31) := ⟨_, rfl⟩
  have L0 : Below w.heap.size w W0 := by rw [hW0]; exact (((Below.refl _ _).alloc (Nat.le_refl _) _).alloc (by simp) _).alloc (by simp; omega) _
  have C0 := six_cells a b p hW0
  have HC0 := Lib.hid C0
  have HL0 := Lib.hid L0
  clear C0 L0
  go_enter Tryd.func6, Tryd.ntmps6
  obtain ⟨k0, k1, k2, k3, k4, k5⟩ := HC0.out
  go_wp2_with fail
  rw [← hW0]
  have HW0 := Lib.hid hW0
  clear hW0
  clear k0 k1 k2 k3 k4 k5
  refine (c1 _).mono ?_
  rintro e w1 ⟨rfl, hb1⟩
  have HL1 := Lib.hid (HL0.out.trans (hb1.mono HL0.out.size))
  have HC1 := Lib.hid (keep6 hb1 HC0.out)
  clear hb1 c1 HC0
  cases B1 with
  | false =>
    go_wp2_with fail
    refine (measures_any _).mono ?_
    rintro e w2 ⟨rfl, hb2⟩
    have HBx := Lib.hid (HL1.out.trans (hb2.mono HL1.out.size))
    clear hb2
    go_wp2
    go_ret
    exact ⟨rfl, HBx.out⟩
  | true =>
    obtain ⟨k0, k1, k2, k3, k4, k5⟩ := HC1.out
    go_wp2_with fail
    clear k0 k1 k2 k3 k4 k5
    refine (c2 _).mono ?_
    rintro e w2 ⟨rfl, hb2⟩
    have HL2 := Lib.hid (HL1.out.trans (hb2.mono HL1.out.size))
    have HC2 := Lib.hid (keep6 hb2 HC1.out)
    clear hb2 c2 HC1
    cases B2 with
    | false =>
      go_wp2_with fail
      refine (measures_any _).mono ?_
      rintro e w3 ⟨rfl, hb3⟩
      have HBx := Lib.hid (HL2.out.trans (hb3.mono HL2.out.size))
      clear hb3
      go_wp2
      go_ret
      exact ⟨rfl, HBx.out⟩
    | true =>
      obtain ⟨k0, k1, k2, k3, k4, k5⟩ := HC2.out
      go_wp2_with fail
      clear k0 k1 k2 k3 k4 k5
      refine (c3 _).mono ?_
      rintro e w3 ⟨rfl, hb3⟩
      have HL3 := Lib.hid (HL2.out.trans (hb3.mono HL2.out.size))
      have HC3 := Lib.hid (keep6 hb3 HC2.out)
      clear hb3 c3 HC2
      cases B3 with
      | false =>
        go_wp2_with fail
        refine (measures_any _).mono ?_
        rintro e w4 ⟨rfl, hb4⟩
        have HBx := Lib.hid (HL3.out.trans (hb4.mono HL3.out.size))
        clear hb4
        go_wp2
        go_ret
        exact ⟨rfl, HBx.out⟩
      | true =>
        by_cases T1 : (FloatKind.f64.format.order s 0 == some .gt || FloatKind.f64.format.order s 0 == some .eq) = true
        rotate_left
        · have T1' : (FloatKind.f64.format.order s 0 == some .gt || FloatKind.f64.format.order s 0 == some .eq) = false := by simpa using T1
          go_wp2_with fail
          refine (measures_any _).mono ?_
          rintro e w4 ⟨rfl, hb4⟩
          have HBx := Lib.hid (HL3.out.trans (hb4.mono HL3.out.size))
          clear hb4
          go_wp2
          go_ret
          exact ⟨rfl, HBx.out⟩
        by_cases T2 : (FloatKind.f64.format.order s 4607182418800017408 == some .lt || FloatKind.f64.format.order s 4607182418800017408 == some .eq) = true
        rotate_left
        · have T2' : (FloatKind.f64.format.order s 4607182418800017408 == some .lt || FloatKind.f64.format.order s 4607182418800017408 == some .eq) = false := by simpa using T2
          go_wp2_with fail
          refine (measures_any _).mono ?_
          rintro e w4 ⟨rfl, hb4⟩
          have HBx := Lib.hid (HL3.out.trans (hb4.mono HL3.out.size))
          clear hb4
          go_wp2
          go_ret
          exact ⟨rfl, HBx.out⟩
        obtain ⟨ax, ay, ia, sax, say⟩ := pt_isP' HB1.out.symm
        obtain ⟨bx, by', ib, sbx, sby⟩ := pt_isP' HB2.out.symm
        obtain ⟨px, py, ip, spx, spy⟩ := pt_isP' HB3.out.symm
        have ia : IsP a ax ay := ia
        have ib : IsP b bx by' := ib
        have ip : IsP p px py := ip
        have hsh := Sg.share_fin T1 T2
        have e1 : (FloatKind.f64.format.order a.1 b.1 == some .eq) = decide (ax = bx) := isI_eq ia.1 ib.1
        have e2 : (FloatKind.f64.format.order a.2 b.2 == some .eq) = decide (ay = by') := isI_eq ia.2 ib.2
        by_cases same : ax = bx ∧ ay = by'
        · rw [decide_eq_true same.1] at e1
          rw [decide_eq_true same.2] at e2
          have q1 := eq_float2 e1
          have q2 := eq_float2 e2
          obtain ⟨k0, k1, k2, k3, k4, k5⟩ := HC3.out
          clear ia ib ip sax say sbx sby spx spy hsh same e1 e2
          go_wp2_with fail
          refine (measures_any _).mono ?_
          rintro e w4 ⟨rfl, hb4⟩
          have HBx := Lib.hid (HL3.out.trans (hb4.mono HL3.out.size))
          clear hb4
          go_wp2
          go_ret
          exact ⟨rfl, HBx.out⟩
        have hne : bx - ax ≠ 0 ∨ by' - ay ≠ 0 := by omega
        have hx : ∃ c1 c2, (FloatKind.f64.format.order a.1 b.1 == some .eq) = c1 ∧ (FloatKind.f64.format.order a.2 b.2 == some .eq) = c2 ∧ (c1 && c2) = false := by
          refine ⟨_, _, e1, e2, ?_⟩
          by_cases h : ax = bx
          · rw [decide_eq_false (p := ay = by') (fun h' => same ⟨h, h'⟩), Bool.and_false]
          · rw [decide_eq_false h, Bool.false_and]
        obtain ⟨d1, d2, e3, e4, e5⟩ := hx
        have qe := eql_pt e3 e4
        rw [e5] at qe
        have sa : Small ax ∧ Small ay := ⟨sax, say⟩
        have sb : Small bx ∧ Small by' := ⟨sbx, sby⟩
        have sp : Small px ∧ Small py := ⟨spx, spy⟩
        obtain ⟨hok, hS1, hfar, hle⟩ := Sg.first_ok ia ib ip sa sb sp hne hsh.1 hsh.2.1 hsh.2.2
        obtain ⟨⟨g1, g2, g3, g4⟩, _⟩ := Sg.on_near ia ib sa sb hsh.1 hsh.2.1 hsh.2.2
        have r1 := run_fsub (P := Tryd.prog) ib.1.1 ia.1.1 27
        have r2 := run_fsub (P := Tryd.prog) ib.2.1 ia.2.1 27
        have r3 := run_fmul (P := Tryd.prog) hsh.1 g1.1 27
        have r4 := run_fmul (P := Tryd.prog) hsh.1 g2.1 27
        have r5 := run_fadd (P := Tryd.prog) ia.1.1 g3 27
        have r6 := run_fadd (P := Tryd.prog) ia.2.1 g4 27
        have K1 := fun W => squared_any (Sg.onP a b s) p hok W
        have r7 := run_fadd (P := Tryd.prog) hS1 Sg.lit6.1 27
        have K2 := fun W => segsq_any a b p ia ib ip sa sb sp W
        have K3 := fun W => nearest_any a b p ia ib ip sa sb sp hne W
        have K4 : ∀ q : Nat × Nat, _ → _ := fun q hq => Sg.second_ok ia ib ip sa sb sp hne (q := q) hq
        obtain ⟨u, hu⟩ : ∃ u, u = Sg.onP a b s := ⟨_, rfl⟩
        have hu1 : fadd a.1 (fmul s (fsub b.1 a.1)) = u.1 := by rw [hu]; rfl
        have hu2 : fadd a.2 (fmul s (fsub b.2 a.2)) = u.2 := by rw [hu]; rfl
        rw [hu1] at r5
        rw [hu2] at r6
        rw [← hu] at K1 r7 hle
        obtain ⟨v1, hv1⟩ : ∃ v, v = sqDist u p := ⟨_, rfl⟩
        rw [← hv1] at K1 r7 hle
        obtain ⟨far, hf⟩ : ∃ v, v = segSq a b p := ⟨_, rfl⟩
        rw [← hf] at K2 K4 hle
        have HFAR := Lib.hid hfar
        rw [← hf] at HFAR
        have HK1 := Lib.hid K1
        have HK2 := Lib.hid K2
        have HK3 := Lib.hid K3
        have HK4 := Lib.hid K4
        obtain ⟨k0, k1, k2, k3, k4, k5⟩ := HC3.out
        clear e3 e4 e5 d1 d2 ia ib ip sax say sbx sby spx spy hsh same e1 e2 hne sa sb sp hok hS1 hfar g1 g2 g3 g4 hu hu1 hu2 hv1 hf K1 K2 K3 K4
        go_wp2_with fail
        clear k0 k1 k2 k3 k4 k5
        refine (HK2.out _).mono ?_
        rintro e w4 ⟨rfl, hb4⟩
        have HL4 := Lib.hid (HL3.out.trans (hb4.mono HL3.out.size))
        have C4 := keep6 hb4 HC3.out
        have A4 := (Below.refl w4.heap.size w4).alloc (Nat.le_refl _) (.cells #[.float .f64 u.1, .float .f64 u.2] 31)
        have C5 := keep6 A4 C4
        have D5 := two_new w4 (.float .f64 u.1) (.float .f64 u.2) 31
        have HC5 := Lib.hid C5
        have HD5 := Lib.hid D5
        have HL5 := Lib.hid (HL4.out.alloc HL4.out.size (.cells #[.float .f64 u.1, .float .f64 u.2] 31))
        obtain ⟨k0, k1, k2, k3, k4, k5⟩ := C4
        obtain ⟨m0, m1, m2, m3, m4, m5⟩ := C5
        clear A4 D5 hb4 HK2
        go_wp2_with fail
        clear k0 k1 k2 k3 k4 k5 m0 m1 m2 m3 m4 m5 r1 r2 r3 r4 r5 r6
        refine (HK3.out _).mono ?_
        rintro e w5 ⟨⟨q, rfl, hq⟩, hb5⟩
        obtain ⟨hok2, hS2, hF, hle2⟩ := HK4.out q hq
        have K5 := fun W => squared_any q p hok2 W
        obtain ⟨v2, hv2⟩ : ∃ v, v = sqDist q p := ⟨_, rfl⟩
        rw [← hv2] at K5 hS2 hF hle2
        have HK5 := Lib.hid K5
        have C6 := keep6 hb5 HC5.out
        have D6 : w5.cell? ⟨w4.heap.size, 0, none⟩ = some (.float .f64 u.1) ∧ w5.cell? ⟨w4.heap.size, 1, none⟩ = some (.float .f64 u.2) := ⟨cell_later hb5 HD5.out.1, cell_later hb5 HD5.out.2⟩
        have A6 := (Below.refl w5.heap.size w5).alloc (Nat.le_refl _) (.cells #[.float .f64 q.1, .float .f64 q.2] 31)
        have C7 := keep6 A6 C6
        have D7 : (w5.alloc (.cells #[.float .f64 q.1, .float .f64 q.2] 31)).cell? ⟨w4.heap.size, 0, none⟩ = some (.float .f64 u.1) ∧ (w5.alloc (.cells #[.float .f64 q.1, .float .f64 q.2] 31)).cell? ⟨w4.heap.size, 1, none⟩ = some (.float .f64 u.2) := ⟨cell_later A6 D6.1, cell_later A6 D6.2⟩
        have E7 := two_new w5 (.float .f64 q.1) (.float .f64 q.2) 31
        have HL6 := Lib.hid (HL5.out.trans (hb5.mono HL5.out.size))
        have HL7 := Lib.hid (HL6.out.alloc HL6.out.size (.cells #[.float .f64 q.1, .float .f64 q.2] 31))
        have HX := Lib.hid (And.intro C7.2.2.2.2.1 (And.intro C7.2.2.2.2.2 (And.intro D7.1 (And.intro D7.2 (And.intro E7.1 E7.2)))))
        have K6 := fun W => abs_any (fsub far v2) (fsub_lt _ _) W
        have r8 := run_fsub (P := Tryd.prog) HFAR.out hS2 27
        obtain ⟨dd, hdd⟩ : ∃ v, v = fsub far v2 := ⟨_, rfl⟩
        rw [← hdd] at r8 K6 hle2
        have HK6 := Lib.hid K6
        clear hq hok2 hS2 hF hv2 K5 C6 D6 A6 C7 D7 E7 hb5 HK3 HK4 K6 hdd HL6 HL5 HC5 HD5 HFAR
        obtain ⟨W7, hW7⟩ : ∃ W, W = w5.alloc (.cells #[.float .f64 q.1, .float .f64 q.2] 31) := ⟨_, rfl⟩
        go_wp2_with fail
        rw [← hW7] at HX HL7 ⊢
        clear hW7
        refine (measures_any _).mono ?_
        rintro e w6 ⟨rfl, hb6⟩
        have HL8 := Lib.hid (HL7.out.trans (hb6.mono HL7.out.size))
        have X8 := keep6 hb6 HX.out
        have HX8 := Lib.hid X8
        obtain ⟨x0, x1, x2, x3, x4, x5⟩ := X8
        clear hb6 HL7 HX
        go_wp2_with fail
        clear x0 x1 x2 x3 x4 x5
        refine (HK1.out _).mono ?_
        rintro e w7 ⟨rfl, hb7⟩
        have HL9 := Lib.hid (HL8.out.trans (hb7.mono HL8.out.size))
        obtain ⟨x0, x1, x2, x3, x4, x5⟩ := keep6 hb7 HX8.out
        clear hb7 HL8 HX8 HK1
        go_wp2_with fail
        clear x0 x1 x2 x3 x4 x5
        refine (HK5.out _).mono ?_
        rintro e w8 ⟨rfl, hb8⟩
        have HLL := Lib.hid (HL9.out.trans (hb8.mono HL9.out.size))
        clear hb8 HL9 HK5
        go_wp2_with fail
        refine (HK6.out _).mono ?_
        rintro e w9 ⟨rfl, rfl⟩
        clear HK6
        go_wp2
        go_ret
        exact ⟨rfl, HLL.out⟩
end Go.Proofs.YtpbhpplmokdkhaaDoor
