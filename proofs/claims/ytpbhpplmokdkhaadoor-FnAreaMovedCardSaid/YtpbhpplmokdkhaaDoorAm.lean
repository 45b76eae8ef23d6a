/- The walk of laws.FnAreaMoved. -/
import Derived.Test.YtpbhpplmokdkhaaDoorAm1
import Derived.Test.YtpbhpplmokdkhaaDoorAs1
set_option linter.unusedVariables false
namespace Go.Proofs.YtpbhpplmokdkhaaDoor
open Go.RowKit Go.Deep Fl

theorem keep2' {w w2 : World} {a b : Addr} {va vb : Value} (hb : Below w.heap.size w w2) (h : w.cell? a = some va ∧ w.cell? b = some vb) : w2.cell? a = some va ∧ w2.cell? b = some vb := ⟨cell_later hb h.1, cell_later hb h.2⟩
set_option maxRecDepth 100000 in
set_option maxHeartbeats 4000000 in
theorem am_walk (v : Value) (ps : List (Nat × Nat)) (d : Nat × Nat) (a : Int) (w : World) (hv : IsPts w v ps) (hcap : ∀ ao len cap, v = .slice ao len cap → len ≤ cap) (hwf : Wf ps) (hn : ps.length * 16 ≤ 140737488351232)
    (hd : d.1 < 18446744073709551616 ∧ d.2 < 18446744073709551616) :
    Calls Tryd.prog 7 #[v, .agg #[.float .f64 d.1, .float .f64 d.2], .int .i64 a] w fun e w' => e = .returned (.bool true) ∧ Below w.heap.size w w' := by
  obtain ⟨ao, cap, rfl, hv'⟩ := hv
  have hlc := hcap _ _ _ rfl
  obtain ⟨n, hl⟩ : ∃ n, n = ps.length := ⟨_, rfl⟩
  rw [← hl] at hlc ⊢
  by_cases hbig : (2147483647 : Int) < n
  · clear hv' hl hlc hcap
    go_enter Tryd.func7, Tryd.ntmps7
    go_wp2
    go_ret
    exact ⟨rfl, (Below.refl _ _).alloc (Nat.le_refl _) _⟩
  · have hv : IsPts w (.slice ao n cap) ps := ⟨ao, cap, by rw [hl], hv'⟩
    have hcall1 := Lib.hid (fun W (h : Below w.heap.size w W) => isRing_any (hv.below h) hwf hn)
    have HV := Lib.hid hv
    have HL := Lib.hid hl
    have HLC := Lib.hid hlc
    have c3 := fun W => isPoint_any d.1 d.2 hd.1 hd.2 W
    clear hv hl hlc hcap hwf
    obtain ⟨W0, hW0⟩ : ∃ W0, W0 = w.alloc (.cells #[.float .f64 d.1, .float .f64 d.2] 31) := ⟨_, rfl⟩
    have B0 : Below w.heap.size w W0 := by rw [hW0]; exact (Below.refl _ _).alloc (Nat.le_refl _) _
    have C0 := two_new w (.float .f64 d.1) (.float .f64 d.2) 31
    rw [← hW0] at C0
    have HC0 := Lib.hid C0
    have HB0 := Lib.hid B0
    clear C0 B0
    go_enter Tryd.func7, Tryd.ntmps7
    go_wp2_with fail
    rw [← hW0]
    clear hW0
    refine (hcall1.out _ HB0.out).mono ?_
    rintro e w1 ⟨c, rfl, hc, hb1⟩
    have HB1 := Lib.hid (HB0.out.trans (hb1.mono HB0.out.size))
    have HC1 := Lib.hid (keep2' hb1 HC0.out)
    clear hb1 hcall1 HC0 HB0
    cases c with
    | false =>
      clear hv' c3
      go_wp2_with fail
      refine (measures_any _).mono ?_
      rintro e w2 ⟨rfl, hb2⟩
      have HBx := Lib.hid (HB1.out.trans (hb2.mono HB1.out.size))
      clear hb2
      go_wp2
      go_ret
      exact ⟨rfl, HBx.out⟩
    | true =>
      obtain ⟨X, Y, hr⟩ := hc.out rfl
      have hn4 : (4 : Int) ≤ n := by have := hr.four; have := HL.out; omega
      have hn100 : (n : Int) ≤ 100 := by have := hr.most; have := HL.out; omega
      have hnw : IntKind.i64.wrap ((n : Int) - 1) = (n : Int) - 1 := IntWalk.i64_in _ (by omega)
      have HR := Lib.hid hr
      clear hr hc
      obtain ⟨bd, hbd⟩ : ∃ b, b = ptB (d.1, d.2) := ⟨_, rfl⟩
      rw [← hbd] at c3
      have HBD := Lib.hid hbd
      clear hbd
      obtain ⟨k0, k1⟩ := HC1.out
      go_wp2_with fail
      clear k0 k1
      refine (c3 _).mono ?_
      rintro e w2 ⟨rfl, hb2⟩
      have HB2 := Lib.hid (HB1.out.trans (hb2.mono HB1.out.size))
      have HC2 := Lib.hid (keep2' hb2 HC1.out)
      clear hb2 c3 HC1 HB1
      cases bd with
      | false =>
        clear hv'
        go_wp2_with fail
        refine (measures_any _).mono ?_
        rintro e w3 ⟨rfl, hb3⟩
        have HBx := Lib.hid (HB2.out.trans (hb3.mono HB2.out.size))
        clear hb3
        go_wp2
        go_ret
        exact ⟨rfl, HBx.out⟩
      | true =>
        by_cases c1 : a < 0
        · have d1 : decide (a < 0) = true := decide_eq_true c1
          clear c1 hv'
          go_wp2_with fail
          refine (measures_any _).mono ?_
          rintro e w3 ⟨rfl, hb3⟩
          have HBx := Lib.hid (HB2.out.trans (hb3.mono HB2.out.size))
          clear hb3
          go_wp2
          go_ret
          exact ⟨rfl, HBx.out⟩
        · have d1 : decide (a < 0) = false := decide_eq_false c1
          by_cases c4 : (n : Int) - 1 ≤ a
          · have d3 : decide ((n : Int) - 1 ≤ a) = true := decide_eq_true c4
            clear c1 c4 hv'
            go_wp2_with fail
            refine (measures_any _).mono ?_
            rintro e w3 ⟨rfl, hb3⟩
            have HBx := Lib.hid (HB2.out.trans (hb3.mono HB2.out.size))
            clear hb3
            go_wp2
            go_ret
            exact ⟨rfl, HBx.out⟩
          · have d3 : decide ((n : Int) - 1 ≤ a) = false := decide_eq_false c4
            obtain ⟨z, rfl⟩ : ∃ z : Nat, a = z := ⟨a.toNat, by omega⟩
            have hqs : ∃ b off, ao = some ⟨b, off, none⟩ ∧ PtsAt w b off ps := by
              rcases hv' with h | h
              · have h9 := HR.out.four; rw [h] at h9; simp at h9
              · exact h
            obtain ⟨b, off, rfl, hps⟩ := hqs
            have hzn : z + 1 < n := by omega
            have hzl : z + 1 < ps.length := by rw [← HL.out]; exact hzn
            obtain ⟨dx, dy, hid, sdx, sdy⟩ := pt_isP' HBD.out.symm
            have hmov := moved_dat HR.out.dat hid ⟨sdx, sdy⟩
            obtain ⟨X', Y', hfd, htn⟩ := from_turned HR.out hzl
            have hbk := back_dat HR.out.dat
            have hcl := HR.out.closed
            have h2n : 2 ≤ n := by omega
            rw [← HL.out] at hcl htn hbk
            have e0 := Rg.SH_closed h2n hcl
            have e1 : Rg.TN (fun j => X j + dx) (fun j => Y j + dy) (n - 2) = Rg.TN X Y (n - 2) := TN_congr (n := n - 1) (dx := dx) (dy := dy) (fun j _ => ⟨rfl, rfl⟩) (n - 2) (by omega)
            have e2 : Rg.TN X' Y' (n - 2) = Rg.TN X Y (n - 2) := by rw [Rg.SH_closed h2n htn.closed, e0]; exact turned_SH htn
            have cl3 : (fun j => X (n - 1 - j)) (n - 1) = (fun j => X (n - 1 - j)) 0 ∧ (fun j => Y (n - 1 - j)) (n - 1) = (fun j => Y (n - 1 - j)) 0 := by
              show X (n - 1 - (n - 1)) = X (n - 1 - 0) ∧ Y (n - 1 - (n - 1)) = Y (n - 1 - 0)
              rw [Nat.sub_self, Nat.sub_zero, hcl.1, hcl.2]; exact ⟨rfl, rfl⟩
            have e3 : Rg.TN (fun j => X (n - 1 - j)) (fun j => Y (n - 1 - j)) (n - 2) = - Rg.TN X Y (n - 2) := by rw [Rg.SH_closed h2n cl3, e0]; exact back_area (by omega) (fun j _ => ⟨rfl, rfl⟩)
            have mlen : (movL ps d).length = n := by unfold movL; rw [List.length_map]; exact HL.out.symm
            have flen : (fromL ps z).length = n := by rw [from_len hzl]; exact HL.out.symm
            have blen : ps.reverse.length = n := by rw [List.length_reverse]; exact HL.out.symm
            have K0 := Lib.hid (fun W (h : Below w.heap.size w W) => ringArea_any n X Y (HV.out.below h) HL.out.symm (by omega) (by omega) HR.out.datM)
            have K1 := Lib.hid (fun W v (h : IsPts W v (movL ps d)) => ringArea_any n _ _ h mlen (by omega) (by omega) hmov)
            have K2 := Lib.hid (fun W v (h : IsPts W v (fromL ps z)) => ringArea_any n X' Y' h flen (by omega) (by omega) (datM_of hfd))
            have K3 := Lib.hid (fun W v (h : IsPts W v ps.reverse) => ringArea_any n _ _ h blen (by omega) (by omega) (datM_of hbk))
            rw [e1] at K1
            rw [e2] at K2
            rw [e3] at K3
            have K4 := Lib.hid (fun W (h : Below w.heap.size w W) => orientation_any (HV.out.below h) (by rw [← HL.out]; omega) (by rw [← HL.out]; omega) HR.out.datM)
            rw [← HL.out, e0] at K4
            have K5 := Lib.hid (fun W (h : Below w.heap.size w W) => turn_any n cap b off ps X Y W HL.out.symm (by omega) (by omega) (pts_below hps h) HR.out.dat)
            obtain ⟨sg0, hsg⟩ : ∃ s, s = sgn (Rg.SH X Y (n - 1)) := ⟨_, rfl⟩
            rw [← hsg] at K4 K5
            have M1 := Lib.hid (fun W (h : Below w.heap.size w W) => moved_any n cap b off ps d X Y dx dy W HL.out.symm (by omega) (pts_below hps h) HR.out.dat hid ⟨sdx, sdy⟩)
            have M2 := Lib.hid (fun W (h : Below w.heap.size w W) => from_any n cap b off z ps W HL.out.symm (by omega) HLC.out (pts_below hps h) hzn)
            have M3 := Lib.hid (fun W (h : Below w.heap.size w W) => reversed_any (HV.out.below h) (by rw [← HL.out]; omega) (by rw [← HL.out]; omega))
            clear hv' hps hzl hid sdx sdy hmov hfd htn hbk hcl h2n e0 e1 e2 e3 cl3 mlen flen blen hsg c1 c4
            go_wp2_with fail
            refine (K0.out _ HB2.out).mono ?_
            rintro e w3 ⟨r0, rfl, f0, v0, hb3⟩
            have HB3 := Lib.hid (HB2.out.trans (hb3.mono HB2.out.size))
            have HC3 := Lib.hid (keep2' hb3 HC2.out)
            clear hb3 HB2 HC2 K0
            go_wp2_with fail
            refine (measures_any _).mono ?_
            rintro e w4 ⟨rfl, hb4⟩
            have HB4 := Lib.hid (HB3.out.trans (hb4.mono HB3.out.size))
            have HC4 := Lib.hid (keep2' hb4 HC3.out)
            clear hb4 HB3 HC3
            obtain ⟨k0, k1⟩ := HC4.out
            have F0 := Lib.hid (And.intro f0 v0)
            clear f0 v0
            go_wp2_with fail
            refine (M1.out _ HB4.out).mono ?_
            rintro e w5 ⟨v5, rfl, hv5, hb5⟩
            have HB5 := Lib.hid (HB4.out.trans (hb5.mono HB4.out.size))
            clear k0 k1
            clear hb5 HB4 HC4 M1
            go_wp2_with fail
            refine (K1.out _ _ hv5).mono ?_
            rintro e w6 ⟨r1, rfl, f1, v1, hb6⟩
            have HB6 := Lib.hid (HB5.out.trans (hb6.mono HB5.out.size))
            have t1 := eq_of_val f1 F0.out.1 (v1.trans F0.out.2.symm)
            clear hb6 HB5 K1 hv5 f1 v1
            go_wp2_with fail
            refine (M2.out _ HB6.out).mono ?_
            rintro e w7 ⟨v7, rfl, hv7, hb7⟩
            have HB7 := Lib.hid (HB6.out.trans (hb7.mono HB6.out.size))
            clear hb7 HB6 M2 t1
            go_wp2_with fail
            refine (K2.out _ _ hv7).mono ?_
            rintro e w8 ⟨r2, rfl, f2, v2, hb8⟩
            have HB8 := Lib.hid (HB7.out.trans (hb8.mono HB7.out.size))
            have t2 := eq_of_val f2 F0.out.1 (v2.trans F0.out.2.symm)
            clear hb8 HB7 K2 hv7 f2 v2
            go_wp2_with fail
            refine (M3.out _ HB8.out).mono ?_
            rintro e w9 ⟨v9, rfl, hv9, hb9⟩
            have HB9 := Lib.hid (HB8.out.trans (hb9.mono HB8.out.size))
            clear hb9 HB8 M3 t2
            go_wp2_with fail
            refine (K3.out _ _ hv9).mono ?_
            rintro e w10 ⟨r3, rfl, f3, v3, hb10⟩
            have HB10 := Lib.hid (HB9.out.trans (hb10.mono HB9.out.size))
            have t3 := eq_of_val f3 (val_neg F0.out.1).1 (by rw [v3, (val_neg F0.out.1).2, F0.out.2, Rat.intCast_neg]; grind)
            have hng := fun W => run_fneg (P := Tryd.prog) r0 W
            clear hb10 HB9 K3 hv9 f3 v3
            go_wp2_with fail
            refine (K4.out _ HB10.out).mono ?_
            rintro e w11 ⟨rfl, hb11⟩
            have HB11 := Lib.hid (HB10.out.trans (hb11.mono HB10.out.size))
            clear hb11 HB10 K4 t3 hng
            go_wp2_with fail
            refine (K5.out _ HB11.out).mono ?_
            rintro e w12 ⟨rfl, hb12⟩
            have HB12 := Lib.hid (HB11.out.trans (hb12.mono HB11.out.size))
            clear hb12 HB11 K5
            go_wp2
            go_ret
            exact ⟨rfl, HB12.out⟩
end Go.Proofs.YtpbhpplmokdkhaaDoor
