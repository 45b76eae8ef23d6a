/- The walk of laws.FnHasMoved. -/
import Derived.Test.YtpbhpplmokdkhaaDoorMvW
import Derived.Test.YtpbhpplmokdkhaaDoorRv
import Derived.Test.YtpbhpplmokdkhaaDoorAs1
import Derived.Deep.RegionHeld3
namespace Go.Proofs.YtpbhpplmokdkhaaDoor
open Go.RowKit Go.Deep Fl

theorem below_drew_left {n : Nat} {w w' : World} (h : Below n w.drew w') : Below n w w' := (Below.refl n w).drew.trans h

theorem pd_cells (w : World) (p d : Nat × Nat) {T U : TypeId} {W : World} (hW : W = (w.alloc (.cells #[.float .f64 p.1, .float .f64 p.2] T)).alloc (.cells #[.float .f64 d.1, .float .f64 d.2] U)) :
    W.cell? ⟨w.heap.size, 0, none⟩ = some (.float .f64 p.1) ∧ W.cell? ⟨w.heap.size, 1, none⟩ = some (.float .f64 p.2) ∧ W.cell? ⟨w.heap.size + 1, 0, none⟩ = some (.float .f64 d.1) ∧ W.cell? ⟨w.heap.size + 1, 1, none⟩ = some (.float .f64 d.2) := by
  subst hW
  have a := two_new w (.float .f64 p.1) (.float .f64 p.2) T
  have b := two_new (w.alloc (.cells #[.float .f64 p.1, .float .f64 p.2] T)) (.float .f64 d.1) (.float .f64 d.2) U
  rw [World.size_alloc] at b
  exact ⟨cell_alloc a.1 _, cell_alloc a.2 _, b.1, b.2⟩
set_option maxRecDepth 100000 in
set_option maxHeartbeats 2000000 in
theorem hm_walk (v : Value) (ps : List (Nat × Nat)) (p d : Nat × Nat) (a : Int) (w : World) (hv : IsPts w v ps) (hcap : ∀ ao len cap, v = .slice ao len cap → len ≤ cap) (hwf : Wf ps) (hn : ps.length * 16 ≤ 140737488351232)
    (hp : p.1 < 18446744073709551616 ∧ p.2 < 18446744073709551616) (hd : d.1 < 18446744073709551616 ∧ d.2 < 18446744073709551616) :
    Calls Tryd.prog 5 #[v, .agg #[.float .f64 p.1, .float .f64 p.2], .agg #[.float .f64 d.1, .float .f64 d.2], .int .i64 a] w fun e w' => e = .returned (.bool true) ∧ Below w.heap.size w w' := by
  obtain ⟨ao, cap, rfl, hv'⟩ := hv
  have hlc := hcap _ _ _ rfl
  obtain ⟨n, hl⟩ : ∃ n, n = ps.length := ⟨_, rfl⟩
  rw [← hl] at hlc ⊢
  by_cases hbig : (2147483647 : Int) < n
  · clear hv' hl hlc hcap
    go_enter Tryd.func5, Tryd.ntmps5
    go_wp2
    go_ret
    exact ⟨rfl, ((Below.refl _ _).alloc (Nat.le_refl _) _).alloc (by simp) _⟩
  · have hv : IsPts w (.slice ao n cap) ps := ⟨ao, cap, by rw [hl], hv'⟩
    have hcall1 := Lib.hid (fun W (h : Below w.heap.size w W) => isRing_any (hv.below h) hwf hn)
    have HV := Lib.hid hv
    have HL := Lib.hid hl
    have HLC := Lib.hid hlc
    have c2 := fun W => isPoint_any p.1 p.2 hp.1 hp.2 W
    have c3 := fun W => isPoint_any d.1 d.2 hd.1 hd.2 W
    clear hv hl hlc hcap hwf
    go_enter Tryd.func5, Tryd.ntmps5
    go_wp2_with fail
    obtain ⟨W0, hW0⟩ : ∃ W0, W0 = (w.alloc (.cells #[.float .f64 p.1, .float .f64 p.2] 31)).alloc (.cells #[.float .f64 d.1, .float .f64 d.2] 31) := ⟨_, rfl⟩
    have B0 : Below w.heap.size w W0 := by rw [hW0]; exact ((Below.refl _ _).alloc (Nat.le_refl _) _).alloc (by simp) _
    have C0 := pd_cells w p d hW0
    rw [← hW0]
    have HC0 := Lib.hid C0
    have HB0 := Lib.hid B0
    clear hW0 C0 B0
    refine (hcall1.out _ HB0.out).mono ?_
    rintro e w1 ⟨c, rfl, hc, hb1'⟩
    have hb1 := HB0.out.trans (hb1'.mono HB0.out.size)
    have HC1 := Lib.hid (keep4 hb1' HC0.out)
    have HB1 := Lib.hid hb1
    clear hb1' HC0 HB0
    clear hb1 hcall1
    cases c with
    | false =>
      clear hv' c2 c3
      go_wp2_with fail
      refine (measures_any _).mono ?_
      rintro e w2 ⟨rfl, hb2⟩
      have HB2 := Lib.hid (HB1.out.trans (hb2.mono HB1.out.size))
      clear hb2
      go_wp2
      go_ret
      exact ⟨rfl, HB2.out⟩
    | true =>
      obtain ⟨X, Y, hr⟩ := hc.out rfl
      have hn4 : (4 : Int) ≤ n := by have := hr.four; have := HL.out; omega
      have hn100 : (n : Int) ≤ 100 := by have := hr.most; have := HL.out; omega
      have hnw : IntKind.i64.wrap ((n : Int) - 1) = (n : Int) - 1 := IntWalk.i64_in _ (by omega)
      have HR := Lib.hid hr
      clear hr hc
      obtain ⟨bp, hbp⟩ : ∃ b, b = ptB (p.1, p.2) := ⟨_, rfl⟩
      obtain ⟨bd, hbd⟩ : ∃ b, b = ptB (d.1, d.2) := ⟨_, rfl⟩
      rw [← hbp] at c2
      rw [← hbd] at c3
      have HBP := Lib.hid hbp
      have HBD := Lib.hid hbd
      clear hbp hbd
      obtain ⟨k0, k1, k2, k3⟩ := HC1.out
      go_wp2_with fail
      clear k0 k1 k2 k3
      refine (c2 _).mono ?_
      rintro e w2 ⟨rfl, hb2⟩
      have HB2 := Lib.hid (HB1.out.trans (hb2.mono HB1.out.size))
      have HC2 := Lib.hid (keep4 hb2 HC1.out)
      clear hb2 c2 HC1
      cases bp with
      | false =>
        clear hv' c3
        go_wp2_with fail
        refine (measures_any _).mono ?_
        rintro e w3 ⟨rfl, hb3⟩
        have HB3 := Lib.hid (HB2.out.trans (hb3.mono HB2.out.size))
        clear hb3
        go_wp2
        go_ret
        exact ⟨rfl, HB3.out⟩
      | true =>
        obtain ⟨k0, k1, k2, k3⟩ := HC2.out
        go_wp2_with fail
        clear k0 k1 k2 k3
        refine (c3 _).mono ?_
        rintro e w3 ⟨rfl, hb3⟩
        have HB3 := Lib.hid (HB2.out.trans (hb3.mono HB2.out.size))
        have HC3 := Lib.hid (keep4 hb3 HC2.out)
        clear hb3 c3 HC2
        cases bd with
        | false =>
          clear hv'
          go_wp2_with fail
          refine (measures_any _).mono ?_
          rintro e w4 ⟨rfl, hb4⟩
          have HB4 := Lib.hid (HB3.out.trans (hb4.mono HB3.out.size))
          clear hb4
          go_wp2
          go_ret
          exact ⟨rfl, HB4.out⟩
        | true =>
          by_cases c1 : a < 0
          · have d1 : decide (a < 0) = true := decide_eq_true c1
            clear c1
            clear hv'
            go_wp2_with fail
            refine (measures_any _).mono ?_
            rintro e w4 ⟨rfl, hb4⟩
            have HB4 := Lib.hid (HB3.out.trans (hb4.mono HB3.out.size))
            clear hb4
            go_wp2
            go_ret
            exact ⟨rfl, HB4.out⟩
          · have d1 : decide (a < 0) = false := decide_eq_false c1
            by_cases c4 : (n : Int) - 1 ≤ a
            · have d3 : decide ((n : Int) - 1 ≤ a) = true := decide_eq_true c4
              clear c1 c4
              clear hv'
              go_wp2_with fail
              refine (measures_any _).mono ?_
              rintro e w4 ⟨rfl, hb4⟩
              have HB4 := Lib.hid (HB3.out.trans (hb4.mono HB3.out.size))
              clear hb4
              go_wp2
              go_ret
              exact ⟨rfl, HB4.out⟩
            · have d3 : decide ((n : Int) - 1 ≤ a) = false := decide_eq_false c4
              obtain ⟨z, rfl⟩ : ∃ z : Nat, a = z := ⟨a.toNat, by omega⟩
              have hqs : ∃ b off, ao = some ⟨b, off, none⟩ ∧ PtsAt w b off ps := by
                rcases hv' with h | h
                · have h9 := HR.out.four; rw [h] at h9; simp at h9
                · exact h
              obtain ⟨b, off, rfl, hps⟩ := hqs
              have hzn : z + 1 < n := by omega
              have hzl : z + 1 < ps.length := by rw [← HL.out]; exact hzn
              obtain ⟨x, y, hip, sx, sy⟩ := pt_isP' HBP.out.symm
              obtain ⟨dx, dy, hid, sdx, sdy⟩ := pt_isP' HBD.out.symm
              have hmid : Rg.Mid x ∧ Rg.Mid y := by unfold Small at sx sy; unfold Rg.Mid; omega
              have hmid2 : Rg.Mid (x + dx) ∧ Rg.Mid (y + dy) := by unfold Small at sx sy sdx sdy; unfold Rg.Mid; omega
              have radd1 := run_fadd (P := Tryd.prog) hip.1.1 hid.1.1 27
              have radd2 := run_fadd (P := Tryd.prog) hip.2.1 hid.2.1 27
              obtain ⟨q1, hq1⟩ : ∃ q, q = fadd p.1 d.1 := ⟨_, rfl⟩
              obtain ⟨q2, hq2⟩ : ∃ q, q = fadd p.2 d.2 := ⟨_, rfl⟩
              have hiq : IsP (q1, q2) (x + dx) (y + dy) := by
                unfold Small at sx sy sdx sdy
                rw [hq1, hq2]
                exact ⟨isI_add hip.1 hid.1 (by omega), isI_add hip.2 hid.2 (by omega)⟩
              have q1lt : q1 < 18446744073709551616 := by rw [hq1]; exact fadd_lt _ _
              rw [← hq1] at radd1
              rw [← hq2] at radd2
              clear hq1 hq2
              have hmov := moved_dat HR.out.dat hid ⟨sdx, sdy⟩
              obtain ⟨X', Y', hfd, htn⟩ := from_turned HR.out hzl
              have hbk := back_dat HR.out.dat
              have hcl := HR.out.closed
              have h2n : 2 ≤ n := by omega
              have e1 : ringB (x + dx) (y + dy) (fun j => X j + dx) (fun j => Y j + dy) n = ringB x y X Y n := by
                rw [← HL.out] at hcl
                exact ringB_moved h2n hcl ⟨rfl, rfl⟩ (fun j _ => ⟨rfl, rfl⟩)
              have e2 : ringB x y X' Y' n = ringB x y X Y n := by
                rw [← HL.out] at hcl htn
                exact turned_ringB h2n hcl htn
              have e3 : ringB x y (fun j => X (n - 1 - j)) (fun j => Y (n - 1 - j)) n = ringB x y X Y n := by
                rw [← HL.out] at hcl
                exact back_ringB h2n hcl (fun j _ => ⟨rfl, rfl⟩)
              have mlen : (movL ps d).length = n := by unfold movL; rw [List.length_map]; exact HL.out.symm
              have flen : (fromL ps z).length = n := by rw [from_len hzl]; exact HL.out.symm
              have blen : ps.reverse.length = n := by rw [List.length_reverse]; exact HL.out.symm
              have cl1 : (fun j => X j + dx) (n - 1) = (fun j => X j + dx) 0 ∧ (fun j => Y j + dy) (n - 1) = (fun j => Y j + dy) 0 := by
                rw [← HL.out] at hcl
                exact ⟨by show X (n - 1) + dx = X 0 + dx; rw [hcl.1], by show Y (n - 1) + dy = Y 0 + dy; rw [hcl.2]⟩
              have cl2 : X' (n - 1) = X' 0 ∧ Y' (n - 1) = Y' 0 := by
                have := htn.closed
                rw [← HL.out] at this
                exact this
              have cl3 : (fun j => X (n - 1 - j)) (n - 1) = (fun j => X (n - 1 - j)) 0 ∧ (fun j => Y (n - 1 - j)) (n - 1) = (fun j => Y (n - 1 - j)) 0 := by
                rw [← HL.out] at hcl
                show X (n - 1 - (n - 1)) = X (n - 1 - 0) ∧ Y (n - 1 - (n - 1)) = Y (n - 1 - 0)
                rw [Nat.sub_self, Nat.sub_zero, hcl.1, hcl.2]; exact ⟨rfl, rfl⟩
              obtain ⟨r, hr⟩ : ∃ r, r = ringB x y X Y n := ⟨_, rfl⟩
              rw [← hr] at e1 e2 e3
              rw [← HL.out] at hbk
              have K0 := Lib.hid (fun W (h : Below w.heap.size w W) => ringHas_any n X Y p x y (HV.out.below h) HL.out.symm (by omega) (by omega) HR.out.datM (by rw [HL.out]; exact HR.out.closed) hip hmid hp.1)
              rw [← hr] at K0
              have K1 := Lib.hid (fun W v (h : IsPts W v (movL ps d)) => ringHas_any n _ _ (q1, q2) _ _ h mlen (by omega) (by omega) hmov cl1 hiq hmid2 q1lt)
              rw [e1] at K1
              have K2 := Lib.hid (fun W v (h : IsPts W v (fromL ps z)) => ringHas_any n X' Y' p x y h flen (by omega) (by omega) (datM_of hfd) cl2 hip hmid hp.1)
              rw [e2] at K2
              have K3 := Lib.hid (fun W v (h : IsPts W v ps.reverse) => ringHas_any n _ _ p x y h blen (by omega) (by omega) (datM_of hbk) cl3 hip hmid hp.1)
              rw [e3] at K3
              have M1 := Lib.hid (fun W (h : Below w.heap.size w W) => moved_any n cap b off ps d X Y dx dy W HL.out.symm (by omega) (pts_below hps h) HR.out.dat hid ⟨sdx, sdy⟩)
              have M2 := Lib.hid (fun W (h : Below w.heap.size w W) => from_any n cap b off z ps W HL.out.symm (by omega) HLC.out (pts_below hps h) hzn)
              have M3 := Lib.hid (fun W (h : Below w.heap.size w W) => reversed_any (HV.out.below h) (by rw [← HL.out]; omega) (by rw [← HL.out]; omega))
              clear hv' hps hzl hip sx sy hid sdx sdy hmid hmid2 hiq q1lt hmov hfd htn hbk hcl h2n e1 e2 e3 mlen flen blen cl1 cl2 cl3 hr c1 c4
              obtain ⟨k0, k1, k2, k3⟩ := HC3.out
              go_wp2_with fail
              clear k0 k1 k2 k3
              refine (M1.out _ HB3.out).mono ?_
              rintro e w4 ⟨v4, rfl, hv4, hb4⟩
              have HV4 := Lib.hid hv4
              have HB4 := Lib.hid (HB3.out.trans (hb4.mono HB3.out.size))
              have C4 := keep4 hb4 HC3.out
              obtain ⟨k0, k1, k2, k3⟩ := C4
              have HC4 := Lib.hid (And.intro k0 (And.intro k1 (And.intro k2 k3)))
              have ob := two_new w4 (.float .f64 q1) (.float .f64 q2) 31
              have a0 := cell_alloc k0 (.cells #[.float .f64 q1, .float .f64 q2] 31)
              have a1 := cell_alloc k1 (.cells #[.float .f64 q1, .float .f64 q2] 31)
              have B5 := HB4.out.alloc HB4.out.size (.cells #[.float .f64 q1, .float .f64 q2] 31)
              have HV5 := Lib.hid (hv4.below ((Below.refl _ _).alloc (Nat.le_refl _) (.cells #[.float .f64 q1, .float .f64 q2] 31)))
              have HB5 := Lib.hid B5
              have HC5 := Lib.hid (And.intro a0 (And.intro a1 (And.intro ob.1 ob.2)))
              clear hv4 hb4 M1 HC3 ob B5 HC4 HV4
              go_wp2_with fail
              clear k0 k1 k2 k3 a0 a1 radd1 radd2
              refine (K0.out _ HB5.out).mono ?_
              rintro e w5 ⟨rfl, hb5⟩
              have HB6 := Lib.hid (HB5.out.trans (hb5.mono HB5.out.size))
              have HV6 := Lib.hid (HV5.out.below hb5)
              have HC6 := Lib.hid (keep4 hb5 HC5.out)
              clear hb5 HB5 HV5 HC5 K0
              go_wp2_with fail
              go_region_held3 (fun w' => w'.cell? ⟨w.heap.size, 0, none⟩ = some (.float .f64 p.1) ∧ w'.cell? ⟨w.heap.size, 1, none⟩ = some (.float .f64 p.2) ∧ w'.cell? ⟨w4.heap.size, 0, none⟩ = some (.float .f64 q1) ∧ w'.cell? ⟨w4.heap.size, 1, none⟩ = some (.float .f64 q2))
                (first | exact HC6.out | exact (keep4 hb6 HC6.out) | exact (keep4 hb7 (keep4 hb6 HC6.out)) | exact (keep4 hb8 (keep4 hb7 (keep4 hb6 HC6.out))) | exact (keep4 hb9 (keep4 hb8 (keep4 hb7 (keep4 hb6 HC6.out)))) | exact (keep4 hb10 (keep4 hb9 (keep4 hb8 (keep4 hb7 (keep4 hb6 HC6.out))))) | exact (keep4 hb11 (keep4 hb10 (keep4 hb9 (keep4 hb8 (keep4 hb7 (keep4 hb6 HC6.out)))))) | go_keep)
                ((first
                | (go_simp; go_at_call 16; refine (K3.out _ _ hv10).mono ?_; rintro e w11 ⟨rfl, hb11⟩)
                | (go_simp; go_at_call 20; refine (M3.out _ ((((HB6.out.drew.trans (hb6.mono HB6.out.drew.size)).trans (hb7.mono (HB6.out.drew.trans (hb6.mono HB6.out.drew.size)).size)).trans (hb8.mono ((HB6.out.drew.trans (hb6.mono HB6.out.drew.size)).trans (hb7.mono (HB6.out.drew.trans (hb6.mono HB6.out.drew.size)).size)).size)).trans (hb9.mono (((HB6.out.drew.trans (hb6.mono HB6.out.drew.size)).trans (hb7.mono (HB6.out.drew.trans (hb6.mono HB6.out.drew.size)).size)).trans (hb8.mono ((HB6.out.drew.trans (hb6.mono HB6.out.drew.size)).trans (hb7.mono (HB6.out.drew.trans (hb6.mono HB6.out.drew.size)).size)).size)).size))).mono ?_; rintro e w10 ⟨v10, rfl, hv10, hb10⟩)
                | (go_simp; go_at_call 16; refine (K2.out _ _ hv8).mono ?_; rintro e w9 ⟨rfl, hb9⟩)
                | (go_simp; go_at_call 19; refine (M2.out _ ((HB6.out.drew.trans (hb6.mono HB6.out.drew.size)).trans (hb7.mono (HB6.out.drew.trans (hb6.mono HB6.out.drew.size)).size))).mono ?_; rintro e w8 ⟨v8, rfl, hv8, hb8⟩)
                | (go_simp; go_at_call 16; refine (K1.out _ _ (HV6.out.below (below_drew_left hb6))).mono ?_; rintro e w7 ⟨rfl, hb7⟩)
                | (go_simp; go_at_call 12; refine (measures_any _).mono ?_; rintro e w6 ⟨rfl, hb6⟩)))
              have LL := ((((((HB6.out.drew.trans (hb6.mono HB6.out.drew.size)).trans (hb7.mono (HB6.out.drew.trans (hb6.mono HB6.out.drew.size)).size)).trans (hb8.mono ((HB6.out.drew.trans (hb6.mono HB6.out.drew.size)).trans (hb7.mono (HB6.out.drew.trans (hb6.mono HB6.out.drew.size)).size)).size)).trans (hb9.mono (((HB6.out.drew.trans (hb6.mono HB6.out.drew.size)).trans (hb7.mono (HB6.out.drew.trans (hb6.mono HB6.out.drew.size)).size)).trans (hb8.mono ((HB6.out.drew.trans (hb6.mono HB6.out.drew.size)).trans (hb7.mono (HB6.out.drew.trans (hb6.mono HB6.out.drew.size)).size)).size)).size)).trans (hb10.mono ((((HB6.out.drew.trans (hb6.mono HB6.out.drew.size)).trans (hb7.mono (HB6.out.drew.trans (hb6.mono HB6.out.drew.size)).size)).trans (hb8.mono ((HB6.out.drew.trans (hb6.mono HB6.out.drew.size)).trans (hb7.mono (HB6.out.drew.trans (hb6.mono HB6.out.drew.size)).size)).size)).trans (hb9.mono (((HB6.out.drew.trans (hb6.mono HB6.out.drew.size)).trans (hb7.mono (HB6.out.drew.trans (hb6.mono HB6.out.drew.size)).size)).trans (hb8.mono ((HB6.out.drew.trans (hb6.mono HB6.out.drew.size)).trans (hb7.mono (HB6.out.drew.trans (hb6.mono HB6.out.drew.size)).size)).size)).size)).size)).trans (hb11.mono (((((HB6.out.drew.trans (hb6.mono HB6.out.drew.size)).trans (hb7.mono (HB6.out.drew.trans (hb6.mono HB6.out.drew.size)).size)).trans (hb8.mono ((HB6.out.drew.trans (hb6.mono HB6.out.drew.size)).trans (hb7.mono (HB6.out.drew.trans (hb6.mono HB6.out.drew.size)).size)).size)).trans (hb9.mono (((HB6.out.drew.trans (hb6.mono HB6.out.drew.size)).trans (hb7.mono (HB6.out.drew.trans (hb6.mono HB6.out.drew.size)).size)).trans (hb8.mono ((HB6.out.drew.trans (hb6.mono HB6.out.drew.size)).trans (hb7.mono (HB6.out.drew.trans (hb6.mono HB6.out.drew.size)).size)).size)).size)).trans (hb10.mono ((((HB6.out.drew.trans (hb6.mono HB6.out.drew.size)).trans (hb7.mono (HB6.out.drew.trans (hb6.mono HB6.out.drew.size)).size)).trans (hb8.mono ((HB6.out.drew.trans (hb6.mono HB6.out.drew.size)).trans (hb7.mono (HB6.out.drew.trans (hb6.mono HB6.out.drew.size)).size)).size)).trans (hb9.mono (((HB6.out.drew.trans (hb6.mono HB6.out.drew.size)).trans (hb7.mono (HB6.out.drew.trans (hb6.mono HB6.out.drew.size)).size)).trans (hb8.mono ((HB6.out.drew.trans (hb6.mono HB6.out.drew.size)).trans (hb7.mono (HB6.out.drew.trans (hb6.mono HB6.out.drew.size)).size)).size)).size)).size)).size))
              have HLL := Lib.hid LL
              clear LL hb6 hb7 hb8 hb9 hb10 hb11 hv8 hv10
              go_wp2
              go_ret
              exact ⟨rfl, HLL.out⟩
end Go.Proofs.YtpbhpplmokdkhaaDoor
