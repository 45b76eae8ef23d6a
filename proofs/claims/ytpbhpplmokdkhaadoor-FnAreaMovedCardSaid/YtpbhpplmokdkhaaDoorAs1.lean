/- The walk of laws.FnAreaSplit. -/
import Derived.Test.YtpbhpplmokdkhaaDoorSpQ
import Derived.Test.YtpbhpplmokdkhaaDoorMs
import Derived.Test.YtpbhpplmokdkhaaDoorOpen
namespace Go.Proofs.YtpbhpplmokdkhaaDoor
open Go.RowKit Go.Deep Fl

set_option maxRecDepth 100000 in
/-- No slice among the arguments is longer than its capacity. -/
theorem open_cap {H : Type} {enc : TypeId × Value → H} {W : World} {v : Value} {d : DataW H} {p : List MemPlace} {held : Bool} (h : DataW.Trod enc Tryd.prog W 0 (fun _ => true) held 22 v d p) : ∀ ao len cap, v = .slice ao len cap → len ≤ cap := by
  rintro ao len cap rfl
  obtain ⟨fuel, hf⟩ := h
  obtain ⟨f0, f1, hu, o0, o1, t0, t1⟩ := fields_ipoint
  rcases open_slice_pairs Tryd.underlying22 hu cells_ipoint o0 o1 (by rw [t0]; exact cells_f64) (by rw [t1]; exact cells_f64) hf with ⟨hcs, hx⟩ | ⟨a, len', cap', m, n, V0, V1, D0, D1, P0, P1, hcs, _, hl, _⟩
  · simp [Value.cells] at hcs
    omega
  · simp [Value.cells] at hcs
    omega

theorem area_sum {r1 r2 r3 : Nat} {a b c : Int} (f1 : IsFin r1) (f2 : IsFin r2) (f3 : IsFin r3) (g1 : val r1 = (a : Rat) * p2 (-1)) (g2 : val r2 = (b : Rat) * p2 (-1)) (g3 : val r3 = (c : Rat) * p2 (-1)) (h : a = b + c) (hb : b.natAbs ≤ 100000000000000) (hc : c.natAbs ≤ 100000000000000) :
    IsFin (fadd r2 r3) ∧ (FloatKind.f64.format.order r1 (fadd r2 r3) == some .eq) = true := by
  have hv : val r2 + val r3 = ((b + c : Int) : Rat) * p2 (-1) := by rw [g2, g3, Rat.intCast_add]; grind
  have e2 : (2 : Rat) * p2 (-1) = 1 := by
    have := p2_val 1
    have e : ((2 ^ 1 : Nat) : Rat) = 2 := rfl
    have e' : p2 (-((1 : Nat) : Int)) = p2 (-1) := rfl
    rw [e, e'] at this; grind
  have eh : p2 (-1) = 1 / 2 := by grind
  have hbn := p2_1023_big (b + c) (by omega)
  have h1 := lt_1023 hbn.1
  have h2 := gt_1023 hbn.2
  have hp := p2_pos 1023
  have r := fadd_rnd f2 f3 (by rw [hv, eh]; grind) (by rw [hv, eh]; grind)
  have hval := rnd_exact r hv (by omega) (by omega)
  refine ⟨r.1, ?_⟩
  show (Ieee.double.order r1 (fadd r2 r3) == some .eq) = true
  rw [eq_iff f1 r.1, hval, hv, g1, h]
  exact decide_eq_true rfl
theorem TN_small {ps : List (Nat × Nat)} {X Y : Nat → Int} {n : Nat} (hn : ps.length = n) (h1 : 2 ≤ n) (h2 : n ≤ 200) (hd : DatM ps X Y) : (Rg.TN X Y (n - 2)).natAbs ≤ 100000000000000 := by
  have hmid : ∀ i, i < n → Rg.Mid (X i) ∧ Rg.Mid (Y i) := by
    intro i hi
    exact (hd i _ (List.getElem?_eq_getElem (show i < ps.length by omega))).2
  have := Rg.TN_le hmid (n - 2) (by omega)
  omega

set_option maxRecDepth 100000 in
set_option maxHeartbeats 2000000 in
theorem aspl_walk (v : Value) (ps : List (Nat × Nat)) (i k : Int) (w : World) (hv : IsPts w v ps) (hcap : ∀ ao len cap, v = .slice ao len cap → len ≤ cap) (hwf : Wf ps) (hn : ps.length * 16 ≤ 140737488351232) :
    Calls Tryd.prog 3 #[v, .int .i64 i, .int .i64 k] w fun e w' => e = .returned (.bool true) ∧ Below w.heap.size w w' := by
  obtain ⟨ao, cap, rfl, hv'⟩ := hv
  have hlc := hcap _ _ _ rfl
  obtain ⟨n, hl⟩ : ∃ n, n = ps.length := ⟨_, rfl⟩
  rw [← hl] at hlc ⊢
  by_cases hbig : (2147483647 : Int) < n
  · clear hv' hl hlc hcap
    go_enter Tryd.func3, Tryd.ntmps3
    go_wp2
    go_ret
    exact ⟨rfl, Below.refl _ _⟩
  · have hv : IsPts w (.slice ao n cap) ps := ⟨ao, cap, by rw [hl], hv'⟩
    have hcall1 := isRing_any hv hwf hn
    have HV := Lib.hid hv
    have HL := Lib.hid hl
    have HLC := Lib.hid hlc
    clear hv hl hlc hcap hwf
    go_enter Tryd.func3, Tryd.ntmps3
    go_wp2_with fail
    refine hcall1.mono ?_
    rintro e w1 ⟨c, rfl, hc, hb1⟩
    have HB1 := Lib.hid hb1
    clear hb1 hcall1
    cases c with
    | false =>
      clear hv'
      go_wp2_with fail
      refine (measures_any _).mono ?_
      rintro e w2 ⟨rfl, hb2⟩
      have HB2 := Lib.hid (HB1.out.trans (hb2.mono HB1.out.size))
      clear hb2
      go_wp2
      go_ret
      exact ⟨rfl, HB2.out⟩
    | true =>
      obtain ⟨X, Y, hr⟩ := hc.out rfl
      have hn4 : (4 : Int) ≤ n := by have := hr.four; have := HL.out; omega
      have hn100 : (n : Int) ≤ 100 := by have := hr.most; have := HL.out; omega
      have hnw : IntKind.i64.wrap ((n : Int) - 1) = (n : Int) - 1 := IntWalk.i64_in _ (by omega)
      have HR := Lib.hid hr
      clear hr hc
      by_cases c1 : i < 0
      · have d1 : decide (i < 0) = true := decide_eq_true c1
        clear c1
        clear hv'
        go_wp2_with fail
        refine (measures_any _).mono ?_
        rintro e w2 ⟨rfl, hb2⟩
        have HB2 := Lib.hid (HB1.out.trans (hb2.mono HB1.out.size))
        clear hb2
        go_wp2
        go_ret
        exact ⟨rfl, HB2.out⟩
      · have d1 : decide (i < 0) = false := decide_eq_false c1
        by_cases c2 : k ≤ i
        · have d2 : decide (k ≤ i) = true := decide_eq_true c2
          clear c1 c2
          clear hv'
          go_wp2_with fail
          refine (measures_any _).mono ?_
          rintro e w2 ⟨rfl, hb2⟩
          have HB2 := Lib.hid (HB1.out.trans (hb2.mono HB1.out.size))
          clear hb2
          go_wp2
          go_ret
          exact ⟨rfl, HB2.out⟩
        · have d2 : decide (k ≤ i) = false := decide_eq_false c2
          by_cases c3 : (n : Int) - 1 ≤ k
          · have d3 : decide ((n : Int) - 1 ≤ k) = true := decide_eq_true c3
            clear c1 c2 c3
            clear hv'
            go_wp2_with fail
            refine (measures_any _).mono ?_
            rintro e w2 ⟨rfl, hb2⟩
            have HB2 := Lib.hid (HB1.out.trans (hb2.mono HB1.out.size))
            clear hb2
            go_wp2
            go_ret
            exact ⟨rfl, HB2.out⟩
          · have d3 : decide ((n : Int) - 1 ≤ k) = false := decide_eq_false c3
            obtain ⟨a, rfl⟩ : ∃ a : Nat, i = a := ⟨i.toNat, by omega⟩
            obtain ⟨z, rfl⟩ : ∃ z : Nat, k = z := ⟨k.toNat, by omega⟩
            have hqs : ∃ b off, ao = some ⟨b, off, none⟩ ∧ PtsAt w b off ps := by
              rcases hv' with h | h
              · have h9 := HR.out.four; rw [h] at h9; simp at h9
              · exact h
            obtain ⟨b, off, rfl, hps⟩ := hqs
            have hps1 : PtsAt w1 b off ps := pts_below hps HB1.out
            have haz : a < z := by omega
            have hzn : z + 1 < n := by omega
            have d4 : decide (z ≤ a) = false := decide_eq_false (by omega)
            have d5 : ¬ (z ≤ a) := by omega
            have hcall2 := split_any n cap b off a z ps w1 HL.out.symm (by omega) HLC.out hps1 haz hzn
            rw [HL.out] at hzn
            obtain ⟨X1, Y1, X2, Y2, q1, q2, q3⟩ := split_area HR.out haz hzn
            have HQ := Lib.hid (And.intro q1 (And.intro q2 q3))
            have HAZ := Lib.hid (And.intro haz hzn)
            clear hv' hps hps1 haz hzn c1 c2 c3 q1 q2 q3
            go_wp2_with fail
            refine hcall2.mono ?_
            rintro e w2 ⟨v5, v6, rfl, ho5, ho6, hb2⟩
            have HV5 := Lib.hid (pts_of_owns ho5).2
            have HV6 := Lib.hid (pts_of_owns ho6).2
            have HB2 := Lib.hid (HB1.out.trans (hb2.mono HB1.out.size))
            clear hcall2 ho5 ho6 hb2
            go_wp2_with fail
            refine (measures_any _).mono ?_
            rintro e w3 ⟨rfl, hb3⟩
            have HB3 := Lib.hid (HB2.out.trans (hb3.mono HB2.out.size))
            have hv5 := HV5.out.below hb3
            have hv6 := HV6.out.below hb3
            have hcall3 := ringArea_any n X Y (HV.out.below HB3.out) HL.out.symm (by omega) (by omega) HR.out.datM
            have l1 := one_len HAZ.out.1 HAZ.out.2
            have l2 := two_len HAZ.out.1 HAZ.out.2
            have b1 : 2 ≤ (oneL ps a z).length ∧ (oneL ps a z).length ≤ 200 := by have := HAZ.out; have := HR.out.most; rw [l1]; omega
            have b2 : 2 ≤ (twoL ps a z).length ∧ (twoL ps a z).length ≤ 200 := by have := HAZ.out; have := HR.out.most; rw [l2]; omega
            have hn2 : 2 ≤ n ∧ n ≤ 200 := by omega
            clear l1 l2
            clear hb3
            go_wp2_with fail
            refine hcall3.mono ?_
            rintro e w4 ⟨r1, rfl, f1, g1, hb4⟩
            have hcall4 := ringArea_any (oneL ps a z).length X1 Y1 (hv5.below hb4) rfl (by omega) b1.2 HQ.out.1
            clear hcall3
            go_wp2_with fail
            refine hcall4.mono ?_
            rintro e w5 ⟨r2, rfl, f2, g2, hb5⟩
            have hcall5 := ringArea_any (twoL ps a z).length X2 Y2 ((hv6.below hb4).below hb5) rfl (by omega) b2.2 HQ.out.2.1
            clear hcall4
            go_wp2_with fail
            refine hcall5.mono ?_
            rintro e w6 ⟨r3, rfl, f3, g3, hb6⟩
            have hsum := area_sum f1 f2 f3 g1 g2 g3 (by rw [HL.out]; exact HQ.out.2.2) (TN_small rfl b1.1 b1.2 HQ.out.1) (TN_small rfl b2.1 b2.2 HQ.out.2.1)
            have radd := run_fadd (P := Tryd.prog) f2 f3 27
            obtain ⟨hs1, hs2⟩ := hsum
            have HB6 := Lib.hid (((HB3.out.trans (hb4.mono HB3.out.size)).trans (hb5.mono (Nat.le_trans HB3.out.size hb4.size))).trans (hb6.mono (Nat.le_trans (Nat.le_trans HB3.out.size hb4.size) hb5.size)))
            clear hcall5 hb4 hb5 hb6 hv5 hv6 f1 f2 f3 g1 g2 g3
            go_wp2
            go_ret
            exact ⟨rfl, HB6.out⟩
end Go.Proofs.YtpbhpplmokdkhaaDoor
