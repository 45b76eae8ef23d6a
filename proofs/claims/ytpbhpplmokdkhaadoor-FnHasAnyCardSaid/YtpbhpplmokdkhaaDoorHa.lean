/- The walks of spec.Has and laws.FnHasAny. -/
import Derived.Test.YtpbhpplmokdkhaaDoorHa4
import Derived.Test.YtpbhpplmokdkhaaDoorAs1
import Derived.Deep.RegionHeld3
set_option linter.unusedVariables false
namespace Go.Proofs.YtpbhpplmokdkhaaDoor
open Go.RowKit Go.Deep Fl

theorem keep2 {w w2 : World} {a b : Addr} {va vb : Value} (hb : Below w.heap.size w w2) (h : w.cell? a = some va ∧ w.cell? b = some vb) : w2.cell? a = some va ∧ w2.cell? b = some vb := ⟨cell_later hb h.1, cell_later hb h.2⟩

set_option maxRecDepth 100000 in
theorem has_any (n cap b off : Nat) (ps : List (Nat × Nat)) (X Y : Nat → Int) (p : Nat × Nat) (px py : Int) (w : World) (hn : ps.length = n) (h2 : 2 ≤ n) (h100 : n ≤ 100) (hps : PtsAt w b off ps) (hd : Dat ps X Y)
    (hp : IsP p px py) (sp : Small px ∧ Small py) :
    Calls Tryd.prog 17 #[.slice (some ⟨b, off, none⟩) n cap, .agg #[.float .f64 p.1, .float .f64 p.2]] w
      fun e w' => e = .returned (.bool (rcOn px py X Y (n - 1) || inB px py X Y (n - 1))) ∧ Below w.heap.size w w' := by
  have K1 := Lib.hid (fun W (h : Below w.heap.size w W) => border_any n cap b off ps X Y p px py W hn h2 h100 (pts_below hps h) hd hp sp)
  have K2 := Lib.hid (fun W (h : Below w.heap.size w W) => inside_any n cap b off ps X Y p px py W hn h2 h100 (pts_below hps h) hd hp sp)
  obtain ⟨z1, hz1⟩ : ∃ z, z = rcOn px py X Y (n - 1) := ⟨_, rfl⟩
  obtain ⟨z2, hz2⟩ : ∃ z, z = inB px py X Y (n - 1) := ⟨_, rfl⟩
  rw [← hz1] at K1 ⊢
  rw [← hz2] at K2 ⊢
  obtain ⟨a0, a1⟩ := two_new w (.float .f64 p.1) (.float .f64 p.2) 31
  have HA := Lib.hid (And.intro a0 a1)
  have L0 := (Below.refl w.heap.size w).alloc (Nat.le_refl _) (.cells #[.float .f64 p.1, .float .f64 p.2] 31)
  have HL0 := Lib.hid L0
  clear hps hd hp sp hn hz1 hz2 L0
  go_enter Tryd.func17, Tryd.ntmps17
  go_wp2_with fail
  clear a0 a1
  refine (K1.out _ HL0.out).mono ?_
  rintro e w1 ⟨rfl, hb1⟩
  have HL1 := Lib.hid (HL0.out.trans (hb1.mono HL0.out.size))
  obtain ⟨a0, a1⟩ := keep2 hb1 HA.out
  clear hb1 K1 HA HL0
  cases z1 with
  | true =>
    go_wp2
    go_ret
    exact ⟨rfl, HL1.out⟩
  | false =>
    go_wp2_with fail
    clear a0 a1
    refine (K2.out _ HL1.out).mono ?_
    rintro e w2 ⟨rfl, hb2⟩
    have HL2 := Lib.hid (HL1.out.trans (hb2.mono HL1.out.size))
    clear hb2 K2 HL1
    go_wp2
    go_ret
    exact ⟨rfl, HL2.out⟩

set_option maxRecDepth 100000 in
set_option maxHeartbeats 2000000 in
theorem ha_walk (v : Value) (ps : List (Nat × Nat)) (p : Nat × Nat) (w : World) (hv : IsPts w v ps) (hwf : Wf ps) (hn : ps.length * 16 ≤ 140737488351232)
    (hp : p.1 < 18446744073709551616 ∧ p.2 < 18446744073709551616) :
    Calls Tryd.prog 4 #[v, .agg #[.float .f64 p.1, .float .f64 p.2]] w fun e w' => e = .returned (.bool true) ∧ Below w.heap.size w w' := by
  obtain ⟨ao, cap, rfl, hv'⟩ := hv
  obtain ⟨n, hl⟩ : ∃ n, n = ps.length := ⟨_, rfl⟩
  rw [← hl]
  by_cases hbig : (2147483647 : Int) < n
  · clear hv' hl
    go_enter Tryd.func4, Tryd.ntmps4
    go_wp2
    go_ret
    exact ⟨rfl, (Below.refl _ _).alloc (Nat.le_refl _) _⟩
  · have hv : IsPts w (.slice ao n cap) ps := ⟨ao, cap, by rw [hl], hv'⟩
    have hcall1 := Lib.hid (fun W (h : Below w.heap.size w W) => isRing_any (hv.below h) hwf hn)
    have HV := Lib.hid hv
    have HL := Lib.hid hl
    have c2 := fun W => isPoint_any p.1 p.2 hp.1 hp.2 W
    have HP64 := Lib.hid hp
    clear hv hl hwf hp
    obtain ⟨W0, hW0⟩ : ∃ W0, W0 = w.alloc (.cells #[.float .f64 p.1, .float .f64 p.2] 31) := ⟨_, rfl⟩
    have B0 : Below w.heap.size w W0 := by rw [hW0]; exact (Below.refl _ _).alloc (Nat.le_refl _) _
    have C0 := two_new w (.float .f64 p.1) (.float .f64 p.2) 31
    rw [← hW0] at C0
    have HC0 := Lib.hid C0
    have HB0 := Lib.hid B0
    clear C0 B0
    go_enter Tryd.func4, Tryd.ntmps4
    go_wp2_with fail
    rw [← hW0]
    clear hW0
    refine (hcall1.out _ HB0.out).mono ?_
    rintro e w1 ⟨c, rfl, hc, hb1⟩
    have HB1 := Lib.hid (HB0.out.trans (hb1.mono HB0.out.size))
    have HC1 := Lib.hid (keep2 hb1 HC0.out)
    clear hb1 hcall1 HC0 HB0
    cases c with
    | false =>
      clear hv' c2
      go_wp2_with fail
      refine (measures_any _).mono ?_
      rintro e w2 ⟨rfl, hb2⟩
      have HB2 := Lib.hid (HB1.out.trans (hb2.mono HB1.out.size))
      clear hb2
      go_wp2
      go_ret
      exact ⟨rfl, HB2.out⟩
    | true =>
      obtain ⟨X, Y, hr⟩ := hc.out rfl
      have hn4 : (4 : Int) ≤ n := by have := hr.four; have := HL.out; omega
      have hn100 : (n : Int) ≤ 100 := by have := hr.most; have := HL.out; omega
      have HR := Lib.hid hr
      clear hr hc
      obtain ⟨bp, hbp⟩ : ∃ b, b = ptB (p.1, p.2) := ⟨_, rfl⟩
      rw [← hbp] at c2
      have HBP := Lib.hid hbp
      clear hbp
      obtain ⟨k0, k1⟩ := HC1.out
      go_wp2_with fail
      clear k0 k1
      refine (c2 _).mono ?_
      rintro e w2 ⟨rfl, hb2⟩
      have HB2 := Lib.hid (HB1.out.trans (hb2.mono HB1.out.size))
      have HC2 := Lib.hid (keep2 hb2 HC1.out)
      clear hb2 c2 HC1 HB1
      cases bp with
      | false =>
        clear hv'
        go_wp2_with fail
        refine (measures_any _).mono ?_
        rintro e w3 ⟨rfl, hb3⟩
        have HB3 := Lib.hid (HB2.out.trans (hb3.mono HB2.out.size))
        clear hb3
        go_wp2
        go_ret
        exact ⟨rfl, HB3.out⟩
      | true =>
        have hqs : ∃ b off, ao = some ⟨b, off, none⟩ ∧ PtsAt w b off ps := by
          rcases hv' with h | h
          · have h9 := HR.out.four; rw [h] at h9; simp at h9
          · exact h
        obtain ⟨b, off, rfl, hps⟩ := hqs
        obtain ⟨x, y, hip, sx, sy⟩ := pt_isP' HBP.out.symm
        have hmid : Rg.Mid x ∧ Rg.Mid y := by unfold Small at sx sy; unfold Rg.Mid; omega
        have hcl := HR.out.closed
        rw [← HL.out] at hcl
        have h2n : 2 ≤ n := by omega
        have hh := has_eq (px := x) (py := y) h2n hcl
        have K1 := Lib.hid (fun W (h : Below w.heap.size w W) => ringHas_any n X Y p x y (HV.out.below h) HL.out.symm (by omega) (by omega) HR.out.datM hcl hip hmid HP64.out.1)
        have K2 := Lib.hid (fun W (h : Below w.heap.size w W) => has_any n cap b off ps X Y p x y W HL.out.symm h2n (by omega) (pts_below hps h) HR.out.dat hip ⟨sx, sy⟩)
        rw [← hh] at K2
        obtain ⟨r, hr⟩ : ∃ r, r = ringB x y X Y n := ⟨_, rfl⟩
        rw [← hr] at K1 K2
        have H2 := HC2.out
        clear hv' hps hip sx sy hmid hcl h2n hh hr
        go_wp2_with fail
        go_region_held3 (fun w' => w'.cell? ⟨w.heap.size, 0, none⟩ = some (.float .f64 p.1) ∧ w'.cell? ⟨w.heap.size, 1, none⟩ = some (.float .f64 p.2))
          (first | exact H2 | exact keep2 hb6 H2 | exact keep2 hb7 (keep2 hb6 H2) | exact keep2 hb8 (keep2 hb7 (keep2 hb6 H2)) | go_keep)
          ((first
          | (go_simp; go_at_call 17; refine (K2.out _ ((HB2.out.drew.trans (hb6.mono HB2.out.size)).trans (hb7.mono (HB2.out.drew.trans (hb6.mono HB2.out.size)).size))).mono ?_; rintro e w8 ⟨rfl, hb8⟩)
          | (go_simp; go_at_call 16; refine (K1.out _ (HB2.out.drew.trans (hb6.mono HB2.out.size))).mono ?_; rintro e w7 ⟨rfl, hb7⟩)
          | (go_simp; go_at_call 12; refine (measures_any _).mono ?_; rintro e w6 ⟨rfl, hb6⟩)))
        have L7 := HB2.out.drew.trans (hb6.mono HB2.out.size)
        have L8 := L7.trans (hb7.mono L7.size)
        have HLL := Lib.hid (L8.trans (hb8.mono L8.size))
        clear L7 L8 hb6 hb7 hb8 H2
        go_wp2
        go_ret
        exact ⟨rfl, HLL.out⟩
end Go.Proofs.YtpbhpplmokdkhaaDoor
