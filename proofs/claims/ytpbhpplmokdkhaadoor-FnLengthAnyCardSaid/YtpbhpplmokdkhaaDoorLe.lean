/- The walk of laws.FnLengthAny. -/
import Derived.Test.YtpbhpplmokdkhaaDoorLe5
import Derived.Test.YtpbhpplmokdkhaaDoorMs
set_option linter.unusedVariables false
namespace Go.Proofs.YtpbhpplmokdkhaaDoor
open Go.RowKit Go.WideShapes Fl

theorem datW_of {ps : List (Nat × Nat)} {most : Int} (hwf : Wf ps) (h : areB ps most = true) : ((ps.length : Int) ≤ most) ∧ ∃ X Y, DatW ps X Y := by
  unfold areB at h
  rw [Bool.and_eq_true, List.all_eq_true] at h
  obtain ⟨X, Y, hd⟩ := dat_of h.1
  exact ⟨of_decide_eq_true h.2, X, Y, hd, hwf, h.1⟩
theorem ln_all {ps : List (Nat × Nat)} {X Y : Nat → Int} (h : DatW ps X Y) (h100 : ps.length ≤ 100) : IsFin (Le.ln (Le.At ps) (ps.length - 1)) ∧ -100 ≤ val (Le.ln (Le.At ps) (ps.length - 1)) ∧ val (Le.ln (Le.At ps) (ps.length - 1)) ≤ 300200 := by
  obtain ⟨f, g1, g2⟩ := Le.ln_bd h.dat (ps.length - 1) (by omega) (by omega)
  have hkb : ((ps.length - 1 : Nat) : Rat) ≤ 100 := by
    have : (((ps.length - 1 : Nat) : Int) : Rat) ≤ ((100 : Int) : Rat) := Rat.intCast_le_intCast.2 (by omega)
    exact this
  exact ⟨f, by grind, by grind⟩
theorem n32 : p2 (-32) = 1 / 4294967296 := by have := p2_val 32; have e : ((2 ^ 32 : Nat) : Rat) = 4294967296 := rfl; have e' : p2 (-((32 : Nat) : Int)) = p2 (-32) := rfl; rw [e, e'] at this; grind
/-- The sums of two lengths, from 0 on and without. -/
theorem two_sums {a b : Nat} (fa : IsFin a) (fb : IsFin b) (a1 : -100 ≤ val a) (a2 : val a ≤ 300200) (b1 : -100 ≤ val b) (b2 : val b ≤ 300200) :
    IsFin (fadd 0 a) ∧ IsFin (fadd (fadd 0 a) b) ∧ IsFin (fadd a b) ∧ Nr (val (fadd (fadd 0 a) b)) (val (fadd a b)) (1 / 2147483648) ∧ -2097152 ≤ val (fadd a b) ∧ val (fadd a b) ≤ 2097152 := by
  have e20 : p2 20 = 1048576 := p2_nat 20
  have h1023 := p2_lt (a := 20) (b := 1023) (by omega)
  have v0 : val 0 = 0 := isI_lit0.2
  have r0 := fadd_rnd isI_lit0.1 fa (by rw [v0]; grind) (by rw [v0]; grind)
  rw [v0, Rat.zero_add] at r0
  have e0 := Le.rnd_self fa r0
  have f0 := r0.1
  obtain ⟨s1, s2⟩ := nr_add f0 fb (k := 20) (by omega) (by omega) (by rw [e20, e0]; grind) (by rw [e20, e0]; grind)
  obtain ⟨t1, t2⟩ := nr_add fa fb (k := 20) (by omega) (by omega) (by rw [e20]; grind) (by rw [e20]; grind)
  rw [show (20 : Int) - 52 = -32 from rfl, n32] at s2 t2
  rw [e0] at s2
  have s3 := s2.1
  have s4 := s2.2
  have t3 := t2.1
  have t4 := t2.2
  exact ⟨f0, s1, t1, ⟨by grind, by grind⟩, by grind, by grind⟩
theorem lens_two {ps qs : List (Nat × Nat)} : lens [ps, qs] 2 = fadd (fadd 0 (Le.ln (Le.At ps) (ps.length - 1))) (Le.ln (Le.At qs) (qs.length - 1)) := rfl
theorem lens_ok {ps qs : List (Nat × Nat)} {X Y X' Y' : Nat → Int} (h : DatW ps X Y) (h' : DatW qs X' Y') (l : ps.length ≤ 100) (l' : qs.length ≤ 100) : LensOk [ps, qs] := by
  obtain ⟨fa, a1, a2⟩ := ln_all h l
  obtain ⟨fb, b1, b2⟩ := ln_all h' l'
  obtain ⟨s1, s2, s3, _⟩ := two_sums fa fb a1 a2 b1 b2
  refine ⟨fun k r hr => ?_, fun k hk => ?_⟩
  · match k, hr with
    | 0, hr => simp at hr; subst hr; exact ⟨l, X, Y, h⟩
    | 1, hr => simp at hr; subst hr; exact ⟨l', X', Y', h'⟩
  · match k, hk with
    | 0, _ => exact isI_lit0.1
    | 1, _ => exact s1
    | 2, _ => exact s2
theorem lists_two {W : World} {g : Nat} {a b : Value} {ps qs : List (Nat × Nat)} (h0 : W.cell? ⟨g, 0, none⟩ = some a) (h1 : W.cell? ⟨g, 1, none⟩ = some b) (p1 : IsPts W a ps) (p2 : IsPts W b qs) (l : ps.length ≤ 100) (l' : qs.length ≤ 100) : Lists W g [a, b] [ps, qs] := by
  refine ⟨rfl, fun i v hv => ?_, fun i v r hv hr => ?_⟩
  · match i, hv with
    | 0, hv => simp at hv; subst hv; exact h0
    | 1, hv => simp at hv; subst hv; exact h1
  · match i, hv, hr with
    | 0, hv, hr => simp at hv hr; subst hv hr; exact ⟨p1, by omega⟩
    | 1, hv, hr => simp at hv hr; subst hv hr; exact ⟨p2, by omega⟩

theorem ln_lt (P : Nat → Nat × Nat) : ∀ k, Le.ln P k < 18446744073709551616
  | 0 => by show 0 < _; decide
  | k + 1 => fadd_lt _ _
theorem Nr_refl (a : Rat) : Nr a a (1 / 2147483648) := ⟨by grind, by grind⟩
theorem one_new (w : World) (u : Value) (T : TypeId) : (w.alloc (.cells #[u] T)).cell? ⟨w.heap.size, 0, none⟩ = some u := by simp
set_option maxRecDepth 100000 in
set_option maxHeartbeats 4000000 in
theorem le_walk (v0 v1 : Value) (ps qs : List (Nat × Nat)) (w : World) (hv0 : IsPts w v0 ps) (hv1 : IsPts w v1 qs) (hwf : Wf ps) (hwf' : Wf qs) (hn : ps.length * 16 ≤ 140737488351232) (hn' : qs.length * 16 ≤ 140737488351232) :
    Calls Tryd.prog 9 #[v0, v1] w fun e w' => e = .returned (.bool true) ∧ Below w.heap.size w w' := by
  have HV0 := Lib.hid hv0
  have HV1 := Lib.hid hv1
  obtain ⟨ao, cap, rfl, hv'⟩ := hv0
  obtain ⟨bo, cap', rfl, hv''⟩ := hv1
  clear hv' hv''
  have K1 := Lib.hid (fun W (h : Below w.heap.size w W) => are_any (HV0.out.below h) hwf hn 100)
  have K2 := Lib.hid (fun W (h : Below w.heap.size w W) => are_any (HV1.out.below h) hwf' hn' 100)
  have HWF := Lib.hid (And.intro hwf hwf')
  obtain ⟨n, hl⟩ : ∃ n, n = ps.length := ⟨_, rfl⟩
  obtain ⟨m, hl'⟩ : ∃ n, n = qs.length := ⟨_, rfl⟩
  have HV0 : Hid (IsPts w (.slice ao n cap) ps) := by rw [hl]; exact HV0
  have HV1 : Hid (IsPts w (.slice bo m cap') qs) := by rw [hl']; exact HV1
  have K1 : Hid (∀ W, Below w.heap.size w W → Calls Tryd.prog 30 #[.slice ao n cap, .int .i64 100] W fun e w' => e = .returned (.bool (areB ps 100)) ∧ Below W.heap.size W w') := by rw [hl]; exact K1
  have K2 : Hid (∀ W, Below w.heap.size w W → Calls Tryd.prog 30 #[.slice bo m cap', .int .i64 100] W fun e w' => e = .returned (.bool (areB qs 100)) ∧ Below W.heap.size W w') := by rw [hl']; exact K2
  rw [← hl, ← hl']
  have HL := Lib.hid (And.intro hl hl')
  clear hwf hwf' hn hn' hl hl'
  by_cases b1 : (2147483647 : Int) < n
  · clear K1 K2 HV0 HV1
    go_enter Tryd.func9, Tryd.ntmps9
    go_wp2
    go_ret
    exact ⟨rfl, Below.refl _ _⟩
  by_cases b2 : (2147483647 : Int) < m
  · clear K1 K2 HV0 HV1
    go_enter Tryd.func9, Tryd.ntmps9
    go_wp2
    go_ret
    exact ⟨rfl, Below.refl _ _⟩
  obtain ⟨z1, hz1⟩ : ∃ z, z = areB ps 100 := ⟨_, rfl⟩
  obtain ⟨z2, hz2⟩ : ∃ z, z = areB qs 100 := ⟨_, rfl⟩
  rw [← hz1] at K1
  rw [← hz2] at K2
  have HZ1 := Lib.hid hz1
  have HZ2 := Lib.hid hz2
  clear hz1 hz2
  go_enter Tryd.func9, Tryd.ntmps9
  go_wp2_with fail
  refine (K1.out _ (Below.refl _ _)).mono ?_
  rintro e w1 ⟨rfl, hb1⟩
  have HB1 := Lib.hid hb1
  clear hb1 K1
  cases z1 with
  | false =>
    go_wp2_with fail
    refine (measures_any _).mono ?_
    rintro e wx ⟨rfl, hbx⟩
    have HBx := Lib.hid (HB1.out.trans (hbx.mono HB1.out.size))
    clear hbx
    go_wp2
    go_ret
    exact ⟨rfl, HBx.out⟩
  | true =>
    go_wp2_with fail
    refine (K2.out _ HB1.out).mono ?_
    rintro e w2 ⟨rfl, hb2⟩
    have HB2 := Lib.hid (HB1.out.trans (hb2.mono HB1.out.size))
    clear hb2 K2 HB1
    cases z2 with
    | false =>
      go_wp2_with fail
      refine (measures_any _).mono ?_
      rintro e wx ⟨rfl, hbx⟩
      have HBx := Lib.hid (HB2.out.trans (hbx.mono HB2.out.size))
      clear hbx
      go_wp2
      go_ret
      exact ⟨rfl, HBx.out⟩
    | true =>
      obtain ⟨l1, X, Y, d1⟩ := datW_of HWF.out.1 HZ1.out.symm
      obtain ⟨l2, X', Y', d2⟩ := datW_of HWF.out.2 HZ2.out.symm
      have l1 : ps.length ≤ 100 := by omega
      have l2 : qs.length ≤ 100 := by omega
      obtain ⟨fa, a1, a2⟩ := ln_all d1 l1
      obtain ⟨fb, b1', b2'⟩ := ln_all d2 l2
      obtain ⟨s1, s2, s3, s4, s5, s6⟩ := two_sums fa fb a1 a2 b1' b2'
      have hok := lens_ok d1 d2 l1 l2
      have G1 := Lib.hid (fun W (h : Below w.heap.size w W) => long_any (HV0.out.below h) l1 d1)
      have G2 := Lib.hid (fun W (h : Below w.heap.size w W) => long_any (HV1.out.below h) l2 d2)
      have F1 := Lib.hid (fun g c W (h : Below w.heap.size w W) (hc : W.cell? ⟨g, 0, none⟩ = some (.slice ao n cap)) => len_line g 1 c _ ps X Y W (Nat.le_refl _) hc (HV0.out.below h) l1 d1)
      have F2 := Lib.hid (fun g c W (h : Below w.heap.size w W) (h0 : W.cell? ⟨g, 0, none⟩ = some (.slice ao n cap)) (h1 : W.cell? ⟨g, 1, none⟩ = some (.slice bo m cap')) => len_lines g 2 c _ [ps, qs] W rfl (by omega) (by omega) (lists_two h0 h1 (HV0.out.below h) (HV1.out.below h) l1 l2) hok)
      have F3 := Lib.hid (fun g c W (h : Below w.heap.size w W) (h0 : W.cell? ⟨g, 0, none⟩ = some (.slice ao n cap)) (h1 : W.cell? ⟨g, 1, none⟩ = some (.slice bo m cap')) => len_poly g 2 c _ [ps, qs] W rfl (by omega) (by omega) (lists_two h0 h1 (HV0.out.below h) (HV1.out.below h) l1 l2) hok)
      rw [lens_two] at F2 F3
      have ra := run_fadd (P := Tryd.prog) fa fb 27
      have N1 := fun W => near_any _ _ fa fa (ln_lt _ _) (Nr_refl _) (by grind) (by grind) W
      have N2 := fun W => near_any _ _ s2 s3 (fadd_lt _ _) s4 s5 s6 W
      obtain ⟨A, hA⟩ : ∃ A, A = Le.ln (Le.At ps) (ps.length - 1) := ⟨_, rfl⟩
      obtain ⟨B, hB⟩ : ∃ A, A = Le.ln (Le.At qs) (qs.length - 1) := ⟨_, rfl⟩
      rw [← hA] at G1 F1 F2 F3 ra N1 N2
      rw [← hB] at G2 F2 F3 ra N2
      obtain ⟨C, hC⟩ : ∃ c, c = fadd (fadd 0 A) B := ⟨_, rfl⟩
      obtain ⟨D, hD⟩ : ∃ c, c = fadd A B := ⟨_, rfl⟩
      rw [← hC] at F2 F3 N2
      rw [← hD] at ra N2
      have HN1 := Lib.hid N1
      have HN2 := Lib.hid N2
      clear l1 l2 d1 d2 fa a1 a2 fb b1' b2' s1 s2 s3 s4 s5 s6 hok N1 N2 hA hB hC hD HWF HZ1 HZ2

      go_wp2_with fail
      refine (G1.out _ HB2.out).mono ?_
      rintro e w3 ⟨rfl, hb3⟩
      have HB3 := Lib.hid (HB2.out.trans (hb3.mono HB2.out.size))
      clear hb3 HB2 G1
      go_wp2_with fail
      refine (G2.out _ HB3.out).mono ?_
      rintro e w4 ⟨rfl, hb4⟩
      have HB4 := Lib.hid (HB3.out.trans (hb4.mono HB3.out.size))
      clear hb4 HB3 G2
      have LA := HB4.out.alloc HB4.out.size (.cells #[.slice ao n cap] 22)
      have CA := one_new w4 (.slice ao n cap) 22
      have HLA := Lib.hid LA
      go_wp2_with fail
      refine (F1.out _ _ _ LA CA).mono ?_
      rintro e w5 ⟨rfl, hb5⟩
      have HB5 := Lib.hid (HLA.out.trans (hb5.mono HLA.out.size))
      clear hb5 HB4 HLA LA CA F1
      have LA := HB5.out.alloc HB5.out.size (.cells #[.slice ao n cap, .slice bo m cap'] 22)
      have CA := two_new w5 (.slice ao n cap) (.slice bo m cap') 22
      have HLA := Lib.hid LA
      obtain ⟨ca, cb⟩ := CA
      go_wp2_with fail
      refine (F2.out _ _ _ LA ca cb).mono ?_
      rintro e w6 ⟨rfl, hb6⟩
      have HB6 := Lib.hid (HLA.out.trans (hb6.mono HLA.out.size))
      clear hb6 HB5 HLA LA ca cb F2
      have LA := HB6.out.alloc HB6.out.size (.cells #[.slice ao n cap, .slice bo m cap'] 22)
      have CA := two_new w6 (.slice ao n cap) (.slice bo m cap') 22
      have HLA := Lib.hid LA
      obtain ⟨ca, cb⟩ := CA
      go_wp2_with fail
      refine (F3.out _ _ _ LA ca cb).mono ?_
      rintro e w7 ⟨rfl, hb7⟩
      have HB7 := Lib.hid (HLA.out.trans (hb7.mono HLA.out.size))
      clear hb7 HB6 HLA LA ca cb F3
      go_wp2_with fail
      refine (measures_any _).mono ?_
      rintro e w8 ⟨rfl, hb8⟩
      have HB8 := Lib.hid (HB7.out.trans (hb8.mono HB7.out.size))
      clear hb8 HB7 
      go_wp2_with fail
      refine (HN1.out _).mono ?_
      rintro e w9 ⟨rfl, rfl⟩
      go_wp2_with fail
      refine (HN2.out _).mono ?_
      rintro e w9 ⟨rfl, rfl⟩
      go_wp2_with fail
      refine (HN2.out _).mono ?_
      rintro e w9 ⟨rfl, rfl⟩
      go_wp2
      go_ret
      exact ⟨rfl, HB8.out⟩
end Go.Proofs.YtpbhpplmokdkhaaDoor
