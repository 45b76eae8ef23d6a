/- The walks of spec.Doubled, spec.sign, spec.Turn, orb.Ring.Orientation and impl.Orientation. -/
import Derived.Test.YtpbhpplmokdkhaaDoorSpQ
import Derived.Test.YtpbhpplmokdkhaaDoorIr
import Derived.Test.YtpbhpplmokdkhaaDoorRg1
import Derived.Deep.QuietTactic
set_option linter.unusedVariables false
namespace Go.Proofs.YtpbhpplmokdkhaaDoor
open Go.RowKit Fl

/-- The sign of a whole number. -/
def sgn (a : Int) : Int := if 0 < a then 1 else if a < 0 then -1 else 0
theorem SH_le {X Y : Nat → Int} {n : Nat} (h : ∀ i, i < n → Small (X i) ∧ Small (Y i)) : ∀ k, k + 1 ≤ n ∨ k = 0 → (Rg.SH X Y k).natAbs ≤ k * 2000000 := by
  intro k
  induction k with
  | zero => intro _; simp [Rg.SH]
  | succ k ih =>
    intro hk
    have h1 := h k (by omega)
    have h2 := h (k + 1) (by omega)
    unfold Small at h1 h2
    have m1 := mul_small (a := X k) (b := Y (k + 1)) (A := 1000) (B := 1000) (by omega) (by omega) (by omega) (by omega)
    have m2 := mul_small (a := X (k + 1)) (b := Y k) (A := 1000) (B := 1000) (by omega) (by omega) (by omega) (by omega)
    have := ih (by omega)
    rw [Rg.SH_succ]
    omega
theorem SH_small {ps : List (Nat × Nat)} {X Y : Nat → Int} (hd : Dat ps X Y) {n : Nat} (hn : ps.length = n) : ∀ i, i < n → Small (X i) ∧ Small (Y i) := by
  intro i hi
  exact (hd i _ (List.getElem?_eq_getElem (show i < ps.length by omega))).2

set_option maxRecDepth 100000 in
set_option maxHeartbeats 2000000 in
theorem doubled_any (n cap b off : Nat) (ps : List (Nat × Nat)) (X Y : Nat → Int) (w : World) (hn : ps.length = n) (h1 : 1 ≤ n) (h100 : n ≤ 100) (hps : PtsAt w b off ps) (hd : Dat ps X Y) :
    Calls Tryd.prog 53 #[.slice (some ⟨b, off, none⟩) n cap] w
      fun e w' => (∃ d, e = .returned (.float .f64 d) ∧ IsI d (Rg.SH X Y (n - 1))) ∧ Below w.heap.size w w' := by
  have HPS := Lib.hid hps
  have HD := Lib.hid hd
  have HN := Lib.hid hn
  have HS := Lib.hid (SH_small hd hn)
  have hnn : (n : Int) ≤ 100 := by omega
  have h1n : (1 : Int) ≤ n := by omega
  clear hps hd hn
  go_enter Tryd.func53, Tryd.ntmps53
  go_wp2
  go_loopw [3, 4] (fun av iv wr => ∃ (k A : Nat), k + 1 ≤ n ∧ iv = .int .i64 ((k : Int) + 1) ∧ av = .float .f64 A ∧ Hid (IsI A (Rg.SH X Y k)) ∧ Below w.heap.size w wr) (fun _ iv _ => n - (intOf iv).toNat)
  case atStart => exact ⟨0, 0, by omega, rfl, rfl, Lib.hid isI_lit0, Below.refl _ _⟩
  case round =>
    obtain ⟨k, A, hk, rfl, rfl, HA, hb⟩ := hrel
    by_cases hlt : k + 1 < n
    · have hil : k < ps.length := by have := HN.out; omega
      have hjl : k + 1 < ps.length := by have := HN.out; omega
      have hpi : ps[k]? = some ps[k] := List.getElem?_eq_getElem hil
      have hpj : ps[k + 1]? = some ps[k + 1] := List.getElem?_eq_getElem hjl
      obtain ⟨ii, mi⟩ := HD.out k _ hpi
      obtain ⟨ij, mj⟩ := HD.out (k + 1) _ hpj
      obtain ⟨c0, c1⟩ := HPS.out k _ hpi
      obtain ⟨d0, d1⟩ := HPS.out (k + 1) _ hpj
      obtain ⟨⟨x, y⟩, hpe⟩ : ∃ p, p = ps[k] := ⟨_, rfl⟩
      obtain ⟨⟨x1, y1⟩, hpe1⟩ : ∃ p, p = ps[k + 1] := ⟨_, rfl⟩
      rw [← hpe] at ii c0 c1
      rw [← hpe1] at ij d0 d1
      have c0' := cell_later hb c0
      have c1' := cell_later hb c1
      have d0' := cell_later hb d0
      have d1' := cell_later hb d1
      clear c0 c1 d0 d1 hpi hpj hpe hpe1 hil hjl
      have hmi := mi
      have hmj := mj
      unfold Small at hmi hmj
      have m1 := mul_small (a := X k) (b := Y (k + 1)) (A := 1000) (B := 1000) (by omega) (by omega) (by omega) (by omega)
      have m2 := mul_small (a := X (k + 1)) (b := Y k) (A := 1000) (B := 1000) (by omega) (by omega) (by omega) (by omega)
      have s1 := isI_mul ii.1 ij.2 (by omega)
      have s2 := isI_mul ij.1 ii.2 (by omega)
      have s3 := isI_sub s1 s2 (by omega)
      have hle := SH_le HS.out k (by omega)
      have s4 := isI_add HA.out s3 (by omega)
      rw [← Rg.SH_succ] at s4
      have r1 := run_fmul (P := Tryd.prog) ii.1.1 ij.2.1 27
      have r2 := run_fmul (P := Tryd.prog) ij.1.1 ii.2.1 27
      have r3 := run_fsub (P := Tryd.prog) s1.1 s2.1 27
      have r4 := run_fadd (P := Tryd.prog) HA.out.1 s3.1 27
      have HS4 := Lib.hid s4
      clear s1 s2 s3 s4 m1 m2 hmi hmj mi mj ii ij hle
      have hki : (k : Int) < n := by omega
      have hki1 : (k : Int) + 1 < n := by omega
      have hk0 : (0 : Int) ≤ k := by omega
      have hk1 : (0 : Int) ≤ (k : Int) + 1 := by omega
      have hkt : ((k : Int) + 1).toNat = k + 1 := by omega
      have hwm : IntKind.i64.wrap ((k : Int) + 1 - 1) = (k : Int) := by rw [Int.add_sub_cancel]; exact IntWalk.i64_in _ (by omega)
      have hwk0 : IntKind.i64.wrap (k : Int) = (k : Int) := IntWalk.i64_in _ (by omega)
      have hwk1 : IntKind.i64.wrap ((k : Int) + 1 + 1) = (k : Int) + 1 + 1 := IntWalk.i64_in _ (by omega)
      have HB := Lib.hid hb
      clear hb
      go_wp2
      go_quiet (fail)
      clear c0' c1' d0' d1' r1 r2 r3 r4
      have HB2 := Lib.hid (below_drewN HB.out nq)
      go_wp2
      go_roundw
      case rel => exact ⟨k + 1, _, by omega, by go_num, rfl, HS4, HB2.out⟩
      case measure => simp [intOf]; omega
    · have hkn : k = n - 1 := by omega
      have hnlt : ¬ ((k : Int) + 1 < (n : Int)) := by omega
      have HB := Lib.hid hb
      have HF : Hid (IsI A (Rg.SH X Y (n - 1))) := Lib.hid (by rw [← hkn]; exact HA.out)
      clear hb hkn
      go_wp2
      go_ret
      exact ⟨⟨A, rfl, HF.out⟩, HB.out⟩

theorem sign_of {x : Nat} {a : Int} (h : IsI x a) (w : World) : Calls Tryd.prog 52 #[.float .f64 x] w fun e w' => e = .returned (.int .i64 (sgn a)) ∧ w = w' := by
  have t1 : (FloatKind.f64.format.order x 0 == some .gt) = decide (0 < a) := isI_gt h isI_lit0
  have t2 : (FloatKind.f64.format.order x 0 == some .lt) = decide (a < 0) := isI_lt h isI_lit0
  unfold sgn
  by_cases p : 0 < a
  · rw [decide_eq_true p] at t1
    rw [if_pos p]
    clear t2 h p
    go_enter Tryd.func52, Tryd.ntmps52
    go_wp2
    go_ret
    exact ⟨rfl, rfl⟩
  · rw [decide_eq_false p] at t1
    rw [if_neg p]
    by_cases q : a < 0
    · rw [decide_eq_true q] at t2
      rw [if_pos q]
      clear h p q
      go_enter Tryd.func52, Tryd.ntmps52
      go_wp2
      go_ret
      exact ⟨rfl, rfl⟩
    · rw [decide_eq_false q] at t2
      rw [if_neg q]
      clear h p q
      go_enter Tryd.func52, Tryd.ntmps52
      go_wp2
      go_ret
      exact ⟨rfl, rfl⟩
theorem turn_any (n cap b off : Nat) (ps : List (Nat × Nat)) (X Y : Nat → Int) (w : World) (hn : ps.length = n) (h1 : 1 ≤ n) (h100 : n ≤ 100) (hps : PtsAt w b off ps) (hd : Dat ps X Y) :
    Calls Tryd.prog 26 #[.slice (some ⟨b, off, none⟩) n cap] w
      fun e w' => e = .returned (.int .i64 (sgn (Rg.SH X Y (n - 1)))) ∧ Below w.heap.size w w' := by
  have hcall := doubled_any n cap b off ps X Y w hn h1 h100 hps hd
  clear hn h1 h100 hps hd
  go_enter Tryd.func26, Tryd.ntmps26
  go_wp2_with fail
  refine hcall.mono ?_
  rintro e w1 ⟨⟨d, rfl, hd⟩, hb⟩
  have h2 := fun W => sign_of hd W
  have HB := Lib.hid hb
  clear hb hcall
  go_wp2_with fail
  refine (h2 _).mono ?_
  rintro e w2 ⟨rfl, rfl⟩
  go_wp2
  go_ret
  exact ⟨rfl, HB.out⟩

set_option maxRecDepth 100000 in
set_option maxHeartbeats 2000000 in
theorem orient_any (n cap b off : Nat) (ps : List (Nat × Nat)) (X Y : Nat → Int) (w : World) (hn : ps.length = n) (h1 : 1 ≤ n) (h100 : n ≤ 100) (hps : PtsAt w b off ps) (hd : DatM ps X Y) :
    Calls Tryd.prog 51 #[.slice (some ⟨b, off, none⟩) n cap] w
      fun e w' => e = .returned (.int .i8 (sgn (Rg.TN X Y (n - 2)))) ∧ Below w.heap.size w w' := by
  have HPS := Lib.hid hps
  have HD := Lib.hid hd
  have HN := Lib.hid hn
  have hnn : (n : Int) ≤ 100 := by omega
  have h1n : (1 : Int) ≤ n := by omega
  have hp0 : ps[0]? = some ps[0] := List.getElem?_eq_getElem (by omega)
  obtain ⟨i0, m0⟩ := hd 0 _ hp0
  obtain ⟨z0, z1⟩ := hps 0 _ hp0
  obtain ⟨⟨x0, y0⟩, hpe⟩ : ∃ p, p = ps[0] := ⟨_, rfl⟩
  rw [← hpe] at i0 z0 z1 hp0
  simp only [Nat.zero_mul, Nat.add_zero] at z0 z1
  have HP0 := Lib.hid (And.intro i0 m0)
  have hmid : ∀ i, i < n → Rg.Mid (X i) ∧ Rg.Mid (Y i) := by
    intro i hi
    exact (hd i _ (List.getElem?_eq_getElem (show i < ps.length by omega))).2
  have HMID := Lib.hid hmid
  clear hmid hps hd hn hpe i0 m0
  go_enter Tryd.func51, Tryd.ntmps51
  go_wp2
  clear z0 z1
  go_loopw [3, 6] (fun av iv wr => ∃ (k A : Nat), (k + 2 ≤ n ∨ k = 0) ∧ iv = .int .i64 ((k : Int) + 1) ∧ av = .float .f64 A ∧ Hid (IsI A (Rg.TN X Y k)) ∧ Below w.heap.size w wr) (fun _ iv _ => n - (intOf iv).toNat)
  case atStart => exact ⟨0, 0, .inr rfl, rfl, rfl, Lib.hid isI_lit0, Below.refl _ _⟩
  case round =>
    obtain ⟨k, A, hk, rfl, rfl, HA, hb⟩ := hrel
    by_cases hlt : k + 2 < n
    · have hil : k + 1 < ps.length := by have := HN.out; omega
      have hjl : k + 1 + 1 < ps.length := by have := HN.out; omega
      have hpi : ps[k + 1]? = some ps[k + 1] := List.getElem?_eq_getElem hil
      have hpj : ps[k + 1 + 1]? = some ps[k + 1 + 1] := List.getElem?_eq_getElem hjl
      obtain ⟨ii, mi⟩ := HD.out (k + 1) _ hpi
      obtain ⟨ij, mj⟩ := HD.out (k + 1 + 1) _ hpj
      obtain ⟨c0, c1⟩ := HPS.out (k + 1) _ hpi
      obtain ⟨d0, d1⟩ := HPS.out (k + 1 + 1) _ hpj
      obtain ⟨⟨x, y⟩, hpe⟩ : ∃ p, p = ps[k + 1] := ⟨_, rfl⟩
      obtain ⟨⟨x1, y1⟩, hpe1⟩ : ∃ p, p = ps[k + 1 + 1] := ⟨_, rfl⟩
      rw [← hpe] at ii c0 c1
      rw [← hpe1] at ij d0 d1
      have c0' := cell_later hb c0
      have c1' := cell_later hb c1
      have d0' := cell_later hb d0
      have d1' := cell_later hb d1
      clear c0 c1 d0 d1 hpi hpj hpe hpe1 hil hjl
      obtain ⟨s1, s2, s3, s4, s5, s6, s7⟩ := Rg.isI_tri HP0.out.1.1 HP0.out.1.2 ii.1 ii.2 ij.1 ij.2 HP0.out.2 mi mj
      have r1 := run_fsub (P := Tryd.prog) ii.1.1 HP0.out.1.1.1 27
      have r2 := run_fsub (P := Tryd.prog) ij.2.1 HP0.out.1.2.1 27
      have r3 := run_fsub (P := Tryd.prog) ij.1.1 HP0.out.1.1.1 27
      have r4 := run_fsub (P := Tryd.prog) ii.2.1 HP0.out.1.2.1 27
      have r5 := run_fmul (P := Tryd.prog) s1 s2 27
      have r6 := run_fmul (P := Tryd.prog) s3 s4 27
      have r7 := run_fsub (P := Tryd.prog) s5 s6 27
      clear s1 s2 s3 s4 s5 s6
      obtain ⟨a, hae⟩ : ∃ a, a = Rg.fTri x0 y0 x y x1 y1 := ⟨_, rfl⟩
      rw [show fsub (fmul (fsub x x0) (fsub y1 y0)) (fmul (fsub x1 x0) (fsub y y0)) = a from hae.symm] at r7
      rw [← hae] at s7
      have r8 := run_fadd (P := Tryd.prog) HA.out.1 s7.1 27
      have hT := Rg.TN_le HMID.out k (by omega)
      have hT2 := (Rg.tri_le HP0.out.2.1 HP0.out.2.2 mi.1 mi.2 mj.1 mj.2).2.2
      have s8 := isI_add HA.out s7 (by omega)
      have HS8 : Hid (IsI (fadd A a) (Rg.TN X Y (k + 1))) := Lib.hid s8
      have hki : (k : Int) + 1 + 1 < n := by omega
      have hki1 : (k : Int) + 1 < n := by omega
      have hki3 : (k : Int) + 1 < (n : Int) - 1 := by omega
      have hk0 : (0 : Int) ≤ (k : Int) + 1 := by omega
      have hk1 : (0 : Int) ≤ (k : Int) + 1 + 1 := by omega
      have hkt : ((k : Int) + 1).toNat = k + 1 := by omega
      have hkt1 : ((k : Int) + 1 + 1).toNat = k + 1 + 1 := by omega
      have hwk : IntKind.i64.wrap ((k : Int) + 1) = (k : Int) + 1 := IntWalk.i64_in _ (by omega)
      have hwk1 : IntKind.i64.wrap ((k : Int) + 1 + 1) = (k : Int) + 1 + 1 := IntWalk.i64_in _ (by omega)
      have HB := Lib.hid hb
      clear hb hae ii ij mi mj s7 s8 hT hT2
      go_wp2
      go_quiet (fail)
      clear c0' c1' d0' d1' r1 r2 r3 r4 r5 r6 r7 r8
      have HB2 := Lib.hid (below_drewN HB.out nq)
      go_wp2
      go_roundw
      case rel => exact ⟨k + 1, _, by omega, by go_num, rfl, HS8, HB2.out⟩
      case measure => simp [intOf]; omega
    · have hkn : k = n - 2 := by omega
      have hnlt : ¬ ((k : Int) + 1 < (n : Int) - 1) := by omega
      have HB := Lib.hid hb
      have t1 : (FloatKind.f64.format.order A 0 == some .gt) = decide (0 < Rg.TN X Y (n - 2)) := by rw [← hkn]; exact isI_gt HA.out isI_lit0
      have t2 : (FloatKind.f64.format.order A 0 == some .lt) = decide (Rg.TN X Y (n - 2) < 0) := by rw [← hkn]; exact isI_lt HA.out isI_lit0
      clear hb hkn
      obtain ⟨T, hT⟩ : ∃ T, T = Rg.TN X Y (n - 2) := ⟨_, rfl⟩
      rw [← hT] at t1 t2
      have HT := Lib.hid hT
      clear hT
      by_cases p : 0 < T
      · rw [decide_eq_true p] at t1
        have hs : Hid (sgn T = 1) := Lib.hid (by unfold sgn; rw [if_pos p])
        clear t2 p
        go_wp2
        go_ret
        rw [← HT.out, hs.out]
        exact ⟨rfl, HB.out⟩
      · rw [decide_eq_false p] at t1
        by_cases q : T < 0
        · rw [decide_eq_true q] at t2
          have hs : Hid (sgn T = -1) := Lib.hid (by unfold sgn; rw [if_neg p, if_pos q])
          clear p q
          go_wp2
          go_ret
          rw [← HT.out, hs.out]
          exact ⟨rfl, HB.out⟩
        · rw [decide_eq_false q] at t2
          have hs : Hid (sgn T = 0) := Lib.hid (by unfold sgn; rw [if_neg p, if_neg q])
          clear p q
          go_wp2
          go_ret
          rw [← HT.out, hs.out]
          exact ⟨rfl, HB.out⟩
theorem sgn_cases (a : Int) : sgn a = 1 ∨ sgn a = -1 ∨ sgn a = 0 := by unfold sgn; split; exact .inl rfl; split; exact .inr (.inl rfl); exact .inr (.inr rfl)
theorem orientation_any {w : World} {v : Value} {ps : List (Nat × Nat)} {X Y : Nat → Int} (hv : IsPts w v ps) (h1 : 1 ≤ ps.length) (h100 : ps.length ≤ 100) (hd : DatM ps X Y) :
    Calls Tryd.prog 25 #[v] w fun e w' => e = .returned (.int .i64 (sgn (Rg.TN X Y (ps.length - 2)))) ∧ Below w.heap.size w w' := by
  have hcall1 := points_any hv (by omega)
  have hc := sgn_cases (Rg.TN X Y (ps.length - 2))
  have h2 := Lib.hid (fun g cap W (h : PtsAt W g 0 ps) => orient_any ps.length cap g 0 ps X Y W rfl h1 h100 h hd)
  obtain ⟨s, hs⟩ : ∃ s, s = sgn (Rg.TN X Y (ps.length - 2)) := ⟨_, rfl⟩
  rw [← hs] at h2 hc ⊢
  have H1 := Lib.hid h1
  clear hv hd hs h100 h1
  go_enter Tryd.func25, Tryd.ntmps25
  go_wp2_with fail
  refine hcall1.mono ?_
  rintro e w1 ⟨v', rfl, hown, hb1⟩
  obtain ⟨g, cap, rfl, hg, hgl, hnp, hps1⟩ := owns_pts hown H1.out
  have HB1 := Lib.hid hb1
  have hcall2 := h2.out g cap w1 hps1
  clear hcall1 hown hb1 hps1 hg hgl hnp h2
  go_wp2_with fail
  refine hcall2.mono ?_
  rintro e w2 ⟨rfl, hb2⟩
  have HB2 := Lib.hid (HB1.out.trans (hb2.mono HB1.out.size))
  clear hcall2 hb2
  rcases hc with rfl | rfl | rfl
  all_goals go_wp2
  all_goals go_ret
  all_goals exact ⟨rfl, HB2.out⟩
end Go.Proofs.YtpbhpplmokdkhaaDoor
