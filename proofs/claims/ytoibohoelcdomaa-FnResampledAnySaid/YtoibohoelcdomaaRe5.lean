/- The walk of spec.Axes. -/
import Derived.Test.YtoibohoelcdomaaRe4
import Derived.Test.YtoibohoelcdomaaSame
namespace Go.Proofs.Ytoibohoelcdomaa
open Go.RowKit Fl

/-- The length of a segment, as the law adds it up. -/
theorem len_isI {x y x1 y1 : Nat} {a b c d : Int} (hx : IsI x a) (hy : IsI y b) (hx1 : IsI x1 c) (hy1 : IsI y1 d) (s1 : Small a ∧ Small b) (s2 : Small c ∧ Small d) :
    IsI (fsub x1 x) (c - a) ∧ IsI (fsub y1 y) (d - b) ∧ IsI (fabs (fsub x1 x)) ((c - a).natAbs : Int) ∧ IsI (fabs (fsub y1 y)) ((d - b).natAbs : Int) ∧ IsI (fadd (fabs (fsub x1 x)) (fabs (fsub y1 y))) (((c - a).natAbs + (d - b).natAbs : Nat) : Int) := by
  unfold Small at s1 s2
  have h1 := isI_sub hx1 hx (by omega)
  have h2 := isI_sub hy1 hy (by omega)
  have h3 := isI_fabs h1
  have h4 := isI_fabs h2
  have h5 := isI_add h3 h4 (by omega)
  exact ⟨h1, h2, h3, h4, by rw [show (((c - a).natAbs + (d - b).natAbs : Nat) : Int) = ((c - a).natAbs : Int) + ((d - b).natAbs : Int) by omega]; exact h5⟩

theorem quiet_of_same2 {P : Program} {f : FuncId} {args : Array Value} {w : World} {a n : Nat} {v : Value}
    (h : Calls P f args (w.drewN (a + n)) fun e w' => e = .returned v ∧ w' = w.drewN (a + n)) : Calls P f args (w.drewN (a + n)) fun e w'' => e = .returned v ∧ ∃ m, w'' = w.drewN (a + m) :=
  h.mono fun _ _ ⟨he, hm⟩ => ⟨he, n, hm⟩

set_option maxRecDepth 100000 in
set_option maxHeartbeats 1000000 in
theorem axes_full (n cap b off : Nat) (ps : List (Nat × Nat)) (X Y : Nat → Int) (w : World) (hn : ps.length = n) (h2 : 2 ≤ n) (hn60 : n ≤ 40) (hps : PtsAt w b off ps) (hwf : Wf ps) (hd : Dat ps X Y) (hare : areB ps 40 = true) :
    Calls Try.prog 6 #[.slice (some ⟨b, off, none⟩) n cap] w
      fun e w' => Below w.heap.size w w' ∧ ((∃ x, e = .returned (.tuple #[.float .f64 x, .bool false])) ∨ ∃ T, e = .returned (.tuple #[.float .f64 T, .bool true]) ∧ (∀ i, i + 1 < n → X (i + 1) = X i ∨ Y (i + 1) = Y i) ∧ IsI T (Re.SN X Y (n - 1) : Int) ∧ T < 18446744073709551616) := by
  have hcall1 := are_any (w := w) (v := .slice (some ⟨b, off, none⟩) n cap) (ps := ps) ⟨_, _, by rw [hn], .inr ⟨b, off, rfl, hps⟩⟩ hwf (by omega) 40
  rw [hare] at hcall1
  have HPS := Lib.hid hps
  have HD := Lib.hid hd
  have HN := Lib.hid hn
  have h2i : (2 : Int) ≤ n := by omega
  have hnn : (n : Int) ≤ 40 := by omega
  clear hps hd hn hare hwf
  go_enter Try.func6, Try.ntmps6
  go_wp2_with fail
  refine hcall1.mono ?_
  rintro e w1 ⟨rfl, hb1⟩
  have HB1 := Lib.hid hb1
  clear hb1 hcall1
  go_wp2
  go_loopw [4, 5] (fun tv iv wr => ∃ (k T : Nat), k + 1 ≤ n ∧ iv = .int .i64 ((k : Int) + 1) ∧ tv = .float .f64 T ∧ Hid (IsI T (Re.SN X Y k : Int) ∧ T < 18446744073709551616) ∧ Hid (∀ i, i < k → X (i + 1) = X i ∨ Y (i + 1) = Y i) ∧ Below w.heap.size w wr) (fun _ iv _ => n - (intOf iv).toNat)
  case atStart => exact ⟨0, 0, by omega, rfl, rfl, Lib.hid ⟨isI_lit0, by decide⟩, Lib.hid (fun i hi => by omega), HB1.out⟩
  case round =>
    obtain ⟨k, T, hk, rfl, rfl, HT, HA, hb⟩ := hrel
    by_cases hlt : k + 1 < n
    · have hil : k < ps.length := by have := HN.out; omega
      have hjl : k + 1 < ps.length := by have := HN.out; omega
      have hpk : ps[k]? = some ps[k] := List.getElem?_eq_getElem hil
      have hpj : ps[k + 1]? = some ps[k + 1] := List.getElem?_eq_getElem hjl
      obtain ⟨ik, sk⟩ := HD.out k _ hpk
      obtain ⟨ij, sj⟩ := HD.out (k + 1) _ hpj
      obtain ⟨c0, c1⟩ := HPS.out k _ hpk
      obtain ⟨d0, d1⟩ := HPS.out (k + 1) _ hpj
      obtain ⟨⟨x, y⟩, hpe⟩ : ∃ p, p = ps[k] := ⟨_, rfl⟩
      obtain ⟨⟨x1, y1⟩, hpe1⟩ : ∃ p, p = ps[k + 1] := ⟨_, rfl⟩
      rw [← hpe] at ik c0 c1
      rw [← hpe1] at ij d0 d1
      have c0' := cell_later hb c0
      have c1' := cell_later hb c1
      have d0' := cell_later hb d0
      have d1' := cell_later hb d1
      have hex : (FloatKind.f64.format.order x1 x != some .eq) = !decide (X (k + 1) = X k) := congrArg not (isI_eq ij.1 ik.1)
      have hey : (FloatKind.f64.format.order y1 y != some .eq) = !decide (Y (k + 1) = Y k) := congrArg not (isI_eq ij.2 ik.2)
      obtain ⟨l1, l2, l3, l4, l5⟩ := len_isI ik.1 ik.2 ij.1 ij.2 sk sj
      have hSN : Re.SN X Y (k + 1) = Re.SN X Y k + Re.dN X Y k := rfl
      have hsle : Re.SN X Y (k + 1) ≤ 160000 := by
        have := Re.SN_le (X := X) (Y := Y) (n := n) (fun i hi => by
          have := HD.out i _ (List.getElem?_eq_getElem (show i < ps.length by have := HN.out; omega)); exact ⟨this.2.1, this.2.2⟩) (k + 1) (by omega)
        omega
      have l6 := isI_add HT.out.1 l5 (by unfold Re.dN at hSN; omega)
      have rsx := run_fsub (P := Try.prog) ij.1.1 ik.1.1 24
      have rsy := run_fsub (P := Try.prog) ij.2.1 ik.2.1 24
      have ral := run_fadd (P := Try.prog) l3.1 l4.1 24
      have rat := run_fadd (P := Try.prog) HT.out.1.1 l5.1 24
      have a1 := fun w => (abs_any (fsub x1 x) (fsub_lt _ _) w).mono (R' := fun e w' => e = .returned (.float .f64 (fabs (fsub x1 x))) ∧ w' = w) (fun _ _ h => ⟨h.1, h.2.symm⟩)
      have a2 := fun w => (abs_any (fsub y1 y) (fsub_lt _ _) w).mono (R' := fun e w' => e = .returned (.float .f64 (fabs (fsub y1 y))) ∧ w' = w) (fun _ _ h => ⟨h.1, h.2.symm⟩)
      have HNX : Hid (IsI (fadd T (fadd (fabs (fsub x1 x)) (fabs (fsub y1 y)))) (Re.SN X Y (k + 1) : Int)) := Lib.hid (by
        rw [hSN, show ((Re.SN X Y k + Re.dN X Y k : Nat) : Int) = (Re.SN X Y k : Int) + (Re.dN X Y k : Int) by omega]; exact l6)
      have HB := Lib.hid hb
      have hki : (k : Int) + 1 < n := by omega
      clear c0 c1 d0 d1 hpk hpj hpe hpe1 ik ij sk sj hb hil hjl l1 l2 l3 l4 l5 l6 hSN hsle
      have hki2 : (k : Int) < n := by omega
      have hk2 : k + 1 + 1 ≤ n := by omega
      have hwr : IntKind.i64.wrap ((k : Int) + 1) = (k : Int) + 1 := IntWalk.i64_in _ (by omega)
      have hwk : IntKind.i64.wrap (k : Int) = (k : Int) := IntWalk.i64_in _ (by omega)
      have hk0 : (0 : Int) ≤ (k : Int) + 1 := by omega
      have hkt : ((k : Int) + 1).toNat = k + 1 := by omega
      by_cases hx : X (k + 1) = X k
      · rw [decide_eq_true hx, Bool.not_true] at hex
        have HAX : Hid (X (k + 1) = X k ∨ Y (k + 1) = Y k) := Lib.hid (.inl hx)
        clear hx hey
        go_wp2
        go_quiet (fail)
        go_wp2
        go_quiet ((go_at_call 8; first | exact quiet_of_same2 (a1 _) | exact quiet_of_same2 (a2 _)))
        go_wp2
        go_roundw
        case rel =>
          refine ⟨k + 1, _, hk2, by go_num, rfl, Lib.hid ⟨HNX.out, fadd_lt _ _⟩, Lib.hid (fun i hi => ?_), below_drewN HB.out _⟩
          by_cases hik : i = k
          · rw [hik]; exact HAX.out
          · exact HA.out i (by clear hkt; omega)
        case measure => simp [intOf]; omega
      · rw [decide_eq_false hx, Bool.not_false] at hex
        by_cases hy : Y (k + 1) = Y k
        · rw [decide_eq_true hy, Bool.not_true] at hey
          have HAX : Hid (X (k + 1) = X k ∨ Y (k + 1) = Y k) := Lib.hid (.inr hy)
          clear hx hy
          go_wp2
          go_quiet (fail)
          go_wp2
          go_quiet ((go_at_call 8; first | exact quiet_of_same2 (a1 _) | exact quiet_of_same2 (a2 _)))
          go_wp2
          go_roundw
          case rel =>
            refine ⟨k + 1, _, hk2, by go_num, rfl, Lib.hid ⟨HNX.out, fadd_lt _ _⟩, Lib.hid (fun i hi => ?_), below_drewN HB.out _⟩
            by_cases hik : i = k
            · rw [hik]; exact HAX.out
            · exact HA.out i (by clear hkt; omega)
          case measure => simp [intOf]; omega
        · rw [decide_eq_false hy, Bool.not_false] at hey
          clear hx hy
          go_wp2
          go_quiet (fail)
          go_wp2
          go_ret2
          exact ⟨below_drewN HB.out _, .inl ⟨_, rfl⟩⟩
    · have hkn : k = n - 1 := by omega
      have HB := Lib.hid hb
      have HKN := Lib.hid hkn
      have hnlt : ¬ (k : Int) + 1 < n := by omega
      clear hb hkn
      go_wp2
      go_ret2
      refine ⟨HB.out, .inr ⟨T, rfl, fun i hi => HA.out i (by have := HKN.out; omega), ?_, HT.out.2⟩⟩
      rw [← HKN.out]
      exact HT.out.1
end Go.Proofs.Ytoibohoelcdomaa
