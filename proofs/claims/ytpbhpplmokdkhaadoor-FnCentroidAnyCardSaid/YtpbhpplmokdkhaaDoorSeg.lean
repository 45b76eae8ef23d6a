/- The walk of planar.DistanceFromSegmentSquared on whole points. -/
import Derived.Test.YtpbhpplmokdkhaaDoorAre
import Derived.Test.YtpbhpplmokdkhaaDoorFlE
namespace Go.Proofs.YtpbhpplmokdkhaaDoor
open Go.RowKit Fl

section
variable {P : Program}
theorem run_fsub {x y : Nat} (hx : IsFin x) (hy : IsFin y) (t : TypeId) : ∀ w, (binOp .sub t (.float .f64 x) (.float .f64 y)).run P w = .ok (.float .f64 (fsub x y)) w := fun w => run_float_arith w .sub t .f64 x y _ (sub_some hx hy)
theorem run_fadd {x y : Nat} (hx : IsFin x) (hy : IsFin y) (t : TypeId) : ∀ w, (binOp .add t (.float .f64 x) (.float .f64 y)).run P w = .ok (.float .f64 (fadd x y)) w := fun w => run_float_arith w .add t .f64 x y _ (add_some hx hy)
theorem run_fmul {x y : Nat} (hx : IsFin x) (hy : IsFin y) (t : TypeId) : ∀ w, (binOp .mul t (.float .f64 x) (.float .f64 y)).run P w = .ok (.float .f64 (fmul x y)) w := fun w => run_float_arith w .mul t .f64 x y _ (mul_some hx hy)
theorem run_fdiv {x y : Nat} (h : Ieee.double.div x y = some (fdiv x y)) (t : TypeId) : ∀ w, (binOp .quo t (.float .f64 x) (.float .f64 y)).run P w = .ok (.float .f64 (fdiv x y)) w := fun w => run_float_arith w .quo t .f64 x y _ h
end

theorem below3 (w0 : World) (o1 o2 o3 : Obj) : Below w0.heap.size w0 (((w0.alloc o1).alloc o2).alloc o3) := (((Below.refl _ _).alloc (Nat.le_refl _) o1).alloc (by simp) o2).alloc (by simp; omega) o3

/-- The last three lines: from the nearest point on. -/
theorem sq_runs {p q : Nat × Nat} (h : IsFin p.1 ∧ IsFin p.2 ∧ IsFin q.1 ∧ IsFin q.2 ∧ IsFin (fsub p.1 q.1) ∧ IsFin (fsub p.2 q.2) ∧ IsFin (fmul (fsub p.1 q.1) (fsub p.1 q.1)) ∧ IsFin (fmul (fsub p.2 q.2) (fsub p.2 q.2))) (t : TypeId) :
    (∀ w, (binOp .sub t (.float .f64 p.1) (.float .f64 q.1)).run Tryd.prog w = .ok (.float .f64 (fsub p.1 q.1)) w) ∧ (∀ w, (binOp .sub t (.float .f64 p.2) (.float .f64 q.2)).run Tryd.prog w = .ok (.float .f64 (fsub p.2 q.2)) w) ∧
    (∀ w, (binOp .mul t (.float .f64 (fsub p.1 q.1)) (.float .f64 (fsub p.1 q.1))).run Tryd.prog w = .ok (.float .f64 (fmul (fsub p.1 q.1) (fsub p.1 q.1))) w) ∧
    (∀ w, (binOp .mul t (.float .f64 (fsub p.2 q.2)) (.float .f64 (fsub p.2 q.2))).run Tryd.prog w = .ok (.float .f64 (fmul (fsub p.2 q.2) (fsub p.2 q.2))) w) ∧
    (∀ w, (binOp .add t (.float .f64 (fmul (fsub p.1 q.1) (fsub p.1 q.1))) (.float .f64 (fmul (fsub p.2 q.2) (fsub p.2 q.2)))).run Tryd.prog w = .ok (.float .f64 (sqDist p q)) w) := by
  obtain ⟨h1, h2, h3, h4, h5, h6, h7, h8⟩ := h
  exact ⟨run_fsub h1 h3 t, run_fsub h2 h4 t, run_fmul h5 h5 t, run_fmul h6 h6 t, run_fadd h7 h8 t⟩

/-- The line on how far along: its runs. -/
theorem segT_runs {a b p : Nat × Nat} {ax ay bx by' px py : Int} (ha : IsP a ax ay) (hb : IsP b bx by') (hp : IsP p px py) (sa : Small ax ∧ Small ay) (sb : Small bx ∧ Small by') (sp : Small px ∧ Small py) (hne : segNe a b = true) (t : TypeId) :
    (∀ w, (binOp .sub t (.float .f64 p.1) (.float .f64 a.1)).run Tryd.prog w = .ok (.float .f64 (fsub p.1 a.1)) w) ∧ (∀ w, (binOp .sub t (.float .f64 p.2) (.float .f64 a.2)).run Tryd.prog w = .ok (.float .f64 (fsub p.2 a.2)) w) ∧
    (∀ w, (binOp .mul t (.float .f64 (fsub p.1 a.1)) (.float .f64 (fsub b.1 a.1))).run Tryd.prog w = .ok (.float .f64 (fmul (fsub p.1 a.1) (fsub b.1 a.1))) w) ∧
    (∀ w, (binOp .mul t (.float .f64 (fsub p.2 a.2)) (.float .f64 (fsub b.2 a.2))).run Tryd.prog w = .ok (.float .f64 (fmul (fsub p.2 a.2) (fsub b.2 a.2))) w) ∧
    (∀ w, (binOp .add t (.float .f64 (fmul (fsub p.1 a.1) (fsub b.1 a.1))) (.float .f64 (fmul (fsub p.2 a.2) (fsub b.2 a.2)))).run Tryd.prog w = .ok (.float .f64 (fadd (fmul (fsub p.1 a.1) (fsub b.1 a.1)) (fmul (fsub p.2 a.2) (fsub b.2 a.2)))) w) ∧
    (∀ w, (binOp .mul t (.float .f64 (fsub b.1 a.1)) (.float .f64 (fsub b.1 a.1))).run Tryd.prog w = .ok (.float .f64 (fmul (fsub b.1 a.1) (fsub b.1 a.1))) w) ∧
    (∀ w, (binOp .mul t (.float .f64 (fsub b.2 a.2)) (.float .f64 (fsub b.2 a.2))).run Tryd.prog w = .ok (.float .f64 (fmul (fsub b.2 a.2) (fsub b.2 a.2))) w) ∧
    (∀ w, (binOp .add t (.float .f64 (fmul (fsub b.1 a.1) (fsub b.1 a.1))) (.float .f64 (fmul (fsub b.2 a.2) (fsub b.2 a.2)))).run Tryd.prog w = .ok (.float .f64 (fadd (fmul (fsub b.1 a.1) (fsub b.1 a.1)) (fmul (fsub b.2 a.2) (fsub b.2 a.2)))) w) ∧
    (∀ w, (binOp .quo t (.float .f64 (fadd (fmul (fsub p.1 a.1) (fsub b.1 a.1)) (fmul (fsub p.2 a.2) (fsub b.2 a.2)))) (.float .f64 (fadd (fmul (fsub b.1 a.1) (fsub b.1 a.1)) (fmul (fsub b.2 a.2) (fsub b.2 a.2))))).run Tryd.prog w = .ok (.float .f64 (segT a b p)) w) := by
  obtain ⟨i1, i2, i3, i4, i5, i6, i7, i8, i9, i10⟩ := seg_ints ha hb hp sa sb sp
  have ht := segT_bd ha hb hp sa sb sp hne
  exact ⟨run_fsub hp.1.1 ha.1.1 t, run_fsub hp.2.1 ha.2.1 t, run_fmul i3.1 i1.1 t, run_fmul i4.1 i2.1 t, run_fadd i5.1 i6.1 t, run_fmul i1.1 i1.1 t, run_fmul i2.1 i2.1 t, run_fadd i8.1 i9.1 t, run_fdiv ht.1 t⟩

set_option maxHeartbeats 1000000 in
theorem seg_any (a b p : Nat × Nat) {ax ay bx by' px py : Int} (ha : IsP a ax ay) (hb : IsP b bx by') (hp : IsP p px py) (sa : Small ax ∧ Small ay) (sb : Small bx ∧ Small by') (sp : Small px ∧ Small py) (w : World) :
    Calls Tryd.prog 47 #[.agg #[.float .f64 a.1, .float .f64 a.2], .agg #[.float .f64 b.1, .float .f64 b.2], .agg #[.float .f64 p.1, .float .f64 p.2]] w
      fun e w' => e = .returned (.float .f64 (segSq a b p)) ∧ Below w.heap.size w w' := by
  have hat := segAt_bd ha hb hp sa sb sp
  have hsq := sqDist_bd ((bd_small hp.1 sp.1).mono (l := 50) (by omega)) ((bd_small hp.2 sp.2).mono (l := 50) (by omega)) hat.1 hat.2.1 (by omega) (by omega)
  have s1 := run_fsub (P := Tryd.prog) hb.1.1 ha.1.1 27
  have s2 := run_fsub (P := Tryd.prog) hb.2.1 ha.2.1 27
  have hE := sq_runs (p := p) (q := segAt a b p) ⟨hp.1.1, hp.2.1, hat.1.1, hat.2.1.1, hsq.1, hsq.2.1, hsq.2.2.1, hsq.2.2.2.1⟩ 27
  obtain ⟨res, hres⟩ : ∃ res, res = segSq a b p := ⟨_, rfl⟩
  rw [← hres]
  have HR := Lib.hid hres
  clear hres
  by_cases hne : segNe a b = true
  · obtain ⟨f1, f2, f3, f4, f5, f6, f7, f8, f9⟩ := segT_runs ha hb hp sa sb sp hne 27
    have hT := (segT_bd ha hb hp sa sb sp hne).2.1.1
    have hm := hat.2.2 hne
    have n1 : (FloatKind.f64.format.order (fsub b.1 a.1) 0 != some .eq) = true ∨ (FloatKind.f64.format.order (fsub b.1 a.1) 0 != some .eq) = false ∧ (FloatKind.f64.format.order (fsub b.2 a.2) 0 != some .eq) = true := by
      have h := hne
      unfold segNe at h
      rw [Bool.or_eq_true] at h
      by_cases h1 : (FloatKind.f64.format.order (fsub b.1 a.1) 0 != some .eq) = true
      · exact .inl h1
      · exact .inr ⟨by simpa using h1, by rcases h with h | h; exact absurd h h1; exact h⟩
    have d1 := (seg_ints ha hb hp sa sb sp).1.1
    have d2 := (seg_ints ha hb hp sa sb sp).2.1.1
    have g1 := run_fmul (P := Tryd.prog) d1 hT 27
    have g2 := run_fmul (P := Tryd.prog) d2 hT 27
    have g3 := run_fadd (P := Tryd.prog) ha.1.1 hm.1.1 27
    have g4 := run_fadd (P := Tryd.prog) ha.2.1 hm.2.1 27
    by_cases t1 : (FloatKind.f64.format.order (segT a b p) 4607182418800017408 == some .gt) = true
    · have hq : segAt a b p = b := by unfold segAt; rw [if_pos hne]; exact if_pos t1
      rw [hq] at hE
      have HR' : Hid (res = sqDist p b) := Lib.hid (by rw [HR.out]; unfold segSq; rw [hq])
      obtain ⟨e1, e2, e3, e4, e5⟩ := hE
      clear hq HR hat hsq hm d1 d2 ha hb hp sa sb sp hne hT g1 g2 g3 g4
      rcases n1 with n1 | ⟨n1, n2⟩
      all_goals
        go_enter Tryd.func47, Tryd.ntmps47
        go_wp2
        go_ret
        rw [HR'.out]
        exact ⟨rfl, below3 _ _ _ _⟩
    · have t1' : (FloatKind.f64.format.order (segT a b p) 4607182418800017408 == some .gt) = false := by simpa using t1
      by_cases t2 : (FloatKind.f64.format.order (segT a b p) 0 == some .gt) = true
      · have hq : segAt a b p = (fadd a.1 (fmul (fsub b.1 a.1) (segT a b p)), fadd a.2 (fmul (fsub b.2 a.2) (segT a b p))) := by unfold segAt; rw [if_pos hne]; exact (if_neg t1).trans (if_pos t2)
        rw [hq] at hE
        have HR' : Hid (res = sqDist p (fadd a.1 (fmul (fsub b.1 a.1) (segT a b p)), fadd a.2 (fmul (fsub b.2 a.2) (segT a b p)))) := Lib.hid (by rw [HR.out]; unfold segSq; rw [hq])
        obtain ⟨e1, e2, e3, e4, e5⟩ := hE
        clear hq HR hat hsq hm d1 d2 ha hb hp sa sb sp hne hT t1
        rcases n1 with n1 | ⟨n1, n2⟩
        all_goals
          go_enter Tryd.func47, Tryd.ntmps47
          go_wp2
          go_ret
          rw [HR'.out]
          exact ⟨rfl, below3 _ _ _ _⟩
      · have t2' : (FloatKind.f64.format.order (segT a b p) 0 == some .gt) = false := by simpa using t2
        have hq : segAt a b p = a := by unfold segAt; rw [if_pos hne]; exact (if_neg t1).trans (if_neg t2)
        rw [hq] at hE
        have HR' : Hid (res = sqDist p a) := Lib.hid (by rw [HR.out]; unfold segSq; rw [hq])
        obtain ⟨e1, e2, e3, e4, e5⟩ := hE
        clear hq HR hat hsq hm d1 d2 ha hb hp sa sb sp hne hT t1 t2 g1 g2 g3 g4
        rcases n1 with n1 | ⟨n1, n2⟩
        all_goals
          go_enter Tryd.func47, Tryd.ntmps47
          go_wp2
          go_ret
          rw [HR'.out]
          exact ⟨rfl, below3 _ _ _ _⟩
  · have hq : segAt a b p = a := by unfold segAt; exact if_neg hne
    have n1 : (FloatKind.f64.format.order (fsub b.1 a.1) 0 != some .eq) = false ∧ (FloatKind.f64.format.order (fsub b.2 a.2) 0 != some .eq) = false := by
      have h : segNe a b = false := by simpa using hne
      unfold segNe at h
      rw [Bool.or_eq_false_iff] at h
      exact h
    obtain ⟨n1, n2⟩ := n1
    rw [hq] at hE
    have HR' : Hid (res = sqDist p a) := Lib.hid (by rw [HR.out]; unfold segSq; rw [hq])
    obtain ⟨e1, e2, e3, e4, e5⟩ := hE
    clear hq HR hat hsq ha hb hp sa sb sp hne
    go_enter Tryd.func47, Tryd.ntmps47
    go_wp2
    go_ret
    rw [HR'.out]
    exact ⟨rfl, below3 _ _ _ _⟩
end Go.Proofs.YtpbhpplmokdkhaaDoor
