/- The walk of planar.Distance on whole points; whole points as data. -/
import Derived.Test.YtpbhpplmokdkhaaDoorSeg
import Derived.Test.YtpbhpplmokdkhaaDoorReP
import Derived.Deep.Slices
namespace Go.Proofs.YtpbhpplmokdkhaaDoor
open Go.RowKit Fl

theorem sq_ints {p q : Nat × Nat} {px py qx qy : Int} (hp : IsP p px py) (hq : IsP q qx qy) (sp : Small px ∧ Small py) (sq : Small qx ∧ Small qy) :
    IsI (fsub p.1 q.1) (px - qx) ∧ IsI (fsub p.2 q.2) (py - qy) ∧ IsI (fmul (fsub p.1 q.1) (fsub p.1 q.1)) ((px - qx) * (px - qx)) ∧ IsI (fmul (fsub p.2 q.2) (fsub p.2 q.2)) ((py - qy) * (py - qy)) ∧
    IsI (sqDist p q) ((px - qx) * (px - qx) + (py - qy) * (py - qy)) := by
  unfold Small at *
  have d1 := isI_sub hp.1 hq.1 (by omega)
  have d2 := isI_sub hp.2 hq.2 (by omega)
  have b1 := mul_small (a := px - qx) (b := px - qx) (A := 2000) (B := 2000) (by omega) (by omega) (by omega) (by omega)
  have b2 := mul_small (a := py - qy) (b := py - qy) (A := 2000) (B := 2000) (by omega) (by omega) (by omega) (by omega)
  have m1 := isI_mul d1 d1 (by omega)
  have m2 := isI_mul d2 d2 (by omega)
  exact ⟨d1, d2, m1, m2, isI_add m1 m2 (by omega)⟩
theorem sq_nonneg {p q : Nat × Nat} {px py qx qy : Int} (hp : IsP p px py) (hq : IsP q qx qy) (sp : Small px ∧ Small py) (sq : Small qx ∧ Small qy) : 0 ≤ val (sqDist p q) := by
  rw [(sq_ints hp hq sp sq).2.2.2.2.2]
  have h1 := int_sq (px - qx)
  have h2 := int_sq (py - qy)
  exact Rat.intCast_nonneg.2 (by omega)
/-- Along an axis the distance is whole. -/
theorem dist_axis {p q : Nat × Nat} {px py qx qy : Int} (hp : IsP p px py) (hq : IsP q qx qy) (sp : Small px ∧ Small py) (sq : Small qx ∧ Small qy) (hax : qx = px ∨ qy = py) :
    IsI (fsqrt (sqDist p q)) (((qx - px).natAbs + (qy - py).natAbs : Nat) : Int) := by
  have h := sq_ints hp hq sp sq
  have hs := fsqrt_spec h.2.2.2.2.1 (sq_nonneg hp hq sp sq)
  refine ⟨hs.1, ?_⟩
  obtain ⟨c, hc⟩ : ∃ c : Nat, c = (qx - px).natAbs + (qy - py).natAbs := ⟨_, rfl⟩
  rw [← hc]
  have hcc : ((c : Int)) * (c : Int) = (px - qx) * (px - qx) + (py - qy) * (py - qy) := by
    rcases hax with hax | hax
    · have e1 : px - qx = 0 := by omega
      have e2 : (c : Int) = py - qy ∨ (c : Int) = -(py - qy) := by omega
      rw [e1]
      rcases e2 with e2 | e2 <;> rw [e2] <;> grind
    · have e1 : py - qy = 0 := by omega
      have e2 : (c : Int) = px - qx ∨ (c : Int) = -(px - qx) := by omega
      rw [e1]
      rcases e2 with e2 | e2 <;> rw [e2] <;> grind
  have hle : c ≤ 9007199254740992 := by unfold Small at *; omega
  have hv := hs.2.2.2.2 c 0 hle (by omega) (by
    rw [h.2.2.2.2.2, ← hcc, Rat.intCast_mul, p2_zero]
    have : ((c : Int) : Rat) = (c : Rat) := rfl
    rw [this]; grind)
  rw [hv, p2_zero]
  have : ((c : Int) : Rat) = (c : Rat) := rfl
  rw [this]; grind

theorem below2 (w0 : World) (o1 o2 : Obj) : Below w0.heap.size w0 ((w0.alloc o1).alloc o2) := ((Below.refl _ _).alloc (Nat.le_refl _) o1).alloc (by simp) o2

set_option maxHeartbeats 400000 in
theorem dist_any (p q : Nat × Nat) {px py qx qy : Int} (hp : IsP p px py) (hq : IsP q qx qy) (sp : Small px ∧ Small py) (sq : Small qx ∧ Small qy) (w : World) :
    Calls Tryd.prog 81 #[.agg #[.float .f64 p.1, .float .f64 p.2], .agg #[.float .f64 q.1, .float .f64 q.2]] w
      fun e w' => e = .returned (.float .f64 (fsqrt (sqDist p q))) ∧ Below w.heap.size w w' := by
  obtain ⟨d1, d2, m1, m2, s⟩ := sq_ints hp hq sp sq
  have h0 := sq_nonneg hp hq sp sq
  obtain ⟨e1, e2, e3, e4, e5⟩ := sq_runs (p := p) (q := q) ⟨hp.1.1, hp.2.1, hq.1.1, hq.2.1, d1.1, d2.1, m1.1, m2.1⟩ 27
  have hsq := fun w => sqrt_any (sqDist p q) s.1 h0 w
  clear d1 d2 m1 m2 s h0 hp hq sp sq
  go_enter Tryd.func81, Tryd.ntmps81
  go_wp2_with (go_at_call 37; refine (hsq _).mono ?_; rintro e w' ⟨rfl, rfl⟩)
  go_ret
  exact ⟨rfl, below2 _ _ _⟩

theorem pt_isP' {p : Nat × Nat} (h : ptB p = true) : ∃ x y, IsP p x y ∧ Small x ∧ Small y := by
  unfold ptB at h
  rw [Bool.and_eq_true] at h
  obtain ⟨x, hx, h1, h2⟩ := whole_isI h.1
  obtain ⟨y, hy, h3, h4⟩ := whole_isI h.2
  exact ⟨x, y, ⟨hx, hy⟩, ⟨h1, h2⟩, ⟨h3, h4⟩⟩
/-- Whole points, as numbers. -/
def Dat (ps : List (Nat × Nat)) (X Y : Nat → Int) : Prop := ∀ i p, ps[i]? = some p → IsP p (X i) (Y i) ∧ Small (X i) ∧ Small (Y i)
theorem dat_of {ps : List (Nat × Nat)} (h : ∀ p ∈ ps, ptB p = true) : ∃ X Y, Dat ps X Y := by
  have each : ∀ i, i < ps.length → ∃ z : Int × Int, ∀ p, ps[i]? = some p → IsP p z.1 z.2 ∧ Small z.1 ∧ Small z.2 := by
    intro i hi
    obtain ⟨x, y, h1, h2, h3⟩ := pt_isP' (h _ (List.getElem_mem hi))
    refine ⟨(x, y), fun p hp => ?_⟩
    rw [List.getElem?_eq_getElem hi] at hp
    cases hp
    exact ⟨h1, h2, h3⟩
  obtain ⟨f, hf⟩ := Go.Deep.choose_lt each
  exact ⟨fun i => (f i).1, fun i => (f i).2, fun i p hp => hf i (List.getElem?_eq_some_iff.1 hp).1 p hp⟩
end Go.Proofs.YtpbhpplmokdkhaaDoor
