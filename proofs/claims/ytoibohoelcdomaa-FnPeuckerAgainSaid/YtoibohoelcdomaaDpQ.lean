/- A line that is made simpler stays what it is: the plain law on the points that are kept; what the threshold is. -/
import Derived.Test.YtoibohoelcdomaaDpR
namespace Go.Proofs.Ytoibohoelcdomaa
open Go.RowKit Fl

def fD (a b x : Nat × Nat) : Rat := val (segSq a b x)

theorem getD_mem {ps : List (Nat × Nat)} {i : Nat} (h : i < ps.length) : ps.getD i (0, 0) ∈ ps := by
  have : ps.getD i (0, 0) = ps[i] := by simp [List.getD, List.getElem?_eq_getElem h]
  rw [this]; exact List.getElem_mem h

theorem range_ends {n : Nat} (h : 2 ≤ n) : List.range n = 0 :: (List.range' 1 (n - 2) ++ [n - 1]) := by
  obtain ⟨m, rfl⟩ : ∃ m, n = m + 2 := ⟨n - 2, by omega⟩
  rw [List.range_succ, List.range_eq_range', List.range'_succ]
  simp

theorem slice_all {ps : List (Nat × Nat)} (h : 2 ≤ ps.length) : ps = ps.getD 0 (0, 0) :: (Dp.slice (fun i => ps.getD i (0, 0)) 0 (ps.length - 1) ++ [ps.getD (ps.length - 1) (0, 0)]) := by
  have e : ps = (List.range ps.length).map fun i => ps.getD i (0, 0) := by
    apply List.ext_getElem?
    intro i
    by_cases hi : i < ps.length
    · simp [hi, List.getD]
    · simp [hi]
  have e2 := e
  rw [range_ends h, List.map_cons, List.map_append] at e2
  unfold Dp.slice
  rw [show ps.length - 1 - 0 - 1 = ps.length - 2 by omega]
  exact e2

/-- What is kept of a line, by its ends. -/
theorem keptTo_form {ps : List (Nat × Nat)} {t : Nat} (h2 : 2 ≤ ps.length) (hwh : ∀ p ∈ ps, ptB p = true) (ht : IsFin t) (h0 : 0 ≤ val t) :
    ∃ a mid b X k, ps = a :: (mid ++ [b]) ∧ keptTo ps t ps.length = a :: (X ++ [b]) ∧ Dp.Kept fD (val t) k a mid b X := by
  have hnum := nums_of hwh
  refine ⟨_, _, _, ((List.range' (0 + 1) (ps.length - 1 - 0 - 1)).filter (Dp.kb (Dw ps) t (ps.length - 1) 0 (ps.length - 1))).map (fun i => ps.getD i (0, 0)), ps.length - 1, slice_all h2, ?_, ?_⟩
  · unfold keptTo
    rw [range_ends h2]
    have t0 : target ps t 0 = true := by unfold target; simp
    have t1 : target ps t (ps.length - 1) = true := by unfold target; simp
    rw [List.filter_cons_of_pos t0, List.filter_append, List.map_cons, List.map_append]
    have e1 : List.filter (target ps t) [ps.length - 1] = [ps.length - 1] := by rw [List.filter_cons_of_pos t1]; rfl
    rw [e1]
    have e2 : List.filter (target ps t) (List.range' 1 (ps.length - 2)) = (List.range' (0 + 1) (ps.length - 1 - 0 - 1)).filter (Dp.kb (Dw ps) t (ps.length - 1) 0 (ps.length - 1)) := by
      rw [show ps.length - 2 = ps.length - 1 - 0 - 1 by omega]
      refine Dp.filter_range (s := 0) (e := ps.length - 1) ?_
      intro i h1 h3
      unfold target
      have a1 : (i == 0) = false := by simp; omega
      have a2 : (i == ps.length - 1) = false := by simp; omega
      rw [a1, a2, Dp.kb_more hnum ht h0 (ps.length - 1) (s := 0) (e := ps.length - 1) (by omega) (by omega) ps.length (by omega)]
      rfl
    rw [e2]
    rfl
  · exact Dp.kept_marks (D := Dw ps) (t := t) (f := fD) (p := fun i => ps.getD i (0, 0)) (n := ps.length) (fun s e i a b c => ⟨hnum s e i a b c, rfl⟩) ht h0 (ps.length - 1) (s := 0) (e := ps.length - 1) (by omega) (by omega) (by omega)

theorem keptTo_mem {ps : List (Nat × Nat)} {t : Nat} : ∀ p ∈ keptTo ps t ps.length, p ∈ ps := by
  intro p hp
  unfold keptTo at hp
  rw [List.mem_map] at hp
  obtain ⟨i, hi, rfl⟩ := hp
  exact getD_mem (List.mem_range.1 (List.mem_filter.1 hi).1)
theorem peuOut_mem {ps : List (Nat × Nat)} {t : Nat} : ∀ p ∈ peuOut ps t, p ∈ ps := by
  intro p hp
  unfold peuOut at hp
  split at hp
  · exact hp
  · exact keptTo_mem p hp
theorem peuOut_two {ps : List (Nat × Nat)} {t : Nat} (h2 : 2 ≤ ps.length) (hwh : ∀ p ∈ ps, ptB p = true) (ht : IsFin t) (h0 : 0 ≤ val t) : 2 ≤ (peuOut ps t).length := by
  unfold peuOut
  split
  · exact h2
  · obtain ⟨a, mid, b, X, k, h1, h3, _⟩ := keptTo_form h2 hwh ht h0
    rw [h3]; simp

/-- THE PLAIN LAW. -/
theorem peu_again {ps : List (Nat × Nat)} {t : Nat} (h2 : 2 ≤ ps.length) (hwh : ∀ p ∈ ps, ptB p = true) (ht : IsFin t) (h0 : 0 ≤ val t) : peuOut (peuOut ps t) t = peuOut ps t := by
  by_cases hl : ps.length ≤ 2
  · have : peuOut ps t = ps := by unfold peuOut; rw [if_pos hl]
    rw [this]; exact this
  · have e1 : peuOut ps t = keptTo ps t ps.length := by unfold peuOut; rw [if_neg hl]
    obtain ⟨a, mid, b, X, k, h1, h3, hk⟩ := keptTo_form h2 hwh ht h0
    have hq2 := peuOut_two h2 hwh ht h0
    have hqw : ∀ p ∈ peuOut ps t, ptB p = true := fun p hp => hwh p (peuOut_mem p hp)
    obtain ⟨a', mid', b', X', k', g1, g3, gk⟩ := keptTo_form hq2 hqw ht h0
    by_cases hl2 : (peuOut ps t).length ≤ 2
    · unfold peuOut at hl2 ⊢; rw [if_neg hl] at hl2 ⊢; rw [if_pos hl2]
    · have e2 : peuOut (peuOut ps t) t = keptTo (peuOut ps t) t (peuOut ps t).length := by
        rw [peuOut, if_neg hl2]
      rw [e2, g3]
      rw [e1, h3] at g1 ⊢
      simp only [List.cons.injEq] at g1
      obtain ⟨h5, h6⟩ := g1
      obtain ⟨h7, h8⟩ := List.append_inj' h6 rfl
      have h9 : b = b' := by simpa using h8
      subst h5
      subst h7
      subst h9
      rw [Dp.kept_unique (Dp.kept_again hk) gk]

/-! ### The threshold -/
theorem order_inf (s : Bool) {x y : Nat} (hx : Ieee.double.read x = .infinity s) (hy : IsFin y) : Ieee.double.order x y = some (if s then .lt else .gt) := by
  obtain ⟨t, m, e, hy⟩ := hy
  unfold Ieee.Format.order
  rw [hx, hy]; rfl
theorem thr_fin {x : Nat} (h1 : (FloatKind.f64.format.order x 0 == some .gt || FloatKind.f64.format.order x 0 == some .eq) = true)
    (h2 : (FloatKind.f64.format.order x 4652007308841189376 == some .lt || FloatKind.f64.format.order x 4652007308841189376 == some .eq) = true) : IsFin x ∧ 0 ≤ val x ∧ val x ≤ 1000 := by
  have h1 : (Ieee.double.order x 0 == some .gt || Ieee.double.order x 0 == some .eq) = true := h1
  have h2 : (Ieee.double.order x 4652007308841189376 == some .lt || Ieee.double.order x 4652007308841189376 == some .eq) = true := h2
  have hf : IsFin x := by
    cases hd : Ieee.double.read x with
    | nan s t =>
      unfold Ieee.Format.order at h1
      rw [hd] at h1
      simp [Ieee.Datum.order] at h1
    | infinity s =>
      rw [order_inf s hd isI_lit0.1] at h1
      rw [order_inf s hd isI_lit1000.1] at h2
      cases s <;> simp at h1 h2
    | number s m e => exact ⟨s, m, e, hd⟩
  refine ⟨hf, ?_, ?_⟩
  · rw [gt_iff hf isI_lit0.1, eq_iff hf isI_lit0.1, isI_lit0.2] at h1
    have e : ((0 : Int) : Rat) = 0 := rfl
    rw [e] at h1
    simp only [Bool.or_eq_true, decide_eq_true_eq] at h1
    grind
  · rw [lt_iff hf isI_lit1000.1, eq_iff hf isI_lit1000.1, isI_lit1000.2] at h2
    have e : ((1000 : Int) : Rat) = 1000 := rfl
    rw [e] at h2
    simp only [Bool.or_eq_true, decide_eq_true_eq] at h2
    grind
theorem p2_10 : p2 10 = 1024 := p2_nat 10
theorem sq_thr {x : Nat} (hf : IsFin x) (h0 : 0 ≤ val x) (h1 : val x ≤ 1000) : IsFin (fmul x x) ∧ 0 ≤ val (fmul x x) := by
  have hb : Bd x 10 := ⟨hf, by rw [p2_10]; grind, by rw [p2_10]; grind⟩
  have hm := bd_mul hb hb (by omega) (by omega)
  refine ⟨hm.1, ?_⟩
  obtain ⟨s, m, e, hr⟩ := hf
  have : fmul x x = Ieee.double.nearest false (m * m) (e + e) := by
    unfold fmul Ieee.Format.mul
    rw [hr]
    simp only [Ieee.Datum.product, Option.map_some, Option.getD_some, Bool.xor_self]
    rfl
  have hv : ((m * m : Nat) : Rat) * p2 (e + e) < p2 1023 := by
    have h3 : ((m * m : Nat) : Rat) * p2 (e + e) = val x * val x := by
      rw [val_of hr, natr_mul, p2_add]
      cases s <;> simp only [sg] <;> grind
    rw [h3]
    have h4 := abs_mul_le (a := val x) (b := val x) (A := 1024) (B := 1024) (by grind) (by grind) (by grind) (by grind)
    have h5 : p2 20 < p2 1023 := p2_lt (by omega)
    have h6 : p2 20 = 1048576 := p2_nat 20
    grind
  obtain ⟨m', e', hr', _⟩ := read_nearest false (m * m) (e + e) hv
  rw [this, val_of hr']
  have := Rat.mul_nonneg (natr_nonneg m') (Rat.le_of_lt (p2_pos e'))
  simp only [sg]; grind
end Go.Proofs.Ytoibohoelcdomaa
