import Derived.Test.YtoibohoelcdomaaSeg
import Derived.Test.YtoibohoelcdomaaDpP
import Derived.StillTailTactics
import Derived.Deep.LoopGhost
namespace Go.Proofs.Ytoibohoelcdomaa
open Go.RowKit Fl

/-- Marks as cells. -/
def marks (n : Nat) (M : Nat → Bool) : Array Value := ((List.range n).map fun i => Value.int .u8 (if M i then 1 else 0)).toArray
/-- Intervals as cells. -/
def flat (st : List (Nat × Nat)) : List Value := st.flatMap fun q => [.int .i64 q.1, .int .i64 q.2]
def Dw (ps : List (Nat × Nat)) (s e i : Nat) : Nat := segSq (ps.getD s (0, 0)) (ps.getD e (0, 0)) (ps.getD i (0, 0))
def pending (ps : List (Nat × Nat)) (t : Nat) (st : List (Nat × Nat)) (i : Nat) : Bool := st.any fun q => Dp.kb (Dw ps) t ps.length q.1 q.2 i
def target (ps : List (Nat × Nat)) (t : Nat) (i : Nat) : Bool := i == 0 || i == ps.length - 1 || Dp.kb (Dw ps) t ps.length 0 (ps.length - 1) i
def meas (st : List (Nat × Nat)) : Nat := (st.map fun q => 2 * (q.2 - q.1) - 1).sum
theorem info_int : (Try.prog.info? 3).map (fun i => (i.zero, i.size, i.bytes)) = some (some (.int .i64 0), 1, 8) := by kernel_rfl


section
variable {w wr w1 : World} {r : Option Nat}
theorem gb_alloc (h : w.grownBy wr r) (o : Obj) : w.grownBy (wr.alloc o) r :=
  ⟨h.os, h.tape, h.output, by have := h.size; simp; omega, fun k hk hr => (Below.heap_alloc wr o k (by have := h.size; omega)).trans (h.block k hk hr)⟩
theorem gb_below (h : w.grownBy wr r) (hb : Below wr.heap.size wr w1) : w.grownBy w1 r :=
  ⟨hb.os.trans h.os, hb.tape.trans h.tape, hb.output.trans h.output, Nat.le_trans h.size hb.size, fun k hk hr => (hb.block k (Nat.lt_of_lt_of_le hk h.size)).trans (h.block k hk hr)⟩
theorem gb_own {r2 : Option Nat} (h : w.grownBy wr r) (hg : wr.grownBy w1 r2) (hr2 : ∀ k, r2 = some k → w.heap.size ≤ k) : w.grownBy w1 r :=
  ⟨hg.os.trans h.os, hg.tape.trans h.tape, hg.output.trans h.output, Nat.le_trans h.size hg.size, fun k hk hr => (hg.block k (Nat.lt_of_lt_of_le hk h.size) (fun e => by have := hr2 k e.symm; omega)).trans (h.block k hk hr)⟩
theorem gb_set {gm : Nat} (h : w.grownBy wr (some gm)) (o : Nat) (u : Value) : w.grownBy (wr.setCell ⟨gm, o, none⟩ u) (some gm) :=
  ⟨h.os, h.tape, h.output, by have := h.size; simpa using this, fun k hk hr => (Below.heap_setCell wr ⟨gm, o, none⟩ u k (fun e => hr (by rw [e]))).trans (h.block k hk hr)⟩
theorem gb_refl (w : World) (r : Option Nat) : w.grownBy w r := ⟨rfl, rfl, rfl, Nat.le_refl _, fun _ _ _ => rfl⟩
theorem gb_drew (h : w.grownBy wr r) : w.grownBy wr.drew r := ⟨h.os, h.tape, h.output, h.size, h.block⟩
theorem pts_grown {g : Nat} {ps : List (Nat × Nat)} (hps : PtsAt w g 0 ps) (h : w.grownBy wr r) (hr : some g ≠ r) : PtsAt wr g 0 ps := by
  intro i p hp
  have := hps i p hp
  exact ⟨h.cell this.1 hr, h.cell this.2 hr⟩
theorem owns_form {base : Nat} {e : TypeId} {size : Nat} {v : Value} {n : Nat} {xs : List Value} (h : w.ownsRow base e size v n xs) :
    ∃ ao cap, v = .slice ao n cap ∧ (0 < n → ∃ g, ao = some ⟨g, 0, none⟩ ∧ base ≤ g ∧ g < w.heap.size ∧ n ≤ cap ∧ cap ≤ maxLen) := by
  rcases h.2 with ⟨rfl, rfl⟩ | ⟨g, cap, cur, rfl, hb, hg, hn, hc, _⟩
  · exact ⟨_, _, rfl, fun h => by omega⟩
  · exact ⟨_, _, rfl, fun _ => ⟨g, rfl, hb, (Array.getElem?_eq_some_iff.1 hg).1, hn, hc⟩⟩
end
theorem flat_length (st : List (Nat × Nat)) : (flat st).length = 2 * st.length := by
  induction st with
  | nil => rfl
  | cons q st ih => simp only [flat, List.flatMap_cons, List.length_append, List.length_cons, List.length_nil] at ih ⊢; omega
theorem flat_snoc (st : List (Nat × Nat)) (q : Nat × Nat) : flat (st ++ [q]) = flat st ++ [.int .i64 q.1, .int .i64 q.2] := by simp [flat]

theorem marks_get (n : Nat) (M : Nat → Bool) (i : Nat) (hi : i < n) : (marks n M)[i]? = some (.int .u8 (if M i then 1 else 0)) := by
  unfold marks
  simp [hi]
theorem marks_congr {n : Nat} {M M' : Nat → Bool} (h : ∀ i, i < n → M i = M' i) : marks n M = marks n M' := by
  unfold marks
  congr 1
  refine List.map_congr_left fun i hi => ?_
  rw [h i (List.mem_range.1 hi)]
theorem marks_size (n : Nat) (M : Nat → Bool) : (marks n M).size = n := by unfold marks; simp
theorem marks_cell {w : World} {gm n : Nat} {M : Nat → Bool} {T : TypeId} (h : w.heap[gm]? = some (.cells (marks n M) T (0, 0))) {i : Nat} (hi : i < n) :
    w.cell? ⟨gm, i, none⟩ = some (.int .u8 (if M i then 1 else 0)) ∧ w.frozen? ⟨gm, i, none⟩ = false := by
  constructor
  · simp [World.cell?, h, marks_get n M i hi]
  · simp [World.frozen?, h]
theorem marks_set {w : World} {gm n : Nat} {M : Nat → Bool} {T : TypeId} (h : w.heap[gm]? = some (.cells (marks n M) T (0, 0))) {i : Nat} (hi : i < n) :
    (w.setCell ⟨gm, i, none⟩ (.int .u8 1)).heap[gm]? = some (.cells (marks n fun j => M j || j == i) T (0, 0)) := by
  have := heap_setCell_same w gm i (marks n M) T (.int .u8 1) h
  rw [this]
  congr 2
  apply Array.ext_getElem?
  intro j
  rw [Array.getElem?_setIfInBounds]
  by_cases hj : j < n
  · rw [marks_get n (fun j => M j || j == i) j hj, marks_size]
    by_cases hij : i = j
    · subst hij; rw [if_pos rfl, if_pos hi]; simp
    · rw [if_neg hij, marks_get n M j hj]
      have : (j == i) = false := by simpa using fun e => hij e.symm
      rw [this, Bool.or_false]
  · have e1 : ∀ M', (marks n M')[j]? = none := fun M' => by rw [Array.getElem?_eq_none_iff, marks_size]; omega
    rw [e1, e1]
    by_cases hij : i = j
    · omega
    · rw [if_neg hij]

/-- All the distances are numbers. -/
def Nums (ps : List (Nat × Nat)) : Prop := ∀ s e i, s < i → i < e → e < ps.length → IsFin (Dw ps s e i)
theorem kb_in {D : Nat → Nat → Nat → Nat} {t n : Nat} (hf : ∀ s e i, s < i → i < e → e < n → IsFin (D s e i)) (ht : IsFin t) (h0 : 0 ≤ val t) :
    ∀ (k : Nat) {s e i : Nat}, e < n → Dp.kb D t k s e i = true → s < i ∧ i < e := by
  intro k
  induction k with
  | zero => intro s e i _ h; simp [Dp.kb] at h
  | succ k ih =>
    intro s e i he h
    simp only [Dp.kb] at h
    split at h
    · cases h
    · rename_i m hm
      have hb := Dp.best_some (fun i a b => hf s e i a b he) ht h0 hm
      split at h
      · have := ih (by omega) h; omega
      · split at h
        · omega
        · have := ih he h; omega

section
variable {ps : List (Nat × Nat)} {t : Nat} {M : Nat → Bool} {st : List (Nat × Nat)} {s e m : Nat}
theorem pending_snoc (i : Nat) : pending ps t (st ++ [(s, e)]) i = (pending ps t st i || Dp.kb (Dw ps) t ps.length s e i) := by
  unfold pending; rw [List.any_append]; simp
theorem inv_split (hf : Nums ps) (ht : IsFin t) (h0 : 0 ≤ val t) (he : e < ps.length) (hm : Dp.best (Dw ps) t s e = some m)
    (h : ∀ i, i < ps.length → (M i || pending ps t (st ++ [(s, e)]) i) = target ps t i) :
    ∀ i, i < ps.length → ((M i || i == m) || pending ps t (st ++ [(s, m)] ++ [(m, e)]) i) = target ps t i := by
  intro i hi
  rw [← h i hi, pending_snoc, pending_snoc, pending_snoc]
  have hb := Dp.best_some (fun i a b => hf s e i a b he) ht h0 hm
  obtain ⟨N, hN⟩ : ∃ N, ps.length = N + 1 := ⟨ps.length - 1, by omega⟩
  have e1 : Dp.kb (Dw ps) t ps.length s m i = Dp.kb (Dw ps) t N s m i := by
    rw [Dp.kb_more hf ht h0 (m - s) (Nat.le_refl _) (by omega) ps.length (by omega), Dp.kb_more hf ht h0 (m - s) (Nat.le_refl _) (by omega) N (by omega)]
  have e2 : Dp.kb (Dw ps) t ps.length m e i = Dp.kb (Dw ps) t N m e i := by
    rw [Dp.kb_more hf ht h0 (e - m) (Nat.le_refl _) (by omega) ps.length (by omega), Dp.kb_more hf ht h0 (e - m) (Nat.le_refl _) (by omega) N (by omega)]
  have e3 : Dp.kb (Dw ps) t ps.length s e i = (if i < m then Dp.kb (Dw ps) t N s m i else if i = m then true else Dp.kb (Dw ps) t N m e i) := by
    rw [hN]; simp only [Dp.kb, hm]
  rw [e1, e2, e3]
  by_cases h1 : i < m
  · rw [if_pos h1]
    have h2 : Dp.kb (Dw ps) t N m e i = false := by
      by_cases hc : Dp.kb (Dw ps) t N m e i = true
      · have := kb_in hf ht h0 N he hc; omega
      · simpa using hc
    have h3 : (i == m) = false := by simp; omega
    rw [h2, h3]; simp
  · rw [if_neg h1]
    have h2 : Dp.kb (Dw ps) t N s m i = false := by
      by_cases hc : Dp.kb (Dw ps) t N s m i = true
      · have := kb_in hf ht h0 N (by omega) hc; omega
      · simpa using hc
    rw [h2]
    by_cases h4 : i = m
    · subst h4; rw [if_pos rfl]; simp
    · rw [if_neg h4]
      have h3 : (i == m) = false := by simpa using h4
      rw [h3]; simp
theorem inv_pop (hm : Dp.best (Dw ps) t s e = none) (h : ∀ i, i < ps.length → (M i || pending ps t (st ++ [(s, e)]) i) = target ps t i) :
    ∀ i, i < ps.length → (M i || pending ps t st i) = target ps t i := by
  intro i hi
  rw [← h i hi, pending_snoc]
  have : Dp.kb (Dw ps) t ps.length s e i = false := by
    obtain ⟨N, hN⟩ : ∃ N, ps.length = N + 1 := ⟨ps.length - 1, by omega⟩
    rw [hN]; simp [Dp.kb, hm]
  rw [this]; simp
theorem meas_snoc : meas (st ++ [(s, e)]) = meas st + (2 * (e - s) - 1) := by unfold meas; simp
end
theorem scan_next {g : Nat → Nat} {s j x m : Nat} (hj : s + 1 ≤ j) (h : Dp.scan g s (j - s - 1) = (x, m)) :
    Dp.scan g s (j + 1 - s - 1) = if Ieee.double.order (g j) x == some .gt then (g j, j) else (x, m) := by
  have e1 : j + 1 - s - 1 = (j - s - 1) + 1 := by omega
  have e2 : s + 1 + (j - s - 1) = j := by omega
  rw [e1]
  simp only [Dp.scan]
  rw [e2, h]
theorem pt_isP {p : Nat × Nat} (h : ptB p = true) : ∃ x y, IsP p x y ∧ Small x ∧ Small y := by
  unfold ptB at h
  rw [Bool.and_eq_true] at h
  obtain ⟨x, hx, h1, h2⟩ := whole_isI h.1
  obtain ⟨y, hy, h3, h4⟩ := whole_isI h.2
  exact ⟨x, y, ⟨hx, hy⟩, ⟨h1, h2⟩, ⟨h3, h4⟩⟩
theorem nums_of {ps : List (Nat × Nat)} (h : ∀ p ∈ ps, ptB p = true) : Nums ps := by
  intro s e i h1 h2 h3
  have g : ∀ j, j < ps.length → ptB (ps.getD j (0, 0)) = true := fun j hj => by
    have : ps.getD j (0, 0) = ps[j] := by simp [List.getD, List.getElem?_eq_getElem hj]
    rw [this]; exact h _ (List.getElem_mem hj)
  obtain ⟨ax, ay, ha, sa⟩ := pt_isP (g s (by omega))
  obtain ⟨bx, b_y, hb, sb⟩ := pt_isP (g e h3)
  obtain ⟨px, py, hp, sp⟩ := pt_isP (g i (by omega))
  exact (segSq_fin ha hb hp sa sb sp).1
theorem flat_set {st : List (Nat × Nat)} {s e m L : Nat} (hL : (flat st).length = L) : (flat st ++ [Value.int .i64 s, Value.int .i64 e]).set (L + 1) (.int .i64 m) = flat (st ++ [(s, m)]) := by
  rw [flat_snoc, List.set_append_right _ _ (by omega), hL]
  simp
end Go.Proofs.Ytoibohoelcdomaa
