/- The plain law of the rule of Douglas and Peucker: what the program's marks are, and that a simpler line stays. -/
import Derived.Test.YtoibohoelcdomaaFlE
namespace Dp
open Fl

/-! ### What is kept, as a relation on lists -/
section
variable {α : Type} (f : α → α → α → Rat) (T : Rat)
/-- Of the points between a and b these are kept. -/
def Kept : Nat → α → List α → α → List α → Prop
  | 0, _, mid, _, X => mid = [] ∧ X = []
  | n + 1, a, mid, b, X => ((∀ x ∈ mid, f a b x ≤ T) ∧ X = []) ∨
      ∃ l m r L R, mid = l ++ m :: r ∧ T < f a b m ∧ (∀ x ∈ l, f a b x < f a b m) ∧ (∀ x ∈ r, f a b x ≤ f a b m) ∧ Kept n a l m L ∧ Kept n m r b R ∧ X = L ++ m :: R

variable {f T}
theorem kept_sub : ∀ {n : Nat} {a b : α} {mid X : List α}, Kept f T n a mid b X → ∀ x ∈ X, x ∈ mid := by
  intro n
  induction n with
  | zero => intro a b mid X h; obtain ⟨_, rfl⟩ := h; intro x hx; simp at hx
  | succ n ih =>
    intro a b mid X h
    rcases h with ⟨_, rfl⟩ | ⟨l, m, r, L, R, rfl, _, _, _, hL, hR, rfl⟩
    · intro x hx; simp at hx
    · intro x hx
      rcases List.mem_append.1 hx with h | h
      · exact List.mem_append.2 (.inl (ih hL x h))
      · rcases List.mem_cons.1 h with h | h
        · subst h; simp
        · exact List.mem_append.2 (.inr (List.mem_cons.2 (.inr (ih hR x h))))

/-- The first greatest splits a list in one way only. -/
theorem split_unique {g : α → Rat} : ∀ {l l' r r' : List α} {m m' : α}, l ++ m :: r = l' ++ m' :: r' →
    (∀ x ∈ l, g x < g m) → (∀ x ∈ r, g x ≤ g m) → (∀ x ∈ l', g x < g m') → (∀ x ∈ r', g x ≤ g m') → l = l' ∧ m = m' ∧ r = r' := by
  intro l
  induction l with
  | nil =>
    intro l' r r' m m' h h1 h2 h3 h4
    cases l' with
    | nil => simp at h; exact ⟨rfl, h.1, h.2⟩
    | cons y l' =>
      exfalso
      simp only [List.nil_append, List.cons_append, List.cons.injEq] at h
      obtain ⟨rfl, rfl⟩ := h
      have a1 := h3 m (by simp)
      have a2 := h2 m' (by simp)
      grind
  | cons x l ih =>
    intro l' r r' m m' h h1 h2 h3 h4
    cases l' with
    | nil =>
      exfalso
      simp only [List.nil_append, List.cons_append, List.cons.injEq] at h
      obtain ⟨rfl, rfl⟩ := h
      have a1 := h1 x (by simp)
      have a2 := h4 m (by simp)
      grind
    | cons y l' =>
      simp only [List.cons_append, List.cons.injEq] at h
      obtain ⟨rfl, h⟩ := h
      obtain ⟨rfl, rfl, rfl⟩ := ih h (fun z hz => h1 z (by simp [hz])) h2 (fun z hz => h3 z (by simp [hz])) h4
      exact ⟨rfl, rfl, rfl⟩

theorem kept_unique : ∀ {n k : Nat} {a b : α} {mid X Y : List α}, Kept f T n a mid b X → Kept f T k a mid b Y → X = Y := by
  intro n
  induction n with
  | zero =>
    intro k a b mid X Y h1 h2
    obtain ⟨rfl, rfl⟩ := h1
    cases k with
    | zero => exact h2.2.symm
    | succ k =>
      rcases h2 with ⟨_, rfl⟩ | ⟨l, m, r, L, R, h, _⟩
      · rfl
      · simp at h
  | succ n ih =>
    intro k a b mid X Y h1 h2
    rcases h1 with ⟨ha, rfl⟩ | ⟨l, m, r, L, R, rfl, hT, hl, hr, hL, hR, rfl⟩
    · cases k with
      | zero => exact h2.2.symm
      | succ k =>
        rcases h2 with ⟨_, rfl⟩ | ⟨l, m, r, L, R, rfl, hT, _⟩
        · rfl
        · have := ha m (by simp); exact absurd hT (by grind)
    · cases k with
      | zero => have := h2.1; simp at this
      | succ k =>
        rcases h2 with ⟨ha, _⟩ | ⟨l', m', r', L', R', h, hT', hl', hr', hL', hR', rfl⟩
        · have := ha m (by simp); exact absurd hT (by grind)
        · obtain ⟨rfl, rfl, rfl⟩ := split_unique h hl hr hl' hr'
          rw [ih hL hL', ih hR hR']

/-- What is kept is kept again. -/
theorem kept_again : ∀ {n : Nat} {a b : α} {mid X : List α}, Kept f T n a mid b X → Kept f T n a X b X := by
  intro n
  induction n with
  | zero => intro a b mid X h; exact ⟨h.2, h.2⟩
  | succ n ih =>
    intro a b mid X h
    rcases h with ⟨_, rfl⟩ | ⟨l, m, r, L, R, rfl, hT, hl, hr, hL, hR, rfl⟩
    · exact .inl ⟨by simp, rfl⟩
    · exact .inr ⟨L, m, R, L, R, rfl, hT, fun x hx => hl x (kept_sub hL x hx), fun x hx => hr x (kept_sub hR x hx), ih hL, ih hR, rfl⟩

theorem kept_more : ∀ {n : Nat} {a b : α} {mid X : List α}, Kept f T n a mid b X → Kept f T (n + 1) a mid b X := by
  intro n
  induction n with
  | zero => intro a b mid X h; obtain ⟨rfl, rfl⟩ := h; exact .inl ⟨by simp, rfl⟩
  | succ n ih =>
    intro a b mid X h
    rcases h with h | ⟨l, m, r, L, R, rfl, hT, hl, hr, hL, hR, rfl⟩
    · exact .inl h
    · exact .inr ⟨l, m, r, L, R, rfl, hT, hl, hr, ih hL, ih hR, rfl⟩
end

/-! ### What the program's marks are -/
/-- The first greatest of k numbers from place s + 1 on, as the program looks for it: its word, and its place. -/
def scan (g : Nat → Nat) (s : Nat) : Nat → Nat × Nat
  | 0 => (0, 0)
  | k + 1 => if Ieee.double.order (g (s + 1 + k)) (scan g s k).1 == some .gt then (g (s + 1 + k), s + 1 + k) else scan g s k

/-- Where the interval from s to e is split. -/
def best (D : Nat → Nat → Nat → Nat) (t : Nat) (s e : Nat) : Option Nat :=
  if Ieee.double.order (scan (D s e) s (e - s - 1)).1 t == some .gt then some (scan (D s e) s (e - s - 1)).2 else none

/-- The point i between s and e is kept. -/
def kb (D : Nat → Nat → Nat → Nat) (t : Nat) : Nat → Nat → Nat → Nat → Bool
  | 0, _, _, _ => false
  | n + 1, s, e, i =>
    match best D t s e with
    | none => false
    | some m => if i < m then kb D t n s m i else if i = m then true else kb D t n m e i

section
variable {D : Nat → Nat → Nat → Nat} {t : Nat}
theorem scan_spec {g : Nat → Nat} {s : Nat} : ∀ {k : Nat}, (∀ i, s < i → i ≤ s + k → IsFin (g i)) →
    IsFin (scan g s k).1 ∧ 0 ≤ val (scan g s k).1 ∧ (∀ i, s < i → i ≤ s + k → val (g i) ≤ val (scan g s k).1) ∧
    ((scan g s k = (0, 0)) ∨ (s < (scan g s k).2 ∧ (scan g s k).2 ≤ s + k ∧ (scan g s k).1 = g (scan g s k).2 ∧ ∀ i, s < i → i < (scan g s k).2 → val (g i) < val (scan g s k).1)) := by
  intro k
  induction k with
  | zero => intro _; exact ⟨isI_lit0.1, by rw [show (scan g s 0).1 = 0 from rfl, isI_lit0.2]; exact Rat.le_refl, fun i h1 h2 => by omega, .inl rfl⟩
  | succ k ih =>
    intro hf
    obtain ⟨h1, h2, h3, h4⟩ := ih (fun i a b => hf i a (by omega))
    have hg := hf (s + 1 + k) (by omega) (by omega)
    have hgt := gt_iff hg h1
    simp only [scan]
    by_cases hc : val (scan g s k).1 < val (g (s + 1 + k))
    · rw [hgt, decide_eq_true hc, if_pos rfl]
      refine ⟨hg, by grind, ?_, .inr ⟨by omega, by omega, rfl, ?_⟩⟩
      · intro i a b
        by_cases hi : i = s + 1 + k
        · subst hi; exact Rat.le_refl
        · have := h3 i a (by omega); grind
      · intro i a b
        have := h3 i a (by simp only at b; omega); grind
    · rw [hgt, decide_eq_false hc, if_neg (by simp)]
      refine ⟨h1, h2, ?_, ?_⟩
      · intro i a b
        by_cases hi : i = s + 1 + k
        · subst hi; grind
        · exact h3 i a (by omega)
      · rcases h4 with h | ⟨a, b, c, d⟩
        · exact .inl h
        · exact .inr ⟨a, by omega, c, d⟩

theorem best_some {s e m : Nat} (hf : ∀ i, s < i → i < e → IsFin (D s e i)) (ht : IsFin t) (h0 : 0 ≤ val t) (h : best D t s e = some m) :
    s < m ∧ m < e ∧ val t < val (D s e m) ∧ (∀ i, s < i → i < m → val (D s e i) < val (D s e m)) ∧ (∀ i, m < i → i < e → val (D s e i) ≤ val (D s e m)) := by
  obtain ⟨h1, h2, h3, h4⟩ := scan_spec (g := D s e) (s := s) (k := e - s - 1) (fun i a b => hf i a (by omega))
  unfold best at h
  rw [gt_iff h1 ht] at h
  split at h
  · rename_i hc
    have hc := of_decide_eq_true hc
    simp only [Option.some.injEq] at h
    rw [h] at h4
    rcases h4 with h4 | ⟨a, b, c, d⟩
    · rw [h4] at hc; rw [isI_lit0.2] at hc
      have : ((0 : Int) : Rat) = 0 := rfl
      rw [this] at hc; grind
    · rw [c] at hc d h3
      exact ⟨a, by omega, hc, d, fun i hi hie => h3 i (by omega) (by omega)⟩
  · cases h
theorem best_none {s e : Nat} (hf : ∀ i, s < i → i < e → IsFin (D s e i)) (ht : IsFin t) (h : best D t s e = none) :
    ∀ i, s < i → i < e → val (D s e i) ≤ val t := by
  obtain ⟨h1, h2, h3, h4⟩ := scan_spec (g := D s e) (s := s) (k := e - s - 1) (fun i a b => hf i a (by omega))
  unfold best at h
  rw [gt_iff h1 ht] at h
  split at h
  · cases h
  · rename_i hc
    simp only [decide_eq_true_eq] at hc
    intro i a b
    have := h3 i a (by omega)
    grind

/-- More turns change nothing. -/
theorem kb_more {n : Nat} (hf : ∀ s e i, s < i → i < e → e < n → IsFin (D s e i)) (ht : IsFin t) (h0 : 0 ≤ val t) :
    ∀ (k : Nat) {s e : Nat}, e - s ≤ k → e < n → ∀ (j : Nat), k ≤ j → ∀ i, kb D t j s e i = kb D t k s e i := by
  intro k
  induction k with
  | zero =>
    intro s e hk he j hj i
    cases j with
    | zero => rfl
    | succ j =>
      simp only [kb]
      split
      · rfl
      · rename_i m hm
        have := best_some (fun i a b => hf s e i a b he) ht h0 hm
        omega
  | succ k ih =>
    intro s e hk he j hj i
    cases j with
    | zero => omega
    | succ j =>
      simp only [kb]
      split
      · rfl
      · rename_i m hm
        have hb := best_some (fun i a b => hf s e i a b he) ht h0 hm
        rw [ih (s := s) (e := m) (by omega) (by omega) j (by omega), ih (s := m) (e := e) (by omega) he j (by omega)]

/-- Points from place s + 1 to place e - 1. -/
def slice {α : Type} (p : Nat → α) (s e : Nat) : List α := (List.range' (s + 1) (e - s - 1)).map p
theorem range_split {s e m : Nat} (h1 : s < m) (h2 : m < e) : List.range' (s + 1) (e - s - 1) = List.range' (s + 1) (m - s - 1) ++ m :: List.range' (m + 1) (e - m - 1) := by
  have e1 : e - s - 1 = (m - s - 1) + (1 + (e - m - 1)) := by omega
  have e2 : s + 1 + (m - s - 1) = m := by omega
  rw [e1, ← List.range'_append_1, e2]
  congr 1
  rw [Nat.add_comm 1, List.range'_succ]

theorem filter_range {s e : Nat} {q r : Nat → Bool} (h : ∀ i, s < i → i < e → q i = r i) : (List.range' (s + 1) (e - s - 1)).filter q = (List.range' (s + 1) (e - s - 1)).filter r := by
  refine List.filter_congr fun i hi => ?_
  rw [List.mem_range'_1] at hi
  exact h i (by omega) (by omega)

/-- The points that are marked are those that are kept. -/
theorem kept_marks {α : Type} {f : α → α → α → Rat} {p : Nat → α} {n : Nat} (hf : ∀ s e i, s < i → i < e → e < n → IsFin (D s e i) ∧ val (D s e i) = f (p s) (p e) (p i)) (ht : IsFin t) (h0 : 0 ≤ val t) :
    ∀ (k : Nat) {s e : Nat}, e - s ≤ k → s < e → e < n → Kept f (val t) k (p s) (slice p s e) (p e) (((List.range' (s + 1) (e - s - 1)).filter (kb D t k s e)).map p) := by
  intro k
  induction k with
  | zero => intro s e hk hs; omega
  | succ k ih =>
    intro s e hk hs he
    have hf1 : ∀ i, s < i → i < e → IsFin (D s e i) := fun i a b => (hf s e i a b he).1
    cases hb : best D t s e with
    | none =>
      have hn := best_none hf1 ht hb
      left
      constructor
      · intro x hx
        unfold slice at hx
        rw [List.mem_map] at hx
        obtain ⟨i, hi, rfl⟩ := hx
        rw [List.mem_range'_1] at hi
        have := hn i (by omega) (by omega)
        rw [(hf s e i (by omega) (by omega) he).2] at this
        exact this
      · have : (List.range' (s + 1) (e - s - 1)).filter (kb D t (k + 1) s e) = [] := by
          rw [List.filter_eq_nil_iff]
          intro i _
          simp [kb, hb]
        rw [this]; rfl
    | some m =>
      obtain ⟨a1, a2, a3, a4, a5⟩ := best_some hf1 ht h0 hb
      right
      refine ⟨slice p s m, p m, slice p m e, _, _, ?_, ?_, ?_, ?_, ih (s := s) (e := m) (by omega) a1 (by omega), ih (s := m) (e := e) (by omega) a2 he, ?_⟩
      · unfold slice; rw [range_split a1 a2, List.map_append, List.map_cons]
      · rw [(hf s e m a1 a2 he).2] at a3; exact a3
      · intro x hx
        unfold slice at hx
        rw [List.mem_map] at hx
        obtain ⟨i, hi, rfl⟩ := hx
        rw [List.mem_range'_1] at hi
        have := a4 i (by omega) (by omega)
        rw [(hf s e i (by omega) (by omega) he).2, (hf s e m a1 a2 he).2] at this
        exact this
      · intro x hx
        unfold slice at hx
        rw [List.mem_map] at hx
        obtain ⟨i, hi, rfl⟩ := hx
        rw [List.mem_range'_1] at hi
        have := a5 i (by omega) (by omega)
        rw [(hf s e i (by omega) (by omega) he).2, (hf s e m a1 a2 he).2] at this
        exact this
      · rw [range_split a1 a2, List.filter_append, List.map_append]
        have hm : kb D t (k + 1) s e m = true := by simp [kb, hb]
        rw [List.filter_cons_of_pos hm, List.map_cons]
        rw [filter_range (q := kb D t (k + 1) s e) (r := kb D t k s m) (by intro i h1 h2; simp [kb, hb, h2])]
        rw [filter_range (q := kb D t (k + 1) s e) (r := kb D t k m e) (by intro i h1 h2; simp [kb, hb, show ¬ i < m by omega, show i ≠ m by omega])]
end
end Dp
