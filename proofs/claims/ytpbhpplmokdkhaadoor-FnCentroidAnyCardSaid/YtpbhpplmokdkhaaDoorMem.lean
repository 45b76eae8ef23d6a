/- Points in memory: two cells each; the plain laws that the walks over lists of points want. -/
import Derived.Test.YtpbhpplmokdkhaaDoorBase
namespace Go.Proofs.YtpbhpplmokdkhaaDoor
open Go.RowKit Fl

/-- Points as cells. -/
def pc (ps : List (Nat × Nat)) : List Value := ps.flatMap fun p => [.float .f64 p.1, .float .f64 p.2]
/-- The points lie at a place. -/
def PtsAt (w : World) (b off : Nat) (ps : List (Nat × Nat)) : Prop :=
  ∀ i p, ps[i]? = some p → w.cell? ⟨b, off + i * 2, none⟩ = some (.float .f64 p.1) ∧ w.cell? ⟨b, off + i * 2 + 1, none⟩ = some (.float .f64 p.2)
/-- A slice that reads as these points: of an empty one nothing is asked of the place. -/
def IsPts (w : World) (v : Value) (ps : List (Nat × Nat)) : Prop :=
  ∃ ao cap, v = .slice ao ps.length cap ∧ (ps = [] ∨ ∃ b off, ao = some ⟨b, off, none⟩ ∧ PtsAt w b off ps)

theorem pc_length (ps : List (Nat × Nat)) : (pc ps).length = ps.length * 2 := by
  induction ps with
  | nil => rfl
  | cons p ps ih => simp only [pc, List.flatMap_cons, List.length_append, List.length_cons, List.length_nil] at ih ⊢; omega
theorem pc_append (ps qs : List (Nat × Nat)) : pc (ps ++ qs) = pc ps ++ pc qs := by simp [pc]
theorem pc_one (p : Nat × Nat) : pc [p] = [.float .f64 p.1, .float .f64 p.2] := rfl
theorem pc_get (ps : List (Nat × Nat)) : ∀ i p, ps[i]? = some p → (pc ps)[i * 2]? = some (.float .f64 p.1) ∧ (pc ps)[i * 2 + 1]? = some (.float .f64 p.2) := by
  induction ps with
  | nil => intro i p h; simp at h
  | cons q ps ih =>
    intro i p h
    cases i with
    | zero => simp at h; subst h; exact ⟨rfl, rfl⟩
    | succ i =>
      have h' : ps[i]? = some p := by simpa using h
      have := ih i p h'
      have e1 : (i + 1) * 2 = i * 2 + 1 + 1 := by omega
      have e2 : pc (q :: ps) = .float .f64 q.1 :: .float .f64 q.2 :: pc ps := rfl
      rw [e1, e2]
      simpa using this
theorem take_snoc {α : Type} (l : List α) (k : Nat) (x : α) (h : l[k]? = some x) : l.take (k + 1) = l.take k ++ [x] := by
  rw [List.take_add_one, h]; rfl

theorem PtsAt.get {w : World} {b off : Nat} {ps : List (Nat × Nat)} (h : PtsAt w b off ps) {i : Nat} (hi : i < ps.length) :
    w.cell? ⟨b, off + i * 2, none⟩ = some (.float .f64 ps[i].1) ∧ w.cell? ⟨b, off + i * 2 + 1, none⟩ = some (.float .f64 ps[i].2) :=
  h i ps[i] (List.getElem?_eq_getElem hi)
theorem PtsAt.later {w w' : World} {b off B : Nat} {ps : List (Nat × Nat)} (h : PtsAt w b off ps) (hb : Below B w w') (hB : b < B) : PtsAt w' b off ps := by
  intro i p hp
  have := h i p hp
  exact ⟨(hb.cell (p := ⟨b, _, none⟩) hB).trans this.1, (hb.cell (p := ⟨b, _, none⟩) hB).trans this.2⟩
theorem PtsAt.lt {w : World} {b off : Nat} {ps : List (Nat × Nat)} (h : PtsAt w b off ps) (hne : ps ≠ []) : b < w.heap.size := by
  cases ps with
  | nil => exact absurd rfl hne
  | cons p ps => exact World.block_lt_of_cell? w ⟨b, _, none⟩ (h 0 p rfl).1
theorem PtsAt.below {w w' : World} {b off : Nat} {ps : List (Nat × Nat)} (h : PtsAt w b off ps) (hb : Below w.heap.size w w') : PtsAt w' b off ps := by
  by_cases hne : ps = []
  · subst hne; intro i p hp; simp at hp
  · exact h.later hb (h.lt hne)
theorem IsPts.below {w w' : World} {v : Value} {ps : List (Nat × Nat)} (h : IsPts w v ps) (hb : Below w.heap.size w w') : IsPts w' v ps := by
  obtain ⟨ao, cap, rfl, h⟩ := h
  refine ⟨ao, cap, rfl, ?_⟩
  rcases h with h | ⟨b, off, rfl, h⟩
  · exact .inl h
  · exact .inr ⟨b, off, rfl, h.below hb⟩

/-- What is owned can be read. -/
theorem pts_of_owns {w : World} {base : Nat} {e : TypeId} {v : Value} {n : Nat} {ps : List (Nat × Nat)} (h : w.ownsRow base e 2 v n (pc ps)) : n = ps.length ∧ IsPts w v ps := by
  have hl := h.1
  rw [pc_length] at hl
  have hn : n = ps.length := by omega
  refine ⟨hn, ?_⟩
  rcases h.2 with ⟨rfl, h0⟩ | ⟨g, cap, cur, rfl, hb, hg, hc⟩
  · subst h0
    have : ps = [] := List.eq_nil_of_length_eq_zero hn.symm
    subst this
    exact ⟨none, 0, rfl, .inl rfl⟩
  · refine ⟨_, cap, by rw [hn], .inr ⟨g, 0, rfl, ?_⟩⟩
    intro i p hp
    have hcell := World.ownsRow.cells h (g := g) rfl
    have := pc_get ps i p hp
    have e1 : ∀ k, (⟨g, 0, none⟩ : Addr).add k = ⟨g, 0 + k, none⟩ := fun k => by unfold Addr.add; split <;> simp_all
    have a1 := hcell _ _ this.1
    have a2 := hcell _ _ this.2
    rw [e1] at a1 a2
    exact ⟨a1, by rw [Nat.add_assoc]; exact a2⟩
end Go.Proofs.YtpbhpplmokdkhaaDoor
