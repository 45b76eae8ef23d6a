/- Points and shapes in memory: how they lie. -/
import Derived.Test.YtjbjjphgnilhmaaGreatDoorBp
set_option linter.unusedVariables false
namespace Go.Proofs.YtjbjjphgnilhmaaGreatDoor
open Go.RowKit

/-! ### Points in rows -/

def ptCells (p : By.Pt) : List Value := [.float .f64 p.1, .float .f64 p.2]
def repPt : Rep By.Pt where
  size := 2
  rel := fun _ us p => us = ptCells p
  mono := fun _ h => h
  len := fun h => by subst h; rfl
  one := fun h => by subst h; intro u hu; simp [ptCells] at hu; rcases hu with rfl | rfl <;> rfl
/-- Points as cells. -/
def pc (ps : List By.Pt) : List Value := ps.flatMap ptCells
theorem pc_length (ps : List By.Pt) : (pc ps).length = ps.length * 2 := by
  induction ps with
  | nil => rfl
  | cons p ps ih => simp only [pc, ptCells, List.flatMap_cons, List.length_append, List.length_cons, List.length_nil] at ih ⊢; omega
theorem pc_append (ps qs : List By.Pt) : pc (ps ++ qs) = pc ps ++ pc qs := by simp [pc]
theorem flat_pc : ∀ (uss : List (List Value)) (ps : List By.Pt), uss.length = ps.length → (∀ (i : Nat) us p, uss[i]? = some us → ps[i]? = some p → us = ptCells p) → uss.flatten = pc ps
  | [], [], _, _ => rfl
  | [], p :: ps, h, _ => by simp at h
  | us :: uss, [], h, _ => by simp at h
  | us :: uss, p :: ps, h, hr => by
    have h0 := hr 0 us p rfl rfl
    have := flat_pc uss ps (by simpa using h) fun i us p hu hp => hr (i + 1) us p (by simpa using hu) (by simpa using hp)
    rw [List.flatten_cons, this, h0]; rfl
theorem rowed_pt {z : Prop} {base : Nat} {E : TypeId} {w : World} {v : Value} {ps : List By.Pt} : Rowed z repPt base E w v ps ↔ w.ownsRow base E 2 v ps.length (pc ps) ∧ (v.ownBlock = none → z) := by
  constructor
  · rintro ⟨uss, H, ho, hl, hr, _, _, hz⟩
    exact ⟨by rw [← flat_pc uss ps hl hr]; exact ho, hz⟩
  · rintro ⟨ho, hz⟩
    refine ⟨ps.map ptCells, fun _ _ => False, ?_, by simp, ?_, fun _ _ h => h.elim, fun _ _ h => h.elim, hz⟩
    · have e : (ps.map ptCells).flatten = pc ps := by rw [pc, List.flatMap_def]
      rw [e]; exact ho
    · intro i us p hu hp
      rw [List.getElem?_map, hp] at hu
      show us = ptCells p
      simpa using hu.symm
theorem pc_last (ps : List By.Pt) (q : By.Pt) (x y : Nat) : ((pc (ps ++ [q])).set (ps.length * 2) (.float .f64 x)).set (ps.length * 2 + 1) (.float .f64 y) = pc (ps ++ [(x, y)]) := by
  have hl := pc_length ps
  rw [pc_append, pc_append, ← hl]
  rw [List.set_append_right _ _ (Nat.le_refl _), Nat.sub_self, List.set_append_right _ _ (by omega), show (pc ps).length + 1 - (pc ps).length = 1 by omega]
  rfl
theorem owns_set {base : Nat} {E : TypeId} {size n : Nat} {w : World} {v : Value} {xs : List Value} {g i : Nat} (u : Value) (h : w.ownsRow base E size v n xs) (hv : v.ownBlock = some g) (hi : i < xs.length) : (w.setCell ⟨g, i, none⟩ u).ownsRow base E size v n (xs.set i u) := by
  rcases h.2 with ⟨rfl, _⟩ | ⟨g', cap, cur, rfl, hb, hg, hn, hc, hs, ht⟩
  · simp [Value.ownBlock] at hv
  · simp only [Value.ownBlock, Option.some.injEq] at hv
    subst hv
    refine ⟨by simpa using h.1, .inr ⟨g', cap, cur.setIfInBounds i u, rfl, hb, heap_setCell_same w g' i cur E u hg, hn, hc, by simpa using hs, ?_⟩⟩
    rw [Array.toList_setIfInBounds, List.take_set, ht]
theorem owns_cell {base : Nat} {E : TypeId} {size n : Nat} {w : World} {v : Value} {xs : List Value} {g i : Nat} {u : Value} (h : w.ownsRow base E size v n xs) (hv : v.ownBlock = some g) (hi : xs[i]? = some u) : w.cell? ⟨g, i, none⟩ = some u ∧ w.frozen? ⟨g, i, none⟩ = false := by
  rcases h.2 with ⟨rfl, _⟩ | ⟨g', cap, cur, rfl, hb, hg, hn, hc, hs, ht⟩
  · simp [Value.ownBlock] at hv
  · simp only [Value.ownBlock, Option.some.injEq] at hv
    subst hv
    rw [← ht] at hi
    have hlt : i < n * size := by
      have := (List.getElem?_eq_some_iff.1 hi).1
      simp only [List.length_take] at this
      omega
    rw [List.getElem?_take_of_lt hlt, Array.getElem?_toList] at hi
    exact ⟨by simp [World.cell?, hg, hi], by simp [World.frozen?, hg]⟩
/-- The last point of a row, written. -/
theorem Rowed.set2 {z : Prop} {base : Nat} {E : TypeId} {w : World} {v : Value} {ps : List By.Pt} {q : By.Pt} {g : Nat} (h : Rowed z repPt base E w v (ps ++ [q])) (hv : v.ownBlock = some g) (x y : Nat) :
    Rowed z repPt base E ((w.setCell ⟨g, ps.length * 2, none⟩ (.float .f64 x)).setCell ⟨g, ps.length * 2 + 1, none⟩ (.float .f64 y)) v (ps ++ [(x, y)]) := by
  obtain ⟨ho, hz⟩ := rowed_pt.1 h
  have hl := pc_length (ps ++ [q])
  simp only [List.length_append, List.length_cons, List.length_nil] at hl ho
  refine rowed_pt.2 ⟨?_, hz⟩
  have h1 := owns_set (.float .f64 x) ho hv (i := ps.length * 2) (by omega)
  have h2 := owns_set (.float .f64 y) h1 hv (i := ps.length * 2 + 1) (by simp; omega)
  rw [pc_last] at h2
  simpa using h2
theorem Rowed.last {z : Prop} {base : Nat} {E : TypeId} {w : World} {v : Value} {ps : List By.Pt} {q : By.Pt} {g : Nat} (h : Rowed z repPt base E w v (ps ++ [q])) (hv : v.ownBlock = some g) :
    (w.cell? ⟨g, ps.length * 2, none⟩ = some (.float .f64 q.1) ∧ w.frozen? ⟨g, ps.length * 2, none⟩ = false) ∧ (w.cell? ⟨g, ps.length * 2 + 1, none⟩ = some (.float .f64 q.2) ∧ w.frozen? ⟨g, ps.length * 2 + 1, none⟩ = false) := by
  obtain ⟨ho, hz⟩ := rowed_pt.1 h
  have e : pc (ps ++ [q]) = pc ps ++ [.float .f64 q.1, .float .f64 q.2] := pc_append _ _
  have hl := pc_length ps
  refine ⟨owns_cell ho hv ?_, owns_cell ho hv ?_⟩
  · rw [e, List.getElem?_append_right (by omega), hl, Nat.sub_self]; rfl
  · rw [e, List.getElem?_append_right (by omega), hl, show ps.length * 2 + 1 - ps.length * 2 = 1 by omega]; rfl
theorem Rowed.drewN {α : Type} {z : Prop} {r : Rep α} {base : Nat} {E : TypeId} {w : World} {v : Value} {ls : List α} (h : Rowed z r base E w v ls) (n : Nat) : Rowed z r base E (w.drewN n) v ls := h.below ⟨rfl, rfl, rfl, Nat.le_refl _, fun _ _ => rfl⟩
theorem Rowed.of_made {α : Type} {r : Rep α} {base : Nat} {E : TypeId} {w : World} {g cap : Nat} (h : w.ownsRow base E r.size (.slice (some ⟨g, 0, none⟩) 0 cap) 0 []) (z : Prop) : Rowed z r base E w (.slice (some ⟨g, 0, none⟩) 0 cap) [] :=
  ⟨[], fun _ _ => False, h, rfl, fun i us a h => by simp at h, fun _ _ h => h.elim, fun _ _ h => h.elim, fun h => by simp [Value.ownBlock] at h⟩

theorem info68 : (Tryz.prog.info? 68).map (fun i => (i.zero, i.size, i.bytes)) = some (some (.agg #[.float .f64 0, .float .f64 0]), 2, 16) := by kernel_rfl

theorem ptsOf_get (le : Bool) : ∀ (m : Nat) (l : By.Bs) (k : Nat), k < m → (By.ptsOf le m l)[k]? = some (By.u64 le (l.drop (16 * k)), By.u64 le (l.drop (16 * k + 8)))
  | 0, l, k, h => by omega
  | m + 1, l, 0, h => by simp [By.ptsOf]
  | m + 1, l, k + 1, h => by
    have := ptsOf_get le m (l.drop 16) k (by omega)
    simp only [By.ptsOf, List.getElem?_cons_succ, this, List.drop_drop]
    rw [show 16 + 16 * k = 16 * (k + 1) by omega, show 16 + (16 * k + 8) = 16 * (k + 1) + 8 by omega]
end Go.Proofs.YtjbjjphgnilhmaaGreatDoor
