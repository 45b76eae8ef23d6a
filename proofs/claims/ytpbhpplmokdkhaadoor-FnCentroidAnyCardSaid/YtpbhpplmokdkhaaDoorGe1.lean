/- The walks of impl.first and impl.polygonOf. -/
import Derived.Test.YtpbhpplmokdkhaaDoorUt
import Derived.Test.YtpbhpplmokdkhaaDoorPts
set_option linter.unusedVariables false
namespace Go.Proofs.YtpbhpplmokdkhaaDoor
open Go.RowKit Go.WideShapes Fl

theorem info_ring : (Tryd.prog.info? 64).map (fun i => (i.zero, i.size, i.bytes)) = some (some (.slice none 0 0), 1, 24) := by kernel_rfl
theorem info_line : (Tryd.prog.info? 70).map (fun i => (i.zero, i.size, i.bytes)) = some (some (.slice none 0 0), 1, 24) := by kernel_rfl
/-- Rows of points, by their values. -/
def Rows2 (w : World) (base : Nat) (us : List Value) (pss : List (List (Nat × Nat))) : Prop :=
  us.length = pss.length ∧ ∀ (i : Nat) (u : Value) (ps : List (Nat × Nat)), us[i]? = some u → pss[i]? = some ps → w.ownsRow base 69 2 u ps.length (pc ps)
theorem Rows2.nil (w : World) (base : Nat) : Rows2 w base [] [] := ⟨rfl, fun i u ps h => by simp at h⟩
theorem own_ne2 {w : World} {b1 b2 e1 e2 s1 s2 n1 n2 : Nat} {v1 v2 : Value} {x1 x2 : List Value} (h1 : w.ownsRow b1 e1 s1 v1 n1 x1) (h2 : w.ownsRow b2 e2 s2 v2 n2 x2) (hT : e2 ≠ e1) : v1.ownBlock = none ∨ v1.ownBlock ≠ v2.ownBlock := by
  rcases h2.2 with ⟨rfl, _⟩ | ⟨g, cap, cur, rfl, _, hg, _⟩
  · cases h : v1.ownBlock with
    | none => exact .inl rfl
    | some k => exact .inr (by simp [Value.ownBlock])
  · exact .inr (blk_ne (T := e2) (cs := cur) hg h1 hT)
theorem Rows2.kept {w w' : World} {base b2 E s2 n2 : Nat} {us : List Value} {pss : List (List (Nat × Nat))} {v2 : Value} {x2 : List Value} (h : Rows2 w base us pss) (hg : w.grownBy w' v2.ownBlock) (ho : w.ownsRow b2 E s2 v2 n2 x2) (hT : E ≠ 69) : Rows2 w' base us pss :=
  ⟨h.1, fun i u ps hu hp => (h.2 i u ps hu hp).kept hg (own_ne2 (h.2 i u ps hu hp) ho hT)⟩
theorem own_below {w w' : World} {base e size n : Nat} {v : Value} {xs : List Value} (h : w.ownsRow base e size v n xs) (hb : Below w.heap.size w w') : w'.ownsRow base e size v n xs := by
  obtain ⟨h1, h2⟩ := h
  refine ⟨h1, ?_⟩
  rcases h2 with h2 | ⟨g, cap, cur, rfl, hg, hc, h3⟩
  · exact .inl h2
  · exact .inr ⟨g, cap, cur, rfl, hg, blk_below (cs := cur) (T := e) hc hb (Array.getElem?_eq_some_iff.1 hc).1, h3⟩
theorem Rows2.below {w w' : World} {base : Nat} {us : List Value} {pss : List (List (Nat × Nat))} (h : Rows2 w base us pss) (hb : Below w.heap.size w w') : Rows2 w' base us pss :=
  ⟨h.1, fun i u ps hu hp => own_below (h.2 i u ps hu hp) hb⟩
theorem Rows2.snoc {w : World} {base base' : Nat} {us : List Value} {pss : List (List (Nat × Nat))} {u : Value} {ps : List (Nat × Nat)} (h : Rows2 w base us pss) (hu : w.ownsRow base' 69 2 u ps.length (pc ps)) (hb : base ≤ base') : Rows2 w base (us ++ [u]) (pss ++ [ps]) := by
  refine ⟨by simp [h.1], fun i v qs hv hq => ?_⟩
  by_cases hi : i < us.length
  · rw [List.getElem?_append_left hi] at hv
    rw [List.getElem?_append_left (by rw [← h.1]; exact hi)] at hq
    exact h.2 i v qs hv hq
  · have hl := (List.getElem?_eq_some_iff.1 hv).1
    simp at hl
    obtain rfl : i = us.length := by omega
    rw [List.getElem?_append_right (Nat.le_refl _), Nat.sub_self] at hv
    rw [h.1, List.getElem?_append_right (Nat.le_refl _), Nat.sub_self] at hq
    simp at hv hq
    subst hv hq
    obtain ⟨h1, h2⟩ := hu
    refine ⟨h1, ?_⟩
    rcases h2 with h2 | ⟨g, cap, cur, e, hg, hc⟩
    · exact .inl h2
    · exact .inr ⟨g, cap, cur, e, Nat.le_trans hb hg, hc⟩
/-- Lists of points among the arguments. -/
structure Lists (w : World) (g : Nat) (vs : List Value) (pss : List (List (Nat × Nat))) : Prop where
  len : vs.length = pss.length
  at' : ∀ (i : Nat) (v : Value), vs[i]? = some v → w.cell? ⟨g, i, none⟩ = some v
  pts : ∀ (i : Nat) (v : Value) (ps : List (Nat × Nat)), vs[i]? = some v → pss[i]? = some ps → IsPts w v ps ∧ ps.length * 16 ≤ 140737488351232
theorem Lists.below {w w' : World} {g : Nat} {vs : List Value} {pss : List (List (Nat × Nat))} (h : Lists w g vs pss) (hb : Below w.heap.size w w') : Lists w' g vs pss :=
  ⟨h.len, fun i v hv => cell_later hb (h.at' i v hv), fun i v ps hv hp => ⟨(h.pts i v ps hv hp).1.below hb, (h.pts i v ps hv hp).2⟩⟩

theorem first_any (g m cap : Nat) (kind : Int) (parts v : Value) (w : World) (hm : 1 ≤ m) (hv : w.cell? ⟨g, 0, none⟩ = some v) :
    Calls Tryd.prog 71 #[.agg #[.int .i64 kind, .slice (some ⟨g, 0, none⟩) m cap, parts]] w fun e w' => e = .returned v ∧ Below w.heap.size w w' := by
  have h0 := cell_alloc hv (.cells #[.int .i64 kind, .slice (some ⟨g, 0, none⟩) m cap, parts] 50)
  have hm0 : (0 : Int) < m := by omega
  have hm1 : ¬ ((m : Int) = 0) := by omega
  have hm2 : ¬ m = 0 := by omega
  clear hv
  go_enter Tryd.func71, Tryd.ntmps71
  go_wp2
  go_ret
  exact ⟨rfl, (Below.refl _ _).alloc (Nat.le_refl _) _⟩
end Go.Proofs.YtpbhpplmokdkhaaDoor
