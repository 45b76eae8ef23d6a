/- The area of a ring and of both parts, as lists of points. -/
import Derived.Test.YtpbhpplmokdkhaaDoorSpP
set_option linter.unusedVariables false
namespace Go.Proofs.YtpbhpplmokdkhaaDoor
open Go.RowKit Fl

theorem isI_inj {x : Nat} {a b : Int} (h1 : IsI x a) (h2 : IsI x b) : a = b := Rat.intCast_inj.1 (h1.2.symm.trans h2.2)
theorem dat_eq {ps qs : List (Nat × Nat)} {X Y X' Y' : Nat → Int} (h : Dat ps X Y) (h' : Dat qs X' Y') {j m : Nat} {p : Nat × Nat} (hp : ps[m]? = some p) (hq : qs[j]? = some p) : X' j = X m ∧ Y' j = Y m :=
  ⟨isI_inj (h' j p hq).1.1 (h m p hp).1.1, isI_inj (h' j p hq).1.2 (h m p hp).1.2⟩
theorem dat_sub {ps qs : List (Nat × Nat)} {X Y : Nat → Int} (h : Dat ps X Y) (hs : ∀ p ∈ qs, p ∈ ps) : ∃ X' Y', Dat qs X' Y' := by
  have each : ∀ j, j < qs.length → ∃ m : Nat, ps[m]? = some (qs.getD j (0, 0)) := by
    intro j hj
    have hm : qs.getD j (0, 0) ∈ qs := by rw [List.getD_eq_getElem?_getD, List.getElem?_eq_getElem hj]; exact List.getElem_mem hj
    obtain ⟨m, hm1, hm2⟩ := List.getElem_of_mem (hs _ hm)
    exact ⟨m, by rw [List.getElem?_eq_getElem hm1, hm2]⟩
  have hf : ∃ f : Nat → Nat, ∀ j, j < qs.length → ps[f j]? = some (qs.getD j (0, 0)) := by
    refine ⟨fun j => if hj : j < qs.length then Classical.choose (each j hj) else 0, fun j hj => ?_⟩
    simp only [dif_pos hj]
    exact Classical.choose_spec (each j hj)
  obtain ⟨f, hf⟩ := hf
  refine ⟨fun j => X (f j), fun j => Y (f j), fun j p hp => ?_⟩
  have hj : j < qs.length := (List.getElem?_eq_some_iff.1 hp).1
  have h1 := hf j hj
  rw [List.getD_eq_getElem?_getD, hp, Option.getD_some] at h1
  exact h (f j) p h1

theorem one_len {ps : List (Nat × Nat)} {i k : Nat} (hik : i < k) (hk : k + 1 < ps.length) : (oneL ps i k).length = k - i + 2 := by unfold oneL; simp; omega
theorem two_len {ps : List (Nat × Nat)} {i k : Nat} (hik : i < k) (hk : k + 1 < ps.length) : (twoL ps i k).length = ps.length - k + i + 1 := by
  unfold twoL
  split <;> simp <;> omega
theorem getD_at {ps : List (Nat × Nat)} {i : Nat} (h : i < ps.length) : ps[i]? = some (ps.getD i (0, 0)) := by rw [List.getD_eq_getElem?_getD, List.getElem?_eq_getElem h]; rfl
theorem one_at {ps : List (Nat × Nat)} {i k j : Nat} (hik : i < k) (hk : k + 1 < ps.length) (hj : j ≤ k - i) : (oneL ps i k)[j]? = ps[i + j]? := by
  unfold oneL
  rw [List.getElem?_append_left (by simp; omega), List.getElem?_take, if_pos (by omega), List.getElem?_drop]
theorem one_last {ps : List (Nat × Nat)} {i k : Nat} (hik : i < k) (hk : k + 1 < ps.length) : (oneL ps i k)[k - i + 1]? = some (ps.getD i (0, 0)) := by
  unfold oneL
  have hl : ((ps.drop i).take (k + 1 - i)).length = k - i + 1 := by simp; omega
  rw [List.getElem?_append_right (by omega), hl, Nat.sub_self]; rfl
theorem two_at {ps : List (Nat × Nat)} {i k j : Nat} (hik : i < k) (hk : k + 1 < ps.length) (hj : j ≤ ps.length - 1 - k) : (twoL ps i k)[j]? = ps[k + j]? := by
  unfold twoL
  have hl : ((ps.drop k).take (ps.length - k)).length = ps.length - k := by simp
  have e : ((ps.drop k).take (ps.length - k))[j]? = ps[k + j]? := by rw [List.getElem?_take, if_pos (by omega), List.getElem?_drop]
  split
  · rw [List.getElem?_append_left (by omega), e]
  · rw [List.getElem?_append_left (by rw [List.length_append]; omega), List.getElem?_append_left (by omega), e]
theorem two_mid {ps : List (Nat × Nat)} {i k t : Nat} (hik : i < k) (hk : k + 1 < ps.length) (ht : t < i) : (twoL ps i k)[ps.length - k + t]? = ps[1 + t]? := by
  unfold twoL
  have hl : ((ps.drop k).take (ps.length - k)).length = ps.length - k := by simp
  have hl2 : (ps.tail.take i).length = i := by simp; omega
  rw [if_neg (by omega), List.getElem?_append_left (by rw [List.length_append]; omega), List.getElem?_append_right (by omega), hl, show ps.length - k + t - (ps.length - k) = t by omega, List.getElem?_take, if_pos ht, ← List.drop_one, List.getElem?_drop]
theorem two_last {ps : List (Nat × Nat)} {i k : Nat} (hik : i < k) (hk : k + 1 < ps.length) : (twoL ps i k)[ps.length - k + i]? = some (ps.getD k (0, 0)) := by
  unfold twoL
  have hl : ((ps.drop k).take (ps.length - k)).length = ps.length - k := by simp
  have hl2 : (ps.tail.take i).length = i := by simp; omega
  split
  · rw [List.getElem?_append_right (by omega), hl, show ps.length - k + i - (ps.length - k) = 0 by omega]; rfl
  · rw [List.getElem?_append_right (by rw [List.length_append]; omega), List.length_append, hl, hl2, Nat.sub_self]; rfl
theorem one_mem {ps : List (Nat × Nat)} {i k : Nat} (hik : i < k) (hk : k + 1 < ps.length) : ∀ p ∈ oneL ps i k, p ∈ ps := by
  intro p hp
  unfold oneL at hp
  rw [List.mem_append, List.mem_singleton] at hp
  rcases hp with h | rfl
  · exact List.mem_of_mem_drop (List.mem_of_mem_take h)
  · exact List.mem_of_getElem? (getD_at (by omega))
theorem two_mem {ps : List (Nat × Nat)} {i k : Nat} (hik : i < k) (hk : k + 1 < ps.length) : ∀ p ∈ twoL ps i k, p ∈ ps := by
  intro p hp
  unfold twoL at hp
  rw [List.mem_append, List.mem_singleton] at hp
  rcases hp with h | rfl
  · split at h
    · exact List.mem_of_mem_drop (List.mem_of_mem_take h)
    · rw [List.mem_append] at h
      rcases h with h | h
      · exact List.mem_of_mem_drop (List.mem_of_mem_take h)
      · exact List.mem_of_mem_tail (List.mem_of_mem_take h)
  · exact List.mem_of_getElem? (getD_at (by omega))
theorem datM_of {ps : List (Nat × Nat)} {X Y : Nat → Int} (h : Dat ps X Y) : DatM ps X Y := by
  intro i p hp
  obtain ⟨h1, h2, h3⟩ := h i p hp
  unfold Small at h2 h3
  exact ⟨h1, by unfold Rg.Mid; omega, by unfold Rg.Mid; omega⟩

theorem split_area {ps : List (Nat × Nat)} {X Y : Nat → Int} {i k : Nat} (hr : RingD ps X Y) (hik : i < k) (hk : k + 1 < ps.length) :
    ∃ X1 Y1 X2 Y2, DatM (oneL ps i k) X1 Y1 ∧ DatM (twoL ps i k) X2 Y2 ∧ Rg.TN X Y (ps.length - 2) = Rg.TN X1 Y1 ((oneL ps i k).length - 2) + Rg.TN X2 Y2 ((twoL ps i k).length - 2) := by
  obtain ⟨X1, Y1, h1⟩ := dat_sub hr.dat (one_mem hik hk)
  obtain ⟨X2, Y2, h2⟩ := dat_sub hr.dat (two_mem hik hk)
  refine ⟨X1, Y1, X2, Y2, datM_of h1, datM_of h2, ?_⟩
  have f1 : ∀ j, j ≤ k - i → X1 j = X (i + j) ∧ Y1 j = Y (i + j) := fun j hj => dat_eq hr.dat h1 (getD_at (show i + j < ps.length by omega)) (by rw [one_at hik hk hj, getD_at (by omega)])
  have f1l := dat_eq hr.dat h1 (getD_at (show i < ps.length by omega)) (one_last hik hk)
  have f2 : ∀ j, j ≤ ps.length - 1 - k → X2 j = X (k + j) ∧ Y2 j = Y (k + j) := fun j hj => dat_eq hr.dat h2 (getD_at (show k + j < ps.length by omega)) (by rw [two_at hik hk hj, getD_at (by omega)])
  have f2m : ∀ t, t < i → X2 (ps.length - k + t) = X (1 + t) ∧ Y2 (ps.length - k + t) = Y (1 + t) := fun t ht => dat_eq hr.dat h2 (getD_at (show 1 + t < ps.length by omega)) (by rw [two_mid hik hk ht, getD_at (by omega)])
  have f2l := dat_eq hr.dat h2 (getD_at (show k < ps.length by omega)) (two_last hik hk)
  have g1 := f1 0 (by omega)
  have g2 := f2 0 (by omega)
  rw [Nat.add_zero] at g1 g2
  rw [Rg.SH_closed (n := ps.length) (by omega) hr.closed, one_len hik hk, two_len hik hk,
    Rg.SH_closed (n := k - i + 2) (by omega) (by rw [show k - i + 2 - 1 = k - i + 1 by omega, f1l.1, f1l.2, g1.1, g1.2]; exact ⟨rfl, rfl⟩),
    Rg.SH_closed (n := ps.length - k + i + 1) (by omega) (by rw [show ps.length - k + i + 1 - 1 = ps.length - k + i by omega, f2l.1, f2l.2, g2.1, g2.2]; exact ⟨rfl, rfl⟩)]
  exact Rg.cut_sum hik hk hr.closed f1 f1l f2 f2m f2l
end Go.Proofs.YtpbhpplmokdkhaaDoor
