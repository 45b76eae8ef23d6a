/- Plain law: what stays of a closed ring that is moved, begins at another corner, or goes the other way. -/
import Derived.Test.YtpbhpplmokdkhaaDoorHsP
import Derived.Test.YtpbhpplmokdkhaaDoorSpQ
set_option linter.unusedVariables false
namespace Go.Proofs.YtpbhpplmokdkhaaDoor
open Go.RowKit Fl

section
variable {px py : Int} {X Y X' Y' : Nat → Int}
/-! Sums over sides. -/
theorem on_succ (k : Nat) : rcOn px py X Y (k + 1) = (rcOn px py X Y k || decide (Ry.On px py (X k) (Y k) (X (k + 1)) (Y (k + 1)))) := rfl
theorem up_succ (k : Nat) : rcUp px py X Y (k + 1) = (rcUp px py X Y k ^^ decide (Ry.Up px py (X k) (Y k) (X (k + 1)) (Y (k + 1)))) := rfl
theorem on_add (a : Nat) : ∀ b, rcOn px py X Y (a + b) = (rcOn px py X Y a || rcOn px py (fun j => X (a + j)) (fun j => Y (a + j)) b)
  | 0 => by simp [rcOn]
  | b + 1 => by
    rw [show a + (b + 1) = a + b + 1 by omega, on_succ, on_succ, on_add a b, Bool.or_assoc]
    rfl
theorem up_add (a : Nat) : ∀ b, rcUp px py X Y (a + b) = (rcUp px py X Y a ^^ rcUp px py (fun j => X (a + j)) (fun j => Y (a + j)) b)
  | 0 => by simp [rcUp]
  | b + 1 => by
    rw [show a + (b + 1) = a + b + 1 by omega, up_succ, up_succ, up_add a b, Bool.xor_assoc]
    rfl
theorem on_congr {px' py' dx dy : Int} (hp : px' = px + dx ∧ py' = py + dy) : ∀ k, (∀ j, j ≤ k → X' j = X j + dx ∧ Y' j = Y j + dy) → rcOn px' py' X' Y' k = rcOn px py X Y k
  | 0, _ => rfl
  | k + 1, h => by
    rw [on_succ, on_succ, on_congr hp k (fun j hj => h j (by omega))]
    have h1 := h k (by omega)
    have h2 := h (k + 1) (by omega)
    have e : Ry.On px' py' (X' k) (Y' k) (X' (k + 1)) (Y' (k + 1)) ↔ Ry.On px py (X k) (Y k) (X (k + 1)) (Y (k + 1)) := by
      unfold Ry.On
      rw [h1.1, h1.2, h2.1, h2.2, hp.1, hp.2]
      have e1 : ∀ a b c : Int, a + c - (b + c) = a - b := fun a b c => by omega
      rw [e1, e1, e1, e1]
      constructor
      · rintro ⟨h1, h2, h3⟩; exact ⟨h1, by omega, by omega⟩
      · rintro ⟨h1, h2, h3⟩; exact ⟨h1, by omega, by omega⟩
    rw [decide_eq_decide.2 e]
theorem upO_move {px' py' dx dy ax ay bx by' ax' ay' bx' bz : Int} (hp : px' = px + dx ∧ py' = py + dy) (h1 : ax' = ax + dx ∧ ay' = ay + dy) (h2 : bx' = bx + dx ∧ bz = by' + dy) : Ry.UpO px' py' ax' ay' bx' bz ↔ Ry.UpO px py ax ay bx by' := by
  unfold Ry.UpO
  rw [h1.1, h1.2, h2.1, h2.2, hp.1, hp.2]
  have e1 : ∀ a b c : Int, a + c - (b + c) = a - b := fun a b c => by omega
  rw [e1, e1, e1, e1]
  constructor
  · rintro ⟨h1, h2, h3⟩; exact ⟨by omega, by omega, h3⟩
  · rintro ⟨h1, h2, h3⟩; exact ⟨by omega, by omega, h3⟩
theorem up_congr {px' py' dx dy : Int} (hp : px' = px + dx ∧ py' = py + dy) : ∀ k, (∀ j, j ≤ k → X' j = X j + dx ∧ Y' j = Y j + dy) → rcUp px' py' X' Y' k = rcUp px py X Y k
  | 0, _ => rfl
  | k + 1, h => by
    rw [up_succ, up_succ, up_congr hp k (fun j hj => h j (by omega))]
    have h1 := h k (by omega)
    have h2 := h (k + 1) (by omega)
    have e : Ry.Up px' py' (X' k) (Y' k) (X' (k + 1)) (Y' (k + 1)) ↔ Ry.Up px py (X k) (Y k) (X (k + 1)) (Y (k + 1)) := by
      unfold Ry.Up
      rw [upO_move hp h1 h2, upO_move hp h2 h1]
    rw [decide_eq_decide.2 e]
theorem TN_congr {dx dy : Int} {n : Nat} (h : ∀ j, j ≤ n → X' j = X j + dx ∧ Y' j = Y j + dy) : ∀ m, m + 1 ≤ n → Rg.TN X' Y' m = Rg.TN X Y m
  | 0, _ => rfl
  | m + 1, hm => by
    unfold Rg.TN
    rw [TN_congr h m (by omega)]
    have h0 := h 0 (by omega)
    have h1 := h (m + 1) (by omega)
    have h2 := h (m + 1 + 1) (by omega)
    unfold Rg.tri
    rw [h0.1, h0.2, h1.1, h1.2, h2.1, h2.2]
    have e1 : ∀ a b c : Int, a + c - (b + c) = a - b := fun a b c => by omega
    rw [e1, e1, e1, e1]
theorem SH_same : ∀ m, (∀ j, j ≤ m → X' j = X j ∧ Y' j = Y j) → Rg.SH X' Y' m = Rg.SH X Y m
  | 0, _ => rfl
  | m + 1, h => by
    have h1 := h m (by omega)
    have h2 := h (m + 1) (by omega)
    rw [Rg.SH_succ, Rg.SH_succ, SH_same m (fun j hj => h j (by omega)), h1.1, h1.2, h2.1, h2.2]
/-! Moved. -/
theorem ringB_moved {px' py' dx dy : Int} {n : Nat} (h2 : 2 ≤ n) (hc : X (n - 1) = X 0 ∧ Y (n - 1) = Y 0) (hp : px' = px + dx ∧ py' = py + dy) (h : ∀ j, j < n → X' j = X j + dx ∧ Y' j = Y j + dy) : ringB px' py' X' Y' n = ringB px py X Y n := by
  have hc' : X' (n - 1) = X' 0 ∧ Y' (n - 1) = Y' 0 := by
    have a := h 0 (by omega)
    have b := h (n - 1) (by omega)
    rw [a.1, a.2, b.1, b.2, hc.1, hc.2]; exact ⟨rfl, rfl⟩
  rw [ringB_closed h2 hc, ringB_closed h2 hc', on_congr hp (n - 1) (fun j hj => h j (by omega)), up_congr hp (n - 1) (fun j hj => h j (by omega))]
/-! Begun at another corner. -/
structure Turned (X Y X' Y' : Nat → Int) (n a : Nat) : Prop where
  lt : a + 1 < n
  one : ∀ j, j ≤ n - 1 - a → X' j = X (a + j) ∧ Y' j = Y (a + j)
  two : ∀ j, j ≤ a → X' (n - 1 - a + j) = X j ∧ Y' (n - 1 - a + j) = Y j
variable {n a : Nat}
theorem Turned.closed (h : Turned X Y X' Y' n a) : X' (n - 1) = X' 0 ∧ Y' (n - 1) = Y' 0 := by
  have := h.lt
  have u := h.two a (Nat.le_refl _)
  have v := h.one 0 (by omega)
  rw [show n - 1 - a + a = n - 1 by omega] at u
  rw [Nat.add_zero] at v
  rw [u.1, u.2, v.1, v.2]; exact ⟨rfl, rfl⟩
theorem turned_ringB (h2 : 2 ≤ n) (hc : X (n - 1) = X 0 ∧ Y (n - 1) = Y 0) (h : Turned X Y X' Y' n a) : ringB px py X' Y' n = ringB px py X Y n := by
  have hlt := h.lt
  have z : px = px + 0 ∧ py = py + 0 := ⟨by omega, by omega⟩
  have e1 : ∀ j, j ≤ n - 1 - a → X' j = X (a + j) + 0 ∧ Y' j = Y (a + j) + 0 := fun j hj => by have := h.one j hj; exact ⟨by rw [this.1]; omega, by rw [this.2]; omega⟩
  have e2 : ∀ j, j ≤ a → X' (n - 1 - a + j) = X j + 0 ∧ Y' (n - 1 - a + j) = Y j + 0 := fun j hj => by have := h.two j hj; exact ⟨by rw [this.1]; omega, by rw [this.2]; omega⟩
  rw [ringB_closed h2 hc, ringB_closed h2 h.closed]
  have o1 := on_add (px := px) (py := py) (X := X') (Y := Y') (n - 1 - a) a
  have o2 := on_add (px := px) (py := py) (X := X) (Y := Y) a (n - 1 - a)
  have u1 := up_add (px := px) (py := py) (X := X') (Y := Y') (n - 1 - a) a
  have u2 := up_add (px := px) (py := py) (X := X) (Y := Y) a (n - 1 - a)
  rw [show n - 1 - a + a = n - 1 by omega] at o1 u1
  rw [show a + (n - 1 - a) = n - 1 by omega] at o2 u2
  rw [on_congr (X := fun j => X (a + j)) (Y := fun j => Y (a + j)) z (n - 1 - a) e1, on_congr (X := X) (Y := Y) z a e2] at o1
  rw [up_congr (X := fun j => X (a + j)) (Y := fun j => Y (a + j)) z (n - 1 - a) e1, up_congr (X := X) (Y := Y) z a e2] at u1
  rw [o1, o2, u1, u2, Bool.or_comm (rcOn px py X Y a), Bool.xor_comm (rcUp px py X Y a)]
theorem turned_SH (h : Turned X Y X' Y' n a) : Rg.SH X' Y' (n - 1) = Rg.SH X Y (n - 1) := by
  have hlt := h.lt
  have o1 := Rg.SH_add X' Y' (n - 1 - a) a
  have o2 := Rg.SH_add X Y a (n - 1 - a)
  rw [show n - 1 - a + a = n - 1 by omega] at o1
  rw [show a + (n - 1 - a) = n - 1 by omega] at o2
  rw [o1, o2, SH_same (n - 1 - a) h.one, SH_same a h.two]
  omega
/-! The other way. -/
def Back (X Y X' Y' : Nat → Int) (n : Nat) : Prop := ∀ j, j < n → X' j = X (n - 1 - j) ∧ Y' j = Y (n - 1 - j)
theorem back_closed (h1 : 1 ≤ n) (hc : X (n - 1) = X 0 ∧ Y (n - 1) = Y 0) (h : Back X Y X' Y' n) : X' (n - 1) = X' 0 ∧ Y' (n - 1) = Y' 0 := by
  have u := h (n - 1) (by omega)
  have v := h 0 (by omega)
  rw [Nat.sub_self] at u
  rw [Nat.sub_zero] at v
  rw [u.1, u.2, v.1, v.2, hc.1, hc.2]; exact ⟨rfl, rfl⟩
theorem back_on (h : Back X Y X' Y' n) : ∀ k, k + 1 ≤ n → (rcOn px py X' Y' k || rcOn px py X Y (n - 1 - k)) = rcOn px py X Y (n - 1)
  | 0, _ => by simp [rcOn]
  | k + 1, hk => by
    have ih := back_on h k (by omega)
    have u := h k (by omega)
    have v := h (k + 1) (by omega)
    rw [← ih, on_succ, u.1, u.2, v.1, v.2]
    obtain ⟨m, hm, hm1⟩ : ∃ m, n - 1 - (k + 1) = m ∧ n - 1 - k = m + 1 := ⟨_, rfl, by omega⟩
    rw [hm, hm1, on_succ, decide_eq_decide.2 (Ry.on_comm (ax := X (m + 1)))]
    have e : ∀ a b c : Bool, ((a || c) || b) = (a || (b || c)) := by decide
    exact e _ _ _
theorem back_up (h : Back X Y X' Y' n) : ∀ k, k + 1 ≤ n → (rcUp px py X' Y' k ^^ rcUp px py X Y (n - 1 - k)) = rcUp px py X Y (n - 1)
  | 0, _ => by simp [rcUp]
  | k + 1, hk => by
    have ih := back_up h k (by omega)
    have u := h k (by omega)
    have v := h (k + 1) (by omega)
    rw [← ih, up_succ, u.1, u.2, v.1, v.2]
    obtain ⟨m, hm, hm1⟩ : ∃ m, n - 1 - (k + 1) = m ∧ n - 1 - k = m + 1 := ⟨_, rfl, by omega⟩
    rw [hm, hm1, up_succ, decide_eq_decide.2 (Ry.up_comm (ax := X (m + 1)))]
    have e : ∀ a b c : Bool, ((a ^^ c) ^^ b) = (a ^^ (b ^^ c)) := by decide
    exact e _ _ _
theorem back_SH (h : Back X Y X' Y' n) : ∀ k, k + 1 ≤ n → Rg.SH X' Y' k = Rg.SH X Y (n - 1 - k) - Rg.SH X Y (n - 1)
  | 0, _ => by simp [Rg.SH]
  | k + 1, hk => by
    have ih := back_SH h k (by omega)
    have u := h k (by omega)
    have v := h (k + 1) (by omega)
    rw [Rg.SH_succ, ih, u.1, u.2, v.1, v.2]
    obtain ⟨m, hm, hm1⟩ : ∃ m, n - 1 - (k + 1) = m ∧ n - 1 - k = m + 1 := ⟨_, rfl, by omega⟩
    rw [hm, hm1, Rg.SH_succ]
    grind
theorem back_ringB (h2 : 2 ≤ n) (hc : X (n - 1) = X 0 ∧ Y (n - 1) = Y 0) (h : Back X Y X' Y' n) : ringB px py X' Y' n = ringB px py X Y n := by
  rw [ringB_closed h2 hc, ringB_closed h2 (back_closed (by omega) hc h)]
  have o := back_on (px := px) (py := py) h (n - 1) (by omega)
  have u := back_up (px := px) (py := py) h (n - 1) (by omega)
  rw [Nat.sub_self] at o u
  have z1 : rcOn px py X Y 0 = false := rfl
  have z2 : rcUp px py X Y 0 = false := rfl
  rw [z1, Bool.or_false] at o
  rw [z2, Bool.xor_false] at u
  rw [o, u]
theorem back_area (h2 : 1 ≤ n) (h : Back X Y X' Y' n) : Rg.SH X' Y' (n - 1) = - Rg.SH X Y (n - 1) := by
  have o := back_SH h (n - 1) (by omega)
  rw [Nat.sub_self] at o
  have z1 : Rg.SH X Y 0 = 0 := rfl
  omega
end

/-! Lists. -/
def movL (ps : List (Nat × Nat)) (d : Nat × Nat) : List (Nat × Nat) := ps.map fun p => (fadd p.1 d.1, fadd p.2 d.2)
def fromL (ps : List (Nat × Nat)) (a : Nat) : List (Nat × Nat) := (ps.drop a).take (ps.length - 1 - a) ++ ps.take a ++ [ps.getD a (0, 0)]

theorem moved_dat {ps : List (Nat × Nat)} {X Y : Nat → Int} {d : Nat × Nat} {dx dy : Int} (h : Dat ps X Y) (hd : IsP d dx dy) (sd : Small dx ∧ Small dy) : DatM (movL ps d) (fun j => X j + dx) (fun j => Y j + dy) := by
  intro i p hp
  unfold movL at hp
  rw [List.getElem?_map] at hp
  cases hq : ps[i]? with
  | none => rw [hq] at hp; simp at hp
  | some q =>
    rw [hq] at hp
    simp only [Option.map_some, Option.some.injEq] at hp
    subst hp
    obtain ⟨h1, h2, h3⟩ := h i q hq
    unfold Small at h2 h3 sd
    exact ⟨⟨isI_add h1.1 hd.1 (by omega), isI_add h1.2 hd.2 (by omega)⟩, by show Rg.Mid (X i + dx); unfold Rg.Mid; omega, by show Rg.Mid (Y i + dy); unfold Rg.Mid; omega⟩
theorem from_len {ps : List (Nat × Nat)} {a : Nat} (ha : a + 1 < ps.length) : (fromL ps a).length = ps.length := by unfold fromL; simp; omega
theorem from_mem {ps : List (Nat × Nat)} {a : Nat} (ha : a + 1 < ps.length) : ∀ p ∈ fromL ps a, p ∈ ps := by
  intro p hp
  unfold fromL at hp
  rw [List.mem_append, List.mem_append, List.mem_singleton] at hp
  rcases hp with (h | h) | rfl
  · exact List.mem_of_mem_drop (List.mem_of_mem_take h)
  · exact List.mem_of_mem_take h
  · exact List.mem_of_getElem? (getD_at (by omega))
theorem from_one {ps : List (Nat × Nat)} {a j : Nat} (ha : a + 1 < ps.length) (hj : j < ps.length - 1 - a) : (fromL ps a)[j]? = ps[a + j]? := by
  unfold fromL
  have hl : ((ps.drop a).take (ps.length - 1 - a)).length = ps.length - 1 - a := by simp; omega
  rw [List.getElem?_append_left (by rw [List.length_append]; omega), List.getElem?_append_left (by omega), List.getElem?_take, if_pos hj, List.getElem?_drop]
theorem from_two {ps : List (Nat × Nat)} {a j : Nat} (ha : a + 1 < ps.length) (hj : j < a) : (fromL ps a)[ps.length - 1 - a + j]? = ps[j]? := by
  unfold fromL
  have hl : ((ps.drop a).take (ps.length - 1 - a)).length = ps.length - 1 - a := by simp; omega
  have hl2 : (ps.take a).length = a := by simp; omega
  rw [List.getElem?_append_left (by rw [List.length_append]; omega), List.getElem?_append_right (by omega), hl, show ps.length - 1 - a + j - (ps.length - 1 - a) = j by omega, List.getElem?_take, if_pos hj]
theorem from_last {ps : List (Nat × Nat)} {a : Nat} (ha : a + 1 < ps.length) : (fromL ps a)[ps.length - 1]? = some (ps.getD a (0, 0)) := by
  unfold fromL
  have hl : ((ps.drop a).take (ps.length - 1 - a)).length = ps.length - 1 - a := by simp; omega
  have hl2 : (ps.take a).length = a := by simp; omega
  rw [List.getElem?_append_right (by rw [List.length_append]; omega), List.length_append, hl, hl2, show ps.length - 1 - (ps.length - 1 - a + a) = 0 by omega]; rfl
theorem from_turned {ps : List (Nat × Nat)} {X Y : Nat → Int} {a : Nat} (hr : RingD ps X Y) (ha : a + 1 < ps.length) : ∃ X' Y', Dat (fromL ps a) X' Y' ∧ Turned X Y X' Y' ps.length a := by
  obtain ⟨X', Y', h⟩ := dat_sub hr.dat (from_mem ha)
  have four := hr.four
  have f2l := dat_eq hr.dat h (getD_at (show a < ps.length by omega)) (from_last ha)
  have f2 : ∀ j, j ≤ a → X' (ps.length - 1 - a + j) = X j ∧ Y' (ps.length - 1 - a + j) = Y j := by
    intro j hj
    by_cases hja : j < a
    · exact dat_eq hr.dat h (getD_at (show j < ps.length by omega)) (by rw [from_two ha hja, getD_at (by omega)])
    · have : j = a := by omega
      subst this
      rw [show ps.length - 1 - j + j = ps.length - 1 by omega]
      exact f2l
  refine ⟨X', Y', h, ha, fun j hj => ?_, f2⟩
  by_cases hja : j < ps.length - 1 - a
  · exact dat_eq hr.dat h (getD_at (show a + j < ps.length by omega)) (by rw [from_one ha hja, getD_at (by omega)])
  · have hj' : j = ps.length - 1 - a := by omega
    have := f2 0 (by omega)
    rw [Nat.add_zero] at this
    rw [hj', this.1, this.2, show a + (ps.length - 1 - a) = ps.length - 1 by omega, hr.closed.1, hr.closed.2]
    exact ⟨rfl, rfl⟩
theorem back_dat {ps : List (Nat × Nat)} {X Y : Nat → Int} (h : Dat ps X Y) : Dat ps.reverse (fun j => X (ps.length - 1 - j)) (fun j => Y (ps.length - 1 - j)) := by
  intro i p hp
  have hi : i < ps.length := by have := (List.getElem?_eq_some_iff.1 hp).1; simpa using this
  rw [List.getElem?_reverse hi] at hp
  exact h _ p hp
end Go.Proofs.YtpbhpplmokdkhaaDoor
