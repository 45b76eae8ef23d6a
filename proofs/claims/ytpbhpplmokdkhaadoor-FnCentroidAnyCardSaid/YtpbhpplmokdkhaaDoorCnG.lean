/- Plain law: how often a line to the right of a point goes through the sides of a ring, with their directions. -/
import Ieee.Arith
import Derived.Test.YtpbhpplmokdkhaaDoorHaP
import Derived.Test.YtpbhpplmokdkhaaDoorSpP
import Derived.Test.YtpbhpplmokdkhaaDoorOr
set_option linter.unusedVariables false
namespace Go.Proofs.YtpbhpplmokdkhaaDoor.Cn

/-- A point, or the way from one to another. -/
structure V where
  x : Rat
  y : Rat
def V.sub (a b : V) : V := ⟨a.x - b.x, a.y - b.y⟩
def V.neg (a : V) : V := ⟨-a.x, -a.y⟩
def V.add (a b : V) : V := ⟨a.x + b.x, a.y + b.y⟩
def V.cr (u v : V) : Rat := u.x * v.y - u.y * v.x
def V.dot (u v : V) : Rat := u.x * v.x + u.y * v.y
/-- Whether the way from u to v goes through the line from 0 to the right: 1 upwards, -1 downwards. -/
def xc (u v : V) : Int :=
  if u.y ≤ 0 then (if 0 < v.y then (if 0 < u.cr v then 1 else 0) else 0)
  else (if v.y ≤ 0 then (if u.cr v < 0 then -1 else 0) else 0)
def hh (u : V) : Int := if 0 < u.y then 1 else if u.y = 0 ∧ u.x < 0 then 1 else 0

theorem mpos {a b : Rat} (h1 : 0 < a) (h2 : 0 < b) : 0 < a * b := Rat.mul_pos h1 h2
theorem mnn {a b : Rat} (h1 : 0 ≤ a) (h2 : 0 ≤ b) : 0 ≤ a * b := Rat.mul_nonneg h1 h2

theorem xc_up {u v : V} (h1 : u.y ≤ 0) (h2 : 0 < v.y) : xc u v = if 0 < u.cr v then 1 else 0 := by unfold xc; rw [if_pos h1, if_pos h2]
theorem xc_down {u v : V} (h1 : 0 < u.y) (h2 : v.y ≤ 0) : xc u v = if u.cr v < 0 then -1 else 0 := by unfold xc; rw [if_neg (by grind), if_pos h2]
theorem xc_low {u v : V} (h1 : u.y ≤ 0) (h2 : v.y ≤ 0) : xc u v = 0 := by unfold xc; rw [if_pos h1, if_neg (by grind)]
theorem xc_high {u v : V} (h1 : 0 < u.y) (h2 : 0 < v.y) : xc u v = 0 := by unfold xc; rw [if_neg (by grind), if_neg (by grind)]
theorem xc_zero {u v : V} (h : u.cr v = 0) : xc u v = 0 := by
  unfold xc
  rw [h]
  simp
theorem cr_anti (u v : V) : v.cr u = - u.cr v := by unfold V.cr; grind
theorem xc_anti (u v : V) : xc v u = - xc u v := by
  by_cases h1 : u.y ≤ 0 <;> by_cases h2 : v.y ≤ 0
  · rw [xc_low h1 h2, xc_low h2 h1]; rfl
  · rw [xc_up h1 (by grind), xc_down (by grind) h1, cr_anti u v]
    by_cases h : 0 < u.cr v
    · rw [if_pos h, if_pos (by grind)]
    · rw [if_neg h, if_neg (by grind)]; rfl
  · rw [xc_down (by grind) h2, xc_up h2 (by grind), cr_anti u v]
    by_cases h : u.cr v < 0
    · rw [if_pos h, if_pos (by grind)]; rfl
    · rw [if_neg h, if_neg (by grind)]; rfl
  · rw [xc_high (by grind) (by grind), xc_high (by grind) (by grind)]; rfl
/-- The law of a triangle of two ways and their sum. -/
theorem xc_tri (u v : V) : xc u (u.add v) + xc (u.add v) v = xc u v := by
  have e1 : u.cr (u.add v) = u.cr v := by unfold V.cr V.add; grind
  have e2 : (u.add v).cr v = u.cr v := by unfold V.cr V.add; grind
  have ey : (u.add v).y = u.y + v.y := rfl
  unfold xc
  rw [e1, e2, ey]
  by_cases h1 : u.y ≤ 0 <;> by_cases h2 : v.y ≤ 0 <;> by_cases h3 : u.y + v.y ≤ 0 <;> by_cases h4 : 0 < u.cr v <;> by_cases h5 : u.cr v < 0 <;> simp [h1, h2, h3, h4, h5] <;> grind
theorem xc_scale {u u' v : V} {k : Rat} (hk : 0 < k) (h1 : u'.x = k * u.x) (h2 : u'.y = k * u.y) : xc u' v = xc u v := by
  have e : u'.cr v = k * u.cr v := by unfold V.cr; rw [h1, h2]; grind
  have a1 : (u'.y ≤ 0) ↔ (u.y ≤ 0) := by
    rw [h2]
    constructor
    · intro h
      by_cases c : u.y ≤ 0
      · exact c
      · have := mpos hk (show 0 < u.y by grind); grind
    · intro h; have := mnn (show 0 ≤ k by grind) (show 0 ≤ -u.y by grind); grind
  have a2 : (0 < u'.cr v) ↔ (0 < u.cr v) := by
    rw [e]
    constructor
    · intro h
      by_cases c : 0 < u.cr v
      · exact c
      · have := mnn (show 0 ≤ k by grind) (show 0 ≤ -(u.cr v) by grind); grind
    · intro h; exact mpos hk h
  have a3 : (u'.cr v < 0) ↔ (u.cr v < 0) := by
    rw [e]
    constructor
    · intro h
      by_cases c : u.cr v < 0
      · exact c
      · have := mnn (show 0 ≤ k by grind) (show 0 ≤ u.cr v by grind); grind
    · intro h; have := mpos hk (show 0 < -(u.cr v) by grind); grind
  unfold xc
  simp only [a1, a2, a3]
theorem xc_left {u v : V} (h1 : u.x ≤ 0) (h2 : v.x ≤ 0) : xc u v = 0 := by
  by_cases c1 : u.y ≤ 0 <;> by_cases c2 : v.y ≤ 0
  · exact xc_low c1 c2
  · rw [xc_up c1 (by grind), if_neg]
    have m1 := mnn (show 0 ≤ -u.x by grind) (show 0 ≤ v.y by grind)
    have m2 := mnn (show 0 ≤ -u.y by grind) (show 0 ≤ -v.x by grind)
    unfold V.cr; grind
  · rw [xc_down (by grind) c2, if_neg]
    have m1 := mnn (show 0 ≤ -u.x by grind) (show 0 ≤ -v.y by grind)
    have m2 := mnn (show 0 ≤ u.y by grind) (show 0 ≤ -v.x by grind)
    unfold V.cr; grind
  · exact xc_high (by grind) (by grind)
/-- Two ways that do not lead back. -/
def Fwd (u v : V) : Prop := (u.x ≠ 0 ∨ u.y ≠ 0) ∧ (v.x ≠ 0 ∨ v.y ≠ 0) ∧ (u.cr v = 0 → 0 < u.dot v)
theorem sq_nn (a : Rat) : 0 ≤ a * a := by
  by_cases h : 0 ≤ a
  · exact mnn h h
  · have := mnn (show 0 ≤ -a by grind) (show 0 ≤ -a by grind); grind
theorem sq_pos {a : Rat} (h : a ≠ 0) : 0 < a * a := by
  by_cases c : 0 < a
  · exact mpos c c
  · have := mpos (show 0 < -a by grind) (show 0 < -a by grind); grind
theorem same_sign {n d a b : Rat} (hn : 0 < n) (hd : 0 < d) (e : n * b = d * a) : (0 < a ↔ 0 < b) ∧ (a = 0 ↔ b = 0) ∧ (a < 0 ↔ b < 0) := by
  by_cases c1 : 0 < a
  · have m := mpos hd c1
    have : 0 < b := by
      by_cases c : 0 < b
      · exact c
      · have := mnn (show 0 ≤ n by grind) (show 0 ≤ -b by grind); grind
    grind
  · by_cases c2 : a = 0
    · subst c2
      have : b = 0 := by
        by_cases p : 0 < b
        · have := mpos hn p; grind
        · by_cases q : b < 0
          · have := mpos hn (show 0 < -b by grind); grind
          · grind
      grind
    · have m := mpos hd (show 0 < -a by grind)
      have : b < 0 := by
        by_cases c : b < 0
        · exact c
        · have := mnn (show 0 ≤ n by grind) (show 0 ≤ b by grind); grind
      grind
theorem cr_u0 {u v : V} (h : u.y = 0) : u.cr v = u.x * v.y := by unfold V.cr; rw [h]; grind
theorem cr_v0 {u v : V} (h : v.y = 0) : u.cr v = -(u.y * v.x) := by unfold V.cr; rw [h]; grind
theorem xc_neg {u v : V} (h : Fwd u v) : xc u v + hh u = xc u.neg v.neg + hh v := by
  obtain ⟨hu, hv, hd⟩ := h
  have e : u.neg.cr v.neg = u.cr v := by unfold V.cr V.neg; grind
  have e1 : u.neg.y = - u.y := rfl
  have e2 : v.neg.y = - v.y := rfl
  by_cases hz : u.cr v = 0
  · have hd' := hd hz
    have hz' := hz
    unfold V.dot at hd'
    unfold V.cr at hz'
    have hN : 0 < u.x * u.x + u.y * u.y := by
      rcases hu with h | h
      · have := sq_pos h; have := sq_nn u.y; grind
      · have := sq_pos h; have := sq_nn u.x; grind
    have s1 := same_sign (a := u.y) (b := v.y) hN hd' (by grind)
    have s2 := same_sign (a := u.x) (b := v.x) hN hd' (by grind)
    rw [xc_zero hz, xc_zero (e.trans hz)]
    unfold hh
    simp only [s1.1, s1.2.1, s2.2.2]
  · have p1 : 0 < u.cr v ∨ u.cr v < 0 := by grind
    have u3 : u.y < 0 ∨ u.y = 0 ∨ 0 < u.y := by grind
    have v3 : v.y < 0 ∨ v.y = 0 ∨ 0 < v.y := by grind
    have f1 : u.y = 0 → 0 < u.x → 0 < v.y → 0 < u.cr v := fun a b c => by have := mpos b c; rw [cr_u0 a]; grind
    have f2 : u.y = 0 → 0 < u.x → v.y < 0 → u.cr v < 0 := fun a b c => by have := mpos b (show 0 < -v.y by grind); rw [cr_u0 a]; grind
    have f3 : u.y = 0 → u.x < 0 → 0 < v.y → u.cr v < 0 := fun a b c => by have := mpos (show 0 < -u.x by grind) c; rw [cr_u0 a]; grind
    have f4 : u.y = 0 → u.x < 0 → v.y < 0 → 0 < u.cr v := fun a b c => by have := mpos (show 0 < -u.x by grind) (show 0 < -v.y by grind); rw [cr_u0 a]; grind
    have f5 : v.y = 0 → 0 < v.x → 0 < u.y → u.cr v < 0 := fun a b c => by have := mpos b c; rw [cr_v0 a]; grind
    have f6 : v.y = 0 → 0 < v.x → u.y < 0 → 0 < u.cr v := fun a b c => by have := mpos b (show 0 < -u.y by grind); rw [cr_v0 a]; grind
    have f7 : v.y = 0 → v.x < 0 → 0 < u.y → 0 < u.cr v := fun a b c => by have := mpos (show 0 < -v.x by grind) c; rw [cr_v0 a]; grind
    have f8 : v.y = 0 → v.x < 0 → u.y < 0 → u.cr v < 0 := fun a b c => by have := mpos (show 0 < -v.x by grind) (show 0 < -u.y by grind); rw [cr_v0 a]; grind
    have f9 : ¬ (u.y = 0 ∧ v.y = 0) := fun ⟨a, b⟩ => hz (by rw [cr_u0 a, b]; grind)
    have ux : u.y = 0 → u.x < 0 ∨ 0 < u.x := by grind
    have vx : v.y = 0 → v.x < 0 ∨ 0 < v.x := by grind
    unfold xc hh
    rw [e, e1, e2]
    generalize u.cr v = c at *
    generalize u.y = a at *
    generalize v.y = b at *
    generalize u.x = m at *
    generalize v.x = n at *
    clear e e1 e2 hu hv hd
    grind
/-- 0 or 1: the turn at a corner. -/
theorem turn_01 (u v : V) : xc u v + hh u = 0 ∨ xc u v + hh u = 1 := by
  have f3 : u.y = 0 → u.x < 0 → 0 < v.y → u.cr v < 0 := fun a b c => by have := mpos (show 0 < -u.x by grind) c; rw [cr_u0 a]; grind
  unfold xc hh
  generalize u.cr v = c at *
  generalize u.y = a at *
  generalize v.y = b at *
  generalize u.x = m at *
  grind

/-! The law of a parallelogram. -/
/-- From the point at a share of p q to that at a share of a b. -/
def fw (a b p q : V) (s t : Rat) : V := ⟨a.x + s * (b.x - a.x) - (p.x + t * (q.x - p.x)), a.y + s * (b.y - a.y) - (p.y + t * (q.y - p.y))⟩
def Sh (s : Rat) : Prop := 0 ≤ s ∧ s ≤ 1
def Apart (a b p q : V) : Prop := ∀ s t, Sh s → Sh t → ¬ ((fw a b p q s t).x = 0 ∧ (fw a b p q s t).y = 0)
theorem sh_mix {s s' r : Rat} (h : Sh s) (h' : Sh s') (hr : Sh r) : Sh (s + r * (s' - s)) := by
  unfold Sh at *
  have m1 := mnn hr.1 h'.1
  have m2 := mnn (show 0 ≤ 1 - r by grind) h.1
  have m3 := mnn hr.1 (show 0 ≤ 1 - s' by grind)
  have m4 := mnn (show 0 ≤ 1 - r by grind) (show 0 ≤ 1 - s by grind)
  constructor <;> grind
section
variable {a b p q : V} {s s' t t' : Rat}
theorem fw_mix (r : Rat) : fw a b p q (s + r * (s' - s)) (t + r * (t' - t)) = ⟨(fw a b p q s t).x + r * ((fw a b p q s' t').x - (fw a b p q s t).x), (fw a b p q s t).y + r * ((fw a b p q s' t').y - (fw a b p q s t).y)⟩ := by
  unfold fw; congr 1 <;> grind
/-- Where a way goes through the line of 0. -/
theorem fw_zero (hs : Sh s) (hs' : Sh s') (ht : Sh t) (ht' : Sh t') (h : ((fw a b p q s t).y ≤ 0 ∧ 0 < (fw a b p q s' t').y) ∨ (0 < (fw a b p q s t).y ∧ (fw a b p q s' t').y ≤ 0)) :
    ∃ m n, Sh m ∧ Sh n ∧ (fw a b p q m n).y = 0 ∧ ((xc (fw a b p q s t) (fw a b p q s' t') ≠ 0 ∧ 0 < (fw a b p q m n).x) ∨ (xc (fw a b p q s t) (fw a b p q s' t') = 0 ∧ (fw a b p q m n).x ≤ 0)) := by
  obtain ⟨u, hu⟩ : ∃ u, u = fw a b p q s t := ⟨_, rfl⟩
  obtain ⟨v, hv⟩ : ∃ v, v = fw a b p q s' t' := ⟨_, rfl⟩
  rw [← hu, ← hv] at h ⊢
  have hne : v.y - u.y ≠ 0 := by grind
  obtain ⟨r, hr⟩ : ∃ r, r = (-u.y) / (v.y - u.y) := ⟨_, rfl⟩
  have hr1 : r * (v.y - u.y) = -u.y := by rw [hr]; exact Rat.div_mul_cancel hne
  have hr01 : Sh r := by
    unfold Sh
    rcases h with h | h
    · constructor
      · by_cases c : 0 ≤ r
        · exact c
        · have := mpos (show 0 < -r by grind) (show 0 < v.y - u.y by grind); grind
      · by_cases c : r ≤ 1
        · exact c
        · have := mpos (show 0 < r - 1 by grind) (show 0 < v.y - u.y by grind); grind
    · constructor
      · by_cases c : 0 ≤ r
        · exact c
        · have := mpos (show 0 < -r by grind) (show 0 < u.y - v.y by grind); grind
      · by_cases c : r ≤ 1
        · exact c
        · have := mpos (show 0 < r - 1 by grind) (show 0 < u.y - v.y by grind); grind
  have hm := fw_mix (a := a) (b := b) (p := p) (q := q) (s := s) (s' := s') (t := t) (t' := t') r
  rw [← hu, ← hv] at hm
  have hc : (u.x + r * (v.x - u.x)) * (v.y - u.y) = u.cr v := by unfold V.cr; grind
  refine ⟨_, _, sh_mix hs hs' hr01, sh_mix ht ht' hr01, ?_, ?_⟩
  · rw [hm]; show u.y + r * (v.y - u.y) = 0; grind
  · rw [hm]
    show (_ ∧ 0 < u.x + r * (v.x - u.x)) ∨ (_ ∧ u.x + r * (v.x - u.x) ≤ 0)
    generalize u.x + r * (v.x - u.x) = X at *
    rcases h with h | h
    · rw [xc_up h.1 h.2]
      by_cases c : 0 < X
      · left
        have := mpos c (show 0 < v.y - u.y by grind)
        rw [if_pos (by grind)]
        exact ⟨by decide, c⟩
      · right
        have := mnn (show 0 ≤ -X by grind) (show 0 ≤ v.y - u.y by grind)
        rw [if_neg (by grind)]
        exact ⟨rfl, by grind⟩
    · rw [xc_down h.1 h.2]
      by_cases c : 0 < X
      · left
        have := mpos c (show 0 < u.y - v.y by grind)
        rw [if_pos (by grind)]
        exact ⟨by decide, c⟩
      · right
        have := mnn (show 0 ≤ -X by grind) (show 0 ≤ u.y - v.y by grind)
        rw [if_neg (by grind)]
        exact ⟨rfl, by grind⟩
theorem no_chord (h : Apart a b p q) (hs : Sh s) (hs' : Sh s') (ht : Sh t) (ht' : Sh t') (e : (fw a b p q s t).y = 0) (e' : (fw a b p q s' t').y = 0) (h1 : 0 < (fw a b p q s t).x) (h2 : (fw a b p q s' t').x ≤ 0) : False := by
  obtain ⟨u, hu⟩ : ∃ u, u = fw a b p q s t := ⟨_, rfl⟩
  obtain ⟨v, hv⟩ : ∃ v, v = fw a b p q s' t' := ⟨_, rfl⟩
  rw [← hu] at e h1
  rw [← hv] at e' h2
  obtain ⟨r, hr⟩ : ∃ r, r = u.x / (u.x - v.x) := ⟨_, rfl⟩
  have hr1 : r * (u.x - v.x) = u.x := by rw [hr]; exact Rat.div_mul_cancel (by grind)
  have hr01 : Sh r := by
    unfold Sh
    constructor
    · by_cases c : 0 ≤ r
      · exact c
      · have := mpos (show 0 < -r by grind) (show 0 < u.x - v.x by grind); grind
    · by_cases c : r ≤ 1
      · exact c
      · have := mpos (show 0 < r - 1 by grind) (show 0 < u.x - v.x by grind); grind
  have hm := fw_mix (a := a) (b := b) (p := p) (q := q) (s := s) (s' := s') (t := t) (t' := t') r
  rw [← hu, ← hv] at hm
  refine h _ _ (sh_mix hs hs' hr01) (sh_mix ht ht' hr01) ?_
  rw [hm]
  exact ⟨by show u.x + r * (v.x - u.x) = 0; grind, by show u.y + r * (v.y - u.y) = 0; grind⟩
/-- A way up and a way down along sides of the parallelogram. -/
theorem up_down {s1 t1 s2 t2 s3 t3 s4 t4 : Rat} (h : Apart a b p q) (hs1 : Sh s1) (ht1 : Sh t1) (hs2 : Sh s2) (ht2 : Sh t2) (hs3 : Sh s3) (ht3 : Sh t3) (hs4 : Sh s4) (ht4 : Sh t4)
    (h1 : (fw a b p q s1 t1).y ≤ 0) (h2 : 0 < (fw a b p q s2 t2).y) (h3 : 0 < (fw a b p q s3 t3).y) (h4 : (fw a b p q s4 t4).y ≤ 0) :
    xc (fw a b p q s1 t1) (fw a b p q s2 t2) + xc (fw a b p q s3 t3) (fw a b p q s4 t4) = 0 := by
  obtain ⟨m, n, hm, hn, e, r⟩ := fw_zero hs1 hs2 ht1 ht2 (.inl ⟨h1, h2⟩)
  obtain ⟨m', n', hm', hn', e', r'⟩ := fw_zero hs3 hs4 ht3 ht4 (.inr ⟨h3, h4⟩)
  rw [xc_up h1 h2] at r ⊢
  rw [xc_down h3 h4] at r' ⊢
  rcases r with ⟨r1, r2⟩ | ⟨r1, r2⟩ <;> rcases r' with ⟨q1, q2⟩ | ⟨q1, q2⟩
  · grind
  · exact (no_chord h hm hm' hn hn' e e' r2 q2).elim
  · exact (no_chord h hm' hm hn' hn e' e q2 r2).elim
  · rw [r1, q1]; rfl
theorem para0 (h : Apart a b p q) : xc (fw a b p q 0 0) (fw a b p q 1 0) + xc (fw a b p q 1 0) (fw a b p q 1 1) + xc (fw a b p q 1 1) (fw a b p q 0 1) + xc (fw a b p q 0 1) (fw a b p q 0 0) = 0 := by
  have z : Sh 0 := ⟨by grind, by grind⟩
  have o : Sh 1 := ⟨by grind, by grind⟩
  have e : (fw a b p q 0 0).y + (fw a b p q 1 1).y = (fw a b p q 1 0).y + (fw a b p q 0 1).y := by unfold fw; grind
  by_cases c1 : (fw a b p q 0 0).y ≤ 0 <;> by_cases c2 : (fw a b p q 1 0).y ≤ 0 <;> by_cases c3 : (fw a b p q 1 1).y ≤ 0 <;> by_cases c4 : (fw a b p q 0 1).y ≤ 0
  all_goals first
    | (exfalso; grind)
    | skip
  · rw [xc_low c1 c2, xc_low c2 c3, xc_low c3 c4, xc_low c4 c1]; rfl
  · have := up_down h o o z o z o z z c3 (by grind) (by grind) c1
    rw [xc_low c1 c2, xc_low c2 c3]; grind
  · have := up_down h o z o o o o z o c2 (by grind) (by grind) c4
    rw [xc_low c1 c2, xc_low c4 c1]; grind
  · have := up_down h o z o o z o z z c2 (by grind) (by grind) c1
    rw [xc_low c1 c2, xc_high (u := fw a b p q 1 1) (by grind) (by grind)]; grind
  · have := up_down h z z o z o z o o c1 (by grind) (by grind) c3
    rw [xc_low c3 c4, xc_low c4 c1]; grind
  · have := up_down h z z o z o o z o c1 (by grind) (by grind) c4
    rw [xc_high (u := fw a b p q 1 0) (by grind) (by grind), xc_low c4 c1]; grind
  · have := up_down h z z o z z o z z c1 (by grind) (by grind) c1
    rw [xc_high (u := fw a b p q 1 0) (by grind) (by grind), xc_high (u := fw a b p q 1 1) (by grind) (by grind)]; grind
  · have := up_down h z o z z z z o z c4 (by grind) (by grind) c2
    rw [xc_low c2 c3, xc_low c3 c4]; grind
  · have := up_down h o o z o z z o z c3 (by grind) (by grind) c2
    rw [xc_low c2 c3, xc_high (u := fw a b p q 0 1) (by grind) (by grind)]; grind
  · have := up_down h o z o o z z o z c2 (by grind) (by grind) c2
    rw [xc_high (u := fw a b p q 1 1) (by grind) (by grind), xc_high (u := fw a b p q 0 1) (by grind) (by grind)]; grind
  · have := up_down h z o z z o z o o c4 (by grind) (by grind) c3
    rw [xc_high (u := fw a b p q 0 0) (by grind) (by grind), xc_low c3 c4]; grind
  · have := up_down h o o z o o z o o c3 (by grind) (by grind) c3
    rw [xc_high (u := fw a b p q 0 0) (by grind) (by grind), xc_high (u := fw a b p q 0 1) (by grind) (by grind)]; grind
  · have := up_down h z o z z o o z o c4 (by grind) (by grind) c4
    rw [xc_high (u := fw a b p q 0 0) (by grind) (by grind), xc_high (u := fw a b p q 1 0) (by grind) (by grind)]; grind
  · rw [xc_high (by grind) (by grind), xc_high (by grind) (by grind), xc_high (by grind) (by grind), xc_high (by grind) (by grind)]; rfl
end
/-- How a side goes through the line to the right of a point. -/
def cx (p a b : V) : Int := xc (a.sub p) (b.sub p)
/-- The law of two sides that are apart. -/
theorem para {a b p q : V} (h : Apart a b p q) : cx p a b - cx q a b = xc (b.sub q) (b.sub p) - xc (a.sub q) (a.sub p) := by
  have e := para0 h
  have e1 : fw a b p q 0 0 = a.sub p := by unfold fw V.sub; congr 1 <;> grind
  have e2 : fw a b p q 1 0 = b.sub p := by unfold fw V.sub; congr 1 <;> grind
  have e3 : fw a b p q 1 1 = b.sub q := by unfold fw V.sub; congr 1 <;> grind
  have e4 : fw a b p q 0 1 = a.sub q := by unfold fw V.sub; congr 1 <;> grind
  rw [e1, e2, e3, e4, xc_anti (b.sub q) (b.sub p), xc_anti (a.sub q) (b.sub q)] at e
  unfold cx
  omega
end Go.Proofs.YtpbhpplmokdkhaaDoor.Cn

/- Plain law: the number of turns around the left of a side of a simple ring is the same for all of its sides, 0 or 1. -/
set_option linter.unusedVariables false
namespace Go.Proofs.YtpbhpplmokdkhaaDoor.Cn

/-- The sum of so many, from a place on. -/
def su (g : Nat → Int) (k : Nat) : Nat → Int
  | 0 => 0
  | m + 1 => su g k m + g (k + m)
theorem su_head (g : Nat → Int) (k : Nat) : ∀ m, su g k (m + 1) = g k + su g (k + 1) m
  | 0 => by simp [su]
  | m + 1 => by
    rw [su, su_head g k m, su, show k + (m + 1) = k + 1 + m by omega]; omega
theorem su_zero {g : Nat → Int} {k : Nat} : ∀ m, (∀ j, k ≤ j → j < k + m → g j = 0) → su g k m = 0
  | 0, _ => rfl
  | m + 1, h => by rw [su, su_zero m (fun j h1 h2 => h j h1 (by omega)), h (k + m) (by omega) (by omega)]; rfl
theorem su_congr {g g' : Nat → Int} {k k' : Nat} : ∀ m, (∀ j, j < m → g (k + j) = g' (k' + j)) → su g k m = su g' k' m
  | 0, _ => rfl
  | m + 1, h => by rw [su, su, su_congr m (fun j hj => h j (by omega)), h m (by omega)]
theorem su_add (g : Nat → Int) (k m : Nat) : ∀ l, su g k (m + l) = su g k m + su g (k + m) l
  | 0 => by simp [su]
  | l + 1 => by rw [show m + (l + 1) = m + l + 1 by omega, su, su_add g k m l, su, show k + (m + l) = k + m + l by omega]; omega

/-- The way along a side. -/
def ed (v : Nat → V) (j : Nat) : V := (v (j + 1)).sub (v j)
def cxs (v : Nat → V) (p : V) (j : Nat) : Int := cx p (v j) (v (j + 1))
structure RingV (v : Nat → V) (n : Nat) : Prop where
  three : 3 ≤ n
  per : ∀ i, v (i + n) = v i
  fwd : ∀ i, Fwd (ed v i) (ed v (i + 1))
  apart : ∀ i j, i + 2 ≤ j → j + 2 ≤ i + n → Apart (v j) (v (j + 1)) (v i) (v (i + 1))
theorem path {v : Nat → V} {p q : V} {k : Nat} : ∀ m, (∀ j, k ≤ j → j < k + m → Apart (v j) (v (j + 1)) p q) →
    su (cxs v p) k m - su (cxs v q) k m = xc ((v (k + m)).sub q) ((v (k + m)).sub p) - xc ((v k).sub q) ((v k).sub p)
  | 0, _ => by simp [su]
  | m + 1, h => by
    have i := path m (fun j h1 h2 => h j h1 (by omega))
    have e := para (h (k + m) (by omega) (by omega))
    rw [su, su]
    unfold cxs at i ⊢
    rw [show k + (m + 1) = k + m + 1 by omega]
    omega
section
variable {v : Nat → V} {n : Nat}
/-- What a corner sees. -/
def see (v : Nat → V) (n i : Nat) : Int := su (cxs v (v i)) (i + 1) (n - 2)
def lam (v : Nat → V) (n i : Nat) : Int := see v n i + xc (ed v (i + n - 1)) (ed v i) + hh (ed v (i + n - 1))
theorem sub_add (a b c : V) : a.sub b = (c.sub b).add (a.sub c) := by unfold V.sub V.add; congr 1 <;> grind
theorem sub_neg (a b : V) : a.sub b = (b.sub a).neg := by unfold V.sub V.neg; congr 1 <;> grind
theorem add_comm' (a b : V) : a.add b = b.add a := by unfold V.add; congr 1 <;> grind
theorem neg_add (a b : V) : (a.add b).neg = a.neg.add b.neg := by unfold V.add V.neg; congr 1 <;> grind
theorem lam_step (h : RingV v n) (i : Nat) : lam v n i = lam v n (i + 1) := by
  have n3 := h.three
  obtain ⟨m, rfl⟩ : ∃ m, n = m + 3 := ⟨n - 3, by omega⟩
  have hp := path (v := v) (p := v i) (q := v (i + 1)) (k := i + 2) m (fun j h1 h2 => h.apart i j (by omega) (by omega))
  have ePer := h.per i
  have ePer1 := h.per (i + 1)
  have hf := h.fwd (i + m + 2)
  unfold lam see
  rw [show i + (m + 3) - 1 = i + m + 2 by omega, show i + 1 + (m + 3) - 1 = i + (m + 3) by omega, show m + 3 - 2 = m + 1 by omega, su_head, show i + 1 + 1 = i + 2 by omega, su]
  rw [show i + 2 + m = i + m + 2 by omega] at *
  have eW : ed v (i + (m + 3)) = ed v i := by
    unfold ed
    rw [show i + (m + 3) + 1 = i + 1 + (m + 3) by omega, ePer, ePer1]
  have eU : ed v (i + m + 2) = (v i).sub (v (i + m + 2)) := by
    unfold ed
    rw [show i + m + 2 + 1 = i + (m + 3) by omega, ePer]
  rw [show i + m + 2 + 1 = i + (m + 3) by omega] at hf
  rw [eW] at hf ⊢
  have ec : cxs v (v (i + 1)) (i + m + 2) = xc ((v (i + m + 2)).sub (v (i + 1))) ((v i).sub (v (i + 1))) := by
    unfold cxs cx
    rw [show i + m + 2 + 1 = i + (m + 3) by omega, ePer]
  have ec2 : cxs v (v i) (i + 1) = xc ((v (i + 1)).sub (v i)) ((v (i + 2)).sub (v i)) := rfl
  rw [ec, ec2]
  have eW2 : ed v i = (v (i + 1)).sub (v i) := rfl
  have eZ : ed v (i + 1) = (v (i + 2)).sub (v (i + 1)) := rfl
  rw [eU] at hf ⊢
  rw [eW2] at hf ⊢
  rw [eZ]
  generalize v (i + m + 2) = a at *
  generalize v i = p at *
  generalize v (i + 1) = q at *
  generalize v (i + 2) = d at *
  have t1 := xc_tri (q.sub p) (d.sub q)
  rw [← sub_add d p q] at t1
  have t2 := xc_tri (p.sub a).neg (q.sub p).neg
  rw [← neg_add, ← sub_add q a p, ← sub_neg a q, ← sub_neg a p, ← sub_neg p q] at t2
  have t3 := xc_neg hf
  rw [← sub_neg a p, ← sub_neg p q] at t3
  have a1 := xc_anti (d.sub q) (d.sub p)
  have a2 := xc_anti (a.sub q) (a.sub p)
  omega
theorem lam_all (h : RingV v n) : ∀ i, lam v n i = lam v n 0
  | 0 => rfl
  | i + 1 => by rw [← lam_step h i, lam_all h i]
theorem per_mod (h : RingV v n) (j : Nat) : v j = v (j % n) := by
  have n3 := h.three
  induction j using Nat.strongRecOn with
  | ind j ih =>
    by_cases c : j < n
    · rw [Nat.mod_eq_of_lt c]
    · have := h.per (j - n)
      rw [show j - n + n = j by omega] at this
      rw [this, ih (j - n) (by omega), ← Nat.mod_eq_sub_mod (by omega)]
theorem top (X : Nat → Rat) : ∀ n, 1 ≤ n → ∃ i, i < n ∧ ∀ j, j < n → X j ≤ X i
  | 0, h => by omega
  | 1, _ => ⟨0, by omega, fun j hj => by obtain rfl : j = 0 := by omega
                                         grind⟩
  | n + 2, _ => by
    obtain ⟨i, hi, h⟩ := top X (n + 1) (by omega)
    by_cases c : X i ≤ X (n + 1)
    · refine ⟨n + 1, by omega, fun j hj => ?_⟩
      by_cases e : j = n + 1
      · subst e; grind
      · have := h j (by omega); grind
    · refine ⟨i, by omega, fun j hj => ?_⟩
      by_cases e : j = n + 1
      · subst e; grind
      · exact h j (by omega)
theorem lam_01 (h : RingV v n) : lam v n 0 = 0 ∨ lam v n 0 = 1 := by
  have n3 := h.three
  obtain ⟨i, hi, hm⟩ := top (fun j => (v j).x) n (by omega)
  have hall : ∀ j, (v j).x ≤ (v i).x := fun j => by rw [per_mod h j]; exact hm _ (Nat.mod_lt _ (by omega))
  have e : see v n i = 0 := by
    refine su_zero _ (fun j _ _ => ?_)
    unfold cxs cx
    have a1 := hall j
    have a2 := hall (j + 1)
    exact xc_left (by unfold V.sub; show (v j).x - (v i).x ≤ 0; grind) (by unfold V.sub; show (v (j + 1)).x - (v i).x ≤ 0; grind)
  rw [← lam_all h i]
  have t := turn_01 (ed v (i + n - 1)) (ed v i)
  unfold lam
  rw [e]
  omega
/-- The point at a share of a side. -/
def pt (v : Nat → V) (i : Nat) (r : Rat) : V := ⟨(v i).x + r * ((v (i + 1)).x - (v i).x), (v i).y + r * ((v (i + 1)).y - (v i).y)⟩
/-- What a point within a side sees. -/
theorem see_pt (h : RingV v n) (i : Nat) {r : Rat} (h0 : 0 < r) (h1 : r < 1) : su (cxs v (pt v i r)) (i + 1) (n - 1) = lam v n 0 - hh (ed v i) := by
  have n3 := h.three
  obtain ⟨m, rfl⟩ : ∃ m, n = m + 3 := ⟨n - 3, by omega⟩
  obtain ⟨z, hz⟩ : ∃ z, z = pt v i r := ⟨_, rfl⟩
  have zx : z.x = (v i).x + r * ((v (i + 1)).x - (v i).x) := by rw [hz]; rfl
  have zy : z.y = (v i).y + r * ((v (i + 1)).y - (v i).y) := by rw [hz]; rfl
  have ePer := h.per i
  have ePer1 := h.per (i + 1)
  have hp := path (v := v) (p := z) (q := v (i + 1)) (k := i + 2) (m + 1) (fun j h1' h2 => by
    intro s t hs ht hh
    have hst : Sh (r + t * (1 - r)) := sh_mix ⟨by grind, by grind⟩ ⟨by grind, by grind⟩ ht
    by_cases c : j + 2 ≤ i + (m + 3)
    · refine h.apart i j h1' c s _ hs hst ?_
      obtain ⟨g1, g2⟩ := hh
      unfold fw at g1 g2 ⊢
      rw [zx] at g1
      rw [zy] at g2
      constructor
      · rw [← g1]
        show _ - _ = _ - _
        grind
      · rw [← g2]
        show _ - _ = _ - _
        grind
    · obtain rfl : j = i + m + 2 := by omega
      have hf := h.fwd (i + m + 2)
      have eW : ed v (i + m + 2 + 1) = ed v i := by
        unfold ed
        rw [show i + m + 2 + 1 + 1 = i + 1 + (m + 3) by omega, ePer1, show i + m + 2 + 1 = i + (m + 3) by omega, ePer]
      have eU : ed v (i + m + 2) = (v i).sub (v (i + m + 2)) := by
        unfold ed
        rw [show i + m + 2 + 1 = i + (m + 3) by omega, ePer]
      rw [eW, eU] at hf
      rw [show i + m + 2 + 1 = i + (m + 3) by omega, ePer] at hh
      obtain ⟨g1, g2⟩ := hh
      unfold fw at g1 g2
      rw [zx] at g1
      rw [zy] at g2
      obtain ⟨f1, f2, f3⟩ := hf
      simp only [ed, V.sub, V.cr, V.dot] at f1 f2 f3 g1 g2
      generalize v (i + m + 2) = a at *
      generalize v i = p at *
      generalize v (i + 1) = q at *
      -- (1 - s) (p - a) + (r + t (1 - r)) (q - p) = 0
      obtain ⟨k, hk⟩ : ∃ k, k = r + t * (1 - r) := ⟨_, rfl⟩
      have hk0 : 0 < k := by have := mnn ht.1 (show 0 ≤ 1 - r by grind); grind
      have w1 : (1 - s) * (p.x - a.x) + k * (q.x - p.x) = 0 := by rw [hk]; grind
      have w2 : (1 - s) * (p.y - a.y) + k * (q.y - p.y) = 0 := by rw [hk]; grind
      have c0 : (p.x - a.x) * (q.y - p.y) - (p.y - a.y) * (q.x - p.x) = 0 := by
        have e1 : k * ((p.x - a.x) * (q.y - p.y) - (p.y - a.y) * (q.x - p.x)) = 0 := by grind
        rcases Rat.mul_eq_zero.1 e1 with h' | h'
        · grind
        · exact h'
      have d0 := f3 c0
      have m1 := mnn (show 0 ≤ 1 - s by have := hs.2; grind) (show 0 ≤ (p.x - a.x) * (q.x - p.x) + (p.y - a.y) * (q.y - p.y) by grind)
      have m2 : 0 < k * ((q.x - p.x) * (q.x - p.x) + (q.y - p.y) * (q.y - p.y)) := by
        refine mpos hk0 ?_
        rcases f2 with h' | h'
        · have := sq_pos h'; have := sq_nn (q.y - p.y); grind
        · have := sq_pos h'; have := sq_nn (q.x - p.x); grind
      have e2 : (1 - s) * ((p.x - a.x) * (q.x - p.x) + (p.y - a.y) * (q.y - p.y)) + k * ((q.x - p.x) * (q.x - p.x) + (q.y - p.y) * (q.y - p.y)) = 0 := by grind
      grind)
  rw [← lam_all h (i + 1)]
  unfold lam see
  rw [← hz, show m + 3 - 1 = m + 1 + 1 by omega, su_head, show i + 1 + 1 = i + 2 by omega, show m + 3 - 2 = m + 1 by omega, show i + 1 + (m + 3) - 1 = i + (m + 3) by omega]
  rw [show i + 2 + (m + 1) = i + (m + 3) by omega, ePer] at hp
  have eW : ed v (i + (m + 3)) = ed v i := by
    unfold ed
    rw [show i + (m + 3) + 1 = i + 1 + (m + 3) by omega, ePer, ePer1]
  rw [eW]
  have y0 : xc ((v i).sub (v (i + 1))) ((v i).sub z) = 0 := xc_zero (by
    unfold V.cr V.sub
    show ((v i).x - (v (i + 1)).x) * ((v i).y - z.y) - ((v i).y - (v (i + 1)).y) * ((v i).x - z.x) = 0
    rw [zx, zy]; grind)
  have ec : cxs v z (i + 1) = xc ((v (i + 1)).sub z) ((v (i + 2)).sub z) := rfl
  have eW2 : ed v i = (v (i + 1)).sub (v i) := rfl
  have eZ : ed v (i + 1) = (v (i + 2)).sub (v (i + 1)) := rfl
  have sc : xc ((v (i + 1)).sub z) (ed v (i + 1)) = xc (ed v i) (ed v (i + 1)) := by
    refine xc_scale (k := 1 - r) (by grind) ?_ ?_
    · show (v (i + 1)).x - z.x = (1 - r) * ((v (i + 1)).x - (v i).x)
      rw [zx]; grind
    · show (v (i + 1)).y - z.y = (1 - r) * ((v (i + 1)).y - (v i).y)
      rw [zy]; grind
  rw [y0] at hp
  rw [ec, ← sc, eZ]
  generalize v (i + 2) = d at *
  generalize v (i + 1) = q at *
  have t1 := xc_tri (q.sub z) (d.sub q)
  rw [← sub_add d z q] at t1
  have a1 := xc_anti (d.sub q) (d.sub z)
  omega
end
end Go.Proofs.YtpbhpplmokdkhaaDoor.Cn

/- Plain law: across each level, the sides of a simple ring go up and down in turn. -/
set_option linter.unusedVariables false
namespace Go.Proofs.YtpbhpplmokdkhaaDoor.Cn

/-! Sums over a list of places, each with a weight. -/
def wsum (f : Rat → Rat) : List (Rat × Int) → Rat
  | [] => 0
  | a :: l => (a.2 : Rat) * f a.1 + wsum f l
def isum (c : Rat → Bool) : List (Rat × Int) → Int
  | [] => 0
  | a :: l => (if c a.1 then a.2 else 0) + isum c l
theorem wsum_perm {f : Rat → Rat} {l m : List (Rat × Int)} (h : l.Perm m) : wsum f l = wsum f m := by
  induction h with
  | nil => rfl
  | cons a _ ih => simp only [wsum, ih]
  | swap a b l => simp only [wsum]; grind
  | trans _ _ ih1 ih2 => rw [ih1, ih2]
theorem isum_perm {c : Rat → Bool} {l m : List (Rat × Int)} (h : l.Perm m) : isum c l = isum c m := by
  induction h with
  | nil => rfl
  | cons a _ ih => simp only [isum, ih]
  | swap a b l => simp only [isum]; omega
  | trans _ _ ih1 ih2 => rw [ih1, ih2]
theorem isum_all {c : Rat → Bool} : ∀ l : List (Rat × Int), (∀ a ∈ l, c a.1 = true) → isum c l = isum (fun _ => true) l
  | [], _ => rfl
  | a :: l, h => by simp only [isum, h a (by simp), if_true, isum_all l (fun b hb => h b (by simp [hb]))]
/-- The law of the sums, for a list in order: where nowhere more than 0 lies to the right, what grows gives no less than 0. -/
theorem abel_sorted {f : Rat → Rat} : ∀ (l : List (Rat × Int)) (c : Rat), l.Pairwise (fun a b => a.1 ≤ b.1) → (∀ a ∈ l, ∀ b ∈ l, a.1 ≤ b.1 → f a.1 ≤ f b.1) → (∀ a ∈ l, 0 ≤ isum (fun x => decide (a.1 < x)) l) →
    (∀ a ∈ l, c ≤ f a.1) → ((∃ a, l.head? = some a ∧ c = f a.1) ∨ 0 ≤ isum (fun _ => true) l) → 0 ≤ wsum (fun x => f x - c) l
  | [], c, _, _, _, _, _ => by simp only [wsum]; exact Rat.le_refl
  | a :: l, c, hs, hm, hw, hc, h0 => by
    have hal : ∀ b ∈ l, a.1 ≤ b.1 := fun b hb => List.rel_of_pairwise_cons hs hb
    have ih := abel_sorted l (f a.1) (List.Pairwise.of_cons hs) (fun x hx y hy => hm x (by simp [hx]) y (by simp [hy]))
      (fun b hb => by
        have := hw b (by simp [hb])
        have hab := hal b hb
        rw [isum, decide_eq_false (show ¬ b.1 < a.1 by grind)] at this
        simpa using this)
      (fun b hb => hm a (by simp) b (by simp [hb]) (hal b hb))
      (by
        cases l with
        | nil => exact .inr (by simp [isum])
        | cons b t =>
          by_cases e : a.1 = b.1
          · exact .inl ⟨b, rfl, by rw [e]⟩
          · right
            have hlt : ∀ z ∈ b :: t, a.1 < z.1 := by
              intro z hz
              have h1 := hal b (by simp)
              have h2 : b.1 ≤ z.1 := by
                rcases List.mem_cons.1 hz with rfl | hz'
                · exact Rat.le_refl
                · exact List.rel_of_pairwise_cons (List.Pairwise.of_cons hs) hz'
              grind
            have := hw a (by simp)
            rw [isum, decide_eq_false (show ¬ a.1 < a.1 by grind), isum_all (b :: t) (fun z hz => decide_eq_true (hlt z hz))] at this
            simpa using this)
    have split : ∀ m : List (Rat × Int), wsum (fun x => f x - c) m = wsum (fun x => f x - f a.1) m + (f a.1 - c) * ((isum (fun _ => true) m : Int) : Rat) := by
      intro m
      induction m with
      | nil => simp only [wsum, isum]; have : ((0 : Int) : Rat) = 0 := rfl; rw [this]; grind
      | cons b m ih => simp only [wsum, isum, if_true]; rw [ih, Rat.intCast_add]; grind
    have e := split (a :: l)
    have ea : wsum (fun x => f x - f a.1) (a :: l) = wsum (fun x => f x - f a.1) l := by simp only [wsum]; grind
    rw [e, ea]
    have hca := hc a (by simp)
    rcases h0 with ⟨b, hb, hcb⟩ | h0
    · simp only [List.head?_cons, Option.some.injEq] at hb
      subst hb
      rw [hcb]; grind
    · have h1 : (0 : Rat) ≤ ((isum (fun _ => true) (a :: l) : Int) : Rat) := Rat.intCast_nonneg.2 h0
      have := mnn (show 0 ≤ f a.1 - c by grind) h1
      grind
/-- The law of the sums. -/
theorem abel {f : Rat → Rat} (l : List (Rat × Int)) (hm : ∀ a ∈ l, ∀ b ∈ l, a.1 ≤ b.1 → f a.1 ≤ f b.1) (hw : ∀ a ∈ l, 0 ≤ isum (fun x => decide (a.1 < x)) l) (h0 : isum (fun _ => true) l = 0) : 0 ≤ wsum f l := by
  let le : Rat × Int → Rat × Int → Bool := fun a b => decide (a.1 ≤ b.1)
  have hp := List.mergeSort_perm l le
  have hs : (l.mergeSort le).Pairwise (fun a b => a.1 ≤ b.1) := by
    have := List.pairwise_mergeSort (le := le) (fun a b c h1 h2 => by
      have h1 := of_decide_eq_true h1
      have h2 := of_decide_eq_true h2
      exact decide_eq_true (by grind)) (fun a b => by
      by_cases h : a.1 ≤ b.1
      · show (decide (a.1 ≤ b.1) || decide (b.1 ≤ a.1)) = true
        rw [decide_eq_true h]; rfl
      · show (decide (a.1 ≤ b.1) || decide (b.1 ≤ a.1)) = true
        rw [decide_eq_true (show b.1 ≤ a.1 by grind), Bool.or_true]) l
    exact this.imp (fun h => of_decide_eq_true h)
  rw [← wsum_perm hp]
  generalize l.mergeSort le = m at *
  have hm' : ∀ a ∈ m, ∀ b ∈ m, a.1 ≤ b.1 → f a.1 ≤ f b.1 := fun a ha b hb => hm a (hp.mem_iff.1 ha) b (hp.mem_iff.1 hb)
  have hw' : ∀ a ∈ m, 0 ≤ isum (fun x => decide (a.1 < x)) m := fun a ha => by rw [isum_perm hp]; exact hw a (hp.mem_iff.1 ha)
  have h0' : isum (fun _ => true) m = 0 := by rw [isum_perm hp]; exact h0
  have shift : ∀ (c : Rat) (m : List (Rat × Int)), wsum (fun x => f x - c) m = wsum f m - c * ((isum (fun _ => true) m : Int) : Rat) := by
    intro c m
    induction m with
    | nil => simp only [wsum, isum]; have : ((0 : Int) : Rat) = 0 := rfl; rw [this]; grind
    | cons b m ih => simp only [wsum, isum, if_true]; rw [ih, Rat.intCast_add]; grind
  cases m with
  | nil => exact Rat.le_refl
  | cons a t =>
    have := abel_sorted (f := f) (a :: t) (f a.1) hs hm' hw' (fun b hb => by
      rcases List.mem_cons.1 hb with rfl | hb'
      · exact Rat.le_refl
      · exact hm' a (by simp) b hb (List.rel_of_pairwise_cons hs hb')) (.inl ⟨a, rfl, rfl⟩)
    rw [shift, h0'] at this
    have e : ((0 : Int) : Rat) = 0 := rfl
    rw [e] at this
    grind
end Go.Proofs.YtpbhpplmokdkhaaDoor.Cn

/- Plain law: the sums across a level of a simple ring. -/
set_option linter.unusedVariables false
namespace Go.Proofs.YtpbhpplmokdkhaaDoor.Cn

section
variable (v : Nat → V) (y : Rat)
/-- How a side goes through a level, and where. -/
def lev (j : Nat) : Int := if (v j).y < y ∧ y < (v (j + 1)).y then 1 else if (v (j + 1)).y < y ∧ y < (v j).y then -1 else 0
def absc (j : Nat) : Rat := (v j).x + (y - (v j).y) / ((v (j + 1)).y - (v j).y) * ((v (j + 1)).x - (v j).x)
def Off : Prop := ∀ j, (v j).y ≠ y
def cl (s : Int) : Nat → List (Rat × Int)
  | 0 => []
  | m + 1 => if lev v y m = 0 then cl s m else (absc v y m, s * lev v y m) :: cl s m
def rsum (g : Nat → Rat) : Nat → Rat
  | 0 => 0
  | m + 1 => rsum g m + g m
end
section
variable {v : Nat → V} {y : Rat} {n : Nat}
theorem cl_mem {s : Int} {a : Rat × Int} : ∀ {m : Nat}, a ∈ cl v y s m → ∃ j, j < m ∧ lev v y j ≠ 0 ∧ a = (absc v y j, s * lev v y j)
  | 0, h => by cases h
  | m + 1, h => by
    unfold cl at h
    split at h
    · obtain ⟨j, h1, h2⟩ := cl_mem h
      exact ⟨j, by omega, h2⟩
    · next hz =>
      rcases List.mem_cons.1 h with rfl | h
      · exact ⟨m, by omega, hz, rfl⟩
      · obtain ⟨j, h1, h2⟩ := cl_mem h
        exact ⟨j, by omega, h2⟩
theorem cl_isum {s : Int} (c : Rat → Bool) : ∀ m : Nat, isum c (cl v y s m) = s * su (fun j => if c (absc v y j) then lev v y j else 0) 0 m
  | 0 => by simp [cl, isum, su]
  | m + 1 => by
    unfold cl
    rw [su, Nat.zero_add]
    split
    · next hz =>
      rw [cl_isum c m, hz]
      simp
    · rw [isum, cl_isum c m]
      by_cases h : c (absc v y m) = true
      · rw [if_pos h, if_pos h]; grind
      · rw [if_neg h, if_neg h]; grind
theorem cl_wsum {s : Int} (f : Rat → Rat) : ∀ m : Nat, wsum f (cl v y s m) = (s : Rat) * rsum (fun j => (lev v y j : Rat) * f (absc v y j)) m
  | 0 => by simp [cl, wsum, rsum]
  | m + 1 => by
    unfold cl
    rw [rsum]
    split
    · next hz =>
      rw [cl_wsum f m, hz]
      have e : ((0 : Int) : Rat) = 0 := rfl
      rw [e]; grind
    · rw [wsum, cl_wsum f m, Rat.intCast_mul]; grind
/-- What a point on the level sees of a side. -/
theorem cxs_lev (ho : Off v y) (x : Rat) (i : Nat) : cxs v ⟨x, y⟩ i = if x < absc v y i then lev v y i else 0 := by
  have h1 := ho i
  have h2 := ho (i + 1)
  unfold cxs cx
  have ux : ((v i).sub ⟨x, y⟩).y = (v i).y - y := rfl
  have vx : ((v (i + 1)).sub ⟨x, y⟩).y = (v (i + 1)).y - y := rfl
  have key : (v (i + 1)).y - (v i).y ≠ 0 → (absc v y i - x) * ((v (i + 1)).y - (v i).y) = ((v i).sub ⟨x, y⟩).cr ((v (i + 1)).sub ⟨x, y⟩) := by
    intro hne
    have hd := Rat.div_mul_cancel (a := y - (v i).y) hne
    unfold absc V.cr V.sub
    show ((v i).x + (y - (v i).y) / ((v (i + 1)).y - (v i).y) * ((v (i + 1)).x - (v i).x) - x) * ((v (i + 1)).y - (v i).y) = ((v i).x - x) * ((v (i + 1)).y - y) - ((v i).y - y) * ((v (i + 1)).x - x)
    generalize (y - (v i).y) / ((v (i + 1)).y - (v i).y) = r at *
    grind
  by_cases c1 : (v i).y < y
  · by_cases c2 : y < (v (i + 1)).y
    · have hl : lev v y i = 1 := by unfold lev; rw [if_pos ⟨c1, c2⟩]
      rw [hl, xc_up (by rw [ux]; grind) (by rw [vx]; grind), ← key (by grind)]
      by_cases c : x < absc v y i
      · have := mpos (show 0 < absc v y i - x by grind) (show 0 < (v (i + 1)).y - (v i).y by grind)
        rw [if_pos c, if_pos this]
      · have := mnn (show 0 ≤ x - absc v y i by grind) (show 0 ≤ (v (i + 1)).y - (v i).y by grind)
        rw [if_neg c, if_neg (by grind)]
    · have hl : lev v y i = 0 := by unfold lev; rw [if_neg (by grind), if_neg (by grind)]
      rw [hl, xc_low (by rw [ux]; grind) (by rw [vx]; grind)]
      simp
  · by_cases c2 : y < (v (i + 1)).y
    · have hl : lev v y i = 0 := by unfold lev; rw [if_neg (by grind), if_neg (by grind)]
      rw [hl, xc_high (by rw [ux]; grind) (by rw [vx]; grind)]
      simp
    · have hl : lev v y i = -1 := by unfold lev; rw [if_neg (by grind), if_pos ⟨by grind, by grind⟩]
      rw [hl, xc_down (by rw [ux]; grind) (by rw [vx]; grind), ← key (by grind)]
      by_cases c : x < absc v y i
      · have := mpos (show 0 < absc v y i - x by grind) (show 0 < (v i).y - (v (i + 1)).y by grind)
        rw [if_pos c, if_pos (by grind)]
      · have := mnn (show 0 ≤ x - absc v y i by grind) (show 0 ≤ (v i).y - (v (i + 1)).y by grind)
        rw [if_neg c, if_neg (by grind)]
theorem su_rot {g : Nat → Int} (hg : ∀ j, g (j + n) = g j) : ∀ k, su g k n = su g 0 n
  | 0 => rfl
  | k + 1 => by
    have h := su_head g k n
    have h2 : su g k (n + 1) = su g k n + g (k + n) := rfl
    rw [hg k] at h2
    have := su_rot hg k
    omega
/-- What a place within a side, on the level, sees of all sides. -/
theorem see_lev (h : RingV v n) (ho : Off v y) {j : Nat} (hj : lev v y j ≠ 0) : su (fun i => if absc v y j < absc v y i then lev v y i else 0) 0 n = lam v n 0 - hh (ed v j) := by
  have n3 := h.three
  have hyy : (v j).y < y ∧ y < (v (j + 1)).y ∨ (v (j + 1)).y < y ∧ y < (v j).y := by
    unfold lev at hj
    split at hj
    · next h => exact .inl h
    · split at hj
      · next h => exact .inr h
      · exact absurd rfl hj
  have hne : (v (j + 1)).y - (v j).y ≠ 0 := by grind
  obtain ⟨r, hr⟩ : ∃ r, r = (y - (v j).y) / ((v (j + 1)).y - (v j).y) := ⟨_, rfl⟩
  have hr1 : r * ((v (j + 1)).y - (v j).y) = y - (v j).y := by rw [hr]; exact Rat.div_mul_cancel hne
  have hr0 : 0 < r := by
    by_cases c : 0 < r
    · exact c
    · rcases hyy with q | q
      · have := mnn (show 0 ≤ -r by grind) (show 0 ≤ (v (j + 1)).y - (v j).y by grind); grind
      · have := mnn (show 0 ≤ -r by grind) (show 0 ≤ (v j).y - (v (j + 1)).y by grind); grind
  have hr2 : r < 1 := by
    by_cases c : r < 1
    · exact c
    · rcases hyy with q | q
      · have := mnn (show 0 ≤ r - 1 by grind) (show 0 ≤ (v (j + 1)).y - (v j).y by grind); grind
      · have := mnn (show 0 ≤ r - 1 by grind) (show 0 ≤ (v j).y - (v (j + 1)).y by grind); grind
  have hp : pt v j r = ⟨absc v y j, y⟩ := by
    unfold pt absc
    rw [← hr]
    congr 1
    grind
  have hs := see_pt h j hr0 hr2
  rw [hp] at hs
  have hcong : ∀ k m, su (fun i => if absc v y j < absc v y i then lev v y i else 0) k m = su (cxs v ⟨absc v y j, y⟩) k m := fun k m => su_congr m (fun i _ => (cxs_lev ho _ _).symm)
  have hper : ∀ i, (fun i => if absc v y j < absc v y i then lev v y i else 0) (i + n) = (fun i => if absc v y j < absc v y i then lev v y i else 0) i := by
    intro i
    have e1 := h.per i
    have e2 := h.per (i + 1)
    rw [show i + 1 + n = i + n + 1 by omega] at e2
    show (if absc v y j < absc v y (i + n) then lev v y (i + n) else 0) = _
    unfold absc lev
    rw [e1, e2]
  rw [← su_rot hper j, show n = n - 1 + 1 by omega, su_head, show n - 1 + 1 = n by omega, hcong, hs]
  have hz : ¬ absc v y j < absc v y j := by grind
  show (if absc v y j < absc v y j then lev v y j else 0) + _ = _
  rw [if_neg hz]
  omega
theorem lev_diff (ho : Off v y) (m : Nat) : lev v y m = (if y < (v (m + 1)).y then 1 else 0) - (if y < (v m).y then 1 else 0) := by
  have h1 := ho m
  have h2 := ho (m + 1)
  by_cases c1 : (v m).y < y <;> by_cases c2 : y < (v (m + 1)).y
  · have hl : lev v y m = 1 := by unfold lev; rw [if_pos ⟨c1, c2⟩]
    rw [hl, if_pos c2, if_neg (by grind)]; rfl
  · have hl : lev v y m = 0 := by unfold lev; rw [if_neg (by grind), if_neg (by grind)]
    rw [hl, if_neg c2, if_neg (by grind)]; rfl
  · have hl : lev v y m = 0 := by unfold lev; rw [if_neg (by grind), if_neg (by grind)]
    rw [hl, if_pos c2, if_pos (by grind)]; rfl
  · have hl : lev v y m = -1 := by unfold lev; rw [if_neg (by grind), if_pos ⟨by grind, by grind⟩]
    rw [hl, if_neg c2, if_pos (by grind)]; rfl
theorem su_lev (h : RingV v n) (ho : Off v y) : su (fun j => lev v y j) 0 n = 0 := by
  have tele : ∀ m, su (fun j => lev v y j) 0 m = (if y < (v m).y then 1 else 0) - (if y < (v 0).y then 1 else 0) := by
    intro m
    induction m with
    | zero => simp [su]
    | succ m ih =>
      rw [su, ih, Nat.zero_add, lev_diff ho]
      omega
  have e := h.per 0
  rw [Nat.zero_add] at e
  rw [tele n, e]; omega
/-- Which way round the ring goes. -/
def way (v : Nat → V) (n : Nat) : Int := if lam v n 0 = 1 then 1 else -1
/-- The law of a level: what grows to the right gives no less than 0. -/
theorem level (h : RingV v n) (ho : Off v y) {f : Rat → Rat} (hf : ∀ i j, i < n → j < n → lev v y i ≠ 0 → lev v y j ≠ 0 → absc v y i ≤ absc v y j → f (absc v y i) ≤ f (absc v y j)) :
    0 ≤ (way v n : Rat) * rsum (fun j => (lev v y j : Rat) * f (absc v y j)) n := by
  rw [← cl_wsum]
  refine abel _ (fun a ha b hb hab => ?_) (fun a ha => ?_) ?_
  · obtain ⟨i, hi, h1, rfl⟩ := cl_mem ha
    obtain ⟨j, hj, h2, rfl⟩ := cl_mem hb
    exact hf i j hi hj h1 h2 hab
  · obtain ⟨j, hj, h1, rfl⟩ := cl_mem ha
    rw [cl_isum]
    have e := see_lev h ho h1
    simp only [decide_eq_true_eq]
    rw [e]
    have hh01 : hh (ed v j) = 0 ∨ hh (ed v j) = 1 := by unfold hh; split; exact .inr rfl; split; exact .inr rfl; exact .inl rfl
    unfold way
    rcases lam_01 h with e1 | e1 <;> rw [e1] <;> rcases hh01 with e2 | e2 <;> rw [e2] <;> decide
  · rw [cl_isum]
    have := su_lev h ho
    simp only [if_true]
    rw [this]; omega
end
end Go.Proofs.YtpbhpplmokdkhaaDoor.Cn

/- Plain law: sums over the levels of a simple ring of whole coordinates; its middle lies within its bounds. -/
set_option linter.unusedVariables false
namespace Go.Proofs.YtpbhpplmokdkhaaDoor.Cn

theorem rsum_congr {g g' : Nat → Rat} : ∀ m, (∀ j, j < m → g j = g' j) → rsum g m = rsum g' m
  | 0, _ => rfl
  | m + 1, h => by rw [rsum, rsum, rsum_congr m (fun j hj => h j (by omega)), h m (by omega)]
theorem rsum_add (g g' : Nat → Rat) : ∀ m, rsum (fun j => g j + g' j) m = rsum g m + rsum g' m
  | 0 => by simp only [rsum]; grind
  | m + 1 => by rw [rsum, rsum, rsum, rsum_add g g' m]; grind
theorem rsum_mul (c : Rat) (g : Nat → Rat) : ∀ m, rsum (fun j => c * g j) m = c * rsum g m
  | 0 => by simp only [rsum]; grind
  | m + 1 => by rw [rsum, rsum, rsum_mul c g m]; grind
theorem rsum_nonneg {g : Nat → Rat} : ∀ m, (∀ j, j < m → 0 ≤ g j) → 0 ≤ rsum g m
  | 0, _ => Rat.le_refl
  | m + 1, h => by rw [rsum]; have := rsum_nonneg m (fun j hj => h j (by omega)); have := h m (by omega); grind
theorem rsum_swap (g : Nat → Nat → Rat) (n : Nat) : ∀ m, rsum (fun i => rsum (fun j => g i j) n) m = rsum (fun j => rsum (fun i => g i j) m) n
  | 0 => by
    simp only [rsum]
    have : ∀ n, rsum (fun _ => (0 : Rat)) n = 0 := by
      intro n
      induction n with
      | zero => rfl
      | succ n ih => rw [rsum, ih]; grind
    rw [this]
  | m + 1 => by
    rw [rsum, rsum_swap g n m, ← rsum_add]
    rfl
/-! The sum along one side. -/
def lvI (a b k : Int) : Int := if a ≤ k ∧ k + 1 ≤ b then 1 else if b ≤ k ∧ k + 1 ≤ a then -1 else 0
theorem lvI_neg (a b k : Int) : lvI b a k = - lvI a b k := by
  unfold lvI
  by_cases h : a ≤ k ∧ k + 1 ≤ b
  · rw [if_pos h, if_neg (by omega), if_pos h]
  · by_cases h' : b ≤ k ∧ k + 1 ≤ a
    · rw [if_pos h', if_neg h, if_pos h']; rfl
    · rw [if_neg h', if_neg h, if_neg h, if_neg h']; rfl
def clI (a b k : Int) : Int := if k ≤ a then a else if b ≤ k then b else k
theorem edge_up (P : Int → Rat) {a b : Int} (hab : a ≤ b) (ha : -1000 ≤ a) : ∀ m : Nat, rsum (fun i => (lvI a b ((i : Int) - 1000) : Rat) * (P ((i : Int) - 1000 + 1) - P ((i : Int) - 1000))) m = P (clI a b ((m : Int) - 1000)) - P a
  | 0 => by
    have e : clI a b (((0 : Nat) : Int) - 1000) = a := by unfold clI; rw [if_pos (by omega)]
    rw [e]; simp only [rsum]; grind
  | m + 1 => by
    rw [rsum, edge_up P hab ha m]
    have ek : (((m + 1 : Nat) : Int) - 1000) = (m : Int) - 1000 + 1 := by omega
    rw [ek]
    obtain ⟨k, hk⟩ : ∃ k, k = (m : Int) - 1000 := ⟨_, rfl⟩
    rw [← hk]
    have e1 : ((1 : Int) : Rat) = 1 := rfl
    have e0 : ((0 : Int) : Rat) = 0 := rfl
    by_cases h : a ≤ k ∧ k + 1 ≤ b
    · have hl : lvI a b k = 1 := by unfold lvI; rw [if_pos h]
      rw [hl, e1]
      unfold clI
      by_cases h1 : k ≤ a
      · obtain rfl : k = a := by omega
        rw [if_pos h1, if_neg (by omega)]
        by_cases h2 : b ≤ k + 1
        · rw [if_pos h2, show b = k + 1 by omega]; grind
        · rw [if_neg h2]; grind
      · rw [if_neg h1, if_neg (by omega), if_neg (by omega)]
        by_cases h2 : b ≤ k + 1
        · rw [if_pos h2, show b = k + 1 by omega]; grind
        · rw [if_neg h2]; grind
    · have hl : lvI a b k = 0 := by unfold lvI; rw [if_neg h, if_neg (by omega)]
      rw [hl, e0]
      unfold clI
      by_cases h1 : k ≤ a
      · rw [if_pos h1]
        by_cases h2 : k + 1 ≤ a
        · rw [if_pos h2]; grind
        · rw [if_neg h2, if_pos (by omega), show b = a by omega]; grind
      · rw [if_neg h1, if_pos (show b ≤ k by omega), if_neg (show ¬ k + 1 ≤ a by omega), if_pos (show b ≤ k + 1 by omega)]; grind
theorem edge_sum (P : Int → Rat) {a b : Int} (ha : -1000 ≤ a ∧ a ≤ 1000) (hb : -1000 ≤ b ∧ b ≤ 1000) : rsum (fun i => (lvI a b ((i : Int) - 1000) : Rat) * (P ((i : Int) - 1000 + 1) - P ((i : Int) - 1000))) 2000 = P b - P a := by
  have fin : ∀ a b : Int, a ≤ b → b ≤ 1000 → clI a b (((2000 : Nat) : Int) - 1000) = b := by
    intro a b h1 h2
    unfold clI
    by_cases h : ((2000 : Nat) : Int) - 1000 ≤ a
    · rw [if_pos h]; omega
    · rw [if_neg h, if_pos (by omega)]
  by_cases h : a ≤ b
  · rw [edge_up P h ha.1 2000, fin a b h hb.2]
  · have h' : b ≤ a := by omega
    have e := edge_up P h' hb.1 2000
    rw [fin b a h' ha.2] at e
    have : rsum (fun i => (lvI a b ((i : Int) - 1000) : Rat) * (P ((i : Int) - 1000 + 1) - P ((i : Int) - 1000))) 2000 = rsum (fun i => -1 * ((lvI b a ((i : Int) - 1000) : Rat) * (P ((i : Int) - 1000 + 1) - P ((i : Int) - 1000)))) 2000 := by
      refine rsum_congr _ (fun j _ => ?_)
      rw [lvI_neg a b, Rat.intCast_neg]; grind
    rw [this, rsum_mul, e]; grind
/-! Whole coordinates. -/
structure Whole (v : Nat → V) (X Y : Nat → Int) : Prop where
  is : ∀ j, v j = ⟨(X j : Rat), (Y j : Rat)⟩
  bx : ∀ j, -1000 ≤ X j ∧ X j ≤ 1000
  by' : ∀ j, -1000 ≤ Y j ∧ Y j ≤ 1000
theorem cast_le {a b : Int} : (a : Rat) ≤ (b : Rat) ↔ a ≤ b := Rat.intCast_le_intCast
theorem gap_lt {a k : Int} {t : Rat} (h0 : 0 < t) (h1 : t < 1) : ((a : Rat) < (k : Rat) + t ↔ a ≤ k) ∧ ((k : Rat) + t < (a : Rat) ↔ k + 1 ≤ a) ∧ (a : Rat) ≠ (k : Rat) + t := by
  have e1 : ((k + 1 : Int) : Rat) = (k : Rat) + 1 := by rw [Rat.intCast_add]; rfl
  by_cases c : a ≤ k
  · have := cast_le.2 c
    refine ⟨⟨fun _ => c, fun _ => by grind⟩, ⟨fun h => by grind, fun h => by omega⟩, by grind⟩
  · have c' : k + 1 ≤ a := by omega
    have := cast_le.2 c'
    rw [e1] at this
    refine ⟨⟨fun h => by grind, fun h => absurd h c⟩, ⟨fun _ => c', fun _ => by grind⟩, by grind⟩
section
variable {v : Nat → V} {X Y : Nat → Int} {n : Nat}
theorem off_gap (hw : Whole v X Y) {k : Int} {t : Rat} (h0 : 0 < t) (h1 : t < 1) : Off v ((k : Rat) + t) := fun j => by rw [hw.is j]; exact (gap_lt h0 h1).2.2
theorem lev_gap (hw : Whole v X Y) {k : Int} {t : Rat} (h0 : 0 < t) (h1 : t < 1) (j : Nat) : lev v ((k : Rat) + t) j = lvI (Y j) (Y (j + 1)) k := by
  have a := gap_lt (a := Y j) (k := k) h0 h1
  have b := gap_lt (a := Y (j + 1)) (k := k) h0 h1
  unfold lev lvI
  rw [hw.is j, hw.is (j + 1)]
  simp only [a.1, a.2.1, b.1, b.2.1]
/-- What is summed across a level. -/
def ff (c0 c1 c2 y x : Rat) : Rat := (c0 + c1 * y) * x + c2 * (x * x)
/-- The sum along a side. -/
def ee (c0 c1 c2 : Rat) (X Y : Nat → Int) (j : Nat) : Rat :=
  ((Y (j + 1) : Rat) - Y j) * (c0 * (((X j : Rat) + X (j + 1)) / 2) + c1 * ((2 * X j * Y j + X j * Y (j + 1) + X (j + 1) * Y j + 2 * X (j + 1) * Y (j + 1)) / 6) + c2 * (((X j : Rat) * X j + X j * X (j + 1) + X (j + 1) * X (j + 1)) / 3))
def gg (c0 c1 c2 : Rat) (v : Nat → V) (k : Int) (j : Nat) : Rat :=
  3 / 8 * ((lev v ((k : Rat) + 1 / 6) j : Rat) * ff c0 c1 c2 ((k : Rat) + 1 / 6) (absc v ((k : Rat) + 1 / 6) j)) + 1 / 4 * ((lev v ((k : Rat) + 1 / 2) j : Rat) * ff c0 c1 c2 ((k : Rat) + 1 / 2) (absc v ((k : Rat) + 1 / 2) j)) +
    3 / 8 * ((lev v ((k : Rat) + 5 / 6) j : Rat) * ff c0 c1 c2 ((k : Rat) + 5 / 6) (absc v ((k : Rat) + 5 / 6) j))
theorem side_sum (hw : Whole v X Y) (c0 c1 c2 : Rat) (j : Nat) : rsum (fun i => gg c0 c1 c2 v ((i : Int) - 1000) j) 2000 = ee c0 c1 c2 X Y j := by
  by_cases hy : Y j = Y (j + 1)
  · have z : ∀ i : Nat, i < 2000 → gg c0 c1 c2 v ((i : Int) - 1000) j = 0 * (fun _ : Nat => (0 : Rat)) i := by
      intro i _
      have e : lvI (Y j) (Y (j + 1)) ((i : Int) - 1000) = 0 := by unfold lvI; rw [if_neg (by omega), if_neg (by omega)]
      unfold gg
      rw [lev_gap hw (by grind) (by grind), lev_gap hw (by grind) (by grind), lev_gap hw (by grind) (by grind), e]
      have e0 : ((0 : Int) : Rat) = 0 := rfl
      rw [e0]; grind
    rw [rsum_congr 2000 z, rsum_mul]
    unfold ee
    rw [hy]; grind
  · have hD : ((Y (j + 1) : Rat) - (Y j : Rat)) ≠ 0 := by
      intro h
      have : (Y (j + 1) : Rat) = (Y j : Rat) := by grind
      exact hy (Rat.intCast_inj.1 this).symm
    obtain ⟨m, hm⟩ : ∃ m, m = ((X (j + 1) : Rat) - X j) / ((Y (j + 1) : Rat) - Y j) := ⟨_, rfl⟩
    have hmD : m * ((Y (j + 1) : Rat) - Y j) = (X (j + 1) : Rat) - X j := by rw [hm]; exact Rat.div_mul_cancel hD
    obtain ⟨A, hA⟩ : ∃ A, A = (X j : Rat) - m * Y j := ⟨_, rfl⟩
    have hab : ∀ y, absc v y j = A + m * y := by
      intro y
      unfold absc
      rw [hw.is j, hw.is (j + 1)]
      show (X j : Rat) + (y - Y j) / ((Y (j + 1) : Rat) - Y j) * ((X (j + 1) : Rat) - X j) = A + m * y
      have hd := Rat.div_mul_cancel (a := y - (Y j : Rat)) hD
      rw [← hmD, hA]
      generalize (y - (Y j : Rat)) / ((Y (j + 1) : Rat) - Y j) = r at *
      grind
    obtain ⟨al, hal⟩ : ∃ z, z = c0 * A + c2 * (A * A) := ⟨_, rfl⟩
    obtain ⟨be, hbe⟩ : ∃ z, z = c0 * m + c1 * A + 2 * c2 * A * m := ⟨_, rfl⟩
    obtain ⟨ga, hga⟩ : ∃ z, z = c1 * m + c2 * (m * m) := ⟨_, rfl⟩
    have hff : ∀ y, ff c0 c1 c2 y (absc v y j) = al + be * y + ga * (y * y) := by
      intro y
      unfold ff
      rw [hab, hal, hbe, hga]; grind
    obtain ⟨P, hP⟩ : ∃ P : Int → Rat, P = fun (k : Int) => al * (k : Rat) + be * ((k : Rat) * (k : Rat) / 2) + ga * ((k : Rat) * (k : Rat) * (k : Rat) / 3) := ⟨_, rfl⟩
    have hg : ∀ i : Nat, i < 2000 → gg c0 c1 c2 v ((i : Int) - 1000) j = (lvI (Y j) (Y (j + 1)) ((i : Int) - 1000) : Rat) * (P ((i : Int) - 1000 + 1) - P ((i : Int) - 1000)) := by
      intro i _
      unfold gg
      rw [lev_gap hw (by grind) (by grind), lev_gap hw (by grind) (by grind), lev_gap hw (by grind) (by grind), hff, hff, hff, hP]
      generalize (i : Int) - 1000 = k
      have e1 : ((k + 1 : Int) : Rat) = (k : Rat) + 1 := by rw [Rat.intCast_add]; rfl
      simp only [e1]
      generalize (lvI (Y j) (Y (j + 1)) k : Rat) = l
      generalize (k : Rat) = k
      grind
    rw [rsum_congr 2000 hg, edge_sum P (hw.by' j) (hw.by' (j + 1)), hP]
    have hx1 : (X j : Rat) = A + m * Y j := by rw [hA]; grind
    have hx2 : (X (j + 1) : Rat) = A + m * Y (j + 1) := by grind
    unfold ee
    simp only []
    rw [hx1, hx2, hal, hbe, hga]
    clear hmD hm hA hab hff hP hg hD hy
    generalize (Y j : Rat) = p
    generalize (Y (j + 1) : Rat) = q
    grind
/-- Between the ends. -/
theorem absc_bd (hw : Whole v X Y) {y : Rat} {j : Nat} (hl : lev v y j ≠ 0) : -1000 ≤ absc v y j ∧ absc v y j ≤ 1000 := by
  have hyy : (v j).y < y ∧ y < (v (j + 1)).y ∨ (v (j + 1)).y < y ∧ y < (v j).y := by
    unfold lev at hl
    split at hl
    · next h => exact .inl h
    · split at hl
      · next h => exact .inr h
      · exact absurd rfl hl
  have hne : (v (j + 1)).y - (v j).y ≠ 0 := by grind
  have hr1 := Rat.div_mul_cancel (a := y - (v j).y) hne
  have bx1 : -1000 ≤ (v j).x ∧ (v j).x ≤ 1000 := by rw [hw.is j]; exact ⟨cast_le.2 (hw.bx j).1, cast_le.2 (hw.bx j).2⟩
  have bx2 : -1000 ≤ (v (j + 1)).x ∧ (v (j + 1)).x ≤ 1000 := by rw [hw.is (j + 1)]; exact ⟨cast_le.2 (hw.bx (j + 1)).1, cast_le.2 (hw.bx (j + 1)).2⟩
  unfold absc
  generalize (y - (v j).y) / ((v (j + 1)).y - (v j).y) = r at *
  have hr0 : 0 ≤ r ∧ r ≤ 1 := by
    constructor
    · by_cases c : 0 ≤ r
      · exact c
      · rcases hyy with q | q
        · have := mpos (show 0 < -r by grind) (show 0 < (v (j + 1)).y - (v j).y by grind); grind
        · have := mpos (show 0 < -r by grind) (show 0 < (v j).y - (v (j + 1)).y by grind); grind
    · by_cases c : r ≤ 1
      · exact c
      · rcases hyy with q | q
        · have := mpos (show 0 < r - 1 by grind) (show 0 < (v (j + 1)).y - (v j).y by grind); grind
        · have := mpos (show 0 < r - 1 by grind) (show 0 < (v j).y - (v (j + 1)).y by grind); grind
  have m1 := mnn hr0.1 (show 0 ≤ 1000 - (v (j + 1)).x by grind)
  have m2 := mnn hr0.1 (show 0 ≤ (v (j + 1)).x + 1000 by grind)
  have m3 := mnn (show 0 ≤ 1 - r by grind) (show 0 ≤ 1000 - (v j).x by grind)
  have m4 := mnn (show 0 ≤ 1 - r by grind) (show 0 ≤ (v j).x + 1000 by grind)
  constructor <;> grind
theorem level_ff (h : RingV v n) (hw : Whole v X Y) {c0 c1 c2 : Rat} (hc : ∀ y s : Rat, -1000 ≤ y → y ≤ 1000 → -2000 ≤ s → s ≤ 2000 → 0 ≤ c0 + c1 * y + c2 * s) {k : Int} (hk : -1000 ≤ k ∧ k < 1000) {t : Rat} (h0 : 0 < t) (h1 : t < 1) :
    0 ≤ (way v n : Rat) * rsum (fun j => (lev v ((k : Rat) + t) j : Rat) * ff c0 c1 c2 ((k : Rat) + t) (absc v ((k : Rat) + t) j)) n := by
  refine level h (off_gap hw h0 h1) (f := ff c0 c1 c2 ((k : Rat) + t)) (fun i j _ _ li lj hle => ?_)
  have bi := absc_bd hw li
  have bj := absc_bd hw lj
  have k1 : (((-1000 : Int)) : Rat) ≤ (k : Rat) := cast_le.2 hk.1
  have k2 : ((k + 1 : Int) : Rat) ≤ ((1000 : Int) : Rat) := cast_le.2 (by omega)
  have k3 : (((-1000 : Int)) : Rat) = -1000 := rfl
  have k4 : ((1000 : Int) : Rat) = 1000 := rfl
  rw [k3] at k1
  rw [k4] at k2
  have e1 : ((k + 1 : Int) : Rat) = (k : Rat) + 1 := by rw [Rat.intCast_add]; rfl
  rw [e1] at k2
  generalize absc v ((k : Rat) + t) i = a at *
  generalize absc v ((k : Rat) + t) j = b at *
  have c := hc ((k : Rat) + t) (a + b) (by grind) (by grind) (by grind) (by grind)
  have := mnn (show 0 ≤ b - a by grind) c
  unfold ff
  grind
/-- The law of the sums along the sides. -/
theorem total (h : RingV v n) (hw : Whole v X Y) {c0 c1 c2 : Rat} (hc : ∀ y s : Rat, -1000 ≤ y → y ≤ 1000 → -2000 ≤ s → s ≤ 2000 → 0 ≤ c0 + c1 * y + c2 * s) : 0 ≤ (way v n : Rat) * rsum (ee c0 c1 c2 X Y) n := by
  have e : rsum (ee c0 c1 c2 X Y) n = rsum (fun i => rsum (fun j => gg c0 c1 c2 v ((i : Int) - 1000) j) n) 2000 := by
    rw [rsum_swap]
    exact rsum_congr n (fun j _ => (side_sum hw c0 c1 c2 j).symm)
  rw [e, ← rsum_mul]
  refine rsum_nonneg _ (fun i hi => ?_)
  have hk : -1000 ≤ (i : Int) - 1000 ∧ (i : Int) - 1000 < 1000 := by omega
  have l1 := level_ff h hw hc hk (t := 1 / 6) (by grind) (by grind)
  have l2 := level_ff h hw hc hk (t := 1 / 2) (by grind) (by grind)
  have l3 := level_ff h hw hc hk (t := 5 / 6) (by grind) (by grind)
  unfold gg
  rw [rsum_add, rsum_add, rsum_mul, rsum_mul, rsum_mul]
  grind
end
end Go.Proofs.YtpbhpplmokdkhaaDoor.Cn

/- Plain law: a ring that spec.IsSimple takes is simple; its middle lies within its bounds. -/
set_option linter.unusedVariables false
namespace Go.Proofs.YtpbhpplmokdkhaaDoor.Cn
open Fl

/-- A whole point. -/
def vi (x y : Int) : V := ⟨(x : Rat), (y : Rat)⟩
def OnR (p a b : V) : Prop := (b.sub a).cr (p.sub a) = 0 ∧ ((a.x ≤ p.x ∧ p.x ≤ b.x) ∨ (b.x ≤ p.x ∧ p.x ≤ a.x)) ∧ ((a.y ≤ p.y ∧ p.y ≤ b.y) ∨ (b.y ≤ p.y ∧ p.y ≤ a.y))
theorem cr_cast (ax ay bx by' px py : Int) : ((vi bx by').sub (vi ax ay)).cr ((vi px py).sub (vi ax ay)) = ((crI ax ay bx by' px py : Int) : Rat) := by
  unfold V.cr V.sub vi crI
  simp only [Rat.intCast_sub, Rat.intCast_mul]
theorem onR_on {ax ay bx by' px py : Int} (h : OnR (vi px py) (vi ax ay) (vi bx by')) : Ry.On px py ax ay bx by' := by
  rw [on_cr]
  obtain ⟨h1, h2, h3⟩ := h
  rw [cr_cast] at h1
  refine ⟨Rat.intCast_inj.1 h1, ?_, ?_⟩
  · rcases h2 with ⟨a, b⟩ | ⟨a, b⟩
    · exact .inl ⟨cast_le.1 a, cast_le.1 b⟩
    · exact .inr ⟨cast_le.1 a, cast_le.1 b⟩
  · rcases h3 with ⟨a, b⟩ | ⟨a, b⟩
    · exact .inl ⟨cast_le.1 a, cast_le.1 b⟩
    · exact .inr ⟨cast_le.1 a, cast_le.1 b⟩
theorem mid_of {a b r : Rat} (h : Sh r) : (a ≤ a + r * (b - a) ∧ a + r * (b - a) ≤ b) ∨ (b ≤ a + r * (b - a) ∧ a + r * (b - a) ≤ a) := by
  by_cases c : a ≤ b
  · have m1 := mnn h.1 (show 0 ≤ b - a by grind)
    have m2 := mnn (show 0 ≤ 1 - r by have := h.2; grind) (show 0 ≤ b - a by grind)
    exact .inl ⟨by grind, by grind⟩
  · have m1 := mnn h.1 (show 0 ≤ a - b by grind)
    have m2 := mnn (show 0 ≤ 1 - r by have := h.2; grind) (show 0 ≤ a - b by grind)
    exact .inr ⟨by grind, by grind⟩
/-- A point at a share of a segment is on it. -/
theorem on_share {p a b : V} {r : Rat} (h : Sh r) (hx : p.x = a.x + r * (b.x - a.x)) (hy : p.y = a.y + r * (b.y - a.y)) : OnR p a b := by
  refine ⟨?_, ?_, ?_⟩
  · show (b.x - a.x) * (p.y - a.y) - (b.y - a.y) * (p.x - a.x) = 0
    rw [hx, hy]; grind
  · rw [hx]; exact mid_of h
  · rw [hy]; exact mid_of h
/-- No end of one is on the other, and they do not cross. -/
def Clear (a b p q : V) : Prop := ¬ OnR p a b ∧ ¬ OnR q a b ∧ ¬ OnR a p q ∧ ¬ OnR b p q ∧
  ¬ (((b.sub a).cr (p.sub a)) * ((b.sub a).cr (q.sub a)) < 0 ∧ ((q.sub p).cr (a.sub p)) * ((q.sub p).cr (b.sub p)) < 0)
theorem along {a b p : V} (hne : a.x ≠ b.x ∨ a.y ≠ b.y) (h : (b.sub a).cr (p.sub a) = 0) : ∃ r, p.x = a.x + r * (b.x - a.x) ∧ p.y = a.y + r * (b.y - a.y) := by
  have h' : (b.x - a.x) * (p.y - a.y) - (b.y - a.y) * (p.x - a.x) = 0 := h
  rcases hne with hx | hy
  · have hd : b.x - a.x ≠ 0 := by grind
    obtain ⟨r, hr⟩ : ∃ r, r = (p.x - a.x) / (b.x - a.x) := ⟨_, rfl⟩
    have hr1 : r * (b.x - a.x) = p.x - a.x := by rw [hr]; exact Rat.div_mul_cancel hd
    refine ⟨r, by grind, ?_⟩
    have : (b.x - a.x) * (p.y - a.y - r * (b.y - a.y)) = 0 := by grind
    rcases Rat.mul_eq_zero.1 this with h1 | h1
    · exact absurd h1 hd
    · grind
  · have hd : b.y - a.y ≠ 0 := by grind
    obtain ⟨r, hr⟩ : ∃ r, r = (p.y - a.y) / (b.y - a.y) := ⟨_, rfl⟩
    have hr1 : r * (b.y - a.y) = p.y - a.y := by rw [hr]; exact Rat.div_mul_cancel hd
    refine ⟨r, ?_, by grind⟩
    have : (b.y - a.y) * (p.x - a.x - r * (b.x - a.x)) = 0 := by grind
    rcases Rat.mul_eq_zero.1 this with h1 | h1
    · exact absurd h1 hd
    · grind
theorem apart_of {a b p q : V} (h : Clear a b p q) : Apart a b p q := by
  intro s t hs ht hh
  obtain ⟨n1, n2, n3, n4, n5⟩ := h
  have g1 : a.x + s * (b.x - a.x) - (p.x + t * (q.x - p.x)) = 0 := hh.1
  have g2 : a.y + s * (b.y - a.y) - (p.y + t * (q.y - p.y)) = 0 := hh.2
  obtain ⟨D, hD⟩ : ∃ D, D = (b.x - a.x) * (q.y - p.y) - (b.y - a.y) * (q.x - p.x) := ⟨_, rfl⟩
  have e1 : (b.sub a).cr (p.sub a) = -(t * D) := by
    show (b.x - a.x) * (p.y - a.y) - (b.y - a.y) * (p.x - a.x) = _
    have u1 : p.x - a.x = s * (b.x - a.x) - t * (q.x - p.x) := by grind
    have u2 : p.y - a.y = s * (b.y - a.y) - t * (q.y - p.y) := by grind
    rw [u1, u2, hD]; grind
  have e2 : (b.sub a).cr (q.sub a) = (1 - t) * D := by
    show (b.x - a.x) * (q.y - a.y) - (b.y - a.y) * (q.x - a.x) = _
    have u1 : q.x - a.x = s * (b.x - a.x) + (1 - t) * (q.x - p.x) := by grind
    have u2 : q.y - a.y = s * (b.y - a.y) + (1 - t) * (q.y - p.y) := by grind
    rw [u1, u2, hD]; grind
  have e3 : (q.sub p).cr (a.sub p) = s * D := by
    show (q.x - p.x) * (a.y - p.y) - (q.y - p.y) * (a.x - p.x) = _
    have u1 : a.x - p.x = t * (q.x - p.x) - s * (b.x - a.x) := by grind
    have u2 : a.y - p.y = t * (q.y - p.y) - s * (b.y - a.y) := by grind
    rw [u1, u2, hD]; grind
  have e4 : (q.sub p).cr (b.sub p) = -((1 - s) * D) := by
    show (q.x - p.x) * (b.y - p.y) - (q.y - p.y) * (b.x - p.x) = _
    have u1 : b.x - p.x = t * (q.x - p.x) + (1 - s) * (b.x - a.x) := by grind
    have u2 : b.y - p.y = t * (q.y - p.y) + (1 - s) * (b.y - a.y) := by grind
    rw [u1, u2, hD]; grind
  by_cases t0 : t = 0
  · subst t0; exact n1 (on_share hs (by grind) (by grind))
  by_cases t1 : t = 1
  · subst t1; exact n2 (on_share hs (by grind) (by grind))
  by_cases s0 : s = 0
  · subst s0; exact n3 (on_share ht (by grind) (by grind))
  by_cases s1 : s = 1
  · subst s1; exact n4 (on_share ht (by grind) (by grind))
  have hs' : 0 < s ∧ s < 1 := by have := hs.1; have := hs.2; constructor <;> grind
  have ht' : 0 < t ∧ t < 1 := by have := ht.1; have := ht.2; constructor <;> grind
  by_cases hz : D = 0
  · by_cases hab : a.x ≠ b.x ∨ a.y ≠ b.y
    · obtain ⟨σ, p1, p2⟩ := along hab (by rw [e1, hz]; grind)
      obtain ⟨τ, q1, q2⟩ := along hab (by rw [e2, hz]; grind)
      have hst : s = σ + t * (τ - σ) := by
        rw [p1, q1] at g1
        rw [p2, q2] at g2
        rcases hab with hx | hy
        · have : (b.x - a.x) * (s - (σ + t * (τ - σ))) = 0 := by grind
          rcases Rat.mul_eq_zero.1 this with h1 | h1
          · exfalso; grind
          · grind
        · have : (b.y - a.y) * (s - (σ + t * (τ - σ))) = 0 := by grind
          rcases Rat.mul_eq_zero.1 this with h1 | h1
          · exfalso; grind
          · grind
      by_cases c1 : Sh σ
      · exact n1 (on_share c1 p1 p2)
      by_cases c2 : Sh τ
      · exact n2 (on_share c2 q1 q2)
      -- the ends of p q lie on both sides of a b
      have hcase : (σ < 0 ∧ 1 < τ) ∨ (1 < σ ∧ τ < 0) := by
        unfold Sh at c1 c2
        by_cases x1 : σ < 0
        · by_cases x2 : τ < 0
          · exfalso
            have := mpos ht'.1 (show 0 < -τ by grind)
            have := mpos (show 0 < 1 - t by grind) (show 0 < -σ by grind)
            grind
          · exact .inl ⟨x1, by grind⟩
        · by_cases x2 : τ < 0
          · exact .inr ⟨by grind, x2⟩
          · exfalso
            have := mpos ht'.1 (show 0 < τ - 1 by grind)
            have := mpos (show 0 < 1 - t by grind) (show 0 < σ - 1 by grind)
            grind
      have hd : τ - σ ≠ 0 := by grind
      obtain ⟨r, hr⟩ : ∃ r, r = (-σ) / (τ - σ) := ⟨_, rfl⟩
      have hr1 : r * (τ - σ) = -σ := by rw [hr]; exact Rat.div_mul_cancel hd
      have hrs : Sh r := by
        unfold Sh
        rcases hcase with ⟨x1, x2⟩ | ⟨x1, x2⟩
        · constructor
          · by_cases c : 0 ≤ r
            · exact c
            · have := mpos (show 0 < -r by grind) (show 0 < τ - σ by grind); grind
          · by_cases c : r ≤ 1
            · exact c
            · have := mpos (show 0 < r - 1 by grind) (show 0 < τ - σ by grind); grind
        · constructor
          · by_cases c : 0 ≤ r
            · exact c
            · have := mpos (show 0 < -r by grind) (show 0 < σ - τ by grind); grind
          · by_cases c : r ≤ 1
            · exact c
            · have := mpos (show 0 < r - 1 by grind) (show 0 < σ - τ by grind); grind
      refine n3 (on_share hrs ?_ ?_)
      · rw [p1, q1]; grind
      · rw [p2, q2]; grind
    · have hx : a.x = b.x := by grind
      have hy : a.y = b.y := by grind
      refine n3 (on_share ht ?_ ?_)
      · rw [hx] at g1 ⊢; grind
      · rw [hy] at g2 ⊢; grind
  · refine n5 ⟨?_, ?_⟩
    · rw [e1, e2]
      have := mpos (mpos ht'.1 (show 0 < 1 - t by grind)) (sq_pos hz)
      grind
    · rw [e3, e4]
      have := mpos (mpos hs'.1 (show 0 < 1 - s by grind)) (sq_pos hz)
      grind
theorem apart_comm {a b p q : V} (h : Apart a b p q) : Apart p q a b := by
  intro s t hs ht hh
  refine h t s ht hs ?_
  obtain ⟨g1, g2⟩ := hh
  unfold fw at *
  simp only at *
  constructor <;> grind
/-- Sides that follow each other do not lead back. -/
theorem fwd_of {a b d : V} (h1 : a.x ≠ b.x ∨ a.y ≠ b.y) (h2 : b.x ≠ d.x ∨ b.y ≠ d.y) (n1 : ¬ OnR d a b) (n2 : ¬ OnR a b d) : Fwd (b.sub a) (d.sub b) := by
  refine ⟨?_, ?_, fun hc => ?_⟩
  · show b.x - a.x ≠ 0 ∨ b.y - a.y ≠ 0
    rcases h1 with h | h
    · exact .inl (by grind)
    · exact .inr (by grind)
  · show d.x - b.x ≠ 0 ∨ d.y - b.y ≠ 0
    rcases h2 with h | h
    · exact .inl (by grind)
    · exact .inr (by grind)
  · have hc' : (b.x - a.x) * (d.y - b.y) - (b.y - a.y) * (d.x - b.x) = 0 := hc
    obtain ⟨r, r1, r2⟩ := along (p := d) h1 (by show (b.x - a.x) * (d.y - a.y) - (b.y - a.y) * (d.x - a.x) = 0; grind)
    show 0 < (b.x - a.x) * (d.x - b.x) + (b.y - a.y) * (d.y - b.y)
    have hN : 0 < (b.x - a.x) * (b.x - a.x) + (b.y - a.y) * (b.y - a.y) := by
      rcases h1 with h | h
      · have := sq_pos (show b.x - a.x ≠ 0 by grind); have := sq_nn (b.y - a.y); grind
      · have := sq_pos (show b.y - a.y ≠ 0 by grind); have := sq_nn (b.x - a.x); grind
    have e : (b.x - a.x) * (d.x - b.x) + (b.y - a.y) * (d.y - b.y) = (r - 1) * ((b.x - a.x) * (b.x - a.x) + (b.y - a.y) * (b.y - a.y)) := by rw [r1, r2]; grind
    rw [e]
    by_cases c : 1 < r
    · exact mpos (by grind) hN
    · exfalso
      by_cases c0 : 0 ≤ r
      · exact n1 (on_share ⟨c0, by grind⟩ r1 r2)
      · -- d is behind a
        have hd : 1 - r ≠ 0 := by grind
        obtain ⟨z, hz⟩ : ∃ z, z = 1 / (1 - r) := ⟨_, rfl⟩
        have hz1 : z * (1 - r) = 1 := by rw [hz]; exact Rat.div_mul_cancel hd
        have hzs : Sh z := by
          unfold Sh
          constructor
          · by_cases c : 0 ≤ z
            · exact c
            · have := mpos (show 0 < -z by grind) (show 0 < 1 - r by grind); grind
          · by_cases c : z ≤ 1
            · exact c
            · have := mpos (show 0 < z - 1 by grind) (show 0 < 1 - r by grind); grind
        refine n2 (on_share hzs ?_ ?_)
        · rw [r1]; grind
        · rw [r2]; grind
end Go.Proofs.YtpbhpplmokdkhaaDoor.Cn

/- Plain law: the middle of a simple ring of whole coordinates lies within its bounds, told by its sums. -/
set_option linter.unusedVariables false
namespace Go.Proofs.YtpbhpplmokdkhaaDoor.Cn
open Fl

/-- What spec.meet answers. -/
def Meet (ax ay bx by' cx cy dx dy : Int) : Prop := Ry.On cx cy ax ay bx by' ∨ Ry.On dx dy ax ay bx by' ∨ Ry.On ax ay cx cy dx dy ∨ Ry.On bx by' cx cy dx dy ∨
  (sgn (crI ax ay bx by' cx cy) * sgn (crI ax ay bx by' dx dy) < 0 ∧ sgn (crI cx cy dx dy ax ay) * sgn (crI cx cy dx dy bx by') < 0)
theorem sgn_mul {a b : Int} (h : a * b < 0) : sgn a * sgn b < 0 := by
  unfold sgn
  by_cases a1 : 0 < a
  · by_cases b1 : 0 < b
    · have := Int.mul_pos a1 b1; omega
    · by_cases b2 : b < 0
      · rw [if_pos a1, if_neg b1, if_pos b2]; decide
      · have e : b = 0 := by omega
        rw [e, Int.mul_zero] at h; omega
  · by_cases a2 : a < 0
    · by_cases b1 : 0 < b
      · rw [if_neg a1, if_pos a2, if_pos b1]; decide
      · by_cases b2 : b < 0
        · have := Int.mul_pos_of_neg_of_neg a2 b2; omega
        · have e : b = 0 := by omega
          rw [e, Int.mul_zero] at h; omega
    · have e : a = 0 := by omega
      rw [e, Int.zero_mul] at h; omega
theorem clear_of {ax ay bx by' cx cy dx dy : Int} (h : ¬ Meet ax ay bx by' cx cy dx dy) : Clear (vi ax ay) (vi bx by') (vi cx cy) (vi dx dy) := by
  refine ⟨fun o => h (.inl (onR_on o)), fun o => h (.inr (.inl (onR_on o))), fun o => h (.inr (.inr (.inl (onR_on o)))), fun o => h (.inr (.inr (.inr (.inl (onR_on o))))), fun o => h (.inr (.inr (.inr (.inr ⟨sgn_mul ?_, sgn_mul ?_⟩))))⟩
  · have := o.1
    rw [cr_cast, cr_cast, ← Rat.intCast_mul] at this
    exact Rat.intCast_lt_intCast.1 this
  · have := o.2
    rw [cr_cast, cr_cast, ← Rat.intCast_mul] at this
    exact Rat.intCast_lt_intCast.1 this
/-- What spec.IsSimple asks of the sides of a ring. -/
structure SimpleI (X Y : Nat → Int) (n : Nat) : Prop where
  ne : ∀ i, i < n → X i ≠ X (i + 1) ∨ Y i ≠ Y (i + 1)
  adj : ∀ i, i + 1 < n → ¬ Ry.On (X (i + 2)) (Y (i + 2)) (X i) (Y i) (X (i + 1)) (Y (i + 1)) ∧ ¬ Ry.On (X i) (Y i) (X (i + 1)) (Y (i + 1)) (X (i + 2)) (Y (i + 2))
  last : ¬ Ry.On (X (n - 1)) (Y (n - 1)) (X 0) (Y 0) (X 1) (Y 1) ∧ ¬ Ry.On (X 1) (Y 1) (X (n - 1)) (Y (n - 1)) (X n) (Y n)
  far : ∀ i k, i + 2 ≤ k → k < n → ¬ (i = 0 ∧ k + 1 = n) → ¬ Meet (X i) (Y i) (X (i + 1)) (Y (i + 1)) (X k) (Y k) (X (k + 1)) (Y (k + 1))
section
variable {X Y : Nat → Int} {n : Nat}
def cyc (X Y : Nat → Int) (n j : Nat) : V := vi (X (j % n)) (Y (j % n))
theorem cyc_succ (n1 : 1 ≤ n) (hc : X n = X 0 ∧ Y n = Y 0) (j : Nat) : cyc X Y n (j + 1) = vi (X (j % n + 1)) (Y (j % n + 1)) ∧ ((j % n + 1 < n ∧ (j + 1) % n = j % n + 1) ∨ (j % n + 1 = n ∧ (j + 1) % n = 0)) := by
  have hl := Nat.mod_lt j (show 0 < n by omega)
  have e : (j + 1) % n = (j % n + 1) % n := by rw [Nat.mod_add_mod]
  unfold cyc
  rw [e]
  by_cases c : j % n + 1 < n
  · rw [Nat.mod_eq_of_lt c]
    exact ⟨rfl, .inl ⟨c, rfl⟩⟩
  · have c' : j % n + 1 = n := by omega
    rw [c', Nat.mod_self, hc.1, hc.2]
    exact ⟨rfl, .inr ⟨rfl, rfl⟩⟩
theorem vi_ne {a b c d : Int} (h : a ≠ c ∨ b ≠ d) : (vi a b).x ≠ (vi c d).x ∨ (vi a b).y ≠ (vi c d).y := by
  rcases h with h | h
  · exact .inl (fun e => h (Rat.intCast_inj.1 e))
  · exact .inr (fun e => h (Rat.intCast_inj.1 e))
theorem ring_of (h : SimpleI X Y n) (n3 : 3 ≤ n) (hc : X n = X 0 ∧ Y n = Y 0) : RingV (cyc X Y n) n := by
  refine ⟨n3, fun i => ?_, fun i => ?_, fun i j h1 h2 => ?_⟩
  · unfold cyc; rw [Nat.add_mod_right]
  · unfold ed
    have hl := Nat.mod_lt i (show 0 < n by omega)
    obtain ⟨e1, f1⟩ := cyc_succ (by omega) hc i
    obtain ⟨e2, _⟩ := cyc_succ (by omega) hc (i + 1)
    have e0 : cyc X Y n i = vi (X (i % n)) (Y (i % n)) := rfl
    rw [e1, e2, e0]
    rcases f1 with ⟨f, g⟩ | ⟨f, g⟩
    · rw [g]
      have ha := h.adj (i % n) f
      exact fwd_of (vi_ne (h.ne _ hl)) (vi_ne (h.ne _ f)) (fun o => ha.1 (onR_on o)) (fun o => ha.2 (onR_on o))
    · rw [g]
      have hi : i % n = n - 1 := by omega
      have ha := h.last
      have hn0 := h.ne 0 (by omega)
      have hn1 := h.ne (n - 1) (by omega)
      rw [show n - 1 + 1 = n by omega] at hn1
      rw [f, hi]
      have en : vi (X n) (Y n) = vi (X 0) (Y 0) := by rw [hc.1, hc.2]
      refine fwd_of (vi_ne hn1) (by rw [en]; exact vi_ne hn0) (fun o => ha.2 (onR_on o)) (fun o => ha.1 (onR_on (by rw [en] at o; exact o)))
  · have hl := Nat.mod_lt i (show 0 < n by omega)
    obtain ⟨e1, _⟩ := cyc_succ (by omega) hc i
    obtain ⟨e2, _⟩ := cyc_succ (by omega) hc j
    have a0 : cyc X Y n i = vi (X (i % n)) (Y (i % n)) := rfl
    have b0 : cyc X Y n j = vi (X (j % n)) (Y (j % n)) := rfl
    rw [e1, e2, a0, b0]
    obtain ⟨d, rfl⟩ : ∃ d, j = i + d := ⟨j - i, by omega⟩
    have em : (i + d) % n = (i % n + d) % n := by rw [Nat.mod_add_mod]
    by_cases c : i % n + d < n
    · have eq : (i + d) % n = i % n + d := by rw [em, Nat.mod_eq_of_lt c]
      rw [eq]
      exact apart_comm (apart_of (clear_of (h.far (i % n) (i % n + d) (by omega) c (by omega))))
    · have eq : (i + d) % n = i % n + d - n := by rw [em, Nat.mod_eq_sub_mod (by omega), Nat.mod_eq_of_lt (by omega)]
      rw [eq]
      exact apart_of (clear_of (h.far (i % n + d - n) (i % n) (by omega) hl (by omega)))
/-- The sums of spec.Middle. -/
def MX (X Y : Nat → Int) : Nat → Int
  | 0 => 0
  | m + 1 => MX X Y m + (X m + X (m + 1)) * (X m * Y (m + 1) - X (m + 1) * Y m)
def MY (X Y : Nat → Int) : Nat → Int
  | 0 => 0
  | m + 1 => MY X Y m + (Y m + Y (m + 1)) * (X m * Y (m + 1) - X (m + 1) * Y m)
def qq (c0 c1 c2 : Rat) (x y : Rat) : Rat := c0 / 2 * (x * y) + c1 / 3 * (x * y * y) + c2 / 3 * (x * x * y)
theorem ee_sum (c0 c1 c2 : Rat) (n1 : 1 ≤ n) (hc : X n = X 0 ∧ Y n = Y 0) : ∀ m, m ≤ n → rsum (ee c0 c1 c2 (fun j => X (j % n)) (fun j => Y (j % n))) m =
    c0 / 2 * (Rg.SH X Y m : Rat) + c2 / 3 * (MX X Y m : Rat) + c1 / 6 * (MY X Y m : Rat) + qq c0 c1 c2 (X m) (Y m) - qq c0 c1 c2 (X 0) (Y 0)
  | 0, _ => by
    have e0 : ((0 : Int) : Rat) = 0 := rfl
    simp only [rsum, Rg.SH, MX, MY, e0]
    grind
  | m + 1, hm => by
    rw [rsum, ee_sum c0 c1 c2 n1 hc m (by omega), Rg.SH_succ]
    have em : m % n = m := Nat.mod_eq_of_lt (by omega)
    have ex : X ((m + 1) % n) = X (m + 1) ∧ Y ((m + 1) % n) = Y (m + 1) := by
      by_cases c : m + 1 < n
      · rw [Nat.mod_eq_of_lt c]; exact ⟨rfl, rfl⟩
      · have : m + 1 = n := by omega
        rw [this, Nat.mod_self, hc.1, hc.2]; exact ⟨rfl, rfl⟩
    unfold ee
    simp only []
    rw [em, ex.1, ex.2]
    simp only [MX, MY, Rat.intCast_add, Rat.intCast_sub, Rat.intCast_mul]
    unfold qq
    generalize (X m : Rat) = a
    generalize (Y m : Rat) = b
    generalize (X (m + 1) : Rat) = c
    generalize (Y (m + 1) : Rat) = d
    grind
theorem way_pm (v : Nat → V) (n : Nat) : way v n = 1 ∨ way v n = -1 := by unfold way; split; exact .inl rfl; exact .inr rfl
/-- The middle lies within the bounds. -/
theorem middle_bd (h : SimpleI X Y n) (n3 : 3 ≤ n) (hc : X n = X 0 ∧ Y n = Y 0) (hb : ∀ i, i < n → Small (X i) ∧ Small (Y i)) :
    (MX X Y n).natAbs ≤ 3000 * (Rg.SH X Y n).natAbs ∧ (MY X Y n).natAbs ≤ 3000 * (Rg.SH X Y n).natAbs := by
  have hr := ring_of h n3 hc
  have hw : Whole (cyc X Y n) (fun j => X (j % n)) (fun j => Y (j % n)) := by
    refine ⟨fun j => rfl, fun j => ?_, fun j => ?_⟩
    · exact (hb _ (Nat.mod_lt j (by omega))).1
    · exact (hb _ (Nat.mod_lt j (by omega))).2
  have t1 := total hr hw (c0 := 2000) (c1 := 0) (c2 := 1) (fun y s _ _ _ _ => by grind)
  have t2 := total hr hw (c0 := 2000) (c1 := 0) (c2 := -1) (fun y s _ _ _ _ => by grind)
  have t3 := total hr hw (c0 := 2000) (c1 := 2) (c2 := 0) (fun y s _ _ _ _ => by grind)
  have t4 := total hr hw (c0 := 2000) (c1 := -2) (c2 := 0) (fun y s _ _ _ _ => by grind)
  rw [ee_sum _ _ _ (by omega) hc n (Nat.le_refl _), hc.1, hc.2] at t1 t2 t3 t4
  obtain ⟨d, hd⟩ : ∃ d, d = Rg.SH X Y n := ⟨_, rfl⟩
  obtain ⟨p, hp⟩ : ∃ d, d = MX X Y n := ⟨_, rfl⟩
  obtain ⟨q, hq⟩ : ∃ d, d = MY X Y n := ⟨_, rfl⟩
  rw [← hd, ← hp] at t1 t2 t3 t4
  rw [← hq] at t1 t2 t3 t4
  rw [← hd, ← hp, ← hq]
  have toI : ∀ z : Int, (0 : Rat) ≤ (z : Rat) → 0 ≤ z := fun z hz => Rat.intCast_nonneg.1 hz
  have e3000 : ((3000 : Int) : Rat) = 3000 := rfl
  have wp := way_pm (cyc X Y n) n
  generalize way (cyc X Y n) n = s at *
  generalize (X 0 : Rat) = x0 at *
  generalize (Y 0 : Rat) = y0 at *
  clear hd hp hq h hb hr hw hc
  rcases wp with rfl | rfl
  · have e1 : ((1 : Int) : Rat) = 1 := rfl
    rw [e1] at t1 t2 t3 t4
    have u1 := toI (3000 * d + p) (by rw [Rat.intCast_add, Rat.intCast_mul, e3000]; grind)
    have u2 := toI (3000 * d - p) (by rw [Rat.intCast_sub, Rat.intCast_mul, e3000]; grind)
    have u3 := toI (3000 * d + q) (by rw [Rat.intCast_add, Rat.intCast_mul, e3000]; grind)
    have u4 := toI (3000 * d - q) (by rw [Rat.intCast_sub, Rat.intCast_mul, e3000]; grind)
    omega
  · have e1 : ((-1 : Int) : Rat) = -1 := rfl
    rw [e1] at t1 t2 t3 t4
    have u1 := toI (-(3000 * d + p)) (by rw [Rat.intCast_neg, Rat.intCast_add, Rat.intCast_mul, e3000]; grind)
    have u2 := toI (-(3000 * d - p)) (by rw [Rat.intCast_neg, Rat.intCast_sub, Rat.intCast_mul, e3000]; grind)
    have u3 := toI (-(3000 * d + q)) (by rw [Rat.intCast_neg, Rat.intCast_add, Rat.intCast_mul, e3000]; grind)
    have u4 := toI (-(3000 * d - q)) (by rw [Rat.intCast_neg, Rat.intCast_sub, Rat.intCast_mul, e3000]; grind)
    omega
end
end Go.Proofs.YtpbhpplmokdkhaaDoor.Cn
