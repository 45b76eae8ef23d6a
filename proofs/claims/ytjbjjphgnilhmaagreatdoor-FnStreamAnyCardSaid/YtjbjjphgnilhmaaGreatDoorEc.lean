/- Plain law: what spec.Parse reads, as functions on lists of bytes; where it is fine a stream reads the same shape, and where it is wrong a stream fails. -/
import Derived.Test.YtjbjjphgnilhmaaGreatDoorBo
set_option linter.unusedVariables false
namespace Go.Proofs.YtjbjjphgnilhmaaGreatDoor
open By

/-! ### What spec.Parse reads -/

inductive Res (α : Type) where
  | fine (a : α) (r : Bs)
  | wrong
  | unsaid
def Res.told {α : Type} : Res α → Int
  | .fine _ _ => 0
  | .wrong => 1
  | .unsaid => 2
def Sh.kind : Sh → Nat | .mk k _ _ => k
def Sh.lists : Sh → List (List Pt) | .mk _ l _ => l
def Sh.parts : Sh → List Sh | .mk _ _ p => p
/-- An order of bytes and a kind. -/
def pHead (only : Nat) (l : Bs) : Res (Bool × Nat) :=
  match order l with
  | none => .wrong
  | some (le, r) => match rU32 le r with
    | none => .wrong
    | some (t, r) => if t &&& 536870912 = 0 then (if 15 < t then .unsaid else if t < 1 ∨ 7 < t ∨ (only ≠ 0 ∧ t ≠ only) then .wrong else .fine (le, t) r) else .unsaid
/-- The kind that the parts of a shape have, 0 for any. -/
def onlyOf (k : Nat) : Nat := if k = 4 then 1 else if k = 5 then 2 else if k = 6 then 3 else 0
/-- A part that has been read goes into the shape. -/
def Sh.take (s p : Sh) : Sh :=
  if s.kind = 4 then .mk s.kind [s.lists.headD [] ++ [(p.lists.headD []).headD (0, 0)]] s.parts
  else if s.kind = 5 then .mk s.kind (s.lists ++ [p.lists.headD []]) s.parts
  else .mk s.kind s.lists (s.parts ++ [p])
/-- A part of a shape, where sub reads a shape of a kind one level below. -/
def pPart (sub : Nat → Bs → Res Sh) (le : Bool) (s : Sh) (l : Bs) : Res Sh :=
  if s.kind = 3 then match rLine le l with
    | none => .wrong
    | some (ls, r) => .fine (.mk s.kind (s.lists ++ [ls]) s.parts) r
  else match sub (onlyOf s.kind) l with
    | .fine p r => .fine (s.take p) r
    | .wrong => .wrong
    | .unsaid => .unsaid
def pLoop (part : Sh → Bs → Res Sh) : Nat → Sh → Bs → Res Sh
  | 0, s, l => .fine s l
  | n + 1, s, l => match part s l with
    | .fine s r => pLoop part n s r
    | .wrong => .wrong
    | .unsaid => .unsaid
def pBody (sub : Nat → Bs → Res Sh) (k : Nat) (le : Bool) (l : Bs) : Res Sh :=
  if k = 1 then match rPoint le l with
    | none => .wrong
    | some (p, r) => .fine (.mk 1 [[p]] []) r
  else match rU32 le l with
    | none => .wrong
    | some (n, r) => if k = 2 then (match times (rPoint le) n r with
        | none => .wrong
        | some (ls, r) => .fine (.mk 2 [ls] []) r)
      else pLoop (pPart sub le) n (.mk k (if k = 4 then [[]] else []) []) r
def pShape : Nat → Nat → Bs → Res Sh
  | 0, _, _ => .unsaid
  | d + 1, only, l => match pHead only l with
    | .fine (le, k) r => pBody (pShape d) k le r
    | .wrong => .wrong
    | .unsaid => .unsaid

/-! ### It is what a stream reads -/

theorem pHead_fine {only : Nat} {l r : Bs} {le : Bool} {k : Nat} (h : pHead only l = .fine (le, k) r) : rHead l = some (le, k, r) ∧ 1 ≤ k ∧ k ≤ 7 ∧ (only ≠ 0 → k = only) := by
  unfold pHead at h
  unfold rHead
  split at h
  · cases h
  · split at h
    · cases h
    · split at h
      · split at h
        · cases h
        · split at h
          · cases h
          · rename_i h0 h1 h2
            cases h
            refine ⟨?_, by omega, by omega, by omega⟩
            simp_all
      · cases h
theorem pHead_wrong {only : Nat} {l : Bs} (h : pHead only l = .wrong) : rHead l = none ∨ ∃ le k r, rHead l = some (le, k, r) ∧ (k < 1 ∨ 7 < k ∨ (only ≠ 0 ∧ k ≠ only)) := by
  unfold pHead at h
  unfold rHead
  split at h
  · left; simp_all
  · split at h
    · left; simp_all
    · split at h
      · split at h
        · cases h
        · split at h
          · rename_i _ le r ho _ t r2 ht h0 h1 h2
            right
            exact ⟨le, t, r2, by simp_all, h2⟩
          · cases h
      · cases h
/-- The reader of a shape of a kind. -/
def rOnly (f : Nat) (only : Nat) (l : Bs) : Option (G × Bs) :=
  if only = 1 then By.as .pt (under 1 rPoint l)
  else if only = 2 then By.as .ln (under 2 rLine l)
  else if only = 3 then By.as .pg (under 3 rPoly l)
  else rG f l
/-- What is told is so. -/
def Agrees (x : Res Sh) (o : Option (G × Bs)) : Prop := match x with
  | .fine s r => ∃ g, s = shG g ∧ o = some (g, r)
  | .wrong => o = none
  | .unsaid => True
/-- A loop against a row: the shape's things are what was there, and behind them those that are read. -/
theorem pLoop_times {α : Type} {part : Sh → Bs → Res Sh} {rd : Bs → Option (α × Bs)} {mk : List α → Sh}
    (h : ∀ xs l, match part (mk xs) l with
      | .fine s r => ∃ a, s = mk (xs ++ [a]) ∧ rd l = some (a, r)
      | .wrong => rd l = none
      | .unsaid => True) :
    ∀ (n : Nat) (xs : List α) (l : Bs), match pLoop part n (mk xs) l with
      | .fine s r => ∃ bs, s = mk (xs ++ bs) ∧ times rd n l = some (bs, r)
      | .wrong => times rd n l = none
      | .unsaid => True
  | 0, xs, l => ⟨[], by simp, rfl⟩
  | n + 1, xs, l => by
    have h1 := h xs l
    simp only [pLoop, times]
    cases e : part (mk xs) l with
    | wrong => rw [e] at h1; simp only at h1; rw [h1]
    | unsaid => trivial
    | fine s r =>
      rw [e] at h1
      obtain ⟨a, rfl, h2⟩ := h1
      have h3 := pLoop_times h n (xs ++ [a]) r
      rw [h2]
      simp only
      cases e2 : pLoop part n (mk (xs ++ [a])) r with
      | wrong => rw [e2] at h3; simp only at h3; rw [h3]
      | unsaid => trivial
      | fine s2 r2 =>
        rw [e2] at h3
        obtain ⟨bs, rfl, h4⟩ := h3
        rw [h4]
        exact ⟨a :: bs, by simp, rfl⟩
theorem under_of {α : Type} {t : Nat} {rd : Bool → Bs → Option (α × Bs)} {l r : Bs} {le : Bool} {k : Nat} (h : rHead l = some (le, k, r)) : under t rd l = if k = t then rd le r else none := by
  simp only [under, h]
theorem agrees_as {α : Type} {c : α → G} {o : Option (α × Bs)} {x : Res Sh} (h : match x with
      | .fine s r => ∃ a, s = shG (c a) ∧ o = some (a, r)
      | .wrong => o = none
      | .unsaid => True) : Agrees x (By.as c o) := by
  cases x with
  | fine s r => obtain ⟨a, h1, h2⟩ := h; exact ⟨c a, h1, by rw [h2]; rfl⟩
  | wrong => simp only at h; show By.as c o = none; rw [h]; rfl
  | unsaid => trivial
/-- What a loop over parts makes of one sub reader. -/
theorem body_row {α : Type} {sub : Nat → Bs → Res Sh} {le : Bool} {rd : Bs → Option (α × Bs)} {mk : List α → Sh} {c : List α → G} {k : Nat} {l : Bs} (hk1 : k ≠ 1) (hk2 : k ≠ 2) (hmk : mk [] = .mk k (if k = 4 then [[]] else []) [])
    (hc : ∀ xs, mk xs = shG (c xs))
    (h : ∀ xs l, match pPart sub le (mk xs) l with
      | .fine s r => ∃ a, s = mk (xs ++ [a]) ∧ rd l = some (a, r)
      | .wrong => rd l = none
      | .unsaid => True) : Agrees (pBody sub k le l) (By.as c (row le rd l)) := by
  simp only [pBody, if_neg hk1, if_neg hk2, row]
  cases e : rU32 le l with
  | none => exact rfl
  | some x =>
    obtain ⟨n, r⟩ := x
    have := pLoop_times h n [] r
    rw [hmk] at this
    simp only
    refine agrees_as ?_
    cases e2 : pLoop (pPart sub le) n (.mk k (if k = 4 then [[]] else []) []) r with
    | wrong => rw [e2] at this; exact this
    | unsaid => trivial
    | fine s r2 =>
      rw [e2] at this
      obtain ⟨bs, rfl, h2⟩ := this
      exact ⟨bs, by rw [List.nil_append]; exact hc bs, h2⟩
theorem rOnly_fine {f only : Nat} {l r : Bs} {g : G} (h1 : only = 1) (h : rOnly f only l = some (g, r)) : ∃ p, g = .pt p ∧ under 1 rPoint l = some (p, r) := by
  subst h1
  simp only [rOnly, if_true, By.as] at h
  cases e : under 1 rPoint l with
  | none => rw [e] at h; cases h
  | some x => rw [e] at h; cases h; exact ⟨x.1, rfl, rfl⟩
theorem rOnly_fine2 {f only : Nat} {l r : Bs} {g : G} (h1 : only = 2) (h : rOnly f only l = some (g, r)) : ∃ p, g = .ln p ∧ under 2 rLine l = some (p, r) := by
  subst h1
  simp only [rOnly, By.as] at h
  cases e : under 2 rLine l with
  | none => rw [e] at h; cases h
  | some x => rw [e] at h; cases h; exact ⟨x.1, rfl, rfl⟩
theorem rOnly_fine3 {f only : Nat} {l r : Bs} {g : G} (h1 : only = 3) (h : rOnly f only l = some (g, r)) : ∃ p, g = .pg p ∧ under 3 rPoly l = some (p, r) := by
  subst h1
  simp only [rOnly, By.as] at h
  cases e : under 3 rPoly l with
  | none => rw [e] at h; cases h
  | some x => rw [e] at h; cases h; exact ⟨x.1, rfl, rfl⟩
theorem as_none {α : Type} {c : α → G} {o : Option (α × Bs)} (h : By.as c o = none) : o = none := by
  cases o with
  | none => rfl
  | some x => cases h
/-- A body of a kind. -/
theorem pBody_agrees {sub : Nat → Bs → Res Sh} {f : Nat} (hs : ∀ only l, only ≤ 3 → Agrees (sub only l) (rOnly f only l)) (k : Nat) (h1 : 1 ≤ k) (h7 : k ≤ 7) (le : Bool) (l : Bs) :
    Agrees (pBody sub k le l) (if k = 1 then By.as .pt (rPoint le l)
      else if k = 4 then By.as .mp (row le (under 1 rPoint) l)
      else if k = 2 then By.as .ln (rLine le l)
      else if k = 5 then By.as .ml (row le (under 2 rLine) l)
      else if k = 3 then By.as .pg (rPoly le l)
      else if k = 6 then By.as .mg (row le (under 3 rPoly) l)
      else if k = 7 then By.as .co (row le (rG f) l)
      else none) := by
  rcases (by omega : k = 1 ∨ k = 2 ∨ k = 3 ∨ k = 4 ∨ k = 5 ∨ k = 6 ∨ k = 7) with rfl | rfl | rfl | rfl | rfl | rfl | rfl
  · simp only [if_true, pBody]
    refine agrees_as ?_
    cases rPoint le l with
    | none => rfl
    | some x => exact ⟨x.1, rfl, rfl⟩
  · simp only [pBody]
    refine agrees_as ?_
    simp only [rLine, row]
    cases rU32 le l with
    | none => rfl
    | some x =>
      obtain ⟨n, r⟩ := x
      simp only [if_true]
      show match (match times (rPoint le) n r with | none => Res.wrong | some (ls, r) => Res.fine (Sh.mk 2 [ls] []) r) with
        | .fine s r_1 => ∃ a, s = shG (.ln a) ∧ times (rPoint le) n r = some (a, r_1)
        | .wrong => times (rPoint le) n r = none
        | .unsaid => True
      cases times (rPoint le) n r with
      | none => rfl
      | some y => exact ⟨y.1, rfl, rfl⟩
  · refine body_row (mk := fun xs => Sh.mk 3 xs []) (by omega) (by omega) rfl (fun xs => by rw [shG]) fun xs l => ?_
    simp only [pPart, Sh.kind, Sh.lists, Sh.parts, if_true]
    cases rLine le l with
    | none => rfl
    | some x => exact ⟨x.1, rfl, rfl⟩
  · refine body_row (mk := fun xs => Sh.mk 4 [xs] []) (by omega) (by omega) rfl (fun xs => by rw [shG]) fun xs l => ?_
    have := hs 1 l (by omega)
    simp only [pPart, Sh.kind, onlyOf]
    show match (match sub 1 l with | .fine p r => Res.fine (Sh.take (Sh.mk 4 [xs] []) p) r | .wrong => .wrong | .unsaid => .unsaid) with
      | .fine s r => ∃ a, s = Sh.mk 4 [xs ++ [a]] [] ∧ under 1 rPoint l = some (a, r) | .wrong => under 1 rPoint l = none | .unsaid => True
    cases e : sub 1 l with
    | wrong => rw [e] at this; exact as_none this
    | unsaid => trivial
    | fine p r =>
      rw [e] at this
      obtain ⟨g, rfl, hg⟩ := this
      obtain ⟨q, rfl, hq⟩ := rOnly_fine rfl hg
      exact ⟨q, rfl, hq⟩
  · refine body_row (mk := fun xs => Sh.mk 5 xs []) (by omega) (by omega) rfl (fun xs => by rw [shG]) fun xs l => ?_
    have := hs 2 l (by omega)
    simp only [pPart, Sh.kind, onlyOf]
    show match (match sub 2 l with | .fine p r => Res.fine (Sh.take (Sh.mk 5 xs []) p) r | .wrong => .wrong | .unsaid => .unsaid) with
      | .fine s r => ∃ a, s = Sh.mk 5 (xs ++ [a]) [] ∧ under 2 rLine l = some (a, r) | .wrong => under 2 rLine l = none | .unsaid => True
    cases e : sub 2 l with
    | wrong => rw [e] at this; exact as_none this
    | unsaid => trivial
    | fine p r =>
      rw [e] at this
      obtain ⟨g, rfl, hg⟩ := this
      obtain ⟨q, rfl, hq⟩ := rOnly_fine2 rfl hg
      exact ⟨q, rfl, hq⟩
  · refine body_row (mk := fun xs => Sh.mk 6 [] (xs.map fun rs => Sh.mk 3 rs [])) (by omega) (by omega) rfl (fun xs => by rw [shG]) fun xs l => ?_
    have := hs 3 l (by omega)
    simp only [pPart, Sh.kind, onlyOf]
    show match (match sub 3 l with | .fine p r => Res.fine (Sh.take (Sh.mk 6 [] (xs.map fun rs => Sh.mk 3 rs [])) p) r | .wrong => .wrong | .unsaid => .unsaid) with
      | .fine s r => ∃ a, s = Sh.mk 6 [] ((xs ++ [a]).map fun rs => Sh.mk 3 rs []) ∧ under 3 rPoly l = some (a, r) | .wrong => under 3 rPoly l = none | .unsaid => True
    cases e : sub 3 l with
    | wrong => rw [e] at this; exact as_none this
    | unsaid => trivial
    | fine p r =>
      rw [e] at this
      obtain ⟨g, rfl, hg⟩ := this
      obtain ⟨q, rfl, hq⟩ := rOnly_fine3 rfl hg
      exact ⟨q, by rw [List.map_append]; rfl, hq⟩
  · refine body_row (mk := fun xs => Sh.mk 7 [] (shGs xs)) (by omega) (by omega) rfl (fun xs => by rw [shG]) fun xs l => ?_
    have := hs 0 l (by omega)
    simp only [pPart, Sh.kind, onlyOf]
    show match (match sub 0 l with | .fine p r => Res.fine (Sh.take (Sh.mk 7 [] (shGs xs)) p) r | .wrong => .wrong | .unsaid => .unsaid) with
      | .fine s r => ∃ a, s = Sh.mk 7 [] (shGs (xs ++ [a])) ∧ rG f l = some (a, r) | .wrong => rG f l = none | .unsaid => True
    cases e : sub 0 l with
    | wrong => rw [e] at this; exact this
    | unsaid => trivial
    | fine p r =>
      rw [e] at this
      obtain ⟨g, rfl, hg⟩ := this
      refine ⟨g, ?_, hg⟩
      rw [shGs_map, shGs_map, List.map_append]; rfl
/-- WHAT spec.Parse READS IS WHAT A STREAM READS. -/
theorem pShape_agrees : ∀ (d f only : Nat) (l : Bs), only ≤ 3 → d ≤ f → Agrees (pShape d only l) (rOnly f only l)
  | 0, f, only, l, _, _ => trivial
  | d + 1, 0, only, l, _, hf => absurd hf (by omega)
  | d + 1, f + 1, only, l, ho, hf => by
    simp only [pShape]
    cases e : pHead only l with
    | unsaid => trivial
    | wrong =>
      show rOnly (f + 1) only l = none
      rcases pHead_wrong e with h | ⟨le, k, r, h, hk⟩
      · unfold rOnly
        simp only [under, rG, h, By.as]
        repeat' split
        all_goals rfl
      · unfold rOnly
        simp only [under_of h, rG, h]
        rcases (by omega : only = 1 ∨ only = 2 ∨ only = 3 ∨ only = 0) with rfl | rfl | rfl | rfl
        · rw [if_pos rfl, if_neg (by omega)]; rfl
        · rw [if_neg (by omega), if_pos rfl, if_neg (by omega)]; rfl
        · rw [if_neg (by omega), if_neg (by omega), if_pos rfl, if_neg (by omega)]; rfl
        · rw [if_neg (by omega), if_neg (by omega), if_neg (by omega), if_neg (by omega), if_neg (by omega), if_neg (by omega), if_neg (by omega), if_neg (by omega), if_neg (by omega), if_neg (by omega)]
    | fine x r =>
      obtain ⟨le, k⟩ := x
      obtain ⟨h, h1, h7, hok⟩ := pHead_fine e
      have := pBody_agrees (f := f) (fun only l ho => pShape_agrees d f only l ho (by omega)) k h1 h7 le r
      have e2 : rOnly (f + 1) only l = _ := rfl
      simp only
      rw [e2]
      unfold rOnly
      simp only [under_of h, rG, h]
      rcases (by omega : only = 1 ∨ only = 2 ∨ only = 3 ∨ only = 0) with rfl | rfl | rfl | rfl
      · obtain rfl := hok (by omega); exact this
      · obtain rfl := hok (by omega); exact this
      · obtain rfl := hok (by omega); exact this
      · exact this
end Go.Proofs.YtjbjjphgnilhmaaGreatDoor
