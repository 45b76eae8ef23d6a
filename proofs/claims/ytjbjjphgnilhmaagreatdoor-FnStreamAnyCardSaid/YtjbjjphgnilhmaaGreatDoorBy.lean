/- Plain law: shapes in the binary form, written, and read by two decoders: what is written is what is read. -/
import Derived.Lib.Endian
import Derived.Lib.EndianMore
set_option linter.unusedVariables false
namespace Go.Proofs.YtjbjjphgnilhmaaGreatDoor.By

abbrev Pt := Nat × Nat
abbrev Bs := List UInt8

inductive G where
  | pt (p : Pt)
  | ln (l : List Pt)
  | pg (l : List (List Pt))
  | mp (l : List Pt)
  | ml (l : List (List Pt))
  | mg (l : List (List (List Pt)))
  | co (l : List G)

/-! ### Numbers -/

def num (le : Bool) (l : Bs) : Nat := if le then Lib.leNat l else Lib.beNat l
def spell (le : Bool) (k v : Nat) : Bs := if le then Lib.leBytes k v else Lib.beBytes k v
theorem spell_length (le : Bool) (k v : Nat) : (spell le k v).length = k := by
  unfold spell; split
  · exact Lib.leBytes_length k v
  · exact Lib.beBytes_length k v
theorem num_spell (le : Bool) (k v : Nat) (h : v < 256 ^ k) : num le (spell le k v) = v := by
  unfold num spell
  cases le
  · simpa using Lib.beNat_beBytes k v h
  · simpa using Lib.leNat_leBytes k v h
def u32 (le : Bool) (l : Bs) : Nat := num le (l.take 4)
def u64 (le : Bool) (l : Bs) : Nat := num le (l.take 8)
theorem take_app {α} (a b : List α) (n : Nat) (h : a.length = n) : (a ++ b).take n = a := by subst h; simp
theorem drop_app {α} (a b : List α) (n : Nat) (h : a.length = n) : (a ++ b).drop n = b := by subst h; simp
theorem u32_spell (le : Bool) (v : Nat) (r : Bs) (h : v < 4294967296) : u32 le (spell le 4 v ++ r) = v := by
  unfold u32; rw [take_app _ _ _ (spell_length le 4 v)]; exact num_spell le 4 v (by simpa using h)
theorem u64_spell (le : Bool) (v : Nat) (r : Bs) (h : v < 18446744073709551616) : u64 le (spell le 8 v ++ r) = v := by
  unfold u64; rw [take_app _ _ _ (spell_length le 8 v)]; exact num_spell le 8 v (by simpa using h)
theorem leNat_lt : ∀ (l : Bs), Lib.leNat l < 256 ^ l.length
  | [] => by simp [Lib.leNat]
  | b :: r => by
    have := leNat_lt r
    have hb := b.toNat_lt
    simp only [Lib.leNat, List.length_cons, Nat.pow_succ]
    omega
theorem num_lt (le : Bool) (l : Bs) : num le l < 256 ^ l.length := by
  unfold num; split
  · exact leNat_lt l
  · rw [Lib.beNat_eq]; simpa using leNat_lt l.reverse
theorem u32_lt (le : Bool) (l : Bs) : u32 le l < 4294967296 := by
  refine Nat.lt_of_lt_of_le (num_lt le _) ?_
  exact Nat.le_trans (Nat.pow_le_pow_right (by omega) (by simp; omega : (l.take 4).length ≤ 4)) (by decide)
theorem u64_lt (le : Bool) (l : Bs) : u64 le l < 18446744073709551616 := by
  refine Nat.lt_of_lt_of_le (num_lt le _) ?_
  exact Nat.le_trans (Nat.pow_le_pow_right (by omega) (by simp; omega : (l.take 8).length ≤ 8)) (by decide)

/-! ### Writing -/

def hd (le : Bool) (t : Nat) : Bs := (if le then 1 else 0) :: spell le 4 t
def encPt (le : Bool) (p : Pt) : Bs := spell le 8 p.1 ++ spell le 8 p.2
def encPts (le : Bool) (l : List Pt) : Bs := spell le 4 l.length ++ l.flatMap (encPt le)
def encRings (le : Bool) (l : List (List Pt)) : Bs := spell le 4 l.length ++ l.flatMap (encPts le)
def encP (le : Bool) (p : Pt) : Bs := hd le 1 ++ encPt le p
def encL (le : Bool) (l : List Pt) : Bs := hd le 2 ++ encPts le l
def encG (le : Bool) (l : List (List Pt)) : Bs := hd le 3 ++ encRings le l
mutual
def enc (le : Bool) : G → Bs
  | .pt p => encP le p
  | .ln l => encL le l
  | .pg l => encG le l
  | .mp l => hd le 4 ++ (spell le 4 l.length ++ l.flatMap (encP le))
  | .ml l => hd le 5 ++ (spell le 4 l.length ++ l.flatMap (encL le))
  | .mg l => hd le 6 ++ (spell le 4 l.length ++ l.flatMap (encG le))
  | .co l => hd le 7 ++ (spell le 4 l.length ++ encs le l)
def encs (le : Bool) : List G → Bs
  | [] => []
  | g :: r => enc le g ++ encs le r
end
theorem hd_length (le : Bool) (t : Nat) : (hd le t).length = 5 := by simp [hd, spell_length]
theorem encPt_length (le : Bool) (p : Pt) : (encPt le p).length = 16 := by simp [encPt, spell_length]
theorem flat_length {α} (e : α → Bs) (k : Nat) : ∀ (l : List α), (∀ a ∈ l, (e a).length = k) → (l.flatMap e).length = k * l.length
  | [], _ => by simp
  | a :: r, h => by
    rw [List.flatMap_cons, List.length_append, h a (by simp), flat_length e k r fun b hb => h b (by simp [hb]), List.length_cons, Nat.mul_succ]; omega
theorem encPts_length (le : Bool) (l : List Pt) : (encPts le l).length = 4 + 16 * l.length := by
  simp [encPts, spell_length, flat_length (encPt le) 16 l fun a _ => encPt_length le a]
/-- What a row of rings takes. -/
def ringsSize : List (List Pt) → Nat
  | [] => 0
  | r :: l => 4 + 16 * r.length + ringsSize l
theorem flat_rings (le : Bool) : ∀ (l : List (List Pt)), (l.flatMap (encPts le)).length = ringsSize l
  | [] => rfl
  | r :: l => by rw [List.flatMap_cons, List.length_append, encPts_length, flat_rings le l, ringsSize]
theorem encP_length (le : Bool) (p : Pt) : (encP le p).length = 21 := by simp [encP, hd_length, encPt_length]
theorem encL_length (le : Bool) (l : List Pt) : (encL le l).length = 9 + 16 * l.length := by simp [encL, hd_length, encPts_length]; omega
theorem encG_length (le : Bool) (l : List (List Pt)) : (encG le l).length = 9 + ringsSize l := by
  simp only [encG, encRings, List.length_append, hd_length, spell_length, flat_rings]; omega

/-! ### Reading a stream -/

def rU32 (le : Bool) (l : Bs) : Option (Nat × Bs) := if l.length < 4 then none else some (u32 le l, l.drop 4)
def rPoint (le : Bool) (l : Bs) : Option (Pt × Bs) := if l.length < 16 then none else some ((u64 le l, u64 le (l.drop 8)), l.drop 16)
def order : Bs → Option (Bool × Bs)
  | [] => none
  | b :: r => if b = 0 then some (false, r) else if b = 1 then some (true, r) else none
def rHead (l : Bs) : Option (Bool × Nat × Bs) :=
  match order l with
  | none => none
  | some (le, r) => match rU32 le r with
    | none => none
    | some (t, r) => if t &&& 536870912 = 0 then some (le, t, r) else match rU32 le r with
      | none => none
      | some (_, r) => some (le, t &&& 255, r)
def times {α} (rd : Bs → Option (α × Bs)) : Nat → Bs → Option (List α × Bs)
  | 0, l => some ([], l)
  | n + 1, l => match rd l with
    | none => none
    | some (a, r) => match times rd n r with
      | none => none
      | some (as, r) => some (a :: as, r)
/-- A number, and so many things. -/
def row {α} (le : Bool) (rd : Bs → Option (α × Bs)) (l : Bs) : Option (List α × Bs) :=
  match rU32 le l with
  | none => none
  | some (n, r) => times rd n r
/-- A head of a kind, and what is behind it. -/
def under {α} (t : Nat) (rd : Bool → Bs → Option (α × Bs)) (l : Bs) : Option (α × Bs) :=
  match rHead l with
  | none => none
  | some (le, k, r) => if k = t then rd le r else none
def rLine (le : Bool) : Bs → Option (List Pt × Bs) := row le (rPoint le)
def rPoly (le : Bool) : Bs → Option (List (List Pt) × Bs) := row le (rLine le)
def as {α} (c : α → G) (o : Option (α × Bs)) : Option (G × Bs) := o.map fun x => (c x.1, x.2)
def rG : Nat → Bs → Option (G × Bs)
  | 0, _ => none
  | f + 1, l => match rHead l with
    | none => none
    | some (le, k, r) =>
      if k = 1 then as .pt (rPoint le r)
      else if k = 4 then as .mp (row le (under 1 rPoint) r)
      else if k = 2 then as .ln (rLine le r)
      else if k = 5 then as .ml (row le (under 2 rLine) r)
      else if k = 3 then as .pg (rPoly le r)
      else if k = 6 then as .mg (row le (under 3 rPoly) r)
      else if k = 7 then as .co (row le (rG f) r)
      else none

/-! ### What is written is what a stream reads -/

def OkP (p : Pt) : Prop := p.1 < 18446744073709551616 ∧ p.2 < 18446744073709551616
def OkL (l : List Pt) : Prop := l.length < 4294967296 ∧ ∀ p ∈ l, OkP p
def OkR (l : List (List Pt)) : Prop := l.length < 4294967296 ∧ ∀ p ∈ l, OkL p
mutual
def Ok : G → Prop
  | .pt p => OkP p
  | .ln l => OkL l
  | .pg l => OkR l
  | .mp l => OkL l
  | .ml l => OkR l
  | .mg l => l.length < 4294967296 ∧ ∀ p ∈ l, OkR p
  | .co l => l.length < 4294967296 ∧ Oks l
def Oks : List G → Prop
  | [] => True
  | g :: r => Ok g ∧ Oks r
end

theorem rU32_spell (le : Bool) (v : Nat) (r : Bs) (h : v < 4294967296) : rU32 le (spell le 4 v ++ r) = some (v, r) := by
  unfold rU32
  rw [if_neg (by simp [spell_length]), u32_spell le v r h, drop_app _ _ _ (spell_length le 4 v)]
theorem rPoint_enc (le : Bool) (p : Pt) (h : OkP p) (r : Bs) : rPoint le (encPt le p ++ r) = some (p, r) := by
  unfold rPoint
  rw [if_neg (by simp [encPt_length]), drop_app _ _ _ (encPt_length le p)]
  simp only [encPt, List.append_assoc]
  rw [u64_spell le _ _ h.1, drop_app _ _ _ (spell_length le 8 _), u64_spell le _ _ h.2]
theorem rHead_hd (le : Bool) (t : Nat) (r : Bs) (h : t < 8) : rHead (hd le t ++ r) = some (le, t, r) := by
  have ho : order (hd le t ++ r) = some (le, spell le 4 t ++ r) := by cases le <;> rfl
  unfold rHead
  rw [ho]
  simp only [rU32_spell le t r (by omega)]
  have : t &&& 536870912 = 0 := by
    rcases (by omega : t = 0 ∨ t = 1 ∨ t = 2 ∨ t = 3 ∨ t = 4 ∨ t = 5 ∨ t = 6 ∨ t = 7) with rfl | rfl | rfl | rfl | rfl | rfl | rfl | rfl <;> decide
  rw [if_pos this]
theorem times_enc {α} (rd : Bs → Option (α × Bs)) (e : α → Bs) : ∀ (l : List α) (r : Bs), (∀ a ∈ l, ∀ r, rd (e a ++ r) = some (a, r)) → times rd l.length (l.flatMap e ++ r) = some (l, r)
  | [], r, _ => rfl
  | a :: l, r, h => by
    simp only [List.length_cons, times, List.flatMap_cons, List.append_assoc]
    rw [h a (by simp)]
    simp only [times_enc rd e l r fun b hb => h b (by simp [hb])]
theorem row_enc {α} (le : Bool) (rd : Bs → Option (α × Bs)) (e : α → Bs) (l : List α) (r : Bs) (hl : l.length < 4294967296) (h : ∀ a ∈ l, ∀ r, rd (e a ++ r) = some (a, r)) :
    row le rd (spell le 4 l.length ++ (l.flatMap e ++ r)) = some (l, r) := by
  unfold row
  rw [rU32_spell le _ _ hl]
  exact times_enc rd e l r h
theorem under_enc {α} (le : Bool) (t : Nat) (ht : t < 8) (rd : Bool → Bs → Option (α × Bs)) (e : Bs) (a : α) (r : Bs) (h : rd le (e ++ r) = some (a, r)) : under t rd (hd le t ++ (e ++ r)) = some (a, r) := by
  unfold under
  rw [rHead_hd le t _ ht]
  simp only [if_true]
  exact h
theorem rLine_enc (le : Bool) (l : List Pt) (h : OkL l) (r : Bs) : rLine le (encPts le l ++ r) = some (l, r) := by
  unfold rLine encPts
  rw [List.append_assoc]
  exact row_enc le _ _ l r h.1 fun p hp r => rPoint_enc le p (h.2 p hp) r
theorem rPoly_enc (le : Bool) (l : List (List Pt)) (h : OkR l) (r : Bs) : rPoly le (encRings le l ++ r) = some (l, r) := by
  unfold rPoly encRings
  rw [List.append_assoc]
  exact row_enc le _ _ l r h.1 fun p hp r => rLine_enc le p (h.2 p hp) r
mutual
theorem rG_enc (le : Bool) : ∀ (g : G) (f : Nat) (r : Bs), Ok g → (enc le g).length ≤ f → rG f (enc le g ++ r) = some (g, r)
  | .pt p, 0, r, h, hf => by simp [enc, encP_length] at hf
  | .pt p, f + 1, r, h, hf => by
    simp only [enc, encP, List.append_assoc, rG, rHead_hd le 1 _ (by omega), if_true]
    rw [rPoint_enc le p (by simpa [Ok] using h)]; rfl
  | .ln l, 0, r, h, hf => by simp [enc, encL_length] at hf
  | .ln l, f + 1, r, h, hf => by
    simp only [enc, encL, List.append_assoc, rG, rHead_hd le 2 _ (by omega), if_true]
    rw [rLine_enc le l (by simpa [Ok] using h)]; rfl
  | .pg l, 0, r, h, hf => by simp [enc, encG_length] at hf
  | .pg l, f + 1, r, h, hf => by
    simp only [enc, encG, List.append_assoc, rG, rHead_hd le 3 _ (by omega), if_true]
    rw [rPoly_enc le l (by simpa [Ok] using h)]; rfl
  | .mp l, 0, r, h, hf => by simp [enc, hd_length] at hf
  | .mp l, f + 1, r, h, hf => by
    have h : OkL l := by simpa [Ok] using h
    simp only [enc, List.append_assoc, rG, rHead_hd le 4 _ (by omega), if_true]
    rw [row_enc le _ _ l r h.1 fun p hp r => by
      simp only [encP, List.append_assoc]; exact under_enc le 1 (by omega) _ _ _ _ (rPoint_enc le p (h.2 p hp) r)]
    rfl
  | .ml l, 0, r, h, hf => by simp [enc, hd_length] at hf
  | .ml l, f + 1, r, h, hf => by
    have h : OkR l := by simpa [Ok] using h
    simp only [enc, List.append_assoc, rG, rHead_hd le 5 _ (by omega), if_true]
    rw [row_enc le _ _ l r h.1 fun p hp r => by
      simp only [encL, List.append_assoc]; exact under_enc le 2 (by omega) _ _ _ _ (rLine_enc le p (h.2 p hp) r)]
    rfl
  | .mg l, 0, r, h, hf => by simp [enc, hd_length] at hf
  | .mg l, f + 1, r, h, hf => by
    have h : l.length < 4294967296 ∧ ∀ p ∈ l, OkR p := by simpa [Ok] using h
    simp only [enc, List.append_assoc, rG, rHead_hd le 6 _ (by omega), if_true]
    rw [row_enc le _ _ l r h.1 fun p hp r => by
      simp only [encG, List.append_assoc]; exact under_enc le 3 (by omega) _ _ _ _ (rPoly_enc le p (h.2 p hp) r)]
    rfl
  | .co l, 0, r, h, hf => by simp [enc, hd_length] at hf
  | .co l, f + 1, r, h, hf => by
    have h : l.length < 4294967296 ∧ Oks l := by simpa [Ok] using h
    simp only [enc, List.length_append, hd_length, spell_length] at hf
    simp only [enc, List.append_assoc, rG, rHead_hd le 7 _ (by omega), if_true]
    have := rGs_enc le l f r h.2 (by omega)
    simp only [row, rU32_spell le _ _ h.1, this]
    rfl
theorem rGs_enc (le : Bool) : ∀ (l : List G) (f : Nat) (r : Bs), Oks l → (encs le l).length ≤ f → times (rG f) l.length (encs le l ++ r) = some (l, r)
  | [], f, r, _, _ => rfl
  | g :: l, f, r, h, hf => by
    have h : Ok g ∧ Oks l := by simpa [Oks] using h
    simp only [encs, List.length_append] at hf
    simp only [List.length_cons, times, encs, List.append_assoc]
    rw [rG_enc le g f _ h.1 (by omega)]
    simp only [rGs_enc le l f r h.2 (by omega)]
end

/-! ### What a stream reads is no longer than what is there -/

theorem rU32_some {le : Bool} {l : Bs} {x : Nat × Bs} (h : rU32 le l = some x) : 4 ≤ l.length ∧ x.1 = u32 le l ∧ x.2 = l.drop 4 := by
  unfold rU32 at h
  split at h
  · cases h
  · cases h; exact ⟨by omega, rfl, rfl⟩
theorem order_some {l : Bs} {x : Bool × Bs} (h : order l = some x) : l.length = x.2.length + 1 ∧ ∃ b, l = b :: x.2 := by
  unfold order at h
  split at h
  · cases h
  · split at h
    · cases h; exact ⟨rfl, _, rfl⟩
    · split at h
      · cases h; exact ⟨rfl, _, rfl⟩
      · cases h
theorem rHead_some {l : Bs} {x : Bool × Nat × Bs} (h : rHead l = some x) : x.2.2.length + 5 ≤ l.length := by
  unfold rHead at h
  split at h
  · cases h
  · rename_i le r ho
    have h1 := (order_some ho).1
    simp only at h1
    split at h
    · cases h
    · rename_i t r2 hr
      have h2 := rU32_some hr
      simp only at h2
      obtain ⟨h2, -, h3⟩ := h2
      have h4 : r2.length = r.length - 4 := by rw [h3, List.length_drop]
      split at h
      · cases h; simp only; omega
      · split at h
        · cases h
        · rename_i r3 hr3
          have h5 := rU32_some hr3
          simp only at h5
          have h6 : r3.length = r2.length - 4 := by rw [h5.2.2, List.length_drop]
          cases h; simp only; omega
/-- A reader is honest: what it gives fits P, and its spelling is no longer than what it took. -/
def Fits {α} (P : α → Prop) (k : α → Nat) (rd : Bs → Option (α × Bs)) : Prop := ∀ l a r, rd l = some (a, r) → P a ∧ k a + r.length ≤ l.length
def total {α} (k : α → Nat) : List α → Nat
  | [] => 0
  | a :: r => k a + total k r
theorem times_fits {α} {P : α → Prop} {k : α → Nat} {rd : Bs → Option (α × Bs)} (h : Fits P k rd) : ∀ (n : Nat) (l : Bs) (as : List α) (r : Bs), times rd n l = some (as, r) → as.length = n ∧ (∀ a ∈ as, P a) ∧ total k as + r.length ≤ l.length
  | 0, l, as, r, h0 => by simp only [times, Option.some.injEq, Prod.mk.injEq] at h0; obtain ⟨rfl, rfl⟩ := h0; simp [total]
  | n + 1, l, as, r, h0 => by
    simp only [times] at h0
    split at h0
    · cases h0
    · rename_i a r1 h1
      split at h0
      · cases h0
      · rename_i as' r2 h2
        cases h0
        have e1 := h l a r1 h1
        obtain ⟨e2, e3, e4⟩ := times_fits h n r1 as' r h2
        refine ⟨by simp [e2], ?_, by simp only [total]; omega⟩
        intro x hx
        rcases List.mem_cons.1 hx with rfl | hx
        · exact e1.1
        · exact e3 x hx
theorem row_fits {α} {P : α → Prop} {k : α → Nat} {rd : Bs → Option (α × Bs)} (h : Fits P k rd) (le : Bool) : Fits (fun as => as.length < 4294967296 ∧ ∀ a ∈ as, P a) (fun as => 4 + total k as) (row le rd) := by
  intro l as r h0
  unfold row at h0
  split at h0
  · cases h0
  · rename_i n r1 h1
    have e := rU32_some h1
    simp only at e
    obtain ⟨e1, e2, e3⟩ := times_fits h n r1 as r h0
    have e4 : r1.length = l.length - 4 := by rw [e.2.2, List.length_drop]
    refine ⟨⟨by rw [e1, e.2.1]; exact u32_lt le l, e2⟩, by show 4 + total k as + _ ≤ _; omega⟩
theorem under_fits {α} {P : α → Prop} {k : α → Nat} {rd : Bool → Bs → Option (α × Bs)} (h : ∀ le, Fits P k (rd le)) (t : Nat) : Fits P (fun a => 5 + k a) (under t rd) := by
  intro l a r h0
  unfold under at h0
  split at h0
  · cases h0
  · rename_i le k' r1 h1
    have e := rHead_some h1
    simp only at e
    split at h0
    · have e1 := h le r1 a r h0
      exact ⟨e1.1, by show 5 + k a + _ ≤ _; omega⟩
    · cases h0
theorem rPoint_fits (le : Bool) : Fits OkP (fun _ => 16) (rPoint le) := by
  intro l a r h
  unfold rPoint at h
  split at h
  · cases h
  · cases h
    refine ⟨⟨u64_lt _ _, u64_lt _ _⟩, by simp; omega⟩
theorem total_const (k : Nat) {α} : ∀ (l : List α), total (fun _ => k) l = k * l.length
  | [] => rfl
  | a :: l => by rw [total, total_const k l, List.length_cons, Nat.mul_succ]; omega
theorem rLine_fits (le : Bool) : Fits OkL (fun l => 4 + 16 * l.length) (rLine le) := by
  intro l a r h
  have := row_fits (rPoint_fits le) le l a r h
  exact ⟨this.1, by have := this.2; simp only [total_const] at this; exact this⟩
theorem total_rings : ∀ (l : List (List Pt)), total (fun l => 4 + 16 * l.length) l = ringsSize l
  | [] => rfl
  | a :: l => by rw [total, total_rings l, ringsSize]
theorem rPoly_fits (le : Bool) : Fits OkR (fun l => 4 + ringsSize l) (rPoly le) := by
  intro l a r h
  have := row_fits (rLine_fits le) le l a r h
  exact ⟨this.1, by have := this.2; simp only [total_rings] at this; exact this⟩
mutual
def size : G → Nat
  | .pt _ => 21
  | .ln l => 9 + 16 * l.length
  | .pg l => 9 + ringsSize l
  | .mp l => 9 + 21 * l.length
  | .ml l => 9 + total (fun l => 9 + 16 * l.length) l
  | .mg l => 9 + total (fun l => 9 + ringsSize l) l
  | .co l => 9 + sizes l
def sizes : List G → Nat
  | [] => 0
  | g :: r => size g + sizes r
end
theorem flat_total {α} (e : α → Bs) (k : α → Nat) (h : ∀ a, (e a).length = k a) : ∀ (l : List α), (l.flatMap e).length = total k l
  | [] => rfl
  | a :: l => by rw [List.flatMap_cons, List.length_append, h a, flat_total e k h l, total]
mutual
theorem enc_length (le : Bool) : ∀ (g : G), (enc le g).length = size g
  | .pt p => by simp only [enc, size, encP_length]
  | .ln l => by simp only [enc, size, encL_length]
  | .pg l => by simp only [enc, size, encG_length]
  | .mp l => by simp only [enc, size, List.length_append, hd_length, spell_length, flat_length (encP le) 21 l fun a _ => encP_length le a]; omega
  | .ml l => by simp only [enc, size, List.length_append, hd_length, spell_length, flat_total (encL le) _ (encL_length le)]; omega
  | .mg l => by simp only [enc, size, List.length_append, hd_length, spell_length, flat_total (encG le) _ (encG_length le)]; omega
  | .co l => by simp only [enc, size, List.length_append, hd_length, spell_length, encs_length le l]; omega
theorem encs_length (le : Bool) : ∀ (l : List G), (encs le l).length = sizes l
  | [] => rfl
  | g :: l => by simp only [encs, sizes, List.length_append, enc_length le g, encs_length le l]
end
theorem Oks_of : ∀ (l : List G), (∀ g ∈ l, Ok g) → Oks l
  | [], _ => by simp [Oks]
  | g :: l, h => by simp only [Oks]; exact ⟨h g (by simp), Oks_of l fun x hx => h x (by simp [hx])⟩
theorem sizes_total : ∀ (l : List G), total size l = sizes l
  | [] => by simp [total, sizes]
  | g :: l => by simp only [total, sizes, sizes_total l]
theorem as_some {α} {c : α → G} {o : Option (α × Bs)} {g : G} {r : Bs} (h : as c o = some (g, r)) : ∃ a, o = some (a, r) ∧ g = c a := by
  unfold as at h
  cases o with
  | none => cases h
  | some x => obtain ⟨a, r'⟩ := x; cases h; exact ⟨a, rfl, rfl⟩
theorem rG_fits : ∀ f, Fits Ok size (rG f)
  | 0 => fun l g r h => by simp [rG] at h
  | f + 1 => fun l g r h => by
    simp only [rG] at h
    split at h
    · cases h
    · rename_i le k r1 h1
      have e := rHead_some h1
      simp only at e
      repeat' split at h
      · obtain ⟨a, q, rfl⟩ := as_some h
        have := rPoint_fits le _ _ _ q
        simp only at this
        exact ⟨by simp only [Ok]; exact this.1, by simp only [size]; omega⟩
      · obtain ⟨a, q, rfl⟩ := as_some h
        have := row_fits (under_fits (fun le => rPoint_fits le) 1) le _ _ _ q
        simp only [total_const] at this
        exact ⟨by simp only [Ok]; exact this.1, by simp only [size]; omega⟩
      · obtain ⟨a, q, rfl⟩ := as_some h
        have := rLine_fits le _ _ _ q
        simp only at this
        exact ⟨by simp only [Ok]; exact this.1, by simp only [size]; omega⟩
      · obtain ⟨a, q, rfl⟩ := as_some h
        have := row_fits (under_fits (fun le => rLine_fits le) 2) le _ _ _ q
        have e9 : (fun l : List Pt => 5 + (4 + 16 * l.length)) = fun l => 9 + 16 * l.length := by funext l; omega
        simp only [e9] at this
        exact ⟨by simp only [Ok]; exact this.1, by simp only [size]; omega⟩
      · obtain ⟨a, q, rfl⟩ := as_some h
        have := rPoly_fits le _ _ _ q
        simp only at this
        exact ⟨by simp only [Ok]; exact this.1, by simp only [size]; omega⟩
      · obtain ⟨a, q, rfl⟩ := as_some h
        have := row_fits (under_fits (fun le => rPoly_fits le) 3) le _ _ _ q
        have e9 : (fun l : List (List Pt) => 5 + (4 + ringsSize l)) = fun l => 9 + ringsSize l := by funext l; omega
        simp only [e9] at this
        exact ⟨by simp only [Ok]; exact this.1, by simp only [size]; omega⟩
      · obtain ⟨a, q, rfl⟩ := as_some h
        have := row_fits (rG_fits f) le _ _ _ q
        simp only [sizes_total] at this
        exact ⟨by simp only [Ok]; exact ⟨this.1.1, Oks_of _ this.1.2⟩, by simp only [size]; omega⟩
      · cases h

/-! ### Reading flat bytes -/

def uHead (l : Bs) : Option (Bool × Nat × Bs) :=
  if l.length < 6 then none else match order l with
  | none => none
  | some (le, r) =>
    if u32 le r &&& 536870912 = 0 then some (le, u32 le r &&& 15, r.drop 4)
    else if l.length < 10 then none else some (le, u32 le r &&& 15, r.drop 8)
def uPoint (le : Bool) (l : Bs) : Option Pt := if l.length < 16 then none else some (u64 le l, u64 le (l.drop 8))
def ptsOf (le : Bool) : Nat → Bs → List Pt
  | 0, _ => []
  | n + 1, l => (u64 le l, u64 le (l.drop 8)) :: ptsOf le n (l.drop 16)
def uPoints (le : Bool) (l : Bs) : Option (List Pt) :=
  if l.length < 4 then none else if (l.drop 4).length < u32 le l * 16 then none else some (ptsOf le (u32 le l) (l.drop 4))
/-- A scanner, and what is left behind as many bytes as are left out by what it gives. -/
def skip {α} (sc : Bs → Option α) (k : α → Nat) (l : Bs) : Option (α × Bs) := (sc l).map fun a => (a, l.drop (k a))
def uRow {α} (le : Bool) (sc : Bs → Option α) (k : α → Nat) (l : Bs) : Option (List α) := (row le (skip sc k) l).map (·.1)
def uPoly (le : Bool) : Bs → Option (List (List Pt)) := uRow le (uPoints le) fun l => 16 * l.length + 4
def single {α} : Option (List α) → Option α
  | some [a] => some a
  | _ => none
/-- A shape of a kind, or the only one of a row of them. -/
def scan {α} (t m : Nat) (u : Bool → Bs → Option α) (k : α → Nat) : Nat → Bs → Option α
  | 0, _ => none
  | f + 1, l => match uHead l with
    | none => none
    | some (le, n, d) => if n = t then u le d else if n = m then single (uRow le (scan t m u k f) k d) else none
def sPoint : Nat → Bs → Option Pt := scan 1 4 uPoint fun _ => 21
def sLine : Nat → Bs → Option (List Pt) := scan 2 5 uPoints fun l => 16 * l.length + 9
def sPoly : Nat → Bs → Option (List (List Pt)) := scan 3 6 uPoly fun l => 9 + ringsSize l
def uMP (f : Nat) (le : Bool) : Bs → Option (List Pt) := uRow le (sPoint f) fun _ => 21
def uML (f : Nat) (le : Bool) : Bs → Option (List (List Pt)) := uRow le (sLine f) fun l => 16 * l.length + 9
def uMG (f : Nat) (le : Bool) : Bs → Option (List (List (List Pt))) := uRow le (sPoly f) fun l => 9 + ringsSize l
def unm (l : Bs) : Option G := match uHead l with
  | none => none
  | some (le, k, d) =>
    if k = 1 then (uPoint le d).map .pt
    else if k = 4 then (uMP l.length le d).map .mp
    else if k = 2 then (uPoints le d).map .ln
    else if k = 5 then (uML l.length le d).map .ml
    else if k = 3 then (uPoly le d).map .pg
    else if k = 6 then (uMG l.length le d).map .mg
    else if k = 7 then (rG l.length l).map (·.1)
    else none

/-! What is written is what is read. -/

theorem uHead_hd (le : Bool) (t : Nat) (r : Bs) (h : t < 8) (hr : 0 < r.length) : uHead (hd le t ++ r) = some (le, t, r) := by
  have ho : order (hd le t ++ r) = some (le, spell le 4 t ++ r) := by cases le <;> rfl
  unfold uHead
  rw [ho, if_neg (by simp [hd_length]; omega)]
  simp only [u32_spell le t r (by omega)]
  have : t &&& 536870912 = 0 ∧ t &&& 15 = t := by
    rcases (by omega : t = 0 ∨ t = 1 ∨ t = 2 ∨ t = 3 ∨ t = 4 ∨ t = 5 ∨ t = 6 ∨ t = 7) with rfl | rfl | rfl | rfl | rfl | rfl | rfl | rfl <;> decide
  rw [if_pos this.1, this.2, drop_app _ _ _ (spell_length le 4 t)]
theorem uPoint_enc (le : Bool) (p : Pt) (h : OkP p) (r : Bs) : uPoint le (encPt le p ++ r) = some p := by
  have := rPoint_enc le p h r
  unfold rPoint at this
  unfold uPoint
  split at this
  · cases this
  · rename_i hn
    rw [if_neg hn]
    simp only [Option.some.injEq, Prod.mk.injEq] at this
    rw [this.1]
theorem ptsOf_enc (le : Bool) : ∀ (l : List Pt) (r : Bs), (∀ p ∈ l, OkP p) → ptsOf le l.length (l.flatMap (encPt le) ++ r) = l
  | [], r, _ => rfl
  | p :: l, r, h => by
    have hp := h p (by simp)
    simp only [List.length_cons, ptsOf, List.flatMap_cons, List.append_assoc]
    rw [drop_app _ _ _ (encPt_length le p), ptsOf_enc le l r fun x hx => h x (by simp [hx])]
    simp only [encPt, List.append_assoc]
    rw [u64_spell le _ _ hp.1, drop_app _ _ _ (spell_length le 8 _), u64_spell le _ _ hp.2]
theorem uPoints_enc (le : Bool) (l : List Pt) (h : OkL l) (r : Bs) : uPoints le (encPts le l ++ r) = some l := by
  unfold uPoints encPts
  rw [List.append_assoc, if_neg (by simp [spell_length]), u32_spell le _ _ h.1, drop_app _ _ _ (spell_length le 4 _), if_neg, ptsOf_enc le l r h.2]
  rw [List.length_append, flat_length (encPt le) 16 l fun a _ => encPt_length le a]; omega
theorem skip_enc {α} (sc : Bs → Option α) (k : α → Nat) (e : Bs) (a : α) (r : Bs) (h : sc (e ++ r) = some a) (hk : e.length = k a) : skip sc k (e ++ r) = some (a, r) := by
  unfold skip
  rw [h]
  simp only [Option.map_some]
  rw [drop_app _ _ _ hk]
theorem uRow_enc {α} (le : Bool) (sc : Bs → Option α) (k : α → Nat) (e : α → Bs) (l : List α) (r : Bs) (hl : l.length < 4294967296) (hk : ∀ a, (e a).length = k a) (h : ∀ a ∈ l, ∀ r, sc (e a ++ r) = some a) :
    uRow le sc k (spell le 4 l.length ++ (l.flatMap e ++ r)) = some l := by
  unfold uRow
  rw [row_enc le _ e l r hl fun a ha r => skip_enc sc k (e a) a r (h a ha r) (hk a)]
  rfl
theorem uPoly_enc (le : Bool) (l : List (List Pt)) (h : OkR l) (r : Bs) : uPoly le (encRings le l ++ r) = some l := by
  unfold uPoly encRings
  rw [List.append_assoc]
  exact uRow_enc le _ _ _ l r h.1 (fun a => by rw [encPts_length]; omega) fun a ha r => uPoints_enc le a (h.2 a ha) r
theorem scan_enc {α} {t m : Nat} {u : Bool → Bs → Option α} {k : α → Nat} (le : Bool) (ht : t < 8) (f : Nat) (e : Bs) (a : α) (r : Bs) (he : 0 < e.length) (h : u le (e ++ r) = some a) : scan t m u k (f + 1) (hd le t ++ (e ++ r)) = some a := by
  unfold scan
  rw [uHead_hd le t _ ht (by simp; omega)]
  simp only [if_true]
  exact h
theorem sPoint_enc (le : Bool) (f : Nat) (p : Pt) (h : OkP p) (r : Bs) : sPoint (f + 1) (encP le p ++ r) = some p := by
  unfold sPoint encP; rw [List.append_assoc]
  exact scan_enc le (by omega) f _ _ _ (by simp [encPt_length]) (uPoint_enc le p h r)
theorem sLine_enc (le : Bool) (f : Nat) (p : List Pt) (h : OkL p) (r : Bs) : sLine (f + 1) (encL le p ++ r) = some p := by
  unfold sLine encL; rw [List.append_assoc]
  exact scan_enc le (by omega) f _ _ _ (by rw [encPts_length]; omega) (uPoints_enc le p h r)
theorem sPoly_enc (le : Bool) (f : Nat) (p : List (List Pt)) (h : OkR p) (r : Bs) : sPoly (f + 1) (encG le p ++ r) = some p := by
  unfold sPoly encG; rw [List.append_assoc]
  exact scan_enc le (by omega) f _ _ _ (by simp only [encRings, List.length_append, spell_length]; omega) (uPoly_enc le p h r)
/-- WHAT IS WRITTEN IS WHAT IS READ. -/
theorem unm_enc (le : Bool) (g : G) (h : Ok g) : unm (enc le g) = some g := by
  have hl := enc_length le g
  unfold unm
  cases g with
  | pt p =>
    have := uPoint_enc le p (by simpa [Ok] using h) []
    rw [List.append_nil] at this
    simp only [enc, encP]
    rw [uHead_hd le 1 _ (by omega) (by simp [encPt_length])]
    simp only [this, if_true]; rfl
  | ln l =>
    have := uPoints_enc le l (by simpa [Ok] using h) []
    rw [List.append_nil] at this
    simp only [enc, encL]
    rw [uHead_hd le 2 _ (by omega) (by rw [encPts_length]; omega)]
    simp only [this, if_true]; rfl
  | pg l =>
    have := uPoly_enc le l (by simpa [Ok] using h) []
    rw [List.append_nil] at this
    simp only [enc, encG]
    rw [uHead_hd le 3 _ (by omega) (by simp only [encRings, List.length_append, spell_length]; omega)]
    simp only [this, if_true]; rfl
  | mp l =>
    have h : OkL l := by simpa [Ok] using h
    simp only [size] at hl
    obtain ⟨f, hf⟩ : ∃ f, (enc le (.mp l)).length = f + 1 := ⟨(enc le (.mp l)).length - 1, by omega⟩
    have := uRow_enc le (sPoint (f + 1)) (fun _ => 21) (encP le) l [] h.1 (fun a => encP_length le a) fun a ha r => sPoint_enc le f a (h.2 a ha) r
    rw [List.append_nil] at this
    rw [hf]
    simp only [enc]
    rw [uHead_hd le 4 _ (by omega) (by simp only [List.length_append, spell_length]; omega)]
    simp only [uMP, this, if_true]; rfl
  | ml l =>
    have h : OkR l := by simpa [Ok] using h
    simp only [size] at hl
    obtain ⟨f, hf⟩ : ∃ f, (enc le (.ml l)).length = f + 1 := ⟨(enc le (.ml l)).length - 1, by omega⟩
    have := uRow_enc le (sLine (f + 1)) (fun l => 16 * l.length + 9) (encL le) l [] h.1 (fun a => by rw [encL_length]; omega) fun a ha r => sLine_enc le f a (h.2 a ha) r
    rw [List.append_nil] at this
    rw [hf]
    simp only [enc]
    rw [uHead_hd le 5 _ (by omega) (by simp only [List.length_append, spell_length]; omega)]
    simp only [uML, this, if_true]; rfl
  | mg l =>
    have h : l.length < 4294967296 ∧ ∀ p ∈ l, OkR p := by simpa [Ok] using h
    simp only [size] at hl
    obtain ⟨f, hf⟩ : ∃ f, (enc le (.mg l)).length = f + 1 := ⟨(enc le (.mg l)).length - 1, by omega⟩
    have := uRow_enc le (sPoly (f + 1)) (fun l => 9 + ringsSize l) (encG le) l [] h.1 (fun a => encG_length le a) fun a ha r => sPoly_enc le f a (h.2 a ha) r
    rw [List.append_nil] at this
    rw [hf]
    simp only [enc]
    rw [uHead_hd le 6 _ (by omega) (by simp only [List.length_append, spell_length]; omega)]
    simp only [uMG, this, if_true]; rfl
  | co l =>
    have := rG_enc le (.co l) _ [] h (Nat.le_refl _)
    rw [List.append_nil] at this
    rw [this]
    simp only [enc]
    rw [uHead_hd le 7 _ (by omega) (by simp only [List.length_append, spell_length]; omega)]
    rfl

/-! What flat bytes give is no longer than they are. -/

theorem uHead_some {l : Bs} {x : Bool × Nat × Bs} (h : uHead l = some x) : x.2.2.length + 5 ≤ l.length := by
  unfold uHead at h
  split at h
  · cases h
  · split at h
    · cases h
    · rename_i le r ho
      have h1 := (order_some ho).1
      simp only at h1
      split at h
      · cases h; simp only [List.length_drop]; omega
      · split at h
        · cases h
        · cases h; simp only [List.length_drop]; omega
/-- A scanner gives what fits P, no longer than the bytes. -/
def Scans {α} (P : α → Prop) (k : α → Nat) (sc : Bs → Option α) : Prop := ∀ l a, sc l = some a → P a ∧ k a ≤ l.length
theorem skip_fits {α} {P : α → Prop} {k : α → Nat} {sc : Bs → Option α} (h : Scans P k sc) : Fits P k (skip sc k) := by
  intro l a r h0
  unfold skip at h0
  cases e : sc l with
  | none => rw [e] at h0; cases h0
  | some x =>
    rw [e] at h0
    cases h0
    have := h l a e
    refine ⟨this.1, ?_⟩
    rw [List.length_drop]; omega
theorem uRow_scans {α} {P : α → Prop} {k : α → Nat} {sc : Bs → Option α} (h : Scans P k sc) (le : Bool) : Scans (fun as => as.length < 4294967296 ∧ ∀ a ∈ as, P a) (fun as => 4 + total k as) (uRow le sc k) := by
  intro l xs h0
  unfold uRow at h0
  cases e : row le (skip sc k) l with
  | none => rw [e] at h0; cases h0
  | some x =>
    obtain ⟨ys, r⟩ := x
    rw [e] at h0
    cases h0
    have := row_fits (skip_fits h) le l _ r e
    exact ⟨this.1, by have := this.2; simp only at this ⊢; omega⟩
theorem uPoint_scans (le : Bool) : Scans OkP (fun _ => 16) (uPoint le) := by
  intro l a h
  unfold uPoint at h
  split at h
  · cases h
  · cases h
    exact ⟨⟨u64_lt _ _, u64_lt _ _⟩, by simp only; omega⟩
theorem ptsOf_length (le : Bool) : ∀ (n : Nat) (l : Bs), (ptsOf le n l).length = n
  | 0, _ => rfl
  | n + 1, l => by simp [ptsOf, ptsOf_length le n]
theorem ptsOf_ok (le : Bool) : ∀ (n : Nat) (l : Bs), ∀ p ∈ ptsOf le n l, OkP p
  | 0, _ => by simp [ptsOf]
  | n + 1, l => by
    intro p hp
    rcases List.mem_cons.1 hp with rfl | hp
    · exact ⟨u64_lt _ _, u64_lt _ _⟩
    · exact ptsOf_ok le n _ p hp
theorem uPoints_scans (le : Bool) : Scans OkL (fun l => 4 + 16 * l.length) (uPoints le) := by
  intro l a h
  unfold uPoints at h
  split at h
  · cases h
  · split at h
    · cases h
    · cases h
      rename_i h1 h2
      rw [List.length_drop] at h2
      refine ⟨⟨by rw [ptsOf_length]; exact u32_lt _ _, ptsOf_ok _ _ _⟩, ?_⟩
      show 4 + 16 * _ ≤ _
      rw [ptsOf_length]; omega
theorem single_some {α} {o : Option (List α)} {a : α} (h : single o = some a) : o = some [a] := by
  unfold single at h
  split at h
  · cases h; rfl
  · cases h
theorem scan_scans {α} {t m : Nat} {u : Bool → Bs → Option α} {k j : α → Nat} {P : α → Prop} (hk : ∀ a, k a = 5 + j a) (h : ∀ le, Scans P j (u le)) : ∀ f, Scans P k (scan t m u k f)
  | 0 => fun l a h0 => by simp [scan] at h0
  | f + 1 => fun l a h0 => by
    simp only [scan] at h0
    split at h0
    · cases h0
    · rename_i le n d hu
      have e := uHead_some hu
      simp only at e
      split at h0
      · have := h le d a h0
        exact ⟨this.1, by rw [hk]; omega⟩
      · split at h0
        · have := uRow_scans (scan_scans hk h f) le d [a] (single_some h0)
          refine ⟨this.1.2 a (by simp), ?_⟩
          have := this.2
          simp only [total] at this
          omega
        · cases h0
theorem sPoint_scans (f : Nat) : Scans OkP (fun _ => 21) (sPoint f) := scan_scans (j := fun _ => 16) (fun _ => rfl) uPoint_scans f
theorem sLine_scans (f : Nat) : Scans OkL (fun l => 16 * l.length + 9) (sLine f) := scan_scans (j := fun l => 4 + 16 * l.length) (fun _ => by omega) uPoints_scans f
theorem uPoly_scans (le : Bool) : Scans OkR (fun l => 4 + ringsSize l) (uPoly le) := by
  intro l a h
  have e : (fun l : List Pt => 16 * l.length + 4) = fun l => 4 + 16 * l.length := by funext l; omega
  unfold uPoly at h
  rw [e] at h
  have := uRow_scans (uPoints_scans le) le l a h
  simp only [total_rings] at this
  exact this
theorem sPoly_scans (f : Nat) : Scans OkR (fun l => 9 + ringsSize l) (sPoly f) := scan_scans (j := fun l => 4 + ringsSize l) (fun _ => by omega) uPoly_scans f
theorem map_some {α β} {c : α → β} {o : Option α} {g : β} (h : o.map c = some g) : ∃ a, o = some a ∧ g = c a := by
  cases o with
  | none => cases h
  | some a => cases h; exact ⟨a, rfl, rfl⟩
/-- WHATEVER IS READ FITS, AND IS NO LONGER THAN WHAT IT WAS READ FROM. -/
theorem unm_fits : Scans Ok size unm := by
  intro l g h
  unfold unm at h
  split at h
  · cases h
  · rename_i le k d hu
    have e := uHead_some hu
    simp only at e
    repeat' split at h
    · obtain ⟨a, q, rfl⟩ := map_some h
      have := uPoint_scans le _ _ q
      simp only at this
      exact ⟨by simp only [Ok]; exact this.1, by simp only [size]; have := this.2; omega⟩
    · obtain ⟨a, q, rfl⟩ := map_some h
      have := uRow_scans (sPoint_scans _) le _ _ q
      simp only [total_const] at this
      exact ⟨by simp only [Ok]; exact this.1, by simp only [size]; have := this.2; omega⟩
    · obtain ⟨a, q, rfl⟩ := map_some h
      have := uPoints_scans le _ _ q
      simp only at this
      exact ⟨by simp only [Ok]; exact this.1, by simp only [size]; have := this.2; omega⟩
    · obtain ⟨a, q, rfl⟩ := map_some h
      have := uRow_scans (sLine_scans _) le _ _ q
      have e9 : (fun l : List Pt => 16 * l.length + 9) = fun l => 9 + 16 * l.length := by funext l; omega
      simp only [e9] at this
      exact ⟨by simp only [Ok]; exact this.1, by simp only [size]; have := this.2; omega⟩
    · obtain ⟨a, q, rfl⟩ := map_some h
      have := uPoly_scans le _ _ q
      simp only at this
      exact ⟨by simp only [Ok]; exact this.1, by simp only [size]; have := this.2; omega⟩
    · obtain ⟨a, q, rfl⟩ := map_some h
      have := uRow_scans (sPoly_scans _) le _ _ q
      simp only at this
      exact ⟨by simp only [Ok]; exact this.1, by simp only [size]; have := this.2; omega⟩
    · obtain ⟨x, q, rfl⟩ := map_some h
      obtain ⟨g, r⟩ := x
      have := rG_fits _ _ _ _ q
      exact ⟨this.1, by have := this.2; show size g ≤ _; omega⟩
    · cases h

end Go.Proofs.YtjbjjphgnilhmaaGreatDoor.By
