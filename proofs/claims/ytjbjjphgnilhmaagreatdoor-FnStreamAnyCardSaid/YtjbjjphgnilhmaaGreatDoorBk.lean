/- Memory of the walks over bytes: what is known of whole blocks, what stays, rows of things. -/
import Derived.Test.YtjbjjphgnilhmaaGreatDoorBm
import Derived.Laws.AppendOwn
import Derived.Laws.NewBlocks
set_option linter.unusedVariables false
namespace Go.Proofs.YtjbjjphgnilhmaaGreatDoor
open Go.RowKit

/-! ### What stays -/

/-- What is known of whole blocks. -/
abbrev Knows := Nat → Obj → Prop
/-- What is known holds, of blocks from a place on. -/
def Has (lo : Nat) (H : Knows) (w : World) : Prop := ∀ b o, H b o → lo ≤ b ∧ w.heap[b]? = some o
/-- All that was there stays, but for some blocks. -/
structure Kept (X : Nat → Prop) (w w' : World) : Prop where
  os : w'.os = w.os
  tape : w'.tape = w.tape
  output : w'.output = w.output
  size : w.heap.size ≤ w'.heap.size
  block : ∀ k, k < w.heap.size → ¬ X k → w'.heap[k]? = w.heap[k]?
section
variable {X Y : Nat → Prop} {w w1 w2 : World} {H K : Knows} {lo B : Nat}
theorem Kept.refl (X : Nat → Prop) (w : World) : Kept X w w := ⟨rfl, rfl, rfl, Nat.le_refl _, fun _ _ _ => rfl⟩
theorem Kept.trans (h : Kept X w w1) (h2 : Kept Y w1 w2) (hY : ∀ k, k < w.heap.size → Y k → X k) : Kept X w w2 :=
  ⟨h2.os.trans h.os, h2.tape.trans h.tape, h2.output.trans h.output, Nat.le_trans h.size h2.size, fun k hk hX => (h2.block k (Nat.lt_of_lt_of_le hk h.size) (fun hy => hX (hY k hk hy))).trans (h.block k hk hX)⟩
theorem Kept.same (h : Kept X w w1) (h2 : Kept X w1 w2) : Kept X w w2 := h.trans h2 fun _ _ h => h
theorem Kept.weaken (h : Kept X w w1) (hX : ∀ k, k < w.heap.size → X k → Y k) : Kept Y w w1 := ⟨h.os, h.tape, h.output, h.size, fun k hk hn => h.block k hk (fun hx => hn (hX k hk hx))⟩
theorem Kept.of_below (h : Below w.heap.size w w1) (X : Nat → Prop) : Kept X w w1 := ⟨h.os, h.tape, h.output, h.size, fun k hk _ => h.block k hk⟩
theorem Kept.to_below (h : Kept X w w1) (hX : ∀ k, X k → B ≤ k) (hB : B ≤ w.heap.size) : Below B w w1 := ⟨h.os, h.tape, h.output, h.size, fun k hk => h.block k (Nat.lt_of_lt_of_le hk hB) (fun hx => by have := hX k hx; omega)⟩
theorem Kept.below (h : Kept X w w1) (h2 : Below w1.heap.size w1 w2) : Kept X w w2 := h.trans (Kept.of_below h2 (fun _ => False)) fun _ _ h => h.elim
theorem Kept.alloc (h : Kept X w w1) (o : Obj) : Kept X w (w1.alloc o) := h.below ((Below.refl _ _).alloc (Nat.le_refl _) o)
theorem Kept.drew (h : Kept X w w1) : Kept X w w1.drew := ⟨h.os, h.tape, h.output, h.size, h.block⟩
theorem Kept.drewN (h : Kept X w w1) (n : Nat) : Kept X w (w1.drewN n) := ⟨h.os, h.tape, h.output, h.size, h.block⟩
theorem Kept.grown {row : Option Nat} (h : Kept X w w1) (hg : w1.grownBy w2 row) (hr : ∀ k, row = some k → w.heap.size ≤ k ∨ X k) : Kept X w w2 :=
  ⟨hg.os.trans h.os, hg.tape.trans h.tape, hg.output.trans h.output, Nat.le_trans h.size hg.size, fun k hk hX => (hg.block k (Nat.lt_of_lt_of_le hk h.size) (fun e => (hr k e.symm).elim (fun h => by omega) hX)).trans (h.block k hk hX)⟩
theorem Kept.setCell (h : Kept X w w1) (p : Addr) (u : Value) (hp : w.heap.size ≤ p.block ∨ X p.block) : Kept X w (w1.setCell p u) :=
  ⟨h.os, h.tape, h.output, by have := h.size; simpa using this, fun k hk hX => (Below.heap_setCell w1 p u k (fun e => hp.elim (fun h => by omega) (fun h => hX (e ▸ h)))).trans (h.block k hk hX)⟩
theorem Kept.cell (h : Kept X w w1) {a : Addr} {v : Value} (hc : w.cell? a = some v) (hX : ¬ X a.block) : w1.cell? a = some v :=
  (World.cell?_of_block (h.block a.block (World.block_lt_of_cell? w a hc) hX)).trans hc
theorem Kept.bytes {b off : Nat} {l : By.Bs} (h : Kept X w w1) (hx : BytesAt w b off l) (hX : ¬ X b) : BytesAt w1 b off l := fun i x hi => h.cell (hx i x hi) hX
theorem Has.kept (h : Has lo H w) (hk : Kept X w w1) (hX : ∀ k, X k → k < lo) : Has lo H w1 := by
  intro b o hb
  obtain ⟨h1, h2⟩ := h b o hb
  exact ⟨h1, (hk.block b (Array.getElem?_eq_some_iff.1 h2).1 (fun hx => by have := hX b hx; omega)).trans h2⟩
theorem Has.below (h : Has lo H w) (hb : Below w.heap.size w w1) : Has lo H w1 := by
  intro b o hbo
  obtain ⟨h1, h2⟩ := h b o hbo
  exact ⟨h1, (hb.block b (Array.getElem?_eq_some_iff.1 h2).1).trans h2⟩
theorem Has.grown {row : Option Nat} (h : Has lo H w) (hg : w.grownBy w1 row) (hne : ∀ b o, H b o → row ≠ some b) : Has lo H w1 := by
  intro b o hb
  obtain ⟨h1, h2⟩ := h b o hb
  exact ⟨h1, (hg.block b (Array.getElem?_eq_some_iff.1 h2).1 (fun e => hne b o hb e.symm)).trans h2⟩
theorem Has.mono {lo' : Nat} (h : Has lo H w) (hl : lo' ≤ lo) : Has lo' H w := fun b o hb => ⟨Nat.le_trans hl (h b o hb).1, (h b o hb).2⟩
theorem Has.or (h : Has lo H w) (k : Has lo K w) : Has lo (fun b o => H b o ∨ K b o) w := fun b o hb => hb.elim (h b o) (k b o)
theorem Has.lt (h : Has lo H w) {b : Nat} {o : Obj} (hb : H b o) : b < w.heap.size := (Array.getElem?_eq_some_iff.1 (h b o hb).2).1
theorem Has.cell (h : Has lo H w) {b j : Nat} {cs : Array Value} {T : TypeId} {u : Value} (hb : H b (.cells cs T (0, 0))) (hu : cs[j]? = some u) : w.cell? ⟨b, j, none⟩ = some u := by
  have := (h _ _ hb).2
  simp [World.cell?, this, hu]
end

theorem cell_alloc {w : World} {a : Addr} {v : Value} (h : w.cell? a = some v) (o : Obj) : (w.alloc o).cell? a = some v := cell_later ((Below.refl w.heap.size w).alloc (Nat.le_refl _) o) h
theorem cell_alloc2 {w : World} {a : Addr} {v : Value} (h : w.cell? a = some v) (o o2 : Obj) : ((w.alloc o).alloc o2).cell? a = some v := cell_alloc (cell_alloc h o) o2

/-! ### Rows -/

/-- How a thing lies in cells. -/
structure Rep (α : Type) where
  size : Nat
  rel : Knows → List Value → α → Prop
  mono : ∀ {H K : Knows} {us : List Value} {a : α}, (∀ b o, H b o → K b o) → rel H us a → rel K us a
  len : ∀ {H : Knows} {us : List Value} {a : α}, rel H us a → us.length = size
  one : ∀ {H : Knows} {us : List Value} {a : α}, rel H us a → ∀ u ∈ us, u.oneCell' = true
/-- A slice whose elements are known; nil where z lets it. -/
def RowIs {α : Type} (z : Prop) (size : Nat) (rel : Knows → List Value → α → Prop) (E : TypeId) (H : Knows) (v : Value) (ls : List α) : Prop :=
  (z ∧ v = .slice none 0 0 ∧ ls = []) ∨
  ∃ (g cap : Nat) (cur : Array Value) (uss : List (List Value)), v = .slice (some ⟨g, 0, none⟩) ls.length cap ∧ ls.length ≤ cap ∧ H g (.cells cur E (0, 0)) ∧ cur.toList.take (ls.length * size) = uss.flatten ∧ uss.length = ls.length ∧ (∀ us ∈ uss, us.length = size) ∧
    ∀ (i : Nat) us a, uss[i]? = some us → ls[i]? = some a → rel H us a
theorem RowIs.mono {α : Type} {z : Prop} {size : Nat} {rel : Knows → List Value → α → Prop} {E : TypeId} {H K : Knows} {v : Value} {ls : List α} (hm : ∀ us a, rel H us a → rel K us a) (hk : ∀ b o, H b o → K b o) (h : RowIs z size rel E H v ls) : RowIs z size rel E K v ls := by
  rcases h with h | ⟨g, cap, cur, uss, h1, h2, h3, h4, h5, h6, h7⟩
  · exact .inl h
  · exact .inr ⟨g, cap, cur, uss, h1, h2, hk _ _ h3, h4, h5, h6, fun i us a hu ha => hm us a (h7 i us a hu ha)⟩
theorem flatten_get {size : Nat} : ∀ {uss : List (List Value)} (h : ∀ us ∈ uss, us.length = size) {i j : Nat} {us : List Value} {u : Value}, uss[i]? = some us → us[j]? = some u → uss.flatten[i * size + j]? = some u
  | [], _, i, j, us, u, h1, _ => by simp at h1
  | x :: r, h, 0, j, us, u, h1, h2 => by
    simp only [List.getElem?_cons_zero, Option.some.injEq] at h1
    subst h1
    rw [List.flatten_cons, List.getElem?_append_left (by have := (List.getElem?_eq_some_iff.1 h2).1; omega), Nat.zero_mul, Nat.zero_add]
    exact h2
  | x :: r, h, i + 1, j, us, u, h1, h2 => by
    simp only [List.getElem?_cons_succ] at h1
    have hx := h x (by simp)
    have e : (i + 1) * size + j = x.length + (i * size + j) := by rw [hx, Nat.add_mul]; omega
    rw [List.flatten_cons, e, List.getElem?_append_right (by omega), Nat.add_sub_cancel_left]
    exact flatten_get (fun us hu => h us (by simp [hu])) h1 h2
/-- An element of a row, read. -/
theorem RowIs.get {α : Type} {z : Prop} {size : Nat} {rel : Knows → List Value → α → Prop} {E : TypeId} {H : Knows} {v : Value} {ls : List α} {w : World} {lo : Nat} (h : RowIs z size rel E H v ls) (hw : Has lo H w) (hne : ls ≠ []) :
    ∃ g cap, v = .slice (some ⟨g, 0, none⟩) ls.length cap ∧ ls.length ≤ cap ∧ lo ≤ g ∧ g < w.heap.size ∧ ∀ (i : Nat) a, ls[i]? = some a → ∃ us, us.length = size ∧ rel H us a ∧ ∀ (j : Nat) u, us[j]? = some u → w.cell? ⟨g, i * size + j, none⟩ = some u := by
  rcases h with ⟨_, _, h⟩ | ⟨g, cap, cur, uss, rfl, hc, hg, ht, hl, hs, hr⟩
  · exact absurd h hne
  · refine ⟨g, cap, rfl, hc, (hw _ _ hg).1, hw.lt hg, fun i a ha => ?_⟩
    have hi := (List.getElem?_eq_some_iff.1 ha).1
    have hu : uss[i]? = some uss[i] := List.getElem?_eq_getElem (by omega)
    have hlen := hs _ (List.mem_of_getElem? hu)
    refine ⟨uss[i], hlen, hr i _ a hu ha, fun j u hj => ?_⟩
    have hjs : j < size := by have := (List.getElem?_eq_some_iff.1 hj).1; omega
    have hf := flatten_get hs hu hj
    rw [← ht, List.getElem?_take_of_lt (by have : (i + 1) * size ≤ ls.length * size := Nat.mul_le_mul_right _ hi; rw [Nat.add_mul] at this; omega)] at hf
    exact hw.cell hg (by simpa using hf)

/-- A row of the call's own, of a block from base on; its block is none of those that its elements lead to. -/
def Rowed {α : Type} (z : Prop) (r : Rep α) (base : Nat) (E : TypeId) (w : World) (v : Value) (ls : List α) : Prop :=
  ∃ (uss : List (List Value)) (H : Knows), w.ownsRow base E r.size v ls.length uss.flatten ∧ uss.length = ls.length ∧ (∀ (i : Nat) us a, uss[i]? = some us → ls[i]? = some a → r.rel H us a) ∧ Has base H w ∧ (∀ b o, H b o → v.ownBlock ≠ some b) ∧ (v.ownBlock = none → z)
section
variable {α : Type} {z : Prop} {r : Rep α} {base : Nat} {E : TypeId} {w w1 w2 : World} {v : Value} {ls : List α}
theorem Rowed.is (h : Rowed z r base E w v ls) : ∃ H, Has base H w ∧ RowIs z r.size r.rel E H v ls := by
  obtain ⟨uss, H, ho, hl, hr, hH, hne, hz⟩ := h
  have hs : ∀ us ∈ uss, us.length = r.size := by
    intro us hu
    obtain ⟨i, hi⟩ := List.mem_iff_getElem?.1 hu
    exact r.len (hr i us (ls[i]'(by have := (List.getElem?_eq_some_iff.1 hi).1; omega)) hi (List.getElem?_eq_getElem _))
  rcases ho.2 with ⟨rfl, hn⟩ | ⟨g, cap, cur, rfl, hb, hg, hn, hc, hcs, ht⟩
  · exact ⟨H, hH, .inl ⟨hz rfl, rfl, List.eq_nil_of_length_eq_zero hn⟩⟩
  · refine ⟨fun b o => H b o ∨ (b = g ∧ o = .cells cur E (0, 0)), hH.or (fun b o hbo => by obtain ⟨rfl, rfl⟩ := hbo; exact ⟨hb, hg⟩), .inr ⟨g, cap, cur, uss, rfl, hn, .inr ⟨rfl, rfl⟩, ht, hl, hs, fun i us a hu ha => r.mono (fun _ _ h => .inl h) (hr i us a hu ha)⟩⟩
theorem ownsRow_stay {size n : Nat} {xs : List Value} (h : w.ownsRow base E size v n xs) (hk : ∀ k, v.ownBlock = some k → w1.heap[k]? = w.heap[k]?) : w1.ownsRow base E size v n xs := by
  refine ⟨h.1, ?_⟩
  rcases h.2 with h2 | ⟨g, cap, cur, rfl, hb, hg, hr⟩
  · exact .inl h2
  · exact .inr ⟨g, cap, cur, rfl, hb, (hk g rfl).trans hg, hr⟩
theorem Rowed.kept {X : Nat → Prop} (h : Rowed z r base E w v ls) (hk : Kept X w w1) (hX : ∀ k, X k → k < base) : Rowed z r base E w1 v ls := by
  obtain ⟨uss, H, ho, hl, hr, hH, hne, hz⟩ := h
  refine ⟨uss, H, ownsRow_stay ho (fun k hb => ?_), hl, hr, hH.kept hk hX, hne, hz⟩
  have := ho.lt k hb
  exact hk.block k this.2 (fun hx => by have := hX k hx; omega)
theorem Rowed.below (h : Rowed z r base E w v ls) (hb : Below w.heap.size w w1) : Rowed z r base E w1 v ls := h.kept (Kept.of_below hb (fun _ => False)) fun _ h => h.elim
theorem Rowed.alloc (h : Rowed z r base E w v ls) (o : Obj) : Rowed z r base E (w.alloc o) v ls := h.below ((Below.refl _ _).alloc (Nat.le_refl _) o)
theorem Rowed.lt (h : Rowed z r base E w v ls) : ∀ k, v.ownBlock = some k → base ≤ k ∧ k < w.heap.size := by
  obtain ⟨uss, H, ho, _⟩ := h
  exact ho.lt
theorem Rowed.form (h : Rowed z r base E w v ls) : ∃ ao cap, v = .slice ao ls.length cap ∧ ls.length ≤ cap ∧ cap ≤ maxLen := by
  obtain ⟨uss, H, ho, _⟩ := h
  rcases ho.2 with ⟨rfl, hn⟩ | ⟨g, cap, cur, rfl, hb, hg, hn, hc, _⟩
  · exact ⟨_, _, by rw [hn], by omega, Nat.zero_le _⟩
  · exact ⟨_, _, rfl, hn, hc⟩
theorem Rowed.formN (h : Rowed False r base E w v ls) : ∃ g cap, v = .slice (some ⟨g, 0, none⟩) ls.length cap ∧ ls.length ≤ cap ∧ cap ≤ maxLen ∧ base ≤ g ∧ g < w.heap.size := by
  obtain ⟨uss, H, ho, _, _, _, _, hz⟩ := h
  have hlt := ho.lt
  rcases ho.2 with ⟨rfl, hn⟩ | ⟨g, cap, cur, rfl, hb, hg, hn, hc, _⟩
  · exact (hz rfl).elim
  · exact ⟨_, _, rfl, hn, hc, hlt g rfl⟩
theorem Rowed.made (r : Rep α) (w : World) (cur : Array Value) (cap : Nat) (hb : base ≤ w.heap.size) (hm : cap ≤ maxLen) (hs : cur.size = cap * r.size) (z : Prop) :
    Rowed z r base E (w.alloc (.cells cur E)) (.slice (some ⟨w.heap.size, 0, none⟩) 0 cap) [] :=
  ⟨[], fun _ _ => False, World.ownsRow_made w cur cap hb hm hs, rfl, fun i us a h => by simp at h, fun _ _ h => h.elim, fun _ _ h => h.elim, fun h => by simp [Value.ownBlock] at h⟩
theorem Rowed.nil (r : Rep α) (w : World) (E : TypeId) (base : Nat) : Rowed True r base E w (.slice none 0 0) [] :=
  ⟨[], fun _ _ => False, World.ownsRow_nil w base E r.size, rfl, fun i us a h => by simp at h, fun _ _ h => h.elim, fun _ _ h => h.elim, fun _ => trivial⟩
theorem Rowed.mono {base' : Nat} (h : Rowed z r base E w v ls) (hb : base' ≤ base) : Rowed z r base' E w v ls := by
  obtain ⟨uss, H, ho, hl, hr, hH, hne, hz⟩ := h
  refine ⟨uss, H, ⟨ho.1, ?_⟩, hl, hr, hH.mono hb, hne, hz⟩
  rcases ho.2 with h2 | ⟨g, cap, cur, rfl, hb', hg, hr⟩
  · exact .inl h2
  · exact .inr ⟨g, cap, cur, rfl, Nat.le_trans hb hb', hg, hr⟩
theorem Rowed.any (h : Rowed z r base E w v ls) : Rowed True r base E w v ls := by
  obtain ⟨uss, H, ho, hl, hr, hH, hne, hz⟩ := h
  exact ⟨uss, H, ho, hl, hr, hH, hne, fun _ => trivial⟩
/-- One more element. -/
theorem Rowed.snoc {v' : Value} {us : List Value} {a : α} {K : Knows} {lo : Nat} (h : Rowed z r base E w v ls) (hK : Has lo K w) (hlo : base ≤ lo) (hrow : ∀ k, v.ownBlock = some k → k < lo) (hu : r.rel K us a)
    (hown : ∀ uss : List (List Value), w.ownsRow base E r.size v ls.length uss.flatten → w1.ownsRow base E r.size v' (ls.length + 1) (uss.flatten ++ us)) (hg : w.grownBy w1 v.ownBlock)
    (hnew : ∀ k, v'.ownBlock = some k → v.ownBlock = some k ∨ w.heap.size ≤ k) (hnn : v'.ownBlock ≠ none) : Rowed z r base E w1 v' (ls ++ [a]) := by
  obtain ⟨uss, H, ho, hl, hr, hH, hne, hz⟩ := h
  have hneK : ∀ b o, K b o → v.ownBlock ≠ some b := fun b o hb e => by have := hrow b e; have := (hK b o hb).1; omega
  refine ⟨uss ++ [us], fun b o => H b o ∨ K b o, ?_, by simp [hl], ?_, (hH.grown hg hne).or ((hK.grown hg hneK).mono hlo), ?_, fun h => absurd h hnn⟩
  · have := hown uss ho
    simpa using this
  · intro i x b hx hb
    by_cases hi : i < uss.length
    · rw [List.getElem?_append_left hi] at hx
      rw [List.getElem?_append_left (by rw [← hl]; exact hi)] at hb
      exact r.mono (fun _ _ h => .inl h) (hr i x b hx hb)
    · have hl2 := (List.getElem?_eq_some_iff.1 hx).1
      simp at hl2
      obtain rfl : i = uss.length := by omega
      rw [List.getElem?_append_right (Nat.le_refl _), Nat.sub_self] at hx
      rw [hl, List.getElem?_append_right (Nat.le_refl _), Nat.sub_self] at hb
      simp at hx hb
      subst hx hb
      exact r.mono (fun _ _ h => .inr h) hu
  · intro b o hb e
    rcases hnew b e with h | h
    · exact hb.elim (fun hb => hne b o hb h) (fun hb => hneK b o hb h)
    · have hlt : b < w.heap.size := hb.elim (fun hb => hH.lt hb) (fun hb => hK.lt hb)
      omega
end

/-! ### One append -/

section
variable {P : Program} (w : World)
/-- Behind an append of something the row lies where it lay, or in a new block. -/
theorem append_block (base : Nat) (t ty e : TypeId) (i : TypeInfo) (z : Value) (size bytes : Nat) (ht : P.underlying t = some (.slice e)) (hi : P.info? e = some i) (hz : i.zero = some z)
    (hsize : i.size = size) (hby : i.bytes = bytes)
    (v : Value) (n : Nat) (xs : List Value) (hown : w.ownsRow base e size v n xs)
    (a : Addr) (c : Nat) (news : List Value) (hl : news.length = size) (hnews : ∀ j u, news[j]? = some u → w.cell? (a.add j) = some u) (h1 : ∀ u ∈ news, u.oneCell' = true)
    (h63 : n + 1 ≤ maxLen) (hbytes : (n + 1) * bytes ≤ 140737488355328) {v' : Value} {w' : World} (hr : (Builtin.append_ #[t, t] ty #[v, .slice (some a) 1 c]).run P w = .ok v' w') :
    (∀ k, v'.ownBlock = some k → v.ownBlock = some k ∨ w.heap.size ≤ k) ∧ v'.ownBlock ≠ none := by
  subst hsize
  subst hby
  have hsmall : n + 1 ≤ 9223372036854775807 := by simp only [maxLen] at h63; omega
  rcases hown.2 with ⟨rfl, rfl⟩ | ⟨g, cap, cur, rfl, hbg, hg, hnc, hcm, hcs, htake⟩
  · have h2 := run_append_nil (P := P) w t ty e i z ht hi hz a 1 c news (by simpa using hl) hnews (by omega) (by omega) (by have hb := hbytes; simp only [Nat.zero_add] at hb; omega)
    have h3 := h2.symm.trans hr
    simp only [Result.ok.injEq] at h3
    rw [← h3.1]
    exact ⟨fun k hk => by simp [Value.ownBlock] at hk; omega, by simp [Value.ownBlock]⟩
  · by_cases hroom : n + 1 ≤ cap
    · have h2 := run_append_room (P := P) w t ty e i ht hi g n cap cur hg a 1 c news (by simpa using hl) hnews h1 hroom (by rw [hl, hcs]; have : (n + 1) * i.size ≤ cap * i.size := Nat.mul_le_mul_right _ hroom; rw [Nat.add_mul] at this; omega)
      have h3 := h2.symm.trans hr
      simp only [Result.ok.injEq] at h3
      rw [← h3.1]
      exact ⟨fun k hk => .inl hk, by simp [Value.ownBlock]⟩
    · have holds : ∀ j u, xs[j]? = some u → w.cell? ((⟨g, 0, none⟩ : Addr).add j) = some u := hown.cells (g := g) rfl
      have h2 := run_append_grow (P := P) w t ty e i z ht hi hz ⟨g, 0, none⟩ n cap xs hown.1 holds a 1 c news (by simpa using hl) hnews (by omega) (by omega) (growslice_fits (by omega) hbytes)
      have h3 := h2.symm.trans hr
      simp only [Result.ok.injEq] at h3
      rw [← h3.1]
      exact ⟨fun k hk => by simp [Value.ownBlock] at hk; omega, by simp [Value.ownBlock]⟩

/-- append of one element that lies in a new block. -/
theorem run_append_rowed {α : Type} {zz : Prop} {r : Rep α} {base lo : Nat} (t ty E T : TypeId) (i : TypeInfo) (z : Value) (bytes : Nat) (ht : P.underlying t = some (.slice E)) (hi : P.info? E = some i) (hz : i.zero = some z)
    (hsize : i.size = r.size) (hby : i.bytes = bytes) (hzs : z.cells.size = r.size) (hsz : 0 < r.size) {v : Value} {ls : List α} (hrow : Rowed zz r base E w v ls) {us : List Value} {a' : α} {K : Knows} (hK : Has lo K w) (hu : r.rel K us a') (hlo : base ≤ lo) (hlt : ∀ k, v.ownBlock = some k → k < lo)
    (h63 : ls.length + 1 ≤ maxLen) (hbytes : (ls.length + 1) * bytes ≤ 140737488355328) (hbase : base ≤ w.heap.size) {cs : Array Value} (hcs : cs.toList = us) :
    ∃ v' w', (Builtin.append_ #[t, t] ty #[v, .slice (some ⟨w.heap.size, 0, none⟩) 1 1]).run P (w.alloc (.cells cs T)) = .ok v' w' ∧ Rowed zz r base E w' v' (ls ++ [a']) ∧ w.grownBy w' v.ownBlock := by
  subst hcs
  obtain ⟨uss, H, ho, hl, hr, hH, hne, hzz⟩ := hrow
  have hnews : ∀ j u, cs.toList[j]? = some u → (w.alloc (.cells cs T)).cell? ((⟨w.heap.size, 0, none⟩ : Addr).add j) = some u := by
    intro j u hj
    have h0 : Has 0 (fun b o => b = w.heap.size ∧ o = .cells cs T (0, 0)) (w.alloc (.cells cs T)) := fun b o h => by
      obtain ⟨rfl, rfl⟩ := h
      exact ⟨Nat.zero_le _, heap_alloc_new w _⟩
    rw [Array.getElem?_toList] at hj
    have := h0.cell (j := j) ⟨rfl, rfl⟩ hj
    have e : (⟨w.heap.size, 0, none⟩ : Addr).add j = ⟨w.heap.size, j, none⟩ := by
      unfold Addr.add
      split
      · simp_all
      · simp
    rw [e]
    exact this
  have ho1 := ho.alloc (.cells cs T)
  have hl1 : cs.toList.length = 1 * r.size := by rw [r.len hu, Nat.one_mul]
  obtain ⟨v', w', hrun, h2, h3, h4⟩ := run_append_own (P := P) (w.alloc (.cells cs T)) base t ty E i z r.size bytes ht hi hz hsize hby hzs hsz v ls.length uss.flatten ho1 ⟨w.heap.size, 0, none⟩ 1 1 cs.toList hl1 hnews (r.one hu) h63 hbytes (by simp; omega)
  obtain ⟨hb1, hb2⟩ := append_block (P := P) (w.alloc (.cells cs T)) base t ty E i z r.size bytes ht hi hz hsize hby v ls.length uss.flatten ho1 ⟨w.heap.size, 0, none⟩ 1 cs.toList (by rw [hl1, Nat.one_mul]) hnews (r.one hu) h63 hbytes hrun
  have hg : w.grownBy w' v.ownBlock := ⟨h3.os, h3.tape, h3.output, by have := h3.size; simp at this; omega, fun k hk hn => (h3.block k (by simp; omega) hn).trans (Below.heap_alloc w _ k hk)⟩
  refine ⟨v', w', hrun, ?_, hg⟩
  refine Rowed.snoc ⟨uss, H, ho, hl, hr, hH, hne, hzz⟩ hK hlo hlt hu (fun uss2 ho2 => ?_) hg (fun k hk => (hb1 k hk).imp id (fun h => by simp at h; omega)) hb2
  have e : uss2.flatten = uss.flatten := by
    rcases ho.2 with ⟨rfl, hn⟩ | ⟨g, cap, cur, rfl, hbg, hg2, hnc, hcm, hcs, htake⟩
    · rw [List.eq_nil_of_length_eq_zero (l := uss2.flatten) (by rw [ho2.1, hn, Nat.zero_mul]), List.eq_nil_of_length_eq_zero (l := uss.flatten) (by rw [ho.1, hn, Nat.zero_mul])]
    · rcases ho2.2 with ⟨h, _⟩ | ⟨g', cap', cur', hv, _, hg', _, _, _, htake'⟩
      · simp at h
      · simp only [Value.slice.injEq, Option.some.injEq, Addr.mk.injEq] at hv
        rw [← hv.1.1, hg2] at hg'
        simp only [Option.some.injEq, Obj.cells.injEq] at hg'
        rw [← htake', ← htake, hg'.1]
  rw [e]
  exact h2
end
theorem wpList_append_rowed {P : Program} {w : World} {ops : Array Oper} {rest : List Oper} {o : Oper} {a : Act} {Q : Exit → Act → World → Prop} (hgd : o.guard = none) (s x : Operand) (t : TypeId)
    (ho : o.op = .call { callee := .builtin .append, args := #[s, x], argTypes := #[t, t] })
    {α : Type} {zz : Prop} {r : Rep α} {base lo : Nat} (E T : TypeId) (i : TypeInfo) (z : Value) (bytes : Nat) (ht : P.underlying t = some (.slice E)) (hi : P.info? E = some i) (hz : i.zero = some z)
    (hsize : i.size = r.size) (hby : i.bytes = bytes) (hzs : z.cells.size = r.size) (hsz : 0 < r.size) (v : Value) (ls : List α) (hs : a.eval s = v) (hrow : Rowed zz r base E w v ls) (us : List Value) (a' : α) (K : Knows) (hK : Has lo K w) (hu : r.rel K us a') (hlo : base ≤ lo) (hlt : ∀ k, v.ownBlock = some k → k < lo)
    (cs : Array Value) (hcs : cs.toList = us) (nb : Nat) (hx : a.eval x = .slice (some ⟨nb, 0, none⟩) 1 1) (hnb : nb = w.heap.size)
    (h63 : ls.length + 1 ≤ maxLen) (hbytes : (ls.length + 1) * bytes ≤ 140737488355328) (hbase : base ≤ w.heap.size)
    (h : ∀ v' w', Rowed zz r base E w' v' (ls ++ [a']) → w.grownBy w' v.ownBlock → wpList P ops Q rest (a.put o.dst v') w') : wpList P ops Q (o :: rest) a (w.alloc (.cells cs T)) := by
  subst hnb
  obtain ⟨v', w', hr, h2, h3⟩ := run_append_rowed (P := P) w t o.type E T i z bytes ht hi hz hsize hby hzs hsz hrow hK hu hlo hlt h63 hbytes hbase hcs
  refine wpList_plain hgd fun _ hK => ?_
  unfold Oper.wp execOp
  simp only [ho, resolve, invoke, builtin, Sem.run_bind, Sem.run_pure, Result.andThen_ok, List.map_toArray, List.map_cons, List.map_nil, hs, hx, hr]
  exact hK _ _ (h v' w' h2 h3)
end Go.Proofs.YtjbjjphgnilhmaaGreatDoor
