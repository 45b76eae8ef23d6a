/- The walk of spec.Split. -/
import Derived.Test.YtpbhpplmokdkhaaDoorUt
import Derived.Test.YtpbhpplmokdkhaaDoorAp
import Derived.Test.YtpbhpplmokdkhaaDoorDist
import Derived.WideShapes
namespace Go.Proofs.YtpbhpplmokdkhaaDoor
open Go.RowKit Go.WideShapes Fl

theorem pc_cells {w : World} {b : Nat} (qs : List (Nat × Nat)) : ∀ (o : Nat), PtsAt w b o qs → ∀ j u, (pc qs)[j]? = some u → w.cell? ((⟨b, o, none⟩ : Addr).add j) = some u := by
  induction qs with
  | nil => intro o _ j u hj; simp [pc] at hj
  | cons q qs ih =>
    intro o h j u hj
    have e2 : pc (q :: qs) = .float .f64 q.1 :: .float .f64 q.2 :: pc qs := rfl
    rw [e2] at hj
    obtain ⟨h0, h1⟩ := h 0 q rfl
    simp only [Nat.zero_mul, Nat.add_zero] at h0 h1
    rw [add_plain]
    match j, hj with
    | 0, hj => simp at hj; subst hj; exact h0
    | 1, hj => simp at hj; subst hj; exact h1
    | j + 2, hj =>
      have hq : PtsAt w b (o + 2) qs := by
        intro i p hp
        have := h (i + 1) p hp
        rw [show o + (i + 1) * 2 = o + 2 + i * 2 by omega] at this
        exact this
      have := ih (o + 2) hq j u (by simpa using hj)
      rw [add_plain] at this
      rw [show o + (j + 2) = o + 2 + j by omega]
      exact this
theorem pc_cell1 (qs : List (Nat × Nat)) : ∀ u ∈ pc qs, u.oneCell' = true := by
  intro u hu
  simp only [pc, List.mem_flatMap] at hu
  obtain ⟨q, _, hu⟩ := hu
  simp at hu
  rcases hu with rfl | rfl <;> rfl
theorem pts_sub {w : World} {b off : Nat} {ps : List (Nat × Nat)} (h : PtsAt w b off ps) (i m : Nat) : PtsAt w b (off + i * 2) ((ps.drop i).take m) := by
  intro j p hp
  have hp' : ps[i + j]? = some p := by
    rw [List.getElem?_take] at hp
    split at hp
    · rwa [List.getElem?_drop] at hp
    · cases hp
  have := h (i + j) p hp'
  rw [show off + (i + j) * 2 = off + i * 2 + j * 2 by omega] at this
  exact this
theorem pts_below {w w' : World} {b off : Nat} {ps : List (Nat × Nat)} (h : PtsAt w b off ps) (hb : Below w.heap.size w w') : PtsAt w' b off ps := fun i p hp => ⟨cell_later hb (h i p hp).1, cell_later hb (h i p hp).2⟩
theorem sub_length {ps : List (Nat × Nat)} {i m n : Nat} (hn : ps.length = n) (h : i + m ≤ n) : (pc ((ps.drop i).take m)).length = m * 2 := by rw [pc_length]; simp; omega
theorem made_own (w : World) (T : TypeId) : (w.alloc (.cells #[] T)).ownsRow w.heap.size T 2 (.slice (some ⟨w.heap.size, 0, none⟩) 0 0) 0 [] := World.ownsRow_made w #[] 0 (Nat.le_refl _) (Nat.zero_le _) rfl

theorem own_ne {w1 w w' : World} {b1 e1 s1 n1 e2 s2 n2 : Nat} {v1 v2 : Value} {xs ys : List Value} (h1 : w1.ownsRow b1 e1 s1 v1 n1 xs) (h2 : w'.ownsRow w.heap.size e2 s2 v2 n2 ys) (hle : w1.heap.size ≤ w.heap.size) : v1.ownBlock = none ∨ v1.ownBlock ≠ v2.ownBlock := by
  cases h : v1.ownBlock with
  | none => exact .inl rfl
  | some k =>
    right
    intro he
    have a := h1.lt k h
    have b := h2.lt k he.symm
    omega
theorem kept_below {w w' : World} {b e s n : Nat} {v : Value} {xs : List Value} (h : w.ownsRow b e s v n xs) (hb : Below w.heap.size w w') : w'.ownsRow b e s v n xs :=
  h.kept (gb_below (gb_refl w none) hb) (Classical.em _)

/-- Both rings into which Split cuts one. -/
def oneL (ps : List (Nat × Nat)) (i k : Nat) : List (Nat × Nat) := (ps.drop i).take (k + 1 - i) ++ [ps.getD i (0, 0)]
def twoL (ps : List (Nat × Nat)) (i k : Nat) : List (Nat × Nat) := (if i = 0 then (ps.drop k).take (ps.length - k) else (ps.drop k).take (ps.length - k) ++ ps.tail.take i) ++ [ps.getD k (0, 0)]
theorem keep4g {w w' : World} {b o1 o2 o3 o4 : Nat} {r : Option Nat} {va vb vc vd : Value} (h : w.grownBy w' r) (hr : some b ≠ r) (hc : w.cell? ⟨b, o1, none⟩ = some va ∧ w.cell? ⟨b, o2, none⟩ = some vb ∧ w.cell? ⟨b, o3, none⟩ = some vc ∧ w.cell? ⟨b, o4, none⟩ = some vd) :
    w'.cell? ⟨b, o1, none⟩ = some va ∧ w'.cell? ⟨b, o2, none⟩ = some vb ∧ w'.cell? ⟨b, o3, none⟩ = some vc ∧ w'.cell? ⟨b, o4, none⟩ = some vd :=
  ⟨h.cell hc.1 hr, h.cell hc.2.1 hr, h.cell hc.2.2.1 hr, h.cell hc.2.2.2 hr⟩
theorem own_far {w1 w : World} {e s n : Nat} {v : Value} {xs : List Value} {g : Nat} (h : w.ownsRow w1.heap.size e s v n xs) (hg : g < w1.heap.size) : some g ≠ v.ownBlock := by
  intro he
  have := (h.lt g he.symm).1
  omega
theorem two_cells {W : World} {B : Nat} {x y : Nat} {T : TypeId} (h : W.heap[B]? = some (.cells #[.float .f64 x, .float .f64 y] T (0, 0))) : ∀ j u, ([.float .f64 x, .float .f64 y] : List Value)[j]? = some u → W.cell? ((⟨B, 0, none⟩ : Addr).add j) = some u := by
  intro j u hj
  rw [add_plain, Nat.zero_add]
  match j, hj with
  | 0, hj => simp at hj; subst hj; exact (blk_cell h (i := 0) rfl).1
  | 1, hj => simp at hj; subst hj; exact (blk_cell h (i := 1) rfl).1

theorem own_base {w : World} {b c e s n : Nat} {v : Value} {xs : List Value} (h : w.ownsRow c e s v n xs) (hbc : b ≤ c) : w.ownsRow b e s v n xs := by
  refine ⟨h.1, ?_⟩
  rcases h.2 with h | ⟨g, cap, cur, h1, h2, h3⟩
  · exact .inl h
  · exact .inr ⟨g, cap, cur, h1, Nat.le_trans hbc h2, h3⟩
theorem split_end {w w1 w3 X5 w5 X6 w6 : World} {e s n1 n3 n5 n6 : Nat} {v1 v3 v5 v6 : Value} {xs1 xs3 xs5 xs6 : List Value} (hs1 : w.heap.size ≤ w1.heap.size) (ho1 : w1.ownsRow w.heap.size e s v1 n1 xs1) (ho3 : w3.ownsRow w1.heap.size e s v3 n3 xs3)
    (hA : Below w.heap.size w X5) (hX5 : w3.heap.size ≤ X5.heap.size) (ho5 : w5.ownsRow w.heap.size e s v5 n5 xs5) (hg5 : X5.grownBy w5 v1.ownBlock) (hn5 : v5.ownBlock = v1.ownBlock ∨ ∀ k, v5.ownBlock = some k → X5.heap.size ≤ k)
    (hX6 : Below w5.heap.size w5 X6) (ho6 : w6.ownsRow w1.heap.size e s v6 n6 xs6) (hg6 : X6.grownBy w6 v3.ownBlock) :
    w6.ownsRow w.heap.size e s v5 n5 xs5 ∧ w6.ownsRow w.heap.size e s v6 n6 xs6 ∧ Below w.heap.size w w6 := by
  have L5 := hA.grown hg5 hA.size (fun k hk => (ho1.lt k hk).1)
  have L6 := L5.trans (hX6.mono L5.size)
  refine ⟨(kept_below ho5 hX6).kept hg6 ?_, own_base ho6 hs1, L6.grown hg6 L6.size (fun k hk => Nat.le_trans hs1 (ho3.lt k hk).1)⟩
  cases h5 : v5.ownBlock with
  | none => exact .inl rfl
  | some g =>
    right
    intro he
    have h3 := ho3.lt g he.symm
    rcases hn5 with h | h
    · have := ho1.lt g (by rw [← h, h5])
      omega
    · have := h g h5
      omega

set_option maxRecDepth 100000 in
set_option maxHeartbeats 4000000 in
theorem split_any (n cap b off i k : Nat) (ps : List (Nat × Nat)) (w : World) (hn : ps.length = n) (hn100 : n ≤ 100) (hcap : n ≤ cap) (hps : PtsAt w b off ps) (hik : i < k) (hk : k + 1 < n) :
    Calls Tryd.prog 13 #[.slice (some ⟨b, off, none⟩) n cap, .int .i64 i, .int .i64 k] w
      fun e w' => ∃ v5 v6, e = .returned (.tuple #[v5, v6]) ∧ w'.ownsRow w.heap.size 31 2 v5 (k + 1 - i + 1) (pc (oneL ps i k)) ∧ w'.ownsRow w.heap.size 31 2 v6 (twoL ps i k).length (pc (twoL ps i k)) ∧ Below w.heap.size w w' := by
  obtain ⟨i0, hi, hz0, hz1, hz2⟩ := info_parts info_ipoint
  have HPS := Lib.hid hps
  have HN := Lib.hid hn
  have hik' : (i : Int) < k := by omega
  have hk' : (k : Int) + 1 < n := by omega
  have hkn : (k : Int) < n := by omega
  have hin : (i : Int) < n := by omega
  have hnn : (n : Int) ≤ 100 := by omega
  have hcap' : (n : Int) ≤ cap := by omega
  have hc1 : ¬ cap = i := by omega
  have hc2 : ¬ cap = k := by omega
  have hc3 : ¬ cap = 1 := by omega
  clear hps hn
  go_enter Tryd.func13, Tryd.ntmps13
  go_wp2_with (at_builtin; refine wpList_append_own _ rfl _ _ 22 rfl w.heap.size 31 i0 (.agg #[.float .f64 0, .float .f64 0]) 2 16 Tryd.underlying22 hi hz0 hz1 hz2 rfl (by decide) _ _ _ rfl (made_own w 31) ⟨b, off + i * 2, none⟩ (k + 1 - i) (cap - i) (pc ((ps.drop i).take (k + 1 - i))) rfl (sub_length HN.out (by omega)) (pc_cells _ _ (pts_sub (pts_below HPS.out ((Below.refl _ _).alloc (Nat.le_refl _) _)) i _)) (pc_cell1 _) ?c3 ?c4 ?c5 ?c6)
  case c3 => unfold maxLen; omega
  case c4 => omega
  case c5 => simp
  intro v1 w1 hown1 hgrow1 _
  have L1 : Below w.heap.size w w1 := ((Below.refl _ _).alloc (Nat.le_refl _) _).grown hgrow1 (by simp) (fun k hk => by simp [Value.ownBlock] at hk; omega)
  have HL1 := Lib.hid L1
  have HO1 := Lib.hid hown1
  clear L1 hown1 hgrow1
  go_wp2_with (at_builtin; refine wpList_append_own _ rfl _ _ 22 rfl w1.heap.size 31 i0 (.agg #[.float .f64 0, .float .f64 0]) 2 16 Tryd.underlying22 hi hz0 hz1 hz2 rfl (by decide) _ _ _ rfl (made_own w1 31) ⟨b, off + k * 2, none⟩ (n - k) (cap - k) (pc ((ps.drop k).take (n - k))) rfl (sub_length HN.out (by omega)) (pc_cells _ _ (pts_sub (pts_below HPS.out (HL1.out.alloc HL1.out.size _)) k _)) (pc_cell1 _) ?d3 ?d4 ?d5 ?d6)
  case d3 => unfold maxLen; omega
  case d4 => omega
  case d5 => simp
  intro v2 w2 hown2 hgrow2 _
  have L2 : Below w1.heap.size w1 w2 := ((Below.refl _ _).alloc (Nat.le_refl _) _).grown hgrow2 (by simp) (fun k hk => by simp [Value.ownBlock] at hk; omega)
  have HL2 := Lib.hid (HL1.out.trans (L2.mono HL1.out.size))
  have HLL2 := Lib.hid L2
  have HO2 := Lib.hid hown2
  have HO12 := Lib.hid (kept_below HO1.out L2)
  clear L2 hown2 hgrow2
  have hwi : IntKind.i64.wrap ((i : Int) + 1) = (i : Int) + 1 := IntWalk.i64_in _ (by omega)
  have hi0 : (0 : Int) ≤ (i : Int) + 1 := by omega
  have hi1 : (1 : Int) ≤ (i : Int) + 1 := by omega
  have hit : ((i : Int) + 1).toNat = i + 1 := by omega
  have hin1 : (i : Int) + 1 ≤ n := by omega
  have hin2 : (i : Int) + 1 ≤ cap := by omega
  have hs1 : i + 1 - 1 = i := by omega
  go_wp2_with (at_builtin; refine wpList_append_own _ rfl _ _ 22 rfl w1.heap.size 31 i0 (.agg #[.float .f64 0, .float .f64 0]) 2 16 Tryd.underlying22 hi hz0 hz1 hz2 rfl (by decide) _ _ _ rfl HO2.out ⟨b, off + 2, none⟩ i (cap - 1) (pc ((ps.drop 1).take i)) rfl (sub_length HN.out (by omega)) (pc_cells _ _ (pts_sub (pts_below HPS.out HL2.out) 1 _)) (pc_cell1 _) ?e3 ?e4 ?e5 ?e6)
  case e3 => unfold maxLen; omega
  case e4 => omega
  case e5 => have := HLL2.out.size; omega
  intro v3 w3 hown3 hgrow3 _
  rw [← pc_append] at hown3
  have L3 : Below w1.heap.size w2 w3 := (Below.refl _ _).grown hgrow3 HLL2.out.size (fun k hk => (HO2.out.lt k hk).1)
  have HL3 := Lib.hid (HL2.out.trans (L3.mono HL1.out.size))
  have HO13 := Lib.hid (HO12.out.kept hgrow3 (own_ne HO1.out HO2.out (Nat.le_refl _)))
  have HO3 := Lib.hid hown3
  have HLL3 := Lib.hid (HLL2.out.trans L3)
  clear L3 hown3 hgrow3
  by_cases hiz : i = 0
  · have hzb : ((i : Int) == 0) = true := by simp; omega
    have HZ := Lib.hid hiz
    clear hiz
    go_wp2_with (at_builtin; refine wpList_append_own _ rfl _ _ 22 rfl w3.heap.size 31 i0 (.agg #[.float .f64 0, .float .f64 0]) 2 16 Tryd.underlying22 hi hz0 hz1 hz2 rfl (by decide) _ _ _ rfl (made_own w3 31) ⟨b, off + k * 2, none⟩ (n - k) (cap - k) (pc ((ps.drop k).take (n - k))) rfl (sub_length HN.out (by omega)) (pc_cells _ _ (pts_sub (pts_below HPS.out (HL3.out.alloc HL3.out.size _)) k _)) (pc_cell1 _) ?f3 ?f4 ?f5 ?f6)
    case f3 => unfold maxLen; omega
    case f4 => omega
    case f5 => simp
    intro v4 w4 hown4 hgrow4 _
    have L4 : Below w3.heap.size w3 w4 := ((Below.refl _ _).alloc (Nat.le_refl _) _).grown hgrow4 (by simp) (fun k hk => by simp [Value.ownBlock] at hk; omega)
    have HL4 := Lib.hid (HL3.out.trans (L4.mono HL3.out.size))
    have HLL4 := Lib.hid L4
    have HO4 := Lib.hid hown4
    have HO14 := Lib.hid (kept_below HO13.out L4)
    clear L4 hown4 hgrow4
    have HOA : Hid (w4.drew.ownsRow w.heap.size 31 2 v1 (k + 1 - i) (pc ((ps.drop i).take (k + 1 - i)))) := Lib.hid HO14.out
    have HOB : Hid (w4.drew.ownsRow w3.heap.size 31 2 v4 (n - k) (pc ((ps.drop k).take (n - k)))) := Lib.hid HO4.out
    have HLA := HL4
    have hil : i < ps.length := by have := HN.out; omega
    have hkl : k < ps.length := by have := HN.out; omega
    obtain ⟨x0, x1⟩ := HPS.out i _ (List.getElem?_eq_getElem hil)
    obtain ⟨y0, y1⟩ := HPS.out k _ (List.getElem?_eq_getElem hkl)
    obtain ⟨⟨a0, a1⟩, hpe⟩ : ∃ p, p = ps[i] := ⟨_, rfl⟩
    obtain ⟨⟨c0, c1⟩, hpe1⟩ : ∃ p, p = ps[k] := ⟨_, rfl⟩
    have HE1 : Hid (pc ((ps.drop i).take (k + 1 - i)) ++ [.float .f64 a0, .float .f64 a1] = pc (oneL ps i k)) := Lib.hid (by
      unfold oneL
      rw [pc_append, List.getD_eq_getElem?_getD, List.getElem?_eq_getElem hil, Option.getD_some, ← hpe]; rfl)
    have HE2 : Hid (pc ((ps.drop k).take (n - k)) ++ [.float .f64 c0, .float .f64 c1] = pc (twoL ps i k)) := Lib.hid (by
      unfold twoL
      rw [if_pos HZ.out, HN.out, pc_append _ [_], List.getD_eq_getElem?_getD, List.getElem?_eq_getElem hkl, Option.getD_some, ← hpe1]; rfl)
    have HE3 : Hid ((twoL ps i k).length = n - k + 1) := Lib.hid (by
      unfold twoL
      rw [if_pos HZ.out, HN.out]; simp; have := HN.out; omega)
    rw [← hpe] at x0 x1
    rw [← hpe1] at y0 y1
    have hbw : b < w.heap.size := World.block_lt_of_cell? w ⟨b, _, none⟩ x0
    have x0' := cell_later HLA.out x0
    have x1' := cell_later HLA.out x1
    have y0' := cell_later HLA.out y0
    have y1' := cell_later HLA.out y1
    have hbA := own_far HOA.out hbw
    have hbB := own_far HOB.out (Nat.lt_of_lt_of_le hbw HL3.out.size)
    have hfr : ∀ g, w4.heap.size ≤ g → some g ≠ v1.ownBlock := fun g hg he => by have := (HO14.out.lt g he.symm).2; omega
    have hneBA : v4.ownBlock = none ∨ v4.ownBlock ≠ v1.ownBlock := by
      cases h : v4.ownBlock with
      | none => exact .inl rfl
      | some g =>
        right
        intro he
        have h1 := (HO4.out.lt g h).1
        have h2 := (HO13.out.lt g he.symm).2
        omega
    go_wp2_with fail
    go_region_held3 (fun w' => w'.cell? ⟨b, off + i * 2, none⟩ = some (.float .f64 a0) ∧ w'.cell? ⟨b, off + i * 2 + 1, none⟩ = some (.float .f64 a1) ∧ w'.cell? ⟨b, off + k * 2, none⟩ = some (.float .f64 c0) ∧ w'.cell? ⟨b, off + k * 2 + 1, none⟩ = some (.float .f64 c1))
      (first | exact ⟨x0', x1', y0', y1'⟩ | exact keep4g hgrow5 hbA (by assumption) | exact keep4g hgrow6 hbB (by assumption) | go_keep)
      ((first | (refine step_append_new rfl (.tmp 35) (.tmp 40) 22 rfl w.heap.size 31 i0 (.agg #[.float .f64 0, .float .f64 0]) 2 16 Tryd.underlying22 hi hz0 hz1 hz2 rfl (by decide) v1 (k + 1 - i) (pc ((ps.drop i).take (k + 1 - i))) rfl (by first | exact HOA.out.alloc _ | exact (HOA.out.alloc _).alloc _) ⟨_, 0, none⟩ 1 1 [.float .f64 a0, .float .f64 a1] rfl rfl (two_cells (by first | exact heap_alloc_new _ _ | exact heap_alloc2_old _ _ _ | exact heap_alloc2_new _ _ _)) (pc_cell1 [(a0, a1)]) (by unfold maxLen; omega) (by omega) (by have := HLA.out.size; simp; omega) ?_; intro v5 w5 hown5 hgrow5 hnew5) | (refine step_append_new rfl (.tmp 42) (.tmp 47) 22 rfl w3.heap.size 31 i0 (.agg #[.float .f64 0, .float .f64 0]) 2 16 Tryd.underlying22 hi hz0 hz1 hz2 rfl (by decide) v4 (n - k) (pc ((ps.drop k).take (n - k))) rfl (by first | exact ((HOB.out.alloc _).kept hgrow5 hneBA).alloc _ | exact ((HOB.out.alloc _).alloc _).kept hgrow5 hneBA) ⟨_, 0, none⟩ 1 1 [.float .f64 c0, .float .f64 c1] rfl rfl (two_cells (by first | exact heap_alloc_new _ _ | exact (hgrow5.block _ (by simp <;> omega) (hfr _ (by simp <;> omega))).trans (heap_alloc2_new _ _ _) | exact (hgrow5.block _ (by simp <;> omega) (hfr _ (by simp <;> omega))).trans (heap_alloc2_old _ _ _))) (pc_cell1 [(c0, c1)]) (by unfold maxLen; omega) (by omega) (by have := HLA.out.size; have := HLL4.out.size; have := hgrow5.size; simp at *; omega) ?_; intro v6 w6 hown6 hgrow6 hnew6)))
    all_goals clear x0' x1' y0' y1'
    all_goals go_wp2
    all_goals go_ret2
    all_goals have hfin := (by
      first
      | exact split_end HL3.out.size HO13.out HO4.out (HLA.out.alloc HLA.out.size _).drew (by simp) hown5 hgrow5 hnew5 ((Below.refl w5.heap.size w5).alloc (Nat.le_refl _) _) hown6 hgrow6
      | exact split_end HL3.out.size HO13.out HO4.out ((HLA.out.alloc HLA.out.size _).alloc (by have := HLA.out.size; simp; omega) _).drew (by simp; omega) hown5 hgrow5 hnew5 (Below.refl w5.heap.size w5) hown6 hgrow6 : w6.ownsRow w.heap.size 31 2 v5 (k + 1 - i + 1) (pc ((ps.drop i).take (k + 1 - i)) ++ [.float .f64 a0, .float .f64 a1]) ∧ w6.ownsRow w.heap.size 31 2 v6 (n - k + 1) (pc ((ps.drop k).take (n - k)) ++ [.float .f64 c0, .float .f64 c1]) ∧ Below w.heap.size w w6)
    all_goals rw [HE1.out, HE2.out] at hfin
    all_goals rw [← HE3.out] at hfin
    all_goals exact ⟨_, _, rfl, hfin.1, hfin.2.1, hfin.2.2⟩
  · have hzb : ((i : Int) == 0) = false := by simp; omega
    have HOA : Hid (w3.drew.ownsRow w.heap.size 31 2 v1 (k + 1 - i) (pc ((ps.drop i).take (k + 1 - i)))) := Lib.hid HO13.out
    have HOB : Hid (w3.drew.ownsRow w1.heap.size 31 2 v3 (n - k + i) (pc ((ps.drop k).take (n - k) ++ ps.tail.take i))) := Lib.hid HO3.out
    have HLA := HL3
    have hil : i < ps.length := by have := HN.out; omega
    have hkl : k < ps.length := by have := HN.out; omega
    obtain ⟨x0, x1⟩ := HPS.out i _ (List.getElem?_eq_getElem hil)
    obtain ⟨y0, y1⟩ := HPS.out k _ (List.getElem?_eq_getElem hkl)
    obtain ⟨⟨a0, a1⟩, hpe⟩ : ∃ p, p = ps[i] := ⟨_, rfl⟩
    obtain ⟨⟨c0, c1⟩, hpe1⟩ : ∃ p, p = ps[k] := ⟨_, rfl⟩
    have HE1 : Hid (pc ((ps.drop i).take (k + 1 - i)) ++ [.float .f64 a0, .float .f64 a1] = pc (oneL ps i k)) := Lib.hid (by
      unfold oneL
      rw [pc_append, List.getD_eq_getElem?_getD, List.getElem?_eq_getElem hil, Option.getD_some, ← hpe]; rfl)
    have HE2 : Hid (pc ((ps.drop k).take (n - k) ++ ps.tail.take i) ++ [.float .f64 c0, .float .f64 c1] = pc (twoL ps i k)) := Lib.hid (by
      unfold twoL
      rw [if_neg hiz, HN.out, pc_append _ [_], List.getD_eq_getElem?_getD, List.getElem?_eq_getElem hkl, Option.getD_some, ← hpe1]; rfl)
    have HE3 : Hid ((twoL ps i k).length = n - k + i + 1) := Lib.hid (by
      unfold twoL
      rw [if_neg hiz, HN.out]; simp; have := HN.out; omega)
    rw [← hpe] at x0 x1
    rw [← hpe1] at y0 y1
    have hbw : b < w.heap.size := World.block_lt_of_cell? w ⟨b, _, none⟩ x0
    have x0' := cell_later HLA.out x0
    have x1' := cell_later HLA.out x1
    have y0' := cell_later HLA.out y0
    have y1' := cell_later HLA.out y1
    have hbA := own_far HOA.out hbw
    have hbB := own_far HOB.out (Nat.lt_of_lt_of_le hbw HL1.out.size)
    have hfr : ∀ g, w3.heap.size ≤ g → some g ≠ v1.ownBlock := fun g hg he => by have := (HO13.out.lt g he.symm).2; omega
    have hneBA : v3.ownBlock = none ∨ v3.ownBlock ≠ v1.ownBlock := by
      cases h : v3.ownBlock with
      | none => exact .inl rfl
      | some g =>
        right
        intro he
        have h1 := (HO3.out.lt g h).1
        have h2 := (HO1.out.lt g he.symm).2
        omega
    go_wp2_with fail
    go_region_held3 (fun w' => w'.cell? ⟨b, off + i * 2, none⟩ = some (.float .f64 a0) ∧ w'.cell? ⟨b, off + i * 2 + 1, none⟩ = some (.float .f64 a1) ∧ w'.cell? ⟨b, off + k * 2, none⟩ = some (.float .f64 c0) ∧ w'.cell? ⟨b, off + k * 2 + 1, none⟩ = some (.float .f64 c1))
      (first | exact ⟨x0', x1', y0', y1'⟩ | exact keep4g hgrow5 hbA (by assumption) | exact keep4g hgrow6 hbB (by assumption) | go_keep)
      ((first | (refine step_append_new rfl (.tmp 35) (.tmp 40) 22 rfl w.heap.size 31 i0 (.agg #[.float .f64 0, .float .f64 0]) 2 16 Tryd.underlying22 hi hz0 hz1 hz2 rfl (by decide) v1 (k + 1 - i) (pc ((ps.drop i).take (k + 1 - i))) rfl (by first | exact HOA.out.alloc _ | exact (HOA.out.alloc _).alloc _) ⟨_, 0, none⟩ 1 1 [.float .f64 a0, .float .f64 a1] rfl rfl (two_cells (by first | exact heap_alloc_new _ _ | exact heap_alloc2_old _ _ _ | exact heap_alloc2_new _ _ _)) (pc_cell1 [(a0, a1)]) (by unfold maxLen; omega) (by omega) (by have := HLA.out.size; simp; omega) ?_; intro v5 w5 hown5 hgrow5 hnew5) | (refine step_append_new rfl (.tmp 42) (.tmp 47) 22 rfl w1.heap.size 31 i0 (.agg #[.float .f64 0, .float .f64 0]) 2 16 Tryd.underlying22 hi hz0 hz1 hz2 rfl (by decide) v3 (n - k + i) (pc ((ps.drop k).take (n - k) ++ ps.tail.take i)) rfl (by first | exact ((HOB.out.alloc _).kept hgrow5 hneBA).alloc _ | exact ((HOB.out.alloc _).alloc _).kept hgrow5 hneBA) ⟨_, 0, none⟩ 1 1 [.float .f64 c0, .float .f64 c1] rfl rfl (two_cells (by first | exact heap_alloc_new _ _ | exact (hgrow5.block _ (by simp <;> omega) (hfr _ (by simp <;> omega))).trans (heap_alloc2_new _ _ _) | exact (hgrow5.block _ (by simp <;> omega) (hfr _ (by simp <;> omega))).trans (heap_alloc2_old _ _ _))) (pc_cell1 [(c0, c1)]) (by unfold maxLen; omega) (by omega) (by have := HLA.out.size; have := HLL3.out.size; have := hgrow5.size; simp at *; omega) ?_; intro v6 w6 hown6 hgrow6 hnew6)))
    all_goals clear x0' x1' y0' y1'
    all_goals go_wp2
    all_goals go_ret2
    all_goals have hfin := (by
      first
      | exact split_end HL1.out.size HO1.out HO3.out (HLA.out.alloc HLA.out.size _).drew (by simp) hown5 hgrow5 hnew5 ((Below.refl w5.heap.size w5).alloc (Nat.le_refl _) _) hown6 hgrow6
      | exact split_end HL1.out.size HO1.out HO3.out ((HLA.out.alloc HLA.out.size _).alloc (by have := HLA.out.size; simp; omega) _).drew (by simp; omega) hown5 hgrow5 hnew5 (Below.refl w5.heap.size w5) hown6 hgrow6 : w6.ownsRow w.heap.size 31 2 v5 (k + 1 - i + 1) (pc ((ps.drop i).take (k + 1 - i)) ++ [.float .f64 a0, .float .f64 a1]) ∧ w6.ownsRow w.heap.size 31 2 v6 (n - k + i + 1) (pc ((ps.drop k).take (n - k) ++ ps.tail.take i) ++ [.float .f64 c0, .float .f64 c1]) ∧ Below w.heap.size w w6)
    all_goals rw [HE1.out, HE2.out] at hfin
    all_goals rw [← HE3.out] at hfin
    all_goals exact ⟨_, _, rfl, hfin.1, hfin.2.1, hfin.2.2⟩
end Go.Proofs.YtpbhpplmokdkhaaDoor
