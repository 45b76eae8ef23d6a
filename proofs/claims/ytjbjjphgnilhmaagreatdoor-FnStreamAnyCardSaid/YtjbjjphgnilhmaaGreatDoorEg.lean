/- The walks of spec's (*reader).part: a line, a point, a shape of its own. -/
import Derived.Test.YtjbjjphgnilhmaaGreatDoorEe
import Derived.RegionTactic
set_option linter.unusedVariables false
set_option linter.unusedSimpArgs false
namespace Go.Proofs.YtjbjjphgnilhmaaGreatDoor
open Go.RowKit

/-! ### What shapes of a kind look like -/

theorem pShape_one {d : Nat} {l r : By.Bs} {p : Sh} (h : pShape d 1 l = .fine p r) : ∃ q, p = .mk 1 [[q]] [] := by
  cases d with
  | zero => cases h
  | succ d =>
    simp only [pShape] at h
    cases e : pHead 1 l with
    | wrong => rw [e] at h; cases h
    | unsaid => rw [e] at h; cases h
    | fine x r1 =>
      obtain ⟨le, k⟩ := x
      obtain ⟨_, _, _, hk⟩ := pHead_fine e
      obtain rfl := hk (by omega)
      rw [e] at h
      simp only [pBody, if_true] at h
      cases e2 : By.rPoint le r1 with
      | none => rw [e2] at h; cases h
      | some y => rw [e2] at h; cases h; exact ⟨y.1, rfl⟩
theorem pShape_two {d : Nat} {l r : By.Bs} {p : Sh} (h : pShape d 2 l = .fine p r) : ∃ ls, p = .mk 2 [ls] [] := by
  cases d with
  | zero => cases h
  | succ d =>
    simp only [pShape] at h
    cases e : pHead 2 l with
    | wrong => rw [e] at h; cases h
    | unsaid => rw [e] at h; cases h
    | fine x r1 =>
      obtain ⟨le, k⟩ := x
      obtain ⟨_, _, _, hk⟩ := pHead_fine e
      obtain rfl := hk (by omega)
      rw [e] at h
      simp only [pBody, if_neg (show ¬ 2 = 1 by omega)] at h
      cases e1 : By.rU32 le r1 with
      | none => rw [e1] at h; cases h
      | some z =>
        rw [e1] at h
        simp only [if_true] at h
        cases e2 : By.times (By.rPoint le) z.1 z.2 with
        | none => rw [e2] at h; cases h
        | some y => rw [e2] at h; cases h; exact ⟨y.1, rfl⟩

theorem u192 : Tryz.prog.underlying 192 = some (.array 8 3) := by kernel_rfl
theorem size3 : (Tryz.prog.info? 3).map (·.size) = some 1 := by kernel_rfl
theorem index_only (k : Nat) (hk : k < 8) (w : World) : (Instr.index 192 (.agg #[.int .i64 0, .int .i64 0, .int .i64 0, .int .i64 0, .int .i64 1, .int .i64 2, .int .i64 3, .int .i64 0]) (.int .i64 k)).run Tryz.prog w = .ok (.int .i64 (onlyOf k)) w := by
  have h3 := size3
  cases hi : Tryz.prog.info? 3 with
  | none => simp [hi] at h3
  | some i =>
    have hs : i.size = 1 := by simpa [hi] using h3
    rcases (by omega : k = 0 ∨ k = 1 ∨ k = 2 ∨ k = 3 ∨ k = 4 ∨ k = 5 ∨ k = 6 ∨ k = 7) with rfl | rfl | rfl | rfl | rfl | rfl | rfl | rfl <;>
      simp [Instr.index, asIntOf, run_underlying u192, part, sizeOf, typeInfo, hi, hs, Tryz.underlying3, onlyOf]


/-! ### A row of shapes that grows by a shape -/

/-- A shape whose parts are shapes. -/
def AtS (d k sb j : Nat) (w : World) (s : Sh) : Prop := ∃ (ls : List Sh) (v : Value), s = .mk k [] ls ∧ ls.length = j ∧ Blk w sb #[.int .i64 k, .slice none 0 0, v] 26 ∧ Rowed True (repS d) (sb + 1) 26 w v ls
theorem AtS.kept {X : Nat → Prop} {d k sb j : Nat} {w w' : World} {s : Sh} (h : AtS d k sb j w s) (hk : Kept X w w') (hX : ∀ b, X b → b < sb) : AtS d k sb j w' s := by
  obtain ⟨ls, v, h1, h2, h3, h4⟩ := h
  exact ⟨ls, v, h1, h2, h3.kept hk (fun hx => by have := hX _ hx; omega), h4.kept hk (fun b hb => by have := hX b hb; omega)⟩
theorem setCell_comm (w : World) (a b : Addr) (x y : Value) (h : a.block ≠ b.block) : (w.setCell a x).setCell b y = (w.setCell b y).setCell a x := by
  unfold World.setCell
  simp only
  congr 1
  apply Array.ext
  · simp
  · intro i h1 h2
    simp only [Array.getElem_modify]
    by_cases ha : a.block = i
    · have hb : ¬ b.block = i := by omega
      simp [ha, hb]
    · simp [ha]
/-- A shape with what is known of it. -/
def repSK (f : Nat) : Rep (Sh × Knows) where
  size := 3
  rel := fun H us a => IsS f H us a.1 ∧ ∀ b o, a.2 b o → H b o
  mono := fun hk h => ⟨IsS.mono hk h.1, fun b o hb => hk b o (h.2 b o hb)⟩
  len := fun h => by obtain ⟨k, ao, n, c, bo, m, d, rfl⟩ := h.1.form; rfl
  one := fun h u hu => by
    obtain ⟨k, ao, n, c, bo, m, d, rfl⟩ := h.1.form
    simp at hu
    rcases hu with rfl | rfl | rfl <;> rfl
/-- Nothing is known. -/
def noKn : Knows := fun _ _ => False
theorem Rowed.toSK {f : Nat} {z : Prop} {base : Nat} {E : TypeId} {w : World} {v : Value} {ls : List Sh} (h : Rowed z (repS f) base E w v ls) : Rowed z (repSK f) base E w v (ls.map fun s => (s, noKn)) := by
  obtain ⟨uss, H, ho, hl, hr, hH, hne, hz⟩ := h
  refine ⟨uss, H, by rw [List.length_map]; exact ho, by simpa using hl, fun i us a hu ha => ?_, hH, hne, hz⟩
  rw [List.getElem?_map] at ha
  obtain ⟨x, hx, rfl⟩ := Option.map_eq_some_iff.1 ha
  exact ⟨hr i us x hu hx, fun _ _ h => h.elim⟩
theorem Rowed.formS {α : Type} {r : Rep α} {z : Prop} {base : Nat} {E : TypeId} {w : World} {v : Value} {ls : List α} {a : α} (h : Rowed z r base E w v (ls ++ [a])) : ∃ g cap, v = .slice (some ⟨g, 0, none⟩) (ls.length + 1) cap ∧ base ≤ g ∧ g < w.heap.size := by
  obtain ⟨uss, H, ho, _, _, _, _, hz⟩ := h
  have hlt := ho.lt
  rcases ho.2 with ⟨rfl, hn⟩ | ⟨g, cap, cur, rfl, hb, hg, hn, hc, _⟩
  · simp at hn
  · exact ⟨_, _, by rw [List.length_append]; rfl, hlt g rfl⟩
theorem flat3 {n : Nat} {uss : List (List Value)} (h : ∀ us ∈ uss, us.length = 3) (hl : uss.length = n + 1) : ∃ fs a b c, uss = fs ++ [[a, b, c]] ∧ fs.length = n ∧ fs.flatten.length = n * 3 := by
  have hne : uss ≠ [] := by intro e; subst e; simp at hl
  obtain ⟨fs, us, rfl⟩ : ∃ fs us, uss = fs ++ [us] := ⟨uss.dropLast, uss.getLast hne, (List.dropLast_concat_getLast hne).symm⟩
  have h3 := h us (by simp)
  match us, h3 with
  | [a, b, c], _ =>
    refine ⟨fs, a, b, c, rfl, by simpa using hl, ?_⟩
    have hfl : fs.length = n := by simpa using hl
    rw [← hfl]
    have hf : ∀ us ∈ fs, us.length = 3 := fun us hu => h us (by simp [hu])
    clear h hl hne h3 hfl
    induction fs with
    | nil => rfl
    | cons x fs ih =>
      rw [List.flatten_cons, List.length_append, ih (fun us hu => hf us (by simp [hu])), hf x (by simp), List.length_cons]
      omega
/-- What lies at the end of a row of shapes. -/
theorem Rowed.last3 {f : Nat} {z : Prop} {base : Nat} {E : TypeId} {w : World} {v : Value} {ls : List (Sh × Knows)} {a : Sh × Knows} {g : Nat} (h : Rowed z (repSK f) base E w v (ls ++ [a])) (hv : v.ownBlock = some g) :
    ∃ x y u, (w.cell? ⟨g, ls.length * 3, none⟩ = some x ∧ w.frozen? ⟨g, ls.length * 3, none⟩ = false) ∧ (w.cell? ⟨g, ls.length * 3 + 1, none⟩ = some y ∧ w.frozen? ⟨g, ls.length * 3 + 1, none⟩ = false) ∧ (w.cell? ⟨g, ls.length * 3 + 2, none⟩ = some u ∧ w.frozen? ⟨g, ls.length * 3 + 2, none⟩ = false) := by
  obtain ⟨uss, H, ho, hl, hr, hH, hne, hz⟩ := h
  have hs : ∀ us ∈ uss, us.length = 3 := by
    intro us hu
    obtain ⟨i, hi⟩ := List.mem_iff_getElem?.1 hu
    exact (repSK f).len (hr i us ((ls ++ [a])[i]'(by have := (List.getElem?_eq_some_iff.1 hi).1; omega)) hi (List.getElem?_eq_getElem _))
  obtain ⟨fs, x, y, u, rfl, hfs, hfl⟩ := flat3 (n := ls.length) hs (by simpa using hl)
  have e : (fs ++ [[x, y, u]]).flatten = fs.flatten ++ [x, y, u] := by simp
  rw [e] at ho
  refine ⟨x, y, u, owns_cell ho hv ?_, owns_cell ho hv ?_, owns_cell ho hv ?_⟩
  · rw [List.getElem?_append_right (by omega), hfl, Nat.sub_self]; rfl
  · rw [List.getElem?_append_right (by omega), hfl, Nat.add_sub_cancel_left]; rfl
  · rw [List.getElem?_append_right (by omega), hfl, Nat.add_sub_cancel_left]; rfl
/-- The last shape of a row is filled in. -/
theorem Rowed.fill {f : Nat} {z : Prop} {base : Nat} {E : TypeId} {w : World} {v : Value} {ls : List Sh} {s0 p : Sh} {K : Knows} {g : Nat} {x y u : Value} (h : Rowed z (repSK f) base E w v ((ls.map fun s => (s, noKn)) ++ [(s0, K)])) (hv : v.ownBlock = some g) (hp : IsS f K [x, y, u] p) :
    Rowed z (repS f) base E (((w.setCell ⟨g, ls.length * 3, none⟩ x).setCell ⟨g, ls.length * 3 + 1, none⟩ y).setCell ⟨g, ls.length * 3 + 2, none⟩ u) v (ls ++ [p]) := by
  obtain ⟨uss, H, ho, hl, hr, hH, hne, hz⟩ := h
  have hs : ∀ us ∈ uss, us.length = 3 := by
    intro us hu
    obtain ⟨i, hi⟩ := List.mem_iff_getElem?.1 hu
    exact (repSK f).len (hr i us (((ls.map fun s => (s, noKn)) ++ [(s0, K)])[i]'(by have := (List.getElem?_eq_some_iff.1 hi).1; omega)) hi (List.getElem?_eq_getElem _))
  obtain ⟨fs, x0, y0, u0, rfl, hfs, hfl⟩ := flat3 (n := ls.length) hs (by simpa using hl)
  have e : (fs ++ [[x0, y0, u0]]).flatten = fs.flatten ++ [x0, y0, u0] := by simp
  have hlast := (hr ls.length [x0, y0, u0] (s0, K) (by rw [List.getElem?_append_right (by omega), hfs, Nat.sub_self]; rfl) (by rw [List.getElem?_append_right (by simp), List.length_map, Nat.sub_self]; rfl)).2
  rw [e] at ho
  have hlen : ((ls.map fun s => (s, noKn)) ++ [(s0, K)]).length = (ls ++ [p]).length := by simp
  rw [hlen] at ho hl
  have h1 := owns_set x ho hv (i := ls.length * 3) (by simp [hfl])
  have h2 := owns_set y h1 hv (i := ls.length * 3 + 1) (by simp [hfl])
  have h3 := owns_set u h2 hv (i := ls.length * 3 + 2) (by simp [hfl])
  have e2 : (((fs.flatten ++ [x0, y0, u0]).set (ls.length * 3) x).set (ls.length * 3 + 1) y).set (ls.length * 3 + 2) u = (fs ++ [[x, y, u]]).flatten := by
    rw [← hfl]
    simp [List.set_append]
  rw [e2] at h3
  refine ⟨fs ++ [[x, y, u]], H, h3, by simpa using hfs, fun i us a hu ha => ?_, ?_, hne, hz⟩
  · rcases Nat.lt_or_ge i ls.length with hi | hi
    · rw [List.getElem?_append_left (by omega)] at hu ha
      have := hr i us (a, noKn) (by rw [List.getElem?_append_left (by omega)]; exact hu) (by rw [List.getElem?_append_left (by simpa using hi), List.getElem?_map, ha]; rfl)
      exact this.1
    · have hi2 : i = ls.length := by
        have := (List.getElem?_eq_some_iff.1 ha).1
        simp at this
        omega
      subst hi2
      rw [List.getElem?_append_right (by omega), hfs, Nat.sub_self] at hu
      rw [List.getElem?_append_right (by omega), Nat.sub_self] at ha
      simp only [List.getElem?_cons_zero, Option.some.injEq] at hu ha
      subst hu ha
      exact IsS.mono hlast hp
  · intro b o hb
    have hbg : b ≠ g := fun e => hne b o hb (by rw [e]; exact hv)
    obtain ⟨q1, q2⟩ := hH b o hb
    refine ⟨q1, ?_⟩
    rw [Below.heap_setCell _ _ _ b hbg, Below.heap_setCell _ _ _ b hbg, Below.heap_setCell _ _ _ b hbg]
    exact q2


/-! ### A row of points that lies in a row of its own -/

/-- A shape of points: its one list. -/
def AtP (sb j : Nat) (w : World) (s : Sh) : Prop := ∃ (ps : List By.Pt) (v : Value) (lb : Nat), s = .mk 4 [ps] [] ∧ ps.length = j ∧ Blk w sb #[.int .i64 4, .slice (some ⟨lb, 0, none⟩) 1 1, .slice none 0 0] 26 ∧ Blk w lb #[v] 52 ∧ sb + 1 ≤ lb ∧ Rowed False repPt (sb + 1) 70 w v ps
theorem Rowed.notBlk {α : Type} {z : Prop} {r : Rep α} {base : Nat} {E T : TypeId} {w : World} {v : Value} {ls : List α} {b : Nat} {cs : Array Value} (h : Rowed z r base E w v ls) (hb : Blk w b cs T) (hne : E ≠ T) : v.ownBlock ≠ some b := by
  intro e
  obtain ⟨uss, H, ho, _⟩ := h
  rcases ho.2 with ⟨rfl, hn⟩ | ⟨g, cap, cur, rfl, _, hg, _⟩
  · simp [Value.ownBlock] at e
  · simp only [Value.ownBlock, Option.some.injEq] at e
    subst e
    unfold Blk at hb
    rw [hb] at hg
    simp only [Option.some.injEq, Obj.cells.injEq] at hg
    exact hne hg.2.1.symm
theorem Rowed.keptPt {X : Nat → Prop} {z : Prop} {base : Nat} {E : TypeId} {w w' : World} {v : Value} {ps : List By.Pt} (h : Rowed z repPt base E w v ps) (hk : Kept X w w') (hX : ∀ k, v.ownBlock = some k → ¬ X k) : Rowed z repPt base E w' v ps := by
  have hlt := h.lt
  obtain ⟨ho, hz⟩ := rowed_pt.1 h
  exact rowed_pt.2 ⟨ownsRow_stay ho (fun k hb => hk.block k (hlt k hb).2 (hX k hb)), hz⟩
theorem AtP.kept {X : Nat → Prop} {sb j : Nat} {w w' : World} {s : Sh} (h : AtP sb j w s) (hk : Kept X w w') (hX : ∀ b, X b → b < sb) : AtP sb j w' s := by
  obtain ⟨ps, v, lb, h1, h2, h3, h4, h5, h6⟩ := h
  exact ⟨ps, v, lb, h1, h2, h3.kept hk (fun hx => by have := hX _ hx; omega), h4.kept hk (fun hx => by have := hX _ hx; omega), h5, h6.kept hk (fun b hb => by have := hX b hb; omega)⟩


set_option maxRecDepth 100000 in
set_option maxHeartbeats 1000000 in
theorem part_ln (S : Psr) (sb j d : Nat) (D : Int) (hD : D = (d : Int) + 1) (hd : d ≤ 1000) (le : Bool) (sub : SubOk d S) (w : World) (s : Sh) (l : By.Bs) (hs : AtL 5 sb j w s) (h : Prs S w l) (hrb : S.rb < sb) (hj : j ≤ 2147483647) :
    Calls Tryz.prog 56 #[.pointer (some ⟨S.rb, 0, none⟩), .pointer (some ⟨sb, 0, none⟩), .bool (!le), .int .i64 D] w (GavePt S sb (AtL 5 sb (j + 1)) (pPart (pShape d) le s l) w) := by
  obtain ⟨i0, hi, hz0, hz1, hz2⟩ := info_parts info52
  have HI := Lib.hid (⟨hi, hz0, hz1, hz2⟩ : _ ∧ _ ∧ _ ∧ _)
  obtain ⟨ls, v, rfl, hlen, hb, hR⟩ := hs
  have e : pPart (pShape d) le (.mk 5 ls []) l = match pShape d 2 l with | .fine p r => .fine (Sh.take (.mk 5 ls []) p) r | .wrong => .wrong | .unsaid => .unsaid := rfl
  rw [e]
  have hw : IntKind.i64.wrap (D - 1) = (d : Int) := by rw [hD, Int.add_sub_cancel]; exact IntWalk.i64_in _ (by omega)
  obtain ⟨c0, _⟩ := hb.cell (i := 0) (v := .int .i64 5) rfl
  have hcall : Calls Tryz.prog 18 #[.pointer (some ⟨S.rb, 0, none⟩), .int .i64 2, .bool false, .int .i64 d] w (GaveSh d S (pShape d 2 l) w) := sub 2 l w (by omega) h
  obtain ⟨o, ho⟩ : ∃ o, o = pShape d 2 l := ⟨_, rfl⟩
  rw [← ho] at hcall ⊢
  have hix : ∀ w, (Instr.index 192 (.agg #[.int .i64 0, .int .i64 0, .int .i64 0, .int .i64 0, .int .i64 1, .int .i64 2, .int .i64 3, .int .i64 0]) (.int .i64 5)).run Tryz.prog w = .ok (.int .i64 2) w := fun w => index_only 5 (by omega) w
  have HO := Lib.hid ho
  have HB := Lib.hid (⟨hb, hR⟩ : _ ∧ _)
  have hblt := hb.lt
  clear h hi hz0 hz1 hz2 e ho hb hR sub hD
  go_enter Tryz.func56, Tryz.ntmps56
  go_wp2_with fail
  refine hcall.mono ?_
  rintro e w1 ⟨hK, hg⟩
  clear hcall
  rcases o with ⟨p, r⟩ | _ | _
  · obtain ⟨us, K, rfl, hI, hKs, hP⟩ := hg
    have HK := Lib.hid hK
    have HF := Lib.hid (⟨hI, hKs, hP⟩ : _ ∧ _ ∧ _)
    obtain ⟨ps, rfl⟩ := pShape_two HO.out.symm
    obtain ⟨f, rfl⟩ : ∃ f, d = f + 1 := by
      cases d with
      | zero => exact hI.elim
      | succ f => exact ⟨f, rfl⟩
    obtain ⟨vl, vp, rfl, hvl, hvp⟩ := hI
    obtain ⟨bo, m, dd, rfl⟩ : ∃ bo m dd, vp = .slice bo m dd := by
      rcases hvp with ⟨_, rfl, _⟩ | ⟨g', cap', _, _, rfl, _⟩ <;> exact ⟨_, _, _, rfl⟩
    obtain ⟨g, cap, rfl⟩ : ∃ g cap, vl = .slice (some ⟨g, 0, none⟩) 1 cap := by
      rcases hvl with ⟨_, _, h⟩ | ⟨g', cap', _, _, rfl, _⟩
      · cases h
      · exact ⟨_, _, rfl⟩
    obtain ⟨x, cx, hx⟩ := rows_at (pss := [ps]) hvl hKs 0 ps rfl
    obtain ⟨g2, cap2, rfl, _⟩ := RowIs.form hx
    obtain ⟨W2, hW2⟩ : ∃ W, W = w1.alloc (.cells #[.int .i64 2, .slice (some ⟨g, 0, none⟩) 1 cap, .slice bo m dd] 26) := ⟨_, rfl⟩
    have b2 : Below w1.heap.size w1 W2 := by rw [hW2]; exact (Below.refl _ _).alloc (Nat.le_refl _) _
    have p2 : Blk W2 w1.heap.size #[.int .i64 2, .slice (some ⟨g, 0, none⟩) 1 cap, .slice bo m dd] 26 := by rw [hW2]; exact Blk.new w1 _ _
    have hK2 := hK.below b2
    have hb2 := HB.out.1.kept hK2 (by show ¬ sb = S.rb; omega)
    have hR2 := HB.out.2.kept hK2 (fun b hb => by rw [hb]; omega)
    have hx2 := cell_later b2 cx
    obtain ⟨c0', _⟩ := hb2.cell (i := 0) (v := .int .i64 5) rfl
    obtain ⟨c1, f1⟩ := hb2.cell (i := 1) (v := v) rfl
    obtain ⟨d1, _⟩ := p2.cell (i := 1) (v := .slice (some ⟨g, 0, none⟩) 1 cap) rfl
    have e0 := c0'
    rw [hW2] at e0
    have HP2 := Lib.hid (hP.below b2)
    have HKW := Lib.hid (hKs.below b2)
    have hlo : sb + 1 ≤ w.heap.size := hblt
    have HRL := Lib.hid HB.out.2.lt
    have HX := Lib.hid hx
    have HW2 := Lib.hid hW2
    have hsz := hK.size
    have hsz2 := b2.size
    have HR2 := Lib.hid hR2
    have HK2 := Lib.hid hK2
    have c1a := cell_alloc c1 (.cells #[.slice (some ⟨g2, 0, none⟩) ps.length cap2] 52)
    have hne : v.ownBlock ≠ some sb := fun e => by have := (HRL.out sb e).1; omega
    have HB2 := Lib.hid hb2
    have S4 : ∀ w4, W2.drew.grownBy w4 v.ownBlock → w4.cell? ⟨sb, 1, none⟩ = some v ∧ w4.frozen? ⟨sb, 1, none⟩ = false := fun w4 hg => (Blk.grown (HB2.out.drewN 1) hg hne).cell (i := 1) (v := v) rfl
    clear hvl hvp hx hP hK hK2 hR2 hW2 b2 p2 hb2 cx c0 hKs
    go_wp2_with fail
    rw [← HW2.out]
    go_region_law (refine step_append_rowed (r := (repRow repPt 70)) rfl (.tmp 114) (.tmp 119) 23 rfl (lo := w.heap.size) 52 52 i0 (.slice none 0 0) 24 Tryz.underlying23 HI.out.1 HI.out.2.1 HI.out.2.2.1 HI.out.2.2.2 rfl (by decide) v ls rfl (HR2.out.below (below_drewN (Below.refl _ _) 1)) [.slice (some ⟨g2, 0, none⟩) ps.length cap2] ps K (HKW.out.below (below_drewN (Below.refl _ _) 1)) ⟨_, rfl, HX.out⟩ hlo (fun k hk => (HRL.out k hk).2) #[.slice (some ⟨g2, 0, none⟩) ps.length cap2] rfl _ rfl (by simp) (by rw [hlen]; unfold maxLen; omega) (by rw [hlen]; omega) (Nat.le_trans hlo (Nat.le_trans hsz hsz2)) ?_; intro v4 w4 hR4 hg4; obtain ⟨ao4, cap4, hv4, _⟩ := hR4.form; rw [List.length_append, hlen, List.length_cons, List.length_nil, Nat.zero_add] at hv4; subst hv4; obtain ⟨s4, f4⟩ := S4 w4 hg4)
    all_goals
      have b5 := Blk.grown (HB2.out.drewN 1) hg4 hne
      have K4 := (((HK2.out.weaken (Y := fun b => b = S.rb ∨ sb ≤ b) fun _ _ h => .inl h).drewN 1).grown hg4 (fun k hk => .inr (.inr (by have := (HRL.out k hk).1; omega)))).setCell ⟨sb, 1, none⟩ (.slice ao4 (j + 1) cap4) (.inr (.inr (Nat.le_refl _)))
      have k5 : Kept (fun b => b = sb) w4 (w4.setCell ⟨sb, 1, none⟩ (.slice ao4 (j + 1) cap4)) := (Kept.refl _ _).setCell _ _ (.inr rfl)
      have P4 := ((HP2.out.kept (((Kept.refl (fun b => v.ownBlock = some b) W2).drewN 1).grown hg4 (fun k hk => .inr hk)) (fun k hk => by have := (HRL.out k hk).1; omega))).kept k5 (fun k hk => by omega)
      have HZ := Lib.hid (⟨K4, ⟨_, _, rfl, by simp [hlen], b5.set 1 _, hR4.kept k5 (fun k hk => by omega)⟩, P4⟩ : Kept _ w _ ∧ AtL 5 sb (j + 1) (w4.setCell ⟨sb, 1, none⟩ (.slice ao4 (j + 1) cap4)) (.mk 5 (ls ++ [ps]) []) ∧ _)
      clear hg4 hR4 b5 K4 k5 P4
      go_wp2_with fail
      go_ret
      exact ⟨HZ.out.1, rfl, HZ.out.2.1, HZ.out.2.2⟩
  · obtain ⟨k', ao', n', c', bo', m', d', rfl, l2, hP2⟩ := hg
    have HP2 := Lib.hid (hP2.below ((Below.refl _ _).alloc (Nat.le_refl _) (.cells #[.int .i64 k', .slice ao' n' c', .slice bo' m' d'] 26)))
    have HK := Lib.hid ((hK.alloc (.cells #[.int .i64 k', .slice ao' n' c', .slice bo' m' d'] 26)).weaken (Y := fun b => b = S.rb ∨ sb ≤ b) fun _ _ h => .inl h)
    clear hK hP2
    go_wp2_with fail
    go_ret
    exact ⟨HK.out, rfl, _, HP2.out⟩
  · obtain ⟨k', ao', n', c', bo', m', d', rfl, l2, hP2⟩ := hg
    have HP2 := Lib.hid (hP2.below ((Below.refl _ _).alloc (Nat.le_refl _) (.cells #[.int .i64 k', .slice ao' n' c', .slice bo' m' d'] 26)))
    have HK := Lib.hid ((hK.alloc (.cells #[.int .i64 k', .slice ao' n' c', .slice bo' m' d'] 26)).weaken (Y := fun b => b = S.rb ∨ sb ≤ b) fun _ _ h => .inl h)
    clear hK hP2
    go_wp2_with fail
    go_ret
    exact ⟨HK.out, rfl, _, HP2.out⟩


set_option maxRecDepth 100000 in
set_option maxHeartbeats 1000000 in
theorem part_six (S : Psr) (sb j d : Nat) (D : Int) (hD : D = (d : Int) + 1) (hd : d ≤ 1000) (le : Bool) (sub : SubOk d S) (w : World) (s : Sh) (l : By.Bs) (hs : AtS d 6 sb j w s) (h : Prs S w l) (hrb : S.rb < sb) (hj : j ≤ 2147483647) :
    Calls Tryz.prog 56 #[.pointer (some ⟨S.rb, 0, none⟩), .pointer (some ⟨sb, 0, none⟩), .bool (!le), .int .i64 D] w (GavePt S sb (AtS d 6 sb (j + 1)) (pPart (pShape d) le s l) w) := by
  obtain ⟨i0, hi, hz0, hz1, hz2⟩ := info_parts info26
  have HI := Lib.hid (⟨hi, hz0, hz1, hz2⟩ : _ ∧ _ ∧ _ ∧ _)
  obtain ⟨ls, v, rfl, hlen, hb, hR⟩ := hs
  have e : pPart (pShape d) le (.mk 6 [] ls) l = match pShape d 3 l with | .fine p r => .fine (Sh.take (.mk 6 [] ls) p) r | .wrong => .wrong | .unsaid => .unsaid := rfl
  rw [e]
  have hw : IntKind.i64.wrap (D - 1) = (d : Int) := by rw [hD, Int.add_sub_cancel]; exact IntWalk.i64_in _ (by omega)
  obtain ⟨c0, _⟩ := hb.cell (i := 0) (v := .int .i64 6) rfl
  have hcall : Calls Tryz.prog 18 #[.pointer (some ⟨S.rb, 0, none⟩), .int .i64 3, .bool false, .int .i64 d] w (GaveSh d S (pShape d 3 l) w) := sub 3 l w (by omega) h
  obtain ⟨o, ho⟩ : ∃ o, o = pShape d 3 l := ⟨_, rfl⟩
  rw [← ho] at hcall ⊢
  have hix : ∀ w, (Instr.index 192 (.agg #[.int .i64 0, .int .i64 0, .int .i64 0, .int .i64 0, .int .i64 1, .int .i64 2, .int .i64 3, .int .i64 0]) (.int .i64 6)).run Tryz.prog w = .ok (.int .i64 3) w := fun w => index_only 6 (by omega) w
  have HO := Lib.hid ho
  have HB := Lib.hid (⟨hb, hR⟩ : _ ∧ _)
  have hblt := hb.lt
  clear h hi hz0 hz1 hz2 e ho hb hR sub hD
  go_enter Tryz.func56, Tryz.ntmps56
  go_wp2_with fail
  refine hcall.mono ?_
  rintro e w1 ⟨hK, hg⟩
  clear hcall
  rcases o with ⟨p, r⟩ | _ | _
  · obtain ⟨us, K, rfl, hI, hKs, hP⟩ := hg
    have HK := Lib.hid hK
    have HF := Lib.hid (⟨hI, hKs, hP⟩ : _ ∧ _ ∧ _)
    obtain ⟨f, rfl⟩ : ∃ f, d = f + 1 := by
      cases d with
      | zero => exact hI.elim
      | succ f => exact ⟨f, rfl⟩
    obtain ⟨k1, ao1, n1, cp1, bo1, m1, dd1, rfl⟩ := hI.form
    obtain ⟨W2, hW2⟩ : ∃ W, W = w1.alloc (.cells #[.int .i64 k1, .slice ao1 n1 cp1, .slice bo1 m1 dd1] 26) := ⟨_, rfl⟩
    have b2 : Below w1.heap.size w1 W2 := by rw [hW2]; exact (Below.refl _ _).alloc (Nat.le_refl _) _
    have p2 : Blk W2 w1.heap.size #[.int .i64 k1, .slice ao1 n1 cp1, .slice bo1 m1 dd1] 26 := by rw [hW2]; exact Blk.new w1 _ _
    have hK2 := hK.below b2
    have hb2 := HB.out.1.kept hK2 (by show ¬ sb = S.rb; omega)
    have hR2 := HB.out.2.kept hK2 (fun b hb => by rw [hb]; omega)
    obtain ⟨ao5, cap5, hv5, _⟩ := hR2.form
    rw [hlen] at hv5
    subst hv5
    obtain ⟨c0', _⟩ := hb2.cell (i := 0) (v := .int .i64 6) rfl
    obtain ⟨c2, f2⟩ := hb2.cell (i := 2) (v := .slice ao5 j cap5) rfl
    obtain ⟨p0, _⟩ := p2.cell (i := 0) (v := .int .i64 k1) rfl
    obtain ⟨p1, _⟩ := p2.cell (i := 1) (v := .slice ao1 n1 cp1) rfl
    obtain ⟨p2', _⟩ := p2.cell (i := 2) (v := .slice bo1 m1 dd1) rfl
    have e0 := c0'
    rw [hW2] at e0
    have HP2 := Lib.hid (hP.below b2)
    have HKW := Lib.hid (hKs.below b2)
    have hlo : sb + 1 ≤ w.heap.size := hblt
    have HRL := Lib.hid HB.out.2.lt
    have HW2 := Lib.hid hW2
    have hsz := hK.size
    have hsz2 := b2.size
    have HR2 := Lib.hid hR2.toSK
    have HK2 := Lib.hid hK2
    have c2a := cell_alloc c2 (.cells #[.int .i64 0, .slice none 0 0, .slice none 0 0] 26)
    have p0a := cell_alloc p0 (.cells #[.int .i64 0, .slice none 0 0, .slice none 0 0] 26)
    have p1a := cell_alloc p1 (.cells #[.int .i64 0, .slice none 0 0, .slice none 0 0] 26)
    have p2a := cell_alloc p2' (.cells #[.int .i64 0, .slice none 0 0, .slice none 0 0] 26)
    have hne : (Value.slice ao5 j cap5).ownBlock ≠ some sb := fun e => by have := (HRL.out sb e).1; omega
    have HB2 := Lib.hid hb2
    have S4 : ∀ w4, W2.drew.grownBy w4 (Value.slice ao5 j cap5).ownBlock → w4.cell? ⟨sb, 2, none⟩ = some (.slice ao5 j cap5) ∧ w4.frozen? ⟨sb, 2, none⟩ = false := fun w4 hg => (Blk.grown (HB2.out.drewN 1) hg hne).cell (i := 2) (v := .slice ao5 j cap5) rfl
    have hjj : (j : Int) < (j : Int) + 1 := by omega
    clear hP hK hK2 hR2 hW2 b2 p2 hb2 c0 hKs
    go_wp2_with fail
    rw [← HW2.out]
    go_region_law (refine step_append_rowed (r := (repSK (f + 1))) rfl (.tmp 67) (.tmp 70) 24 rfl (lo := w.heap.size) 26 26 i0 (.agg #[.int .i64 0, .slice none 0 0, .slice none 0 0]) 56 Tryz.underlying24 HI.out.1 HI.out.2.1 HI.out.2.2.1 HI.out.2.2.2 rfl (Nat.succ_pos _) (.slice ao5 j cap5) (ls.map fun s => (s, noKn)) rfl (HR2.out.below (below_drewN (Below.refl _ _) 1)) [.int .i64 0, .slice none 0 0, .slice none 0 0] (Sh.mk 0 [] [], K) K (HKW.out.below (below_drewN (Below.refl _ _) 1)) ⟨⟨_, _, rfl, .inl ⟨trivial, rfl, rfl⟩, .inl ⟨trivial, rfl, rfl⟩⟩, fun _ _ h => h⟩ hlo (fun k hk => (HRL.out k hk).2) #[.int .i64 0, .slice none 0 0, .slice none 0 0] rfl _ rfl (by simp) (by rw [List.length_map, hlen]; unfold maxLen; omega) (by rw [List.length_map, hlen]; omega) (Nat.le_trans hlo (Nat.le_trans hsz hsz2)) ?_; intro v4 w4 hR4 hg4; obtain ⟨g4, cap4, hv4, hg4b⟩ := hR4.formS; rw [List.length_map, hlen] at hv4; subst hv4; obtain ⟨s4, f4⟩ := S4 w4 hg4; obtain ⟨x0, y0, u0, X0, X1, X2⟩ := hR4.last3 (g := g4) rfl; rw [List.length_map, hlen] at X0 X1 X2; obtain ⟨x0c, x0f⟩ := X0; obtain ⟨x1c, x1f⟩ := X1; obtain ⟨x2c, x2f⟩ := X2)
    all_goals
      have b5 := Blk.grown (HB2.out.drewN 1) hg4 hne
      have hfill := hR4.fill (g := g4) rfl HF.out.1
      rw [hlen] at hfill
      obtain ⟨W5, hW5⟩ : ∃ W, W = ((w4.setCell ⟨g4, j * 3, none⟩ (.int .i64 k1)).setCell ⟨g4, j * 3 + 1, none⟩ (.slice ao1 n1 cp1)).setCell ⟨g4, j * 3 + 2, none⟩ (.slice bo1 m1 dd1) := ⟨_, rfl⟩
      have Kg : Kept (fun b => b = g4) w4 W5 := by rw [hW5]; exact (((Kept.refl (fun b => b = g4) w4).setCell ⟨g4, j * 3, none⟩ _ (.inr rfl)).setCell ⟨g4, j * 3 + 1, none⟩ _ (.inr rfl)).setCell ⟨g4, j * 3 + 2, none⟩ _ (.inr rfl)
      rw [← hW5] at hfill
      try rw [setCell_comm w4 ⟨sb, 2, none⟩ ⟨g4, j * 3, none⟩ _ _ (show ¬ sb = g4 by omega), setCell_comm _ ⟨sb, 2, none⟩ ⟨g4, j * 3 + 1, none⟩ _ _ (show ¬ sb = g4 by omega), setCell_comm _ ⟨sb, 2, none⟩ ⟨g4, j * 3 + 2, none⟩ _ _ (show ¬ sb = g4 by omega)]
      rw [← hW5]
      have K3 : Kept (fun b => b = S.rb ∨ sb ≤ b) w W5 := (((HK2.out.weaken (Y := fun b => b = S.rb ∨ sb ≤ b) fun _ _ h => .inl h).drewN 1).grown hg4 (fun k hk => .inr (.inr (by have := (HRL.out k hk).1; omega)))).trans Kg (fun k _ hk => .inr (by omega))
      have b6 := Blk.kept b5 Kg (by omega)
      have K4 := K3.setCell ⟨sb, 2, none⟩ (.slice (some ⟨g4, 0, none⟩) (j + 1) cap4) (.inr (.inr (Nat.le_refl _)))
      have k5 : Kept (fun b => b = sb) W5 (W5.setCell ⟨sb, 2, none⟩ (.slice (some ⟨g4, 0, none⟩) (j + 1) cap4)) := (Kept.refl _ _).setCell _ _ (.inr rfl)
      have P4 := (((HP2.out.kept (((Kept.refl (fun b => (Value.slice ao5 j cap5).ownBlock = some b) W2).drewN 1).grown hg4 (fun k hk => .inr hk)) (fun k hk => by have := (HRL.out k hk).1; omega))).kept Kg (fun k hk => by omega)).kept k5 (fun k hk => by omega)
      have HZ := Lib.hid (⟨K4, ⟨_, _, rfl, by simp [hlen], b6.set 2 _, hfill.kept k5 (fun k hk => by omega)⟩, P4⟩ : Kept _ w _ ∧ AtS (f + 1) 6 sb (j + 1) (W5.setCell ⟨sb, 2, none⟩ (.slice (some ⟨g4, 0, none⟩) (j + 1) cap4)) (.mk 6 [] (ls ++ [p])) ∧ _)
      clear hg4 hR4 b5 K4 k5 P4 hfill K3 b6 Kg hW5
      go_wp2_with fail
      go_ret
      exact ⟨HZ.out.1, rfl, HZ.out.2.1, HZ.out.2.2⟩
  · obtain ⟨k', ao', n', c', bo', m', d', rfl, l2, hP2⟩ := hg
    have HP2 := Lib.hid (hP2.below ((Below.refl _ _).alloc (Nat.le_refl _) (.cells #[.int .i64 k', .slice ao' n' c', .slice bo' m' d'] 26)))
    have HK := Lib.hid ((hK.alloc (.cells #[.int .i64 k', .slice ao' n' c', .slice bo' m' d'] 26)).weaken (Y := fun b => b = S.rb ∨ sb ≤ b) fun _ _ h => .inl h)
    clear hK hP2
    go_wp2_with fail
    go_ret
    exact ⟨HK.out, rfl, _, HP2.out⟩
  · obtain ⟨k', ao', n', c', bo', m', d', rfl, l2, hP2⟩ := hg
    have HP2 := Lib.hid (hP2.below ((Below.refl _ _).alloc (Nat.le_refl _) (.cells #[.int .i64 k', .slice ao' n' c', .slice bo' m' d'] 26)))
    have HK := Lib.hid ((hK.alloc (.cells #[.int .i64 k', .slice ao' n' c', .slice bo' m' d'] 26)).weaken (Y := fun b => b = S.rb ∨ sb ≤ b) fun _ _ h => .inl h)
    clear hK hP2
    go_wp2_with fail
    go_ret
    exact ⟨HK.out, rfl, _, HP2.out⟩


set_option maxRecDepth 100000 in
set_option maxHeartbeats 1000000 in
theorem part_seven (S : Psr) (sb j d : Nat) (D : Int) (hD : D = (d : Int) + 1) (hd : d ≤ 1000) (le : Bool) (sub : SubOk d S) (w : World) (s : Sh) (l : By.Bs) (hs : AtS d 7 sb j w s) (h : Prs S w l) (hrb : S.rb < sb) (hj : j ≤ 2147483647) :
    Calls Tryz.prog 56 #[.pointer (some ⟨S.rb, 0, none⟩), .pointer (some ⟨sb, 0, none⟩), .bool (!le), .int .i64 D] w (GavePt S sb (AtS d 7 sb (j + 1)) (pPart (pShape d) le s l) w) := by
  obtain ⟨i0, hi, hz0, hz1, hz2⟩ := info_parts info26
  have HI := Lib.hid (⟨hi, hz0, hz1, hz2⟩ : _ ∧ _ ∧ _ ∧ _)
  obtain ⟨ls, v, rfl, hlen, hb, hR⟩ := hs
  have e : pPart (pShape d) le (.mk 7 [] ls) l = match pShape d 0 l with | .fine p r => .fine (Sh.take (.mk 7 [] ls) p) r | .wrong => .wrong | .unsaid => .unsaid := rfl
  rw [e]
  have hw : IntKind.i64.wrap (D - 1) = (d : Int) := by rw [hD, Int.add_sub_cancel]; exact IntWalk.i64_in _ (by omega)
  obtain ⟨c0, _⟩ := hb.cell (i := 0) (v := .int .i64 7) rfl
  have hcall : Calls Tryz.prog 18 #[.pointer (some ⟨S.rb, 0, none⟩), .int .i64 0, .bool false, .int .i64 d] w (GaveSh d S (pShape d 0 l) w) := sub 0 l w (by omega) h
  obtain ⟨o, ho⟩ : ∃ o, o = pShape d 0 l := ⟨_, rfl⟩
  rw [← ho] at hcall ⊢
  have hix : ∀ w, (Instr.index 192 (.agg #[.int .i64 0, .int .i64 0, .int .i64 0, .int .i64 0, .int .i64 1, .int .i64 2, .int .i64 3, .int .i64 0]) (.int .i64 7)).run Tryz.prog w = .ok (.int .i64 0) w := fun w => index_only 7 (by omega) w
  have HO := Lib.hid ho
  have HB := Lib.hid (⟨hb, hR⟩ : _ ∧ _)
  have hblt := hb.lt
  clear h hi hz0 hz1 hz2 e ho hb hR sub hD
  go_enter Tryz.func56, Tryz.ntmps56
  go_wp2_with fail
  refine hcall.mono ?_
  rintro e w1 ⟨hK, hg⟩
  clear hcall
  rcases o with ⟨p, r⟩ | _ | _
  · obtain ⟨us, K, rfl, hI, hKs, hP⟩ := hg
    have HK := Lib.hid hK
    have HF := Lib.hid (⟨hI, hKs, hP⟩ : _ ∧ _ ∧ _)
    obtain ⟨f, rfl⟩ : ∃ f, d = f + 1 := by
      cases d with
      | zero => exact hI.elim
      | succ f => exact ⟨f, rfl⟩
    obtain ⟨k1, ao1, n1, cp1, bo1, m1, dd1, rfl⟩ := hI.form
    obtain ⟨W2, hW2⟩ : ∃ W, W = w1.alloc (.cells #[.int .i64 k1, .slice ao1 n1 cp1, .slice bo1 m1 dd1] 26) := ⟨_, rfl⟩
    have b2 : Below w1.heap.size w1 W2 := by rw [hW2]; exact (Below.refl _ _).alloc (Nat.le_refl _) _
    have p2 : Blk W2 w1.heap.size #[.int .i64 k1, .slice ao1 n1 cp1, .slice bo1 m1 dd1] 26 := by rw [hW2]; exact Blk.new w1 _ _
    have hK2 := hK.below b2
    have hb2 := HB.out.1.kept hK2 (by show ¬ sb = S.rb; omega)
    have hR2 := HB.out.2.kept hK2 (fun b hb => by rw [hb]; omega)
    obtain ⟨ao5, cap5, hv5, _⟩ := hR2.form
    rw [hlen] at hv5
    subst hv5
    obtain ⟨c0', _⟩ := hb2.cell (i := 0) (v := .int .i64 7) rfl
    obtain ⟨c2, f2⟩ := hb2.cell (i := 2) (v := .slice ao5 j cap5) rfl
    obtain ⟨p0, _⟩ := p2.cell (i := 0) (v := .int .i64 k1) rfl
    obtain ⟨p1, _⟩ := p2.cell (i := 1) (v := .slice ao1 n1 cp1) rfl
    obtain ⟨p2', _⟩ := p2.cell (i := 2) (v := .slice bo1 m1 dd1) rfl
    have e0 := c0'
    rw [hW2] at e0
    have HP2 := Lib.hid (hP.below b2)
    have HKW := Lib.hid (hKs.below b2)
    have hlo : sb + 1 ≤ w.heap.size := hblt
    have HRL := Lib.hid HB.out.2.lt
    have HW2 := Lib.hid hW2
    have hsz := hK.size
    have hsz2 := b2.size
    have HR2 := Lib.hid hR2.toSK
    have HK2 := Lib.hid hK2
    have c2a := cell_alloc c2 (.cells #[.int .i64 0, .slice none 0 0, .slice none 0 0] 26)
    have p0a := cell_alloc p0 (.cells #[.int .i64 0, .slice none 0 0, .slice none 0 0] 26)
    have p1a := cell_alloc p1 (.cells #[.int .i64 0, .slice none 0 0, .slice none 0 0] 26)
    have p2a := cell_alloc p2' (.cells #[.int .i64 0, .slice none 0 0, .slice none 0 0] 26)
    have hne : (Value.slice ao5 j cap5).ownBlock ≠ some sb := fun e => by have := (HRL.out sb e).1; omega
    have HB2 := Lib.hid hb2
    have S4 : ∀ w4, W2.drew.grownBy w4 (Value.slice ao5 j cap5).ownBlock → w4.cell? ⟨sb, 2, none⟩ = some (.slice ao5 j cap5) ∧ w4.frozen? ⟨sb, 2, none⟩ = false := fun w4 hg => (Blk.grown (HB2.out.drewN 1) hg hne).cell (i := 2) (v := .slice ao5 j cap5) rfl
    have hjj : (j : Int) < (j : Int) + 1 := by omega
    clear hP hK hK2 hR2 hW2 b2 p2 hb2 c0 hKs
    go_wp2_with fail
    rw [← HW2.out]
    go_region_law (refine step_append_rowed (r := (repSK (f + 1))) rfl (.tmp 67) (.tmp 70) 24 rfl (lo := w.heap.size) 26 26 i0 (.agg #[.int .i64 0, .slice none 0 0, .slice none 0 0]) 56 Tryz.underlying24 HI.out.1 HI.out.2.1 HI.out.2.2.1 HI.out.2.2.2 rfl (Nat.succ_pos _) (.slice ao5 j cap5) (ls.map fun s => (s, noKn)) rfl (HR2.out.below (below_drewN (Below.refl _ _) 1)) [.int .i64 0, .slice none 0 0, .slice none 0 0] (Sh.mk 0 [] [], K) K (HKW.out.below (below_drewN (Below.refl _ _) 1)) ⟨⟨_, _, rfl, .inl ⟨trivial, rfl, rfl⟩, .inl ⟨trivial, rfl, rfl⟩⟩, fun _ _ h => h⟩ hlo (fun k hk => (HRL.out k hk).2) #[.int .i64 0, .slice none 0 0, .slice none 0 0] rfl _ rfl (by simp) (by rw [List.length_map, hlen]; unfold maxLen; omega) (by rw [List.length_map, hlen]; omega) (Nat.le_trans hlo (Nat.le_trans hsz hsz2)) ?_; intro v4 w4 hR4 hg4; obtain ⟨g4, cap4, hv4, hg4b⟩ := hR4.formS; rw [List.length_map, hlen] at hv4; subst hv4; obtain ⟨s4, f4⟩ := S4 w4 hg4; obtain ⟨x0, y0, u0, X0, X1, X2⟩ := hR4.last3 (g := g4) rfl; rw [List.length_map, hlen] at X0 X1 X2; obtain ⟨x0c, x0f⟩ := X0; obtain ⟨x1c, x1f⟩ := X1; obtain ⟨x2c, x2f⟩ := X2)
    all_goals
      have b5 := Blk.grown (HB2.out.drewN 1) hg4 hne
      have hfill := hR4.fill (g := g4) rfl HF.out.1
      rw [hlen] at hfill
      obtain ⟨W5, hW5⟩ : ∃ W, W = ((w4.setCell ⟨g4, j * 3, none⟩ (.int .i64 k1)).setCell ⟨g4, j * 3 + 1, none⟩ (.slice ao1 n1 cp1)).setCell ⟨g4, j * 3 + 2, none⟩ (.slice bo1 m1 dd1) := ⟨_, rfl⟩
      have Kg : Kept (fun b => b = g4) w4 W5 := by rw [hW5]; exact (((Kept.refl (fun b => b = g4) w4).setCell ⟨g4, j * 3, none⟩ _ (.inr rfl)).setCell ⟨g4, j * 3 + 1, none⟩ _ (.inr rfl)).setCell ⟨g4, j * 3 + 2, none⟩ _ (.inr rfl)
      rw [← hW5] at hfill
      try rw [setCell_comm w4 ⟨sb, 2, none⟩ ⟨g4, j * 3, none⟩ _ _ (show ¬ sb = g4 by omega), setCell_comm _ ⟨sb, 2, none⟩ ⟨g4, j * 3 + 1, none⟩ _ _ (show ¬ sb = g4 by omega), setCell_comm _ ⟨sb, 2, none⟩ ⟨g4, j * 3 + 2, none⟩ _ _ (show ¬ sb = g4 by omega)]
      rw [← hW5]
      have K3 : Kept (fun b => b = S.rb ∨ sb ≤ b) w W5 := (((HK2.out.weaken (Y := fun b => b = S.rb ∨ sb ≤ b) fun _ _ h => .inl h).drewN 1).grown hg4 (fun k hk => .inr (.inr (by have := (HRL.out k hk).1; omega)))).trans Kg (fun k _ hk => .inr (by omega))
      have b6 := Blk.kept b5 Kg (by omega)
      have K4 := K3.setCell ⟨sb, 2, none⟩ (.slice (some ⟨g4, 0, none⟩) (j + 1) cap4) (.inr (.inr (Nat.le_refl _)))
      have k5 : Kept (fun b => b = sb) W5 (W5.setCell ⟨sb, 2, none⟩ (.slice (some ⟨g4, 0, none⟩) (j + 1) cap4)) := (Kept.refl _ _).setCell _ _ (.inr rfl)
      have P4 := (((HP2.out.kept (((Kept.refl (fun b => (Value.slice ao5 j cap5).ownBlock = some b) W2).drewN 1).grown hg4 (fun k hk => .inr hk)) (fun k hk => by have := (HRL.out k hk).1; omega))).kept Kg (fun k hk => by omega)).kept k5 (fun k hk => by omega)
      have HZ := Lib.hid (⟨K4, ⟨_, _, rfl, by simp [hlen], b6.set 2 _, hfill.kept k5 (fun k hk => by omega)⟩, P4⟩ : Kept _ w _ ∧ AtS (f + 1) 7 sb (j + 1) (W5.setCell ⟨sb, 2, none⟩ (.slice (some ⟨g4, 0, none⟩) (j + 1) cap4)) (.mk 7 [] (ls ++ [p])) ∧ _)
      clear hg4 hR4 b5 K4 k5 P4 hfill K3 b6 Kg hW5
      go_wp2_with fail
      go_ret
      exact ⟨HZ.out.1, rfl, HZ.out.2.1, HZ.out.2.2⟩
  · obtain ⟨k', ao', n', c', bo', m', d', rfl, l2, hP2⟩ := hg
    have HP2 := Lib.hid (hP2.below ((Below.refl _ _).alloc (Nat.le_refl _) (.cells #[.int .i64 k', .slice ao' n' c', .slice bo' m' d'] 26)))
    have HK := Lib.hid ((hK.alloc (.cells #[.int .i64 k', .slice ao' n' c', .slice bo' m' d'] 26)).weaken (Y := fun b => b = S.rb ∨ sb ≤ b) fun _ _ h => .inl h)
    clear hK hP2
    go_wp2_with fail
    go_ret
    exact ⟨HK.out, rfl, _, HP2.out⟩
  · obtain ⟨k', ao', n', c', bo', m', d', rfl, l2, hP2⟩ := hg
    have HP2 := Lib.hid (hP2.below ((Below.refl _ _).alloc (Nat.le_refl _) (.cells #[.int .i64 k', .slice ao' n' c', .slice bo' m' d'] 26)))
    have HK := Lib.hid ((hK.alloc (.cells #[.int .i64 k', .slice ao' n' c', .slice bo' m' d'] 26)).weaken (Y := fun b => b = S.rb ∨ sb ≤ b) fun _ _ h => .inl h)
    clear hK hP2
    go_wp2_with fail
    go_ret
    exact ⟨HK.out, rfl, _, HP2.out⟩

end Go.Proofs.YtjbjjphgnilhmaaGreatDoor
