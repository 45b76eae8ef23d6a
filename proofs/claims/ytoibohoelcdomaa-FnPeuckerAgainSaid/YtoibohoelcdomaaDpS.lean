/- The walk of (*DouglasPeuckerSimplifier).simplify. -/
import Derived.Test.YtoibohoelcdomaaDpW
namespace Go.Proofs.Ytoibohoelcdomaa
open Go.RowKit Fl

theorem info_u8 : (Try.prog.info? 5).map (fun i => (i.zero, i.size, i.bytes)) = some (some (.int .u8 0), 1, 1) := by kernel_rfl

theorem marks_of_made {w : World} {B g n : Nat} {T : TypeId} (h : w.ownsRow B T 1 (.slice (some ⟨g, 0, none⟩) n n) n (madeCells #[Value.int .u8 0] n).toList) :
    w.heap[g]? = some (.cells (marks n fun _ => false) T (0, 0)) := by
  rcases h.2 with ⟨h, _⟩ | ⟨g', cap, cur, h, _, hg, _, _, hs, ht⟩
  · cases h
  · cases h
    rw [hg]
    congr 2
    have e1 : (madeCells #[Value.int .u8 0] n).toList = List.replicate n (Value.int .u8 0) := toList_madeCells_one _ _
    have e2 : (marks n fun _ => false).toList = List.replicate n (Value.int .u8 0) := by
      unfold marks
      apply List.ext_getElem?
      intro j
      by_cases hj : j < n <;> simp [hj]
    rw [e1, List.take_of_length_le (by simp; omega)] at ht
    apply Array.ext'
    rw [ht, e2]

theorem gb_weak {w w1 : World} (h : w.grownBy w1 none) (r : Option Nat) : w.grownBy w1 r := ⟨h.os, h.tape, h.output, h.size, fun k hk _ => h.block k hk (by simp)⟩
/-- What is kept of the first k points. -/
def keptTo (ps : List (Nat × Nat)) (t k : Nat) : List (Nat × Nat) := ((List.range k).filter (target ps t)).map fun i => ps.getD i (0, 0)
theorem keptTo_le (ps : List (Nat × Nat)) (t k : Nat) : (keptTo ps t k).length ≤ k := by
  unfold keptTo
  rw [List.length_map]
  have := List.length_filter_le (target ps t) (List.range k)
  simpa using this
theorem keptTo_yes {ps : List (Nat × Nat)} {t k : Nat} {p : Nat × Nat} (hp : ps[k]? = some p) (h : target ps t k = true) : keptTo ps t (k + 1) = keptTo ps t k ++ [p] := by
  unfold keptTo
  rw [List.range_succ, List.filter_append, List.filter_cons_of_pos h]
  simp [List.getD, hp]
theorem keptTo_no {ps : List (Nat × Nat)} {t k : Nat} (h : target ps t k = false) : keptTo ps t (k + 1) = keptTo ps t k := by
  unfold keptTo
  rw [List.range_succ, List.filter_append, List.filter_cons_of_neg (by simp [h])]
  simp

/-- The points while they are moved to the front: c of them kept, those from k on as they were. -/
def Moving (w : World) (g : Nat) (qs ps : List (Nat × Nat)) (k : Nat) : Prop :=
  PtsAt w g 0 qs ∧ (∀ i p, k ≤ i → ps[i]? = some p → w.cell? ⟨g, 0 + i * 2, none⟩ = some (.float .f64 p.1) ∧ w.cell? ⟨g, 0 + i * 2 + 1, none⟩ = some (.float .f64 p.2)) ∧
  (∀ o, o < ps.length * 2 → (w.cell? ⟨g, o, none⟩).isSome = true) ∧ (∀ o, w.frozen? ⟨g, o, none⟩ = false)

theorem cell_set_ne {w : World} {g o o' : Nat} {u : Value} (h : o' ≠ o) : (w.setCell ⟨g, o', none⟩ u).cell? ⟨g, o, none⟩ = w.cell? ⟨g, o, none⟩ := by
  unfold World.setCell World.cell?
  simp only [Array.getElem?_modify]
  by_cases hg : g < w.heap.size
  · simp only [if_true]
    cases hh : w.heap[g]? with
    | none => rfl
    | some ob =>
      cases ob <;> simp only [Option.map_some]
      simp [h]
  · have : w.heap[g]? = none := by rw [Array.getElem?_eq_none_iff]; omega
    simp [this]
theorem cell_set_eq {w : World} {g o : Nat} {u v : Value} (h : w.cell? ⟨g, o, none⟩ = some v) : (w.setCell ⟨g, o, none⟩ u).cell? ⟨g, o, none⟩ = some u := by
  unfold World.cell? at h
  unfold World.setCell World.cell?
  simp only [Array.getElem?_modify]
  cases hh : w.heap[g]? with
  | none => simp [hh] at h
  | some ob =>
    cases ob with
    | cells cc ee ff =>
      simp only [hh] at h
      simp at h
      obtain ⟨hlt, _⟩ := Array.getElem?_eq_some_iff.1 h
      simp [hlt]
    | _ => simp [hh] at h
theorem frozen_set {w : World} {a b : Addr} {u : Value} : (w.setCell a u).frozen? b = w.frozen? b := by
  unfold World.setCell World.frozen?
  simp only [Array.getElem?_modify]
  by_cases h : a.block = b.block
  · rw [if_pos h]
    cases hh : w.heap[b.block]? with
    | none => rfl
    | some ob => cases ob <;> rfl
  · rw [if_neg h]

theorem moving_start {w : World} {g B n cap : Nat} {T : TypeId} {ps : List (Nat × Nat)} (h : w.ownsRow B T 2 (.slice (some ⟨g, 0, none⟩) n cap) n (pc ps)) : PtsAt w g 0 ps ∧ Moving w g [] ps 0 := by
  have hl := h.1
  rw [pc_length] at hl
  have hp : PtsAt w g 0 ps := by
    intro i p hp
    have := pc_get ps i p hp
    have hi : i < ps.length := (List.getElem?_eq_some_iff.1 hp).1
    rw [Nat.zero_add]
    exact ⟨by rw [h.cellAt _ (by omega)]; exact this.1, by rw [h.cellAt _ (by omega)]; exact this.2⟩
  refine ⟨hp, ?_, fun i p _ hip => hp i p hip, ?_, fun o => h.frozenAt o⟩
  · intro i p hip; simp at hip
  · intro o ho
    rw [h.cellAt o (by omega), List.getElem?_eq_getElem (by rw [pc_length]; omega)]; rfl

theorem moving_skip {w : World} {g k : Nat} {qs ps : List (Nat × Nat)} (h : Moving w g qs ps k) : Moving w g qs ps (k + 1) :=
  ⟨h.1, fun i p hi hp => h.2.1 i p (by omega) hp, h.2.2⟩
theorem moving_keep {w : World} {g k : Nat} {qs ps : List (Nat × Nat)} {p : Nat × Nat} (h : Moving w g qs ps k) (hk : k < ps.length) (hq : qs.length ≤ k) :
    Moving ((w.setCell ⟨g, qs.length * 2, none⟩ (.float .f64 p.1)).setCell ⟨g, qs.length * 2 + 1, none⟩ (.float .f64 p.2)) g (qs ++ [p]) ps (k + 1) := by
  obtain ⟨h1, h2, h3, h4⟩ := h
  obtain ⟨v0, e0⟩ := Option.isSome_iff_exists.1 (h3 (qs.length * 2) (by omega))
  obtain ⟨v1, e1⟩ := Option.isSome_iff_exists.1 (h3 (qs.length * 2 + 1) (by omega))
  refine ⟨?_, ?_, ?_, fun o => by rw [frozen_set, frozen_set]; exact h4 o⟩
  · intro i q hi
    rw [Nat.zero_add]
    by_cases hiq : i < qs.length
    · rw [List.getElem?_append_left hiq] at hi
      have := h1 i q hi
      rw [Nat.zero_add] at this
      rw [cell_set_ne (by omega), cell_set_ne (by omega), cell_set_ne (by omega), cell_set_ne (by omega)]
      exact this
    · have hlt := (List.getElem?_eq_some_iff.1 hi).1
      simp only [List.length_append, List.length_cons, List.length_nil] at hlt
      obtain rfl : i = qs.length := by omega
      rw [List.getElem?_append_right (by omega)] at hi
      simp at hi
      subst hi
      constructor
      · rw [cell_set_ne (by omega)]; exact cell_set_eq e0
      · exact cell_set_eq (by rw [cell_set_ne (by omega)]; exact e1)
  · intro i q hi hq'
    have := h2 i q (by omega) hq'
    rw [cell_set_ne (by omega), cell_set_ne (by omega), cell_set_ne (by omega), cell_set_ne (by omega)]
    exact this
  · intro o ho
    by_cases ho1 : qs.length * 2 + 1 = o
    · subst ho1; rw [cell_set_eq (by rw [cell_set_ne (by omega)]; exact e1)]; rfl
    · rw [cell_set_ne ho1]
      by_cases ho2 : qs.length * 2 = o
      · subst ho2; rw [cell_set_eq e0]; rfl
      · rw [cell_set_ne ho2]; exact h3 o ho
theorem moving_frame {w w' : World} {g k : Nat} {qs ps : List (Nat × Nat)} (h : Moving w g qs ps k) (hb : w'.heap[g]? = w.heap[g]?) : Moving w' g qs ps k := by
  have hc : ∀ o, w'.cell? ⟨g, o, none⟩ = w.cell? ⟨g, o, none⟩ := fun o => World.cell?_of_block hb
  have hf : ∀ o, w'.frozen? ⟨g, o, none⟩ = w.frozen? ⟨g, o, none⟩ := fun o => World.frozen?_of_block hb
  obtain ⟨h1, h2, h3, h4⟩ := h
  refine ⟨fun i p hp => ?_, fun i p hi hp => ?_, fun o ho => ?_, fun o => ?_⟩
  · rw [hc, hc]; exact h1 i p hp
  · rw [hc, hc]; exact h2 i p hi hp
  · rw [hc]; exact h3 o ho
  · rw [hf]; exact h4 o

set_option maxRecDepth 100000 in
set_option maxHeartbeats 1000000 in
theorem simplify_any (bs g cap n B : Nat) (ps : List (Nat × Nat)) (thr : Nat) (w : World) (hn : ps.length = n) (h2 : 2 ≤ n) (hn60 : n ≤ 1000000) (hth : w.cell? ⟨bs, 0, none⟩ = some (.float .f64 thr))
    (hown : w.ownsRow B 50 2 (.slice (some ⟨g, 0, none⟩) n cap) n (pc ps)) (hthr : IsFin thr) (ht : IsFin (fmul thr thr)) (ht0 : 0 ≤ val (fmul thr thr)) (hwh : ∀ p ∈ ps, ptB p = true) (t : Nat) (hte : t = fmul thr thr) :
    Calls Try.prog 53 #[.pointer (some ⟨bs, 0, none⟩), .slice (some ⟨g, 0, none⟩) n cap, .bool false, .bool false] w
      fun e w' => ∃ c, e = .returned (.tuple #[.slice (some ⟨g, 0, none⟩) c cap, .slice none 0 0]) ∧ c = (keptTo ps t n).length ∧ PtsAt w' g 0 (keptTo ps t n) ∧ Below B w w' := by
  have HTE := Lib.hid hte
  clear hte
  obtain ⟨i0, hi, hz0, hz1, hz2⟩ := info_parts info_u8
  obtain ⟨hBg, hgw⟩ := hown.lt g rfl
  obtain ⟨hps, hmv⟩ := moving_start hown
  have hcap : n ≤ cap := by
    rcases hown.2 with ⟨h, _⟩ | ⟨g', cap', cur, h, _, _, h3, _⟩
    · cases h
    · cases h; exact h3
  have HPS := Lib.hid hps
  have HMV := Lib.hid hmv
  have HOWN := Lib.hid hown
  have hbsw : bs < w.heap.size := World.block_lt_of_cell? w ⟨bs, 0, none⟩ hth
  clear hps hmv hown
  go_enter Try.func53, Try.ntmps53
  go_wp2_with (at_make; refine wpList_make_full _ rfl _ _ 89 rfl w.heap.size 5 i0 (.int .u8 0) 1 Try.underlying89 hi hz0 hz1 _ _ (n : Int) (n : Int) n rfl rfl rfl rfl ?b1 ?b2 ?b3 ?_)
  case b1 => rw [hz2]; omega
  case b2 => unfold maxLen; omega
  case b3 => simp
  intro w1 hown1 hgrow1
  have hm1 := marks_of_made hown1
  obtain ⟨mc0, mf0⟩ := marks_cell hm1 (i := 0) (by omega)
  have hm2 := marks_set hm1 (i := 0) (by omega)
  obtain ⟨mc1, mf1⟩ := marks_cell hm2 (i := n - 1) (by omega)
  have hm3 := marks_set hm2 (i := n - 1) (by omega)
  rw [marks_congr (M' := fun i => i == 0 || i == n - 1) (by intro i _; simp)] at hm3
  have hgb := gb_set (gb_set (gb_weak hgrow1 (some w.heap.size)) 0 (.int .u8 1)) (n - 1) (.int .u8 1)
  have hpsw := pts_grown HPS.out hgb (by simp; omega)
  have hthw : w1.cell? ⟨bs, 0, none⟩ = some (.float .f64 thr) := hgrow1.cell hth (by simp)
  have hcall := dp_any g cap n w.heap.size n ps thr _ hn h2 hn60 hpsw (by omega) hm3 hthr ht ht0 hwh
  have H1 := Lib.hid hm1
  have H2 := Lib.hid hm2
  have H3 := Lib.hid hm3
  have HGB := Lib.hid hgb
  have HG1 := Lib.hid hgrow1
  have e1 : ((n : Nat) : Int) - 1 = ((n - 1 : Nat) : Int) := by omega
  have hn1 : 0 < n := by omega
  have hn1' : (1 : Int) ≤ n := by omega
  clear hm1 hm2 hm3 hgb hown1 hgrow1 hpsw
  clear e1
  rw [← HTE.out] at hcall
  clear ht ht0 hthr
  go_wp2_with fail
  refine hcall.mono ?_
  rintro e w3 ⟨c, rfl, hm3, hg3⟩
  have hgb3 := gb_own HGB.out hg3 (by intro k hk; simp at hk; omega)
  have hmv3 := moving_frame HMV.out (hgb3.block g hgw (by simp; omega))
  have hb3 : Below B w w3 := ⟨hgb3.os, hgb3.tape, hgb3.output, hgb3.size, fun k hk => hgb3.block k (by omega) (by simp; omega)⟩
  have hms3 : w.heap.size < w3.heap.size := lt_of_block hm3
  have HM3 := Lib.hid hm3
  have HMV3 := Lib.hid hmv3
  have HB3 := Lib.hid hb3
  clear hm3 hmv3 hg3 hgb3 hcall mc0 mf0 mc1 mf1 hb3 hthw hth
  go_wp2
  go_loopw [12, 13, 38] (fun mv cv iv wr => ∃ k cc : Nat, (k ≤ n ∧ cc ≤ k) ∧ mv = .slice none 0 0 ∧ cv = .int .i64 cc ∧ iv = .int .i64 k ∧ Hid (cc = (keptTo ps t k).length) ∧ Hid (Moving wr g (keptTo ps t k) ps k) ∧ Hid (wr.heap[w.heap.size]? = some (.cells (marks n (target ps t)) 5 (0, 0))) ∧ Below B w wr) (fun _ _ iv _ => n - (intOf iv).toNat)
  case atStart => exact ⟨0, 0, ⟨by omega, by omega⟩, rfl, rfl, rfl, Lib.hid rfl, HMV3, HM3, HB3.out⟩
  case round =>
    obtain ⟨k, cc, hk, rfl, rfl, rfl, HC, HMK, HMM, hb⟩ := hrel
    by_cases hlt : k < n
    · have hp : ps[k]? = some ps[k] := List.getElem?_eq_getElem (by omega)
      obtain ⟨⟨x, y⟩, hpe⟩ : ∃ p, p = ps[k] := ⟨_, rfl⟩
      rw [← hpe] at hp
      clear hpe
      obtain ⟨mk, mf⟩ := marks_cell HMM.out (i := k) hlt
      have hc' := HC.out
      by_cases hT : target ps t k = true
      · rw [hT, if_pos rfl] at mk
        have src := HMK.out.2.1 k _ (Nat.le_refl _) hp
        have dst0 := HMK.out.2.2.1 (cc * 2) (by omega)
        have dst1 := HMK.out.2.2.1 (cc * 2 + 1) (by omega)
        obtain ⟨v0, d0⟩ := Option.isSome_iff_exists.1 dst0
        obtain ⟨v1, d1⟩ := Option.isSome_iff_exists.1 dst1
        have d1' : (wr.setCell ⟨g, cc * 2, none⟩ (.float .f64 x)).cell? ⟨g, cc * 2 + 1, none⟩ = some v1 := by rw [cell_set_ne (by omega)]; exact d1
        have f0 := HMK.out.2.2.2 (cc * 2)
        have f1 : (wr.setCell ⟨g, cc * 2, none⟩ (.float .f64 x)).frozen? ⟨g, cc * 2 + 1, none⟩ = false := by rw [frozen_set]; exact HMK.out.2.2.2 (cc * 2 + 1)
        simp only [Nat.zero_add] at src
        obtain ⟨s0, s1⟩ := src
        have HP := Lib.hid hp
        have HB := Lib.hid hb
        clear hc' hp hb dst0 dst1
        go_wp2
        go_roundw
        case rel =>
          have hmk := moving_keep (p := (x, y)) HMK.out (by omega) (keptTo_le ps t k)
          rw [← HC.out, ← keptTo_yes HP.out hT] at hmk
          refine ⟨k + 1, cc + 1, ⟨by omega, by omega⟩, rfl, by go_num, by go_num, Lib.hid ?_, Lib.hid hmk, Lib.hid ?_, (HB.out.setCell hBg _).setCell hBg _⟩
          · rw [keptTo_yes HP.out hT, List.length_append, ← HC.out]; rfl
          · rw [Below.heap_setCell _ _ _ _ (by simp; omega), Below.heap_setCell _ _ _ _ (by simp; omega)]; exact HMM.out
        case measure => simp [intOf]; omega
      · have hT' : target ps t k = false := by simpa using hT
        rw [hT', if_neg (by simp)] at mk
        clear hT hc'
        go_wp2
        go_roundw
        case rel => exact ⟨k + 1, cc, ⟨by omega, by omega⟩, rfl, rfl, by go_num, Lib.hid (by rw [keptTo_no hT']; exact HC.out), Lib.hid (by rw [keptTo_no hT']; exact moving_skip HMK.out), HMM, hb⟩
        case measure => simp [intOf]; omega
    · obtain rfl : k = n := by omega
      have hcc : cc ≤ cap := by omega
      clear hn
      go_wp2
      go_ret2
      refine ⟨cc, rfl, HC.out, HMK.out.1, hb⟩
end Go.Proofs.Ytoibohoelcdomaa
