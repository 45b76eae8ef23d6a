/- The walks of spec.SamePoints and spec.SameShape on equal shapes. -/
import Derived.Test.YtjbjjphgnilhmaaGreatDoorDs
import Derived.Deep.QuietTactic
import Derived.BigQuiet
import Derived.Deep.RegionHeld3
set_option linter.unusedVariables false
set_option linter.unusedSimpArgs false
namespace Go.Proofs.YtjbjjphgnilhmaaGreatDoor
open Go.RowKit

theorem sbits_any (x : Nat) (w : World) : Calls Tryz.prog 36 #[.float .f64 x, .float .f64 x] w fun e w' => e = .returned (.bool true) ∧ w' = w := by
  have h1 := call_bits x
  go_enter Tryz.func36, Tryz.ntmps36
  go_wp2_with fail
  go_ret
  exact ⟨rfl, rfl⟩

set_option maxRecDepth 100000 in
set_option maxHeartbeats 1000000 in
theorem spts_any {E0 E1 : TypeId} (v1 v2 : Value) (ps : List By.Pt) (H1 H2 : Knows) (l1 l2 : Nat) (w : World) (hv1 : rowIs repPt E0 H1 v1 ps) (hH1 : Has l1 H1 w) (hv2 : rowIs repPt E1 H2 v2 ps) (hH2 : Has l2 H2 w) (hn : ps.length ≤ 2147483647) :
    Calls Tryz.prog 17 #[v1, v2] w fun e w' => e = .returned (.bool true) ∧ Below w.heap.size w w' := by
  obtain ⟨ga, capa, rfl, hcapa⟩ := RowIs.form hv1
  obtain ⟨gb, capb, rfl, hcapb⟩ := RowIs.form hv2
  have HA := Lib.hid (pts_at hv1 hH1)
  have HBB := Lib.hid (pts_at hv2 hH2)
  obtain ⟨n, hne⟩ : ∃ n, n = ps.length := ⟨_, rfl⟩
  rw [← hne] at hn hcapa hcapb ⊢
  have HNE := Lib.hid hne
  clear hv1 hv2 hH1 hH2 hne
  go_enter Tryz.func17, Tryz.ntmps17
  go_wp2_with fail
  go_loopw [13] (fun i wr => ∃ k : Nat, k ≤ n ∧ i = .int .i64 k ∧ Hid (Below w.heap.size w wr)) (fun i _ => n - (intOf i).toNat)
  case atStart => exact ⟨0, Nat.zero_le _, rfl, Lib.hid (Below.refl _ _)⟩
  case round =>
    obtain ⟨k, hk, rfl, HB⟩ := hrel
    by_cases hlt : k < n
    · have hp : ps[k]? = some (ps[k]'(by have := HNE.out; omega)) := List.getElem?_eq_getElem (by have := HNE.out; omega)
      obtain ⟨p, hpe⟩ : ∃ p, p = ps[k]'(by have := HNE.out; omega) := ⟨_, rfl⟩
      rw [← hpe] at hp
      obtain ⟨c0, c1⟩ := HA.out k p hp
      obtain ⟨d0, d1⟩ := HBB.out k p hp
      have c0' := cell_later HB.out c0
      have c1' := cell_later HB.out c1
      have d0' := cell_later HB.out d0
      have d1' := cell_later HB.out d1
      have hki : ((k : Nat) : Int) < n := by omega
      clear c0 c1 d0 d1 hp hpe
      go_wp2_with fail
      go_quiet ((go_at_call 36; exact Calls.quiet_of_same (sbits_any _ _)))
      go_wp2_with fail
      go_roundw
      case rel => exact ⟨k + 1, by omega, by go_num, Lib.hid (below_drewN HB.out _)⟩
      case measure => simp [intOf]; omega
    · obtain rfl : k = n := by omega
      go_wp2_with fail
      go_ret
      exact ⟨rfl, HB.out⟩

/-! ### Shapes of the package, as kinds, lists, parts -/

def knd : By.G → Nat
  | .pt _ => 1 | .ln _ => 2 | .pg _ => 3 | .mp _ => 4 | .ml _ => 5 | .mg _ => 6 | .co _ => 7
def lsts : By.G → List (List By.Pt)
  | .pt p => [[p]] | .ln l => [l] | .pg l => l | .mp l => [l] | .ml l => l | .mg _ => [] | .co _ => []
def subs : By.G → List By.G
  | .mg l => l.map .pg | .co l => l | _ => []
theorem shG_eq (g : By.G) : shG g = .mk (knd g) (lsts g) ((subs g).map shG) := by
  cases g with
  | co l => show Sh.mk 7 [] (shGs l) = _; rw [shGs_map]; rfl
  | mg l => show Sh.mk 6 [] _ = Sh.mk 6 [] _; simp only [subs, List.map_map]; rfl
  | _ => rfl
theorem lsts_small {g : By.G} (h : By.size g ≤ 2147483647) : (lsts g).length ≤ 2147483647 ∧ ∀ l ∈ lsts g, l.length ≤ 2147483647 := by
  cases g with
  | pt p => exact ⟨by simp [lsts], fun l hl => by simp [lsts] at hl; subst hl; simp⟩
  | ln l => exact ⟨by simp [lsts], fun x hl => by simp [lsts] at hl; subst hl; exact size_ln h⟩
  | mp l => exact ⟨by simp [lsts], fun x hl => by simp [lsts] at hl; subst hl; exact size_mp h⟩
  | pg l => exact size_pg h
  | ml l => exact size_ml h
  | mg l => exact ⟨by simp [lsts], fun x hl => by simp [lsts] at hl⟩
  | co l => exact ⟨by simp [lsts], fun x hl => by simp [lsts] at hl⟩
theorem subs_small {g : By.G} (h : By.size g ≤ 2147483647) : (subs g).length ≤ 2147483647 ∧ ∀ l ∈ subs g, By.size l ≤ 2147483647 := by
  cases g with
  | co l => exact size_co h
  | mg l =>
    refine ⟨by have := (size_mg h).1; simpa [subs] using this, fun x hx => ?_⟩
    obtain ⟨r, hr, rfl⟩ := List.mem_map.1 hx
    simp only [By.size] at h ⊢
    have h1 : 9 + By.ringsSize r ≤ _ := total_each (fun l : List (List By.Pt) => 9 + By.ringsSize l) hr
    omega
  | _ => exact ⟨by simp [subs], fun x hx => by simp [subs] at hx⟩
/-- Two slices that hold as many. -/
theorem IsS.parts {f : Nat} {H : Knows} {us : List Value} {g : By.G} {w : World} {lo : Nat} (h : IsS (f + 1) H us (shG g)) (hH : Has lo H w) : ∃ ao cap bo d, us = [.int .i64 (knd g), .slice ao (lsts g).length cap, .slice bo (subs g).length d] ∧ (lsts g).length ≤ cap ∧ (subs g).length ≤ d ∧
    (∀ (i : Nat) l, (lsts g)[i]? = some l → ∃ b x, ao = some ⟨b, 0, none⟩ ∧ w.cell? ⟨b, i, none⟩ = some x ∧ rowIs repPt 70 H x l) ∧
    (∀ (i : Nat) s, (subs g)[i]? = some s → ∃ b k3 ao3 n3 cap3 bo3 m3 d3, bo = some ⟨b, 0, none⟩ ∧ w.cell? ⟨b, i * 3, none⟩ = some (.int .i64 (k3 : Nat)) ∧ w.cell? ⟨b, i * 3 + 1, none⟩ = some (.slice ao3 n3 cap3) ∧ w.cell? ⟨b, i * 3 + 2, none⟩ = some (.slice bo3 m3 d3) ∧ IsS f H [.int .i64 (k3 : Nat), .slice ao3 n3 cap3, .slice bo3 m3 d3] (shG s)) := by
  rw [shG_eq] at h
  obtain ⟨vl, vp, rfl, hl, hp⟩ := h
  obtain ⟨ao, cap, rfl, hc, h1⟩ := rowz_at hl hH
  obtain ⟨bo, d, rfl, hd, h2⟩ := rowz_at hp hH
  rw [List.length_map] at hd ⊢
  refine ⟨ao, cap, bo, d, rfl, hc, hd, fun i l hi => ?_, fun i s hi => ?_⟩
  · obtain ⟨b, us, rfl, _, ⟨x, rfl, hx⟩, hcell⟩ := h1 i l hi
    exact ⟨b, x, rfl, by simpa using hcell 0 x rfl, hx⟩
  · obtain ⟨b, us, rfl, _, hx, hcell⟩ := h2 i (shG s) (by rw [List.getElem?_map, hi]; rfl)
    obtain ⟨k3, ao3, n3, cap3, bo3, m3, d3, rfl⟩ := hx.form
    exact ⟨b, k3, ao3, n3, cap3, bo3, m3, d3, rfl, by simpa using hcell 0 _ rfl, hcell 1 _ rfl, hcell 2 _ rfl, hx⟩
/-- SameShape as it should be, of shapes of a depth. -/
def Sames (f : Nat) : Prop := ∀ (us vs : List Value) (g : By.G) (H1 H2 : Knows) (l1 l2 : Nat) (w : World), IsS f H1 us (shG g) → Has l1 H1 w → IsS f H2 vs (shG g) → Has l2 H2 w → By.size g ≤ 2147483647 →
    Calls Tryz.prog 8 #[.agg us.toArray, .agg vs.toArray] w fun e w' => e = .returned (.bool true) ∧ Below w.heap.size w w'

set_option maxRecDepth 100000 in
set_option maxHeartbeats 1000000 in
theorem same_step (f : Nat) (ih : Sames f) : Sames (f + 1) := by
  intro us vs g H1 H2 l1 l2 w h1 hH1 h2 hH2 hs
  obtain ⟨hn, hnl⟩ := lsts_small hs
  obtain ⟨hm, hms⟩ := subs_small hs
  obtain ⟨ao, ca, bo, da, rfl, hca, hda, hA1, hA2⟩ := h1.parts hH1
  obtain ⟨co, cb, qo, db, rfl, hcb, hdb, hB1, hB2⟩ := h2.parts hH2
  obtain ⟨n, hne⟩ : ∃ n, n = (lsts g).length := ⟨_, rfl⟩
  obtain ⟨m, hme⟩ : ∃ m, m = (subs g).length := ⟨_, rfl⟩
  obtain ⟨k, hke⟩ : ∃ k, k = knd g := ⟨_, rfl⟩
  rw [← hne] at hn hca hcb ⊢
  rw [← hme] at hm hda hdb ⊢
  rw [← hke]
  obtain ⟨W0, hW0⟩ : ∃ W, W = (w.alloc (.cells #[.int .i64 k, .slice ao n ca, .slice bo m da] 26)).alloc (.cells #[.int .i64 k, .slice co n cb, .slice qo m db] 26) := ⟨_, rfl⟩
  have r0 : Blk W0 w.heap.size #[.int .i64 k, .slice ao n ca, .slice bo m da] 26 := by rw [hW0]; exact (Blk.new w _ _).alloc _
  have s0 : Blk W0 (w.heap.size + 1) #[.int .i64 k, .slice co n cb, .slice qo m db] 26 := by
    have := Blk.new (w.alloc (.cells #[.int .i64 k, .slice ao n ca, .slice bo m da] 26)) #[.int .i64 k, .slice co n cb, .slice qo m db] 26
    rw [World.size_alloc] at this
    rw [hW0]; exact this
  have b0 : Below w.heap.size w W0 := by rw [hW0]; exact ((Below.refl _ _).alloc (Nat.le_refl _) _).alloc (by simp) _
  have HS0 := Lib.hid (⟨r0, s0, b0⟩ : _ ∧ _ ∧ _)
  have HW0 := Lib.hid hW0
  have HN := Lib.hid (⟨hne, hme⟩ : _ ∧ _)
  have HH := Lib.hid (⟨hH1, hH2⟩ : _ ∧ _)
  have HAA := Lib.hid (⟨hA1, hA2⟩ : _ ∧ _)
  have HBB := Lib.hid (⟨hB1, hB2⟩ : _ ∧ _)
  have HM := Lib.hid (⟨hnl, hms⟩ : _ ∧ _)
  have IH := Lib.hid ih
  clear h1 h2 hH1 hH2 hs hnl hms hA1 hA2 hB1 hB2 hne hme hke hW0 r0 s0 b0 ih
  go_enter Tryz.func8, Tryz.ntmps8
  go_wp2_with fail
  rw [← HW0.out]
  go_loopw [33] (fun iv wr => ∃ i : Nat, i ≤ n ∧ iv = .int .i64 i ∧ Hid (Blk wr w.heap.size #[.int .i64 k, .slice ao n ca, .slice bo m da] 26 ∧ Blk wr (w.heap.size + 1) #[.int .i64 k, .slice co n cb, .slice qo m db] 26 ∧ Below w.heap.size w wr)) (fun iv _ => n - (intOf iv).toNat)
  case atStart => exact ⟨0, Nat.zero_le _, rfl, HS0⟩
  case round =>
    clear HS0
    obtain ⟨i, hi, rfl, HB⟩ := hrel
    obtain ⟨c1, _⟩ := HB.out.1.cell (i := 1) (v := .slice ao n ca) rfl
    obtain ⟨e1, _⟩ := HB.out.2.1.cell (i := 1) (v := .slice co n cb) rfl
    by_cases hlt : i < n
    · have hp : (lsts g)[i]? = some ((lsts g)[i]'(by have := HN.out.1; omega)) := List.getElem?_eq_getElem (by have := HN.out.1; omega)
      obtain ⟨l, hpe⟩ : ∃ l, l = (lsts g)[i]'(by have := HN.out.1; omega) := ⟨_, rfl⟩
      rw [← hpe] at hp
      obtain ⟨ba, x, rfl, ca0, hx⟩ := HAA.out.1 i l hp
      obtain ⟨bb, y, rfl, cb0, hy⟩ := HBB.out.1 i l hp
      have cx := cell_later HB.out.2.2 ca0
      have cy := cell_later HB.out.2.2 cb0
      have hcall := spts_any x y l H1 H2 l1 l2 wr.drew hx ((HH.out.1.below HB.out.2.2).below ((Below.refl wr.heap.size wr).drew)) hy ((HH.out.2.below HB.out.2.2).below ((Below.refl wr.heap.size wr).drew)) (HM.out.1 l (List.mem_of_getElem? hp))
      have HC := Lib.hid hcall
      have hin : (i : Int) < n := by omega
      clear hp hpe ca0 cb0 hx hy hcall
      go_wp2_with fail
      go_region_held3 (fun w' => w'.cell? ⟨w.heap.size, 1, none⟩ = some (.slice (some ⟨ba, 0, none⟩) n ca) ∧ w'.cell? ⟨w.heap.size + 1, 1, none⟩ = some (.slice (some ⟨bb, 0, none⟩) n cb) ∧ w'.cell? ⟨ba, i, none⟩ = some x ∧ w'.cell? ⟨bb, i, none⟩ = some y)
        (first | exact ⟨c1, e1, cx, cy⟩ | exact ⟨cell_later hb c1, cell_later hb e1, cell_later hb cx, cell_later hb cy⟩)
        ((go_at_call 17; refine Calls.mono HC.out ?_; rintro e w1 ⟨rfl, hb'⟩; have hb := below_drew_un hb'; clear hb'))
      all_goals
        have H2 := Lib.hid (⟨HB.out.1.below hb HB.out.1.lt, HB.out.2.1.below hb HB.out.2.1.lt, HB.out.2.2.trans (hb.mono HB.out.2.2.size)⟩ : _ ∧ _ ∧ _)
        clear hb c1 e1 cx cy HC
        go_wp2_with fail
        go_roundw
        case rel => exact ⟨i + 1, by omega, by go_num, H2⟩
        case measure => simp [intOf]; omega
    · obtain rfl : n = i := by omega
      obtain ⟨c2, _⟩ := HB.out.1.cell (i := 2) (v := .slice bo m da) rfl
      clear hlt
      go_wp2_with fail
      go_loopw [52] (fun iv wr => ∃ i : Nat, i ≤ m ∧ iv = .int .i64 i ∧ Hid (Blk wr w.heap.size #[.int .i64 k, .slice ao n ca, .slice bo m da] 26 ∧ Blk wr (w.heap.size + 1) #[.int .i64 k, .slice co n cb, .slice qo m db] 26 ∧ Below w.heap.size w wr)) (fun iv _ => m - (intOf iv).toNat)
      case atStart => exact ⟨0, Nat.zero_le _, rfl, HB⟩
      case round =>
        clear HB c1 e1 c2
        obtain ⟨i, hi, rfl, HB⟩ := hrel
        obtain ⟨c1, _⟩ := HB.out.1.cell (i := 2) (v := .slice bo m da) rfl
        obtain ⟨e1, _⟩ := HB.out.2.1.cell (i := 2) (v := .slice qo m db) rfl
        by_cases hlt : i < m
        · have hp : (subs g)[i]? = some ((subs g)[i]'(by have := HN.out.2; omega)) := List.getElem?_eq_getElem (by have := HN.out.2; omega)
          obtain ⟨l, hpe⟩ : ∃ l, l = (subs g)[i]'(by have := HN.out.2; omega) := ⟨_, rfl⟩
          rw [← hpe] at hp
          obtain ⟨ba, k3, ao3, n3, cap3, bo3, m3, d3, rfl, a0, a1, a2, hx⟩ := HAA.out.2 i l hp
          obtain ⟨bb, k4, ao4, n4, cap4, bo4, m4, d4, rfl, q0, q1, q2, hy⟩ := HBB.out.2 i l hp
          have a0' := cell_later HB.out.2.2 a0
          have a1' := cell_later HB.out.2.2 a1
          have a2' := cell_later HB.out.2.2 a2
          have q0' := cell_later HB.out.2.2 q0
          have q1' := cell_later HB.out.2.2 q1
          have q2' := cell_later HB.out.2.2 q2
          have hcall := IH.out _ _ l H1 H2 l1 l2 wr.drew hx ((HH.out.1.below HB.out.2.2).below ((Below.refl wr.heap.size wr).drew)) hy ((HH.out.2.below HB.out.2.2).below ((Below.refl wr.heap.size wr).drew)) (HM.out.2 l (List.mem_of_getElem? hp))
          have HC := Lib.hid hcall
          have hin : (i : Int) < m := by omega
          clear hp hpe a0 a1 a2 q0 q1 q2 hx hy hcall
          go_wp2_with fail
          go_region_held3 (fun w' => w'.cell? ⟨w.heap.size, 2, none⟩ = some (.slice (some ⟨ba, 0, none⟩) m da) ∧ w'.cell? ⟨w.heap.size + 1, 2, none⟩ = some (.slice (some ⟨bb, 0, none⟩) m db) ∧ w'.cell? ⟨ba, i * 3, none⟩ = some (.int .i64 k3) ∧ w'.cell? ⟨ba, i * 3 + 1, none⟩ = some (.slice ao3 n3 cap3) ∧ w'.cell? ⟨ba, i * 3 + 2, none⟩ = some (.slice bo3 m3 d3) ∧ w'.cell? ⟨bb, i * 3, none⟩ = some (.int .i64 k4) ∧ w'.cell? ⟨bb, i * 3 + 1, none⟩ = some (.slice ao4 n4 cap4) ∧ w'.cell? ⟨bb, i * 3 + 2, none⟩ = some (.slice bo4 m4 d4))
            (first | exact ⟨c1, e1, a0', a1', a2', q0', q1', q2'⟩ | exact ⟨cell_later hb c1, cell_later hb e1, cell_later hb a0', cell_later hb a1', cell_later hb a2', cell_later hb q0', cell_later hb q1', cell_later hb q2'⟩)
            ((go_at_call 8; refine Calls.mono HC.out ?_; rintro e w1 ⟨rfl, hb'⟩; have hb := below_drew_un hb'; clear hb'))
          all_goals
            have H2 := Lib.hid (⟨HB.out.1.below hb HB.out.1.lt, HB.out.2.1.below hb HB.out.2.1.lt, HB.out.2.2.trans (hb.mono HB.out.2.2.size)⟩ : _ ∧ _ ∧ _)
            clear hb c1 e1 a0' a1' a2' q0' q1' q2' HC
            go_wp2_with fail
            go_roundw
            case rel => exact ⟨i + 1, by omega, by go_num, H2⟩
            case measure => simp [intOf]; omega
        · obtain rfl : m = i := by omega
          go_wp2_with fail
          go_ret
          exact ⟨rfl, HB.out.2.2⟩
theorem same_any : ∀ f, Sames f
  | 0 => fun us vs g H1 H2 l1 l2 w h1 _ _ _ _ => h1.elim
  | f + 1 => same_step f (same_any f)
end Go.Proofs.YtjbjjphgnilhmaaGreatDoor
