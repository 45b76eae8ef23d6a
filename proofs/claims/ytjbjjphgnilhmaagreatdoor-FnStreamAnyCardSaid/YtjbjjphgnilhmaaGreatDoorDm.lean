/- The walk of GeomLength. -/
import Derived.Test.YtjbjjphgnilhmaaGreatDoorDa
import Derived.Test.YtjbjjphgnilhmaaGreatDoorDf
set_option linter.unusedVariables false
set_option linter.unusedSimpArgs false
namespace Go.Proofs.YtjbjjphgnilhmaaGreatDoor
open Go.RowKit

/-- What GeomLength gives. -/
def Length (g : By.G) (w : World) (e : Ending) (w' : World) : Prop := e = .returned (.int .i64 (By.size g)) ∧ Below w.heap.size w w'
theorem gl_pt (p : By.Pt) (w : World) : Calls Tryz.prog 30 #[.iface 68 (.agg #[.float .f64 p.1, .float .f64 p.2]), .bool false] w (Length (.pt p) w) := by
  go_enter Tryz.func30, Tryz.ntmps30
  go_wp2_with fail
  go_ret
  exact ⟨rfl, (Below.refl _ _).alloc (Nat.le_refl _) _⟩

theorem gl_ln (g : Addr) (n cap : Nat) (l : List By.Pt) (w : World) (hl : l.length = n) (hs : By.size (.ln l) ≤ 2147483647) : Calls Tryz.prog 30 #[.iface 72 (.slice (some g) n cap), .bool false] w (Length (.ln l) w) := by
  simp only [By.size, hl] at hs
  have HL := Lib.hid hl
  clear hl
  go_enter Tryz.func30, Tryz.ntmps30
  go_wp2_with fail
  go_ret
  refine ⟨?_, Below.refl _ _⟩
  rw [By.size, HL.out]
  go_num

theorem gl_mp (g : Addr) (n cap : Nat) (l : List By.Pt) (w : World) (hl : l.length = n) (hs : By.size (.mp l) ≤ 2147483647) : Calls Tryz.prog 30 #[.iface 77 (.slice (some g) n cap), .bool false] w (Length (.mp l) w) := by
  simp only [By.size, hl] at hs
  have HL := Lib.hid hl
  clear hl
  go_enter Tryz.func30, Tryz.ntmps30
  go_wp2_with fail
  go_ret
  refine ⟨?_, Below.refl _ _⟩
  rw [By.size, HL.out]
  go_num

theorem total_snoc {α : Type} (k : α → Nat) {l : List α} {j : Nat} {x : α} (h : l[j]? = some x) : By.total k (l.take (j + 1)) = By.total k (l.take j) + k x := by
  rw [List.take_succ_of h]
  have e : ∀ (a : List α), By.total k (a ++ [x]) = By.total k a + k x := fun a => by
    induction a with
    | nil => simp [By.total]
    | cons b a ih => simp only [List.cons_append, By.total, ih]; omega
  exact e _
theorem total_app {α : Type} (k : α → Nat) : ∀ a b : List α, By.total k (a ++ b) = By.total k a + By.total k b
  | [], b => by simp [By.total]
  | x :: a, b => by simp only [List.cons_append, By.total, total_app k a b]; omega
theorem total_room {α : Type} (k : α → Nat) {l : List α} {j : Nat} {x : α} (h : l[j]? = some x) : By.total k (l.take j) + k x ≤ By.total k l := by
  rw [← total_snoc k h]
  conv => rhs; rw [← List.take_append_drop (j + 1) l, total_app]
  omega

set_option maxRecDepth 100000 in
set_option maxHeartbeats 1000000 in
theorem gl_ml {E0 E1 : TypeId} (g cap : Nat) (gs : List (List By.Pt)) (K : Knows) (lo : Nat) (w : World) (hv : rowIs (repRow repPt E0) E1 K (.slice (some ⟨g, 0, none⟩) gs.length cap) gs) (hH : Has lo K w) (hs : By.size (.ml gs) ≤ 2147483647) : Calls Tryz.prog 30 #[.iface 79 (.slice (some ⟨g, 0, none⟩) gs.length cap), .bool false] w (Length (.ml gs) w) := by
  have hRW := rows_at hv hH
  have hT : By.size (.ml gs) = 9 + By.total (fun l : List By.Pt => 9 + 16 * l.length) gs := by simp only [By.size]
  obtain ⟨n, hne⟩ : ∃ n, n = gs.length := ⟨_, rfl⟩
  obtain ⟨T, hTe⟩ : ∃ T, T = By.total (fun l : List By.Pt => 9 + 16 * l.length) gs := ⟨_, rfl⟩
  rw [hT, ← hTe] at hs
  have HRW := Lib.hid hRW
  have HNE := Lib.hid (⟨hne, hTe, hT⟩ : _ ∧ _ ∧ _)
  have hn31 := (size_ml (l := gs) (by rw [hT, ← hTe]; exact hs)).1
  rw [← hne] at hn31 ⊢
  clear hv hH hRW hT hne hTe
  go_enter Tryz.func30, Tryz.ntmps30
  go_wp2_with fail
  go_loopw [10, 55] (fun sv jv wr => ∃ (j s : Nat), j ≤ n ∧ jv = .int .i64 j ∧ sv = .int .i64 s ∧ Hid (s = By.total (fun l : List By.Pt => 9 + 16 * l.length) (gs.take j)) ∧ wr = w) (fun _ jv _ => n - (intOf jv).toNat)
  case atStart => exact ⟨0, 0, Nat.zero_le _, rfl, rfl, Lib.hid rfl, rfl⟩
  case round =>
    obtain ⟨j, s, hj, rfl, rfl, HS, rfl⟩ := hrel
    by_cases hlt : j < n
    · have hps : gs[j]? = some (gs[j]'(by have := HNE.out.1; omega)) := List.getElem?_eq_getElem (by have := HNE.out.1; omega)
      obtain ⟨p, hpe⟩ : ∃ p, p = gs[j]'(by have := HNE.out.1; omega) := ⟨_, rfl⟩
      rw [← hpe] at hps
      obtain ⟨x, d0, hx⟩ := HRW.out j p hps
      obtain ⟨g2, cap2, rfl, _⟩ := RowIs.form hx
      obtain ⟨m, hm⟩ : ∃ m, m = p.length := ⟨_, rfl⟩
      have hroom := total_room (fun l : List By.Pt => 9 + 16 * l.length) hps
      rw [← HS.out, ← HNE.out.2.1, ← hm] at hroom
      rw [← hm] at d0
      have hsn := total_snoc (fun l : List By.Pt => 9 + 16 * l.length) hps
      rw [← HS.out, ← hm] at hsn
      have HSN := Lib.hid hsn
      have hjn : (j : Int) < n := by omega
      clear hpe hps hx hm hsn
      go_wp2_with fail
      go_roundw
      case rel => exact ⟨j + 1, s + (9 + 16 * m), by omega, by go_num, by go_num, Lib.hid HSN.out.symm, by trivial⟩
      case measure => simp [intOf]; omega
    · obtain rfl : j = n := by omega
      have hle : gs.take j = gs := List.take_of_length_le (by have := HNE.out.1; omega)
      have hS := HS.out
      rw [hle, ← HNE.out.2.1] at hS
      subst hS
      clear hle hlt
      go_wp2_with fail
      go_ret
      refine ⟨?_, Below.refl _ _⟩
      rw [HNE.out.2.2, ← HNE.out.2.1]
      go_num

set_option maxRecDepth 100000 in
set_option maxHeartbeats 1000000 in
theorem gl_pg {E0 E1 : TypeId} (g cap : Nat) (gs : List (List By.Pt)) (K : Knows) (lo : Nat) (w : World) (hv : rowIs (repRow repPt E0) E1 K (.slice (some ⟨g, 0, none⟩) gs.length cap) gs) (hH : Has lo K w) (hs : By.size (.pg gs) ≤ 2147483647) : Calls Tryz.prog 30 #[.iface 75 (.slice (some ⟨g, 0, none⟩) gs.length cap), .bool false] w (Length (.pg gs) w) := by
  have hRW := rows_at hv hH
  have hT : By.size (.pg gs) = 9 + By.total (fun l : List By.Pt => 4 + 16 * l.length) gs := by simp only [By.size, ← By.total_rings]
  obtain ⟨n, hne⟩ : ∃ n, n = gs.length := ⟨_, rfl⟩
  obtain ⟨T, hTe⟩ : ∃ T, T = By.total (fun l : List By.Pt => 4 + 16 * l.length) gs := ⟨_, rfl⟩
  rw [hT, ← hTe] at hs
  have HRW := Lib.hid hRW
  have HNE := Lib.hid (⟨hne, hTe, hT⟩ : _ ∧ _ ∧ _)
  have hn31 := (size_pg (l := gs) (by rw [hT, ← hTe]; exact hs)).1
  rw [← hne] at hn31 ⊢
  clear hv hH hRW hT hne hTe
  go_enter Tryz.func30, Tryz.ntmps30
  go_wp2_with fail
  go_loopw [14, 75] (fun sv jv wr => ∃ (j s : Nat), j ≤ n ∧ jv = .int .i64 j ∧ sv = .int .i64 s ∧ Hid (s = By.total (fun l : List By.Pt => 4 + 16 * l.length) (gs.take j)) ∧ wr = w) (fun _ jv _ => n - (intOf jv).toNat)
  case atStart => exact ⟨0, 0, Nat.zero_le _, rfl, rfl, Lib.hid rfl, rfl⟩
  case round =>
    obtain ⟨j, s, hj, rfl, rfl, HS, rfl⟩ := hrel
    by_cases hlt : j < n
    · have hps : gs[j]? = some (gs[j]'(by have := HNE.out.1; omega)) := List.getElem?_eq_getElem (by have := HNE.out.1; omega)
      obtain ⟨p, hpe⟩ : ∃ p, p = gs[j]'(by have := HNE.out.1; omega) := ⟨_, rfl⟩
      rw [← hpe] at hps
      obtain ⟨x, d0, hx⟩ := HRW.out j p hps
      obtain ⟨g2, cap2, rfl, _⟩ := RowIs.form hx
      obtain ⟨m, hm⟩ : ∃ m, m = p.length := ⟨_, rfl⟩
      have hroom := total_room (fun l : List By.Pt => 4 + 16 * l.length) hps
      rw [← HS.out, ← HNE.out.2.1, ← hm] at hroom
      rw [← hm] at d0
      have hsn := total_snoc (fun l : List By.Pt => 4 + 16 * l.length) hps
      rw [← HS.out, ← hm] at hsn
      have HSN := Lib.hid hsn
      have hjn : (j : Int) < n := by omega
      clear hpe hps hx hm hsn
      go_wp2_with fail
      go_roundw
      case rel => exact ⟨j + 1, s + (4 + 16 * m), by omega, by go_num, by go_num, Lib.hid HSN.out.symm, by trivial⟩
      case measure => simp [intOf]; omega
    · obtain rfl : j = n := by omega
      have hle : gs.take j = gs := List.take_of_length_le (by have := HNE.out.1; omega)
      have hS := HS.out
      rw [hle, ← HNE.out.2.1] at hS
      subst hS
      clear hle hlt
      go_wp2_with fail
      go_ret
      refine ⟨?_, Below.refl _ _⟩
      rw [HNE.out.2.2, ← HNE.out.2.1]
      go_num

set_option maxRecDepth 100000 in
set_option maxHeartbeats 1000000 in
theorem gl_mg {f : Nat} (g cap : Nat) (gs : List (List (List By.Pt))) (K : Knows) (lo : Nat) (w : World) (hv : rowIs (repRow (repRow repPt 68) 127) 75 K (.slice (some ⟨g, 0, none⟩) gs.length cap) gs) (hH : Has lo K w) (hs : By.size (.mg gs) ≤ 2147483647) : Calls Tryz.prog 30 #[.iface 81 (.slice (some ⟨g, 0, none⟩) gs.length cap), .bool false] w (Length (.mg gs) w) := by
  have hT : By.size (.mg gs) = 9 + By.total (fun l : List (List By.Pt) => 9 + By.ringsSize l) gs := by simp only [By.size]
  obtain ⟨hn31, hm31⟩ := size_mg (l := gs) hs
  obtain ⟨n, hne⟩ : ∃ n, n = gs.length := ⟨_, rfl⟩
  obtain ⟨T, hTe⟩ : ∃ T, T = By.total (fun l : List (List By.Pt) => 9 + By.ringsSize l) gs := ⟨_, rfl⟩
  rw [hT, ← hTe] at hs
  have HRW := Lib.hid (rows_at hv hH)
  have HH := Lib.hid hH
  have HNE := Lib.hid (⟨hne, hTe, hT, hm31⟩ : _ ∧ _ ∧ _ ∧ _)
  skip
  rw [← hne] at hn31 ⊢
  clear hv hH hT hne hTe hm31
  go_enter Tryz.func30, Tryz.ntmps30
  go_wp2_with fail
  go_loopw [18, 95] (fun sv jv wr => ∃ (j s : Nat), j ≤ n ∧ jv = .int .i64 j ∧ sv = .int .i64 s ∧ Hid (s = By.total (fun l : List (List By.Pt) => 9 + By.ringsSize l) (gs.take j)) ∧ Hid (Below w.heap.size w wr)) (fun _ jv _ => n - (intOf jv).toNat)
  case atStart => exact ⟨0, 0, Nat.zero_le _, rfl, rfl, Lib.hid rfl, Lib.hid (Below.refl _ _)⟩
  case round =>
    obtain ⟨j, s, hj, rfl, rfl, HS, HB⟩ := hrel
    by_cases hlt : j < n
    · have hps : gs[j]? = some (gs[j]'(by have := HNE.out.1; omega)) := List.getElem?_eq_getElem (by have := HNE.out.1; omega)
      obtain ⟨p, hpe⟩ : ∃ p, p = gs[j]'(by have := HNE.out.1; omega) := ⟨_, rfl⟩
      rw [← hpe] at hps
      obtain ⟨x, d0', hx⟩ := HRW.out j p hps
      have d0 := cell_later HB.out d0'
      have hm := HNE.out.2.2.2 p (List.mem_of_getElem? hps)
      obtain ⟨g2, cap2, rfl, _⟩ := RowIs.form hx
      have hcall := gl_pg g2 cap2 p K lo wr hx (HH.out.below HB.out) (by have := total_room (fun l : List (List By.Pt) => 9 + By.ringsSize l) hps; rw [← HNE.out.2.1] at this; simp only [By.size]; omega)
      have hroom := total_room (fun l : List (List By.Pt) => 9 + By.ringsSize l) hps
      rw [← HS.out, ← HNE.out.2.1] at hroom
      have hsn := total_snoc (fun l : List (List By.Pt) => 9 + By.ringsSize l) hps
      rw [← HS.out] at hsn
      obtain ⟨m, hme⟩ : ∃ m, m = 9 + By.ringsSize p := ⟨_, rfl⟩
      rw [← hme] at hsn hroom
      have HSN := Lib.hid hsn
      have HME := Lib.hid hme
      have hjn : (j : Int) < n := by omega
      clear hpe hps hx hsn d0' hm hme
      go_wp2_with fail
      refine hcall.mono ?_
      rintro e w2 ⟨rfl, hb2⟩
      have HB2 := Lib.hid (HB.out.trans (hb2.mono HB.out.size))
      have hsz : (By.size (.pg p) : Nat) = m := by rw [HME.out, By.size]
      rw [hsz]
      clear hcall hb2 hsz
      go_wp2_with fail
      go_roundw
      case rel => exact ⟨j + 1, s + m, by omega, by go_num, by go_num, Lib.hid HSN.out.symm, HB2⟩
      case measure => simp [intOf]; omega
    · obtain rfl : j = n := by omega
      have hle : gs.take j = gs := List.take_of_length_le (by have := HNE.out.1; omega)
      have hS := HS.out
      rw [hle, ← HNE.out.2.1] at hS
      subst hS
      clear hle hlt
      go_wp2_with fail
      go_ret
      refine ⟨?_, HB.out⟩
      rw [HNE.out.2.2.1, ← HNE.out.2.1]
      go_num

/-- GeomLength as it should be, of shapes of a depth. -/
def Lengths (f : Nat) : Prop := ∀ (x : Value) (g : By.G) (K : Knows) (lo : Nat) (w : World), IsG f K x g → Has lo K w → By.size g ≤ 2147483647 → Calls Tryz.prog 30 #[x, .bool false] w (Length g w)

set_option maxRecDepth 100000 in
set_option maxHeartbeats 1000000 in
theorem gl_co {f : Nat} (ih : Lengths f) (g cap : Nat) (gs : List (By.G)) (K : Knows) (lo : Nat) (w : World) (hv : rowIs (repG f) 39 K (.slice (some ⟨g, 0, none⟩) gs.length cap) gs) (hH : Has lo K w) (hs : By.size (.co gs) ≤ 2147483647) : Calls Tryz.prog 30 #[.iface 83 (.slice (some ⟨g, 0, none⟩) gs.length cap), .bool false] w (Length (.co gs) w) := by
  have hT : By.size (.co gs) = 9 + By.total By.size gs := by simp only [By.size, ← By.sizes_total]
  obtain ⟨hn31, hm31⟩ := size_co (l := gs) hs
  obtain ⟨n, hne⟩ : ∃ n, n = gs.length := ⟨_, rfl⟩
  obtain ⟨T, hTe⟩ : ∃ T, T = By.total By.size gs := ⟨_, rfl⟩
  rw [hT, ← hTe] at hs
  have HRW := Lib.hid (geos_at hv hH)
  have HH := Lib.hid hH
  have HNE := Lib.hid (⟨hne, hTe, hT, hm31⟩ : _ ∧ _ ∧ _ ∧ _)
  have IH := Lib.hid ih
  rw [← hne] at hn31 ⊢
  clear hv hH hT hne hTe hm31 ih
  go_enter Tryz.func30, Tryz.ntmps30
  go_wp2_with fail
  go_loopw [22, 114] (fun sv jv wr => ∃ (j s : Nat), j ≤ n ∧ jv = .int .i64 j ∧ sv = .int .i64 s ∧ Hid (s = By.total By.size (gs.take j)) ∧ Hid (Below w.heap.size w wr)) (fun _ jv _ => n - (intOf jv).toNat)
  case atStart => exact ⟨0, 0, Nat.zero_le _, rfl, rfl, Lib.hid rfl, Lib.hid (Below.refl _ _)⟩
  case round =>
    obtain ⟨j, s, hj, rfl, rfl, HS, HB⟩ := hrel
    by_cases hlt : j < n
    · have hps : gs[j]? = some (gs[j]'(by have := HNE.out.1; omega)) := List.getElem?_eq_getElem (by have := HNE.out.1; omega)
      obtain ⟨p, hpe⟩ : ∃ p, p = gs[j]'(by have := HNE.out.1; omega) := ⟨_, rfl⟩
      rw [← hpe] at hps
      obtain ⟨x, d0', hx⟩ := HRW.out j p hps
      have d0 := cell_later HB.out d0'
      have hm := HNE.out.2.2.2 p (List.mem_of_getElem? hps)
      obtain ⟨tt, xx, rfl⟩ := hx.iface
      have hcall := IH.out (.iface tt xx) p K lo wr hx (HH.out.below HB.out) hm
      have hroom := total_room By.size hps
      rw [← HS.out, ← HNE.out.2.1] at hroom
      have hsn := total_snoc By.size hps
      rw [← HS.out] at hsn
      obtain ⟨m, hme⟩ : ∃ m, m = By.size p := ⟨_, rfl⟩
      rw [← hme] at hsn hroom
      have HSN := Lib.hid hsn
      have HME := Lib.hid hme
      have hjn : (j : Int) < n := by omega
      clear hpe hps hx hsn d0' hm hme
      go_wp2_with fail
      refine hcall.mono ?_
      rintro e w2 ⟨rfl, hb2⟩
      have HB2 := Lib.hid (HB.out.trans (hb2.mono HB.out.size))
      have hsz : (By.size p : Nat) = m := HME.out.symm
      rw [hsz]
      clear hcall hb2 hsz
      go_wp2_with fail
      go_roundw
      case rel => exact ⟨j + 1, s + m, by omega, by go_num, by go_num, Lib.hid HSN.out.symm, HB2⟩
      case measure => simp [intOf]; omega
    · obtain rfl : j = n := by omega
      have hle : gs.take j = gs := List.take_of_length_le (by have := HNE.out.1; omega)
      have hS := HS.out
      rw [hle, ← HNE.out.2.1] at hS
      subst hS
      clear hle hlt
      go_wp2_with fail
      go_ret
      refine ⟨?_, HB.out⟩
      rw [HNE.out.2.2.1, ← HNE.out.2.1]
      go_num

theorem lengths_any : ∀ f, Lengths f
  | 0 => fun x g K lo w h _ _ => h.elim
  | f + 1 => fun x g K lo w h hH hs => by
    cases g with
    | pt p => obtain ⟨v, rfl, rfl⟩ := h; exact gl_pt p w
    | ln l => obtain ⟨v, rfl, h⟩ := h; obtain ⟨g, cap, rfl, _⟩ := RowIs.form h; exact gl_ln _ _ cap l w rfl hs
    | mp l => obtain ⟨v, rfl, h⟩ := h; obtain ⟨g, cap, rfl, _⟩ := RowIs.form h; exact gl_mp _ _ cap l w rfl hs
    | pg l => obtain ⟨v, rfl, h⟩ := h; obtain ⟨g, cap, rfl, _⟩ := RowIs.form h; exact gl_pg g cap l K lo w h hH hs
    | ml l => obtain ⟨v, rfl, h⟩ := h; obtain ⟨g, cap, rfl, _⟩ := RowIs.form h; exact gl_ml g cap l K lo w h hH hs
    | mg l => obtain ⟨v, rfl, h⟩ := h; obtain ⟨g, cap, rfl, _⟩ := RowIs.form h; exact gl_mg (f := 0) g cap l K lo w h hH hs
    | co l => obtain ⟨v, rfl, h⟩ := h; obtain ⟨g, cap, rfl, _⟩ := RowIs.form h; exact gl_co (lengths_any f) g cap l K lo w h hH hs

end Go.Proofs.YtjbjjphgnilhmaaGreatDoor
