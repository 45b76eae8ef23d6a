/- The walks of writeMultiPoint, writeMultiLineString, writeMultiPolygon, writeCollection. -/
import Derived.Test.YtjbjjphgnilhmaaGreatDoorDh
set_option linter.unusedVariables false
set_option linter.unusedSimpArgs false
namespace Go.Proofs.YtjbjjphgnilhmaaGreatDoor
open Go.RowKit

/-- What is asked of the encoding of a part. -/
def Part {α : Type} (E : Enr) (K : Knows) (R : Value → α → Prop) (F : α → By.Bs) (a : α) : Prop := ∀ (x : Value) (l : By.Bs) (ws : List Value) (w : World), R x a → EncW E w l ws → Lies E.B K w → l.length + (F a).length ≤ E.S.cap → Calls Tryz.prog 50 #[.pointer (some ⟨E.en, 0, none⟩), x, .int .i64 0] w (Wrote E l (F a) w)

set_option maxRecDepth 100000 in
set_option maxHeartbeats 2000000 in
theorem wmp_any {E0 : TypeId} (E : Enr) (v : Value) (gs : List (By.Pt)) (K : Knows) (F : By.Pt → By.Bs) (l : By.Bs) (ws : List Value) (w : World) (h : EncW E w l ws) (hv : rowIs repPt E0 K v gs) (hL : Lies E.B K w) (hP : ∀ a ∈ gs, Part E K (fun x p => x = .iface 68 (.agg #[.float .f64 p.1, .float .f64 p.2])) F a) (hn0 : gs.length ≤ 2147483647) (hfit0 : l.length + 8 + (gs.flatMap F).length ≤ E.S.cap) :
    Calls Tryz.prog 76 #[.pointer (some ⟨E.en, 0, none⟩), v, .int .i64 0] w (Wrote E l (By.spell E.le 4 4 ++ (By.spell E.le 4 gs.length ++ gs.flatMap F)) w) := by
  obtain ⟨g, cap, rfl, hcap⟩ := RowIs.form hv
  obtain ⟨n, hne⟩ : ∃ n, n = gs.length := ⟨_, rfl⟩
  obtain ⟨T, hT⟩ : ∃ T, T = (gs.flatMap F).length := ⟨_, rfl⟩
  have num : ((4 : Nat) : Int) = 4 := rfl
  have hcall : Calls Tryz.prog 91 #[.pointer (some ⟨E.en, 0, none⟩), .int .u32 4, .int .i64 gs.length, .int .i64 0] w _ := num ▸ wtp_any E 4 gs.length l ws w h (by omega) hn0 (by omega)
  have HV := Lib.hid hv
  have HL := Lib.hid hL
  have HP0 := Lib.hid hP
  have HNE := Lib.hid (⟨hne, hT⟩ : _ ∧ _)
  rw [← hne] at hcap hn0 hcall ⊢
  rw [← hT] at hfit0
  clear h hv hL hP hne num hT
  go_enter Tryz.func76, Tryz.ntmps76
  go_wp2_with fail
  refine hcall.mono ?_
  rintro e w1 ⟨rfl, hE, hb⟩
  have H0 := Lib.hid (⟨hE, hb⟩ : _ ∧ _)
  clear hE hb hcall
  go_wp2_with fail
  go_loopw [21] (fun jv wr => ∃ (j : Nat), j ≤ n ∧ jv = .int .i64 j ∧ Hid (∃ ws', EncW E wr ((l ++ (By.spell E.le 4 4 ++ By.spell E.le 4 n)) ++ (gs.take j).flatMap F) ws') ∧ Hid (Below E.B w wr)) (fun jv _ => n - (intOf jv).toNat)
  case atStart => exact ⟨0, Nat.zero_le _, rfl, Lib.hid (by rw [List.take_zero, List.flatMap_nil, List.append_nil]; exact H0.out.1), Lib.hid H0.out.2⟩
  case round =>
    clear H0
    obtain ⟨j, hj, rfl, HE, HB⟩ := hrel
    by_cases hlt : j < n
    · have hps : gs[j]? = some (gs[j]'(by have := HNE.out.1; omega)) := List.getElem?_eq_getElem (by have := HNE.out.1; omega)
      obtain ⟨p, hpe⟩ : ∃ p, p = gs[j]'(by have := HNE.out.1; omega) := ⟨_, rfl⟩
      rw [← hpe] at hps
      obtain ⟨ws1, hE⟩ := HE.out
      have hLw := HL.out.below HB.out
      obtain ⟨d0, d1⟩ := pts_at HV.out hLw.has j p hps
      have hroom := flat_room F hps
      rw [← HNE.out.2] at hroom
      have hlL : (l ++ (By.spell E.le 4 4 ++ By.spell E.le 4 n) ++ (gs.take j).flatMap F).length = l.length + 8 + ((gs.take j).flatMap F).length := by
        rw [List.length_append, List.length_append, List.length_append, By.spell_length, By.spell_length]
      obtain ⟨L, hLe⟩ : ∃ L, L = (l ++ (By.spell E.le 4 4 ++ By.spell E.le 4 n)) ++ (gs.take j).flatMap F := ⟨_, rfl⟩
      rw [← hLe] at hE hlL
      have hbl : E.B ≤ wr.heap.size := by have := hE.base.2.2.2; have := hE.work.lt; omega
      have b0 : Below wr.heap.size wr (wr.alloc (.cells #[.float .f64 p.1, .float .f64 p.2] 68)) := (Below.refl _ _).alloc (Nat.le_refl _) _
      have hcall := HP0.out p (List.mem_of_getElem? hps) _ L ws1 _ rfl (hE.below b0) (hLw.below (b0.mono hbl)) (by omega)
      have HLE := Lib.hid hLe
      have HPS := Lib.hid hps
      have HB1 := Lib.hid (HB.out.trans (b0.mono hbl))
      have hjn : (j : Int) < n := by omega
      clear hpe hps HE hLe hE hroom hlL hLw hbl b0 HB
      go_wp2_with fail
      refine hcall.mono ?_
      rintro e w2 ⟨rfl, hE2, hb2⟩
      have H2 := Lib.hid (⟨hE2, HB1.out.trans hb2⟩ : _ ∧ _)
      clear hcall hE2 hb2
      go_wp2_with fail
      go_roundw
      case rel =>
        obtain ⟨ws5, h5⟩ := H2.out.1
        rw [HLE.out, List.append_assoc, ← flat_snoc _ HPS.out] at h5
        exact ⟨j + 1, by omega, by go_num, Lib.hid ⟨_, h5⟩, Lib.hid H2.out.2⟩
      case measure => simp [intOf]; omega
    · obtain rfl : j = n := by omega
      have hle : gs.take j = gs := List.take_of_length_le (by have := HNE.out.1; omega)
      rw [hle] at HE
      clear hle hlt
      go_wp2_with fail
      go_ret
      obtain ⟨ws1, hE⟩ := HE.out
      rw [List.append_assoc, List.append_assoc] at hE
      exact ⟨rfl, ⟨_, hE⟩, HB.out⟩

set_option maxRecDepth 100000 in
set_option maxHeartbeats 2000000 in
theorem wml_any {E0 E1 : TypeId} (E : Enr) (v : Value) (gs : List (List By.Pt)) (K : Knows) (F : List By.Pt → By.Bs) (l : By.Bs) (ws : List Value) (w : World) (h : EncW E w l ws) (hv : rowIs (repRow repPt E0) E1 K v gs) (hL : Lies E.B K w) (hP : ∀ a ∈ gs, Part E K (fun x p => ∃ y, x = .iface 72 y ∧ rowIs repPt E0 K y p) F a) (hn0 : gs.length ≤ 2147483647) (hfit0 : l.length + 8 + (gs.flatMap F).length ≤ E.S.cap) :
    Calls Tryz.prog 78 #[.pointer (some ⟨E.en, 0, none⟩), v, .int .i64 0] w (Wrote E l (By.spell E.le 4 5 ++ (By.spell E.le 4 gs.length ++ gs.flatMap F)) w) := by
  obtain ⟨g, cap, rfl, hcap⟩ := RowIs.form hv
  obtain ⟨n, hne⟩ : ∃ n, n = gs.length := ⟨_, rfl⟩
  obtain ⟨T, hT⟩ : ∃ T, T = (gs.flatMap F).length := ⟨_, rfl⟩
  have num : ((5 : Nat) : Int) = 5 := rfl
  have hcall : Calls Tryz.prog 91 #[.pointer (some ⟨E.en, 0, none⟩), .int .u32 5, .int .i64 gs.length, .int .i64 0] w _ := num ▸ wtp_any E 5 gs.length l ws w h (by omega) hn0 (by omega)
  have HV := Lib.hid hv
  have HL := Lib.hid hL
  have HP0 := Lib.hid hP
  have HNE := Lib.hid (⟨hne, hT⟩ : _ ∧ _)
  rw [← hne] at hcap hn0 hcall ⊢
  rw [← hT] at hfit0
  clear h hv hL hP hne num hT
  go_enter Tryz.func78, Tryz.ntmps78
  go_wp2_with fail
  refine hcall.mono ?_
  rintro e w1 ⟨rfl, hE, hb⟩
  have H0 := Lib.hid (⟨hE, hb⟩ : _ ∧ _)
  clear hE hb hcall
  go_wp2_with fail
  go_loopw [21] (fun jv wr => ∃ (j : Nat), j ≤ n ∧ jv = .int .i64 j ∧ Hid (∃ ws', EncW E wr ((l ++ (By.spell E.le 4 5 ++ By.spell E.le 4 n)) ++ (gs.take j).flatMap F) ws') ∧ Hid (Below E.B w wr)) (fun jv _ => n - (intOf jv).toNat)
  case atStart => exact ⟨0, Nat.zero_le _, rfl, Lib.hid (by rw [List.take_zero, List.flatMap_nil, List.append_nil]; exact H0.out.1), Lib.hid H0.out.2⟩
  case round =>
    clear H0
    obtain ⟨j, hj, rfl, HE, HB⟩ := hrel
    by_cases hlt : j < n
    · have hps : gs[j]? = some (gs[j]'(by have := HNE.out.1; omega)) := List.getElem?_eq_getElem (by have := HNE.out.1; omega)
      obtain ⟨p, hpe⟩ : ∃ p, p = gs[j]'(by have := HNE.out.1; omega) := ⟨_, rfl⟩
      rw [← hpe] at hps
      obtain ⟨ws1, hE⟩ := HE.out
      have hLw := HL.out.below HB.out
      obtain ⟨x, d0, hx⟩ := rows_at HV.out hLw.has j p hps
      have hroom := flat_room F hps
      rw [← HNE.out.2] at hroom
      have hlL : (l ++ (By.spell E.le 4 5 ++ By.spell E.le 4 n) ++ (gs.take j).flatMap F).length = l.length + 8 + ((gs.take j).flatMap F).length := by
        rw [List.length_append, List.length_append, List.length_append, By.spell_length, By.spell_length]
      obtain ⟨L, hLe⟩ : ∃ L, L = (l ++ (By.spell E.le 4 5 ++ By.spell E.le 4 n)) ++ (gs.take j).flatMap F := ⟨_, rfl⟩
      rw [← hLe] at hE hlL
      have hbl : E.B ≤ wr.heap.size := by have := hE.base.2.2.2; have := hE.work.lt; omega
      have b0 : Below wr.heap.size wr wr := Below.refl _ _
      have hcall := HP0.out p (List.mem_of_getElem? hps) _ L ws1 _ ⟨_, rfl, hx⟩ (hE.below b0) (hLw.below (b0.mono hbl)) (by omega)
      have HLE := Lib.hid hLe
      have HPS := Lib.hid hps
      have HB1 := Lib.hid (HB.out.trans (b0.mono hbl))
      have hjn : (j : Int) < n := by omega
      clear hpe hps HE hLe hE hroom hlL hLw hbl b0 HB hx
      go_wp2_with fail
      refine hcall.mono ?_
      rintro e w2 ⟨rfl, hE2, hb2⟩
      have H2 := Lib.hid (⟨hE2, HB1.out.trans hb2⟩ : _ ∧ _)
      clear hcall hE2 hb2
      go_wp2_with fail
      go_roundw
      case rel =>
        obtain ⟨ws5, h5⟩ := H2.out.1
        rw [HLE.out, List.append_assoc, ← flat_snoc _ HPS.out] at h5
        exact ⟨j + 1, by omega, by go_num, Lib.hid ⟨_, h5⟩, Lib.hid H2.out.2⟩
      case measure => simp [intOf]; omega
    · obtain rfl : j = n := by omega
      have hle : gs.take j = gs := List.take_of_length_le (by have := HNE.out.1; omega)
      rw [hle] at HE
      clear hle hlt
      go_wp2_with fail
      go_ret
      obtain ⟨ws1, hE⟩ := HE.out
      rw [List.append_assoc, List.append_assoc] at hE
      exact ⟨rfl, ⟨_, hE⟩, HB.out⟩

set_option maxRecDepth 100000 in
set_option maxHeartbeats 2000000 in
theorem wmg_any {E0 E1 : TypeId} (E : Enr) (v : Value) (gs : List (List (List By.Pt))) (K : Knows) (F : List (List By.Pt) → By.Bs) (l : By.Bs) (ws : List Value) (w : World) (h : EncW E w l ws) (hv : rowIs (repRow (repRow repPt 68) E0) E1 K v gs) (hL : Lies E.B K w) (hP : ∀ a ∈ gs, Part E K (fun x p => ∃ y, x = .iface 75 y ∧ rowIs (repRow repPt 68) E0 K y p) F a) (hn0 : gs.length ≤ 2147483647) (hfit0 : l.length + 8 + (gs.flatMap F).length ≤ E.S.cap) :
    Calls Tryz.prog 80 #[.pointer (some ⟨E.en, 0, none⟩), v, .int .i64 0] w (Wrote E l (By.spell E.le 4 6 ++ (By.spell E.le 4 gs.length ++ gs.flatMap F)) w) := by
  obtain ⟨g, cap, rfl, hcap⟩ := RowIs.form hv
  obtain ⟨n, hne⟩ : ∃ n, n = gs.length := ⟨_, rfl⟩
  obtain ⟨T, hT⟩ : ∃ T, T = (gs.flatMap F).length := ⟨_, rfl⟩
  have num : ((6 : Nat) : Int) = 6 := rfl
  have hcall : Calls Tryz.prog 91 #[.pointer (some ⟨E.en, 0, none⟩), .int .u32 6, .int .i64 gs.length, .int .i64 0] w _ := num ▸ wtp_any E 6 gs.length l ws w h (by omega) hn0 (by omega)
  have HV := Lib.hid hv
  have HL := Lib.hid hL
  have HP0 := Lib.hid hP
  have HNE := Lib.hid (⟨hne, hT⟩ : _ ∧ _)
  rw [← hne] at hcap hn0 hcall ⊢
  rw [← hT] at hfit0
  clear h hv hL hP hne num hT
  go_enter Tryz.func80, Tryz.ntmps80
  go_wp2_with fail
  refine hcall.mono ?_
  rintro e w1 ⟨rfl, hE, hb⟩
  have H0 := Lib.hid (⟨hE, hb⟩ : _ ∧ _)
  clear hE hb hcall
  go_wp2_with fail
  go_loopw [21] (fun jv wr => ∃ (j : Nat), j ≤ n ∧ jv = .int .i64 j ∧ Hid (∃ ws', EncW E wr ((l ++ (By.spell E.le 4 6 ++ By.spell E.le 4 n)) ++ (gs.take j).flatMap F) ws') ∧ Hid (Below E.B w wr)) (fun jv _ => n - (intOf jv).toNat)
  case atStart => exact ⟨0, Nat.zero_le _, rfl, Lib.hid (by rw [List.take_zero, List.flatMap_nil, List.append_nil]; exact H0.out.1), Lib.hid H0.out.2⟩
  case round =>
    clear H0
    obtain ⟨j, hj, rfl, HE, HB⟩ := hrel
    by_cases hlt : j < n
    · have hps : gs[j]? = some (gs[j]'(by have := HNE.out.1; omega)) := List.getElem?_eq_getElem (by have := HNE.out.1; omega)
      obtain ⟨p, hpe⟩ : ∃ p, p = gs[j]'(by have := HNE.out.1; omega) := ⟨_, rfl⟩
      rw [← hpe] at hps
      obtain ⟨ws1, hE⟩ := HE.out
      have hLw := HL.out.below HB.out
      obtain ⟨x, d0, hx⟩ := rows_at HV.out hLw.has j p hps
      have hroom := flat_room F hps
      rw [← HNE.out.2] at hroom
      have hlL : (l ++ (By.spell E.le 4 6 ++ By.spell E.le 4 n) ++ (gs.take j).flatMap F).length = l.length + 8 + ((gs.take j).flatMap F).length := by
        rw [List.length_append, List.length_append, List.length_append, By.spell_length, By.spell_length]
      obtain ⟨L, hLe⟩ : ∃ L, L = (l ++ (By.spell E.le 4 6 ++ By.spell E.le 4 n)) ++ (gs.take j).flatMap F := ⟨_, rfl⟩
      rw [← hLe] at hE hlL
      have hbl : E.B ≤ wr.heap.size := by have := hE.base.2.2.2; have := hE.work.lt; omega
      have b0 : Below wr.heap.size wr wr := Below.refl _ _
      have hcall := HP0.out p (List.mem_of_getElem? hps) _ L ws1 _ ⟨_, rfl, hx⟩ (hE.below b0) (hLw.below (b0.mono hbl)) (by omega)
      have HLE := Lib.hid hLe
      have HPS := Lib.hid hps
      have HB1 := Lib.hid (HB.out.trans (b0.mono hbl))
      have hjn : (j : Int) < n := by omega
      clear hpe hps HE hLe hE hroom hlL hLw hbl b0 HB hx
      go_wp2_with fail
      refine hcall.mono ?_
      rintro e w2 ⟨rfl, hE2, hb2⟩
      have H2 := Lib.hid (⟨hE2, HB1.out.trans hb2⟩ : _ ∧ _)
      clear hcall hE2 hb2
      go_wp2_with fail
      go_roundw
      case rel =>
        obtain ⟨ws5, h5⟩ := H2.out.1
        rw [HLE.out, List.append_assoc, ← flat_snoc _ HPS.out] at h5
        exact ⟨j + 1, by omega, by go_num, Lib.hid ⟨_, h5⟩, Lib.hid H2.out.2⟩
      case measure => simp [intOf]; omega
    · obtain rfl : j = n := by omega
      have hle : gs.take j = gs := List.take_of_length_le (by have := HNE.out.1; omega)
      rw [hle] at HE
      clear hle hlt
      go_wp2_with fail
      go_ret
      obtain ⟨ws1, hE⟩ := HE.out
      rw [List.append_assoc, List.append_assoc] at hE
      exact ⟨rfl, ⟨_, hE⟩, HB.out⟩

set_option maxRecDepth 100000 in
set_option maxHeartbeats 2000000 in
theorem wco_any {f : Nat} (E : Enr) (v : Value) (gs : List (By.G)) (K : Knows) (F : By.G → By.Bs) (l : By.Bs) (ws : List Value) (w : World) (h : EncW E w l ws) (hv : rowIs (repG f) 39 K v gs) (hL : Lies E.B K w) (hP : ∀ a ∈ gs, Part E K (fun x p => IsG f K x p) F a) (hn0 : gs.length ≤ 2147483647) (hfit0 : l.length + 8 + (gs.flatMap F).length ≤ E.S.cap) :
    Calls Tryz.prog 81 #[.pointer (some ⟨E.en, 0, none⟩), v, .int .i64 0] w (Wrote E l (By.spell E.le 4 7 ++ (By.spell E.le 4 gs.length ++ gs.flatMap F)) w) := by
  obtain ⟨g, cap, rfl, hcap⟩ := RowIs.form hv
  obtain ⟨n, hne⟩ : ∃ n, n = gs.length := ⟨_, rfl⟩
  obtain ⟨T, hT⟩ : ∃ T, T = (gs.flatMap F).length := ⟨_, rfl⟩
  have num : ((7 : Nat) : Int) = 7 := rfl
  have hcall : Calls Tryz.prog 91 #[.pointer (some ⟨E.en, 0, none⟩), .int .u32 7, .int .i64 gs.length, .int .i64 0] w _ := num ▸ wtp_any E 7 gs.length l ws w h (by omega) hn0 (by omega)
  have HV := Lib.hid hv
  have HL := Lib.hid hL
  have HP0 := Lib.hid hP
  have HNE := Lib.hid (⟨hne, hT⟩ : _ ∧ _)
  rw [← hne] at hcap hn0 hcall ⊢
  rw [← hT] at hfit0
  clear h hv hL hP hne num hT
  go_enter Tryz.func81, Tryz.ntmps81
  go_wp2_with fail
  refine hcall.mono ?_
  rintro e w1 ⟨rfl, hE, hb⟩
  have H0 := Lib.hid (⟨hE, hb⟩ : _ ∧ _)
  clear hE hb hcall
  go_wp2_with fail
  go_loopw [21] (fun jv wr => ∃ (j : Nat), j ≤ n ∧ jv = .int .i64 j ∧ Hid (∃ ws', EncW E wr ((l ++ (By.spell E.le 4 7 ++ By.spell E.le 4 n)) ++ (gs.take j).flatMap F) ws') ∧ Hid (Below E.B w wr)) (fun jv _ => n - (intOf jv).toNat)
  case atStart => exact ⟨0, Nat.zero_le _, rfl, Lib.hid (by rw [List.take_zero, List.flatMap_nil, List.append_nil]; exact H0.out.1), Lib.hid H0.out.2⟩
  case round =>
    clear H0
    obtain ⟨j, hj, rfl, HE, HB⟩ := hrel
    by_cases hlt : j < n
    · have hps : gs[j]? = some (gs[j]'(by have := HNE.out.1; omega)) := List.getElem?_eq_getElem (by have := HNE.out.1; omega)
      obtain ⟨p, hpe⟩ : ∃ p, p = gs[j]'(by have := HNE.out.1; omega) := ⟨_, rfl⟩
      rw [← hpe] at hps
      obtain ⟨ws1, hE⟩ := HE.out
      have hLw := HL.out.below HB.out
      obtain ⟨x, d0, hx⟩ := geos_at HV.out hLw.has j p hps
      obtain ⟨tt, xx, rfl⟩ := hx.iface
      have hroom := flat_room F hps
      rw [← HNE.out.2] at hroom
      have hlL : (l ++ (By.spell E.le 4 7 ++ By.spell E.le 4 n) ++ (gs.take j).flatMap F).length = l.length + 8 + ((gs.take j).flatMap F).length := by
        rw [List.length_append, List.length_append, List.length_append, By.spell_length, By.spell_length]
      obtain ⟨L, hLe⟩ : ∃ L, L = (l ++ (By.spell E.le 4 7 ++ By.spell E.le 4 n)) ++ (gs.take j).flatMap F := ⟨_, rfl⟩
      rw [← hLe] at hE hlL
      have hbl : E.B ≤ wr.heap.size := by have := hE.base.2.2.2; have := hE.work.lt; omega
      have b0 : Below wr.heap.size wr wr := Below.refl _ _
      have hcall := HP0.out p (List.mem_of_getElem? hps) _ L ws1 _ hx (hE.below b0) (hLw.below (b0.mono hbl)) (by omega)
      have HLE := Lib.hid hLe
      have HPS := Lib.hid hps
      have HB1 := Lib.hid (HB.out.trans (b0.mono hbl))
      have hjn : (j : Int) < n := by omega
      clear hpe hps HE hLe hE hroom hlL hLw hbl b0 HB hx
      go_wp2_with fail
      refine hcall.mono ?_
      rintro e w2 ⟨rfl, hE2, hb2⟩
      have H2 := Lib.hid (⟨hE2, HB1.out.trans hb2⟩ : _ ∧ _)
      clear hcall hE2 hb2
      go_wp2_with fail
      go_roundw
      case rel =>
        obtain ⟨ws5, h5⟩ := H2.out.1
        rw [HLE.out, List.append_assoc, ← flat_snoc _ HPS.out] at h5
        exact ⟨j + 1, by omega, by go_num, Lib.hid ⟨_, h5⟩, Lib.hid H2.out.2⟩
      case measure => simp [intOf]; omega
    · obtain rfl : j = n := by omega
      have hle : gs.take j = gs := List.take_of_length_le (by have := HNE.out.1; omega)
      rw [hle] at HE
      clear hle hlt
      go_wp2_with fail
      go_ret
      obtain ⟨ws1, hE⟩ := HE.out
      rw [List.append_assoc, List.append_assoc] at hE
      exact ⟨rfl, ⟨_, hE⟩, HB.out⟩

end Go.Proofs.YtjbjjphgnilhmaaGreatDoor
