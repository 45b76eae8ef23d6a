/- The walks of orblength.polygonLength, orblength.Length, planar.Length and impl.Length. -/
import Derived.Test.YtpbhpplmokdkhaaDoorLe3
import Derived.Test.YtpbhpplmokdkhaaDoorAs
set_option linter.unusedVariables false
namespace Go.Proofs.YtpbhpplmokdkhaaDoor
open Go.RowKit Go.WideShapes Fl

/-- The sum of the lengths of so many lines. -/
def lens (pss : List (List (Nat × Nat))) : Nat → Nat
  | 0 => 0
  | k + 1 => fadd (lens pss k) (Le.ln (Le.At (pss.getD k [])) ((pss.getD k []).length - 1))
/-- All lines are told, and the sums are finite. -/
def LensOk (pss : List (List (Nat × Nat))) : Prop :=
  (∀ (k : Nat) (ps : List (Nat × Nat)), pss[k]? = some ps → ps.length ≤ 100 ∧ ∃ X Y, DatW ps X Y) ∧ ∀ k, k ≤ pss.length → IsFin (lens pss k)
theorem datW_fin {ps : List (Nat × Nat)} {X Y : Nat → Int} (h : DatW ps X Y) (h100 : ps.length ≤ 100) : IsFin (Le.ln (Le.At ps) (ps.length - 1)) := (Le.ln_bd h.dat (ps.length - 1) (by omega) (by omega)).1

set_option maxRecDepth 100000 in
set_option maxHeartbeats 2000000 in
theorem poly_len {v : Value} {us : List Value} {pss : List (List (Nat × Nat))} {n base base2 : Nat} {w : World} (hown : w.ownsRow base 64 1 v n us) (hr : Rows2 w base2 us pss) (hn : pss.length = n) (h1 : 1 ≤ n) (h100 : n ≤ 100) (hok : LensOk pss) :
    Calls Tryd.prog 95 #[v, .func (.func 81) #[] #[]] w fun e w' => e = .returned (.float .f64 (lens pss n)) ∧ Below w.heap.size w w' := by
  obtain ⟨ao, cap, rfl, hf⟩ := owns_form hown
  obtain ⟨g, rfl, _, _, hcap, _⟩ := hf (by omega)
  have hus : us.length = n := hr.1.trans hn
  have hcell : ∀ (i : Nat) (u : Value), us[i]? = some u → w.cell? ⟨g, i, none⟩ = some u := by
    intro i u hu
    have hi := (List.getElem?_eq_some_iff.1 hu).1
    rw [hown.cellAt i (by omega)]; exact hu
  have HC := Lib.hid hcell
  have HR := Lib.hid hr
  have HN := Lib.hid hn
  have HU := Lib.hid hus
  have HOK := Lib.hid hok
  have hnn : (n : Int) ≤ 100 := by omega
  have h1n : (1 : Int) ≤ n := by omega
  clear hown hf hcell hr hn hok hus
  go_enter Tryd.func95, Tryd.ntmps95
  go_wp2
  go_loopw [5, 7, 10] (fun sv lv iv wr => ∃ (k : Nat), k ≤ n ∧ iv = .int .i64 k ∧ sv = .float .f64 (lens pss k) ∧ Below w.heap.size w wr) (fun sv lv iv _ => n - (intOf iv).toNat)
  case atStart => exact ⟨0, by omega, rfl, rfl, Below.refl _ _⟩
  case round =>
    obtain ⟨k, hk, rfl, rfl, hb⟩ := hrel
    by_cases hlt : k < n
    · have hil : k < us.length := by have := HU.out; omega
      have hjl : k < pss.length := by have := HN.out; omega
      have hui : us[k]? = some us[k] := List.getElem?_eq_getElem hil
      have hpi : pss[k]? = some pss[k] := List.getElem?_eq_getElem hjl
      obtain ⟨u, hue⟩ : ∃ x, x = us[k] := ⟨_, rfl⟩
      obtain ⟨ps, hpe⟩ : ∃ x, x = pss[k] := ⟨_, rfl⟩
      rw [← hue] at hui
      rw [← hpe] at hpi
      have c0 := cell_later hb (HC.out k u hui)
      have hpu := (pts_of_owns (HR.out.2 k u ps hui hpi)).2
      obtain ⟨hl100, X, Y, hdw⟩ := HOK.out.1 k ps hpi
      have hcall := line_any (hpu.below hb) hl100 hdw
      have hps : pss.getD k [] = ps := by rw [List.getD_eq_getElem?_getD, hpi]; rfl
      have hln : lens pss (k + 1) = fadd (lens pss k) (Le.ln (Le.At ps) (ps.length - 1)) := by
        show fadd _ (Le.ln (Le.At (pss.getD k [])) ((pss.getD k []).length - 1)) = _
        rw [hps]
      have sf := HOK.out.2 k (by omega)
      have tf := datW_fin hdw hl100
      obtain ⟨D, hD⟩ : ∃ D, D = Le.ln (Le.At ps) (ps.length - 1) := ⟨_, rfl⟩
      obtain ⟨S, hS⟩ : ∃ S, S = lens pss k := ⟨_, rfl⟩
      rw [← hD] at hcall tf hln
      rw [← hS] at sf hln ⊢
      have r1 := run_fadd (P := Tryd.prog) sf tf 27
      have HLN := Lib.hid hln
      have hki : (k : Int) < n := by omega
      have hk0 : (0 : Int) ≤ k := by omega
      have HB := Lib.hid hb
      clear hb hue hpe hui hpi hpu hl100 hdw hps hln sf tf hD hS hil hjl
      go_wp2_with fail
      refine hcall.mono ?_
      rintro e w4 ⟨rfl, hb4⟩
      have HL4 := Lib.hid (HB.out.trans (hb4.mono HB.out.size))
      clear hb4 hcall c0
      go_wp2
      go_roundw
      case rel => exact ⟨k + 1, by omega, by go_num, by rw [HLN.out], HL4.out⟩
      case measure => simp [intOf]; omega
    · obtain rfl : k = n := by omega
      have HB := Lib.hid hb
      clear hb
      go_wp2
      go_ret
      exact ⟨rfl, HB.out⟩


set_option maxRecDepth 100000 in
set_option maxHeartbeats 2000000 in
theorem mls_len {v : Value} {us : List Value} {pss : List (List (Nat × Nat))} {n base base2 : Nat} {w : World} (hown : w.ownsRow base 70 1 v n us) (hr : Rows2 w base2 us pss) (hn : pss.length = n) (h1 : 1 ≤ n) (h100 : n ≤ 100) (hok : LensOk pss) :
    Calls Tryd.prog 80 #[.iface 100 v, .func (.func 81) #[] #[]] w fun e w' => e = .returned (.float .f64 (lens pss n)) ∧ Below w.heap.size w w' := by
  obtain ⟨ao, cap, rfl, hf⟩ := owns_form hown
  obtain ⟨g, rfl, _, _, hcap, _⟩ := hf (by omega)
  have hus : us.length = n := hr.1.trans hn
  have hcell : ∀ (i : Nat) (u : Value), us[i]? = some u → w.cell? ⟨g, i, none⟩ = some u := by
    intro i u hu
    have hi := (List.getElem?_eq_some_iff.1 hu).1
    rw [hown.cellAt i (by omega)]; exact hu
  have HC := Lib.hid hcell
  have HR := Lib.hid hr
  have HN := Lib.hid hn
  have HU := Lib.hid hus
  have HOK := Lib.hid hok
  have hnn : (n : Int) ≤ 100 := by omega
  have h1n : (1 : Int) ≤ n := by omega
  have a0 := as_mls_pt
  have a1 := as_mls_mp
  have a2 := as_mls_ls
  have a3 := as_mls_mls
  clear hown hf hcell hr hn hok hus
  go_enter Tryd.func80, Tryd.ntmps80
  go_wp2
  go_loopw [9, 11, 43] (fun sv lv iv wr => ∃ (k : Nat), k ≤ n ∧ iv = .int .i64 k ∧ sv = .float .f64 (lens pss k) ∧ Below w.heap.size w wr) (fun sv lv iv _ => n - (intOf iv).toNat)
  case atStart => exact ⟨0, by omega, rfl, rfl, Below.refl _ _⟩
  case round =>
    obtain ⟨k, hk, rfl, rfl, hb⟩ := hrel
    by_cases hlt : k < n
    · have hil : k < us.length := by have := HU.out; omega
      have hjl : k < pss.length := by have := HN.out; omega
      have hui : us[k]? = some us[k] := List.getElem?_eq_getElem hil
      have hpi : pss[k]? = some pss[k] := List.getElem?_eq_getElem hjl
      obtain ⟨u, hue⟩ : ∃ x, x = us[k] := ⟨_, rfl⟩
      obtain ⟨ps, hpe⟩ : ∃ x, x = pss[k] := ⟨_, rfl⟩
      rw [← hue] at hui
      rw [← hpe] at hpi
      have c0 := cell_later hb (HC.out k u hui)
      have hpu := (pts_of_owns (HR.out.2 k u ps hui hpi)).2
      obtain ⟨hl100, X, Y, hdw⟩ := HOK.out.1 k ps hpi
      have hcall := line_any (hpu.below hb) hl100 hdw
      have hps : pss.getD k [] = ps := by rw [List.getD_eq_getElem?_getD, hpi]; rfl
      have hln : lens pss (k + 1) = fadd (lens pss k) (Le.ln (Le.At ps) (ps.length - 1)) := by
        show fadd _ (Le.ln (Le.At (pss.getD k [])) ((pss.getD k []).length - 1)) = _
        rw [hps]
      have sf := HOK.out.2 k (by omega)
      have tf := datW_fin hdw hl100
      obtain ⟨D, hD⟩ : ∃ D, D = Le.ln (Le.At ps) (ps.length - 1) := ⟨_, rfl⟩
      obtain ⟨S, hS⟩ : ∃ S, S = lens pss k := ⟨_, rfl⟩
      rw [← hD] at hcall tf hln
      rw [← hS] at sf hln ⊢
      have r1 := run_fadd (P := Tryd.prog) sf tf 27
      have HLN := Lib.hid hln
      have hki : (k : Int) < n := by omega
      have hk0 : (0 : Int) ≤ k := by omega
      have HB := Lib.hid hb
      clear hb hue hpe hui hpi hpu hl100 hdw hps hln sf tf hD hS hil hjl
      go_wp2_with fail
      refine hcall.mono ?_
      rintro e w4 ⟨rfl, hb4⟩
      have HL4 := Lib.hid (HB.out.trans (hb4.mono HB.out.size))
      clear hb4 hcall c0
      go_wp2
      go_roundw
      case rel => exact ⟨k + 1, by omega, by go_num, by rw [HLN.out], HL4.out⟩
      case measure => simp [intOf]; omega
    · obtain rfl : k = n := by omega
      have HB := Lib.hid hb
      clear hb
      go_wp2
      go_ret
      exact ⟨rfl, HB.out⟩


set_option maxRecDepth 100000 in
theorem ls_len {w : World} {v : Value} {ps : List (Nat × Nat)} {X Y : Nat → Int} (hv : IsPts w v ps) (h100 : ps.length ≤ 100) (hd : DatW ps X Y) :
    Calls Tryd.prog 80 #[.iface 70 v, .func (.func 81) #[] #[]] w fun e w' => e = .returned (.float .f64 (Le.ln (Le.At ps) (ps.length - 1))) ∧ Below w.heap.size w w' := by
  have L0 := (Below.refl w.heap.size w)
  have H1 := Lib.hid (fun W (h : Below w.heap.size w W) => line_any (hv.below h) h100 hd)
  have a0 := as_ls_pt
  have a1 := as_ls_mp
  have a2 := as_ls_ls
  have HA := Lib.hid (Below.refl w.heap.size w)
  clear hv h100 hd L0
  go_enter Tryd.func80, Tryd.ntmps80
  go_wp2_with fail
  refine (H1.out _ HA.out).mono ?_
  rintro e w1 ⟨rfl, hb1⟩
  have HB1 := Lib.hid (HA.out.trans (hb1.mono HA.out.size))
  clear hb1 H1
  go_wp2
  go_ret
  exact ⟨rfl, HB1.out⟩
set_option maxRecDepth 100000 in
theorem pl_len {v : Value} {us : List Value} {pss : List (List (Nat × Nat))} {n base base2 : Nat} {w : World} (hown : w.ownsRow base 64 1 v n us) (hr : Rows2 w base2 us pss) (hn : pss.length = n) (h1 : 1 ≤ n) (h100 : n ≤ 100) (hok : LensOk pss) :
    Calls Tryd.prog 80 #[.iface 96 v, .func (.func 81) #[] #[]] w fun e w' => e = .returned (.float .f64 (lens pss n)) ∧ Below w.heap.size w w' := by
  have H1 := Lib.hid (fun W (h : Below w.heap.size w W) => poly_len (own_below hown h) (hr.below h) hn h1 h100 hok)
  have a0 := as_poly_pt
  have a1 := as_poly_mp
  have a2 := as_poly_ls
  have a3 := as_poly_mls
  have a4 := as_poly_ring
  have a5 := as_poly_poly
  have HA := Lib.hid (Below.refl w.heap.size w)
  clear hown hr hn h1 h100 hok
  go_enter Tryd.func80, Tryd.ntmps80
  go_wp2_with fail
  refine (H1.out _ HA.out).mono ?_
  rintro e w1 ⟨rfl, hb1⟩
  have HB1 := Lib.hid (HA.out.trans (hb1.mono HA.out.size))
  clear hb1 H1
  go_wp2
  go_ret
  exact ⟨rfl, HB1.out⟩

end Go.Proofs.YtpbhpplmokdkhaaDoor

