/- The walks of orblength.lineStringLength, spec.Long and laws.near. -/
import Derived.Test.YtpbhpplmokdkhaaDoorLe1
import Derived.Test.YtpbhpplmokdkhaaDoorSg
import Derived.Test.YtpbhpplmokdkhaaDoorGe2
import Derived.Deep.RegionHeld3
set_option linter.unusedVariables false
namespace Go.Proofs.YtpbhpplmokdkhaaDoor
open Go.RowKit Go.WideShapes Fl

/-- Points that are told. -/
structure DatW (ps : List (Nat × Nat)) (X Y : Nat → Int) : Prop where
  dat : Dat ps X Y
  wf : Wf ps
  whole : ∀ p ∈ ps, ptB p = true
theorem keep4' {w w2 : World} {a b c d : Addr} {va vb vc vd : Value} (hb : Below w.heap.size w w2) (h : w.cell? a = some va ∧ w.cell? b = some vb ∧ w.cell? c = some vc ∧ w.cell? d = some vd) : w2.cell? a = some va ∧ w2.cell? b = some vb ∧ w2.cell? c = some vc ∧ w2.cell? d = some vd := keep4 hb h
set_option maxRecDepth 100000 in
set_option maxHeartbeats 2000000 in
theorem line_len (g n cap off : Nat) (ps : List (Nat × Nat)) (X Y : Nat → Int) (w : World) (hn : ps.length = n) (h1 : 1 ≤ n) (h100 : n ≤ 100) (hps : PtsAt w g off ps) (hd : DatW ps X Y) :
    Calls Tryd.prog 94 #[.slice (some ⟨g, off, none⟩) n cap, .func (.func 81) #[] #[]] w
      fun e w' => e = .returned (.float .f64 (Le.ln (Le.At ps) (n - 1))) ∧ Below w.heap.size w w' := by
  have HPS := Lib.hid hps
  have HD := Lib.hid hd
  have HN := Lib.hid hn
  have hnn : (n : Int) ≤ 100 := by omega
  have h1n : (1 : Int) ≤ n := by omega
  clear hps hd hn
  go_enter Tryd.func94, Tryd.ntmps94
  go_wp2
  go_loopw [5, 6] (fun av iv wr => ∃ (k : Nat), k + 1 ≤ n ∧ iv = .int .i64 ((k : Int) + 1) ∧ av = .float .f64 (Le.ln (Le.At ps) k) ∧ Below w.heap.size w wr) (fun _ iv _ => n - (intOf iv).toNat)
  case atStart => exact ⟨0, by omega, rfl, rfl, Below.refl _ _⟩
  case round =>
    obtain ⟨k, hk, rfl, rfl, hb⟩ := hrel
    by_cases hlt : k + 1 < n
    · have hil : k < ps.length := by have := HN.out; omega
      have hjl : k + 1 < ps.length := by have := HN.out; omega
      have hpi : ps[k]? = some ps[k] := List.getElem?_eq_getElem hil
      have hpj : ps[k + 1]? = some ps[k + 1] := List.getElem?_eq_getElem hjl
      obtain ⟨ii, mi⟩ := HD.out.dat k _ hpi
      obtain ⟨ij, mj⟩ := HD.out.dat (k + 1) _ hpj
      have bi := HD.out.wf _ (List.mem_of_getElem? hpi)
      have bj := HD.out.wf _ (List.mem_of_getElem? hpj)
      have ti := HD.out.whole _ (List.mem_of_getElem? hpi)
      have tj := HD.out.whole _ (List.mem_of_getElem? hpj)
      obtain ⟨c0, c1⟩ := HPS.out k _ hpi
      obtain ⟨d0, d1⟩ := HPS.out (k + 1) _ hpj
      obtain ⟨p, hpe⟩ : ∃ p, p = ps[k] := ⟨_, rfl⟩
      obtain ⟨q, hpe1⟩ : ∃ p, p = ps[k + 1] := ⟨_, rfl⟩
      rw [← hpe] at ii c0 c1 bi ti hpi
      rw [← hpe1] at ij d0 d1 bj tj hpj
      have a1 := Le.at_some hpi
      have a2 := Le.at_some hpj
      have hcall := fun W => dist_any q p ij ii mj mi W
      rw [Le.sq_comm ij ii mj mi bj bi tj ti] at hcall
      obtain ⟨tf, _, _⟩ := Le.seg_term ii ij mi mj
      obtain ⟨sf, _, _⟩ := Le.ln_bd HD.out.dat k (by omega) (by omega)
      have hln : Le.ln (Le.At ps) (k + 1) = fadd (Le.ln (Le.At ps) k) (fsqrt (sqDist p q)) := by
        show fadd _ (fsqrt (sqDist (Le.At ps k) (Le.At ps (k + 1)))) = _
        rw [a1, a2]
      obtain ⟨D, hD⟩ : ∃ D, D = fsqrt (sqDist p q) := ⟨_, rfl⟩
      obtain ⟨S, hS⟩ : ∃ S, S = Le.ln (Le.At ps) k := ⟨_, rfl⟩
      rw [← hD] at hcall tf hln
      rw [← hS] at sf hln ⊢
      have r1 := run_fadd (P := Tryd.prog) sf tf 27
      have HLN := Lib.hid hln
      have c0' := cell_later hb c0
      have c1' := cell_later hb c1
      have d0' := cell_later hb d0
      have d1' := cell_later hb d1
      have hki : (k : Int) < n := by omega
      have hki1 : (k : Int) + 1 < n := by omega
      have hk0 : (0 : Int) ≤ k := by omega
      have hk1 : (0 : Int) ≤ (k : Int) + 1 := by omega
      have hkt : ((k : Int) + 1).toNat = k + 1 := by omega
      have hwm : IntKind.i64.wrap ((k : Int) + 1 - 1) = (k : Int) := by rw [Int.add_sub_cancel]; exact IntWalk.i64_in _ (by omega)
      have hwk0 : IntKind.i64.wrap (k : Int) = (k : Int) := IntWalk.i64_in _ (by omega)
      have hwk1 : IntKind.i64.wrap ((k : Int) + 1 + 1) = (k : Int) + 1 + 1 := IntWalk.i64_in _ (by omega)
      have HB := Lib.hid hb
      clear hb c0 c1 d0 d1 hpi hpj hpe hpe1 hil hjl ii ij mi mj bi bj ti tj a1 a2 tf sf hln hD hS
      go_wp2_with fail
      go_region_held3 (fun w' => w'.cell? ⟨g, off + k * 2, none⟩ = some (.float .f64 p.1) ∧ w'.cell? ⟨g, off + k * 2 + 1, none⟩ = some (.float .f64 p.2) ∧ w'.cell? ⟨g, off + (k + 1) * 2, none⟩ = some (.float .f64 q.1) ∧ w'.cell? ⟨g, off + (k + 1) * 2 + 1, none⟩ = some (.float .f64 q.2))
        (first | exact ⟨c0', c1', d0', d1'⟩ | exact keep4 hb4 ⟨c0', c1', d0', d1'⟩ | go_keep)
        ((go_simp; go_at_call 81; refine (hcall _).mono ?_; rintro e w4 ⟨rfl, hb4⟩))
      have HL4 := Lib.hid (HB.out.drew.trans (hb4.mono HB.out.size))
      clear hb4 c0' c1' d0' d1' hcall
      go_wp2
      go_roundw
      case rel => exact ⟨k + 1, by omega, by go_num, by rw [HLN.out], HL4.out⟩
      case measure => simp [intOf]; omega
    · have hkn : k = n - 1 := by omega
      have hnlt : ¬ ((k : Int) + 1 < (n : Int)) := by omega
      have HB := Lib.hid hb
      have HK := Lib.hid hkn
      clear hb hkn
      go_wp2
      go_ret
      rw [HK.out]
      exact ⟨rfl, HB.out⟩
set_option maxRecDepth 100000 in
theorem line_none (ao : Option Addr) (cap : Nat) (fv : Value) (w : World) :
    Calls Tryd.prog 94 #[.slice ao 0 cap, fv] w fun e w' => e = .returned (.float .f64 0) ∧ Below w.heap.size w w' := by
  go_enter Tryd.func94, Tryd.ntmps94
  go_wp2
  refine wp_loop_rounds 1 ?_
  rw [rounds_succ]
  go_wp2
  go_ret
  exact ⟨rfl, Below.refl _ _⟩
theorem line_any {w : World} {v : Value} {ps : List (Nat × Nat)} {X Y : Nat → Int} (hv : IsPts w v ps) (h100 : ps.length ≤ 100) (hd : DatW ps X Y) :
    Calls Tryd.prog 94 #[v, .func (.func 81) #[] #[]] w
      fun e w' => e = .returned (.float .f64 (Le.ln (Le.At ps) (ps.length - 1))) ∧ Below w.heap.size w w' := by
  obtain ⟨ao, cap, rfl, h⟩ := hv
  by_cases h0 : ps.length = 0
  · rw [h0]
    exact line_none ao cap _ w
  · rcases h with h | ⟨b, off, rfl, h⟩
    · rw [h] at h0; simp at h0
    · exact line_len b ps.length cap off ps X Y w rfl (by omega) h100 h hd

set_option maxRecDepth 100000 in
set_option maxHeartbeats 2000000 in
theorem long_len (g n cap off : Nat) (ps : List (Nat × Nat)) (X Y : Nat → Int) (w : World) (hn : ps.length = n) (h1 : 1 ≤ n) (h100 : n ≤ 100) (hps : PtsAt w g off ps) (hd : DatW ps X Y) :
    Calls Tryd.prog 31 #[.slice (some ⟨g, off, none⟩) n cap] w
      fun e w' => e = .returned (.float .f64 (Le.ln (Le.At ps) (n - 1))) ∧ Below w.heap.size w w' := by
  have HPS := Lib.hid hps
  have HD := Lib.hid hd
  have HN := Lib.hid hn
  have hnn : (n : Int) ≤ 100 := by omega
  have h1n : (1 : Int) ≤ n := by omega
  clear hps hd hn
  go_enter Tryd.func31, Tryd.ntmps31
  go_wp2
  go_loopw [3, 4] (fun av iv wr => ∃ (k : Nat), k + 1 ≤ n ∧ iv = .int .i64 ((k : Int) + 1) ∧ av = .float .f64 (Le.ln (Le.At ps) k) ∧ Below w.heap.size w wr) (fun _ iv _ => n - (intOf iv).toNat)
  case atStart => exact ⟨0, by omega, rfl, rfl, Below.refl _ _⟩
  case round =>
    obtain ⟨k, hk, rfl, rfl, hb⟩ := hrel
    by_cases hlt : k + 1 < n
    · have hil : k < ps.length := by have := HN.out; omega
      have hjl : k + 1 < ps.length := by have := HN.out; omega
      have hpi : ps[k]? = some ps[k] := List.getElem?_eq_getElem hil
      have hpj : ps[k + 1]? = some ps[k + 1] := List.getElem?_eq_getElem hjl
      obtain ⟨ii, mi⟩ := HD.out.dat k _ hpi
      obtain ⟨ij, mj⟩ := HD.out.dat (k + 1) _ hpj
      obtain ⟨c0, c1⟩ := HPS.out k _ hpi
      obtain ⟨d0, d1⟩ := HPS.out (k + 1) _ hpj
      obtain ⟨p, hpe⟩ : ∃ p, p = ps[k] := ⟨_, rfl⟩
      obtain ⟨q, hpe1⟩ : ∃ p, p = ps[k + 1] := ⟨_, rfl⟩
      rw [← hpe] at ii c0 c1 hpi
      rw [← hpe1] at ij d0 d1 hpj
      have a1 := Le.at_some hpi
      have a2 := Le.at_some hpj
      obtain ⟨s1, s2, s3, s4, s5⟩ := sq_ints ii ij mi mj
      have hcall := fun W => squared_any p q ⟨ii.1.1, ii.2.1, ij.1.1, ij.2.1, s1.1, s2.1, s3.1, s4.1⟩ W
      have hcall2 := fun W => sqrt_any (sqDist p q) s5.1 (sq_nonneg ii ij mi mj) W
      obtain ⟨tf, _, _⟩ := Le.seg_term ii ij mi mj
      obtain ⟨sf, _, _⟩ := Le.ln_bd HD.out.dat k (by omega) (by omega)
      have hln : Le.ln (Le.At ps) (k + 1) = fadd (Le.ln (Le.At ps) k) (fsqrt (sqDist p q)) := by
        show fadd _ (fsqrt (sqDist (Le.At ps k) (Le.At ps (k + 1)))) = _
        rw [a1, a2]
      obtain ⟨D, hD⟩ : ∃ D, D = fsqrt (sqDist p q) := ⟨_, rfl⟩
      obtain ⟨Q, hQ⟩ : ∃ D, D = sqDist p q := ⟨_, rfl⟩
      obtain ⟨S, hS⟩ : ∃ S, S = Le.ln (Le.At ps) k := ⟨_, rfl⟩
      rw [← hD] at hcall2 tf hln
      rw [← hQ] at hcall hcall2
      rw [← hS] at sf hln ⊢
      have r1 := run_fadd (P := Tryd.prog) sf tf 27
      have HLN := Lib.hid hln
      have c0' := cell_later hb c0
      have c1' := cell_later hb c1
      have d0' := cell_later hb d0
      have d1' := cell_later hb d1
      have hki : (k : Int) < n := by omega
      have hki1 : (k : Int) + 1 < n := by omega
      have hk0 : (0 : Int) ≤ k := by omega
      have hk1 : (0 : Int) ≤ (k : Int) + 1 := by omega
      have hkt : ((k : Int) + 1).toNat = k + 1 := by omega
      have hwm : IntKind.i64.wrap ((k : Int) + 1 - 1) = (k : Int) := by rw [Int.add_sub_cancel]; exact IntWalk.i64_in _ (by omega)
      have hwk0 : IntKind.i64.wrap (k : Int) = (k : Int) := IntWalk.i64_in _ (by omega)
      have hwk1 : IntKind.i64.wrap ((k : Int) + 1 + 1) = (k : Int) + 1 + 1 := IntWalk.i64_in _ (by omega)
      have HB := Lib.hid hb
      clear hb c0 c1 d0 d1 hpi hpj hpe hpe1 hil hjl ii ij mi mj a1 a2 tf sf hln hD hS hQ s1 s2 s3 s4 s5
      go_wp2_with fail
      go_region_held3 (fun w' => w'.cell? ⟨g, off + k * 2, none⟩ = some (.float .f64 p.1) ∧ w'.cell? ⟨g, off + k * 2 + 1, none⟩ = some (.float .f64 p.2) ∧ w'.cell? ⟨g, off + (k + 1) * 2, none⟩ = some (.float .f64 q.1) ∧ w'.cell? ⟨g, off + (k + 1) * 2 + 1, none⟩ = some (.float .f64 q.2))
        (first | exact ⟨c0', c1', d0', d1'⟩ | exact keep4 hb4 ⟨c0', c1', d0', d1'⟩ | go_keep)
        ((first
        | (go_simp; go_at_call 37; refine (hcall2 _).mono ?_; rintro e w5 ⟨rfl, rfl⟩)
        | (go_simp; go_at_call 23; refine (hcall _).mono ?_; rintro e w4 ⟨rfl, hb4⟩)))
      have HL4 := Lib.hid (HB.out.drew.trans (hb4.mono HB.out.size))
      clear hb4 c0' c1' d0' d1' hcall hcall2
      go_wp2
      go_roundw
      case rel => exact ⟨k + 1, by omega, by go_num, by rw [HLN.out], HL4.out⟩
      case measure => simp [intOf]; omega
    · have hkn : k = n - 1 := by omega
      have hnlt : ¬ ((k : Int) + 1 < (n : Int)) := by omega
      have HB := Lib.hid hb
      have HK := Lib.hid hkn
      clear hb hkn
      go_wp2
      go_ret
      rw [HK.out]
      exact ⟨rfl, HB.out⟩
set_option maxRecDepth 100000 in
theorem long_none (ao : Option Addr) (cap : Nat) (w : World) :
    Calls Tryd.prog 31 #[.slice ao 0 cap] w fun e w' => e = .returned (.float .f64 0) ∧ Below w.heap.size w w' := by
  go_enter Tryd.func31, Tryd.ntmps31
  go_wp2
  refine wp_loop_rounds 1 ?_
  rw [rounds_succ]
  go_wp2
  go_ret
  exact ⟨rfl, Below.refl _ _⟩
theorem long_any {w : World} {v : Value} {ps : List (Nat × Nat)} {X Y : Nat → Int} (hv : IsPts w v ps) (h100 : ps.length ≤ 100) (hd : DatW ps X Y) :
    Calls Tryd.prog 31 #[v] w
      fun e w' => e = .returned (.float .f64 (Le.ln (Le.At ps) (ps.length - 1))) ∧ Below w.heap.size w w' := by
  obtain ⟨ao, cap, rfl, h⟩ := hv
  by_cases h0 : ps.length = 0
  · rw [h0]
    exact long_none ao cap w
  · rcases h with h | ⟨b, off, rfl, h⟩
    · rw [h] at h0; simp at h0
    · exact long_len b ps.length cap off ps X Y w rfl (by omega) h100 h hd
end Go.Proofs.YtpbhpplmokdkhaaDoor
