/- The walk of precomputeDistances. -/
import Derived.Test.YtoibohoelcdomaaRe1
import Derived.Test.YtoibohoelcdomaaDpL
import Derived.Deep.RegionHeld3
import Derived.IntWalk
namespace Go.Proofs.Ytoibohoelcdomaa
open Go.RowKit Fl

theorem info_f64 : (Try.prog.info? 24).map (fun i => (i.zero, i.size, i.bytes)) = some (some (.float .f64 0), 1, 8) := by kernel_rfl

theorem keep4 {w w2 : World} {a b c d : Addr} {va vb vc vd : Value} (hb : Below w.heap.size w w2) (h : w.cell? a = some va ∧ w.cell? b = some vb ∧ w.cell? c = some vc ∧ w.cell? d = some vd) :
    w2.cell? a = some va ∧ w2.cell? b = some vb ∧ w2.cell? c = some vc ∧ w2.cell? d = some vd :=
  ⟨cell_later hb h.1, cell_later hb h.2.1, cell_later hb h.2.2.1, cell_later hb h.2.2.2⟩
theorem cell_other {w : World} {a b : Addr} {u v : Value} (hne : a.block ≠ b.block) (h : w.cell? b = some v) : (w.setCell a u).cell? b = some v :=
  (World.cell?_of_block (Below.heap_setCell w a u b.block (fun e => hne e.symm))).trans h
theorem cell_set_eq' {w : World} {g o : Nat} {v : Value} (h : w.cell? ⟨g, o, none⟩ = some v) (u : Value) : (w.setCell ⟨g, o, none⟩ u).cell? ⟨g, o, none⟩ = some u := by
  unfold World.cell? at h
  unfold World.setCell World.cell?
  simp only [Array.getElem?_modify]
  cases hh : w.heap[g]? with
  | none => simp [hh] at h
  | some ob =>
    cases ob with
    | cells cc ee ff =>
      simp only [hh] at h
      simp at h
      obtain ⟨hlt, _⟩ := Array.getElem?_eq_some_iff.1 h
      simp [hlt]
    | _ => simp [hh] at h
theorem keep4s {w : World} {g gd k : Nat} {o1 o2 o3 o4 : Nat} {u va vb vc vd : Value} (hne : gd ≠ g) (h : w.cell? ⟨g, o1, none⟩ = some va ∧ w.cell? ⟨g, o2, none⟩ = some vb ∧ w.cell? ⟨g, o3, none⟩ = some vc ∧ w.cell? ⟨g, o4, none⟩ = some vd) :
    (w.setCell ⟨gd, k, none⟩ u).cell? ⟨g, o1, none⟩ = some va ∧ (w.setCell ⟨gd, k, none⟩ u).cell? ⟨g, o2, none⟩ = some vb ∧ (w.setCell ⟨gd, k, none⟩ u).cell? ⟨g, o3, none⟩ = some vc ∧ (w.setCell ⟨gd, k, none⟩ u).cell? ⟨g, o4, none⟩ = some vd :=
  ⟨cell_other hne h.1, cell_other hne h.2.1, cell_other hne h.2.2.1, cell_other hne h.2.2.2⟩
/-- The lengths as cells: those of the first k segments are there. -/
def DisAt (w : World) (gd : Nat) (X Y : Nat → Int) (k : Nat) : Prop := ∀ i, i < k → ∃ D, w.cell? ⟨gd, i, none⟩ = some (.float .f64 D) ∧ IsI D (Re.dN X Y i : Int)

set_option maxRecDepth 100000 in
set_option maxHeartbeats 1000000 in
theorem pre_any (g n cap : Nat) (ps : List (Nat × Nat)) (X Y : Nat → Int) (w : World) (hn : ps.length = n) (h2 : 2 ≤ n) (hn60 : n ≤ 60) (hps : PtsAt w g 0 ps) (hd : Dat ps X Y)
    (hax : ∀ i, i + 1 < n → X (i + 1) = X i ∨ Y (i + 1) = Y i) :
    Calls Try.prog 23 #[.slice (some ⟨g, 0, none⟩) n cap, .func (.func 15) #[] #[]] w
      fun e w' => ∃ T gd, e = .returned (.tuple #[.float .f64 T, .slice (some ⟨gd, 0, none⟩) (n - 1) (n - 1)]) ∧ IsI T (Re.SN X Y (n - 1) : Int) ∧ T < 18446744073709551616 ∧ DisAt w' gd X Y (n - 1) ∧ Below w.heap.size w w' := by
  obtain ⟨i0, hi, hz0, hz1, hz2⟩ := info_parts info_f64
  have HPS := Lib.hid hps
  have HD := Lib.hid hd
  have HN := Lib.hid hn
  have h1n : (1 : Int) < n := by omega
  have h0n : 0 < n := by omega
  have hnn : (n : Int) ≤ 60 := by omega
  clear hps hd
  go_enter Try.func23, Try.ntmps23
  go_wp2_with (at_make; refine wpList_make_full _ rfl _ _ 54 rfl w.heap.size 24 i0 (.float .f64 0) 1 Try.underlying54 hi hz0 hz1 _ _ ((n : Int) - 1) ((n : Int) - 1) (n - 1) rfl rfl (by omega) (by omega) ?b1 ?b2 ?b3 ?_)
  case b1 => rw [hz2]; omega
  case b2 => unfold maxLen; omega
  case b3 => simp
  intro w1 hown1 hgrow1
  have hb1 : Below w.heap.size w w1 := (Below.refl _ _).grown hgrow1 (Nat.le_refl _) (by simp)
  obtain ⟨gd, hgd⟩ : ∃ gd, gd = w.heap.size := ⟨_, rfl⟩
  have HB1 := Lib.hid hb1
  have HO1 := Lib.hid hown1
  clear hb1 hown1 hgrow1
  go_wp2
  go_loopw [6, 8] (fun tv iv wr => ∃ (k T : Nat) (xs : List Value), k + 1 ≤ n ∧ iv = .int .i64 k ∧ tv = .float .f64 T ∧ Hid (IsI T (Re.SN X Y k : Int) ∧ T < 18446744073709551616) ∧
    Hid (wr.ownsRow w.heap.size 24 1 (.slice (some ⟨w.heap.size, 0, none⟩) (n - 1) (n - 1)) (n - 1) xs) ∧ Hid (∀ i, i < k → ∃ D, xs[i]? = some (.float .f64 D) ∧ IsI D (Re.dN X Y i : Int)) ∧ Below w.heap.size w wr) (fun _ iv _ => n - (intOf iv).toNat)
  case atStart => exact ⟨0, 0, _, by omega, rfl, rfl, Lib.hid ⟨isI_lit0, by decide⟩, HO1, Lib.hid (fun i hi => by omega), HB1.out⟩
  case round =>
    obtain ⟨k, T, xs, hk, rfl, rfl, HT, HO, HX, hb⟩ := hrel
    by_cases hlt : k + 1 < n
    · have hpk : ps[k]? = some ps[k] := List.getElem?_eq_getElem (by omega)
      have hpj : ps[k + 1]? = some ps[k + 1] := List.getElem?_eq_getElem (by omega)
      obtain ⟨ik, sk⟩ := HD.out k _ hpk
      obtain ⟨ij, sj⟩ := HD.out (k + 1) _ hpj
      obtain ⟨c0, c1⟩ := HPS.out k _ hpk
      obtain ⟨d0, d1⟩ := HPS.out (k + 1) _ hpj
      obtain ⟨⟨x, y⟩, hpe⟩ : ∃ p, p = ps[k] := ⟨_, rfl⟩
      obtain ⟨⟨x1, y1⟩, hpe1⟩ : ∃ p, p = ps[k + 1] := ⟨_, rfl⟩
      rw [← hpe] at ik c0 c1
      rw [← hpe1] at ij d0 d1
      simp only [Nat.zero_add] at c0 c1 d0 d1
      have c0' := cell_later hb c0
      have c1' := cell_later hb c1
      have d0' := cell_later hb d0
      have d1' := cell_later hb d1
      have hcall := fun w => dist_any (x, y) (x1, y1) ik ij sk sj w
      have hD : IsI (fsqrt (sqDist (x, y) (x1, y1))) ((Re.dN X Y k : Nat) : Int) := dist_axis ik ij sk sj (hax k hlt)
      obtain ⟨D, hDe⟩ : ∃ D, D = fsqrt (sqDist (x, y) (x1, y1)) := ⟨_, rfl⟩
      rw [← hDe] at hcall hD
      have htt := run_fadd (P := Try.prog) HT.out.1.1 hD.1 24
      have HDI := Lib.hid hD
      have HB := Lib.hid hb
      have hsz : w.heap.size < wr.heap.size := (HO.out.lt _ rfl).2
      have hki : (k : Int) + 1 < n := by omega
      have hki2 : (k : Int) < n := by omega
      have hgw : g < w.heap.size := World.block_lt_of_cell? w ⟨g, _, none⟩ c0
      have f1 : wr.frozen? ⟨w.heap.size, k, none⟩ = false := HO.out.frozenAt k
      obtain ⟨v0, e1⟩ : ∃ v0, wr.cell? ⟨w.heap.size, k, none⟩ = some v0 := ⟨_, by rw [HO.out.cellAt k (by omega)]; exact List.getElem?_eq_getElem (by have := HO.out.1; omega)⟩
      clear c0 c1 d0 d1 hpk hpj hpe hpe1 hDe hD ik ij sk sj hb hn
      go_wp2
      have hgne : w.heap.size ≠ g := by omega
      have hkm : (k : Int) < ((n - 1 : Nat) : Int) := by omega
      have hwr : IntKind.i64.wrap ((k : Int) + 1) = (k : Int) + 1 := IntWalk.i64_in _ (by omega)
      have hk0 : (0 : Int) ≤ (k : Int) + 1 := by omega
      have hkt : ((k : Int) + 1).toNat = k + 1 := by omega
      go_region_held3 (fun w' => w'.cell? ⟨g, k * 2, none⟩ = some (.float .f64 x) ∧ w'.cell? ⟨g, k * 2 + 1, none⟩ = some (.float .f64 y) ∧ w'.cell? ⟨g, (k + 1) * 2, none⟩ = some (.float .f64 x1) ∧ w'.cell? ⟨g, (k + 1) * 2 + 1, none⟩ = some (.float .f64 y1)) (first | exact keep4s hgne (by assumption) | exact keep4 hb2 (by assumption) | exact ⟨c0', c1', d0', d1'⟩ | go_keep) ((go_simp; go_at_call 15; refine (hcall _).mono ?_; rintro e w2 ⟨rfl, hb2⟩; have g1 := cell_later hb2 e1; have g2 := (hb2.frozen (p := ⟨w.heap.size, k, none⟩) hsz).trans f1))
      have HB2 := Lib.hid hb2
      have hown2 : w2.ownsRow w.heap.size 24 1 (.slice (some ⟨w.heap.size, 0, none⟩) (n - 1) (n - 1)) (n - 1) xs := HO.out.kept (gb_below (gb_drew (gb_refl wr none)) hb2) (.inr (by simp [Value.ownBlock]))
      obtain ⟨hown3, _⟩ := hown2.stored k (.float .f64 D)
      have g3 := cell_set_eq' g1 (.float .f64 D)
      have H3 := Lib.hid hown3
      clear hb2 hown2 hown3 hcall c0' c1' d0' d1' e1 f1 g1 g2
      go_wp2
      go_roundw
      case rel =>
        refine ⟨k + 1, fadd T D, xs.set k (.float .f64 D), by omega, by go_num, rfl, Lib.hid ⟨?_, fadd_lt _ _⟩, H3, Lib.hid ?_, ?_⟩
        · have hle := Re.SN_le (X := X) (Y := Y) (n := n) (fun i hi => by
            have := HD.out i _ (List.getElem?_eq_getElem (show i < ps.length by have := HN.out; omega)); exact ⟨this.2.1, this.2.2⟩) (k + 1) (by omega)
          have hS : Re.SN X Y (k + 1) = Re.SN X Y k + Re.dN X Y k := rfl
          have := isI_add HT.out.1 HDI.out (by clear hkt hk0 hwr; omega)
          rw [hS]
          exact this
        · intro i hi
          by_cases hik : i = k
          · subst hik
            refine ⟨D, ?_, HDI.out⟩
            rw [List.getElem?_set_self (by have := HO.out.1; omega)]
          · rw [List.getElem?_set_ne (fun e => hik e.symm)]
            exact HX.out i (by omega)
        · exact (HB.out.drew.trans (HB2.out.mono (by have := HB.out.size; exact this))).setCell (by simp) _
      case measure => simp [intOf]; omega
    · obtain rfl : k = n - 1 := by omega
      have H := HO.out
      have HFIN : Hid (DisAt wr w.heap.size X Y (n - 1)) := Lib.hid (by
        intro i hi
        obtain ⟨D, h1, h2⟩ := HX.out i hi
        exact ⟨D, by rw [H.cellAt i (by omega)]; exact h1, h2⟩)
      have HB := Lib.hid hb
      have hle : ((n - 1 : Nat) : Int) = (n : Int) - 1 := by omega
      have HLE := Lib.hid hle
      clear H hb hle hn
      go_wp2
      go_ret2
      exact ⟨T, w.heap.size, rfl, HT.out.1, HT.out.2, HFIN.out, HB.out⟩
end Go.Proofs.Ytoibohoelcdomaa
