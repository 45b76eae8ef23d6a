/- The walks of Point.Equal, resampleEdgeCases and precomputeDistances. -/
import Derived.Test.YtoibohoelcdomaaDist
import Derived.StillTailTactics
namespace Go.Proofs.Ytoibohoelcdomaa
open Go.RowKit Fl

theorem cell_alloc {w : World} {a : Addr} {v : Value} (h : w.cell? a = some v) (o : Obj) : (w.alloc o).cell? a = some v := cell_later ((Below.refl w.heap.size w).alloc (Nat.le_refl _) o) h

set_option maxHeartbeats 400000 in
theorem equal_any (p q : Nat × Nat) {px py qx qy : Int} (hp : IsP p px py) (hq : IsP q qx qy) (w : World) :
    Calls Try.prog 28 #[.agg #[.float .f64 p.1, .float .f64 p.2], .agg #[.float .f64 q.1, .float .f64 q.2]] w
      fun e w' => e = .returned (.bool (decide (px = qx ∧ py = qy))) ∧ Below w.heap.size w w' := by
  obtain ⟨b, hb⟩ : ∃ b, b = decide (px = qx ∧ py = qy) := ⟨_, rfl⟩
  rw [← hb]
  have HB := Lib.hid hb
  have e1 : (FloatKind.f64.format.order p.1 q.1 == some .eq) = decide (px = qx) := isI_eq hp.1 hq.1
  have e2 : (FloatKind.f64.format.order p.2 q.2 == some .eq) = decide (py = qy) := isI_eq hp.2 hq.2
  clear hb hp hq
  by_cases hx : px = qx
  · rw [decide_eq_true hx] at e1
    by_cases hy : py = qy
    · rw [decide_eq_true hy] at e2
      have hb : Hid (b = true) := Lib.hid (by rw [HB.out]; exact decide_eq_true ⟨hx, hy⟩)
      clear hx hy HB
      go_enter Try.func28, Try.ntmps28
      go_wp2
      go_ret
      rw [hb.out]
      exact ⟨rfl, below2 _ _ _⟩
    · rw [decide_eq_false hy] at e2
      have hb : Hid (b = false) := Lib.hid (by rw [HB.out]; exact decide_eq_false (fun h => hy h.2))
      clear hx hy HB
      go_enter Try.func28, Try.ntmps28
      go_wp2
      go_ret
      rw [hb.out]
      exact ⟨rfl, below2 _ _ _⟩
  · rw [decide_eq_false hx] at e1
    have hb : Hid (b = false) := Lib.hid (by rw [HB.out]; exact decide_eq_false (fun h => hx h.1))
    clear hx HB e2
    go_enter Try.func28, Try.ntmps28
    go_wp2
    go_ret
    rw [hb.out]
    exact ⟨rfl, below2 _ _ _⟩

set_option maxHeartbeats 1000000 in
/-- resampleEdgeCases where not all points are one. -/
theorem edge_any (g n cap tp : Nat) (ps : List (Nat × Nat)) (X Y : Nat → Int) (w : World) (hn : ps.length = n) (h2 : 2 ≤ n) (hn60 : n ≤ 1000000) (hps : PtsAt w g 0 ps) (hd : Dat ps X Y)
    (hne : ¬ ∀ i, i < n → X i = X 0 ∧ Y i = Y 0) :
    Calls Try.prog 22 #[.slice (some ⟨g, 0, none⟩) n cap, .int .i64 tp] w
      fun e w' => e = .returned (.tuple #[.slice (some ⟨g, 0, none⟩) n cap, .bool false]) ∧ Below w.heap.size w w' := by
  have HPS := Lib.hid hps
  have HD := Lib.hid hd
  have HN := Lib.hid hn
  have h1n : (1 : Int) < n := by omega
  have h0n : 0 < n := by omega
  clear hps hd
  go_enter Try.func22, Try.ntmps22
  go_wp2
  go_loopw [6, 15] (fun ev i wr => ∃ k : Nat, k ≤ n ∧ i = .int .i64 k ∧ ev = .bool true ∧ Hid (∀ j, j < k → X j = X 0 ∧ Y j = Y 0) ∧ Below w.heap.size w wr) (fun _ i _ => n - (intOf i).toNat)
  case atStart => exact ⟨0, Nat.zero_le _, rfl, rfl, Lib.hid (fun j hj => by omega), Below.refl _ _⟩
  case round =>
    obtain ⟨k, hk, rfl, rfl, HJ, hb⟩ := hrel
    by_cases hlt : k < n
    · have hpk : ps[k]? = some ps[k] := List.getElem?_eq_getElem (by omega)
      have hp0 : ps[0]? = some ps[0] := List.getElem?_eq_getElem (by omega)
      obtain ⟨ik, _, _⟩ := HD.out k _ hpk
      obtain ⟨i0, _, _⟩ := HD.out 0 _ hp0
      obtain ⟨c0, c1⟩ := HPS.out k _ hpk
      obtain ⟨d0, d1⟩ := HPS.out 0 _ hp0
      obtain ⟨⟨x, y⟩, hpe⟩ : ∃ p, p = ps[k] := ⟨_, rfl⟩
      obtain ⟨⟨x0, y0⟩, hpe0⟩ : ∃ p, p = ps[0] := ⟨_, rfl⟩
      rw [← hpe] at ik c0 c1
      rw [← hpe0] at i0 d0 d1
      simp only [Nat.zero_add, Nat.zero_mul] at c0 c1 d0 d1
      have c0' := cell_later hb c0
      have c1' := cell_later hb c1
      have d0' := cell_later hb d0
      have d1' := cell_later hb d1
      have hcall := fun w => equal_any (x0, y0) (x, y) i0 ik w
      have d0'' := cell_alloc d0' (.cells #[.float .f64 x, .float .f64 y] 50)
      have d1'' := cell_alloc d1' (.cells #[.float .f64 x, .float .f64 y] 50)
      obtain ⟨W1, hW1⟩ : ∃ W1, W1 = wr.alloc (.cells #[.float .f64 x, .float .f64 y] 50) := ⟨_, rfl⟩
      have b0 : W1.cell? ⟨wr.heap.size, 0, none⟩ = some (.float .f64 x) := by rw [hW1]; simp
      have b1 : W1.cell? ⟨wr.heap.size, 1, none⟩ = some (.float .f64 y) := by rw [hW1]; simp
      have hbW : Below w.heap.size w W1 := by rw [hW1]; exact hb.alloc hb.size _
      rw [← hW1] at d0'' d1''
      have HBW := Lib.hid hbW
      have HW1 := Lib.hid hW1
      have HB := Lib.hid hb
      clear hbW hW1
      clear c0 c1 d0 d1 hpk hp0 hpe hpe0 hb ik i0 hn
      by_cases he : X 0 = X k ∧ Y 0 = Y k
      · rw [decide_eq_true he] at hcall
        have HE := Lib.hid he
        clear he
        go_wp2
        rw [← HW1.out]
        clear d0' d1' c0' c1'
        go_still_tail 4, (by kernel_rfl)
        change wpList _ _ _ _ _ W1.drew
        go_wp2_with fail
        refine (hcall _).mono ?_
        rintro e w2 ⟨rfl, hb2⟩
        have HB2 := Lib.hid hb2
        clear hb2 hcall b0 b1 d0'' d1''
        go_wp2
        go_roundw
        case rel => exact ⟨k + 1, by omega, by go_num, rfl, Lib.hid (fun j hj => by
          by_cases hjk : j = k
          · subst hjk; exact ⟨HE.out.1.symm, HE.out.2.symm⟩
          · exact HJ.out j (by omega)), HBW.out.drew.trans (HB2.out.mono HBW.out.size)⟩
        case measure => simp [intOf]; omega
      · rw [decide_eq_false he] at hcall
        clear he
        go_wp2
        rw [← HW1.out]
        clear d0' d1' c0' c1'
        go_still_tail 4, (by kernel_rfl)
        change wpList _ _ _ _ _ W1.drew
        go_wp2_with fail
        refine (hcall _).mono ?_
        rintro e w2 ⟨rfl, hb2⟩
        have HB2 := Lib.hid hb2
        clear hb2 hcall b0 b1 d0'' d1''
        go_wp2
        go_ret2
        exact ⟨rfl, HBW.out.drew.trans (HB2.out.mono HBW.out.size)⟩
    · obtain rfl : k = n := by omega
      exact absurd HJ.out hne
end Go.Proofs.Ytoibohoelcdomaa
