/- The walks of unmarshalPoints. -/
import Derived.Test.YtjbjjphgnilhmaaGreatDoorBg
import Derived.Deep.LoopGhost
import Derived.Deep.RegionHeld3
set_option linter.unusedVariables false
namespace Go.Proofs.YtjbjjphgnilhmaaGreatDoor
open Go.RowKit
variable {A : Addr → Prop}

/-- A slice from a place on: at its very end it keeps its address. -/
theorem from_run (b off n c k : Nat) (K : Int) (hK : K = k) (hk : k ≤ n) (hc : n ≤ c) : ∃ o', (∀ w, (Instr.slice 22 (.slice (some ⟨b, off, none⟩) n c) (some (.int .i64 K)) none none).run Tryz.prog w = .ok (.slice (some ⟨b, o', none⟩) (n - k) (c - k)) w) ∧ (¬ c = k → o' = off + k) := by
  subst hK
  by_cases h : c = k
  · refine ⟨off, fun w => ?_, fun hn => absurd h hn⟩
    have g : (k : Int) ≤ n := by omega
    subst h
    go_simp
  · refine ⟨off + k, fun w => ?_, fun _ => rfl⟩
    have g : (k : Int) ≤ n := by omega
    go_simp
/-- The bytes of a slice from a place on. -/
theorem from_bytes {w : World} {b off n c : Nat} {l : By.Bs} {k o' : Nat} (hx : BytesAt w b off l) (hl : l.length = n) (hc : n ≤ c) (hk : k ≤ n) (ho : ¬ c = k → o' = off + k) : (l.drop k).length = n - k ∧ n - k ≤ c - k ∧ BytesAt w b o' (l.drop k) := by
  refine ⟨by simp [hl], by omega, ?_⟩
  by_cases h : c = k
  · have : l.drop k = [] := List.drop_eq_nil_of_le (by omega)
    rw [this]
    intro i x hi
    simp at hi
  · rw [ho h]
    exact hx.drop k
theorem cell_off {w : World} {b i j : Nat} {u : Value} (h : i ≠ j) : (w.setCell ⟨b, i, none⟩ u).cell? ⟨b, j, none⟩ = w.cell? ⟨b, j, none⟩ := by
  unfold World.setCell World.cell?
  simp only [Array.getElem?_modify]
  cases hh : w.heap[b]? with
  | none => simp
  | some ob =>
    cases ob <;> simp only [if_true, Option.map_some]
    simp [h]
theorem frozen_off {w : World} {b i j : Nat} {u : Value} : (w.setCell ⟨b, i, none⟩ u).frozen? ⟨b, j, none⟩ = w.frozen? ⟨b, j, none⟩ := by
  unfold World.setCell World.frozen?
  simp only [Array.getElem?_modify]
  cases hh : w.heap[b]? with
  | none => simp
  | some ob =>
    cases ob <;> simp only [if_true, Option.map_some]
theorem bytes_set {w : World} {b off g i : Nat} {l : By.Bs} {u : Value} (h : BytesAt w b off l) (hne : g ≠ b) : BytesAt (w.setCell ⟨g, i, none⟩ u) b off l := fun j x hj =>
  (World.cell?_of_block (Below.heap_setCell w ⟨g, i, none⟩ u b (fun e => hne e.symm))).trans (h j x hj)
theorem _root_.List.take_succ_of {α : Type} {l : List α} {k : Nat} {x : α} (h : l[k]? = some x) : l.take (k + 1) = l.take k ++ [x] := by
  rw [List.take_add_one, h]; rfl
/-- No points: an error. -/
def NoPts (A : Addr → Prop) (w : World) (e : Ending) (w' : World) : Prop := ∃ err, IsErr A err ∧ e = .returned (.tuple #[.slice none 0 0, err]) ∧ Below w.heap.size w w'
theorem ups_short (ao : Option Addr) (n c : Nat) (w : World) (he : Errs A w) (hn : n < 4) (x : Int) :
    Calls Tryz.prog 71 #[.int .i64 x, .slice ao n c] w (NoPts A w) := by
  obtain ⟨a, ha⟩ := he 2 (by omega) (by omega)
  clear he
  go_enter Tryz.func71, Tryz.ntmps71
  go_wp2_with fail
  go_quiet (fail)
  go_wp2_with fail
  go_ret2
  exact ⟨_, ⟨a, rfl⟩, rfl, below_drewN (Below.refl _ _) _⟩
theorem ups_few (le : Bool) (b off n c : Nat) (l : By.Bs) (w : World) (he : Errs A w) (hl : l.length = n) (hn : 4 ≤ n) (hc : n ≤ c) (h31 : n ≤ 2147483647) (hx : BytesAt w b off l) (hm : n - 4 < By.u32 le l * 16) :
    Calls Tryz.prog 71 #[.int .i64 (ordI le), .slice (some ⟨b, off, none⟩) n c] w (NoPts A w) := by
  obtain ⟨a, ha⟩ := he 2 (by omega) (by omega)
  have hcall := u32_call le b off n c l w hl hn hx
  have hb := By.u32_lt le l
  obtain ⟨m, hme⟩ : ∃ m, m = By.u32 le l := ⟨_, rfl⟩
  rw [← hme] at hcall hm hb
  obtain ⟨o4, hsl, ho4⟩ := from_run b off n c 4 4 rfl hn hc
  have hn4 : ((n - 4 : Nat) : Int) ≤ 2147483647 := by omega
  have HN := Lib.hid hn
  have hlt4 := decide_eq_false (show ¬ (n : Int) < 4 by omega)
  have hlt := decide_eq_true (show ((n - 4 : Nat) : Int) < (m : Int) * 16 by omega)
  clear he hl hx hme hn ho4
  go_enter Tryz.func71, Tryz.ntmps71
  go_wp2_with fail
  refine hcall.mono ?_
  rintro e w1 ⟨rfl, q, rfl⟩
  clear hcall
  go_wp2_with fail
  go_quiet (fail)
  go_wp2_with fail
  go_ret2
  exact ⟨_, ⟨a, rfl⟩, rfl, below_drewN (below_drewN (Below.refl _ _) _) _⟩


set_option maxRecDepth 100000 in
set_option maxHeartbeats 2000000 in
theorem ups_be (b off n c : Nat) (l : By.Bs) (w : World) (hl : l.length = n) (hn : 4 ≤ n) (hc : n ≤ c) (h31 : n ≤ 2147483647) (hx : BytesAt w b off l) (hm : ¬ n - 4 < By.u32 false l * 16) :
    Calls Tryz.prog 71 #[.int .i64 0, .slice (some ⟨b, off, none⟩) n c] w fun e w' => ∃ v, e = .returned (.tuple #[v, .nilIface]) ∧ Rowed False repPt w.heap.size 68 w' v (By.ptsOf false (By.u32 false l) (l.drop 4)) ∧ Below w.heap.size w w' := by
  obtain ⟨i0, hi, hz0, hz1, hz2⟩ := info_parts info68
  have hcall := u32_call false b off n c l w hl hn hx
  have hk := call_frombits
  have hb := By.u32_lt false l
  obtain ⟨m, hme⟩ : ∃ m, m = By.u32 false l := ⟨_, rfl⟩
  rw [← hme] at hcall hm hb ⊢
  obtain ⟨d, hd⟩ : ∃ d, d = l.drop 4 := ⟨_, rfl⟩
  obtain ⟨o4, hsl, ho4⟩ := from_run b off n c 4 4 rfl hn hc
  have hn4 : ((n - 4 : Nat) : Int) ≤ 2147483647 := by omega
  have HN := Lib.hid hn
  have hlt4 := decide_eq_false (show ¬ (n : Int) < 4 by omega)
  have S4 := from_bytes hx hl hc hn ho4
  rw [← hd] at S4 ⊢
  have hlt := decide_eq_false (show ¬ ((n - 4 : Nat) : Int) < (m : Int) * 16 by omega)
  have hz : w.heap.size ≤ w.heap.size := Nat.le_refl _
  have HS := Lib.hid S4
  have HM := Lib.hid hm
  have HG := Lib.hid (fun k hk => ptsOf_get false m d k hk)
  have HI := Lib.hid (⟨hi, hz0, hz1, hz2⟩ : _ ∧ _ ∧ _ ∧ _)
  clear hl hx hme hd S4 hm hi hz0 hz1 hz2 hn ho4 hc h31
  go_enter Tryz.func71, Tryz.ntmps71
  go_wp2_with fail
  refine hcall.mono ?_
  rintro e w1 ⟨rfl, q, rfl⟩
  clear hcall
  by_cases hbig : 10000 < m
  all_goals
    go_wp2_with (at_make; refine wpList_make_own _ rfl _ _ 71 rfl w.heap.size 68 i0 (.agg #[.float .f64 0, .float .f64 0]) 2 Tryz.underlying71 HI.out.1 HI.out.2.1 HI.out.2.2.1 .i64 .u32 _ (min m 10000) rfl rfl (by omega) ?b2 ?b3 (Nat.le_refl _) ?_)
    case b2 => rw [HI.out.2.2.2]; omega
    case b3 => unfold maxLen; omega
    intro w2 hown hgrow
    have hR := Rowed.of_made (r := repPt) hown False
    have HB : Hid (Below w.heap.size w w2) := Lib.hid ((below_drewN (Below.refl _ _) q).grown hgrow (Nat.le_refl _) (fun _ h => by cases h))
    clear hown hgrow
    go_wp2_with fail
    clear hlt
    go_loopw [8, 10] (fun v i wr => ∃ k : Nat, k ≤ m ∧ i = .int .i64 k ∧ Rowed False repPt w.heap.size 68 wr v ((By.ptsOf false m d).take k) ∧ Hid (Below w.heap.size w wr)) (fun _ i _ => m - (intOf i).toNat)
    case atStart => exact ⟨0, Nat.zero_le _, rfl, hR, HB⟩
    case round =>
      clear hR HB
      obtain ⟨k, hk, rfl, hR, HB⟩ := hrel
      by_cases hlt : k < m
      · have hps : (By.ptsOf false m d).length = m := By.ptsOf_length _ _ _
        have htl : ((By.ptsOf false m d).take k).length = k := by simp [hps]; omega
        have hsz := HB.out.size
        have hRl := hR.lt
        have HPS := Lib.hid htl
        have HSZ := Lib.hid hsz
        have HRL := Lib.hid hRl
        have HM2 := Lib.hid HM.out
        have hkm : (k : Int) < m := by omega
        clear hps htl hsz hRl
        go_wp2_with (at_builtin; refine wpList_append_rowed rfl _ _ 71 rfl (lo := wr.heap.size) 68 68 i0 (.agg #[.float .f64 0, .float .f64 0]) 16 Tryz.underlying71 HI.out.1 HI.out.2.1 HI.out.2.2.1 HI.out.2.2.2 rfl (by decide) _ _ rfl hR (ptCells (0, 0)) (0, 0) (fun _ _ => False) ?c0 rfl HSZ.out ?c1 #[.float .f64 0, .float .f64 0] rfl _ rfl rfl ?c2 ?c3 HSZ.out ?_)
        case c0 => exact fun _ _ h => h.elim
        case c1 => exact fun k hk => (HRL.out k hk).2
        case c2 => rw [HPS.out]; unfold maxLen; omega
        case c3 => rw [HPS.out]; have := HM2.out; omega
        intro v1 w1 hR1 hg
        obtain ⟨g, cap, hv, hcap, hcm, hbg, hgl⟩ := hR1.formN
        rw [List.length_append, HPS.out, List.length_cons, List.length_nil, Nat.zero_add] at hv hcap
        obtain ⟨K1, hK1⟩ : ∃ K1, K1 = k + 1 := ⟨_, rfl⟩
        rw [← hK1] at hv hcap
        subst hv
        have hL := hR1.last (g := g) rfl
        rw [HPS.out] at hL
        obtain ⟨⟨c0, f0⟩, c1, f1⟩ := hL
        have hb1 := HB.out.grown hg HSZ.out (fun k hk => (HRL.out k hk).1)
        have X := HS.out.2.2.below hb1
        have hm16 := HM2.out
        obtain ⟨o1, hs1, ho1⟩ := from_run b o4 (n - 4) (c - 4) (16 * k) (16 * (k : Int)) (by omega) (by omega) HS.out.2.1
        obtain ⟨o2, hs2, ho2⟩ := from_run b o4 (n - 4) (c - 4) (16 * k + 8) (16 * (k : Int) + 8) (by omega) (by omega) HS.out.2.1
        have X1 := from_bytes X HS.out.1 HS.out.2.1 (by omega) ho1
        have X2 := from_bytes X HS.out.1 HS.out.2.1 (by omega) ho2
        have hj1 : IntKind.i64.wrap (16 * (k : Int)) = 16 * (k : Int) := IntWalk.i64_in _ (by omega)
        have hj2 : IntKind.i64.wrap (16 * (k : Int) + 8) = 16 * (k : Int) + 8 := IntWalk.i64_in _ (by omega)
        have hq1 : 8 ≤ n - 4 - 16 * k := by omega
        have hq2 : 8 ≤ n - 4 - (16 * k + 8) := by omega
        obtain ⟨x, hx⟩ : ∃ x, x = By.u64 false (d.drop (16 * k)) := ⟨_, rfl⟩
        obtain ⟨y, hy⟩ : ∃ y, y = By.u64 false (d.drop (16 * k + 8)) := ⟨_, rfl⟩
        obtain ⟨W2, hW2⟩ : ∃ W, W = w1.setCell ⟨g, k * 2, none⟩ (.float .f64 x) := ⟨_, rfl⟩
        obtain ⟨W3, hW3⟩ : ∃ W, W = W2.setCell ⟨g, k * 2 + 1, none⟩ (.float .f64 y) := ⟨_, rfl⟩
        have hne : g ≠ b := by have := BytesAt.lt (HS.out.2.2.drop (16 * k)) (by intro h; have h2 := congrArg List.length h; rw [List.length_drop, HS.out.1] at h2; simp at h2; omega); omega
        have c1' : W2.cell? ⟨g, k * 2 + 1, none⟩ = some (.float .f64 0) := by rw [hW2, cell_off (by omega)]; exact c1
        have f1' : W2.frozen? ⟨g, k * 2 + 1, none⟩ = false := by rw [hW2, frozen_off]; exact f1
        have X2' : BytesAt W2 b o2 (d.drop (16 * k + 8)) := by rw [hW2]; exact bytes_set X2.2.2 hne
        have hR3 := hR1.set2 (g := g) rfl x y
        rw [HPS.out, ← hW2, ← hW3] at hR3
        have hps : (By.ptsOf false m d)[k]? = some (x, y) := by rw [hx, hy]; exact HG.out k hlt
        rw [← List.take_succ_of hps] at hR3
        have hb3 : Below w.heap.size w W3 := by rw [hW3, hW2]; exact (hb1.setCell hbg _).setCell hbg _
        have hcall1 := fun (W : World) (h : BytesAt W b o1 (d.drop (16 * k))) => be64_call b o1 (n - 4 - 16 * k) (c - 4 - 16 * k) (d.drop (16 * k)) W X1.1 hq1 X1.2.1 h
        have hcall2 := fun (W : World) (h : BytesAt W b o2 (d.drop (16 * k + 8))) => be64_call b o2 (n - 4 - (16 * k + 8)) (c - 4 - (16 * k + 8)) (d.drop (16 * k + 8)) W X2.1 hq2 X2.2.1 h
        rw [← hx] at hcall1
        rw [← hy] at hcall2
        have hik : (k : Int) < (K1 : Int) := by omega
        have hk0 : (0 : Int) ≤ (k : Int) := by omega
        have HC1 := Lib.hid hcall1
        have HC2 := Lib.hid hcall2
        have HX1 := Lib.hid X1.2.2
        have HX2 := Lib.hid X2'
        have HR1 := Lib.hid hR3
        have HB1 := Lib.hid hb3
        have HW2 := Lib.hid hW2
        have HW3 := Lib.hid hW3
        clear hR hR1 hg hcap hcm hbg hgl hb1 X hm16 ho1 ho2 X1 X2 X2' hx hy hW2 hW3 c1 f1 hR3 hK1 hps hb3 hne hq1 hq2 hcall1 hcall2
        go_wp2_with fail
        go_region_held3 (fun w' => True) (exact trivial) ((go_at_call 69; refine (HC1.out _ ?_).mono ?_; exact HX1.out; rintro e w2 ⟨rfl, q2, rfl⟩))
        clear c0 f0
        go_wp2_with fail
        rw [← HW2.out]
        go_region_held3 (fun w' => True) (exact trivial) ((go_at_call 69; refine (HC2.out _ ?_).mono ?_; exact HX2.out; rintro e w2 ⟨rfl, q3, rfl⟩))
        clear c1' f1'
        go_wp2_with fail
        rw [← HW3.out]
        have hR4 := fun q => HR1.out.drewN q
        have HB4 := fun q => Lib.hid (below_drewN HB1.out q)
        go_roundw
        case rel => exact ⟨k + 1, by omega, by go_num, hR4 _, HB4 _⟩
        case measure => simp [intOf]; omega
      · obtain rfl : k = m := by omega
        rw [List.take_of_length_le (by rw [By.ptsOf_length]; omega)] at hR
        have HR := Lib.hid hR
        clear hR
        go_wp2_with fail
        go_ret2
        exact ⟨_, rfl, HR.out, HB.out⟩


set_option maxRecDepth 100000 in
set_option maxHeartbeats 2000000 in
theorem ups_le (b off n c : Nat) (l : By.Bs) (w : World) (hl : l.length = n) (hn : 4 ≤ n) (hc : n ≤ c) (h31 : n ≤ 2147483647) (hx : BytesAt w b off l) (hm : ¬ n - 4 < By.u32 true l * 16) :
    Calls Tryz.prog 71 #[.int .i64 1, .slice (some ⟨b, off, none⟩) n c] w fun e w' => ∃ v, e = .returned (.tuple #[v, .nilIface]) ∧ Rowed False repPt w.heap.size 68 w' v (By.ptsOf true (By.u32 true l) (l.drop 4)) ∧ Below w.heap.size w w' := by
  obtain ⟨i0, hi, hz0, hz1, hz2⟩ := info_parts info68
  have hcall := u32_call true b off n c l w hl hn hx
  have hk := call_frombits
  have hb := By.u32_lt true l
  obtain ⟨m, hme⟩ : ∃ m, m = By.u32 true l := ⟨_, rfl⟩
  rw [← hme] at hcall hm hb ⊢
  obtain ⟨d, hd⟩ : ∃ d, d = l.drop 4 := ⟨_, rfl⟩
  obtain ⟨o4, hsl, ho4⟩ := from_run b off n c 4 4 rfl hn hc
  have hn4 : ((n - 4 : Nat) : Int) ≤ 2147483647 := by omega
  have HN := Lib.hid hn
  have hlt4 := decide_eq_false (show ¬ (n : Int) < 4 by omega)
  have S4 := from_bytes hx hl hc hn ho4
  rw [← hd] at S4 ⊢
  have hlt := decide_eq_false (show ¬ ((n - 4 : Nat) : Int) < (m : Int) * 16 by omega)
  have hz : w.heap.size ≤ w.heap.size := Nat.le_refl _
  have HS := Lib.hid S4
  have HM := Lib.hid hm
  have HG := Lib.hid (fun k hk => ptsOf_get true m d k hk)
  have HI := Lib.hid (⟨hi, hz0, hz1, hz2⟩ : _ ∧ _ ∧ _ ∧ _)
  clear hl hx hme hd S4 hm hi hz0 hz1 hz2 hn ho4 hc h31
  go_enter Tryz.func71, Tryz.ntmps71
  go_wp2_with fail
  refine hcall.mono ?_
  rintro e w1 ⟨rfl, q, rfl⟩
  clear hcall
  by_cases hbig : 10000 < m
  all_goals
    go_wp2_with (at_make; refine wpList_make_own _ rfl _ _ 71 rfl w.heap.size 68 i0 (.agg #[.float .f64 0, .float .f64 0]) 2 Tryz.underlying71 HI.out.1 HI.out.2.1 HI.out.2.2.1 .i64 .u32 _ (min m 10000) rfl rfl (by omega) ?b2 ?b3 (Nat.le_refl _) ?_)
    case b2 => rw [HI.out.2.2.2]; omega
    case b3 => unfold maxLen; omega
    intro w2 hown hgrow
    have hR := Rowed.of_made (r := repPt) hown False
    have HB : Hid (Below w.heap.size w w2) := Lib.hid ((below_drewN (Below.refl _ _) q).grown hgrow (Nat.le_refl _) (fun _ h => by cases h))
    clear hown hgrow
    go_wp2_with fail
    clear hlt
    go_loopw [8, 9] (fun v i wr => ∃ k : Nat, k ≤ m ∧ i = .int .i64 k ∧ Rowed False repPt w.heap.size 68 wr v ((By.ptsOf true m d).take k) ∧ Hid (Below w.heap.size w wr)) (fun _ i _ => m - (intOf i).toNat)
    case atStart => exact ⟨0, Nat.zero_le _, rfl, hR, HB⟩
    case round =>
      clear hR HB
      obtain ⟨k, hk, rfl, hR, HB⟩ := hrel
      by_cases hlt : k < m
      · have hps : (By.ptsOf true m d).length = m := By.ptsOf_length _ _ _
        have htl : ((By.ptsOf true m d).take k).length = k := by simp [hps]; omega
        have hsz := HB.out.size
        have hRl := hR.lt
        have HPS := Lib.hid htl
        have HSZ := Lib.hid hsz
        have HRL := Lib.hid hRl
        have HM2 := Lib.hid HM.out
        have hkm : (k : Int) < m := by omega
        clear hps htl hsz hRl
        go_wp2_with (at_builtin; refine wpList_append_rowed rfl _ _ 71 rfl (lo := wr.heap.size) 68 68 i0 (.agg #[.float .f64 0, .float .f64 0]) 16 Tryz.underlying71 HI.out.1 HI.out.2.1 HI.out.2.2.1 HI.out.2.2.2 rfl (by decide) _ _ rfl hR (ptCells (0, 0)) (0, 0) (fun _ _ => False) ?c0 rfl HSZ.out ?c1 #[.float .f64 0, .float .f64 0] rfl _ rfl rfl ?c2 ?c3 HSZ.out ?_)
        case c0 => exact fun _ _ h => h.elim
        case c1 => exact fun k hk => (HRL.out k hk).2
        case c2 => rw [HPS.out]; unfold maxLen; omega
        case c3 => rw [HPS.out]; have := HM2.out; omega
        intro v1 w1 hR1 hg
        obtain ⟨g, cap, hv, hcap, hcm, hbg, hgl⟩ := hR1.formN
        rw [List.length_append, HPS.out, List.length_cons, List.length_nil, Nat.zero_add] at hv hcap
        obtain ⟨K1, hK1⟩ : ∃ K1, K1 = k + 1 := ⟨_, rfl⟩
        rw [← hK1] at hv hcap
        subst hv
        have hL := hR1.last (g := g) rfl
        rw [HPS.out] at hL
        obtain ⟨⟨c0, f0⟩, c1, f1⟩ := hL
        have hb1 := HB.out.grown hg HSZ.out (fun k hk => (HRL.out k hk).1)
        have X := HS.out.2.2.below hb1
        have hm16 := HM2.out
        obtain ⟨o1, hs1, ho1⟩ := from_run b o4 (n - 4) (c - 4) (16 * k) (16 * (k : Int)) (by omega) (by omega) HS.out.2.1
        obtain ⟨o2, hs2, ho2⟩ := from_run b o4 (n - 4) (c - 4) (16 * k + 8) (16 * (k : Int) + 8) (by omega) (by omega) HS.out.2.1
        have X1 := from_bytes X HS.out.1 HS.out.2.1 (by omega) ho1
        have X2 := from_bytes X HS.out.1 HS.out.2.1 (by omega) ho2
        have hj1 : IntKind.i64.wrap (16 * (k : Int)) = 16 * (k : Int) := IntWalk.i64_in _ (by omega)
        have hj2 : IntKind.i64.wrap (16 * (k : Int) + 8) = 16 * (k : Int) + 8 := IntWalk.i64_in _ (by omega)
        have hq1 : 8 ≤ n - 4 - 16 * k := by omega
        have hq2 : 8 ≤ n - 4 - (16 * k + 8) := by omega
        obtain ⟨x, hx⟩ : ∃ x, x = By.u64 true (d.drop (16 * k)) := ⟨_, rfl⟩
        obtain ⟨y, hy⟩ : ∃ y, y = By.u64 true (d.drop (16 * k + 8)) := ⟨_, rfl⟩
        obtain ⟨W2, hW2⟩ : ∃ W, W = w1.setCell ⟨g, k * 2, none⟩ (.float .f64 x) := ⟨_, rfl⟩
        obtain ⟨W3, hW3⟩ : ∃ W, W = W2.setCell ⟨g, k * 2 + 1, none⟩ (.float .f64 y) := ⟨_, rfl⟩
        have hne : g ≠ b := by have := BytesAt.lt (HS.out.2.2.drop (16 * k)) (by intro h; have h2 := congrArg List.length h; rw [List.length_drop, HS.out.1] at h2; simp at h2; omega); omega
        have c1' : W2.cell? ⟨g, k * 2 + 1, none⟩ = some (.float .f64 0) := by rw [hW2, cell_off (by omega)]; exact c1
        have f1' : W2.frozen? ⟨g, k * 2 + 1, none⟩ = false := by rw [hW2, frozen_off]; exact f1
        have X2' : BytesAt W2 b o2 (d.drop (16 * k + 8)) := by rw [hW2]; exact bytes_set X2.2.2 hne
        have hR3 := hR1.set2 (g := g) rfl x y
        rw [HPS.out, ← hW2, ← hW3] at hR3
        have hps : (By.ptsOf true m d)[k]? = some (x, y) := by rw [hx, hy]; exact HG.out k hlt
        rw [← List.take_succ_of hps] at hR3
        have hb3 : Below w.heap.size w W3 := by rw [hW3, hW2]; exact (hb1.setCell hbg _).setCell hbg _
        have hcall1 := fun (W : World) (h : BytesAt W b o1 (d.drop (16 * k))) => le64_call b o1 (n - 4 - 16 * k) (c - 4 - 16 * k) (d.drop (16 * k)) W X1.1 hq1 X1.2.1 h
        have hcall2 := fun (W : World) (h : BytesAt W b o2 (d.drop (16 * k + 8))) => le64_call b o2 (n - 4 - (16 * k + 8)) (c - 4 - (16 * k + 8)) (d.drop (16 * k + 8)) W X2.1 hq2 X2.2.1 h
        rw [← hx] at hcall1
        rw [← hy] at hcall2
        have hik : (k : Int) < (K1 : Int) := by omega
        have hk0 : (0 : Int) ≤ (k : Int) := by omega
        have HC1 := Lib.hid hcall1
        have HC2 := Lib.hid hcall2
        have HX1 := Lib.hid X1.2.2
        have HX2 := Lib.hid X2'
        have HR1 := Lib.hid hR3
        have HB1 := Lib.hid hb3
        have HW2 := Lib.hid hW2
        have HW3 := Lib.hid hW3
        clear hR hR1 hg hcap hcm hbg hgl hb1 X hm16 ho1 ho2 X1 X2 X2' hx hy hW2 hW3 c1 f1 hR3 hK1 hps hb3 hne hq1 hq2 hcall1 hcall2
        go_wp2_with fail
        go_region_held3 (fun w' => True) (exact trivial) ((go_at_call 68; refine (HC1.out _ ?_).mono ?_; exact HX1.out; rintro e w2 ⟨rfl, q2, rfl⟩))
        clear c0 f0
        go_wp2_with fail
        rw [← HW2.out]
        go_region_held3 (fun w' => True) (exact trivial) ((go_at_call 68; refine (HC2.out _ ?_).mono ?_; exact HX2.out; rintro e w2 ⟨rfl, q3, rfl⟩))
        clear c1' f1'
        go_wp2_with fail
        rw [← HW3.out]
        have hR4 := fun q => HR1.out.drewN q
        have HB4 := fun q => Lib.hid (below_drewN HB1.out q)
        go_roundw
        case rel => exact ⟨k + 1, by omega, by go_num, hR4 _, HB4 _⟩
        case measure => simp [intOf]; omega
      · obtain rfl : k = m := by omega
        rw [List.take_of_length_le (by rw [By.ptsOf_length]; omega)] at hR
        have HR := Lib.hid hR
        clear hR
        go_wp2_with fail
        go_ret2
        exact ⟨_, rfl, HR.out, HB.out⟩


theorem ups_some (le : Bool) (b off n c : Nat) (l : By.Bs) (ps : List By.Pt) (w : World) (hp : By.uPoints le l = some ps) (hl : l.length = n) (hc : n ≤ c) (h31 : n ≤ 2147483647) (hx : BytesAt w b off l) :
    Calls Tryz.prog 71 #[.int .i64 (ordI le), .slice (some ⟨b, off, none⟩) n c] w fun e w' => ∃ v, e = .returned (.tuple #[v, .nilIface]) ∧ Rowed False repPt w.heap.size 68 w' v ps ∧ Below w.heap.size w w' := by
  unfold By.uPoints at hp
  split at hp
  · cases hp
  · split at hp
    · cases hp
    · rename_i h1 h2
      cases hp
      rw [List.length_drop, hl] at h2
      cases le
      · exact ups_be b off n c l w hl (by omega) hc h31 hx h2
      · exact ups_le b off n c l w hl (by omega) hc h31 hx h2
theorem ups_none (le : Bool) (b off n c : Nat) (l : By.Bs) (w : World) (hp : By.uPoints le l = none) (he : Errs A w) (hl : l.length = n) (hc : n ≤ c) (h31 : n ≤ 2147483647) (hx : BytesAt w b off l) :
    Calls Tryz.prog 71 #[.int .i64 (ordI le), .slice (some ⟨b, off, none⟩) n c] w (NoPts A w) := by
  unfold By.uPoints at hp
  split at hp
  · exact ups_short _ n c w he (by omega) _
  · split at hp
    · rename_i h1 h2
      rw [List.length_drop, hl] at h2
      exact ups_few le b off n c l w he hl (by omega) hc h31 hx h2
    · cases hp
/-- unmarshalLineString. -/
theorem uls_some (le : Bool) (b off n c : Nat) (l : By.Bs) (ps : List By.Pt) (w : World) (hp : By.uPoints le l = some ps) (hl : l.length = n) (hc : n ≤ c) (h31 : n ≤ 2147483647) (hx : BytesAt w b off l) :
    Calls Tryz.prog 44 #[.int .i64 (ordI le), .slice (some ⟨b, off, none⟩) n c] w fun e w' => ∃ v, e = .returned (.tuple #[v, .nilIface]) ∧ Rowed False repPt w.heap.size 68 w' v ps ∧ Below w.heap.size w w' := by
  have hcall := ups_some le b off n c l ps w hp hl hc h31 hx
  clear hp hl hx
  go_enter Tryz.func44, Tryz.ntmps44
  go_wp2_with fail
  refine hcall.mono ?_
  rintro e w1 ⟨v, rfl, hR, hb⟩
  have HR := Lib.hid hR
  have HB := Lib.hid hb
  clear hR hb hcall
  go_wp2_with fail
  go_ret2
  exact ⟨v, rfl, HR.out, HB.out⟩
theorem uls_none (le : Bool) (b off n c : Nat) (l : By.Bs) (w : World) (hp : By.uPoints le l = none) (he : Errs A w) (hl : l.length = n) (hc : n ≤ c) (h31 : n ≤ 2147483647) (hx : BytesAt w b off l) :
    Calls Tryz.prog 44 #[.int .i64 (ordI le), .slice (some ⟨b, off, none⟩) n c] w (NoPts A w) := by
  have hcall := ups_none le b off n c l w hp he hl hc h31 hx
  clear hp hl hx he
  go_enter Tryz.func44, Tryz.ntmps44
  go_wp2_with fail
  refine hcall.mono ?_
  rintro e w1 ⟨err, ⟨a, rfl⟩, rfl, hb⟩
  have HB := Lib.hid hb
  clear hb hcall
  go_wp2_with fail
  go_ret2
  exact ⟨_, ⟨a, rfl⟩, rfl, HB.out⟩

end Go.Proofs.YtjbjjphgnilhmaaGreatDoor
