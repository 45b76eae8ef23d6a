/- The walks of spec's reader of bytes: points, head. -/
import Derived.Test.YtjbjjphgnilhmaaGreatDoorEd
import Derived.Test.YtjbjjphgnilhmaaGreatDoorBz
set_option linter.unusedVariables false
set_option linter.unusedSimpArgs false
namespace Go.Proofs.YtjbjjphgnilhmaaGreatDoor
open Go.RowKit

theorem float_some (S : Psr) (le : Bool) (w : World) (l : By.Bs) (h : Prs S w l) (hl : 8 ≤ l.length) :
    Calls Tryz.prog 82 #[.pointer (some ⟨S.rb, 0, none⟩), .bool (!le)] w fun e w' => e = .returned (.tuple #[.float .f64 (By.u64 le l), .bool true]) ∧ Prs S w' (l.drop 8) ∧ Kept (Rb S) w w' := by
  cases le
  · exact float_be S w l h hl
  · exact float_le S w l h hl

theorem times_add {α : Type} (rd : By.Bs → Option (α × By.Bs)) : ∀ (j k : Nat) (l : By.Bs) (xs : List α) (r : By.Bs), By.times rd j l = some (xs, r) → By.times rd (j + k) l = (By.times rd k r).map fun x => (xs ++ x.1, x.2)
  | 0, k, l, xs, r, h => by
    simp only [By.times, Option.some.injEq, Prod.mk.injEq] at h
    obtain ⟨rfl, rfl⟩ := h
    rw [Nat.zero_add]
    cases By.times rd k l <;> simp
  | j + 1, k, l, xs, r, h => by
    rw [show j + 1 + k = (j + k) + 1 by omega]
    simp only [By.times] at h ⊢
    cases e : rd l with
    | none => rw [e] at h; cases h
    | some x =>
      obtain ⟨a, r1⟩ := x
      rw [e] at h
      simp only at h ⊢
      cases e2 : By.times rd j r1 with
      | none => rw [e2] at h; cases h
      | some y =>
        obtain ⟨bs, r2⟩ := y
        rw [e2] at h
        simp only [Option.some.injEq, Prod.mk.injEq] at h
        obtain ⟨rfl, rfl⟩ := h
        rw [times_add rd j k r1 bs r2 e2]
        cases By.times rd k r2 <;> simp
theorem times_one {α : Type} {rd : By.Bs → Option (α × By.Bs)} {l r : By.Bs} {a : α} (h : rd l = some (a, r)) : By.times rd 1 l = some ([a], r) := by simp [By.times, h]
theorem times_next {α : Type} {rd : By.Bs → Option (α × By.Bs)} {j : Nat} {l r r2 : By.Bs} {xs : List α} {a : α} (h : By.times rd j l = some (xs, r)) (h2 : rd r = some (a, r2)) : By.times rd (j + 1) l = some (xs ++ [a], r2) := by
  rw [times_add rd j 1 l xs r h, times_one h2]; rfl
theorem times_stop {α : Type} {rd : By.Bs → Option (α × By.Bs)} {j m : Nat} {l r : By.Bs} {xs : List α} (h : By.times rd j l = some (xs, r)) (h2 : rd r = none) (hj : j < m) : By.times rd m l = none := by
  obtain ⟨k, rfl⟩ : ∃ k, m = j + (k + 1) := ⟨m - j - 1, by omega⟩
  rw [times_add rd j (k + 1) l xs r h]
  simp [By.times, h2]
theorem times_pts {le : Bool} : ∀ {j : Nat} {l r : By.Bs} {ps : List By.Pt}, By.times (By.rPoint le) j l = some (ps, r) → ps.length = j ∧ 16 * j + r.length = l.length
  | 0, l, r, ps, h => by
    simp only [By.times, Option.some.injEq, Prod.mk.injEq] at h
    obtain ⟨rfl, rfl⟩ := h
    exact ⟨rfl, by omega⟩
  | j + 1, l, r, ps, h => by
    simp only [By.times] at h
    cases e : By.rPoint le l with
    | none => rw [e] at h; cases h
    | some x =>
      obtain ⟨a, r1⟩ := x
      rw [e] at h
      simp only at h
      cases e2 : By.times (By.rPoint le) j r1 with
      | none => rw [e2] at h; cases h
      | some y =>
        obtain ⟨bs, r2⟩ := y
        rw [e2] at h
        simp only [Option.some.injEq, Prod.mk.injEq] at h
        obtain ⟨rfl, rfl⟩ := h
        have := times_pts e2
        unfold By.rPoint at e
        split at e
        · cases e
        · cases e
          rw [List.length_drop] at this
          exact ⟨by simp [this.1], by omega⟩
theorem rPoint_some {le : Bool} {l : By.Bs} (h : 16 ≤ l.length) : By.rPoint le l = some ((By.u64 le l, By.u64 le (l.drop 8)), l.drop 16) := by
  unfold By.rPoint; rw [if_neg (by omega)]
theorem rPoint_none {le : Bool} {l : By.Bs} (h : l.length < 16) : By.rPoint le l = none := by
  unfold By.rPoint; rw [if_pos h]

/-- What points gives. -/
def GavePs (S : Psr) (o : Option (List By.Pt × By.Bs)) (w : World) (e : Ending) (w' : World) : Prop := match o with
  | some (ps, r) => ∃ v, e = .returned (.tuple #[v, .bool true]) ∧ Rowed False repPt w.heap.size 70 w' v ps ∧ Prs S w' r ∧ Kept (Rb S) w w'
  | none => e = .returned (.tuple #[.slice none 0 0, .bool false]) ∧ (∃ l2, Prs S w' l2) ∧ Kept (Rb S) w w'
set_option maxRecDepth 100000 in
set_option maxHeartbeats 1000000 in
theorem points_any (S : Psr) (m : Nat) (le : Bool) (w : World) (l : By.Bs) (h : Prs S w l) (hm : m < 4294967296) :
    Calls Tryz.prog 54 #[.pointer (some ⟨S.rb, 0, none⟩), .int .u32 m, .bool (!le)] w (GavePs S (By.times (By.rPoint le) m l) w) := by
  obtain ⟨i0, hi, hz0, hz1, hz2⟩ := info_parts info70
  have HI := Lib.hid (⟨hi, hz0, hz1, hz2⟩ : _ ∧ _ ∧ _ ∧ _)
  have hlt := h.lt
  have hl31 := h.len
  have H0 := Lib.hid (Rowed.made (r := repPt) (E := 70) (base := w.heap.size) w #[] 0 (Nat.le_refl _) (Nat.zero_le _) rfl False)
  have HK0 := Lib.hid (Kept.of_below ((Below.refl w.heap.size w).alloc (Nat.le_refl _) (.cells #[] 70)) (Rb S))
  have HP0 := Lib.hid (h.below ((Below.refl w.heap.size w).alloc (Nat.le_refl _) (.cells #[] 70)))
  have HT0 := Lib.hid (show By.times (By.rPoint le) 0 l = some ([], l) from rfl)
  obtain ⟨o, ho⟩ : ∃ o, o = By.times (By.rPoint le) m l := ⟨_, rfl⟩
  have HO := Lib.hid ho
  rw [← ho]
  clear h hi hz0 hz1 hz2 ho
  go_enter Tryz.func54, Tryz.ntmps54
  go_wp2_with fail
  go_loopw [8, 15] (fun v jv wr => ∃ (j : Nat) (ps : List By.Pt) (r : By.Bs), j ≤ m ∧ jv = .int .u32 j ∧ Hid (By.times (By.rPoint le) j l = some (ps, r)) ∧ Rowed False repPt w.heap.size 70 wr v ps ∧ Hid (Prs S wr r) ∧ Hid (Kept (Rb S) w wr)) (fun _ jv _ => m - (intOf jv).toNat)
  case atStart => exact ⟨0, [], l, Nat.zero_le _, rfl, HT0, H0.out, HP0, HK0⟩
  case round =>
    clear H0 HK0 HP0 HT0
    obtain ⟨j, ps, r, hj, rfl, HT, hR, HP, HK⟩ := hrel
    have hps := times_pts HT.out
    by_cases hlt : j < m
    · have hjm : (j : Int) < m := by omega
      have hwr : IntKind.u32.wrap ((j : Int) + 1) = (j : Int) + 1 := IntWalk.u32_in _ (by omega)
      by_cases h16 : 16 ≤ r.length
      · have hcall := float_some S le wr r HP.out (by omega)
        have HR := Lib.hid hR
        clear hR
        go_wp2_with fail
        refine hcall.mono ?_
        rintro e w1 ⟨rfl, hP1, hK1⟩
        have hcall2 := float_some S le w1 _ hP1 (by rw [List.length_drop]; omega)
        have HK1 := Lib.hid hK1
        clear hcall hP1 hK1
        go_wp2_with fail
        refine hcall2.mono ?_
        rintro e w2 ⟨rfl, hP2, hK2⟩
        rw [List.drop_drop] at hP2
        have HK2 := Lib.hid (HK1.out.same hK2)
        have hR2 := HR.out.kept HK2.out (fun k hk => by rw [hk]; omega)
        have HP2 := Lib.hid (show Prs S w2 (r.drop 16) from hP2)
        have HRL := Lib.hid hR2.lt
        have hsz := HK2.out.size
        have hsz2 := HK.out.size
        clear hcall2 hP2 hK2
        go_wp2_with (at_builtin; refine wpList_append_rowed (r := repPt) rfl _ _ 52 rfl (lo := w2.heap.size) 70 70 i0 (.agg #[.float .f64 0, .float .f64 0]) 16 Tryz.underlying52 HI.out.1 HI.out.2.1 HI.out.2.2.1 HI.out.2.2.2 rfl (by decide) _ _ rfl hR2 (ptCells (By.u64 le r, By.u64 le (r.drop 8))) (By.u64 le r, By.u64 le (r.drop 8)) (fun _ _ => False) ?c0 rfl ?c4 ?c1 #[.float .f64 (By.u64 le r), .float .f64 (By.u64 le (r.drop 8))] rfl _ rfl ?c6 ?c2 ?c3 ?c5 ?_)
        case c0 => exact fun _ _ h => h.elim
        case c4 => omega
        case c1 => exact fun k hk => by have := (HRL.out k hk).2; omega
        case c2 => rw [hps.1]; unfold maxLen; omega
        case c3 => rw [hps.1]; omega
        case c5 => omega
        case c6 => rfl
        intro v2 w4 hR4 hg
        have hT4 := times_next HT.out (rPoint_some (le := le) h16)
        have hK4 := Lib.hid ((HK.out.same HK2.out).grown hg (fun k hk => .inl (HRL.out k hk).1))
        have HP4 := Lib.hid (HP2.out.kept ((Kept.refl (fun b => u8.ownBlock = some b) w2).grown hg (fun k hk => .inr hk)) (fun k hk => by have := (HRL.out k hk).1; omega))
        have HT4 := Lib.hid hT4
        clear hg hT4
        go_wp2_with fail
        go_roundw
        case rel => exact ⟨j + 1, _, _, by omega, by go_num, HT4, hR4, HP4, hK4⟩
        case measure => simp [intOf]; omega
      · have hno : o = none := by rw [HO.out]; exact times_stop HT.out (rPoint_none (le := le) (by omega)) hlt
        subst hno
        clear HO
        by_cases h8 : 8 ≤ r.length
        · have hcall := float_some S le wr r HP.out h8
          clear hR
          go_wp2_with fail
          refine hcall.mono ?_
          rintro e w1 ⟨rfl, hP1, hK1⟩
          have hcall2 := float_none S (!le) w1 _ hP1 (by rw [List.length_drop]; omega)
          have HK1 := Lib.hid hK1
          clear hcall hP1 hK1
          go_wp2_with fail
          refine hcall2.mono ?_
          rintro e w2 ⟨rfl, ⟨l3, _, hP3⟩, hK2⟩
          have HK2 := Lib.hid (HK.out.same (HK1.out.same hK2))
          have HP3 := Lib.hid hP3
          clear hcall2 hK2 hP3
          go_wp2_with fail
          go_ret2
          exact ⟨rfl, ⟨_, HP3.out⟩, HK2.out⟩
        · have hcall := float_none S (!le) wr r HP.out (by omega)
          clear hR
          go_wp2_with fail
          refine hcall.mono ?_
          rintro e w1 ⟨rfl, ⟨l2, hl2, hP1⟩, hK1⟩
          have hcall2 := float_none S (!le) w1 _ hP1 hl2
          have HK1 := Lib.hid hK1
          clear hcall hP1 hK1
          go_wp2_with fail
          refine hcall2.mono ?_
          rintro e w2 ⟨rfl, ⟨l3, _, hP3⟩, hK2⟩
          have HK2 := Lib.hid (HK.out.same (HK1.out.same hK2))
          have HP3 := Lib.hid hP3
          clear hcall2 hK2 hP3
          go_wp2_with fail
          go_ret2
          exact ⟨rfl, ⟨_, HP3.out⟩, HK2.out⟩
    · obtain rfl : j = m := by omega
      rw [HT.out] at HO
      have hoe := HO.out
      subst hoe
      have HR := Lib.hid hR
      clear hR HO hlt
      go_wp2_with fail
      go_ret2
      exact ⟨_, rfl, HR.out, HP.out, HK.out⟩

/-- What head gives. -/
def GaveH (S : Psr) (o : Res (Bool × Nat)) (w : World) (e : Ending) (w' : World) : Prop := Kept (Rb S) w w' ∧ match o with
  | .fine (le, k) r => e = .returned (.tuple #[.bool (!le), .int .i64 k, .int .i64 0, .int .i64 0]) ∧ Prs S w' r
  | .wrong => e = .returned (.tuple #[.bool false, .int .i64 0, .int .i64 0, .int .i64 1]) ∧ ∃ l2, Prs S w' l2
  | .unsaid => e = .returned (.tuple #[.bool false, .int .i64 0, .int .i64 0, .int .i64 2]) ∧ ∃ l2, Prs S w' l2
theorem head_nil (S : Psr) (only : Nat) (w : World) (h : Prs S w []) :
    Calls Tryz.prog 37 #[.pointer (some ⟨S.rb, 0, none⟩), .int .i64 only, .bool false] w (GaveH S (pHead only []) w) := by
  have hcall := more_none S 1 w [] h (by simp)
  have HP := Lib.hid h
  clear h
  go_enter Tryz.func37, Tryz.ntmps37
  go_wp2_with fail
  refine hcall.mono ?_
  rintro e w1 ⟨rfl, q, rfl⟩
  clear hcall
  go_wp2_with fail
  refine bodyPost_ret (v := .tuple #[.bool false, .int .i64 0, .int .i64 0, .int .i64 1]) (by simp [results, Tryz.results37, go_sem]) rfl ⟨(Kept.refl _ _).drewN _, rfl, _, HP.out.below (below_drewN (Below.refl _ _) _)⟩
set_option maxRecDepth 100000 in
theorem head_bad (S : Psr) (only : Nat) (w : World) (x : UInt8) (l : By.Bs) (h : Prs S w (x :: l)) (h0 : ¬ x = 0) (h1 : ¬ x = 1) :
    Calls Tryz.prog 37 #[.pointer (some ⟨S.rb, 0, none⟩), .int .i64 only, .bool false] w (GaveH S (pHead only (x :: l)) w) := by
  have hcall := more_some S 1 w (x :: l) h (by simp) (by omega)
  have k1 : decide ((1 : Int) < (x.toNat : Int)) = true := by
    have : x.toNat ≠ 0 := fun h => h0 (UInt8.toNat_inj.1 h)
    have : x.toNat ≠ 1 := fun h => h1 (UInt8.toNat_inj.1 h)
    exact decide_eq_true (by omega)
  clear h
  go_enter Tryz.func37, Tryz.ntmps37
  go_wp2_with fail
  refine hcall.mono ?_
  rintro e w1 ⟨ob, c, rfl, hc, hx, hP, hK⟩
  have c0 := hx 0 x rfl
  rw [Nat.add_zero] at c0
  have HK := Lib.hid hK
  have HP := Lib.hid hP
  clear hcall hx hP hK
  go_wp2_with fail
  have e : pHead only (x :: l) = .wrong := by simp [pHead, By.order, h0, h1]
  rw [e]
  refine bodyPost_ret (v := .tuple #[.bool false, .int .i64 0, .int .i64 0, .int .i64 1]) (by simp [results, Tryz.results37, go_sem]) rfl ⟨HK.out, rfl, _, HP.out⟩

set_option maxRecDepth 100000 in
theorem head_le_none (S : Psr) (only : Nat) (w : World) (l : By.Bs) (h : Prs S w (1 :: l)) (hl : l.length < 4) :
    Calls Tryz.prog 37 #[.pointer (some ⟨S.rb, 0, none⟩), .int .i64 only, .bool false] w (GaveH S (pHead only (1 :: l)) w) := by
  have hcall := more_some S 1 w (1 :: l) h (by simp) (by omega)
  clear h
  go_enter Tryz.func37, Tryz.ntmps37
  go_wp2_with fail
  refine hcall.mono ?_
  rintro e w1 ⟨ob, c, rfl, hc, hx, hP, hK⟩
  have c0 : w1.cell? ⟨S.db, ob, none⟩ = some (.int .u8 1) := hx 0 1 rfl
  have hcall2 := number_none S false w1 l hP hl
  have HK := Lib.hid hK
  have HP := Lib.hid hP
  clear hcall hx hP hK
  go_wp2_with fail
  refine hcall2.mono ?_
  rintro e w2 ⟨rfl, q, rfl⟩
  clear hcall2
  go_wp2_with fail
  have e : pHead only (1 :: l) = .wrong := by simp [pHead, By.order, By.rU32, hl]
  rw [e]
  refine bodyPost_ret (v := .tuple #[.bool false, .int .i64 0, .int .i64 0, .int .i64 1]) (by simp [results, Tryz.results37, go_sem]) rfl ⟨HK.out.drewN _, rfl, _, HP.out.below (below_drewN (Below.refl _ _) _)⟩

set_option maxRecDepth 100000 in
theorem head_be_none (S : Psr) (only : Nat) (w : World) (l : By.Bs) (h : Prs S w (0 :: l)) (hl : l.length < 4) :
    Calls Tryz.prog 37 #[.pointer (some ⟨S.rb, 0, none⟩), .int .i64 only, .bool false] w (GaveH S (pHead only (0 :: l)) w) := by
  have hcall := more_some S 1 w (0 :: l) h (by simp) (by omega)
  clear h
  go_enter Tryz.func37, Tryz.ntmps37
  go_wp2_with fail
  refine hcall.mono ?_
  rintro e w1 ⟨ob, c, rfl, hc, hx, hP, hK⟩
  have c0 : w1.cell? ⟨S.db, ob, none⟩ = some (.int .u8 0) := hx 0 0 rfl
  have hcall2 := number_none S true w1 l hP hl
  have HK := Lib.hid hK
  have HP := Lib.hid hP
  clear hcall hx hP hK
  go_wp2_with fail
  refine hcall2.mono ?_
  rintro e w2 ⟨rfl, q, rfl⟩
  clear hcall2
  go_wp2_with fail
  have e : pHead only (0 :: l) = .wrong := by simp [pHead, By.order, By.rU32, hl]
  rw [e]
  refine bodyPost_ret (v := .tuple #[.bool false, .int .i64 0, .int .i64 0, .int .i64 1]) (by simp [results, Tryz.results37, go_sem]) rfl ⟨HK.out.drewN _, rfl, _, HP.out.below (below_drewN (Below.refl _ _) _)⟩

theorem bits_and32 (t : Nat) (ht : t < 4294967296) : bits .and .u32 (t : Int) 536870912 = ((t &&& 536870912 : Nat) : Int) :=
  and_u32 t 536870912 ht (by omega)

set_option maxRecDepth 100000 in
set_option maxHeartbeats 1000000 in
theorem head_le (S : Psr) (only : Nat) (w : World) (l : By.Bs) (h : Prs S w (1 :: l)) (hl : 4 ≤ l.length) (ho : only ≤ 3) :
    Calls Tryz.prog 37 #[.pointer (some ⟨S.rb, 0, none⟩), .int .i64 only, .bool false] w (GaveH S (pHead only (1 :: l)) w) := by
  have hcall := more_some S 1 w (1 :: l) h (by simp) (by omega)
  have hu := By.u32_lt true l
  have hb := bits_and32 _ hu
  have e : pHead only (1 :: l) = (if By.u32 true l &&& 536870912 = 0 then (if 15 < By.u32 true l then .unsaid else if By.u32 true l < 1 ∨ 7 < By.u32 true l ∨ (only ≠ 0 ∧ By.u32 true l ≠ only) then .wrong else .fine (true, By.u32 true l) (l.drop 4)) else .unsaid) := by
    have e0 : By.order (1 :: l) = some (true, l) := rfl
    have e1 : By.rU32 true l = some (By.u32 true l, l.drop 4) := by unfold By.rU32; rw [if_neg (by omega)]
    simp only [pHead, e0, e1]
  obtain ⟨o, hoe⟩ : ∃ o, o = pHead only (1 :: l) := ⟨_, rfl⟩
  rw [← hoe]
  rw [← hoe] at e
  have hn := num_le S
  obtain ⟨t, ht⟩ : ∃ t, t = By.u32 true l := ⟨_, rfl⟩
  have hcall2 : ∀ W, Prs S W l → Calls Tryz.prog 53 #[.pointer (some ⟨S.rb, 0, none⟩), .bool false] W fun e w' => e = .returned (.tuple #[.int .u32 t, .bool true]) ∧ Prs S w' (l.drop 4) ∧ Kept (Rb S) W w' := by
    intro W hW; rw [ht]; exact hn W l hW hl
  rw [← ht] at hu hb e
  have HO := Lib.hid e
  have hw32 : IntKind.i64.wrap (t : Int) = t := IntWalk.i64_in _ (by omega)
  clear h e ht hn hoe
  go_enter Tryz.func37, Tryz.ntmps37
  go_wp2_with fail
  refine hcall.mono ?_
  rintro e w1 ⟨ob, c, rfl, hc, hx, hP, hK⟩
  have c0 : w1.cell? ⟨S.db, ob, none⟩ = some (.int .u8 1) := hx 0 1 rfl
  have hcall2 := hcall2 w1 hP
  have HK := Lib.hid hK
  clear hcall hx hP hK
  go_wp2_with fail
  refine hcall2.mono ?_
  rintro e w2 ⟨rfl, hP, hK⟩
  have HF := Lib.hid (⟨HK.out.same hK, hP⟩ : _ ∧ _)
  clear hcall2 hP hK
  by_cases hm : t &&& 536870912 = 0
  · rw [hm] at hb
    by_cases h15 : 15 < t
    · have g15 := decide_eq_true (show (15 : Int) < t by omega)
      go_wp2_with fail
      refine bodyPost_ret (v := .tuple #[.bool false, .int .i64 0, .int .i64 0, .int .i64 2]) (by simp [results, Tryz.results37, go_sem]) rfl ?_
      rw [show o = .unsaid from by rw [HO.out, if_pos hm, if_pos h15]]
      exact ⟨HF.out.1, rfl, _, HF.out.2⟩
    · have g15 := decide_eq_false (show ¬ (15 : Int) < t by omega)
      by_cases h1 : t < 1
      · have g1 := decide_eq_true (show (t : Int) < 1 by omega)
        go_wp2_with fail
        refine bodyPost_ret (v := .tuple #[.bool false, .int .i64 0, .int .i64 0, .int .i64 1]) (by simp [results, Tryz.results37, go_sem]) rfl ?_
        rw [show o = .wrong from by rw [HO.out, if_pos hm, if_neg h15, if_pos (.inl h1)]]
        exact ⟨HF.out.1, rfl, _, HF.out.2⟩
      · have g1 := decide_eq_false (show ¬ (t : Int) < 1 by omega)
        by_cases h7 : 7 < t
        · have g7 := decide_eq_true (show (7 : Int) < t by omega)
          go_wp2_with fail
          refine bodyPost_ret (v := .tuple #[.bool false, .int .i64 0, .int .i64 0, .int .i64 1]) (by simp [results, Tryz.results37, go_sem]) rfl ?_
          rw [show o = .wrong from by rw [HO.out, if_pos hm, if_neg h15, if_pos (.inr (.inl h7))]]
          exact ⟨HF.out.1, rfl, _, HF.out.2⟩
        · have g7 := decide_eq_false (show ¬ (7 : Int) < t by omega)
          by_cases hz : only = 0
          · subst hz
            go_wp2_with fail
            refine bodyPost_ret (v := .tuple #[.bool false, .int .i64 t, .int .i64 0, .int .i64 0]) (by simp [results, Tryz.results37, go_sem]) rfl ?_
            rw [HO.out, if_pos hm, if_neg h15, if_neg (by omega)]
            exact ⟨HF.out.1, rfl, HF.out.2⟩
          · have gz : ((only : Int) != 0) = true := by simp; omega
            by_cases he : t = only
            · subst he
              go_wp2_with fail
              refine bodyPost_ret (v := .tuple #[.bool false, .int .i64 t, .int .i64 0, .int .i64 0]) (by simp [results, Tryz.results37, go_sem]) rfl ?_
              rw [HO.out, if_pos hm, if_neg h15, if_neg (by omega)]
              exact ⟨HF.out.1, rfl, HF.out.2⟩
            · have ge : ((t : Int) != (only : Int)) = true := by simp; omega
              go_wp2_with fail
              refine bodyPost_ret (v := .tuple #[.bool false, .int .i64 0, .int .i64 0, .int .i64 1]) (by simp [results, Tryz.results37, go_sem]) rfl ?_
              rw [show o = .wrong from by rw [HO.out, if_pos hm, if_neg h15, if_pos (.inr (.inr ⟨hz, he⟩))]]
              exact ⟨HF.out.1, rfl, _, HF.out.2⟩
  · have gm : (((t &&& 536870912 : Nat) : Int) == 0) = false := by simp; exact hm
    go_wp2_with fail
    refine bodyPost_ret (v := .tuple #[.bool false, .int .i64 0, .int .i64 0, .int .i64 2]) (by simp [results, Tryz.results37, go_sem]) rfl ?_
    rw [show o = .unsaid from by rw [HO.out, if_neg hm]]
    exact ⟨HF.out.1, rfl, _, HF.out.2⟩

set_option maxRecDepth 100000 in
set_option maxHeartbeats 1000000 in
theorem head_be (S : Psr) (only : Nat) (w : World) (l : By.Bs) (h : Prs S w (0 :: l)) (hl : 4 ≤ l.length) (ho : only ≤ 3) :
    Calls Tryz.prog 37 #[.pointer (some ⟨S.rb, 0, none⟩), .int .i64 only, .bool false] w (GaveH S (pHead only (0 :: l)) w) := by
  have hcall := more_some S 1 w (0 :: l) h (by simp) (by omega)
  have hu := By.u32_lt false l
  have hb := bits_and32 _ hu
  have e : pHead only (0 :: l) = (if By.u32 false l &&& 536870912 = 0 then (if 15 < By.u32 false l then .unsaid else if By.u32 false l < 1 ∨ 7 < By.u32 false l ∨ (only ≠ 0 ∧ By.u32 false l ≠ only) then .wrong else .fine (false, By.u32 false l) (l.drop 4)) else .unsaid) := by
    have e0 : By.order (0 :: l) = some (false, l) := rfl
    have e1 : By.rU32 false l = some (By.u32 false l, l.drop 4) := by unfold By.rU32; rw [if_neg (by omega)]
    simp only [pHead, e0, e1]
  obtain ⟨o, hoe⟩ : ∃ o, o = pHead only (0 :: l) := ⟨_, rfl⟩
  rw [← hoe]
  rw [← hoe] at e
  have hn := num_be S
  obtain ⟨t, ht⟩ : ∃ t, t = By.u32 false l := ⟨_, rfl⟩
  have hcall2 : ∀ W, Prs S W l → Calls Tryz.prog 53 #[.pointer (some ⟨S.rb, 0, none⟩), .bool true] W fun e w' => e = .returned (.tuple #[.int .u32 t, .bool true]) ∧ Prs S w' (l.drop 4) ∧ Kept (Rb S) W w' := by
    intro W hW; rw [ht]; exact hn W l hW hl
  rw [← ht] at hu hb e
  have HO := Lib.hid e
  have hw32 : IntKind.i64.wrap (t : Int) = t := IntWalk.i64_in _ (by omega)
  clear h e ht hn hoe
  go_enter Tryz.func37, Tryz.ntmps37
  go_wp2_with fail
  refine hcall.mono ?_
  rintro e w1 ⟨ob, c, rfl, hc, hx, hP, hK⟩
  have c0 : w1.cell? ⟨S.db, ob, none⟩ = some (.int .u8 0) := hx 0 0 rfl
  have hcall2 := hcall2 w1 hP
  have HK := Lib.hid hK
  clear hcall hx hP hK
  go_wp2_with fail
  refine hcall2.mono ?_
  rintro e w2 ⟨rfl, hP, hK⟩
  have HF := Lib.hid (⟨HK.out.same hK, hP⟩ : _ ∧ _)
  clear hcall2 hP hK
  by_cases hm : t &&& 536870912 = 0
  · rw [hm] at hb
    by_cases h15 : 15 < t
    · have g15 := decide_eq_true (show (15 : Int) < t by omega)
      go_wp2_with fail
      refine bodyPost_ret (v := .tuple #[.bool false, .int .i64 0, .int .i64 0, .int .i64 2]) (by simp [results, Tryz.results37, go_sem]) rfl ?_
      rw [show o = .unsaid from by rw [HO.out, if_pos hm, if_pos h15]]
      exact ⟨HF.out.1, rfl, _, HF.out.2⟩
    · have g15 := decide_eq_false (show ¬ (15 : Int) < t by omega)
      by_cases h1 : t < 1
      · have g1 := decide_eq_true (show (t : Int) < 1 by omega)
        go_wp2_with fail
        refine bodyPost_ret (v := .tuple #[.bool false, .int .i64 0, .int .i64 0, .int .i64 1]) (by simp [results, Tryz.results37, go_sem]) rfl ?_
        rw [show o = .wrong from by rw [HO.out, if_pos hm, if_neg h15, if_pos (.inl h1)]]
        exact ⟨HF.out.1, rfl, _, HF.out.2⟩
      · have g1 := decide_eq_false (show ¬ (t : Int) < 1 by omega)
        by_cases h7 : 7 < t
        · have g7 := decide_eq_true (show (7 : Int) < t by omega)
          go_wp2_with fail
          refine bodyPost_ret (v := .tuple #[.bool false, .int .i64 0, .int .i64 0, .int .i64 1]) (by simp [results, Tryz.results37, go_sem]) rfl ?_
          rw [show o = .wrong from by rw [HO.out, if_pos hm, if_neg h15, if_pos (.inr (.inl h7))]]
          exact ⟨HF.out.1, rfl, _, HF.out.2⟩
        · have g7 := decide_eq_false (show ¬ (7 : Int) < t by omega)
          by_cases hz : only = 0
          · subst hz
            go_wp2_with fail
            refine bodyPost_ret (v := .tuple #[.bool true, .int .i64 t, .int .i64 0, .int .i64 0]) (by simp [results, Tryz.results37, go_sem]) rfl ?_
            rw [HO.out, if_pos hm, if_neg h15, if_neg (by omega)]
            exact ⟨HF.out.1, rfl, HF.out.2⟩
          · have gz : ((only : Int) != 0) = true := by simp; omega
            by_cases he : t = only
            · subst he
              go_wp2_with fail
              refine bodyPost_ret (v := .tuple #[.bool true, .int .i64 t, .int .i64 0, .int .i64 0]) (by simp [results, Tryz.results37, go_sem]) rfl ?_
              rw [HO.out, if_pos hm, if_neg h15, if_neg (by omega)]
              exact ⟨HF.out.1, rfl, HF.out.2⟩
            · have ge : ((t : Int) != (only : Int)) = true := by simp; omega
              go_wp2_with fail
              refine bodyPost_ret (v := .tuple #[.bool false, .int .i64 0, .int .i64 0, .int .i64 1]) (by simp [results, Tryz.results37, go_sem]) rfl ?_
              rw [show o = .wrong from by rw [HO.out, if_pos hm, if_neg h15, if_pos (.inr (.inr ⟨hz, he⟩))]]
              exact ⟨HF.out.1, rfl, _, HF.out.2⟩
  · have gm : (((t &&& 536870912 : Nat) : Int) == 0) = false := by simp; exact hm
    go_wp2_with fail
    refine bodyPost_ret (v := .tuple #[.bool false, .int .i64 0, .int .i64 0, .int .i64 2]) (by simp [results, Tryz.results37, go_sem]) rfl ?_
    rw [show o = .unsaid from by rw [HO.out, if_neg hm]]
    exact ⟨HF.out.1, rfl, _, HF.out.2⟩
theorem head_any (S : Psr) (only : Nat) (w : World) (l : By.Bs) (h : Prs S w l) (ho : only ≤ 3) :
    Calls Tryz.prog 37 #[.pointer (some ⟨S.rb, 0, none⟩), .int .i64 only, .bool false] w (GaveH S (pHead only l) w) := by
  match l, h with
  | [], h => exact head_nil S only w h
  | x :: l, h =>
    by_cases h0 : x = 0
    · subst h0
      by_cases hl : l.length < 4
      · exact head_be_none S only w l h hl
      · exact head_be S only w l h (by omega) ho
    · by_cases h1 : x = 1
      · subst h1
        by_cases hl : l.length < 4
        · exact head_le_none S only w l h hl
        · exact head_le S only w l h (by omega) ho
      · exact head_bad S only w x l h h0 h1
end Go.Proofs.YtjbjjphgnilhmaaGreatDoor

/- The walk of spec's (*reader).part: a ring of a polygon. -/
set_option linter.unusedVariables false
set_option linter.unusedSimpArgs false
namespace Go.Proofs.YtjbjjphgnilhmaaGreatDoor
open Go.RowKit

/-- What a shape one level below gives. -/
def GaveSh (d : Nat) (S : Psr) (o : Res Sh) (w : World) (e : Ending) (w' : World) : Prop := Kept (Rb S) w w' ∧ match o with
  | .fine s r => ∃ us K, e = .returned (.tuple #[.agg us.toArray, .int .i64 0, .int .i64 0]) ∧ IsS d K us s ∧ Has w.heap.size K w' ∧ Prs S w' r
  | .wrong => ∃ (k : Int) (ao : Option Addr) (n c : Nat) (bo : Option Addr) (m d : Nat), e = .returned (.tuple #[.agg #[.int .i64 k, .slice ao n c, .slice bo m d], .int .i64 0, .int .i64 1]) ∧ ∃ l2, Prs S w' l2
  | .unsaid => ∃ (k : Int) (ao : Option Addr) (n c : Nat) (bo : Option Addr) (m d : Nat), e = .returned (.tuple #[.agg #[.int .i64 k, .slice ao n c, .slice bo m d], .int .i64 0, .int .i64 2]) ∧ ∃ l2, Prs S w' l2
def SubOk (d : Nat) (S : Psr) : Prop := ∀ (only : Nat) (l : By.Bs) (w : World), only ≤ 3 → Prs S w l → Calls Tryz.prog 18 #[.pointer (some ⟨S.rb, 0, none⟩), .int .i64 only, .bool false, .int .i64 d] w (GaveSh d S (pShape d only l) w)
/-- What part gives, where the shape lies as At says. -/
def GavePt (S : Psr) (sb : Nat) (At : World → Sh → Prop) (o : Res Sh) (w : World) (e : Ending) (w' : World) : Prop := Kept (fun b => b = S.rb ∨ sb ≤ b) w w' ∧ match o with
  | .fine s r => e = .returned (.int .i64 0) ∧ At w' s ∧ Prs S w' r
  | .wrong => e = .returned (.int .i64 1) ∧ ∃ l2, Prs S w' l2
  | .unsaid => e = .returned (.int .i64 2) ∧ ∃ l2, Prs S w' l2
/-- A shape whose parts are lists. -/
def AtL (k sb j : Nat) (w : World) (s : Sh) : Prop := ∃ (ls : List (List By.Pt)) (v : Value), s = .mk k ls [] ∧ ls.length = j ∧ Blk w sb #[.int .i64 k, v, .slice none 0 0] 26 ∧ Rowed True (repRow repPt 70) (sb + 1) 52 w v ls
theorem Blk.kept {X : Nat → Prop} {w w' : World} {b : Nat} {cs : Array Value} {T : TypeId} (h : Blk w b cs T) (hk : Kept X w w') (hX : ¬ X b) : Blk w' b cs T := (hk.block b h.lt hX).trans h
theorem AtL.kept {X : Nat → Prop} {k sb j : Nat} {w w' : World} {s : Sh} (h : AtL k sb j w s) (hk : Kept X w w') (hX : ∀ b, X b → b < sb) : AtL k sb j w' s := by
  obtain ⟨ls, v, h1, h2, h3, h4⟩ := h
  exact ⟨ls, v, h1, h2, h3.kept hk (fun hx => by have := hX _ hx; omega), h4.kept hk (fun b hb => by have := hX b hb; omega)⟩
theorem verdict_any (b : Bool) (w : World) : Calls Tryz.prog 55 #[.bool b] w fun e w' => e = .returned (.int .i64 (if b then 0 else 1)) ∧ w' = w := by
  cases b
  · go_enter Tryz.func55, Tryz.ntmps55
    go_wp2_with fail
    go_ret
    exact ⟨rfl, rfl⟩
  · go_enter Tryz.func55, Tryz.ntmps55
    go_wp2_with fail
    go_ret
    exact ⟨rfl, rfl⟩
theorem pts_times {le : Bool} {l : By.Bs} : By.rLine le l = if l.length < 4 then none else By.times (By.rPoint le) (By.u32 le l) (l.drop 4) := by
  unfold By.rLine By.row By.rU32
  by_cases h : l.length < 4
  · simp [h]
  · simp only [if_neg h]
/-- Any things of one cell. -/
def repAny : Rep Unit where
  size := 1
  rel := fun _ us _ => ∃ u, us = [u] ∧ u.oneCell' = true
  mono := fun _ h => h
  len := fun h => by obtain ⟨u, rfl, _⟩ := h; rfl
  one := fun h u hu => by obtain ⟨x, rfl, hx⟩ := h; simp at hu; subst hu; exact hx
theorem Rowed.weakU {α : Type} {z : Prop} {r : Rep α} {base : Nat} {E : TypeId} {w : World} {v : Value} {ls : List α} (h : Rowed z r base E w v ls) (h1 : r.size = 1) : Rowed z repAny base E w v (ls.map fun _ => ()) := by
  obtain ⟨uss, H, ho, hl, hr, hH, hne, hz⟩ := h
  refine ⟨uss, H, by rw [List.length_map]; rw [h1] at ho; exact ho, by simpa using hl, fun i us a hu ha => ?_, hH, hne, hz⟩
  rw [List.getElem?_map] at ha
  obtain ⟨x, hx, _⟩ := Option.map_eq_some_iff.1 ha
  have h2 := hr i us x hu hx
  have h3 := r.len h2
  rw [h1] at h3
  match us, h3 with
  | [u], _ => exact ⟨u, rfl, r.one h2 u (by simp)⟩
set_option maxRecDepth 100000 in
set_option maxHeartbeats 1000000 in
theorem part_ring (S : Psr) (sb j : Nat) (D : Int) (le : Bool) (sub : Nat → By.Bs → Res Sh) (w : World) (s : Sh) (l : By.Bs) (hs : AtL 3 sb j w s) (h : Prs S w l) (hrb : S.rb < sb) (hj : j ≤ 2147483647) :
    Calls Tryz.prog 56 #[.pointer (some ⟨S.rb, 0, none⟩), .pointer (some ⟨sb, 0, none⟩), .bool (!le), .int .i64 D] w (GavePt S sb (AtL 3 sb (j + 1)) (pPart sub le s l) w) := by
  obtain ⟨i0, hi, hz0, hz1, hz2⟩ := info_parts info52
  have HI := Lib.hid (⟨hi, hz0, hz1, hz2⟩ : _ ∧ _ ∧ _ ∧ _)
  obtain ⟨ls, v, rfl, hlen, hb, hR⟩ := hs
  have e : pPart sub le (.mk 3 ls []) l = match By.rLine le l with | none => .wrong | some (x, r) => .fine (.mk 3 (ls ++ [x]) []) r := rfl
  rw [e, pts_times]
  obtain ⟨c0, _⟩ := hb.cell (i := 0) (v := .int .i64 3) rfl
  have hbl := hb.lt
  by_cases h4 : l.length < 4
  · have hcall := number_none S (!le) w l h h4
    rw [if_pos h4]
    have HP0 := Lib.hid h
    clear h hi hz0 hz1 hz2 e hb hR
    go_enter Tryz.func56, Tryz.ntmps56
    go_wp2_with fail
    refine hcall.mono ?_
    rintro e w1 ⟨rfl, q, rfl⟩
    clear hcall
    go_wp2_with fail
    go_ret
    exact ⟨(Kept.refl _ _).drewN _, rfl, _, HP0.out.below (below_drewN (Below.refl _ _) _)⟩
  · rw [if_neg h4]
    have hcall := number_some S le w l h (by omega)
    have hu := By.u32_lt le l
    obtain ⟨m, hm⟩ : ∃ m, m = By.u32 le l := ⟨_, rfl⟩
    rw [← hm] at hcall hu ⊢
    obtain ⟨o, ho⟩ : ∃ o, o = By.times (By.rPoint le) m (l.drop 4) := ⟨_, rfl⟩
    have HP := Lib.hid (fun W hP => points_any S m le W (l.drop 4) hP hu)
    rw [← ho] at HP ⊢
    have HB := Lib.hid (⟨hb, hR⟩ : _ ∧ _)
    clear h hi hz0 hz1 hz2 e hm ho hb hR
    go_enter Tryz.func56, Tryz.ntmps56
    go_wp2_with fail
    refine hcall.mono ?_
    rintro e w1 ⟨rfl, hP, hK⟩
    have hcall2 := HP.out w1 hP
    have HK := Lib.hid hK
    clear hcall hP hK
    go_wp2_with fail
    refine hcall2.mono ?_
    intro e w2 hg
    clear hcall2
    rcases o with _ | ⟨ps, r⟩
    · obtain ⟨rfl, ⟨l2, hP2⟩, hK2⟩ := hg
      have HP2 := Lib.hid hP2
      clear hP2
      have hK3 := HK.out.same hK2
      have hb2 := HB.out.1.kept hK3 (by show ¬ sb = S.rb; omega)
      have hR2 := (HB.out.2.kept hK3 (fun b hb => by rw [hb]; omega)).weakU rfl
      obtain ⟨c1, f1⟩ := hb2.cell (i := 1) (v := v) rfl
      have HK3 := Lib.hid hK3
      have HRL := Lib.hid hR2.lt
      have hsz := hK3.size
      clear hK2 hK3 hb2 c0
      go_wp2_with (at_builtin; refine wpList_append_rowed (r := repAny) rfl _ _ 23 rfl (lo := w2.heap.size) 52 52 i0 (.slice none 0 0) 24 Tryz.underlying23 HI.out.1 HI.out.2.1 HI.out.2.2.1 HI.out.2.2.2 rfl (by decide) _ _ rfl hR2 [.slice none 0 0] () (fun _ _ => False) ?c0 ⟨_, rfl, rfl⟩ ?c4 ?c1 #[.slice none 0 0] rfl _ rfl ?c6 ?c2 ?c3 ?c5 ?_)
      case c0 => exact fun _ _ h => h.elim
      case c4 => omega
      case c1 => exact fun k hk => (HRL.out k hk).2
      case c2 => rw [List.length_map, hlen]; unfold maxLen; omega
      case c3 => rw [List.length_map, hlen]; omega
      case c5 => omega
      case c6 => rfl
      intro v2 w4 hR4 hg
      obtain ⟨ao4, cap4, hv4, _⟩ := hR4.form
      subst hv4
      have hne : v.ownBlock ≠ some sb := fun e => by have := (HRL.out sb e).1; omega
      have b4 := Blk.grown (HB.out.1.kept HK3.out (by show ¬ sb = S.rb; omega)) hg hne
      have K4 := (HK3.out.weaken (Y := fun b => b = S.rb ∨ sb ≤ b) fun _ _ h => .inl h).grown hg (fun k hk => .inr (.inr (by have := (HRL.out k hk).1; omega)))
      obtain ⟨_, g1⟩ := b4.cell (i := 1) (v := v) rfl
      have P4 := HP2.out.kept ((Kept.refl (fun b => v.ownBlock = some b) w2).grown hg (fun k hk => .inr hk)) (fun k hk => by have := (HRL.out k hk).1; omega)
      have HP4 := Lib.hid P4
      have HK4 := Lib.hid K4
      clear hg hR4 b4 K4 P4 hne c1 f1
      go_wp2_with fail
      refine (verdict_any false _).mono ?_
      rintro e w5 ⟨rfl, rfl⟩
      go_wp2_with fail
      go_ret
      exact ⟨HK4.out.setCell _ _ (.inr (.inr (Nat.le_refl _))), rfl, _, HP4.out.kept ((Kept.refl (fun b => b = sb) w4).setCell ⟨sb, 1, none⟩ _ (.inr rfl)) (fun k hk => by omega)⟩
    · obtain ⟨y, rfl, hRy, hP2, hK2⟩ := hg
      have hK3 := HK.out.same hK2
      have hb2 := HB.out.1.kept hK3 (by show ¬ sb = S.rb; omega)
      have hR2 := HB.out.2.kept hK3 (fun b hb => by rw [hb]; omega)
      obtain ⟨c1, f1⟩ := hb2.cell (i := 1) (v := v) rfl
      obtain ⟨K, hKy, hIy⟩ := hRy.is
      obtain ⟨g2, cap2, rfl, _⟩ := hRy.formN
      have hsz1 := HK.out.size
      have HK3 := Lib.hid hK3
      have HRL := Lib.hid hR2.lt
      have HF := Lib.hid (⟨hKy, hIy, hP2⟩ : _ ∧ _ ∧ _)
      have hsz := hK3.size
      clear hK2 hK3 hb2 c0 hKy hIy hP2 hRy
      go_wp2_with (at_builtin; refine wpList_append_rowed (r := (repRow repPt 70)) rfl _ _ 23 rfl (lo := w1.heap.size) 52 52 i0 (.slice none 0 0) 24 Tryz.underlying23 HI.out.1 HI.out.2.1 HI.out.2.2.1 HI.out.2.2.2 rfl (by decide) _ _ rfl hR2 [.slice (some ⟨g2, 0, none⟩) ps.length cap2] ps K HF.out.1 ⟨_, rfl, HF.out.2.1⟩ ?c4 ?c1 #[.slice (some ⟨g2, 0, none⟩) ps.length cap2] rfl _ rfl ?c6 ?c2 ?c3 ?c5 ?_)
      case c4 => omega
      case c1 => exact fun k hk => by have := (HB.out.2.lt k hk).2; omega
      case c2 => rw [hlen]; unfold maxLen; omega
      case c3 => rw [hlen]; omega
      case c5 => omega
      case c6 => rfl
      intro v2 w4 hR4 hg
      obtain ⟨ao4, cap4, hv4, _⟩ := hR4.form
      rw [List.length_append, hlen, List.length_cons, List.length_nil, Nat.zero_add] at hv4
      subst hv4
      have hne : v.ownBlock ≠ some sb := fun e => by have := (HRL.out sb e).1; omega
      have b4 := Blk.grown (HB.out.1.kept HK3.out (by show ¬ sb = S.rb; omega)) hg hne
      have K4 := (HK3.out.weaken (Y := fun b => b = S.rb ∨ sb ≤ b) fun _ _ h => .inl h).grown hg (fun k hk => .inr (.inr (by have := (HRL.out k hk).1; omega)))
      have P4 := HF.out.2.2.kept ((Kept.refl (fun b => v.ownBlock = some b) w2).grown hg (fun k hk => .inr hk)) (fun k hk => by have := (HRL.out k hk).1; omega)
      obtain ⟨_, g1⟩ := b4.cell (i := 1) (v := v) rfl
      have HK4 := Lib.hid (⟨K4, b4, hR4, P4⟩ : _ ∧ _ ∧ _ ∧ _)
      clear hg hR4 b4 K4 P4 hne c1 f1
      go_wp2_with fail
      refine (verdict_any true _).mono ?_
      rintro e w5 ⟨rfl, rfl⟩
      go_wp2_with fail
      go_ret
      have k5 : Kept (fun b => b = sb) w4 (w4.setCell ⟨sb, 1, none⟩ (.slice ao4 (j + 1) cap4)) := (Kept.refl _ _).setCell _ _ (.inr rfl)
      exact ⟨HK4.out.1.setCell _ _ (.inr (.inr (Nat.le_refl _))), rfl, ⟨_, _, rfl, by simp [hlen], HK4.out.2.1.set 1 _, HK4.out.2.2.1.kept k5 (fun k hk => by omega)⟩, HK4.out.2.2.2.kept k5 (fun k hk => by omega)⟩
end Go.Proofs.YtjbjjphgnilhmaaGreatDoor
