/- The walks of spec.Moved and spec.From. -/
import Derived.Test.YtpbhpplmokdkhaaDoorSp
import Derived.Test.YtpbhpplmokdkhaaDoorMvP
namespace Go.Proofs.YtpbhpplmokdkhaaDoor
open Go.RowKit Go.WideShapes Fl

theorem mov_snoc {ps : List (Nat × Nat)} {k : Nat} {p d : Nat × Nat} (hk : ps[k]? = some p) : pc (movL (ps.take (k + 1)) d) = pc (movL (ps.take k) d) ++ [.float .f64 (fadd p.1 d.1), .float .f64 (fadd p.2 d.2)] := by
  unfold movL
  rw [take_snoc ps k p hk, List.map_append, pc_append]
  rfl
set_option linter.unusedVariables false in
set_option maxHeartbeats 1000000 in
theorem moved_any (n cap b off : Nat) (ps : List (Nat × Nat)) (d : Nat × Nat) (X Y : Nat → Int) (dx dy : Int) (w : World) (hl : ps.length = n) (hn : n ≤ 200) (hx : PtsAt w b off ps) (hdat : Dat ps X Y) (hid : IsP d dx dy) (sd : Small dx ∧ Small dy) :
    Calls Tryd.prog 18 #[.slice (some ⟨b, off, none⟩) n cap, .agg #[.float .f64 d.1, .float .f64 d.2]] w fun e w' => ∃ v, e = .returned v ∧ IsPts w' v (movL ps d) ∧ Below w.heap.size w w' := by
  obtain ⟨i0, hi, hz0, hz1, hz2⟩ := info_parts info_ipoint
  have hnn : (n : Int) ≤ 200 := by omega
  have h0 := World.ownsRow_made (base := w.heap.size + 1) (e := 31) (size := 2) (w.alloc (.cells #[.float .f64 d.1, .float .f64 d.2] 31)) #[] 0 (by simp) (Nat.zero_le _) rfl
  rw [World.size_alloc] at h0
  go_enter Tryd.func18, Tryd.ntmps18
  go_wp2
  go_loopw [5, 7, 11] (fun v u i wr => ∃ k : Nat, k ≤ n ∧ i = .int .i64 k ∧ wr.ownsRow (w.heap.size + 1) 31 2 v k (pc (movL (ps.take k) d)) ∧ Hid (Blk wr w.heap.size #[.float .f64 d.1, .float .f64 d.2] 31) ∧ Below w.heap.size w wr) (fun _ _ i _ => n - (intOf i).toNat)
  case atStart => exact ⟨0, Nat.zero_le _, rfl, h0, Lib.hid (heap_alloc2_old w _ _), ((Below.refl _ _).alloc (Nat.le_refl _) _).alloc (by simp) _⟩
  case round =>
    obtain ⟨k, hk, rfl, hown, HBX, hb⟩ := hrel
    by_cases hlt : k < n
    · have hp : ps[k]? = some ps[k] := List.getElem?_eq_getElem (by omega)
      obtain ⟨c0, c1⟩ := hx k _ hp
      obtain ⟨ip, s1, s2⟩ := hdat k _ hp
      obtain ⟨p, hpe⟩ : ∃ p, p = ps[k] := ⟨_, rfl⟩
      rw [← hpe] at hp c0 c1 ip
      clear hpe
      have d0 := cell_later hb c0
      have d1 := cell_later hb c1
      obtain ⟨e0, f0⟩ := blk_cell HBX.out (i := 0) rfl
      obtain ⟨e1, f1⟩ := blk_cell HBX.out (i := 1) rfl
      have e0' := cell_alloc e0 (.cells #[.float .f64 p.1, .float .f64 p.2] 31)
      have e1' := cell_alloc e1 (.cells #[.float .f64 p.1, .float .f64 p.2] 31)
      have r1 := run_fadd (P := Tryd.prog) ip.1.1 hid.1.1 27
      have r2 := run_fadd (P := Tryd.prog) ip.2.1 hid.2.1 27
      have HP := Lib.hid hp
      have HB := Lib.hid hb
      clear c0 c1 hx hl hp ip s1 s2 hdat f0 f1 e0 e1
      go_wp2_with (at_builtin; refine wpList_append_own _ rfl _ _ 22 rfl (w.heap.size + 1) 31 i0 (.agg #[.float .f64 0, .float .f64 0]) 2 16 Tryd.underlying22 hi hz0 hz1 hz2 rfl (by decide) _ _ _ rfl ((hown.alloc _).alloc _) ⟨wr.heap.size + 1, 0, none⟩ 1 1 [.float .f64 (fadd p.1 d.1), .float .f64 (fadd p.2 d.2)] rfl rfl ?c1 ?c2 ?c3 ?c4 ?c5 ?_)
      case c1 =>
        intro j u hj
        match j, hj with
        | 0, hj => simp at hj; subst hj; simp [Addr.add]
        | 1, hj => simp at hj; subst hj; simp [Addr.add]
      case c2 => intro u hu; simp at hu; rcases hu with rfl | rfl <;> rfl
      case c3 => unfold maxLen; omega
      case c4 => omega
      case c5 =>
        have := (Array.getElem?_eq_some_iff.1 HBX.out).1
        simp; omega
      · intro v' w1 hown' hgrow _
        rw [← mov_snoc HP.out] at hown'
        have L := ((HB.out.alloc HB.out.size (.cells #[.float .f64 p.1, .float .f64 p.2] 31)).alloc (by have := HB.out.size; simp; omega) (.cells #[.float .f64 (fadd p.1 d.1), .float .f64 (fadd p.2 d.2)] 31)).grown hgrow (by have := HB.out.size; simp; omega) (fun k hk => by have := (hown.lt k hk).1; omega)
        have BX : Blk w1 w.heap.size #[.float .f64 d.1, .float .f64 d.2] 31 := by
          have hlt := (Array.getElem?_eq_some_iff.1 HBX.out).1
          have LB := ((Below.refl wr.heap.size wr).alloc (Nat.le_refl _) (.cells #[.float .f64 p.1, .float .f64 p.2] 31)).alloc (by simp) (.cells #[.float .f64 (fadd p.1 d.1), .float .f64 (fadd p.2 d.2)] 31)
          exact (hgrow.block _ (by simp; omega) (fun he => by have := (hown.lt _ he.symm).1; omega)).trans ((LB.block _ hlt).trans HBX.out)
        have HL := Lib.hid L
        have HBX1 := Lib.hid BX
        clear hgrow hown hb d0 d1 L BX
        go_wp2
        go_roundw
        case rel => exact ⟨k + 1, by omega, by go_num, hown', HBX1, HL.out⟩
        case measure => simp [intOf]; omega
    · obtain rfl : k = n := by omega
      have hle : ps.take k = ps := List.take_of_length_le (by omega)
      rw [hle] at hown
      clear hle hl hx
      go_wp2
      go_ret
      exact ⟨_, rfl, (pts_of_owns hown).2, hb⟩

theorem from_fin {ps : List (Nat × Nat)} {a n : Nat} (hl : ps.length = n) : pc ((ps.drop a).take (n - 1 - a)) ++ (pc (ps.take a) ++ pc [ps.getD a (0, 0)]) = pc (fromL ps a) := by
  unfold fromL
  rw [hl, pc_append, pc_append, List.append_assoc]
set_option maxHeartbeats 1000000 in
theorem from_any (n cap b off a : Nat) (ps : List (Nat × Nat)) (w : World) (hn : ps.length = n) (hn100 : n ≤ 100) (hcap : n ≤ cap) (hps : PtsAt w b off ps) (ha : a + 1 < n) :
    Calls Tryd.prog 19 #[.slice (some ⟨b, off, none⟩) n cap, .int .i64 a] w fun e w' => ∃ v, e = .returned v ∧ IsPts w' v (fromL ps a) ∧ Below w.heap.size w w' := by
  obtain ⟨i0, hi, hz0, hz1, hz2⟩ := info_parts info_ipoint
  have HPS := Lib.hid hps
  have HN := Lib.hid hn
  have hnn : (n : Int) ≤ 100 := by omega
  have hnw : IntKind.i64.wrap ((n : Int) - 1) = (n : Int) - 1 := IntWalk.i64_in _ (by omega)
  have han : (a : Int) ≤ (n : Int) - 1 := by omega
  have hncap : (n : Int) - 1 ≤ cap := by omega
  have hacap : (a : Int) ≤ cap := by omega
  have haln : (a : Int) < n := by omega
  have hn0 : (0 : Int) ≤ (n : Int) - 1 := by omega
  have hnt : ((n : Int) - 1).toNat = n - 1 := by omega
  have hc1 : ¬ cap = a := by omega
  clear hps hn
  go_enter Tryd.func19, Tryd.ntmps19
  go_wp2_with (at_builtin; refine wpList_append_own _ rfl _ _ 22 rfl w.heap.size 31 i0 (.agg #[.float .f64 0, .float .f64 0]) 2 16 Tryd.underlying22 hi hz0 hz1 hz2 rfl (by decide) _ _ _ rfl (made_own w 31) ⟨b, off + a * 2, none⟩ (n - 1 - a) (cap - a) (pc ((ps.drop a).take (n - 1 - a))) rfl (sub_length HN.out (by omega)) (pc_cells _ _ (pts_sub (pts_below HPS.out ((Below.refl _ _).alloc (Nat.le_refl _) _)) a _)) (pc_cell1 _) ?c3 ?c4 ?c5 ?c6)
  case c3 => unfold maxLen; omega
  case c4 => omega
  case c5 => simp
  intro v1 w1 hown1 hgrow1 _
  have L1 : Below w.heap.size w w1 := ((Below.refl _ _).alloc (Nat.le_refl _) _).grown hgrow1 (by simp) (fun k hk => by simp [Value.ownBlock] at hk; omega)
  have HL1 := Lib.hid L1
  have HO1 := Lib.hid hown1
  clear L1 hown1 hgrow1
  go_wp2_with (at_builtin; refine wpList_append_own _ rfl _ _ 22 rfl w.heap.size 31 i0 (.agg #[.float .f64 0, .float .f64 0]) 2 16 Tryd.underlying22 hi hz0 hz1 hz2 rfl (by decide) _ _ _ rfl HO1.out ⟨b, off, none⟩ a cap (pc ((ps.drop 0).take a)) rfl (sub_length HN.out (by omega)) (pc_cells _ _ (pts_sub (pts_below HPS.out HL1.out) 0 _)) (pc_cell1 _) ?d3 ?d4 ?d5 ?d6)
  case d3 => unfold maxLen; omega
  case d4 => omega
  case d5 => have := HL1.out.size; omega
  intro v2 w2 hown2 hgrow2 _
  have L2 : Below w.heap.size w w2 := HL1.out.grown hgrow2 HL1.out.size (fun k hk => (HO1.out.lt k hk).1)
  have HL2 := Lib.hid L2
  have HO2 := Lib.hid hown2
  clear L2 hown2 hgrow2
  have hil : a < ps.length := by have := HN.out; omega
  obtain ⟨x0, x1⟩ := HPS.out a _ (List.getElem?_eq_getElem hil)
  obtain ⟨⟨a0, a1⟩, hpe⟩ : ∃ p, p = ps[a] := ⟨_, rfl⟩
  have HE1 : Hid ([.float .f64 a0, .float .f64 a1] = pc [ps.getD a (0, 0)]) := Lib.hid (by
    rw [List.getD_eq_getElem?_getD, List.getElem?_eq_getElem hil, Option.getD_some, ← hpe]; rfl)
  rw [← hpe] at x0 x1
  have x0' := cell_later HL2.out x0
  have x1' := cell_later HL2.out x1
  clear x0 x1 hpe hil
  go_wp2_with (at_builtin; refine wpList_append_own _ rfl _ _ 22 rfl w.heap.size 31 i0 (.agg #[.float .f64 0, .float .f64 0]) 2 16 Tryd.underlying22 hi hz0 hz1 hz2 rfl (by decide) _ _ _ rfl (HO2.out.alloc _) ⟨w2.heap.size, 0, none⟩ 1 1 [.float .f64 a0, .float .f64 a1] rfl rfl ?f1 ?f2 ?f3 ?f4 ?f5 ?f6)
  case f2 => exact ⟨rfl, rfl⟩
  case f3 => unfold maxLen; omega
  case f4 => omega
  case f5 => have := HL2.out.size; simp; omega
  intro v3 w3 hown3 hgrow3 _
  have L3 : Below w.heap.size w w3 := (HL2.out.alloc HL2.out.size _).grown hgrow3 (by have := HL2.out.size; simp; omega) (fun k hk => (HO2.out.lt k hk).1)
  rw [HE1.out, from_fin HN.out] at hown3
  clear hgrow3 x0' x1'
  go_wp2
  go_ret
  exact ⟨_, rfl, (pts_of_owns hown3).2, L3⟩
end Go.Proofs.YtpbhpplmokdkhaaDoor
