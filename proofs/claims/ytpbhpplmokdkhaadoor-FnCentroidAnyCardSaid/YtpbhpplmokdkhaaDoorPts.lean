/- The walks of impl.pointsOf and impl.listOf: the same points in memory of the call's own. -/
import Derived.Test.YtpbhpplmokdkhaaDoorMem
namespace Go.Proofs.YtpbhpplmokdkhaaDoor
open Go.RowKit Fl

theorem info_opoint : (Tryd.prog.info? 69).map (fun i => (i.zero, i.size, i.bytes)) = some (some (.agg #[.float .f64 0, .float .f64 0]), 2, 16) := by kernel_rfl
theorem info_ipoint : (Tryd.prog.info? 31).map (fun i => (i.zero, i.size, i.bytes)) = some (some (.agg #[.float .f64 0, .float .f64 0]), 2, 16) := by kernel_rfl

theorem rel_snoc {w wr w1 : World} {E : TypeId} {v v' : Value} {o1 o2 : Obj} {ps : List (Nat × Nat)} {k : Nat} {p : Nat × Nat} (hk : ps[k]? = some p)
    (hown' : w1.ownsRow w.heap.size E 2 v' (k + 1) (pc (ps.take k) ++ [.float .f64 p.1, .float .f64 p.2])) (hb : Below w.heap.size w wr) (hown : wr.ownsRow w.heap.size E 2 v k (pc (ps.take k)))
    (hgrow : ((wr.alloc o1).alloc o2).grownBy w1 v.ownBlock) : w1.ownsRow w.heap.size E 2 v' (k + 1) (pc (ps.take (k + 1))) ∧ Below w.heap.size w w1 := by
  rw [take_snoc ps k p hk, pc_append]
  refine ⟨hown', ?_⟩
  exact ((hb.alloc hb.size o1).alloc (by have := hb.size; simp; omega) o2).grown hgrow (by have := hb.size; simp; omega) (fun k hk => ((hown.alloc o1).alloc o2 |>.lt k hk).1)

set_option maxHeartbeats 400000 in
theorem points_full (n cap b off : Nat) (ps : List (Nat × Nat)) (w : World) (hl : ps.length = n) (hn : n * 16 ≤ 140737488351232) (hx : PtsAt w b off ps) :
    Calls Tryd.prog 40 #[.slice (some ⟨b, off, none⟩) n cap] w fun e w' => ∃ v, e = .returned v ∧ w'.ownsRow w.heap.size 69 2 v n (pc ps) ∧ Below w.heap.size w w' := by
  obtain ⟨i0, hi, hz0, hz1, hz2⟩ := info_parts info_opoint
  go_enter Tryd.func40, Tryd.ntmps40
  go_wp2
  go_loopw [3, 5, 9] (fun v u i wr => ∃ k : Nat, k ≤ n ∧ i = .int .i64 k ∧ wr.ownsRow w.heap.size 69 2 v k (pc (ps.take k)) ∧ Below w.heap.size w wr) (fun _ _ i _ => n - (intOf i).toNat)
  case atStart => exact ⟨0, Nat.zero_le _, rfl, World.ownsRow_made w #[] 0 (Nat.le_refl _) (Nat.zero_le _) rfl, (Below.refl _ _).alloc (Nat.le_refl _) _⟩
  case round =>
    obtain ⟨k, hk, rfl, hown, hb⟩ := hrel
    by_cases hlt : k < n
    · have hp : ps[k]? = some ps[k] := List.getElem?_eq_getElem (by omega)
      obtain ⟨c0, c1⟩ := hx k _ hp
      obtain ⟨p, hpe⟩ : ∃ p, p = ps[k] := ⟨_, rfl⟩
      rw [← hpe] at hp c0 c1
      clear hpe
      have d0 := cell_later hb c0
      have d1 := cell_later hb c1
      have HP := Lib.hid hp
      have HB := Lib.hid hb
      clear c0 c1 hx hl hp
      go_wp2_with (at_builtin; refine wpList_append_own _ rfl _ _ 63 rfl w.heap.size 69 i0 (.agg #[.float .f64 0, .float .f64 0]) 2 16 Tryd.underlying63 hi hz0 hz1 hz2 rfl (by decide) _ _ _ rfl ((hown.alloc _).alloc _) ⟨wr.heap.size + 1, 0, none⟩ 1 1 [.float .f64 p.1, .float .f64 p.2] rfl rfl ?c1 ?c2 ?c3 ?c4 ?c5 ?_)
      case c1 =>
        intro j u hj
        match j, hj with
        | 0, hj => simp at hj; subst hj; simp [Addr.add]
        | 1, hj => simp at hj; subst hj; simp [Addr.add]
      case c2 => intro u hu; simp at hu; rcases hu with rfl | rfl <;> rfl
      case c3 => unfold maxLen; omega
      case c4 => omega
      case c5 => have := hb.size; simp; omega
      · intro v' w1 hown' hgrow _
        have R := rel_snoc HP.out hown' HB.out hown hgrow
        clear hown' hgrow hown hb d0 d1
        go_wp2
        go_roundw
        case rel => exact ⟨k + 1, by omega, by go_num, R.1, R.2⟩
        case measure => simp [intOf]; omega
    · obtain rfl : k = n := by omega
      have hle : ps.take k = ps := List.take_of_length_le (by omega)
      rw [hle] at hown
      clear hle hl hx
      go_wp2
      go_ret
      exact ⟨_, rfl, hown, hb⟩
set_option maxHeartbeats 400000 in
theorem points_none (ao : Option Addr) (cap : Nat) (w : World) :
    Calls Tryd.prog 40 #[.slice ao 0 cap] w fun e w' => ∃ v, e = .returned v ∧ w'.ownsRow w.heap.size 69 2 v 0 (pc []) ∧ Below w.heap.size w w' := by
  have h0 : (w.alloc (.cells #[] 69)).ownsRow w.heap.size 69 2 (.slice (some ⟨w.heap.size, 0, none⟩) 0 0) 0 [] := World.ownsRow_made w #[] 0 (Nat.le_refl _) (Nat.zero_le _) rfl
  have hb : Below w.heap.size w (w.alloc (.cells #[] 69)) := (Below.refl _ _).alloc (Nat.le_refl _) _
  have H0 := Lib.hid h0
  have HB := Lib.hid hb
  clear h0 hb
  go_enter Tryd.func40, Tryd.ntmps40
  go_wp2
  refine wp_loop_rounds 1 ?_
  rw [rounds_succ]
  go_wp2
  go_ret
  exact ⟨_, rfl, H0.out, HB.out⟩

/-- impl.pointsOf. -/
theorem points_any {w : World} {v : Value} {ps : List (Nat × Nat)} (hv : IsPts w v ps) (hn : ps.length * 16 ≤ 140737488351232) :
    Calls Tryd.prog 40 #[v] w fun e w' => ∃ v', e = .returned v' ∧ w'.ownsRow w.heap.size 69 2 v' ps.length (pc ps) ∧ Below w.heap.size w w' := by
  obtain ⟨ao, cap, rfl, h⟩ := hv
  rcases h with rfl | ⟨b, off, rfl, h⟩
  · exact points_none ao cap w
  · exact points_full _ cap b off ps w rfl hn h

set_option maxHeartbeats 400000 in
theorem list_full (n cap b off : Nat) (ps : List (Nat × Nat)) (w : World) (hl : ps.length = n) (hn : n * 16 ≤ 140737488351232) (hx : PtsAt w b off ps) :
    Calls Tryd.prog 46 #[.slice (some ⟨b, off, none⟩) n cap] w fun e w' => ∃ v, e = .returned v ∧ w'.ownsRow w.heap.size 31 2 v n (pc ps) ∧ Below w.heap.size w w' := by
  obtain ⟨i0, hi, hz0, hz1, hz2⟩ := info_parts info_ipoint
  go_enter Tryd.func46, Tryd.ntmps46
  go_wp2
  go_loopw [3, 5, 9] (fun v u i wr => ∃ k : Nat, k ≤ n ∧ i = .int .i64 k ∧ wr.ownsRow w.heap.size 31 2 v k (pc (ps.take k)) ∧ Below w.heap.size w wr) (fun _ _ i _ => n - (intOf i).toNat)
  case atStart => exact ⟨0, Nat.zero_le _, rfl, World.ownsRow_made w #[] 0 (Nat.le_refl _) (Nat.zero_le _) rfl, (Below.refl _ _).alloc (Nat.le_refl _) _⟩
  case round =>
    obtain ⟨k, hk, rfl, hown, hb⟩ := hrel
    by_cases hlt : k < n
    · have hp : ps[k]? = some ps[k] := List.getElem?_eq_getElem (by omega)
      obtain ⟨c0, c1⟩ := hx k _ hp
      obtain ⟨p, hpe⟩ : ∃ p, p = ps[k] := ⟨_, rfl⟩
      rw [← hpe] at hp c0 c1
      clear hpe
      have d0 := cell_later hb c0
      have d1 := cell_later hb c1
      have HP := Lib.hid hp
      have HB := Lib.hid hb
      clear c0 c1 hx hl hp
      go_wp2_with (at_builtin; refine wpList_append_own _ rfl _ _ 22 rfl w.heap.size 31 i0 (.agg #[.float .f64 0, .float .f64 0]) 2 16 Tryd.underlying22 hi hz0 hz1 hz2 rfl (by decide) _ _ _ rfl ((hown.alloc _).alloc _) ⟨wr.heap.size + 1, 0, none⟩ 1 1 [.float .f64 p.1, .float .f64 p.2] rfl rfl ?c1 ?c2 ?c3 ?c4 ?c5 ?_)
      case c1 =>
        intro j u hj
        match j, hj with
        | 0, hj => simp at hj; subst hj; simp [Addr.add]
        | 1, hj => simp at hj; subst hj; simp [Addr.add]
      case c2 => intro u hu; simp at hu; rcases hu with rfl | rfl <;> rfl
      case c3 => unfold maxLen; omega
      case c4 => omega
      case c5 => have := hb.size; simp; omega
      · intro v' w1 hown' hgrow _
        have R := rel_snoc HP.out hown' HB.out hown hgrow
        clear hown' hgrow hown hb d0 d1
        go_wp2
        go_roundw
        case rel => exact ⟨k + 1, by omega, by go_num, R.1, R.2⟩
        case measure => simp [intOf]; omega
    · obtain rfl : k = n := by omega
      have hle : ps.take k = ps := List.take_of_length_le (by omega)
      rw [hle] at hown
      clear hle hl hx
      go_wp2
      go_ret
      exact ⟨_, rfl, hown, hb⟩
set_option maxHeartbeats 400000 in
theorem list_none (ao : Option Addr) (cap : Nat) (w : World) :
    Calls Tryd.prog 46 #[.slice ao 0 cap] w fun e w' => ∃ v, e = .returned v ∧ w'.ownsRow w.heap.size 31 2 v 0 (pc []) ∧ Below w.heap.size w w' := by
  have h0 : (w.alloc (.cells #[] 31)).ownsRow w.heap.size 31 2 (.slice (some ⟨w.heap.size, 0, none⟩) 0 0) 0 [] := World.ownsRow_made w #[] 0 (Nat.le_refl _) (Nat.zero_le _) rfl
  have hb : Below w.heap.size w (w.alloc (.cells #[] 31)) := (Below.refl _ _).alloc (Nat.le_refl _) _
  have H0 := Lib.hid h0
  have HB := Lib.hid hb
  clear h0 hb
  go_enter Tryd.func46, Tryd.ntmps46
  go_wp2
  refine wp_loop_rounds 1 ?_
  rw [rounds_succ]
  go_wp2
  go_ret
  exact ⟨_, rfl, H0.out, HB.out⟩

/-- impl.listOf. -/
theorem list_any {w : World} {v : Value} {ps : List (Nat × Nat)} (hv : IsPts w v ps) (hn : ps.length * 16 ≤ 140737488351232) :
    Calls Tryd.prog 46 #[v] w fun e w' => ∃ v', e = .returned v' ∧ w'.ownsRow w.heap.size 31 2 v' ps.length (pc ps) ∧ Below w.heap.size w w' := by
  obtain ⟨ao, cap, rfl, h⟩ := hv
  rcases h with rfl | ⟨b, off, rfl, h⟩
  · exact list_none ao cap w
  · exact list_full _ cap b off ps w rfl hn h

end Go.Proofs.YtpbhpplmokdkhaaDoor
