/- The walks of spec.IsPoint and spec.ArePoints. -/
import Derived.Test.YtpbhpplmokdkhaaDoorPts
namespace Go.Proofs.YtpbhpplmokdkhaaDoor
open Go.RowKit Fl

def ptB (p : Nat × Nat) : Bool := wholeB p.1 && wholeB p.2
def Wf (ps : List (Nat × Nat)) : Prop := ∀ p ∈ ps, p.1 < 18446744073709551616 ∧ p.2 < 18446744073709551616

theorem below_alloc_trans {w w1 : World} {o : Obj} (h : Below (w.alloc o).heap.size (w.alloc o) w1) : Below w.heap.size w w1 :=
  ((Below.refl _ _).alloc (Nat.le_refl _) o).trans (h.mono (by simp))

set_option maxHeartbeats 400000 in
theorem isPoint_any (x y : Nat) (hx : x < 18446744073709551616) (hy : y < 18446744073709551616) (w : World) :
    Calls Tryd.prog 15 #[.agg #[.float .f64 x, .float .f64 y]] w fun e w' => e = .returned (.bool (ptB (x, y))) ∧ Below w.heap.size w w' := by
  obtain ⟨b, hbb⟩ : ∃ b, b = ptB (x, y) := ⟨_, rfl⟩
  rw [← hbb]
  have c1 := fun w => whole_any x hx w
  have c2 := fun w => whole_any y hy w
  unfold ptB at hbb
  have HB := Lib.hid hbb
  clear hbb
  by_cases h1 : wholeB x = true
  · simp only [h1] at c1
    go_enter Tryd.func15, Tryd.ntmps15
    go_wp2_with fail
    refine (c1 _).mono ?_
    rintro e w1 ⟨rfl, hb1⟩
    have k1 : w1.cell? ⟨w.heap.size, 1, none⟩ = some (.float .f64 y) := by
      rw [hb1.cell (p := ⟨w.heap.size, 1, none⟩) (by simp)]; simp
    have HB1 := Lib.hid hb1
    clear hb1
    go_wp2_with fail
    refine (c2 _).mono ?_
    rintro e w2 ⟨rfl, hb2⟩
    have HB2 := Lib.hid hb2
    clear hb2 k1
    go_wp2
    go_ret
    have := HB.out
    rw [h1, Bool.true_and] at this
    rw [this]
    exact ⟨rfl, below_alloc_trans (HB1.out.trans (HB2.out.mono HB1.out.size))⟩
  · have h1' : wholeB x = false := by simpa using h1
    clear h1
    simp only [h1'] at c1
    go_enter Tryd.func15, Tryd.ntmps15
    go_wp2_with fail
    refine (c1 _).mono ?_
    rintro e w1 ⟨rfl, hb1⟩
    have HB1 := Lib.hid hb1
    clear hb1
    go_wp2
    go_ret
    have := HB.out
    rw [h1', Bool.false_and] at this
    rw [this]
    exact ⟨rfl, below_alloc_trans HB1.out⟩

/-- What spec.ArePoints answers. -/
def areB (ps : List (Nat × Nat)) (most : Int) : Bool := ps.all ptB && decide ((ps.length : Int) ≤ most)
theorem areB_no {ps : List (Nat × Nat)} {k : Nat} {p : Nat × Nat} (hp : ps[k]? = some p) (h : ptB p = false) (most : Int) : areB ps most = false := by
  unfold areB
  have : ps.all ptB = false := by
    rw [List.all_eq_false]
    exact ⟨p, List.mem_of_getElem? hp, by simp [h]⟩
  rw [this]; rfl
theorem all_snoc {ps : List (Nat × Nat)} {k : Nat} {p : Nat × Nat} (hp : ps[k]? = some p) (h : ptB p = true) (ha : (ps.take k).all ptB = true) : (ps.take (k + 1)).all ptB = true := by
  rw [take_snoc ps k p hp, List.all_append, ha]; simp [h]

set_option maxHeartbeats 400000 in
theorem are_full (n cap b off : Nat) (ps : List (Nat × Nat)) (most : Int) (w : World) (hl : ps.length = n) (hwf : Wf ps) (hn : n * 16 ≤ 140737488351232) (hx : PtsAt w b off ps) :
    Calls Tryd.prog 30 #[.slice (some ⟨b, off, none⟩) n cap, .int .i64 most] w fun e w' => e = .returned (.bool (areB ps most)) ∧ Below w.heap.size w w' := by
  obtain ⟨ans, hans⟩ : ∃ ans, ans = areB ps most := ⟨_, rfl⟩
  rw [← hans]
  have HA := Lib.hid hans
  clear hans
  go_enter Tryd.func30, Tryd.ntmps30
  go_wp2
  go_loopw [6, 9] (fun v i wr => ∃ k : Nat, k ≤ n ∧ i = .int .i64 k ∧ Hid ((ps.take k).all ptB = true) ∧ Below w.heap.size w wr) (fun _ i _ => n - (intOf i).toNat)
  case atStart => exact ⟨0, Nat.zero_le _, rfl, Lib.hid rfl, Below.refl _ _⟩
  case round =>
    obtain ⟨k, hk, rfl, HK, hb⟩ := hrel
    by_cases hlt : k < n
    · have hp : ps[k]? = some ps[k] := List.getElem?_eq_getElem (by omega)
      obtain ⟨c0, c1⟩ := hx k _ hp
      have hw := hwf _ (List.mem_of_getElem? hp)
      obtain ⟨⟨x, y⟩, hpe⟩ : ∃ p, p = ps[k] := ⟨_, rfl⟩
      rw [← hpe] at hp c0 c1 hw
      clear hpe
      have d0 := cell_later hb c0
      have d1 := cell_later hb c1
      have HP := Lib.hid hp
      have HB := Lib.hid hb
      have cc := fun w => isPoint_any x y hw.1 hw.2 w
      clear c0 c1 hx hl hp hwf hw hb
      by_cases hpt : ptB (x, y) = true
      · simp only [hpt] at cc
        go_wp2_with fail
        refine (cc _).mono ?_
        rintro e w1 ⟨rfl, hb1⟩
        have HB1 := Lib.hid hb1
        clear hb1 d0 d1 cc
        go_wp2
        go_roundw
        case rel => exact ⟨k + 1, by omega, by go_num, Lib.hid (all_snoc HP.out hpt HK.out), (HB.out.trans ((below_alloc_trans HB1.out).mono HB.out.size))⟩
        case measure => simp [intOf]; omega
      · have hpt' : ptB (x, y) = false := by simpa using hpt
        clear hpt
        simp only [hpt'] at cc
        go_wp2_with fail
        refine (cc _).mono ?_
        rintro e w1 ⟨rfl, hb1⟩
        have HB1 := Lib.hid hb1
        clear hb1 d0 d1 cc
        go_wp2
        go_ret
        rw [HA.out, areB_no HP.out hpt']
        exact ⟨rfl, (HB.out.trans ((below_alloc_trans HB1.out).mono HB.out.size))⟩
    · obtain rfl : k = n := by omega
      have ha : ans = decide ((k : Int) ≤ most) := by
        have := HK.out
        rw [List.take_of_length_le (by omega)] at this
        rw [HA.out]; unfold areB; rw [this, hl]; rfl
      have HB := Lib.hid hb
      have HE := Lib.hid ha
      clear hl hx HA HK ha hb hwf
      go_wp2
      go_ret
      rw [HE.out]
      exact ⟨rfl, HB.out⟩

set_option maxHeartbeats 400000 in
theorem are_none (ao : Option Addr) (cap : Nat) (most : Int) (w : World) :
    Calls Tryd.prog 30 #[.slice ao 0 cap, .int .i64 most] w fun e w' => e = .returned (.bool (areB [] most)) ∧ Below w.heap.size w w' := by
  have ha : areB [] most = decide ((0 : Int) ≤ most) := rfl
  obtain ⟨ans, hans⟩ : ∃ ans, ans = areB [] most := ⟨_, rfl⟩
  rw [← hans]
  have HA : Hid (ans = decide ((0 : Int) ≤ most)) := Lib.hid (hans.trans ha)
  clear hans ha
  go_enter Tryd.func30, Tryd.ntmps30
  go_wp2
  refine wp_loop_rounds 1 ?_
  rw [rounds_succ]
  go_wp2
  go_ret
  rw [HA.out]
  exact ⟨rfl, Below.refl _ _⟩

/-- spec.ArePoints. -/
theorem are_any {w : World} {v : Value} {ps : List (Nat × Nat)} (hv : IsPts w v ps) (hwf : Wf ps) (hn : ps.length * 16 ≤ 140737488351232) (most : Int) :
    Calls Tryd.prog 30 #[v, .int .i64 most] w fun e w' => e = .returned (.bool (areB ps most)) ∧ Below w.heap.size w w' := by
  obtain ⟨ao, cap, rfl, h⟩ := hv
  rcases h with rfl | ⟨b, off, rfl, h⟩
  · exact are_none ao cap most w
  · exact are_full _ cap b off ps most w rfl hwf hn h
end Go.Proofs.YtpbhpplmokdkhaaDoor
