/- The walks of orb.LineString.Reverse and impl.Reversed. -/
import Derived.Test.YtpbhpplmokdkhaaDoorUt
import Derived.Test.YtpbhpplmokdkhaaDoorPts
import Derived.BigRegion
import Derived.RegionTactic
import Derived.ChangeAlike
set_option linter.unusedVariables false
namespace Go.Proofs.YtpbhpplmokdkhaaDoor
open Go.RowKit Fl

def CsAt (cs : Array Value) (n : Nat) (q : Nat → Nat × Nat) : Prop := ∀ j, j < n → cs[j * 2]? = some (.float .f64 (q j).1) ∧ cs[j * 2 + 1]? = some (.float .f64 (q j).2)
/-- What lies at a place when so many rounds are done. -/
def rvq (n : Nat) (p : Nat → Nat × Nat) (k : Nat) : Nat → Nat × Nat := fun j => if j < k ∨ n - 1 - k < j then p (n - 1 - j) else p j
theorem cs_set {cs : Array Value} {n i : Nat} {q : Nat → Nat × Nat} (h : CsAt cs n q) (z : Nat × Nat) (hi : i < n) : CsAt ((cs.setIfInBounds (i * 2) (.float .f64 z.1)).setIfInBounds (i * 2 + 1) (.float .f64 z.2)) n (fun t => if t = i then z else q t) := by
  intro j hj
  obtain ⟨h1, h2⟩ := h j hj
  obtain ⟨i1, i2⟩ := h i hi
  have b1 := (Array.getElem?_eq_some_iff.1 i1).1
  have b2 := (Array.getElem?_eq_some_iff.1 i2).1
  simp only [Array.getElem?_setIfInBounds, Array.size_setIfInBounds]
  by_cases e : j = i
  · subst e
    rw [if_neg (by omega), if_pos rfl, if_pos b1, if_pos rfl, if_pos b2]
    simp
  · have n1 : ¬ i * 2 + 1 = j * 2 := by omega
    have n2 : ¬ i * 2 = j * 2 := by omega
    have n3 : ¬ i * 2 + 1 = j * 2 + 1 := by omega
    have n4 : ¬ i * 2 = j * 2 + 1 := by omega
    simp only [n1, n2, n3, n4, if_false, h1, h2, e, and_self]
theorem rv_step {n k : Nat} {p : Nat → Nat × Nat} (hk : 2 * k + 1 ≤ n) (hn : 2 ≤ n) : ∀ t, t < n → (if t = n - 1 - k then rvq n p k k else if t = k then rvq n p k (n - 1 - k) else rvq n p k t) = rvq n p (k + 1) t := by
  intro t ht
  unfold rvq
  by_cases e : t = n - 1 - k
  · rw [if_pos e, if_neg (by omega), if_pos (by omega), e, show n - 1 - (n - 1 - k) = k by omega]
  · rw [if_neg e]
    by_cases e2 : t = k
    · rw [if_pos e2, if_neg (by omega), if_pos (by omega), e2]
    · rw [if_neg e2]
      by_cases c : t < k ∨ n - 1 - k < t
      · rw [if_pos c, if_pos (by omega)]
      · rw [if_neg c, if_neg (by omega)]

set_option maxRecDepth 100000 in
set_option maxHeartbeats 4000000 in
theorem reverse_any (n cap b : Nat) (cs : Array Value) (T : TypeId) (p : Nat → Nat × Nat) (w : World) (hB : Blk w b cs T) (hcs : CsAt cs n p) (h2 : 2 ≤ n) (hn : n ≤ 100) :
    Calls Tryd.prog 45 #[.slice (some ⟨b, 0, none⟩) n cap] w
      fun e w' => e = .returned (.tuple #[]) ∧ (∃ cs', Blk w' b cs' T ∧ CsAt cs' n (fun j => p (n - 1 - j))) ∧ Below b w w' := by
  have HB := Lib.hid hB
  have HC := Lib.hid hcs
  have hnn : (n : Int) ≤ 100 := by omega
  have h2n : (2 : Int) ≤ n := by omega
  have hnw : IntKind.i64.wrap ((n : Int) - 1) = (n : Int) - 1 := IntWalk.i64_in _ (by omega)
  have hq : ((n : Int) - 1).tdiv 2 = (((n - 1) / 2 : Nat) : Int) := by
    rw [show (n : Int) - 1 = ((n - 1 : Nat) : Int) by omega]; rfl
  have hqw : IntKind.i64.wrap (((n - 1) / 2 : Nat) : Int) = (((n - 1) / 2 : Nat) : Int) := IntWalk.i64_in _ (by omega)
  have hd1 : decide ((n : Int) - 1 < 1) = false := decide_eq_false (by omega)
  clear hB hcs
  go_enter Tryd.func45, Tryd.ntmps45
  go_wp2
  go_loopw [3] (fun iv wr => ∃ (k : Nat) (cs' : Array Value), 2 * k ≤ n + 1 ∧ iv = .int .i64 k ∧ Hid (Blk wr b cs' T) ∧ Hid (CsAt cs' n (rvq n p k)) ∧ Below b w wr) (fun iv _ => n - (intOf iv).toNat)
  case atStart =>
    refine ⟨0, cs, by omega, rfl, HB, Lib.hid ?_, Below.refl _ _⟩
    intro j hj
    have := HC.out j hj
    unfold rvq
    rw [if_neg (by omega)]
    exact this
  case round =>
    obtain ⟨k, cs', hk, rfl, HB', HC', hb⟩ := hrel
    by_cases hlt : 2 * k + 1 ≤ n
    · have hle : decide ((k : Int) ≤ (((n - 1) / 2 : Nat) : Int)) = true := decide_eq_true (by omega)
      have hw1 : IntKind.i64.wrap ((n : Int) - 1 - k) = (n : Int) - 1 - k := IntWalk.i64_in _ (by omega)
      have hk0 : (0 : Int) ≤ (n : Int) - 1 - k := by omega
      have hkn : (n : Int) - 1 - k < n := by omega
      have hkt : ((n : Int) - 1 - k).toNat = n - 1 - k := by omega
      have hkn2 : (k : Int) < n := by omega
      have hw2 : IntKind.i64.wrap ((k : Int) + 1) = (k : Int) + 1 := IntWalk.i64_in _ (by omega)
      have hC := HC'.out
      obtain ⟨p1, p2⟩ := hC k (by omega)
      obtain ⟨q1, q2⟩ := hC (n - 1 - k) (by omega)
      obtain ⟨⟨a0, a1⟩, hae⟩ : ∃ z, z = rvq n p k k := ⟨_, rfl⟩
      obtain ⟨⟨c0, c1⟩, hce⟩ : ∃ z, z = rvq n p k (n - 1 - k) := ⟨_, rfl⟩
      rw [← hae] at p1 p2
      rw [← hce] at q1 q2
      obtain ⟨x0, f0⟩ := blk_cell HB'.out p1
      obtain ⟨x1, f1⟩ := blk_cell HB'.out p2
      obtain ⟨y0, g0⟩ := blk_cell HB'.out q1
      obtain ⟨y1, g1⟩ := blk_cell HB'.out q2
      have B1 := blk_set (blk_set HB'.out (k * 2) (.float .f64 c0)) (k * 2 + 1) (.float .f64 c1)
      have C1 : CsAt _ n _ := cs_set hC (c0, c1) (show k < n by omega)
      obtain ⟨q3, q4⟩ := C1 (n - 1 - k) (by omega)
      have hsel : (if n - 1 - k = k then (c0, c1) else rvq n p k (n - 1 - k)) = (c0, c1) := by
        split
        · rfl
        · exact hce.symm
      rw [hsel] at q3 q4
      obtain ⟨z0, l0⟩ := blk_cell B1 q3
      obtain ⟨z1, l1⟩ := blk_cell B1 q4
      have HC1 := Lib.hid (cs_set C1 (a0, a1) (show n - 1 - k < n by omega))
      have HB1 := Lib.hid (blk_set (blk_set B1 ((n - 1 - k) * 2) (.float .f64 a0)) ((n - 1 - k) * 2 + 1) (.float .f64 a1))
      have HE := Lib.hid (And.intro hae hce)
      have hkn3 : (k : Int) ≤ (n : Int) - 1 := by omega
      have hkn4 : k ≤ n - 1 := by omega
      clear hC B1 C1 p1 p2 q1 q2 q3 q4 hsel hae hce
      go_wp2
      go_region
      all_goals go_wp2
      all_goals go_roundw
      case rel =>
        refine ⟨k + 1, _, by omega, by go_num, Lib.hid (blk_drew HB1.out), Lib.hid (fun t ht => ?_), ((((hb.setCell (p := ⟨b, k * 2, none⟩) (Nat.le_refl _) _).setCell (p := ⟨b, k * 2 + 1, none⟩) (Nat.le_refl _) _).setCell (p := ⟨b, (n - 1 - k) * 2, none⟩) (Nat.le_refl _) _).setCell (p := ⟨b, (n - 1 - k) * 2 + 1, none⟩) (Nat.le_refl _) _).drew⟩
        have hstep : (if t = n - 1 - k then (a0, a1) else if t = k then (c0, c1) else rvq n p k t) = rvq n p (k + 1) t := by
          rw [HE.out.1, HE.out.2]; exact rv_step hlt h2 t ht
        rw [← hstep]
        exact HC1.out t ht
      case measure => simp [intOf]; omega
    · have hle : decide ((k : Int) ≤ (((n - 1) / 2 : Nat) : Int)) = false := decide_eq_false (by omega)
      go_wp2
      go_end0
      refine ⟨rfl, ⟨cs', HB'.out, fun j hj => ?_⟩, hb⟩
      have h := HC'.out j hj
      unfold rvq at h
      rw [if_pos (by omega)] at h
      exact h
theorem cs_of_owns {w : World} {base : Nat} {e : TypeId} {v : Value} {ps : List (Nat × Nat)} (h : w.ownsRow base e 2 v ps.length (pc ps)) (h1 : 1 ≤ ps.length) :
    ∃ g cap cur, v = .slice (some ⟨g, 0, none⟩) ps.length cap ∧ base ≤ g ∧ Blk w g cur e ∧ CsAt cur ps.length (fun j => ps.getD j (0, 0)) := by
  rcases h.2 with ⟨_, h0⟩ | ⟨g, cap, cur, h2, h3, h4, _, _, _, h5⟩
  · omega
  · refine ⟨g, cap, cur, h2, h3, h4, fun j hj => ?_⟩
    have hp : ps[j]? = some (ps.getD j (0, 0)) := by rw [List.getD_eq_getElem?_getD, List.getElem?_eq_getElem hj]; rfl
    obtain ⟨g1, g2⟩ := pc_get ps j _ hp
    rw [← h5, List.getElem?_take] at g1 g2
    rw [if_pos (by omega)] at g1 g2
    rw [Array.getElem?_toList] at g1 g2
    exact ⟨g1, g2⟩
theorem pts_of_cs {w : World} {g : Nat} {cs : Array Value} {T : TypeId} {ps : List (Nat × Nat)} (h : Blk w g cs T) (hc : CsAt cs ps.length (fun j => ps.getD (ps.length - 1 - j) (0, 0))) : PtsAt w g 0 ps.reverse := by
  intro i p hp
  have hi : i < ps.length := by have := (List.getElem?_eq_some_iff.1 hp).1; simpa using this
  rw [List.getElem?_reverse hi] at hp
  obtain ⟨c1, c2⟩ := hc i hi
  simp only [List.getD_eq_getElem?_getD, hp, Option.getD_some] at c1 c2
  rw [Nat.zero_add]
  exact ⟨(blk_cell h c1).1, (blk_cell h c2).1⟩

set_option maxRecDepth 100000 in
theorem reversed_any {w : World} {v : Value} {ps : List (Nat × Nat)} (hv : IsPts w v ps) (h2 : 2 ≤ ps.length) (hn : ps.length ≤ 100) :
    Calls Tryd.prog 20 #[v] w fun e w' => ∃ v', e = .returned v' ∧ IsPts w' v' ps.reverse ∧ Below w.heap.size w w' := by
  have hcall1 := points_any hv (by omega)
  clear hv
  go_enter Tryd.func20, Tryd.ntmps20
  go_wp2_with fail
  refine hcall1.mono ?_
  rintro e w1 ⟨v1, rfl, ho, hb1⟩
  obtain ⟨g, cap, cur, rfl, hg, hB, hC⟩ := cs_of_owns ho (by omega)
  have hcall2 := reverse_any ps.length cap g cur _ _ w1 hB hC h2 hn
  have HB1 := Lib.hid hb1
  clear hcall1 ho hB hC hb1
  go_wp2_with fail
  refine hcall2.mono ?_
  rintro e w2 ⟨rfl, ⟨cs', hB, hC⟩, hb2⟩
  have hpts : IsPts w2 (.slice (some ⟨g, 0, none⟩) ps.length cap) ps.reverse := ⟨_, cap, by rw [List.length_reverse], .inr ⟨g, 0, rfl, pts_of_cs hB hC⟩⟩
  have hcall3 := list_any hpts (by rw [List.length_reverse]; omega)
  have HB2 := Lib.hid (HB1.out.trans (hb2.mono hg))
  clear hcall2 hpts hB hC hb2
  go_wp2_with fail
  refine hcall3.mono ?_
  rintro e w3 ⟨v3, rfl, ho3, hb3⟩
  have hv3 := (pts_of_owns ho3).2
  have L3 := HB2.out.trans (hb3.mono HB2.out.size)
  clear hcall3 ho3 hb3
  go_wp2
  go_ret
  exact ⟨_, rfl, hv3, L3⟩
end Go.Proofs.YtpbhpplmokdkhaaDoor
