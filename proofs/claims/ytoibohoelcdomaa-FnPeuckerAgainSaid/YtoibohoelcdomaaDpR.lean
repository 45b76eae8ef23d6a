/- The walks from (*DouglasPeuckerSimplifier).simplify up to impl.Peucker. -/
import Derived.Test.YtoibohoelcdomaaDpS
namespace Go.Proofs.Ytoibohoelcdomaa
open Go.RowKit Fl

theorem meth_rw {P : Program} {fuel : Nat} {t : TypeId} {v : Value} {nm : String} {w : World} {r : FuncId × Value} (h : (method fuel t v nm).run P w = .ok r w) : (method fuel t v nm).run P w = .ok r w := h

/-- What the rule hands back: the points that are kept. -/
def peuOut (ps : List (Nat × Nat)) (t : Nat) : List (Nat × Nat) := if ps.length ≤ 2 then ps else keptTo ps t ps.length

set_option maxHeartbeats 400000 in
theorem run_any (bs g cap n B : Nat) (ps : List (Nat × Nat)) (thr : Nat) (w : World) (hn : ps.length = n) (h2 : 2 ≤ n) (hn60 : n ≤ 1000000) (hth : w.cell? ⟨bs, 0, none⟩ = some (.float .f64 thr))
    (hown : w.ownsRow B 50 2 (.slice (some ⟨g, 0, none⟩) n cap) n (pc ps)) (hthr : IsFin thr) (ht : IsFin (fmul thr thr)) (ht0 : 0 ≤ val (fmul thr thr)) (hwh : ∀ p ∈ ps, ptB p = true) (t : Nat) (hte : t = fmul thr thr) :
    Calls Try.prog 30 #[.iface 44 (.pointer (some ⟨bs, 0, none⟩)), .slice (some ⟨g, 0, none⟩) n cap, .bool false] w
      fun e w' => ∃ c, e = .returned (.slice (some ⟨g, 0, none⟩) c cap) ∧ c = (peuOut ps t).length ∧ PtsAt w' g 0 (peuOut ps t) ∧ Below B w w' := by
  by_cases hle : n ≤ 2
  · have e1 : peuOut ps t = ps := by unfold peuOut; rw [if_pos (by omega)]
    rw [e1]
    have hps := (moving_start hown).1
    have HPS := Lib.hid hps
    have HN := Lib.hid hn
    clear e1 hps hown hn hte
    go_enter Try.func30, Try.ntmps30
    go_wp2
    go_ret
    exact ⟨n, rfl, HN.out.symm, HPS.out, Below.refl _ _⟩
  · have e1 : peuOut ps t = keptTo ps t n := by unfold peuOut; rw [if_neg (by omega), hn]
    rw [e1]
    have hcall := simplify_any bs g cap n B ps thr w hn h2 hn60 hth hown hthr ht ht0 hwh t hte
    clear e1 hown hn hte ht ht0 hthr hth
    go_enter Try.func30, Try.ntmps30
    go_wp2_with fail
    rw [meth_rw (r := (53, .pointer (some ⟨bs, 0, none⟩))) ?hm]
    case hm => kernel_rfl
    go_wp2_with fail
    refine hcall.mono ?_
    rintro e w1 ⟨c, rfl, hc, hp, hb⟩
    have HC := Lib.hid hc
    have HP := Lib.hid hp
    have HB := Lib.hid hb
    clear hc hp hb hcall
    go_wp2
    go_ret
    exact ⟨c, rfl, HC.out, HP.out, HB.out⟩

set_option maxHeartbeats 400000 in
theorem line_any (bs g cap n B : Nat) (ps : List (Nat × Nat)) (thr : Nat) (w : World) (hn : ps.length = n) (h2 : 2 ≤ n) (hn60 : n ≤ 1000000) (hth : w.cell? ⟨bs, 0, none⟩ = some (.float .f64 thr))
    (hown : w.ownsRow B 50 2 (.slice (some ⟨g, 0, none⟩) n cap) n (pc ps)) (hthr : IsFin thr) (ht : IsFin (fmul thr thr)) (ht0 : 0 ≤ val (fmul thr thr)) (hwh : ∀ p ∈ ps, ptB p = true) (t : Nat) (hte : t = fmul thr thr) :
    Calls Try.prog 26 #[.iface 44 (.pointer (some ⟨bs, 0, none⟩)), .slice (some ⟨g, 0, none⟩) n cap] w
      fun e w' => ∃ c, e = .returned (.slice (some ⟨g, 0, none⟩) c cap) ∧ c = (peuOut ps t).length ∧ PtsAt w' g 0 (peuOut ps t) ∧ Below B w w' := by
  have hcall := run_any bs g cap n B ps thr w hn h2 hn60 hth hown hthr ht ht0 hwh t hte
  clear hn h2 hn60 hth hown hthr ht ht0 hwh hte
  go_enter Try.func26, Try.ntmps26
  go_wp2_with fail
  refine hcall.mono ?_
  rintro e w1 ⟨c, rfl, hc, hp, hb⟩
  have HC := Lib.hid hc
  have HP := Lib.hid hp
  have HB := Lib.hid hb
  clear hc hp hb hcall
  go_wp2
  go_ret
  exact ⟨c, rfl, HC.out, HP.out, HB.out⟩

set_option maxHeartbeats 400000 in
theorem lineM_any (bs g cap n B : Nat) (ps : List (Nat × Nat)) (thr : Nat) (w : World) (hn : ps.length = n) (h2 : 2 ≤ n) (hn60 : n ≤ 1000000) (hth : w.cell? ⟨bs, 0, none⟩ = some (.float .f64 thr))
    (hown : w.ownsRow B 50 2 (.slice (some ⟨g, 0, none⟩) n cap) n (pc ps)) (hthr : IsFin thr) (ht : IsFin (fmul thr thr)) (ht0 : 0 ≤ val (fmul thr thr)) (hwh : ∀ p ∈ ps, ptB p = true) (t : Nat) (hte : t = fmul thr thr) :
    Calls Try.prog 19 #[.pointer (some ⟨bs, 0, none⟩), .slice (some ⟨g, 0, none⟩) n cap] w
      fun e w' => ∃ c, e = .returned (.slice (some ⟨g, 0, none⟩) c cap) ∧ c = (peuOut ps t).length ∧ PtsAt w' g 0 (peuOut ps t) ∧ Below B w w' := by
  have hcall := line_any bs g cap n B ps thr w hn h2 hn60 hth hown hthr ht ht0 hwh t hte
  clear hn h2 hn60 hth hown hthr ht ht0 hwh hte
  go_enter Try.func19, Try.ntmps19
  go_wp2_with fail
  refine hcall.mono ?_
  rintro e w1 ⟨c, rfl, hc, hp, hb⟩
  have HC := Lib.hid hc
  have HP := Lib.hid hp
  have HB := Lib.hid hb
  clear hc hp hb hcall
  go_wp2
  go_ret
  exact ⟨c, rfl, HC.out, HP.out, HB.out⟩

set_option maxHeartbeats 400000 in
theorem doug_any (thr : Nat) (w : World) :
    Calls Try.prog 18 #[.float .f64 thr] w fun e w' => e = .returned (.pointer (some ⟨w.heap.size, 0, none⟩)) ∧ w' = w.alloc (.cells #[.float .f64 thr] 59) := by
  go_enter Try.func18, Try.ntmps18
  go_wp2
  go_ret
  exact ⟨rfl, rfl⟩

theorem keptTo_len_le (ps : List (Nat × Nat)) (t : Nat) : (peuOut ps t).length ≤ ps.length := by
  unfold peuOut
  split
  · exact Nat.le_refl _
  · exact keptTo_le _ _ _

set_option maxHeartbeats 400000 in
/-- impl.Peucker on whole points. -/
theorem peucker_any {w : World} {v : Value} {ps : List (Nat × Nat)} (thr : Nat) (hv : IsPts w v ps) (h2 : 2 ≤ ps.length) (hn60 : ps.length ≤ 1000000)
    (hthr : IsFin thr) (ht : IsFin (fmul thr thr)) (ht0 : 0 ≤ val (fmul thr thr)) (hwh : ∀ p ∈ ps, ptB p = true) :
    Calls Try.prog 9 #[v, .float .f64 thr] w fun e w' => ∃ v', e = .returned v' ∧ w'.ownsRow w.heap.size 26 2 v' (peuOut ps (fmul thr thr)).length (pc (peuOut ps (fmul thr thr))) ∧ Below w.heap.size w w' := by
  obtain ⟨t, hte⟩ : ∃ t, t = fmul thr thr := ⟨_, rfl⟩
  rw [← hte]
  have HTE := Lib.hid hte
  clear hte
  have hb0 : Below w.heap.size w (w.alloc (.cells #[.float .f64 thr] 59)) := (Below.refl _ _).alloc (Nat.le_refl _) _
  have hv1 := hv.below hb0
  have hcall1 := points_any hv1 (by omega)
  have HB0 := Lib.hid hb0
  clear hb0 hv hv1
  go_enter Try.func9, Try.ntmps9
  go_wp2_with fail
  refine (doug_any thr w).mono ?_
  rintro e w0 ⟨rfl, rfl⟩
  go_wp2_with fail
  refine hcall1.mono ?_
  rintro e w1 ⟨v1, rfl, hown1, hb1⟩
  obtain ⟨ao, cap1, rfl, hf⟩ := owns_form hown1
  obtain ⟨g, rfl, hg, hg2, hc1, hc2⟩ := hf (by omega)
  have hth : w1.cell? ⟨w.heap.size, 0, none⟩ = some (.float .f64 thr) := by
    rw [hb1.cell (p := ⟨w.heap.size, 0, none⟩) (by simp)]; simp
  have hcall2 := lineM_any w.heap.size g cap1 ps.length _ ps thr w1 rfl h2 hn60 hth hown1 hthr ht ht0 hwh t HTE.out
  have HB1 := Lib.hid hb1
  clear hown1 hb1 hcall1 hf hth hc1 hc2 hg2
  go_wp2_with fail
  refine hcall2.mono ?_
  rintro e w2 ⟨c, rfl, hc, hp2, hb2⟩
  subst hc
  have hcall3 := list_any (w := w2) (v := .slice (some ⟨g, 0, none⟩) (peuOut ps t).length cap1) (ps := peuOut ps t) ⟨_, _, rfl, .inr ⟨g, 0, rfl, hp2⟩⟩ (by have := keptTo_len_le ps t; omega)
  have HB2 := Lib.hid hb2
  clear hb2 hp2 hcall2 h2 hn60 hwh hthr ht ht0
  go_wp2_with fail
  refine hcall3.mono ?_
  rintro e w3 ⟨v3, rfl, hown3, hb3⟩
  have hsz : w.heap.size ≤ w2.heap.size := by have h1 := HB0.out.size; have h2 := HB1.out.size; have h3 := HB2.out.size; omega
  have hown4 : w3.ownsRow w.heap.size 26 2 v3 (peuOut ps t).length (pc (peuOut ps t)) := ⟨hown3.1, by rcases hown3.2 with h | ⟨g, cap, cur, h1, h2, h3⟩; exact .inl h; exact .inr ⟨g, cap, cur, h1, by omega, h3⟩⟩
  have hall : Below w.heap.size w w3 := ((HB0.out.trans (HB1.out.mono HB0.out.size)).trans (HB2.out.mono (by simp))).trans (hb3.mono hsz)
  have H4 := Lib.hid hown4
  have HA := Lib.hid hall
  clear hown3 hb3 hown4 hall hcall3 hsz
  go_wp2
  go_ret
  exact ⟨v3, rfl, H4.out, HA.out⟩
end Go.Proofs.Ytoibohoelcdomaa
