/- The walks of Resample and of impl.Resampled. -/
import Derived.Test.YtoibohoelcdomaaRe3
namespace Go.Proofs.Ytoibohoelcdomaa
open Go.RowKit Fl

theorem sn_zero {X Y : Nat → Int} {n : Nat} (h : ∀ i, i < n → X i = X 0 ∧ Y i = Y 0) : ∀ k, k < n → Re.SN X Y k = 0 := by
  intro k
  induction k with
  | zero => intro _; rfl
  | succ k ih =>
    intro hk
    have h1 := ih (by omega)
    have h2 := h k (by omega)
    have h3 := h (k + 1) hk
    simp only [Re.SN, Re.dN]
    omega
theorem owns_wider {w : World} {b b' : Nat} {E : TypeId} {size : Nat} {v : Value} {n : Nat} {xs : List Value} (h : w.ownsRow b' E size v n xs) (hb : b ≤ b') : w.ownsRow b E size v n xs :=
  ⟨h.1, by rcases h.2 with h | ⟨g, cap, cur, h1, h2, h3⟩; exact .inl h; exact .inr ⟨g, cap, cur, h1, by omega, h3⟩⟩

set_option maxHeartbeats 1000000 in
theorem top_any (g n cap parts : Nat) (ps : List (Nat × Nat)) (X Y : Nat → Int) (w : World) (hn : ps.length = n) (h2 : 2 ≤ n) (hn60 : n ≤ 40) (hps : PtsAt w g 0 ps) (hd : Dat ps X Y)
    (hax : ∀ i, i + 1 < n → X (i + 1) = X i ∨ Y (i + 1) = Y i) (hS : 1 ≤ Re.SN X Y (n - 1)) (hp1 : 1 ≤ parts) (hp2 : parts ≤ 100) :
    Calls Try.prog 13 #[.slice (some ⟨g, 0, none⟩) n cap, .func (.func 15) #[] #[], .int .i64 ((parts : Int) + 1)] w
      fun e w' => ∃ T v outs pl, e = .returned v ∧ IsI T (Re.SN X Y (n - 1) : Int) ∧ T < 18446744073709551616 ∧ ps[n - 1]? = some pl ∧ w'.ownsRow w.heap.size 50 2 v (parts + 1) (pc (outs.set parts pl)) ∧ outs.length = parts + 1 ∧ Outs ps X Y T parts outs ∧ Below w.heap.size w w' := by
  have hcall1 := edge_any g n cap (parts + 1) ps X Y w hn h2 (by omega) hps hd (by
    intro h
    have := sn_zero h (n - 1) (by omega)
    omega)
  rw [show ((parts + 1 : Nat) : Int) = (parts : Int) + 1 by omega] at hcall1
  have hcall2 := fun w' (hb : Below w.heap.size w w') => pre_any g n cap ps X Y w' hn h2 (by omega) (hps.below hb) hd hax
  have hcall3 := fun w' gd T (hb : Below w.heap.size w w') (hdis : DisAt w' gd X Y (n - 1)) (hT : IsI T (Re.SN X Y (n - 1) : Int)) (bT : T < 18446744073709551616) => resample_any g n cap gd parts T ps X Y w' hn h2 hn60 (hps.below hb) hd hdis hT bT hS hp1 hp2
  have hpar0 : (0 : Int) < (parts : Int) + 1 := by omega
  have hp2i : (parts : Int) ≤ 100 := by omega
  have H2 := Lib.hid hcall2
  have H3 := Lib.hid hcall3
  clear hcall2 hcall3 hps hd hax hS hn h2 hn60 hp1 hp2
  go_enter Try.func13, Try.ntmps13
  go_wp2_with fail
  refine hcall1.mono ?_
  rintro e w1 ⟨rfl, hb1⟩
  have HB1 := Lib.hid hb1
  have hc2 := H2.out w1 hb1
  clear hb1 hcall1
  go_wp2_with fail
  refine hc2.mono ?_
  rintro e w2 ⟨T, gd, rfl, hT, bT, hdis, hb2⟩
  have hb12 := HB1.out.trans (hb2.mono HB1.out.size)
  have hc3 := H3.out w2 gd T hb12 hdis hT bT
  have HT := Lib.hid (And.intro hT bT)
  have HB2 := Lib.hid hb12
  clear hb2 hb12 hc2 hT bT hdis
  go_wp2_with fail
  refine hc3.mono ?_
  rintro e w3 ⟨v, outs, pl, rfl, hpl, hown, hlen, hout, hb3⟩
  have hall := HB2.out.trans (hb3.mono HB2.out.size)
  have hfin := Lib.hid (And.intro hpl (And.intro (owns_wider hown HB2.out.size) (And.intro hlen (And.intro hout hall))))
  clear hpl hown hlen hout hb3 hall hc3
  go_wp2
  go_ret
  exact ⟨T, v, outs, pl, rfl, HT.out.1, HT.out.2, hfin.out.1, hfin.out.2.1, hfin.out.2.2.1, hfin.out.2.2.2.1, hfin.out.2.2.2.2⟩

set_option maxHeartbeats 1000000 in
/-- impl.Resampled on a line of whole points along the axes. -/
theorem resampled_any {w : World} {v : Value} {ps : List (Nat × Nat)} (n parts : Nat) (X Y : Nat → Int) (hv : IsPts w v ps) (hn : ps.length = n) (h2 : 2 ≤ n) (hn60 : n ≤ 40) (hd : Dat ps X Y)
    (hax : ∀ i, i + 1 < n → X (i + 1) = X i ∨ Y (i + 1) = Y i) (hS : 1 ≤ Re.SN X Y (n - 1)) (hp1 : 1 ≤ parts) (hp2 : parts ≤ 100) :
    Calls Try.prog 5 #[v, .int .i64 ((parts : Int) + 1)] w
      fun e w' => ∃ T v' outs pl, e = .returned v' ∧ IsI T (Re.SN X Y (n - 1) : Int) ∧ T < 18446744073709551616 ∧ ps[n - 1]? = some pl ∧ w'.ownsRow w.heap.size 26 2 v' (parts + 1) (pc (outs.set parts pl)) ∧ outs.length = parts + 1 ∧ Outs ps X Y T parts outs ∧ Below w.heap.size w w' := by
  have hcall1 := points_any hv (by omega)
  have H2 := Lib.hid (fun g cap w' (h : PtsAt w' g 0 ps) => top_any g n cap parts ps X Y w' hn h2 hn60 h hd hax hS hp1 hp2)
  have HN := Lib.hid (And.intro hn (And.intro h2 hp2))
  clear hd hax hS hp1 hp2 hv hn h2 hn60
  go_enter Try.func5, Try.ntmps5
  go_wp2_with fail
  refine hcall1.mono ?_
  rintro e w1 ⟨v1, rfl, hown1, hb1⟩
  have hnn := HN.out.1
  have hp1 := (pts_of_owns hown1).2
  obtain ⟨ao, cap1, hv1, hf⟩ := owns_form hown1
  obtain ⟨g, hao, hg, hg2, hc1, hc2⟩ := hf (by have := HN.out.2.1; omega)
  subst hao
  subst hv1
  have hpg : PtsAt w1 g 0 ps := by
    obtain ⟨ao, cap, hv, h⟩ := hp1
    rcases h with rfl | ⟨b, off, h1, h⟩
    · intro i p hp; simp at hp
    · simp only [Value.slice.injEq] at hv
      rw [← hv.1] at h1
      simp only [Option.some.injEq, Addr.mk.injEq] at h1
      obtain ⟨rfl, rfl, _⟩ := h1
      exact h
  have hcall2 := H2.out g cap1 w1 hpg
  rw [hnn]
  have HB1 := Lib.hid hb1
  have HNN := Lib.hid hnn
  clear hown1 hb1 hcall1 hf hc1 hc2 hg2 hpg hp1 hg hnn
  go_wp2_with fail
  refine hcall2.mono ?_
  rintro e w2 ⟨T, v2, outs, pl, rfl, hT, bT, hpl, hown2, hlen, hout, hb2⟩
  have hp2 := (pts_of_owns hown2).2
  have hl2 : (outs.set parts pl).length = parts + 1 := by rw [List.length_set, hlen]
  have hcall3 := list_any hp2 (by have := HN.out.2.2; omega)
  rw [hl2] at hcall3
  have hb12 := HB1.out.trans (hb2.mono HB1.out.size)
  have HB2 := Lib.hid hb12
  have HF := Lib.hid (And.intro hT (And.intro bT (And.intro hpl (And.intro hlen hout))))
  clear hT bT hpl hlen hout hown2 hb2 hb12 hp2 hl2 hcall2
  go_wp2_with fail
  refine hcall3.mono ?_
  rintro e w3 ⟨v3, rfl, hown3, hb3⟩
  have hall := HB2.out.trans (hb3.mono HB2.out.size)
  have HW := Lib.hid (And.intro (owns_wider hown3 HB2.out.size) hall)
  clear hown3 hb3 hall hcall3
  go_wp2
  go_ret
  exact ⟨T, v3, outs, pl, rfl, HF.out.1, HF.out.2.1, HF.out.2.2.1, HW.out.1, HF.out.2.2.2.1, HF.out.2.2.2.2, HW.out.2⟩
end Go.Proofs.Ytoibohoelcdomaa
