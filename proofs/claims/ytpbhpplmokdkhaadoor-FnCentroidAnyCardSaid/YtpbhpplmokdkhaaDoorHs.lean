/- The walks of impl.RingHas and of laws.measures. -/
import Derived.Test.YtpbhpplmokdkhaaDoorHsP
import Derived.Test.YtpbhpplmokdkhaaDoorRg2
namespace Go.Proofs.YtpbhpplmokdkhaaDoor
open Go.RowKit Fl

set_option maxRecDepth 100000 in
set_option maxHeartbeats 1000000 in
theorem ringHas_any {w : World} {v : Value} {ps : List (Nat × Nat)} (n : Nat) (X Y : Nat → Int) (p : Nat × Nat) (px py : Int) (hv : IsPts w v ps) (hn : ps.length = n) (h1 : 1 ≤ n) (hn200 : n ≤ 200) (hd : DatM ps X Y) (hc : X (n - 1) = X 0 ∧ Y (n - 1) = Y 0)
    (hp : IsP p px py) (mp : Rg.Mid px ∧ Rg.Mid py) (bp : p.1 < 18446744073709551616) :
    Calls Tryd.prog 16 #[v, .agg #[.float .f64 p.1, .float .f64 p.2]] w
      fun e w' => e = .returned (.bool (ringB px py X Y n)) ∧ Below w.heap.size w w' := by
  subst hn
  have H1 := Lib.hid (fun W (h : Below w.heap.size w W) => points_any (hv.below h) (by omega))
  have H2 := Lib.hid (fun g cap w' (h : PtsAt w' g 0 ps) => (rc_any ps.length cap g 0 ps X Y p px py w' rfl h1 hn200 h hd hp mp bp).mono (R' := fun e w'' => e = .returned (.bool (ringB px py X Y ps.length)) ∧ Below w'.heap.size w' w'') (fun _ _ ⟨c, h2, h3, h4⟩ => ⟨by rw [h2, rc_closed h1 hc h3], h4⟩))
  have HN := Lib.hid h1
  obtain ⟨r, hr⟩ : ∃ r, r = ringB px py X Y ps.length := ⟨_, rfl⟩
  rw [← hr] at H2 ⊢
  obtain ⟨W0, hW0⟩ : ∃ W0, W0 = w.alloc (.cells #[.float .f64 p.1, .float .f64 p.2] 31) := ⟨_, rfl⟩
  have L0 : Below w.heap.size w W0 := by rw [hW0]; exact (Below.refl _ _).alloc (Nat.le_refl _) _
  have P0 : Blk W0 w.heap.size #[.float .f64 p.1, .float .f64 p.2] 31 := by rw [hW0]; exact heap_alloc_new w _
  have S0 : w.heap.size < W0.heap.size := by rw [hW0]; simp
  obtain ⟨⟨p0, p1⟩, _, _⟩ := cells2 P0
  clear hd hv h1 hn200 hp mp bp hc hr
  go_enter Tryd.func16, Tryd.ntmps16
  go_wp2_with fail
  rw [← hW0]
  have HW0 := Lib.hid hW0
  clear hW0
  go_region_held3 (fun w' => w'.cell? ⟨w.heap.size, 0, none⟩ = some (.float .f64 p.1) ∧ w'.cell? ⟨w.heap.size, 1, none⟩ = some (.float .f64 p.2)) (first | exact ⟨p0, p1⟩ | exact ⟨cell_later hb1 p0, cell_later hb1 p1⟩ | exact ⟨cell_later hb2 (cell_later hb1 p0), cell_later hb2 (cell_later hb1 p1)⟩ | go_keep) ((first
    | (go_simp; go_at_call 40; refine (H1.out _ L0.drew).mono ?_; rintro e w1 ⟨v1, rfl, hown1, hb1⟩; obtain ⟨g, cap, rfl, hg, hgl, hnp, hps1⟩ := owns_pts hown1 HN.out)
    | (go_simp; go_at_call 42; refine (H2.out g cap _ hps1).mono ?_; rintro e w2 ⟨rfl, hb2⟩)))
  have hb01 : Below w.heap.size W0.drew w1 := hb1.mono (Nat.le_of_lt S0)
  have HB2 := Lib.hid ((L0.drew.trans hb01).trans (hb2.mono (L0.drew.trans hb01).size))
  clear hb01 hb1 hb2 hown1 hps1 hg hgl H1 H2 p0 p1 P0 S0
  go_wp2
  go_ret
  exact ⟨rfl, HB2.out⟩

/-! The square. -/
def sq : List (Nat × Nat) := [(0, 0), (4616189618054758400, 0), (4616189618054758400, 4616189618054758400), (0, 4616189618054758400), (0, 0)]
def sqX (i : Nat) : Int := if i = 1 ∨ i = 2 then 4 else 0
def sqY (i : Nat) : Int := if i = 2 ∨ i = 3 then 4 else 0
theorem isI_lit4 : IsI 4616189618054758400 4 := isI_nearest 4 (by decide)
theorem isI_lit5 : IsI 4617315517961601024 5 := isI_nearest 5 (by decide)
theorem isI_lit16 : IsI 4625196817309499392 16 := isI_nearest 16 (by decide)
theorem sq_dat : DatM sq sqX sqY := by
  intro i p hp
  unfold sq at hp
  match i, hp with
  | 0, hp => simp at hp; subst hp; exact ⟨⟨isI_lit0, isI_lit0⟩, by unfold Rg.Mid sqX; decide, by unfold Rg.Mid sqY; decide⟩
  | 1, hp => simp at hp; subst hp; exact ⟨⟨isI_lit4, isI_lit0⟩, by unfold Rg.Mid sqX; decide, by unfold Rg.Mid sqY; decide⟩
  | 2, hp => simp at hp; subst hp; exact ⟨⟨isI_lit4, isI_lit4⟩, by unfold Rg.Mid sqX; decide, by unfold Rg.Mid sqY; decide⟩
  | 3, hp => simp at hp; subst hp; exact ⟨⟨isI_lit0, isI_lit4⟩, by unfold Rg.Mid sqX; decide, by unfold Rg.Mid sqY; decide⟩
  | 4, hp => simp at hp; subst hp; exact ⟨⟨isI_lit0, isI_lit0⟩, by unfold Rg.Mid sqX; decide, by unfold Rg.Mid sqY; decide⟩
theorem sq_in : ringB 4 1 sqX sqY 5 = true := by decide
theorem sq_out : ringB 5 1 sqX sqY 5 = false := by decide
theorem sq_area : Rg.TN sqX sqY (5 - 2) = 32 := by decide
theorem sq_test {r : Nat} (hf : IsFin r) (hv : val r = (Rg.TN sqX sqY (5 - 2) : Rat) * p2 (-1)) : (FloatKind.f64.format.order r 4625196817309499392 == some .eq) = true := by
  show (Ieee.double.order r 4625196817309499392 == some .eq) = true
  rw [eq_iff hf isI_lit16.1, hv, sq_area, isI_lit16.2]
  have e2 : (2 : Rat) * p2 (-1) = 1 := by
    have := p2_val 1
    have e : ((2 ^ 1 : Nat) : Rat) = 2 := rfl
    have e' : p2 (-((1 : Nat) : Int)) = p2 (-1) := rfl
    rw [e, e'] at this; grind
  have e32 : ((32 : Int) : Rat) = 32 := rfl
  have e16 : ((16 : Int) : Rat) = 16 := rfl
  rw [e32, e16]
  exact decide_eq_true (by grind)
end Go.Proofs.YtpbhpplmokdkhaaDoor
