/- The walks of laws.line, laws.decodes, laws.FnDecodeAgain. -/
import Derived.Test.YtjbjjphgnilhmaaGreatDoorDt
import Derived.Test.YtjbjjphgnilhmaaGreatDoorDu
import Derived.Test.YtjbjjphgnilhmaaGreatDoorDa
import Derived.Deep.RegionHeld3
set_option linter.unusedVariables false
set_option linter.unusedSimpArgs false
namespace Go.Proofs.YtjbjjphgnilhmaaGreatDoor
open Go.RowKit
variable {A : Addr → Prop}

theorem RowIs.weak {α : Type} {z : Prop} {size : Nat} {rel rel' : Knows → List Value → α → Prop} {E : TypeId} {H : Knows} {v : Value} {ls : List α} (hm : ∀ us a, rel H us a → rel' H us a) (h : RowIs z size rel E H v ls) : RowIs z size rel' E H v ls := by
  rcases h with h | ⟨g, cap, cur, uss, h1, h2, h3, h4, h5, h6, h7⟩
  · exact .inl h
  · exact .inr ⟨g, cap, cur, uss, h1, h2, h3, h4, h5, h6, fun i us a hu ha => hm us a (h7 i us a hu ha)⟩
theorem IsS.succ : ∀ {f : Nat} {H : Knows} {us : List Value} {s : Sh}, IsS f H us s → IsS (f + 1) H us s
  | 0, _, _, _, h => h.elim
  | f + 1, H, us, .mk k ls ps, h => by
    obtain ⟨vl, vp, h1, h2, h3⟩ := h
    exact ⟨vl, vp, h1, h2, h3.weak fun _ _ => IsS.succ⟩
theorem IsS.lift {f : Nat} (k : Nat) {H : Knows} {us : List Value} {s : Sh} (h : IsS f H us s) : IsS (f + k) H us s := by
  induction k with
  | zero => exact h
  | succ k ih => exact ih.succ
theorem IsS.le {f f' : Nat} {H : Knows} {us : List Value} {s : Sh} (h : IsS f H us s) (hf : f ≤ f') : IsS f' H us s := by
  have := h.lift (f' - f)
  rwa [show f + (f' - f) = f' by omega] at this

/-! ### laws.line -/

def linePts : List By.Pt := [(4607182418800017408, 4611686018427387904), (4613937818241073152, 4616189618054758400)]
def lineG : By.G := .ln linePts
theorem line_size : By.size lineG = 41 := by decide
theorem line_ok : By.Ok lineG := by simp only [lineG, linePts, By.Ok, By.OkL, By.OkP]; decide
theorem two_pts {K : Knows} {g : Nat} (h : K g (.cells #[.float .f64 4607182418800017408, .float .f64 4611686018427387904, .float .f64 4613937818241073152, .float .f64 4616189618054758400] 70 (0, 0))) : rowIs repPt 70 K (.slice (some ⟨g, 0, none⟩) 2 2) linePts := by
  refine .inr ⟨g, 2, _, linePts.map ptCells, rfl, Nat.le_refl _, h, rfl, rfl, fun us hu => ?_, fun i us a hu ha => ?_⟩
  · obtain ⟨p, _, rfl⟩ := List.mem_map.1 hu; rfl
  · rw [List.getElem?_map, ha] at hu
    show us = ptCells a
    simpa using hu.symm
set_option maxRecDepth 100000 in
theorem line_any (f : Nat) (w : World) : Calls Tryz.prog 13 #[] w fun e w' => ∃ us K, e = .returned (.agg us.toArray) ∧ IsS (f + 1) K us (shG lineG) ∧ Has w.heap.size K w' ∧ Below w.heap.size w w' := by
  go_enter Tryz.func13, Tryz.ntmps13
  go_wp2_with fail
  obtain ⟨W0, hW0⟩ : ∃ W, W = w.alloc (.cells #[.int .i64 2, .slice (some ⟨w.heap.size + 1 + 1, 0, none⟩) 1 1, .slice none 0 0] 26) := ⟨_, rfl⟩
  refine bodyPost_ret (v := .agg #[.int .i64 2, .slice (some ⟨w.heap.size + 1 + 1, 0, none⟩) 1 1, .slice none 0 0]) (by simp [results, Tryz.results13, go_sem]) rfl ?_
  have hs1 : W0.heap.size = w.heap.size + 1 := by rw [hW0]; simp
  have hb1 : Below w.heap.size w W0 := by rw [hW0]; exact (Below.refl _ _).alloc (Nat.le_refl _) _
  rw [← hW0]
  have q1 := heap_alloc2_old W0 (.cells #[.float .f64 4607182418800017408, .float .f64 4611686018427387904, .float .f64 4613937818241073152, .float .f64 4616189618054758400] 70) (.cells #[.slice (some ⟨w.heap.size + 1, 0, none⟩) 2 2] 52)
  have q2 := heap_alloc2_new W0 (.cells #[.float .f64 4607182418800017408, .float .f64 4611686018427387904, .float .f64 4613937818241073152, .float .f64 4616189618054758400] 70) (.cells #[.slice (some ⟨w.heap.size + 1, 0, none⟩) 2 2] 52)
  rw [hs1] at q1 q2
  exact ⟨[.int .i64 2, .slice (some ⟨w.heap.size + 1 + 1, 0, none⟩) 1 1, .slice none 0 0], fun b o => kn (w.heap.size + 1) (.cells #[.float .f64 4607182418800017408, .float .f64 4611686018427387904, .float .f64 4613937818241073152, .float .f64 4616189618054758400] 70) b o ∨ kn (w.heap.size + 1 + 1) (.cells #[.slice (some ⟨w.heap.size + 1, 0, none⟩) 2 2] 52) b o, rfl,
    ln_shape (k := 2) (.inr ⟨rfl, rfl⟩) (two_pts (.inl ⟨rfl, rfl⟩)), (has_kn q1 (by omega)).or (has_kn q2 (by omega)), (hb1.alloc hb1.size _).alloc (by simp; omega) _⟩

/-! ### laws.decodes -/

set_option maxRecDepth 100000 in
set_option maxHeartbeats 1000000 in
theorem decodes_law (w : World) (he : EK A w) : Calls Tryz.prog 6 #[] w fun e w' => e = .returned (.bool true) ∧ Below w.heap.size w w' := by
  have hcall := line_any 0 w
  have HE := Lib.hid he
  clear he
  go_enter Tryz.func6, Tryz.ntmps6
  go_wp2_with fail
  refine hcall.mono ?_
  rintro e w1 ⟨us, K, rfl, hI, hK, hb⟩
  have hcall2 := encode_any _ _ lineG K w.heap.size true w1 hI hK line_ok (by rw [line_size]; decide)
  rw [line_size] at hcall2
  obtain ⟨k, ao, n, cap, bo', m, d, rfl⟩ := hI.form
  have H1 := Lib.hid hb
  clear hcall hI hK hb
  go_wp2_with fail
  refine hcall2.mono ?_
  rintro e w2 ⟨db, cap2, rfl, hc2, _, hby, hb2⟩
  have hcall3 := dc_any db 0 41 cap2 (By.enc (!true) lineG) w2 ((HE.out.below H1.out).below (hb2.mono (Nat.le_refl _))) (by rw [By.enc_length, line_size]) hc2 (by omega) hby
  rw [By.unm_enc _ _ line_ok] at hcall3
  have H2 := Lib.hid (H1.out.trans (hb2.mono H1.out.size))
  clear hcall2 hby hb2
  go_wp2_with fail
  refine hcall3.mono ?_
  rintro e w3 ⟨us3, K3, rfl, hI3, hK3, hb3⟩
  obtain ⟨k3, ao3, n3, cap3, bo3, m3, d3, rfl⟩ := hI3.form
  have b3 : Below w.heap.size w w3 := H2.out.trans (hb3.mono H2.out.size)
  obtain ⟨W4, hW4⟩ : ∃ W, W = (w3.alloc (.cells #[.int .i64 k3, .slice ao3 n3 cap3, .slice bo3 m3 d3] 26)).alloc (.cells #[.int .u8 7] 5) := ⟨_, rfl⟩
  have b4 : Below w3.heap.size w3 W4 := by rw [hW4]; exact ((Below.refl _ _).alloc (Nat.le_refl _) _).alloc (by simp) _
  have r4 : Blk W4 w3.heap.size #[.int .i64 k3, .slice ao3 n3 cap3, .slice bo3 m3 d3] 26 := by rw [hW4]; exact (Blk.new w3 _ _).alloc _
  have s4 : Blk W4 (w3.heap.size + 1) #[.int .u8 7] 5 := by
    have := Blk.new (w3.alloc (.cells #[.int .i64 k3, .slice ao3 n3 cap3, .slice bo3 m3 d3] 26)) #[.int .u8 7] 5
    rw [World.size_alloc] at this
    rw [hW4]; exact this
  have hy4 : BytesAt W4 (w3.heap.size + 1) 0 [7] := fun i x hi => by
    match i, hi with
    | 0, hi =>
      simp only [List.getElem?_cons_zero, Option.some.injEq] at hi
      subst hi
      exact (s4.cell (i := 0) (v := .int .u8 7) rfl).1
  have hcall4 := dc_any (w3.heap.size + 1) 0 1 1 [7] W4 ((HE.out.below b3).below b4) rfl (Nat.le_refl _) (by omega) hy4
  rw [show By.unm [7] = none from rfl] at hcall4
  have H4 := Lib.hid (⟨b3.trans (b4.mono b3.size), r4, hI3, hK3.below b4⟩ : Below w.heap.size w W4 ∧ _ ∧ _ ∧ _)
  have HW4 := Lib.hid hW4
  clear hcall3 hI3 hK3 hb3 b3 hW4 b4 r4 s4 hy4
  go_wp2_with fail
  try rw [← HW4.out]
  refine hcall4.mono ?_
  rintro e w5 ⟨us5, rfl, rfl, hb5⟩
  obtain ⟨W6, hW6⟩ : ∃ W, W = w5.alloc (.cells #[.int .i64 0, .slice none 0 0, .slice none 0 0] 26) := ⟨_, rfl⟩
  have b6 : Below w5.heap.size w5 W6 := by rw [hW6]; exact (Below.refl _ _).alloc (Nat.le_refl _) _
  have b56 : Below W4.heap.size W4 W6 := hb5.trans (b6.mono hb5.size)
  have r6 := H4.out.2.1.below b56 H4.out.2.1.lt
  obtain ⟨c0, _⟩ := r6.cell (i := 0) (v := .int .i64 k3) rfl
  obtain ⟨c1, _⟩ := r6.cell (i := 1) (v := .slice ao3 n3 cap3) rfl
  obtain ⟨c2, _⟩ := r6.cell (i := 2) (v := .slice bo3 m3 d3) rfl
  have H6 := Lib.hid (⟨H4.out.1.trans (b56.mono H4.out.1.size), H4.out.2.2.1, H4.out.2.2.2.below b56⟩ : Below w.heap.size w W6 ∧ _ ∧ Has _ K3 W6)
  have HL := Lib.hid (fun W => line_any ((By.enc (!true) lineG).length + 1) W)
  have HW6 := Lib.hid hW6
  have HS := Lib.hid (fun (W : World) (us : List Value) (K : Knows) (lo : Nat) (hb : Below W6.heap.size W6 W) (hI : IsS ((By.enc (!true) lineG).length + 1 + 1) K us (shG lineG)) (hK : Has lo K W) => same_any _ _ us lineG K3 K _ lo W H6.out.2.1 (H6.out.2.2.below hb) hI hK (by rw [line_size]; decide))
  clear hcall4 hb5 hW6 b6 b56 r6 HW4
  go_wp2_with fail
  rw [← HW6.out]
  go_region_held3 (fun w' => w'.cell? ⟨w3.heap.size, 0, none⟩ = some (.int .i64 k3) ∧ w'.cell? ⟨w3.heap.size, 1, none⟩ = some (.slice ao3 n3 cap3) ∧ w'.cell? ⟨w3.heap.size, 2, none⟩ = some (.slice bo3 m3 d3))
    (first | exact ⟨cell_later hb8 (cell_later hb7 c0), cell_later hb8 (cell_later hb7 c1), cell_later hb8 (cell_later hb7 c2)⟩ | exact ⟨cell_later hb7 c0, cell_later hb7 c1, cell_later hb7 c2⟩ | exact ⟨c0, c1, c2⟩ | fail)
    ((first
      | (have hh := HK7.out; go_at_call 8; refine (HS.out _ _ _ _ hb7 hh.1 hh.2).mono ?_; rintro e w8 ⟨rfl, hb8⟩)
      | (go_at_call 13; refine (HL.out _).mono ?_; rintro e w7 ⟨us7, K7, rfl, hI7, hK7, hb7'⟩; have hb7 := below_drew_un hb7'; have HK7 := Lib.hid (⟨hI7, hK7⟩ : _ ∧ _); obtain ⟨k7, ao7, n7, cap7, bo7, m7, d7, hy7⟩ := hI7.form; subst hy7; clear hb7' hI7 hK7)))
  all_goals
    have HF := Lib.hid (H6.out.1.trans ((hb7.trans (hb8.mono hb7.size)).mono H6.out.1.size))
    clear hb7 hb8 c0 c1 c2
    go_wp2_with fail
    go_ret
    exact ⟨rfl, HF.out⟩

/-! ### laws.FnDecodeAgain -/

set_option maxRecDepth 100000 in
set_option maxHeartbeats 1000000 in
theorem again_law (ao : Option Addr) (n c F : Nat) (o : Option By.G) (big : Bool) (w : World) (he : EK A w) (hn : n ≤ 9223372036854775807) (hdec : n ≤ 2147483647 → Calls Tryz.prog 5 #[.slice ao n c] w (GaveD F o w)) (ho : n ≤ 2147483647 → ∀ g, o = some g → By.Ok g ∧ By.size g ≤ 2147483647) :
    Calls Tryz.prog 3 #[.slice ao n c, .bool big] w fun e w' => e = .returned (.bool true) ∧ Below w.heap.size w w' := by
  by_cases h31 : n ≤ 2147483647
  · have hcall := hdec h31
    have hO := ho h31
    have hgt : decide ((2147483647 : Int) < n) = false := decide_eq_false (by omega)
    have HE := Lib.hid he
    have HO := Lib.hid hO
    clear he hdec ho hO hn
    go_enter Tryz.func3, Tryz.ntmps3
    go_wp2_with fail
    refine hcall.mono ?_
    intro e w1 hg
    clear hcall
    rcases o with _ | g
    · obtain ⟨us, rfl, rfl, hb⟩ := hg
      obtain ⟨W1, hW1⟩ : ∃ W, W = w1.alloc (.cells #[.int .i64 0, .slice none 0 0, .slice none 0 0] 26) := ⟨_, rfl⟩
      have b1 : Below w.heap.size w W1 := by rw [hW1]; exact hb.alloc hb.size _
      have hcall2 := decodes_law W1 (HE.out.below b1)
      have HB := Lib.hid b1
      have HW1 := Lib.hid hW1
      clear hb b1 hW1
      go_wp2_with fail
      rw [← HW1.out]
      refine hcall2.mono ?_
      rintro e w2 ⟨rfl, hb2⟩
      have H2 := Lib.hid (HB.out.trans (hb2.mono HB.out.size))
      clear hcall2 hb2
      go_wp2_with fail
      go_ret
      exact ⟨rfl, H2.out⟩
    · obtain ⟨us, K, rfl, hI, hK, hb⟩ := hg
      obtain ⟨hok, hsz⟩ := HO.out g rfl
      obtain ⟨k, ao1, n1, cap1, bo1, m1, d1, rfl⟩ := hI.form
      obtain ⟨W1, hW1⟩ : ∃ W, W = w1.alloc (.cells #[.int .i64 k, .slice ao1 n1 cap1, .slice bo1 m1 d1] 26) := ⟨_, rfl⟩
      have b1 : Below w1.heap.size w1 W1 := by rw [hW1]; exact (Below.refl _ _).alloc (Nat.le_refl _) _
      have r1 : Blk W1 w1.heap.size #[.int .i64 k, .slice ao1 n1 cap1, .slice bo1 m1 d1] 26 := by rw [hW1]; exact Blk.new w1 _ _
      have hcall2 := encode_any _ _ g K w.heap.size big W1 hI (hK.below b1) hok hsz
      have H1 := Lib.hid (⟨hb.trans (b1.mono hb.size), r1, hI, hK.below b1⟩ : Below w.heap.size w W1 ∧ _ ∧ _ ∧ _)
      have HW1 := Lib.hid hW1
      have HG := Lib.hid (⟨hok, hsz⟩ : _ ∧ _)
      obtain ⟨T, hT⟩ : ∃ T, T = By.size g := ⟨_, rfl⟩
      rw [← hT] at hcall2
      have HT := Lib.hid hT
      clear hb b1 r1 hW1 hI hK hok hsz hT
      go_wp2_with fail
      rw [← HW1.out]
      refine hcall2.mono ?_
      rintro e w2 ⟨db, cap2, rfl, hc2, _, hby, hb2⟩
      have hTs : T ≤ 2147483647 := by rw [HT.out]; exact HG.out.2
      have hcall3 := dc_any db 0 T cap2 (By.enc (!big) g) w2 ((HE.out.below H1.out.1).below (hb2.mono (Nat.le_refl _))) (by rw [By.enc_length, HT.out]) hc2 hTs hby
      rw [By.unm_enc _ _ HG.out.1] at hcall3
      have H2 := Lib.hid (⟨H1.out.1.trans (hb2.mono H1.out.1.size), H1.out.2.1.below hb2 H1.out.2.1.lt, H1.out.2.2.1, H1.out.2.2.2.below hb2⟩ : Below w.heap.size w w2 ∧ _ ∧ _ ∧ _)
      clear hcall2 hby hb2 HW1 hTs
      go_wp2_with fail
      refine hcall3.mono ?_
      rintro e w3 ⟨us3, K3, rfl, hI3, hK3, hb3⟩
      obtain ⟨k3, ao3, n3, cap3, bo3, m3, d3, rfl⟩ := hI3.form
      obtain ⟨W4, hW4⟩ : ∃ W, W = w3.alloc (.cells #[.int .i64 k3, .slice ao3 n3 cap3, .slice bo3 m3 d3] 26) := ⟨_, rfl⟩
      have b4 : Below w3.heap.size w3 W4 := by rw [hW4]; exact (Below.refl _ _).alloc (Nat.le_refl _) _
      have r4 : Blk W4 w3.heap.size #[.int .i64 k3, .slice ao3 n3 cap3, .slice bo3 m3 d3] 26 := by rw [hW4]; exact Blk.new w3 _ _
      have b34 := hb3.trans (b4.mono hb3.size)
      have r5 := H2.out.2.1.below b34 H2.out.2.1.lt
      obtain ⟨c0, _⟩ := r4.cell (i := 0) (v := .int .i64 k3) rfl
      obtain ⟨c1, _⟩ := r4.cell (i := 1) (v := .slice ao3 n3 cap3) rfl
      obtain ⟨c2, _⟩ := r4.cell (i := 2) (v := .slice bo3 m3 d3) rfl
      obtain ⟨e0, _⟩ := r5.cell (i := 0) (v := .int .i64 k) rfl
      obtain ⟨e1, _⟩ := r5.cell (i := 1) (v := .slice ao1 n1 cap1) rfl
      obtain ⟨e2, _⟩ := r5.cell (i := 2) (v := .slice bo1 m1 d1) rfl
      have bw : Below w.heap.size w W4 := H2.out.1.trans (b34.mono H2.out.1.size)
      have hcall4 := decodes_law W4 (HE.out.below bw)
      have HS := Lib.hid (fun (W : World) (hb : Below W4.heap.size W4 W) => same_any (F + 1 + ((By.enc (!big) g).length + 1 + 1)) _ _ g K3 K _ _ W (hI3.le (by omega)) ((hK3.below b4).below hb) (H2.out.2.2.1.le (by omega)) ((H2.out.2.2.2.below b34).below hb) HG.out.2)
      have HF := Lib.hid bw
      have HW4 := Lib.hid hW4
      clear hcall3 hI3 hK3 hb3 b4 r4 r5 b34 bw hW4
      go_wp2_with fail
      rw [← HW4.out]
      refine hcall4.mono ?_
      rintro e w7 ⟨rfl, hb7⟩
      have p0 := cell_later hb7 c0
      have p1 := cell_later hb7 c1
      have p2 := cell_later hb7 c2
      have q0 := cell_later hb7 e0
      have q1 := cell_later hb7 e1
      have q2 := cell_later hb7 e2
      have hcall5 := HS.out w7 hb7
      have H7 := Lib.hid (HF.out.trans (hb7.mono HF.out.size))
      clear hcall4 hb7 c0 c1 c2 e0 e1 e2
      go_wp2_with fail
      refine hcall5.mono ?_
      rintro e w8 ⟨rfl, hb8⟩
      have HZ := Lib.hid (H7.out.trans (hb8.mono H7.out.size))
      clear hb8 hcall5
      go_wp2_with fail
      go_ret
      exact ⟨rfl, HZ.out⟩
  · have hgt : decide ((2147483647 : Int) < n) = true := decide_eq_true (by omega)
    clear he hdec ho
    go_enter Tryz.func3, Tryz.ntmps3
    go_wp2_with fail
    go_ret
    exact ⟨rfl, Below.refl _ _⟩
/-- The law, of any bytes. -/
theorem again_bytes (b off n c : Nat) (l : By.Bs) (big : Bool) (w : World) (he : EK A w) (hl : l.length = n) (hc : n ≤ c) (hn : n ≤ 9223372036854775807) (hx : BytesAt w b off l) :
    Calls Tryz.prog 3 #[.slice (some ⟨b, off, none⟩) n c, .bool big] w fun e w' => e = .returned (.bool true) ∧ Below w.heap.size w w' :=
  again_law _ n c (l.length + 1) (By.unm l) big w he hn (fun h31 => dc_any b off n c l w he hl hc h31 hx) (fun h31 g hg => by have := By.unm_fits l g hg; exact ⟨this.1, by omega⟩)
theorem again_nil (ao : Option Addr) (c : Nat) (big : Bool) (w : World) (he : EK A w) :
    Calls Tryz.prog 3 #[.slice ao 0 c, .bool big] w fun e w' => e = .returned (.bool true) ∧ Below w.heap.size w w' :=
  again_law ao 0 c 0 none big w he (by omega) (fun _ => dc_nil ao c w he) (fun _ g hg => by cases hg)
end Go.Proofs.YtjbjjphgnilhmaaGreatDoor
