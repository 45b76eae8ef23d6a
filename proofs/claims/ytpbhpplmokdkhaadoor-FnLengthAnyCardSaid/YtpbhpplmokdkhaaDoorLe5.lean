/- The walks of planar.Length and impl.Length. -/
import Derived.Test.YtpbhpplmokdkhaaDoorLe4
set_option linter.unusedVariables false
namespace Go.Proofs.YtpbhpplmokdkhaaDoor
open Go.RowKit Go.WideShapes Fl


theorem planar_len {x : Value} {r : Nat} {w : World} (h : Calls Tryd.prog 80 #[x, .func (.func 81) #[] #[]] w fun e w' => e = .returned (.float .f64 r) ∧ Below w.heap.size w w') :
    Calls Tryd.prog 58 #[x] w fun e w' => e = .returned (.float .f64 r) ∧ Below w.heap.size w w' := by
  have hcall := h
  clear h
  go_enter Tryd.func58, Tryd.ntmps58
  go_wp2_with fail
  refine hcall.mono ?_
  rintro e w1 ⟨rfl, hb1⟩
  have HB1 := Lib.hid hb1
  clear hb1 hcall
  go_wp2
  go_ret
  exact ⟨rfl, HB1.out⟩


set_option maxRecDepth 100000 in
theorem len_line (g m cap : Nat) (v : Value) (ps : List (Nat × Nat)) (X Y : Nat → Int) (w : World) (hm : 1 ≤ m) (hv : w.cell? ⟨g, 0, none⟩ = some v) (hp : IsPts w v ps) (h100 : ps.length ≤ 100) (hd : DatW ps X Y) :
    Calls Tryd.prog 32 #[.agg #[.int .i64 2, .slice (some ⟨g, 0, none⟩) m cap, .slice none 0 0]] w fun e w' => e = .returned (.float .f64 (Le.ln (Le.At ps) (ps.length - 1))) ∧ Below w.heap.size w w' := by
  have L0 := (Below.refl w.heap.size w).alloc (Nat.le_refl _) (.cells #[.int .i64 2, .slice (some ⟨g, 0, none⟩) m cap, .slice none 0 0] 50)
  have H1 := Lib.hid (fun W (h : Below w.heap.size w W) => geom_line g m cap v (.slice none 0 0) ps W hm (cell_later h hv) (hp.below h) (by omega))
  have HL0 := Lib.hid L0
  obtain ⟨R, hR⟩ : ∃ R, R = Le.ln (Le.At ps) (ps.length - 1) := ⟨_, rfl⟩
  rw [← hR]
  have HRR := Lib.hid hR
  clear L0 hR hv hp hm
  go_enter Tryd.func32, Tryd.ntmps32
  go_wp2_with fail
  refine (H1.out _ HL0.out).mono ?_
  rintro e w1 ⟨u, rfl, hu, hb1⟩
  have H3 := planar_len (ls_len hu h100 hd)
  clear hu h100 hd
  rw [← HRR.out] at H3
  have HB1 := Lib.hid (HL0.out.trans (hb1.mono HL0.out.size))
  clear hb1 H1 HL0
  go_wp2_with fail
  refine H3.mono ?_
  rintro e w2 ⟨rfl, hb2⟩
  have HB2 := Lib.hid (HB1.out.trans (hb2.mono HB1.out.size))
  clear hb2 H3
  go_wp2
  go_ret
  exact ⟨rfl, HB2.out⟩


set_option maxRecDepth 100000 in
theorem len_poly (g n cap : Nat) (vs : List Value) (pss : List (List (Nat × Nat))) (w : World) (hn : vs.length = n) (h1 : 1 ≤ n) (h100 : n ≤ 100) (hl : Lists w g vs pss) (hok : LensOk pss) :
    Calls Tryd.prog 32 #[.agg #[.int .i64 3, .slice (some ⟨g, 0, none⟩) n cap, .slice none 0 0]] w fun e w' => e = .returned (.float .f64 (lens pss n)) ∧ Below w.heap.size w w' := by
  have L0 := (Below.refl w.heap.size w).alloc (Nat.le_refl _) (.cells #[.int .i64 3, .slice (some ⟨g, 0, none⟩) n cap, .slice none 0 0] 50)
  have H1 := Lib.hid (fun W (h : Below w.heap.size w W) => geom_poly g cap vs pss n (.slice none 0 0) W hn h100 (hl.below h))
  have hpl : pss.length = n := by rw [← hl.len]; exact hn
  have HL0 := Lib.hid L0
  obtain ⟨R, hR⟩ : ∃ R, R = lens pss n := ⟨_, rfl⟩
  rw [← hR]
  have HRR := Lib.hid hR
  clear L0 hR hl hn
  go_enter Tryd.func32, Tryd.ntmps32
  go_wp2_with fail
  refine (H1.out _ HL0.out).mono ?_
  rintro e w1 ⟨v, us, rfl, hown, hr, hb1⟩
  have H3 := planar_len (pl_len hown hr hpl h1 h100 hok)
  clear hown hr hpl h1 h100 hok
  rw [← HRR.out] at H3
  have HB1 := Lib.hid (HL0.out.trans (hb1.mono HL0.out.size))
  clear hb1 H1 HL0
  go_wp2_with fail
  refine H3.mono ?_
  rintro e w2 ⟨rfl, hb2⟩
  have HB2 := Lib.hid (HB1.out.trans (hb2.mono HB1.out.size))
  clear hb2 H3
  go_wp2
  go_ret
  exact ⟨rfl, HB2.out⟩


set_option maxRecDepth 100000 in
theorem len_lines (g n cap : Nat) (vs : List Value) (pss : List (List (Nat × Nat))) (w : World) (hn : vs.length = n) (h1 : 1 ≤ n) (h100 : n ≤ 100) (hl : Lists w g vs pss) (hok : LensOk pss) :
    Calls Tryd.prog 32 #[.agg #[.int .i64 5, .slice (some ⟨g, 0, none⟩) n cap, .slice none 0 0]] w fun e w' => e = .returned (.float .f64 (lens pss n)) ∧ Below w.heap.size w w' := by
  have L0 := (Below.refl w.heap.size w).alloc (Nat.le_refl _) (.cells #[.int .i64 5, .slice (some ⟨g, 0, none⟩) n cap, .slice none 0 0] 50)
  have H1 := Lib.hid (fun W (h : Below w.heap.size w W) => geom_lines_any g cap vs pss n (.slice none 0 0) W hn h100 (hl.below h))
  have hpl : pss.length = n := by rw [← hl.len]; exact hn
  have HL0 := Lib.hid L0
  obtain ⟨R, hR⟩ : ∃ R, R = lens pss n := ⟨_, rfl⟩
  rw [← hR]
  have HRR := Lib.hid hR
  clear L0 hR hl hn
  go_enter Tryd.func32, Tryd.ntmps32
  go_wp2_with fail
  refine (H1.out _ HL0.out).mono ?_
  rintro e w1 ⟨v, us, rfl, hown, hr, hb1⟩
  have H3 := planar_len (mls_len hown hr hpl h1 h100 hok)
  clear hown hr hpl h1 h100 hok
  rw [← HRR.out] at H3
  have HB1 := Lib.hid (HL0.out.trans (hb1.mono HL0.out.size))
  clear hb1 H1 HL0
  go_wp2_with fail
  refine H3.mono ?_
  rintro e w2 ⟨rfl, hb2⟩
  have HB2 := Lib.hid (HB1.out.trans (hb2.mono HB1.out.size))
  clear hb2 H3
  go_wp2
  go_ret
  exact ⟨rfl, HB2.out⟩

end Go.Proofs.YtpbhpplmokdkhaaDoor
