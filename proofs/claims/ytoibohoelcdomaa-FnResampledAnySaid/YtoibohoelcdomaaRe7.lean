/- The walk of spec.Along. -/
import Derived.Test.YtoibohoelcdomaaRe6
namespace Go.Proofs.Ytoibohoelcdomaa
open Go.RowKit Fl

theorem along_step {X Y : Nat → Int} {c f L i k : Nat} {q : Int} (hU : Re.Un f q) (hq : -1074 ≤ q) (hq0 : q ≤ 0) (hv : val f = val c - ((Re.SN X Y k : Nat) : Rat)) (hL : IsI L (Re.dN X Y k : Int)) (hk : k < i) (h0 : ((Re.SN X Y i : Nat) : Rat) ≤ val c) :
    Re.Un (fsub f L) q ∧ val (fsub f L) = val c - ((Re.SN X Y (k + 1) : Nat) : Rat) := by
  have h1 : ((Re.SN X Y (k + 1) : Nat) : Rat) = ((Re.SN X Y k : Nat) : Rat) + ((Re.dN X Y k : Nat) : Rat) := Rat.natCast_add _ _
  have h2 : ((Re.SN X Y (k + 1) : Nat) : Rat) ≤ ((Re.SN X Y i : Nat) : Rat) := natr_le (Re.SN_mono (by omega))
  obtain ⟨u, v⟩ := Re.un_sub hU hq hq0 hL (by grind)
  exact ⟨u, by rw [v, hv, h1]; grind⟩

theorem along_not {X Y : Nat → Int} {c f k : Nat} (hv : val f = val c - ((Re.SN X Y k : Nat) : Rat)) (h : ((Re.SN X Y (k + 1) : Nat) : Rat) < val c) : ¬ val f ≤ ((Re.dN X Y k : Nat) : Rat) := by
  have h1 : ((Re.SN X Y (k + 1) : Nat) : Rat) = ((Re.SN X Y k : Nat) : Rat) + ((Re.dN X Y k : Nat) : Rat) := Rat.natCast_add _ _
  grind
theorem along_yes {X Y : Nat → Int} {c f k : Nat} (hv : val f = val c - ((Re.SN X Y k : Nat) : Rat)) (h0 : ((Re.SN X Y k : Nat) : Rat) ≤ val c) (h : val c ≤ ((Re.SN X Y (k + 1) : Nat) : Rat)) : val f ≤ ((Re.dN X Y k : Nat) : Rat) ∧ 0 ≤ val f := by
  have h1 : ((Re.SN X Y (k + 1) : Nat) : Rat) = ((Re.SN X Y k : Nat) : Rat) + ((Re.dN X Y k : Nat) : Rat) := Rat.natCast_add _ _
  grind

theorem along_seg {x y x1 y1 f L : Nat} {X Y : Nat → Int} {k : Nat} (hx : IsI x (X k)) (hy : IsI y (Y k)) (hx1 : IsI x1 (X (k + 1))) (hy1 : IsI y1 (Y (k + 1))) (s1 : Small (X k) ∧ Small (Y k)) (s2 : Small (X (k + 1)) ∧ Small (Y (k + 1)))
    (hL : IsI L (Re.dN X Y k : Int)) (hd0 : 0 < Re.dN X Y k) (hf : IsFin f) (f0 : 0 ≤ val f) (f1 : val f ≤ ((Re.dN X Y k : Nat) : Rat)) :
    Ieee.double.div (fmul (fsub x1 x) f) L = some (fdiv (fmul (fsub x1 x) f) L) ∧ Ieee.double.div (fmul (fsub y1 y) f) L = some (fdiv (fmul (fsub y1 y) f) L) ∧ IsFin (fdiv (fmul (fsub x1 x) f) L) ∧ IsFin (fdiv (fmul (fsub y1 y) f) L) ∧
      Re.Seg x x1 f L (X k) (X (k + 1)) (Re.dN X Y k) ∧ Re.Seg y y1 f L (Y k) (Y (k + 1)) (Re.dN X Y k) := by
  have hd1 : Re.dN X Y k ≤ 4000 := by
    unfold Small at s1 s2
    unfold Re.dN
    omega
  have sgx : Re.Seg x x1 f L (X k) (X (k + 1)) (Re.dN X Y k) := ⟨hx, hx1, s1.1, s2.1, hL, hd0, hd1, by unfold Re.dN; omega, hf, f0, f1⟩
  have sgy : Re.Seg y y1 f L (Y k) (Y (k + 1)) (Re.dN X Y k) := ⟨hy, hy1, s1.2, s2.2, hL, hd0, hd1, by unfold Re.dN; omega, hf, f0, f1⟩
  obtain ⟨_, _, _, _, d1, f1, _⟩ := Re.ptB_near sgx
  obtain ⟨_, _, _, _, d2, f2, _⟩ := Re.ptB_near sgy
  exact ⟨d1, d2, f1, f2, sgx, sgy⟩

theorem size_ipoint : (Try.prog.info? 26).map (·.size) = some 2 := by kernel_rfl
theorem blk_keep {w : World} {b m : Nat} {cs : Array Value} {T : TypeId} {o1 o2 : Obj} (h : Blk w b cs T) : Blk (((w.alloc o1).alloc o2).drewN m) b cs T := by
  have hlt : b < w.heap.size := (Array.getElem?_eq_some_iff.1 h).1
  have h1 : Blk ((w.alloc o1).alloc o2) b cs T := (Below.heap_alloc _ o2 b (by simp; omega)).trans ((Below.heap_alloc w o1 b hlt).trans h)
  unfold Blk at h1 ⊢
  simpa using h1

theorem blk_keep2 {w : World} {b : Nat} {cs : Array Value} {T : TypeId} (h : Blk w b cs T) (o1 o2 : Obj) : Blk ((w.alloc o1).alloc o2) b cs T := by
  have hlt : b < w.heap.size := (Array.getElem?_eq_some_iff.1 h).1
  exact (Below.heap_alloc _ o2 b (by simp; omega)).trans ((Below.heap_alloc w o1 b hlt).trans h)
theorem blk_two {w : World} {b : Nat} {u v : Value} {T : TypeId} (h : Blk w b #[u, v] T) (o1 o2 : Obj) :
    (((w.alloc o1).alloc o2).cell? ⟨b, 0, none⟩ = some u ∧ ((w.alloc o1).alloc o2).frozen? ⟨b, 0, none⟩ = false) ∧
    (((w.alloc o1).alloc o2).cell? ⟨b, 1, none⟩ = some v ∧ ((w.alloc o1).alloc o2).frozen? ⟨b, 1, none⟩ = false) :=
  ⟨blk_cell (blk_keep2 h o1 o2) (i := 0) rfl, blk_cell (blk_keep2 h o1 o2) (i := 1) rfl⟩

set_option maxRecDepth 100000 in
set_option maxHeartbeats 1000000 in
theorem along_any (n cap b off c i : Nat) (q : Int) (ps : List (Nat × Nat)) (X Y : Nat → Int) (w : World) (hn : ps.length = n) (hn60 : n ≤ 40) (hps : PtsAt w b off ps) (hd : Dat ps X Y) (hin : i + 1 < n) (hc : Re.Un c q) (hq : -1074 ≤ q) (hq0 : q ≤ 0)
    (hd0 : 0 < Re.dN X Y i) (h0 : ((Re.SN X Y i : Nat) : Rat) ≤ val c) (h1 : val c ≤ ((Re.SN X Y (i + 1) : Nat) : Rat)) (hskip : ∀ j, j < i → Re.dN X Y j = 0 ∨ ((Re.SN X Y (j + 1) : Nat) : Rat) < val c) :
    Calls Try.prog 7 #[.slice (some ⟨b, off, none⟩) n cap, .float .f64 c] w
      fun e w' => ∃ p r f D, e = .returned (.agg #[.float .f64 (Re.ptB p.1 r.1 f D), .float .f64 (Re.ptB p.2 r.2 f D)]) ∧ ps[i]? = some p ∧ ps[i + 1]? = some r ∧ IsI D (Re.dN X Y i : Int) ∧ IsFin f ∧ val f = val c - ((Re.SN X Y i : Nat) : Rat) ∧ Below w.heap.size w w' := by
  have HPS := Lib.hid hps
  have HD := Lib.hid hd
  have HN := Lib.hid hn
  have HSK := Lib.hid hskip
  have H01 := Lib.hid (And.intro h0 h1)
  have hnn : (n : Int) ≤ 40 := by omega
  have hini : (i : Int) + 1 < n := by omega
  clear hps hd hn hskip h0 h1
  go_enter Try.func7, Try.ntmps7
  go_wp2
  go_loopw [1, 5] (fun fv iv wr => ∃ (k f : Nat), k ≤ i ∧ iv = .int .i64 ((k : Int) + 1) ∧ fv = .float .f64 f ∧ Hid (Re.Un f q) ∧ Hid (val f = val c - ((Re.SN X Y k : Nat) : Rat)) ∧ Hid (∃ u v, Blk wr w.heap.size #[u, v] 26) ∧ Below w.heap.size w wr) (fun _ iv _ => n - (intOf iv).toNat)
  case atStart =>
    refine ⟨0, c, Nat.zero_le _, rfl, rfl, Lib.hid hc, Lib.hid ?_, Lib.hid ⟨_, _, heap_alloc_new w _⟩, ?_⟩
    · have e0 : ((Re.SN X Y 0 : Nat) : Rat) = 0 := rfl
      rw [e0]; grind
    · exact (Below.refl _ _).alloc (Nat.le_refl _) _
  case round =>
    obtain ⟨k, f, hk, rfl, rfl, HU, HV, HBK, hb⟩ := hrel
    have hil : k < ps.length := by have := HN.out; omega
    have hjl : k + 1 < ps.length := by have := HN.out; omega
    have hpk : ps[k]? = some ps[k] := List.getElem?_eq_getElem hil
    have hpj : ps[k + 1]? = some ps[k + 1] := List.getElem?_eq_getElem hjl
    obtain ⟨ik, sk⟩ := HD.out k _ hpk
    obtain ⟨ij, sj⟩ := HD.out (k + 1) _ hpj
    obtain ⟨c0, c1⟩ := HPS.out k _ hpk
    obtain ⟨d0, d1⟩ := HPS.out (k + 1) _ hpj
    obtain ⟨⟨x, y⟩, hpe⟩ : ∃ p, p = ps[k] := ⟨_, rfl⟩
    obtain ⟨⟨x1, y1⟩, hpe1⟩ : ∃ p, p = ps[k + 1] := ⟨_, rfl⟩
    rw [← hpe] at ik c0 c1 hpk
    rw [← hpe1] at ij d0 d1 hpj
    have c0' := cell_later hb c0
    have c1' := cell_later hb c1
    have d0' := cell_later hb d0
    have d1' := cell_later hb d1
    obtain ⟨l1, l2, l3, l4, l5⟩ := len_isI ik.1 ik.2 ij.1 ij.2 sk sj
    have HPK := Lib.hid hpk
    have HPJ := Lib.hid hpj
    have HB := Lib.hid hb
    have hki : (k : Int) + 1 < n := by omega
    have hki2 : (k : Int) < n := by omega
    have hwr : IntKind.i64.wrap ((k : Int) + 1) = (k : Int) + 1 := IntWalk.i64_in _ (by omega)
    have hwk : IntKind.i64.wrap (k : Int) = (k : Int) := IntWalk.i64_in _ (by omega)
    have hk0 : (0 : Int) ≤ (k : Int) + 1 := by omega
    have hkt : ((k : Int) + 1).toNat = k + 1 := by omega
    have rsx := run_fsub (P := Try.prog) ij.1.1 ik.1.1 24
    have rsy := run_fsub (P := Try.prog) ij.2.1 ik.2.1 24
    have ral := run_fadd (P := Try.prog) l3.1 l4.1 24
    have a1 := fun w => (abs_any (fsub x1 x) (fsub_lt _ _) w).mono (R' := fun e w' => e = .returned (.float .f64 (fabs (fsub x1 x))) ∧ w' = w) (fun _ _ h => ⟨h.1, h.2.symm⟩)
    have a2 := fun w => (abs_any (fsub y1 y) (fsub_lt _ _) w).mono (R' := fun e w' => e = .returned (.float .f64 (fabs (fsub y1 y))) ∧ w' = w) (fun _ _ h => ⟨h.1, h.2.symm⟩)
    obtain ⟨L, hL⟩ : ∃ L, L = fadd (fabs (fsub x1 x)) (fabs (fsub y1 y)) := ⟨_, rfl⟩
    rw [← hL] at ral l5
    have HL5 : Hid (IsI L (Re.dN X Y k : Int)) := Lib.hid l5
    have HRX := Lib.hid l1.1
    have HRY := Lib.hid l2.1
    have HIK := Lib.hid (And.intro ik sk)
    have HIJ := Lib.hid (And.intro ij sj)
    have w1 := World.new_ne wr _ c0'
    have w2 := World.new_ne wr _ c1'
    have w3 := World.new_ne wr _ d0'
    have w4 := World.new_ne wr _ d1'
    have hg1 : (FloatKind.f64.format.order L 0 == some .gt) = decide ((0 : Int) < (Re.dN X Y k : Int)) := isI_gt l5 isI_lit0
    have hg2 := le_test (N := Re.dN X Y k) HU.out.1 l5
    have rsf := run_fsub (P := Try.prog) HU.out.1 l5.1 24
    clear c0 c1 d0 d1 hpk hpj hpe hpe1 ik ij sk sj hb hil hjl l1 l2 l3 l4 l5 hL
    by_cases hki3 : k = i
    · subst hki3
      have hy := along_yes HV.out H01.out.1 H01.out.2
      rw [decide_eq_true (by omega)] at hg1
      rw [decide_eq_true hy.1] at hg2
      obtain ⟨m1, m2, m3, m4, m5, m6⟩ := along_seg HIK.out.1.1 HIK.out.1.2 HIJ.out.1.1 HIJ.out.1.2 HIK.out.2 HIJ.out.2 HL5.out hd0 HU.out.1 hy.2 hy.1
      have rmx := run_fmul (P := Try.prog) HRX.out HU.out.1 24
      have rmy := run_fmul (P := Try.prog) HRY.out HU.out.1 24
      have rqx := run_fdiv (P := Try.prog) m1 24
      have rqy := run_fdiv (P := Try.prog) m2 24
      have rax := run_fadd (P := Try.prog) HIK.out.1.1.1 m3 24
      have ray := run_fadd (P := Try.prog) HIK.out.1.2.1 m4 24
      obtain ⟨u, v, hbk⟩ := HBK.out
      obtain ⟨⟨g1, g2⟩, g3, g4⟩ := blk_two hbk (.cells #[.float .f64 x, .float .f64 y] 26) (.cells #[.float .f64 x1, .float .f64 y1] 26)
      obtain ⟨⟨g5, g6⟩, g7, g8⟩ := blk_two hbk (.cells #[.float .f64 x1, .float .f64 y1] 26) (.cells #[.float .f64 x, .float .f64 y] 26)
      clear hy m1 m2 m3 m4 m5 m6 hki hbk
      have hki : (k : Int) + 1 < n := hini
      go_wp2
      go_region_held3 (fun w' => w'.cell? ⟨b, off + k * 2, none⟩ = some (.float .f64 x) ∧ w'.cell? ⟨b, off + k * 2 + 1, none⟩ = some (.float .f64 y) ∧ w'.cell? ⟨b, off + (k + 1) * 2, none⟩ = some (.float .f64 x1) ∧ w'.cell? ⟨b, off + (k + 1) * 2 + 1, none⟩ = some (.float .f64 y1)) (go_keep) (fail)
      all_goals go_wp2
      all_goals go_quiet ((go_at_call 8; first | exact (a1 _).mono (fun _ _ h => ⟨h.1, _, h.2⟩) | exact (a2 _).mono (fun _ _ h => ⟨h.1, _, h.2⟩)))
      all_goals go_wp2
      all_goals (try simp only [Exit.inBlock, Exit.then])
      all_goals obtain ⟨u', v', hb'⟩ := HBK.out
      all_goals refine bodyPost_ret (results_cell_row rfl _ _ w.heap.size 26 #[.float .f64 (Re.ptB x x1 f L), .float .f64 (Re.ptB y y1 f L)] (0, 0) _ rfl (blk_set (blk_set (blk_keep hb') 0 _) 1 _) Try.underlying26 rfl size_ipoint) rfl ?_
      all_goals exact ⟨(x, y), (x1, y1), f, L, rfl, HPK.out, HPJ.out, HL5.out, HU.out.1, HV.out, ((below_drewN ((HB.out.alloc HB.out.size _).alloc (by have := HB.out.size; simp; omega) _) _).setCell (p := ⟨w.heap.size, 0, none⟩) (Nat.le_refl _) _).setCell (p := ⟨w.heap.size, 1, none⟩) (Nat.le_refl _) _⟩
    · by_cases hz : Re.dN X Y k = 0
      · rw [decide_eq_false (by omega)] at hg1
        have hki4 : k < i := by omega
        have HST := Lib.hid (along_step HU.out hq hq0 HV.out HL5.out hki4 H01.out.1)
        have hki5 : k + 1 ≤ i := by omega
        clear hg2 hz
        go_wp2
        go_region_held3 (fun w' => w'.cell? ⟨b, off + k * 2, none⟩ = some (.float .f64 x) ∧ w'.cell? ⟨b, off + k * 2 + 1, none⟩ = some (.float .f64 y) ∧ w'.cell? ⟨b, off + (k + 1) * 2, none⟩ = some (.float .f64 x1) ∧ w'.cell? ⟨b, off + (k + 1) * 2 + 1, none⟩ = some (.float .f64 y1)) (go_keep) (fail)
        all_goals go_wp2
        all_goals go_quiet ((go_at_call 8; first | exact (a1 _).mono (fun _ _ h => ⟨h.1, _, h.2⟩) | exact (a2 _).mono (fun _ _ h => ⟨h.1, _, h.2⟩)))
        all_goals go_wp2
        all_goals go_roundw
        all_goals first
          | exact ⟨k + 1, _, hki5, by go_num, rfl, Lib.hid HST.out.1, Lib.hid HST.out.2, (by obtain ⟨u, v, h⟩ := HBK.out; exact Lib.hid ⟨u, v, blk_keep h⟩), below_drewN ((HB.out.alloc HB.out.size _).alloc (by have := HB.out.size; simp; omega) _) _⟩
          | (simp [intOf]; omega)
      · have hki4 : k < i := by omega
        rw [decide_eq_true (by omega)] at hg1
        rw [decide_eq_false (along_not HV.out ((HSK.out k hki4).resolve_left hz))] at hg2
        have HST := Lib.hid (along_step HU.out hq hq0 HV.out HL5.out hki4 H01.out.1)
        have hki5 : k + 1 ≤ i := by omega
        clear hz
        go_wp2
        go_region_held3 (fun w' => w'.cell? ⟨b, off + k * 2, none⟩ = some (.float .f64 x) ∧ w'.cell? ⟨b, off + k * 2 + 1, none⟩ = some (.float .f64 y) ∧ w'.cell? ⟨b, off + (k + 1) * 2, none⟩ = some (.float .f64 x1) ∧ w'.cell? ⟨b, off + (k + 1) * 2 + 1, none⟩ = some (.float .f64 y1)) (go_keep) (fail)
        all_goals go_wp2
        all_goals go_quiet ((go_at_call 8; first | exact (a1 _).mono (fun _ _ h => ⟨h.1, _, h.2⟩) | exact (a2 _).mono (fun _ _ h => ⟨h.1, _, h.2⟩)))
        all_goals go_wp2
        all_goals go_roundw
        all_goals first
          | exact ⟨k + 1, _, hki5, by go_num, rfl, Lib.hid HST.out.1, Lib.hid HST.out.2, (by obtain ⟨u, v, h⟩ := HBK.out; exact Lib.hid ⟨u, v, blk_keep h⟩), below_drewN ((HB.out.alloc HB.out.size _).alloc (by have := HB.out.size; simp; omega) _) _⟩
          | (simp [intOf]; omega)
end Go.Proofs.Ytoibohoelcdomaa
