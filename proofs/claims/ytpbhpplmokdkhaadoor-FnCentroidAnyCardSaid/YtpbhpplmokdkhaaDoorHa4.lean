/- The walk of spec.Inside. -/
import Derived.Test.YtpbhpplmokdkhaaDoorHa3
import Derived.Deep.RegionHeld3
set_option linter.unusedVariables false
namespace Go.Proofs.YtpbhpplmokdkhaaDoor
open Go.RowKit Go.WideShapes Fl

theorem blk_alloc {w : World} {b : Nat} {cs : Array Value} {T : TypeId} (h : Blk w b cs T) (o : Obj) : Blk (w.alloc o) b cs T := blk_below h ((Below.refl w.heap.size w).alloc (Nat.le_refl _) o) (Array.getElem?_eq_some_iff.1 h).1
theorem blk_new2a (w : World) (o1 o2 : Array Value) {T U : TypeId} : Blk ((w.alloc (.cells o1 T)).alloc (.cells o2 U)) w.heap.size o1 T := blk_alloc (heap_alloc_new w _) _
theorem blk_new2b (w : World) (o1 o2 : Array Value) {T U : TypeId} : Blk ((w.alloc (.cells o1 T)).alloc (.cells o2 U)) (w.heap.size + 1) o2 U := by
  have := heap_alloc_new (w.alloc (.cells o1 T)) (.cells o2 U)
  rw [World.size_alloc] at this
  exact this
theorem rt_sw {px py ax ay bx by' : Int} (h : by' < ay) : decide (Rt px py ax ay bx by') = (decide (by' ≤ py) && decide (py < ay) && decide (0 < crI bx by' ax ay px py)) := by
  rw [← Bool.decide_and, ← Bool.decide_and]
  refine decide_eq_decide.2 ?_
  unfold Rt RtO
  rw [if_pos h, and_assoc]
theorem rt_no {px py ax ay bx by' : Int} (h : ¬ by' < ay) : decide (Rt px py ax ay bx by') = (decide (ay ≤ py) && decide (py < by') && decide (0 < crI ax ay bx by' px py)) := by
  rw [← Bool.decide_and, ← Bool.decide_and]
  refine decide_eq_decide.2 ?_
  unfold Rt RtO
  rw [if_neg h, and_assoc]
set_option maxRecDepth 100000 in
set_option maxHeartbeats 8000000 in
theorem inside_any (n cap b off : Nat) (ps : List (Nat × Nat)) (X Y : Nat → Int) (p : Nat × Nat) (px py : Int) (w : World) (hn : ps.length = n) (h2 : 2 ≤ n) (h100 : n ≤ 100) (hps : PtsAt w b off ps) (hd : Dat ps X Y)
    (hp : IsP p px py) (sp : Small px ∧ Small py) :
    Calls Tryd.prog 44 #[.slice (some ⟨b, off, none⟩) n cap, .agg #[.float .f64 p.1, .float .f64 p.2]] w
      fun e w' => e = .returned (.bool (inB px py X Y (n - 1))) ∧ Below w.heap.size w w' := by
  have HP := Lib.hid (And.intro hp sp)
  have HD := Lib.hid hd
  have HN := Lib.hid hn
  have HPS := Lib.hid hps
  have h2n : (2 : Int) ≤ n := by omega
  have hnn : (n : Int) ≤ 100 := by omega
  have hp0 := heap_alloc_new w (.cells #[.float .f64 p.1, .float .f64 p.2] 31)
  have HP0 : Hid (Blk (w.alloc (.cells #[.float .f64 p.1, .float .f64 p.2] 31)) w.heap.size #[.float .f64 p.1, .float .f64 p.2] 31) := Lib.hid hp0
  clear hp sp hd hn hps hp0
  go_enter Tryd.func44, Tryd.ntmps44
  go_wp2
  go_loopw [5, 6, 7, 8] (fun cv iv _ _ wr => ∃ (k : Nat) (c : Bool), k + 1 ≤ n ∧ iv = .int .i64 ((k : Int) + 1) ∧ cv = .bool c ∧ Hid (c = inB px py X Y k) ∧ Hid (Blk wr w.heap.size #[.float .f64 p.1, .float .f64 p.2] 31) ∧ Below w.heap.size w wr) (fun _ iv _ _ _ => n - (intOf iv).toNat)
  case atStart => exact ⟨0, false, by omega, rfl, rfl, Lib.hid rfl, HP0, (Below.refl _ _).alloc (Nat.le_refl _) _⟩
  case round =>
    obtain ⟨k, c, hk, rfl, rfl, HI, HBp, hb⟩ := hrel
    by_cases hlt : k + 1 < n
    · have hil : k < ps.length := by have := HN.out; omega
      have hjl : k + 1 < ps.length := by have := HN.out; omega
      have hpi : ps[k]? = some ps[k] := List.getElem?_eq_getElem hil
      have hpj : ps[k + 1]? = some ps[k + 1] := List.getElem?_eq_getElem hjl
      obtain ⟨ii, mi⟩ := HD.out k _ hpi
      obtain ⟨ij, mj⟩ := HD.out (k + 1) _ hpj
      obtain ⟨c0, c1⟩ := HPS.out k _ hpi
      obtain ⟨d0, d1⟩ := HPS.out (k + 1) _ hpj
      obtain ⟨⟨x, y⟩, hpe⟩ : ∃ p, p = ps[k] := ⟨_, rfl⟩
      obtain ⟨⟨x1, y1⟩, hpe1⟩ : ∃ p, p = ps[k + 1] := ⟨_, rfl⟩
      rw [← hpe] at ii c0 c1
      rw [← hpe1] at ij d0 d1
      have c0' := cell_later hb c0
      have c1' := cell_later hb c1
      have d0' := cell_later hb d0
      have d1' := cell_later hb d1
      have hki : (k : Int) < n := by omega
      have hki1 : (k : Int) + 1 < n := by omega
      have hk0 : (0 : Int) ≤ k := by omega
      have hk1 : (0 : Int) ≤ (k : Int) + 1 := by omega
      have hkt : ((k : Int) + 1).toNat = k + 1 := by omega
      have hwm : IntKind.i64.wrap ((k : Int) + 1 - 1) = (k : Int) := by rw [Int.add_sub_cancel]; exact IntWalk.i64_in _ (by omega)
      have hwk0 : IntKind.i64.wrap (k : Int) = (k : Int) := IntWalk.i64_in _ (by omega)
      obtain ⟨⟨p0, p1⟩, _, _⟩ := cells2 HBp.out
      have HB := Lib.hid hb
      clear hb c0 c1 d0 d1 hpi hpj hpe hpe1 hil hjl
      have HII := Lib.hid (And.intro ii (And.intro mi (And.intro ij mj)))
      clear ii mi ij mj
      go_wp2_with fail
      go_region_held3 (fun w' => w'.cell? ⟨w.heap.size, 0, none⟩ = some (.float .f64 p.1) ∧ w'.cell? ⟨w.heap.size, 1, none⟩ = some (.float .f64 p.2) ∧ w'.cell? ⟨b, off + k * 2, none⟩ = some (.float .f64 x) ∧ w'.cell? ⟨b, off + k * 2 + 1, none⟩ = some (.float .f64 y) ∧ w'.cell? ⟨b, off + (k + 1) * 2, none⟩ = some (.float .f64 x1) ∧ w'.cell? ⟨b, off + (k + 1) * 2 + 1, none⟩ = some (.float .f64 y1))
        (first | exact ⟨p0, p1, c0', c1', d0', d1'⟩ | go_keep)
        (fail)
      · obtain ⟨W1, hW1⟩ : ∃ W, W = ((wr.alloc (.cells #[.float .f64 x, .float .f64 y] 31)).alloc (.cells #[.float .f64 x1, .float .f64 y1] 31)).drew := ⟨_, rfl⟩
        have BA : Blk W1 (wr.heap.size) #[.float .f64 x, .float .f64 y] 31 := by rw [hW1]; exact blk_drew (blk_new2a wr _ _)
        have BB : Blk W1 (wr.heap.size + 1) #[.float .f64 x1, .float .f64 y1] 31 := by rw [hW1]; exact blk_drew (blk_new2b wr _ _)
        have BP : Blk W1 w.heap.size #[.float .f64 p.1, .float .f64 p.2] 31 := by rw [hW1]; exact blk_drew (blk_alloc (blk_alloc HBp.out _) _)
        have L1 : Below w.heap.size w W1 := by rw [hW1]; exact ((HB.out.alloc HB.out.size _).alloc (by have := HB.out.size; simp; omega) _).drew
        have hsz := HB.out.size
        have hlt0 := (Array.getElem?_eq_some_iff.1 HBp.out).1
        rw [← hW1]
        clear hW1
        obtain ⟨ga, hga⟩ : ∃ g, g = wr.heap.size := ⟨_, rfl⟩
        obtain ⟨gb, hgb⟩ : ∃ g, g = wr.heap.size + 1 := ⟨_, rfl⟩
        have n1 : ga ≠ gb := by omega
        have n2 : w.heap.size ≤ ga := by omega
        have n3 : w.heap.size ≤ gb := by omega
        have n4 : w.heap.size ≠ ga := by omega
        have n5 : w.heap.size ≠ gb := by omega
        rw [← hgb] at BB ⊢
        rw [← hga] at BA ⊢
        clear hga hgb hsz hlt0 HBp HB p0 p1 c0' c1' d0' d1' hki hki1 hk0 hk1 hkt hwm hwk0
        obtain ⟨ii, mi, ij, mj⟩ := HII.out
        have hgt : (FloatKind.f64.format.order y y1 == some .gt) = decide (Y (k + 1) < Y k) := isI_gt ii.2 ij.2
        by_cases sw : Y (k + 1) < Y k
        · rw [decide_eq_true sw] at hgt
          have BA2 := blk_other (blk_other (blk_set (blk_set BA 0 (.float .f64 x1)) 1 (.float .f64 y1)) n1 (i := 0) (u := .float .f64 x)) n1 (i := 1) (u := .float .f64 y)
          have BB2 := blk_set (blk_set (blk_other (blk_other BB n1.symm (i := 0) (u := .float .f64 x1)) n1.symm (i := 1) (u := .float .f64 y1)) 0 (.float .f64 x)) 1 (.float .f64 y)
          have BP2 := blk_other (blk_other (blk_other (blk_other BP n4 (i := 0) (u := .float .f64 x1)) n4 (i := 1) (u := .float .f64 y1)) n5 (i := 0) (u := .float .f64 x)) n5 (i := 1) (u := .float .f64 y)
          have L2 := (((L1.setCell (p := ⟨ga, 0, none⟩) n2 (.float .f64 x1)).setCell (p := ⟨ga, 1, none⟩) n2 (.float .f64 y1)).setCell (p := ⟨gb, 0, none⟩) n3 (.float .f64 x)).setCell (p := ⟨gb, 1, none⟩) n3 (.float .f64 y)
          obtain ⟨⟨a0, a1⟩, g0, g1⟩ := cells2 BA
          obtain ⟨⟨b0, b1⟩, g2, g3⟩ := cells2 BB
          obtain ⟨⟨q0, q1⟩, _, _⟩ := cells2 BP2
          obtain ⟨⟨e0, e1⟩, _, _⟩ := cells2 BA2
          obtain ⟨⟨f0, f1⟩, _, _⟩ := cells2 BB2
          have BBm := blk_other (blk_other BB n1.symm (i := 0) (u := .float .f64 x1)) n1.symm (i := 1) (u := .float .f64 y1)
          obtain ⟨_, g4, g5⟩ := cells2 BBm
          obtain ⟨cc, icc, hcall⟩ := cross_any (x1, y1) (x, y) p ij ii HP.out.1 mj mi HP.out.2
          have t1 : (FloatKind.f64.format.order y1 p.2 == some .lt || FloatKind.f64.format.order y1 p.2 == some .eq) = decide (Y (k + 1) ≤ py) := isI_leB ij.2 HP.out.1.2
          have t2 : (FloatKind.f64.format.order p.2 y == some .lt) = decide (py < Y k) := isI_lt HP.out.1.2 ii.2
          have t3 : (FloatKind.f64.format.order cc 0 == some .gt) = decide (0 < crI (X (k + 1)) (Y (k + 1)) (X k) (Y k) px py) := isI_gt icc isI_lit0
          have hrt := rt_sw (px := px) (py := py) (ax := X k) (ay := Y k) (bx := X (k + 1)) (by' := Y (k + 1)) sw
          generalize decide (Y (k + 1) ≤ py) = u1 at *
          generalize decide (py < Y k) = u2 at *
          generalize decide (0 < crI (X (k + 1)) (Y (k + 1)) (X k) (Y k) px py) = u3 at *
          have HRT := Lib.hid hrt
          have HL2 := Lib.hid L2
          have HP2 := Lib.hid BP2
          have hkz : k + 1 + 1 ≤ n := by omega
          clear hrt L2 BP2 L1 BA BB BP ii mi ij mj icc sw n1 n2 n3 n4 n5 HII BA2 BB2 BBm
          cases u1 with
          | false =>
            clear t2
            clear hcall t3
            have HL4 := HL2
            have HP4 := HP2
            go_wp2
            go_roundw
            case rel => exact ⟨k + 1, c, by omega, by go_num, rfl, Lib.hid (by unfold inB; rw [HRT.out, ← HI.out]; cases c <;> rfl), HP4.out |> Lib.hid, HL4.out⟩
            case measure => simp [intOf]; omega
          | true =>
            cases u2 with
            | false =>
              clear hcall t3
              have HL4 := HL2
              have HP4 := HP2
              go_wp2
              go_roundw
              case rel => exact ⟨k + 1, c, by omega, by go_num, rfl, Lib.hid (by unfold inB; rw [HRT.out, ← HI.out]; cases c <;> rfl), HP4.out |> Lib.hid, HL4.out⟩
              case measure => simp [intOf]; omega
            | true =>
              cases u3 with
              | false =>
                go_wp2_with fail
                refine (hcall _).mono ?_
                rintro e w4 ⟨rfl, hb4⟩
                have HL4 := Lib.hid (HL2.out.trans (hb4.mono HL2.out.size))
                have HP4 := Lib.hid (blk_below HP2.out hb4 (Array.getElem?_eq_some_iff.1 HP2.out).1)
                clear hb4 hcall a0 a1 b0 b1 g0 g1 g2 g3 q0 q1 e0 e1 f0 f1 g4 g5
                go_wp2
                go_roundw
                case rel => exact ⟨k + 1, c, by omega, by go_num, rfl, Lib.hid (by unfold inB; rw [HRT.out, ← HI.out]; cases c <;> rfl), HP4.out |> Lib.hid, HL4.out⟩
                case measure => simp [intOf]; omega
              | true =>
                go_wp2_with fail
                refine (hcall _).mono ?_
                rintro e w4 ⟨rfl, hb4⟩
                have HL4 := Lib.hid (HL2.out.trans (hb4.mono HL2.out.size))
                have HP4 := Lib.hid (blk_below HP2.out hb4 (Array.getElem?_eq_some_iff.1 HP2.out).1)
                clear hb4 hcall a0 a1 b0 b1 g0 g1 g2 g3 q0 q1 e0 e1 f0 f1 g4 g5
                go_wp2
                go_roundw
                case rel => exact ⟨k + 1, (!c), by omega, by go_num, rfl, Lib.hid (by unfold inB; rw [HRT.out, ← HI.out]; cases c <;> rfl), HP4.out |> Lib.hid, HL4.out⟩
                case measure => simp [intOf]; omega
        · rw [decide_eq_false sw] at hgt
          have BP2 := BP
          have L2 := L1
          obtain ⟨⟨a0, a1⟩, g0, g1⟩ := cells2 BA
          obtain ⟨⟨b0, b1⟩, g2, g3⟩ := cells2 BB
          obtain ⟨⟨q0, q1⟩, _, _⟩ := cells2 BP2
          obtain ⟨cc, icc, hcall⟩ := cross_any (x, y) (x1, y1) p ii ij HP.out.1 mi mj HP.out.2
          have t1 : (FloatKind.f64.format.order y p.2 == some .lt || FloatKind.f64.format.order y p.2 == some .eq) = decide (Y k ≤ py) := isI_leB ii.2 HP.out.1.2
          have t2 : (FloatKind.f64.format.order p.2 y1 == some .lt) = decide (py < Y (k + 1)) := isI_lt HP.out.1.2 ij.2
          have t3 : (FloatKind.f64.format.order cc 0 == some .gt) = decide (0 < crI (X k) (Y k) (X (k + 1)) (Y (k + 1)) px py) := isI_gt icc isI_lit0
          have hrt := rt_no (px := px) (py := py) (ax := X k) (ay := Y k) (bx := X (k + 1)) (by' := Y (k + 1)) sw
          generalize decide (Y k ≤ py) = u1 at *
          generalize decide (py < Y (k + 1)) = u2 at *
          generalize decide (0 < crI (X k) (Y k) (X (k + 1)) (Y (k + 1)) px py) = u3 at *
          have HRT := Lib.hid hrt
          have HL2 := Lib.hid L2
          have HP2 := Lib.hid BP2
          have hkz : k + 1 + 1 ≤ n := by omega
          clear hrt L2 BP2 L1 BA BB BP ii mi ij mj icc sw n1 n2 n3 n4 n5 HII
          cases u1 with
          | false =>
            clear t2
            clear hcall t3
            have HL4 := HL2
            have HP4 := HP2
            go_wp2
            go_roundw
            case rel => exact ⟨k + 1, c, by omega, by go_num, rfl, Lib.hid (by unfold inB; rw [HRT.out, ← HI.out]; cases c <;> rfl), HP4.out |> Lib.hid, HL4.out⟩
            case measure => simp [intOf]; omega
          | true =>
            cases u2 with
            | false =>
              clear hcall t3
              have HL4 := HL2
              have HP4 := HP2
              go_wp2
              go_roundw
              case rel => exact ⟨k + 1, c, by omega, by go_num, rfl, Lib.hid (by unfold inB; rw [HRT.out, ← HI.out]; cases c <;> rfl), HP4.out |> Lib.hid, HL4.out⟩
              case measure => simp [intOf]; omega
            | true =>
              cases u3 with
              | false =>
                go_wp2_with fail
                refine (hcall _).mono ?_
                rintro e w4 ⟨rfl, hb4⟩
                have HL4 := Lib.hid (HL2.out.trans (hb4.mono HL2.out.size))
                have HP4 := Lib.hid (blk_below HP2.out hb4 (Array.getElem?_eq_some_iff.1 HP2.out).1)
                clear hb4 hcall a0 a1 b0 b1 g0 g1 g2 g3 q0 q1
                go_wp2
                go_roundw
                case rel => exact ⟨k + 1, c, by omega, by go_num, rfl, Lib.hid (by unfold inB; rw [HRT.out, ← HI.out]; cases c <;> rfl), HP4.out |> Lib.hid, HL4.out⟩
                case measure => simp [intOf]; omega
              | true =>
                go_wp2_with fail
                refine (hcall _).mono ?_
                rintro e w4 ⟨rfl, hb4⟩
                have HL4 := Lib.hid (HL2.out.trans (hb4.mono HL2.out.size))
                have HP4 := Lib.hid (blk_below HP2.out hb4 (Array.getElem?_eq_some_iff.1 HP2.out).1)
                clear hb4 hcall a0 a1 b0 b1 g0 g1 g2 g3 q0 q1
                go_wp2
                go_roundw
                case rel => exact ⟨k + 1, (!c), by omega, by go_num, rfl, Lib.hid (by unfold inB; rw [HRT.out, ← HI.out]; cases c <;> rfl), HP4.out |> Lib.hid, HL4.out⟩
                case measure => simp [intOf]; omega
      · obtain ⟨W1, hW1⟩ : ∃ W, W = ((wr.alloc (.cells #[.float .f64 x1, .float .f64 y1] 31)).alloc (.cells #[.float .f64 x, .float .f64 y] 31)).drew := ⟨_, rfl⟩
        have BA : Blk W1 (wr.heap.size + 1) #[.float .f64 x, .float .f64 y] 31 := by rw [hW1]; exact blk_drew (blk_new2b wr _ _)
        have BB : Blk W1 (wr.heap.size) #[.float .f64 x1, .float .f64 y1] 31 := by rw [hW1]; exact blk_drew (blk_new2a wr _ _)
        have BP : Blk W1 w.heap.size #[.float .f64 p.1, .float .f64 p.2] 31 := by rw [hW1]; exact blk_drew (blk_alloc (blk_alloc HBp.out _) _)
        have L1 : Below w.heap.size w W1 := by rw [hW1]; exact ((HB.out.alloc HB.out.size _).alloc (by have := HB.out.size; simp; omega) _).drew
        have hsz := HB.out.size
        have hlt0 := (Array.getElem?_eq_some_iff.1 HBp.out).1
        rw [← hW1]
        clear hW1
        obtain ⟨ga, hga⟩ : ∃ g, g = wr.heap.size + 1 := ⟨_, rfl⟩
        obtain ⟨gb, hgb⟩ : ∃ g, g = wr.heap.size := ⟨_, rfl⟩
        have n1 : ga ≠ gb := by omega
        have n2 : w.heap.size ≤ ga := by omega
        have n3 : w.heap.size ≤ gb := by omega
        have n4 : w.heap.size ≠ ga := by omega
        have n5 : w.heap.size ≠ gb := by omega
        rw [← hga] at BA ⊢
        rw [← hgb] at BB ⊢
        clear hga hgb hsz hlt0 HBp HB p0 p1 c0' c1' d0' d1' hki hki1 hk0 hk1 hkt hwm hwk0
        obtain ⟨ii, mi, ij, mj⟩ := HII.out
        have hgt : (FloatKind.f64.format.order y y1 == some .gt) = decide (Y (k + 1) < Y k) := isI_gt ii.2 ij.2
        by_cases sw : Y (k + 1) < Y k
        · rw [decide_eq_true sw] at hgt
          have BA2 := blk_other (blk_other (blk_set (blk_set BA 0 (.float .f64 x1)) 1 (.float .f64 y1)) n1 (i := 0) (u := .float .f64 x)) n1 (i := 1) (u := .float .f64 y)
          have BB2 := blk_set (blk_set (blk_other (blk_other BB n1.symm (i := 0) (u := .float .f64 x1)) n1.symm (i := 1) (u := .float .f64 y1)) 0 (.float .f64 x)) 1 (.float .f64 y)
          have BP2 := blk_other (blk_other (blk_other (blk_other BP n4 (i := 0) (u := .float .f64 x1)) n4 (i := 1) (u := .float .f64 y1)) n5 (i := 0) (u := .float .f64 x)) n5 (i := 1) (u := .float .f64 y)
          have L2 := (((L1.setCell (p := ⟨ga, 0, none⟩) n2 (.float .f64 x1)).setCell (p := ⟨ga, 1, none⟩) n2 (.float .f64 y1)).setCell (p := ⟨gb, 0, none⟩) n3 (.float .f64 x)).setCell (p := ⟨gb, 1, none⟩) n3 (.float .f64 y)
          obtain ⟨⟨a0, a1⟩, g0, g1⟩ := cells2 BA
          obtain ⟨⟨b0, b1⟩, g2, g3⟩ := cells2 BB
          obtain ⟨⟨q0, q1⟩, _, _⟩ := cells2 BP2
          obtain ⟨⟨e0, e1⟩, _, _⟩ := cells2 BA2
          obtain ⟨⟨f0, f1⟩, _, _⟩ := cells2 BB2
          have BBm := blk_other (blk_other BB n1.symm (i := 0) (u := .float .f64 x1)) n1.symm (i := 1) (u := .float .f64 y1)
          obtain ⟨_, g4, g5⟩ := cells2 BBm
          obtain ⟨cc, icc, hcall⟩ := cross_any (x1, y1) (x, y) p ij ii HP.out.1 mj mi HP.out.2
          have t1 : (FloatKind.f64.format.order y1 p.2 == some .lt || FloatKind.f64.format.order y1 p.2 == some .eq) = decide (Y (k + 1) ≤ py) := isI_leB ij.2 HP.out.1.2
          have t2 : (FloatKind.f64.format.order p.2 y == some .lt) = decide (py < Y k) := isI_lt HP.out.1.2 ii.2
          have t3 : (FloatKind.f64.format.order cc 0 == some .gt) = decide (0 < crI (X (k + 1)) (Y (k + 1)) (X k) (Y k) px py) := isI_gt icc isI_lit0
          have hrt := rt_sw (px := px) (py := py) (ax := X k) (ay := Y k) (bx := X (k + 1)) (by' := Y (k + 1)) sw
          generalize decide (Y (k + 1) ≤ py) = u1 at *
          generalize decide (py < Y k) = u2 at *
          generalize decide (0 < crI (X (k + 1)) (Y (k + 1)) (X k) (Y k) px py) = u3 at *
          have HRT := Lib.hid hrt
          have HL2 := Lib.hid L2
          have HP2 := Lib.hid BP2
          have hkz : k + 1 + 1 ≤ n := by omega
          clear hrt L2 BP2 L1 BA BB BP ii mi ij mj icc sw n1 n2 n3 n4 n5 HII BA2 BB2 BBm
          cases u1 with
          | false =>
            clear t2
            clear hcall t3
            have HL4 := HL2
            have HP4 := HP2
            go_wp2
            go_roundw
            case rel => exact ⟨k + 1, c, by omega, by go_num, rfl, Lib.hid (by unfold inB; rw [HRT.out, ← HI.out]; cases c <;> rfl), HP4.out |> Lib.hid, HL4.out⟩
            case measure => simp [intOf]; omega
          | true =>
            cases u2 with
            | false =>
              clear hcall t3
              have HL4 := HL2
              have HP4 := HP2
              go_wp2
              go_roundw
              case rel => exact ⟨k + 1, c, by omega, by go_num, rfl, Lib.hid (by unfold inB; rw [HRT.out, ← HI.out]; cases c <;> rfl), HP4.out |> Lib.hid, HL4.out⟩
              case measure => simp [intOf]; omega
            | true =>
              cases u3 with
              | false =>
                go_wp2_with fail
                refine (hcall _).mono ?_
                rintro e w4 ⟨rfl, hb4⟩
                have HL4 := Lib.hid (HL2.out.trans (hb4.mono HL2.out.size))
                have HP4 := Lib.hid (blk_below HP2.out hb4 (Array.getElem?_eq_some_iff.1 HP2.out).1)
                clear hb4 hcall a0 a1 b0 b1 g0 g1 g2 g3 q0 q1 e0 e1 f0 f1 g4 g5
                go_wp2
                go_roundw
                case rel => exact ⟨k + 1, c, by omega, by go_num, rfl, Lib.hid (by unfold inB; rw [HRT.out, ← HI.out]; cases c <;> rfl), HP4.out |> Lib.hid, HL4.out⟩
                case measure => simp [intOf]; omega
              | true =>
                go_wp2_with fail
                refine (hcall _).mono ?_
                rintro e w4 ⟨rfl, hb4⟩
                have HL4 := Lib.hid (HL2.out.trans (hb4.mono HL2.out.size))
                have HP4 := Lib.hid (blk_below HP2.out hb4 (Array.getElem?_eq_some_iff.1 HP2.out).1)
                clear hb4 hcall a0 a1 b0 b1 g0 g1 g2 g3 q0 q1 e0 e1 f0 f1 g4 g5
                go_wp2
                go_roundw
                case rel => exact ⟨k + 1, (!c), by omega, by go_num, rfl, Lib.hid (by unfold inB; rw [HRT.out, ← HI.out]; cases c <;> rfl), HP4.out |> Lib.hid, HL4.out⟩
                case measure => simp [intOf]; omega
        · rw [decide_eq_false sw] at hgt
          have BP2 := BP
          have L2 := L1
          obtain ⟨⟨a0, a1⟩, g0, g1⟩ := cells2 BA
          obtain ⟨⟨b0, b1⟩, g2, g3⟩ := cells2 BB
          obtain ⟨⟨q0, q1⟩, _, _⟩ := cells2 BP2
          obtain ⟨cc, icc, hcall⟩ := cross_any (x, y) (x1, y1) p ii ij HP.out.1 mi mj HP.out.2
          have t1 : (FloatKind.f64.format.order y p.2 == some .lt || FloatKind.f64.format.order y p.2 == some .eq) = decide (Y k ≤ py) := isI_leB ii.2 HP.out.1.2
          have t2 : (FloatKind.f64.format.order p.2 y1 == some .lt) = decide (py < Y (k + 1)) := isI_lt HP.out.1.2 ij.2
          have t3 : (FloatKind.f64.format.order cc 0 == some .gt) = decide (0 < crI (X k) (Y k) (X (k + 1)) (Y (k + 1)) px py) := isI_gt icc isI_lit0
          have hrt := rt_no (px := px) (py := py) (ax := X k) (ay := Y k) (bx := X (k + 1)) (by' := Y (k + 1)) sw
          generalize decide (Y k ≤ py) = u1 at *
          generalize decide (py < Y (k + 1)) = u2 at *
          generalize decide (0 < crI (X k) (Y k) (X (k + 1)) (Y (k + 1)) px py) = u3 at *
          have HRT := Lib.hid hrt
          have HL2 := Lib.hid L2
          have HP2 := Lib.hid BP2
          have hkz : k + 1 + 1 ≤ n := by omega
          clear hrt L2 BP2 L1 BA BB BP ii mi ij mj icc sw n1 n2 n3 n4 n5 HII
          cases u1 with
          | false =>
            clear t2
            clear hcall t3
            have HL4 := HL2
            have HP4 := HP2
            go_wp2
            go_roundw
            case rel => exact ⟨k + 1, c, by omega, by go_num, rfl, Lib.hid (by unfold inB; rw [HRT.out, ← HI.out]; cases c <;> rfl), HP4.out |> Lib.hid, HL4.out⟩
            case measure => simp [intOf]; omega
          | true =>
            cases u2 with
            | false =>
              clear hcall t3
              have HL4 := HL2
              have HP4 := HP2
              go_wp2
              go_roundw
              case rel => exact ⟨k + 1, c, by omega, by go_num, rfl, Lib.hid (by unfold inB; rw [HRT.out, ← HI.out]; cases c <;> rfl), HP4.out |> Lib.hid, HL4.out⟩
              case measure => simp [intOf]; omega
            | true =>
              cases u3 with
              | false =>
                go_wp2_with fail
                refine (hcall _).mono ?_
                rintro e w4 ⟨rfl, hb4⟩
                have HL4 := Lib.hid (HL2.out.trans (hb4.mono HL2.out.size))
                have HP4 := Lib.hid (blk_below HP2.out hb4 (Array.getElem?_eq_some_iff.1 HP2.out).1)
                clear hb4 hcall a0 a1 b0 b1 g0 g1 g2 g3 q0 q1
                go_wp2
                go_roundw
                case rel => exact ⟨k + 1, c, by omega, by go_num, rfl, Lib.hid (by unfold inB; rw [HRT.out, ← HI.out]; cases c <;> rfl), HP4.out |> Lib.hid, HL4.out⟩
                case measure => simp [intOf]; omega
              | true =>
                go_wp2_with fail
                refine (hcall _).mono ?_
                rintro e w4 ⟨rfl, hb4⟩
                have HL4 := Lib.hid (HL2.out.trans (hb4.mono HL2.out.size))
                have HP4 := Lib.hid (blk_below HP2.out hb4 (Array.getElem?_eq_some_iff.1 HP2.out).1)
                clear hb4 hcall a0 a1 b0 b1 g0 g1 g2 g3 q0 q1
                go_wp2
                go_roundw
                case rel => exact ⟨k + 1, (!c), by omega, by go_num, rfl, Lib.hid (by unfold inB; rw [HRT.out, ← HI.out]; cases c <;> rfl), HP4.out |> Lib.hid, HL4.out⟩
                case measure => simp [intOf]; omega
    · have hkn : k = n - 1 := by omega
      have hnlt : ¬ ((k : Int) + 1 < (n : Int)) := by omega
      have HB := Lib.hid hb
      have HF : Hid (c = inB px py X Y (n - 1)) := Lib.hid (by rw [← hkn]; exact HI.out)
      clear hb hkn
      go_wp2
      go_ret
      rw [HF.out]
      exact ⟨rfl, HB.out⟩
end Go.Proofs.YtpbhpplmokdkhaaDoor
