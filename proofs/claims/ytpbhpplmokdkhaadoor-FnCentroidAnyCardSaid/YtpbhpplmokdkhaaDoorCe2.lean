/- The walk of spec.IsSimple. -/
import Derived.Test.YtpbhpplmokdkhaaDoorCe1
import Derived.Test.YtpbhpplmokdkhaaDoorHa4
import Derived.Test.YtpbhpplmokdkhaaDoorOr
import Derived.Deep.CutRange
import Derived.Deep.RegionHeld3
set_option linter.unusedVariables false
namespace Go.Proofs.YtpbhpplmokdkhaaDoor
open Go.RowKit Go.WideShapes Fl

/-- What is asked of a pair of sides. -/
def PairOk (X Y : Nat → Int) (n i k : Nat) : Prop :=
  if k = i + 1 then ¬ Ry.On (X (k + 1)) (Y (k + 1)) (X i) (Y i) (X (i + 1)) (Y (i + 1)) ∧ ¬ Ry.On (X i) (Y i) (X k) (Y k) (X (k + 1)) (Y (k + 1))
  else if i = 0 ∧ k + 1 = n then ¬ Ry.On (X k) (Y k) (X i) (Y i) (X (i + 1)) (Y (i + 1)) ∧ ¬ Ry.On (X (i + 1)) (Y (i + 1)) (X k) (Y k) (X (k + 1)) (Y (k + 1))
  else ¬ Cn.Meet (X i) (Y i) (X (i + 1)) (Y (i + 1)) (X k) (Y k) (X (k + 1)) (Y (k + 1))
def RowOk (X Y : Nat → Int) (n i : Nat) : Prop := (X i ≠ X (i + 1) ∨ Y i ≠ Y (i + 1)) ∧ ∀ k, i < k → k < n → PairOk X Y n i k
theorem simple_of {X Y : Nat → Int} {n : Nat} (n3 : 3 ≤ n) (h : ∀ i, i < n → RowOk X Y n i) : Cn.SimpleI X Y n := by
  refine ⟨fun i hi => (h i hi).1, fun i hi => ?_, ?_, fun i k h1 h2 h3 => ?_⟩
  · have := (h i (by omega)).2 (i + 1) (by omega) hi
    unfold PairOk at this
    rw [if_pos rfl] at this
    exact this
  · have := (h 0 (by omega)).2 (n - 1) (by omega) (by omega)
    unfold PairOk at this
    rw [if_neg (by omega), if_pos ⟨rfl, by omega⟩, show n - 1 + 1 = n by omega] at this
    exact this
  · have := (h i (by omega)).2 k (by omega) h2
    unfold PairOk at this
    rw [if_neg (by omega), if_neg h3] at this
    exact this
theorem pair_next {X Y : Nat → Int} {n i k : Nat} (e : k = i + 1) (h1 : ¬ Ry.On (X (k + 1)) (Y (k + 1)) (X i) (Y i) (X (i + 1)) (Y (i + 1))) (h2 : ¬ Ry.On (X i) (Y i) (X k) (Y k) (X (k + 1)) (Y (k + 1))) : PairOk X Y n i k := by
  unfold PairOk; rw [if_pos e]; exact ⟨h1, h2⟩
theorem pair_last {X Y : Nat → Int} {n i k : Nat} (e : ¬ k = i + 1) (e' : i = 0 ∧ k + 1 = n) (h1 : ¬ Ry.On (X k) (Y k) (X i) (Y i) (X (i + 1)) (Y (i + 1))) (h2 : ¬ Ry.On (X (i + 1)) (Y (i + 1)) (X k) (Y k) (X (k + 1)) (Y (k + 1))) : PairOk X Y n i k := by
  unfold PairOk; rw [if_neg e, if_pos e']; exact ⟨h1, h2⟩
theorem pair_default {X Y : Nat → Int} {n i k : Nat} (e : ¬ k = i + 1) (e' : ¬ (i = 0 ∧ k + 1 = n)) (h : ¬ Cn.Meet (X i) (Y i) (X (i + 1)) (Y (i + 1)) (X k) (Y k) (X (k + 1)) (Y (k + 1))) : PairOk X Y n i k := by
  unfold PairOk; rw [if_neg e, if_neg e']; exact h
theorem pair_step {X Y : Nat → Int} {n i k : Nat} (h : ∀ j, i < j → j < k → PairOk X Y n i j) (h' : PairOk X Y n i k) : ∀ j, i < j → j < k + 1 → PairOk X Y n i j := fun j h1 h2 => by
  by_cases e : j = k
  · rw [e]; exact h'
  · exact h j h1 (by omega)
theorem row_step {X Y : Nat → Int} {n i : Nat} (h : ∀ j, j < i → RowOk X Y n j) (h' : RowOk X Y n i) : ∀ j, j < i + 1 → RowOk X Y n j := fun j h2 => by
  by_cases e : j = i
  · rw [e]; exact h'
  · exact h j (by omega)
theorem eql_pt2 {x y x' y' : Nat} {c d : Bool} (h1 : (FloatKind.f64.format.order x x' == some .eq) = c) (h2 : (FloatKind.f64.format.order y y' == some .eq) = d) (w : World) :
    (binOp .eql 31 (.agg #[.float .f64 x, .float .f64 y]) (.agg #[.float .f64 x', .float .f64 y'])).run Tryd.prog w = .ok (.bool (c && d)) w := by
  have q1 := eq_float2 h1
  have q2 := eq_float2 h2
  clear h1 h2
  cases c <;> cases d <;> go_simp
section
variable (w : World) (c0 c1 c2 c3 : Array Value) {T0 T1 T2 T3 : TypeId}
theorem n4_0 : Blk ((((w.alloc (.cells c0 T0)).alloc (.cells c1 T1)).alloc (.cells c2 T2)).alloc (.cells c3 T3)) w.heap.size c0 T0 := blk_alloc (blk_alloc (blk_alloc (heap_alloc_new w _) _) _) _
theorem n4_1 : Blk ((((w.alloc (.cells c0 T0)).alloc (.cells c1 T1)).alloc (.cells c2 T2)).alloc (.cells c3 T3)) (w.heap.size + 1) c1 T1 := blk_alloc (blk_alloc (blk_new2b w c0 c1) _) _
theorem n4_2 : Blk ((((w.alloc (.cells c0 T0)).alloc (.cells c1 T1)).alloc (.cells c2 T2)).alloc (.cells c3 T3)) (w.heap.size + 1 + 1) c2 T2 := by
  have := blk_new2b (w.alloc (.cells c0 T0)) c1 c2 (T := T1) (U := T2)
  rw [World.size_alloc] at this
  exact blk_alloc this _
theorem n4_3 : Blk ((((w.alloc (.cells c0 T0)).alloc (.cells c1 T1)).alloc (.cells c2 T2)).alloc (.cells c3 T3)) (w.heap.size + 1 + 1 + 1) c3 T3 := by
  have := blk_new2b ((w.alloc (.cells c0 T0)).alloc (.cells c1 T1)) c2 c3 (T := T2) (U := T3)
  rw [World.size_alloc, World.size_alloc] at this
  exact this
theorem keep8a {w : World} {o : Obj} {a b c d e f g h : Addr} {va vb vc vd ve vf vg vh : Value} (H : w.cell? a = some va ∧ w.cell? b = some vb ∧ w.cell? c = some vc ∧ w.cell? d = some vd ∧ w.cell? e = some ve ∧ w.cell? f = some vf ∧ w.cell? g = some vg ∧ w.cell? h = some vh) :
    (w.alloc o).cell? a = some va ∧ (w.alloc o).cell? b = some vb ∧ (w.alloc o).cell? c = some vc ∧ (w.alloc o).cell? d = some vd ∧ (w.alloc o).cell? e = some ve ∧ (w.alloc o).cell? f = some vf ∧ (w.alloc o).cell? g = some vg ∧ (w.alloc o).cell? h = some vh :=
  keep8 ((Below.refl w.heap.size w).alloc (Nat.le_refl _) o) H
theorem n4_below {w0 : World} (h : Below w0.heap.size w0 w) : Below w0.heap.size w0 ((((w.alloc (.cells c0 T0)).alloc (.cells c1 T1)).alloc (.cells c2 T2)).alloc (.cells c3 T3)) := by
  have hs := h.size
  exact (((h.alloc hs _).alloc (by simp; omega) _).alloc (by simp; omega) _).alloc (by simp; omega) _
end

set_option maxRecDepth 100000 in
set_option maxHeartbeats 16000000 in
theorem simple_any {w : World} {v : Value} {ps : List (Nat × Nat)} (hv : IsPts w v ps) (hwf : Wf ps) (hn : ps.length * 16 ≤ 140737488351232) :
    Calls Tryd.prog 27 #[v] w fun e w' => ∃ c, e = .returned (.bool c) ∧ (c = true → ∃ X Y, RingD ps X Y ∧ Rg.SH X Y (ps.length - 1) ≠ 0 ∧ Cn.SimpleI X Y (ps.length - 1)) ∧ Below w.heap.size w w' := by
  have hring := isRing_any hv hwf hn
  obtain ⟨ao, cap, rfl, hv'⟩ := hv
  obtain ⟨n, hn'⟩ : ∃ n, n = ps.length := ⟨_, rfl⟩
  rw [← hn'] at hring ⊢
  have HN : Hid (ps.length = n) := Lib.hid hn'.symm
  clear hwf hn hn'
  go_enter Tryd.func27, Tryd.ntmps27
  go_wp2_with fail
  refine hring.mono ?_
  rintro e w2 ⟨c, rfl, hc, hb2⟩
  have HB2 := Lib.hid hb2
  clear hb2 hring
  cases c with
  | false =>
    clear hv'
    go_wp2
    go_ret
    exact ⟨false, rfl, fun h => Bool.noConfusion h, HB2.out⟩
  | true =>
  obtain ⟨X, Y, hr⟩ := hc rfl
  have HR := Lib.hid hr
  have h4 : 4 ≤ n := by have := hr.four; have := HN.out; omega
  have h100 : n ≤ 100 := by have := hr.most; have := HN.out; omega
  have hqs : ∃ b off, ao = some ⟨b, off, none⟩ ∧ PtsAt w b off ps := by
    rcases hv' with h | h
    · have h9 := HN.out; rw [h] at h9; simp at h9; omega
    · exact h
  obtain ⟨b, off, rfl, hps⟩ := hqs
  have HPS := Lib.hid hps
  have HD := Lib.hid hr.dat
  have hnn : (n : Int) ≤ 100 := by omega
  have h4n : (4 : Int) ≤ n := by omega
  have hnw : IntKind.i64.wrap ((n : Int) - 1) = (n : Int) - 1 := IntWalk.i64_in _ (by omega)
  have K2 := Lib.hid (fun W (h : Below w.heap.size w W) => turn_any n cap b off ps X Y W HN.out (by omega) h100 (hps.below h) hr.dat)
  obtain ⟨sg0, hsg⟩ : ∃ s, s = sgn (Rg.SH X Y (n - 1)) := ⟨_, rfl⟩
  rw [← hsg] at K2
  have HSG := Lib.hid hsg
  clear hps hsg hv' hc hr
  go_wp2_with fail
  refine (K2.out _ HB2.out).mono ?_
  rintro e w3 ⟨rfl, hb3⟩
  have HB3 := Lib.hid (HB2.out.trans (hb3.mono HB2.out.size))
  clear hb3 K2 HB2
  by_cases hs0 : sg0 = 0
  · have es0 : (sg0 == 0) = true := by rw [hs0]; rfl
    have es1 : decide (sg0 = 0) = true := decide_eq_true hs0
    clear hs0
    go_wp2
    go_ret
    exact ⟨false, rfl, fun h => Bool.noConfusion h, HB3.out⟩
  have es0 : (sg0 == 0) = false := by simp [hs0]
  have es1 : decide (sg0 = 0) = false := decide_eq_false hs0
  have HSH : Hid (Rg.SH X Y (n - 1) ≠ 0) := Lib.hid (fun h => hs0 (by rw [HSG.out, h]; rfl))
  go_wp2
  clear es0 es1 hs0 HSG
  go_loopw [4, 5, 6, 7, 8, 9, 22, 65, 80] (fun _ _ _ _ _ _ iv _ _ wr => ∃ i : Nat, i + 1 ≤ n ∧ iv = .int .i64 i ∧ Hid (∀ j, j < i → RowOk X Y (n - 1) j) ∧ Below w.heap.size w wr) (fun _ _ _ _ _ _ iv _ _ _ => n - (intOf iv).toNat)
  case atStart => exact ⟨0, by omega, rfl, Lib.hid (fun j hj => by omega), HB3.out⟩
  case round =>
    obtain ⟨i, hi, rfl, HI, hb⟩ := hrel
    by_cases hlt : i + 1 < n
    · have hil : i < ps.length := by have := HN.out; omega
      have hjl : i + 1 < ps.length := by have := HN.out; omega
      have hpi : ps[i]? = some ps[i] := List.getElem?_eq_getElem hil
      have hpj : ps[i + 1]? = some ps[i + 1] := List.getElem?_eq_getElem hjl
      obtain ⟨ii, mi⟩ := HD.out i _ hpi
      obtain ⟨ij, mj⟩ := HD.out (i + 1) _ hpj
      obtain ⟨c0, c1⟩ := HPS.out i _ hpi
      obtain ⟨d0, d1⟩ := HPS.out (i + 1) _ hpj
      obtain ⟨p, hpe⟩ : ∃ p, p = ps[i] := ⟨_, rfl⟩
      obtain ⟨q, hpe1⟩ : ∃ p, p = ps[i + 1] := ⟨_, rfl⟩
      rw [← hpe] at ii c0 c1
      rw [← hpe1] at ij d0 d1
      have c0' := cell_later hb c0
      have c1' := cell_later hb c1
      have d0' := cell_later hb d0
      have d1' := cell_later hb d1
      have e1 : (FloatKind.f64.format.order p.1 q.1 == some .eq) = decide (X i = X (i + 1)) := isI_eq ii.1 ij.1
      have e2 : (FloatKind.f64.format.order p.2 q.2 == some .eq) = decide (Y i = Y (i + 1)) := isI_eq ii.2 ij.2
      have qe := eql_pt2 e1 e2
      obtain ⟨same, hsame⟩ : ∃ z, z = (decide (X i = X (i + 1)) && decide (Y i = Y (i + 1))) := ⟨_, rfl⟩
      rw [← hsame] at qe
      have HSA := Lib.hid hsame
      have HIJ := Lib.hid (And.intro ii (And.intro mi (And.intro ij mj)))
      have HCI := Lib.hid (And.intro c0 (And.intro c1 (And.intro d0 d1)))
      have hki : (i : Int) < n := by omega
      have hki1 : (i : Int) + 1 < n := by omega
      have hki3 : (i : Int) < (n : Int) - 1 := by omega
      have hk0 : (0 : Int) ≤ i := by omega
      have hk1 : (0 : Int) ≤ (i : Int) + 1 := by omega
      have hkt : ((i : Int) + 1).toNat = i + 1 := by omega
      have hwk1 : IntKind.i64.wrap ((i : Int) + 1) = (i : Int) + 1 := IntWalk.i64_in _ (by omega)
      have HB := Lib.hid hb
      clear hb c0 c1 d0 d1 hpi hpj hpe hpe1 hil hjl ii ij mi mj e1 e2 hsame
      go_wp2_with fail
      go_region_held3 (fun w' => w'.cell? ⟨b, off + i * 2, none⟩ = some (.float .f64 p.1) ∧ w'.cell? ⟨b, off + i * 2 + 1, none⟩ = some (.float .f64 p.2) ∧ w'.cell? ⟨b, off + (i + 1) * 2, none⟩ = some (.float .f64 q.1) ∧ w'.cell? ⟨b, off + (i + 1) * 2 + 1, none⟩ = some (.float .f64 q.2))
        (first | exact ⟨c0', c1', d0', d1'⟩ | go_keep)
        (fail)
      clear c0' c1' d0' d1'
      have HBd := Lib.hid HB.out.drew
      clear HB
      cases same with
      | true =>
        go_wp2
        go_ret
        exact ⟨false, rfl, fun h => Bool.noConfusion h, HBd.out⟩
      | false =>
        have HNE : Hid (X i ≠ X (i + 1) ∨ Y i ≠ Y (i + 1)) := Lib.hid (by
          have := HSA.out.symm
          by_cases hx : X i = X (i + 1)
          · right
            intro hy
            rw [decide_eq_true hx, decide_eq_true hy] at this
            cases this
          · exact .inl hx)
        clear HSA qe
        go_wp2
        go_loopw [5, 6, 7, 8, 9, 65, 80] (fun kv _ _ _ _ _ _ wq => ∃ k : Nat, i + 1 ≤ k ∧ k + 1 ≤ n ∧ kv = .int .i64 k ∧ Hid (∀ j, i < j → j < k → PairOk X Y (n - 1) i j) ∧ Below w.heap.size w wq) (fun kv _ _ _ _ _ _ _ => n - (intOf kv).toNat)
        case atStart => exact ⟨i + 1, by omega, by omega, rfl, Lib.hid (fun j h1 h2 => by omega), HBd.out⟩
        case round =>
          obtain ⟨k, hk1', hk2', rfl, HK, hbq⟩ := hrel
          by_cases hlk : k + 1 < n
          · have hil : k < ps.length := by have := HN.out; omega
            have hjl : k + 1 < ps.length := by have := HN.out; omega
            have hpi : ps[k]? = some ps[k] := List.getElem?_eq_getElem hil
            have hpj : ps[k + 1]? = some ps[k + 1] := List.getElem?_eq_getElem hjl
            obtain ⟨ik, mk⟩ := HD.out k _ hpi
            obtain ⟨il, ml⟩ := HD.out (k + 1) _ hpj
            obtain ⟨g0, g1⟩ := HPS.out k _ hpi
            obtain ⟨h0, h1⟩ := HPS.out (k + 1) _ hpj
            obtain ⟨r, hpe⟩ : ∃ p, p = ps[k] := ⟨_, rfl⟩
            obtain ⟨s, hpe1⟩ : ∃ p, p = ps[k + 1] := ⟨_, rfl⟩
            rw [← hpe] at ik g0 g1
            rw [← hpe1] at il h0 h1
            have G0 := cell_later hbq g0
            have G1 := cell_later hbq g1
            have H0 := cell_later hbq h0
            have H1 := cell_later hbq h1
            have C0 := cell_later hbq HCI.out.1
            have C1 := cell_later hbq HCI.out.2.1
            have D0 := cell_later hbq HCI.out.2.2.1
            have D1 := cell_later hbq HCI.out.2.2.2
            have HKL := Lib.hid (And.intro ik (And.intro mk (And.intro il ml)))
            have hq1 : (k : Int) < n := by omega
            have hq2 : (k : Int) + 1 < n := by omega
            have hq3 : (k : Int) < (n : Int) - 1 := by omega
            have hq4 : (0 : Int) ≤ k := by omega
            have hq5 : (0 : Int) ≤ (k : Int) + 1 := by omega
            have hq6 : ((k : Int) + 1).toNat = k + 1 := by omega
            have hq7 : IntKind.i64.wrap ((k : Int) + 1) = (k : Int) + 1 := IntWalk.i64_in _ (by omega)
            have hnw2 : IntKind.i64.wrap ((n : Int) - 1 - 1) = (n : Int) - 1 - 1 := IntWalk.i64_in _ (by omega)
            have HBq := Lib.hid hbq
            clear hbq g0 g1 h0 h1 hpi hpj hpe hpe1 hil hjl ik mk il ml
            go_wp2_with fail
            go_cut [6, 7, 8, 9] from 42 to 59 (fun s6 s7 s8 s9 wx => ∃ ga gb gc gd : Nat, s6 = .pointer (some ⟨ga, 0, none⟩) ∧ s7 = .pointer (some ⟨gb, 0, none⟩) ∧ s8 = .pointer (some ⟨gc, 0, none⟩) ∧ s9 = .pointer (some ⟨gd, 0, none⟩) ∧
              Hid (Blk wx ga #[.float .f64 p.1, .float .f64 p.2] 31 ∧ Blk wx gb #[.float .f64 q.1, .float .f64 q.2] 31 ∧ Blk wx gc #[.float .f64 r.1, .float .f64 r.2] 31 ∧ Blk wx gd #[.float .f64 s.1, .float .f64 s.2] 31) ∧ Hid (Below w.heap.size w wx))
            case first =>
              go_region_held3 (fun w' => w'.cell? ⟨b, off + i * 2, none⟩ = some (.float .f64 p.1) ∧ w'.cell? ⟨b, off + i * 2 + 1, none⟩ = some (.float .f64 p.2) ∧ w'.cell? ⟨b, off + (i + 1) * 2, none⟩ = some (.float .f64 q.1) ∧ w'.cell? ⟨b, off + (i + 1) * 2 + 1, none⟩ = some (.float .f64 q.2) ∧ w'.cell? ⟨b, off + k * 2, none⟩ = some (.float .f64 r.1) ∧ w'.cell? ⟨b, off + k * 2 + 1, none⟩ = some (.float .f64 r.2) ∧ w'.cell? ⟨b, off + (k + 1) * 2, none⟩ = some (.float .f64 s.1) ∧ w'.cell? ⟨b, off + (k + 1) * 2 + 1, none⟩ = some (.float .f64 s.2))
                (first | exact ⟨C0, C1, D0, D1, G0, G1, H0, H1⟩ | exact (keep8a ⟨C0, C1, D0, D1, G0, G1, H0, H1⟩) | exact (keep8a (keep8a ⟨C0, C1, D0, D1, G0, G1, H0, H1⟩)) | exact (keep8a (keep8a (keep8a ⟨C0, C1, D0, D1, G0, G1, H0, H1⟩))) | exact (keep8a (keep8a (keep8a (keep8a ⟨C0, C1, D0, D1, G0, G1, H0, H1⟩)))) | go_keep)
                (fail)
              all_goals (go_wp2_with fail; go_meet)
              all_goals (refine ⟨_, _, _, _, rfl, rfl, rfl, rfl, Lib.hid ⟨?_, ?_, ?_, ?_⟩, Lib.hid ?_⟩)
              all_goals first
                | exact blk_drew (n4_0 _ _ _ _ _)
                | exact blk_drew (n4_1 _ _ _ _ _)
                | exact blk_drew (n4_2 _ _ _ _ _)
                | exact blk_drew (n4_3 _ _ _ _ _)
                | exact (n4_below _ _ _ _ _ HBq.out).drew
            case rest =>
              obtain ⟨ga, gb, gc, gd, rfl, rfl, rfl, rfl, HQ, HLc⟩ := hcut
              clear C0 C1 D0 D1 G0 G1 H0 H1 HBq
              obtain ⟨⟨a0, a1⟩, _, _⟩ := cells2 HQ.out.1
              obtain ⟨⟨b0, b1⟩, _, _⟩ := cells2 HQ.out.2.1
              obtain ⟨⟨c0, c1⟩, _, _⟩ := cells2 HQ.out.2.2.1
              obtain ⟨⟨d0, d1⟩, _, _⟩ := cells2 HQ.out.2.2.2
              by_cases ek : k = i + 1
              · have e1 : ((k : Int) == (i : Int) + 1) = true := by rw [ek]; simp
                have e2 : decide ((k : Int) = (i : Int) + 1) = true := decide_eq_true (by omega)
                have HX := Lib.hid ek
                clear ek
                have K1 := fun W => on_any p q s HIJ.out.1 HIJ.out.2.2.1 HKL.out.2.2.1 HIJ.out.2.1 HIJ.out.2.2.2 HKL.out.2.2.2 W
                have K2 := Lib.hid (fun W => on_any r s p HKL.out.1 HKL.out.2.2.1 HIJ.out.1 HKL.out.2.1 HKL.out.2.2.2 HIJ.out.2.1 W)
                obtain ⟨y1, hy1⟩ : ∃ z, z = decide (Ry.On (X (k + 1)) (Y (k + 1)) (X i) (Y i) (X (i + 1)) (Y (i + 1))) := ⟨_, rfl⟩
                obtain ⟨y2, hy2⟩ : ∃ z, z = decide (Ry.On (X i) (Y i) (X k) (Y k) (X (k + 1)) (Y (k + 1))) := ⟨_, rfl⟩
                rw [← hy1] at K1
                rw [← hy2] at K2
                have HY1 := Lib.hid hy1
                have HY2 := Lib.hid hy2
                clear hy1 hy2
                go_wp2_with fail
                clear a0 a1 b0 b1 c0 c1 d0 d1
                refine (K1 _).mono ?_
                rintro e w5 ⟨rfl, hb5⟩
                have HL5 := Lib.hid (HLc.out.trans (hb5.mono HLc.out.size))
                obtain ⟨⟨a0, a1⟩, _, _⟩ := cells2 (blk_below HQ.out.1 hb5 (Array.getElem?_eq_some_iff.1 HQ.out.1).1)
                obtain ⟨⟨b0, b1⟩, _, _⟩ := cells2 (blk_below HQ.out.2.1 hb5 (Array.getElem?_eq_some_iff.1 HQ.out.2.1).1)
                obtain ⟨⟨c0, c1⟩, _, _⟩ := cells2 (blk_below HQ.out.2.2.1 hb5 (Array.getElem?_eq_some_iff.1 HQ.out.2.2.1).1)
                obtain ⟨⟨d0, d1⟩, _, _⟩ := cells2 (blk_below HQ.out.2.2.2 hb5 (Array.getElem?_eq_some_iff.1 HQ.out.2.2.2).1)
                clear hb5 K1
                cases y1 with
                | true =>
                  go_wp2
                  go_ret
                  exact ⟨false, rfl, fun h => Bool.noConfusion h, HL5.out⟩
                | false =>
                  go_wp2_with fail
                  clear a0 a1 b0 b1 c0 c1 d0 d1
                  refine (K2.out _).mono ?_
                  rintro e w6 ⟨rfl, hb6⟩
                  have HL6 := Lib.hid (HL5.out.trans (hb6.mono HL5.out.size))
                  clear hb6 K2
                  cases y2 with
                  | true =>
                    go_wp2
                    go_ret
                    exact ⟨false, rfl, fun h => Bool.noConfusion h, HL6.out⟩
                  | false =>
                    have HPO : Hid (PairOk X Y (n - 1) i k) := Lib.hid (pair_next HX.out (of_decide_eq_false HY1.out.symm) (of_decide_eq_false HY2.out.symm))
                    go_wp2
                    go_roundw
                    case rel => exact ⟨k + 1, by omega, by omega, by go_num, Lib.hid (pair_step HK.out HPO.out), HL6.out⟩
                    case measure => simp [intOf]; omega
              · have e1 : ((k : Int) == (i : Int) + 1) = false := by simp; omega
                have e2 : decide ((k : Int) = (i : Int) + 1) = false := decide_eq_false (by omega)
                by_cases ei : i = 0
                · have e3 : ((i : Int) == 0) = true := by rw [ei]; rfl
                  have e4 : decide ((i : Int) = 0) = true := decide_eq_true (by omega)
                  by_cases el : k + 1 = n - 1
                  · have e5 : ((k : Int) == (n : Int) - 1 - 1) = true := by simp; omega
                    have e6 : decide ((k : Int) = (n : Int) - 1 - 1) = true := decide_eq_true (by omega)
                    have HX := Lib.hid (And.intro ek (And.intro ei el))
                    clear ek ei el
                    have K1 := fun W => on_any p q r HIJ.out.1 HIJ.out.2.2.1 HKL.out.1 HIJ.out.2.1 HIJ.out.2.2.2 HKL.out.2.1 W
                    have K2 := Lib.hid (fun W => on_any r s q HKL.out.1 HKL.out.2.2.1 HIJ.out.2.2.1 HKL.out.2.1 HKL.out.2.2.2 HIJ.out.2.2.2 W)
                    obtain ⟨y1, hy1⟩ : ∃ z, z = decide (Ry.On (X k) (Y k) (X i) (Y i) (X (i + 1)) (Y (i + 1))) := ⟨_, rfl⟩
                    obtain ⟨y2, hy2⟩ : ∃ z, z = decide (Ry.On (X (i + 1)) (Y (i + 1)) (X k) (Y k) (X (k + 1)) (Y (k + 1))) := ⟨_, rfl⟩
                    rw [← hy1] at K1
                    rw [← hy2] at K2
                    have HY1 := Lib.hid hy1
                    have HY2 := Lib.hid hy2
                    clear hy1 hy2
                    go_wp2_with fail
                    clear a0 a1 b0 b1 c0 c1 d0 d1
                    refine (K1 _).mono ?_
                    rintro e w5 ⟨rfl, hb5⟩
                    have HL5 := Lib.hid (HLc.out.trans (hb5.mono HLc.out.size))
                    obtain ⟨⟨a0, a1⟩, _, _⟩ := cells2 (blk_below HQ.out.1 hb5 (Array.getElem?_eq_some_iff.1 HQ.out.1).1)
                    obtain ⟨⟨b0, b1⟩, _, _⟩ := cells2 (blk_below HQ.out.2.1 hb5 (Array.getElem?_eq_some_iff.1 HQ.out.2.1).1)
                    obtain ⟨⟨c0, c1⟩, _, _⟩ := cells2 (blk_below HQ.out.2.2.1 hb5 (Array.getElem?_eq_some_iff.1 HQ.out.2.2.1).1)
                    obtain ⟨⟨d0, d1⟩, _, _⟩ := cells2 (blk_below HQ.out.2.2.2 hb5 (Array.getElem?_eq_some_iff.1 HQ.out.2.2.2).1)
                    clear hb5 K1
                    cases y1 with
                    | true =>
                      go_wp2
                      go_ret
                      exact ⟨false, rfl, fun h => Bool.noConfusion h, HL5.out⟩
                    | false =>
                      go_wp2_with fail
                      clear a0 a1 b0 b1 c0 c1 d0 d1
                      refine (K2.out _).mono ?_
                      rintro e w6 ⟨rfl, hb6⟩
                      have HL6 := Lib.hid (HL5.out.trans (hb6.mono HL5.out.size))
                      clear hb6 K2
                      cases y2 with
                      | true =>
                        go_wp2
                        go_ret
                        exact ⟨false, rfl, fun h => Bool.noConfusion h, HL6.out⟩
                      | false =>
                        have HPO : Hid (PairOk X Y (n - 1) i k) := Lib.hid (pair_last HX.out.1 HX.out.2 (of_decide_eq_false HY1.out.symm) (of_decide_eq_false HY2.out.symm))
                        go_wp2
                        go_roundw
                        case rel => exact ⟨k + 1, by omega, by omega, by go_num, Lib.hid (pair_step HK.out HPO.out), HL6.out⟩
                        case measure => simp [intOf]; omega
                  · have e5 : ((k : Int) == (n : Int) - 1 - 1) = false := by simp; omega
                    have e6 : decide ((k : Int) = (n : Int) - 1 - 1) = false := decide_eq_false (by omega)
                    have HX := Lib.hid (show k ≠ i + 1 ∧ ¬ (i = 0 ∧ k + 1 = n - 1) from ⟨ek, fun h => el h.2⟩)
                    clear ek ei el
                    have K1 := fun W => meet_any p q r s HIJ.out.1 HIJ.out.2.2.1 HKL.out.1 HKL.out.2.2.1 HIJ.out.2.1 HIJ.out.2.2.2 HKL.out.2.1 HKL.out.2.2.2 W
                    obtain ⟨y1, hy1⟩ : ∃ z, z = decide (Cn.Meet (X i) (Y i) (X (i + 1)) (Y (i + 1)) (X k) (Y k) (X (k + 1)) (Y (k + 1))) := ⟨_, rfl⟩
                    rw [← hy1] at K1
                    have HY1 := Lib.hid hy1
                    clear hy1
                    go_wp2_with fail
                    clear a0 a1 b0 b1 c0 c1 d0 d1
                    refine (K1 _).mono ?_
                    rintro e w5 ⟨rfl, hb5⟩
                    have HL5 := Lib.hid (HLc.out.trans (hb5.mono HLc.out.size))
                    clear hb5 K1
                    cases y1 with
                    | true =>
                      go_wp2
                      go_ret
                      exact ⟨false, rfl, fun h => Bool.noConfusion h, HL5.out⟩
                    | false =>
                      have HPO : Hid (PairOk X Y (n - 1) i k) := Lib.hid (pair_default HX.out.1 HX.out.2 (of_decide_eq_false HY1.out.symm))
                      go_wp2
                      go_roundw
                      case rel => exact ⟨k + 1, by omega, by omega, by go_num, Lib.hid (pair_step HK.out HPO.out), HL5.out⟩
                      case measure => simp [intOf]; omega
                · have e3 : ((i : Int) == 0) = false := by simp; omega
                  have e4 : decide ((i : Int) = 0) = false := decide_eq_false (by omega)
                  have HX := Lib.hid (show k ≠ i + 1 ∧ ¬ (i = 0 ∧ k + 1 = n - 1) from ⟨ek, fun h => ei h.1⟩)
                  clear ek ei
                  have K1 := fun W => meet_any p q r s HIJ.out.1 HIJ.out.2.2.1 HKL.out.1 HKL.out.2.2.1 HIJ.out.2.1 HIJ.out.2.2.2 HKL.out.2.1 HKL.out.2.2.2 W
                  obtain ⟨y1, hy1⟩ : ∃ z, z = decide (Cn.Meet (X i) (Y i) (X (i + 1)) (Y (i + 1)) (X k) (Y k) (X (k + 1)) (Y (k + 1))) := ⟨_, rfl⟩
                  rw [← hy1] at K1
                  have HY1 := Lib.hid hy1
                  clear hy1
                  go_wp2_with fail
                  clear a0 a1 b0 b1 c0 c1 d0 d1
                  refine (K1 _).mono ?_
                  rintro e w5 ⟨rfl, hb5⟩
                  have HL5 := Lib.hid (HLc.out.trans (hb5.mono HLc.out.size))
                  clear hb5 K1
                  cases y1 with
                  | true =>
                    go_wp2
                    go_ret
                    exact ⟨false, rfl, fun h => Bool.noConfusion h, HL5.out⟩
                  | false =>
                    have HPO : Hid (PairOk X Y (n - 1) i k) := Lib.hid (pair_default HX.out.1 HX.out.2 (of_decide_eq_false HY1.out.symm))
                    go_wp2
                    go_roundw
                    case rel => exact ⟨k + 1, by omega, by omega, by go_num, Lib.hid (pair_step HK.out HPO.out), HL5.out⟩
                    case measure => simp [intOf]; omega
          · have hkn : k = n - 1 := by omega
            have hnlt : ¬ ((k : Int) < (n : Int) - 1) := by omega
            have HBq := Lib.hid hbq
            have HROW : Hid (RowOk X Y (n - 1) i) := Lib.hid ⟨HNE.out, fun j h1 h2 => HK.out j h1 (by omega)⟩
            clear hbq hkn
            go_wp2
            go_roundw
            case rel => exact ⟨i + 1, by omega, by go_num, Lib.hid (row_step HI.out HROW.out), HBq.out⟩
            case measure => simp [intOf]; omega
    · have hkn : i = n - 1 := by omega
      have hnlt : ¬ ((i : Int) < (n : Int) - 1) := by omega
      have HB := Lib.hid hb
      have HF : Hid (Rg.SH X Y (n - 1) ≠ 0 ∧ Cn.SimpleI X Y (n - 1)) := Lib.hid ⟨HSH.out, simple_of (by omega) (fun j hj => HI.out j (by omega))⟩
      clear hb hkn
      go_wp2
      go_ret
      first | exact ⟨true, rfl, fun _ => ⟨X, Y, HR.out, HF.out.1, HF.out.2⟩, HB.out⟩ | exact .inr ⟨rfl, ⟨X, Y, HR.out, HF.out.1, HF.out.2⟩, HB.out⟩
end Go.Proofs.YtpbhpplmokdkhaaDoor

