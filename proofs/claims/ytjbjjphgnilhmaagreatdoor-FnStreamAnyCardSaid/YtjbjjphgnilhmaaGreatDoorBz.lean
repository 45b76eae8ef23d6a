/- The walks of impl.polygonShape and impl.shapeOf. -/
import Derived.Test.YtjbjjphgnilhmaaGreatDoorBo
import Derived.Test.YtjbjjphgnilhmaaGreatDoorTa
import Derived.Deep.RegionLaw
set_option linter.unusedVariables false
namespace Go.Proofs.YtjbjjphgnilhmaaGreatDoor
open Go.RowKit


theorem cf_below {w w' : World} {a : Addr} {u : Value} (h : w.cell? a = some u ∧ w.frozen? a = false) (hb : Below w.heap.size w w') : w'.cell? a = some u ∧ w'.frozen? a = false :=
  ⟨cell_later hb h.1, (hb.frozen (World.block_lt_of_cell? w a h.1)).trans h.2⟩
theorem cf_alloc {w : World} {a : Addr} {u : Value} (h : w.cell? a = some u ∧ w.frozen? a = false) (o : Obj) : (w.alloc o).cell? a = some u ∧ (w.alloc o).frozen? a = false := cf_below h ((Below.refl _ _).alloc (Nat.le_refl _) o)
theorem cf_grown {w w' : World} {a : Addr} {u : Value} {row : Option Nat} (h : w.cell? a = some u ∧ w.frozen? a = false) (hg : w.grownBy w' row) (hne : row ≠ some a.block) : w'.cell? a = some u ∧ w'.frozen? a = false :=
  ⟨hg.cell h.1 (fun e => hne e.symm), (World.frozen?_of_block (hg.block a.block (World.block_lt_of_cell? w a h.1) (fun e => hne e.symm))).trans h.2⟩
theorem Blk.cf {w : World} {b : Nat} {cs : Array Value} {T : TypeId} (h : Blk w b cs T) {i : Nat} {v : Value} (hi : cs[i]? = some v) : w.cell? ⟨b, i, none⟩ = some v ∧ w.frozen? ⟨b, i, none⟩ = false := h.cell hi
theorem Blk.grown {w w' : World} {b : Nat} {cs : Array Value} {T : TypeId} {row : Option Nat} (h : Blk w b cs T) (hg : w.grownBy w' row) (hne : row ≠ some b) : Blk w' b cs T := (hg.block b h.lt (fun e => hne e.symm)).trans h
theorem below_drew_un {w w' : World} (h : Below w.drew.heap.size w.drew w') : Below w.heap.size w w' := ⟨h.os, h.tape, h.output, h.size, h.block⟩

theorem size26 : (Tryz.prog.info? 26).map (·.size) = some 3 := by kernel_rfl
set_option maxRecDepth 100000 in
set_option maxHeartbeats 1000000 in
/-- impl.polygonShape. -/
theorem pgs_any {E0 E1 : TypeId} (v : Value) (pss : List (List By.Pt)) (H : Knows) (lo : Nat) (w : World) (hv : rowIs (repRow repPt E0) E1 H v pss) (hH : Has lo H w) (hn : pss.length ≤ 2147483647) (hm : ∀ ps ∈ pss, ps.length ≤ 2147483647) :
    Calls Tryz.prog 25 #[v] w fun e w' => ∃ u, e = .returned (.agg #[.int .i64 3, u, .slice none 0 0]) ∧ Rowed True (repRow repPt 70) w.heap.size 52 w' u pss ∧ Below w.heap.size w w' := by
  obtain ⟨i0, hi, hz0, hz1, hz2⟩ := info_parts info52
  obtain ⟨g, cap, rfl, hcap⟩ := RowIs.form hv
  have HRW := Lib.hid (rows_at hv hH)
  have HHH := Lib.hid hH
  obtain ⟨n, hne⟩ : ∃ n, n = pss.length := ⟨_, rfl⟩
  rw [← hne] at hn hcap ⊢
  have HNE := Lib.hid (⟨hne, hm⟩ : _ ∧ _)
  have HI := Lib.hid (⟨hi, hz0, hz1, hz2⟩ : _ ∧ _ ∧ _ ∧ _)
  obtain ⟨W0, hW0⟩ : ∃ W, W = (w.alloc (.cells #[.int .i64 0, .slice none 0 0, .slice none 0 0] 26)).alloc (.cells #[.int .i64 3, .slice none 0 0, .slice none 0 0] 26) := ⟨_, rfl⟩
  have r0 : Blk W0 w.heap.size #[.int .i64 0, .slice none 0 0, .slice none 0 0] 26 := by rw [hW0]; exact (Blk.new w _ _).alloc _
  have s0 : Blk W0 (w.heap.size + 1) #[.int .i64 3, .slice none 0 0, .slice none 0 0] 26 := by
    have := Blk.new (w.alloc (.cells #[.int .i64 0, .slice none 0 0, .slice none 0 0] 26)) #[.int .i64 3, .slice none 0 0, .slice none 0 0] 26
    rw [World.size_alloc] at this
    rw [hW0]; exact this
  have z0 : w.heap.size + 2 ≤ W0.heap.size := by rw [hW0]; simp
  have b0 : Below w.heap.size w W0 := by rw [hW0]; exact ((Below.refl _ _).alloc (Nat.le_refl _) _).alloc (by simp) _
  have HS0 := Lib.hid (⟨r0, s0, b0, z0⟩ : _ ∧ _ ∧ _ ∧ _)
  have HW0 := Lib.hid hW0
  clear hv hH hne hi hz0 hz1 hz2 hm hW0 r0 s0 b0 z0
  go_enter Tryz.func25, Tryz.ntmps25
  go_wp2_with fail
  rw [← HW0.out]
  go_loopw [9] (fun jv wr => ∃ (j : Nat) (u : Value), j ≤ n ∧ jv = .int .i64 j ∧ Hid (Blk wr w.heap.size #[.int .i64 0, .slice none 0 0, .slice none 0 0] 26) ∧ Hid (Blk wr (w.heap.size + 1) #[.int .i64 3, u, .slice none 0 0] 26) ∧ Rowed True (repRow repPt 70) (w.heap.size + 2) 52 wr u (pss.take j) ∧ Hid (Below w.heap.size w wr ∧ w.heap.size + 2 ≤ wr.heap.size)) (fun jv _ => n - (intOf jv).toNat)
  case atStart => exact ⟨0, .slice none 0 0, Nat.zero_le _, rfl, Lib.hid HS0.out.1, Lib.hid HS0.out.2.1, Rowed.nil _ _ _ _, Lib.hid HS0.out.2.2⟩
  case round =>
    clear HS0
    obtain ⟨j, u, hj, rfl, HR0, HS, hR, HB⟩ := hrel
    by_cases hlt : j < n
    · have hp : pss[j]? = some (pss[j]'(by have := HNE.out.1; omega)) := List.getElem?_eq_getElem (by have := HNE.out.1; omega)
      obtain ⟨ps, hpe⟩ : ∃ ps, ps = pss[j]'(by have := HNE.out.1; omega) := ⟨_, rfl⟩
      rw [← hpe] at hp
      obtain ⟨x, c0, hx⟩ := HRW.out j ps hp
      have hps := HNE.out.2 ps (List.mem_of_getElem? hp)
      have d0 := cell_later HB.out.1 c0
      have hcall := fun (W : World) (hb : Below wr.heap.size wr W) => lof_any x ps H lo W hx ((HHH.out.below HB.out.1).below hb) hps
      obtain ⟨s1, f1⟩ := HS.out.cf (i := 1) (v := u) rfl
      have hsne : u.ownBlock ≠ some (w.heap.size + 1) := fun e => by have := (hR.lt _ e).1; omega
      have hrne : u.ownBlock ≠ some w.heap.size := fun e => by have := (hR.lt _ e).1; omega
      have HP := Lib.hid hp
      have htl : ((pss.take j)).length = j := by rw [List.length_take]; have := HNE.out.1; omega
      have HTL := Lib.hid htl
      have HC := Lib.hid hcall
      have HRR := Lib.hid hR
      have hsz := HB.out.2
      have hjn : (j : Int) < n := by omega
      obtain ⟨ao, uc, huf, _⟩ := hR.form
      have HUF := Lib.hid huf
      clear c0 hp htl hcall hR huf hpe hps hx
      go_wp2_with fail
      go_region_law
        ((first
          | (refine step_append_rowed (r := (repRow repPt 70)) rfl (.tmp 14) (.tmp 17) 23 rfl (lo := wr.heap.size) 52 52 i0 (.slice none 0 0) 24 Tryz.underlying23 HI.out.1 HI.out.2.1 HI.out.2.2.1 HI.out.2.2.2 rfl (by decide) u (pss.take j) rfl (HRR.out.below hb3) [.slice (some ⟨g3, 0, none⟩) ps.length cap3] ps K HK3.out ⟨_, rfl, HI3.out⟩ hsz (fun k hk => (HRR.out.lt k hk).2) #[.slice (some ⟨g3, 0, none⟩) ps.length cap3] rfl _ rfl (by simp) (by rw [HTL.out]; unfold maxLen; omega) (by rw [HTL.out]; omega) (by have := hb3.size; omega) ?_; intro v4 w4 hR4 hg4; obtain ⟨ao4, cap4, hv4, _⟩ := hR4.form; rw [List.length_append, HTL.out, List.length_cons, List.length_nil, Nat.zero_add] at hv4; subst hv4; have S4 := cf_grown (cf_below (HS.out.cf (i := 1) (v := u) rfl) hb3) hg4 hsne; obtain ⟨s4, f4⟩ := S4)
          | (go_simp; go_at_call 24; refine (HC.out _ ?_).mono ?_; exact (Below.refl _ _).drew; rintro e w3 ⟨y, rfl, hRy, hb3'⟩; have hb3 := below_drew_un hb3'; obtain ⟨K, hK3, hI3⟩ := hRy.is; obtain ⟨g3, cap3, hy3, _⟩ := hRy.formN; subst hy3; have HK3 := Lib.hid hK3; have HI3 := Lib.hid hI3; clear hb3' hK3 hI3 hRy; have s3 := (cf_below (HS.out.cf (i := 1) (v := u) rfl) hb3).1; have s3a := cell_alloc s3)))
      all_goals
        have s5 : Blk w4 (w.heap.size + 1) #[.int .i64 3, u, .slice none 0 0] 26 := (HS.out.below hb3 HS.out.lt).grown hg4 hsne
        have r4 : Blk w4 w.heap.size #[.int .i64 0, .slice none 0 0, .slice none 0 0] 26 := (HR0.out.below hb3 HR0.out.lt).grown hg4 hrne
        have b4 := HB.out.1.trans (hb3.mono HB.out.1.size)
        have b5 := (HRR.out.below hb3).grownKeep b4 hg4 (by omega) b4.size
        have z5 : w.heap.size + 2 ≤ w4.heap.size := by have := hb3.size; have := hg4.size; omega
        have kf : Kept (fun b => b = w.heap.size + 1) w4 (w4.setCell ⟨w.heap.size + 1, 1, none⟩ (.slice ao4 (j + 1) cap4)) := (Kept.refl _ w4).setCell _ _ (.inr rfl)
        have R5 := Lib.hid (⟨(kf.block _ r4.lt (by omega)).trans r4, s5.set 1 (.slice ao4 (j + 1) cap4), b5.setCell (p := ⟨w.heap.size + 1, 1, none⟩) (by show w.heap.size ≤ w.heap.size + 1; omega) (.slice ao4 (j + 1) cap4), by simpa using z5⟩ : Blk _ w.heap.size #[.int .i64 0, .slice none 0 0, .slice none 0 0] 26 ∧ Blk _ (w.heap.size + 1) #[.int .i64 3, .slice ao4 (j + 1) cap4, .slice none 0 0] 26 ∧ _ ∧ w.heap.size + 2 ≤ (w4.setCell ⟨w.heap.size + 1, 1, none⟩ (.slice ao4 (j + 1) cap4)).heap.size)
        have hR5 := hR4.kept kf (fun k hk => by omega)
        rw [← List.take_succ_of HP.out] at hR5
        clear s5 r4 b4 b5 z5 kf hR4 hg4 s4 f4 hb3 s3 s3a s1 f1 hsne hrne d0 hsz
        go_wp2_with fail
        go_roundw
        case rel => exact ⟨j + 1, _, by omega, by go_num, Lib.hid R5.out.1, Lib.hid R5.out.2.1, hR5, Lib.hid R5.out.2.2⟩
        case measure => simp [intOf]; omega
    · obtain rfl : j = n := by omega
      have hle : pss.take j = pss := List.take_of_length_le (by have := HNE.out.1; omega)
      rw [hle] at hR
      obtain ⟨ao, uc, huf, _⟩ := hR.form
      rw [← HNE.out.1] at huf
      subst huf
      have HR := Lib.hid hR
      obtain ⟨s0, _⟩ := HS.out.cell (i := 0) rfl
      obtain ⟨s1, _⟩ := HS.out.cell (i := 1) rfl
      obtain ⟨s2, _⟩ := HS.out.cell (i := 2) rfl
      obtain ⟨r0, f0⟩ := HR0.out.cell (i := 0) rfl
      obtain ⟨r1, f1⟩ := HR0.out.cell (i := 1) rfl
      obtain ⟨r2, f2⟩ := HR0.out.cell (i := 2) rfl
      clear hR hle hlt
      go_wp2_with fail
      have kf : Kept (fun b => b = w.heap.size) wr (((wr.setCell ⟨w.heap.size, 0, none⟩ (.int .i64 3)).setCell ⟨w.heap.size, 1, none⟩ (.slice ao j uc)).setCell ⟨w.heap.size, 2, none⟩ (.slice none 0 0)) := (((Kept.refl (fun b => b = w.heap.size) wr).setCell ⟨w.heap.size, 0, none⟩ _ (.inr rfl)).setCell ⟨w.heap.size, 1, none⟩ _ (.inr rfl)).setCell ⟨w.heap.size, 2, none⟩ _ (.inr rfl)
      refine bodyPost_ret (results_cell_row Tryz.results25 _ _ w.heap.size 26 #[.int .i64 3, (.slice ao j uc), (.slice none 0 0)] (0, 0) _ rfl ?hg Tryz.underlying26 rfl size26) rfl ?_
      case hg => exact (((HR0.out.set 0 (.int .i64 3)).set 1 ((.slice ao j uc))).set 2 ((.slice none 0 0)))
      have hRf := HR.out.kept kf (fun k hk => by omega)
      have hbf : Below w.heap.size w _ := HB.out.1.trans (kf.to_below (fun k hk => by omega) HB.out.1.size)
      exact ⟨_, rfl, hRf.mono (by omega), hbf⟩


theorem size_ln {l : List By.Pt} (h : By.size (.ln l) ≤ 2147483647) : l.length ≤ 2147483647 := by simp only [By.size] at h; omega
theorem size_mp {l : List By.Pt} (h : By.size (.mp l) ≤ 2147483647) : l.length ≤ 2147483647 := by simp only [By.size] at h; omega
theorem rings_each : ∀ {l : List (List By.Pt)} {r : List By.Pt}, r ∈ l → r.length ≤ By.ringsSize l
  | [], r, h => by simp at h
  | x :: l, r, h => by
    rcases List.mem_cons.1 h with rfl | h
    · simp only [By.ringsSize]; omega
    · have := rings_each h; simp only [By.ringsSize]; omega
theorem size_pg {l : List (List By.Pt)} (h : By.size (.pg l) ≤ 2147483647) : l.length ≤ 2147483647 ∧ ∀ r ∈ l, r.length ≤ 2147483647 := by
  simp only [By.size] at h
  exact ⟨by have := rings_count l; omega, fun r hr => by have := rings_each hr; omega⟩
theorem total_count {α : Type} (k : α → Nat) (h : ∀ a, 1 ≤ k a) : ∀ l : List α, l.length ≤ By.total k l
  | [] => by simp [By.total]
  | a :: l => by have := total_count k h l; have := h a; simp only [By.total, List.length_cons]; omega
theorem total_each {α : Type} (k : α → Nat) : ∀ {l : List α} {a : α}, a ∈ l → k a ≤ By.total k l
  | [], a, h => by simp at h
  | x :: l, a, h => by
    rcases List.mem_cons.1 h with rfl | h
    · simp only [By.total]; omega
    · have := total_each k h; simp only [By.total]; omega
theorem size_ml {l : List (List By.Pt)} (h : By.size (.ml l) ≤ 2147483647) : l.length ≤ 2147483647 ∧ ∀ r ∈ l, r.length ≤ 2147483647 := by
  simp only [By.size] at h
  exact ⟨by have := total_count (fun l : List By.Pt => 9 + 16 * l.length) (fun _ => by omega) l; omega, fun r hr => by have : 9 + 16 * r.length ≤ _ := total_each (fun l : List By.Pt => 9 + 16 * l.length) hr; omega⟩
theorem size_mg {l : List (List (List By.Pt))} (h : By.size (.mg l) ≤ 2147483647) : l.length ≤ 2147483647 ∧ ∀ r ∈ l, r.length ≤ 2147483647 ∧ ∀ q ∈ r, q.length ≤ 2147483647 := by
  simp only [By.size] at h
  refine ⟨by have := total_count (fun l : List (List By.Pt) => 9 + By.ringsSize l) (fun _ => by omega) l; omega, fun r hr => ?_⟩
  have h1 : 9 + By.ringsSize r ≤ _ := total_each (fun l : List (List By.Pt) => 9 + By.ringsSize l) hr
  exact ⟨by have := rings_count r; omega, fun q hq => by have := rings_each hq; omega⟩
theorem size_pos : ∀ g : By.G, 1 ≤ By.size g := by
  intro g
  cases g <;> simp only [By.size] <;> omega
theorem size_co {l : List By.G} (h : By.size (.co l) ≤ 2147483647) : l.length ≤ 2147483647 ∧ ∀ r ∈ l, By.size r ≤ 2147483647 := by
  simp only [By.size] at h
  have e := By.sizes_total l
  refine ⟨by have := total_count By.size size_pos l; omega, fun r hr => ?_⟩
  have h1 := total_each By.size hr
  omega


theorem one_row {α : Type} {z : Prop} {r : Rep α} {E : TypeId} {K : Knows} {g : Nat} {cs : Array Value} {us : List Value} {a : α} (hg : K g (.cells cs E (0, 0))) (hcs : cs.toList = us) (hr : r.rel K us a) : RowIs z r.size r.rel E K (.slice (some ⟨g, 0, none⟩) 1 1) [a] := by
  have hl := r.len hr
  refine .inr ⟨g, 1, cs, [us], rfl, Nat.le_refl _, hg, ?_, rfl, fun x hx => by simp at hx; rw [hx]; exact hl, fun i x b hx hb => ?_⟩
  · rw [hcs, List.length_cons, List.length_nil, List.flatten_cons, List.flatten_nil, List.append_nil, List.take_of_length_le (by omega)]
  · match i, hx, hb with
    | 0, hx, hb =>
      simp at hx hb
      subst hx hb
      exact hr
def GaveS (f : Nat) (g : By.G) (w : World) (e : Ending) (w' : World) : Prop := ∃ us K, e = .returned (.agg us.toArray) ∧ IsS (f + 1) K us (shG g) ∧ Has w.heap.size K w' ∧ Below w.heap.size w w'
/-- A block that is known. -/
def kn (b : Nat) (o : Obj) : Knows := fun b' o' => b' = b ∧ o' = o
theorem has_kn {w : World} {lo b : Nat} {o : Obj} (h : w.heap[b]? = some o) (hl : lo ≤ b) : Has lo (kn b o) w := fun b' o' hb => by obtain ⟨rfl, rfl⟩ := hb; exact ⟨hl, h⟩
theorem size_two (w : World) (a b : Obj) : ((w.alloc a).alloc b).heap.size = w.heap.size + 1 + 1 := by rw [World.size_alloc, World.size_alloc]
theorem pt_shape {f : Nat} {K : Knows} {g1 g2 : Nat} (p : By.Pt) (h1 : K g1 (.cells #[.float .f64 p.1, .float .f64 p.2] 70 (0, 0))) (h2 : K g2 (.cells #[.slice (some ⟨g1, 0, none⟩) 1 1] 52 (0, 0))) :
    IsS (f + 1) K [.int .i64 1, .slice (some ⟨g2, 0, none⟩) 1 1, .slice none 0 0] (shG (.pt p)) :=
  ⟨_, _, rfl, one_row (r := repRow repPt 70) h2 rfl ⟨_, rfl, one_row (r := repPt) h1 rfl rfl⟩, .inl ⟨trivial, rfl, rfl⟩⟩
set_option maxRecDepth 100000 in
theorem so_pt (f : Nat) (p : By.Pt) (w : World) : Calls Tryz.prog 12 #[.iface 68 (.agg #[.float .f64 p.1, .float .f64 p.2])] w (GaveS (f + 1) (.pt p) w) := by
  go_enter Tryz.func12, Tryz.ntmps12
  go_wp2_with fail
  obtain ⟨W1, hW1⟩ : ∃ W, W = (w.alloc (.cells #[.int .i64 1, .slice (some ⟨w.heap.size + 1 + 1 + 1, 0, none⟩) 1 1, .slice none 0 0] 26)).alloc (.cells #[.float .f64 p.1, .float .f64 p.2] 68) := ⟨_, rfl⟩
  have hs1 : W1.heap.size = w.heap.size + 1 + 1 := by rw [hW1]; exact size_two _ _ _
  have hb1 : Below w.heap.size w W1 := by rw [hW1]; exact ((Below.refl _ _).alloc (Nat.le_refl _) _).alloc (by simp) _
  refine bodyPost_ret (v := .agg #[.int .i64 1, .slice (some ⟨w.heap.size + 1 + 1 + 1, 0, none⟩) 1 1, .slice none 0 0]) (by simp [results, Tryz.results12, go_sem]) rfl ?_
  rw [← hW1]
  have q1 := heap_alloc2_old W1 (.cells #[.float .f64 p.1, .float .f64 p.2] 70) (.cells #[.slice (some ⟨w.heap.size + 1 + 1, 0, none⟩) 1 1] 52)
  have q2 := heap_alloc2_new W1 (.cells #[.float .f64 p.1, .float .f64 p.2] 70) (.cells #[.slice (some ⟨w.heap.size + 1 + 1, 0, none⟩) 1 1] 52)
  rw [hs1] at q1 q2
  exact ⟨[.int .i64 1, .slice (some ⟨w.heap.size + 1 + 1 + 1, 0, none⟩) 1 1, .slice none 0 0], fun b o => kn (w.heap.size + 1 + 1) (.cells #[.float .f64 p.1, .float .f64 p.2] 70) b o ∨ kn (w.heap.size + 1 + 1 + 1) (.cells #[.slice (some ⟨w.heap.size + 1 + 1, 0, none⟩) 1 1] 52) b o, rfl,
    pt_shape p (.inl ⟨rfl, rfl⟩) (.inr ⟨rfl, rfl⟩), (has_kn q1 (by omega)).or (has_kn q2 (by omega)), (hb1.alloc (by omega) _).alloc (by rw [World.size_alloc]; omega) _⟩
theorem ln_shape {f k : Nat} {K : Knows} {g2 : Nat} {v : Value} {l : List By.Pt} (h2 : K g2 (.cells #[v] 52 (0, 0))) (hv : rowIs repPt 70 K v l) :
    IsS (f + 1) K [.int .i64 k, .slice (some ⟨g2, 0, none⟩) 1 1, .slice none 0 0] (.mk k [l] []) :=
  ⟨_, _, rfl, one_row (r := repRow repPt 70) h2 rfl ⟨_, rfl, hv⟩, .inl ⟨trivial, rfl, rfl⟩⟩
set_option maxRecDepth 100000 in
theorem so_ln {E0 : TypeId} (f : Nat) (v : Value) (l : List By.Pt) (H : Knows) (lo : Nat) (w : World) (hv : rowIs repPt E0 H v l) (hH : Has lo H w) (hn : l.length ≤ 2147483647) : Calls Tryz.prog 12 #[.iface 72 v] w (GaveS (f + 1) (.ln l) w) := by
  obtain ⟨W0, hW0⟩ : ∃ W, W = w.alloc (.cells #[.int .i64 0, .slice none 0 0, .slice none 0 0] 26) := ⟨_, rfl⟩
  have b0 : Below w.heap.size w W0 := by rw [hW0]; exact (Below.refl _ _).alloc (Nat.le_refl _) _
  have r0 : Blk W0 w.heap.size #[.int .i64 0, .slice none 0 0, .slice none 0 0] 26 := by rw [hW0]; exact Blk.new w _ _
  have hcall := lof_any v l H lo W0 hv (hH.below b0) hn
  have HF := Lib.hid (⟨b0, r0⟩ : _ ∧ _)
  have HW0 := Lib.hid hW0
  clear hv hH hW0 b0 r0
  go_enter Tryz.func12, Tryz.ntmps12
  go_wp2_with fail
  rw [← HW0.out]
  refine hcall.mono ?_
  rintro e w1 ⟨u, rfl, hR, hb⟩
  obtain ⟨K, hK, hI⟩ := hR.is
  obtain ⟨g3, cap3, rfl, _⟩ := hR.formN
  have r1 := HF.out.2.below hb HF.out.2.lt
  have c0 := fun o => ((r1.alloc o).cell (i := 0) (v := .int .i64 0) rfl).1
  have f0 := fun o => ((r1.alloc o).cell (i := 0) (v := .int .i64 0) rfl).2
  have c1 := fun o => ((r1.alloc o).cell (i := 1) (v := .slice none 0 0) rfl).1
  have f1 := fun o => ((r1.alloc o).cell (i := 1) (v := .slice none 0 0) rfl).2
  have c2 := fun o => ((r1.alloc o).cell (i := 2) (v := .slice none 0 0) rfl).1
  have f2 := fun o => ((r1.alloc o).cell (i := 2) (v := .slice none 0 0) rfl).2
  have HF1 := Lib.hid (⟨hK.mono HF.out.2.lt, hI, r1, HF.out.1.trans (hb.mono HF.out.1.size)⟩ : Has (w.heap.size + 1) K w1 ∧ rowIs repPt 70 K _ l ∧ _ ∧ _)
  clear hR hb hK hI r1 hcall
  go_wp2_with fail
  obtain ⟨W2, hW2⟩ : ∃ W, W = (((w1.alloc (.cells #[.slice (some ⟨g3, 0, none⟩) l.length cap3] 52)).setCell ⟨w.heap.size, 0, none⟩ (.int .i64 2)).setCell ⟨w.heap.size, 1, none⟩ (.slice (some ⟨w1.heap.size, 0, none⟩) 1 1)).setCell ⟨w.heap.size, 2, none⟩ (.slice none 0 0) := ⟨_, rfl⟩
  have k2 : Kept (fun b => b = w.heap.size) w1 W2 := by rw [hW2]; exact (((((Kept.refl (fun b => b = w.heap.size) w1).alloc _).setCell ⟨w.heap.size, 0, none⟩ _ (.inr rfl)).setCell ⟨w.heap.size, 1, none⟩ _ (.inr rfl)).setCell ⟨w.heap.size, 2, none⟩ _ (.inr rfl))
  have q2 : Blk W2 w.heap.size #[.int .i64 2, .slice (some ⟨w1.heap.size, 0, none⟩) 1 1, .slice none 0 0] 26 := by
    rw [hW2]
    exact (((HF1.out.2.2.1.alloc (.cells #[.slice (some ⟨g3, 0, none⟩) l.length cap3] 52)).set 0 (.int .i64 2)).set 1 (.slice (some ⟨w1.heap.size, 0, none⟩) 1 1)).set 2 (.slice none 0 0)
  have hlt := HF1.out.2.2.1.lt
  have q3 : Blk W2 w1.heap.size #[.slice (some ⟨g3, 0, none⟩) l.length cap3] 52 := by
    have h0 := Blk.new w1 #[.slice (some ⟨g3, 0, none⟩) l.length cap3] 52
    have kk : Kept (fun b => b = w.heap.size) (w1.alloc (.cells #[.slice (some ⟨g3, 0, none⟩) l.length cap3] 52)) W2 := by rw [hW2]; exact (((Kept.refl (fun b => b = w.heap.size) _).setCell ⟨w.heap.size, 0, none⟩ _ (.inr rfl)).setCell ⟨w.heap.size, 1, none⟩ _ (.inr rfl)).setCell ⟨w.heap.size, 2, none⟩ _ (.inr rfl)
    exact (kk.block _ h0.lt (by omega)).trans h0
  rw [← hW2]
  refine bodyPost_ret (results_cell_row Tryz.results12 _ _ w.heap.size 26 _ (0, 0) _ rfl q2 Tryz.underlying26 rfl size26) rfl ?_
  have hb2 := HF1.out.2.2.2.trans (k2.to_below (fun k hk => by omega) HF1.out.2.2.2.size)
  exact ⟨[.int .i64 2, .slice (some ⟨w1.heap.size, 0, none⟩) 1 1, .slice none 0 0], fun b o => K b o ∨ kn w1.heap.size (.cells #[.slice (some ⟨g3, 0, none⟩) l.length cap3] 52) b o, rfl, ln_shape (.inr ⟨rfl, rfl⟩) (HF1.out.2.1.mono fun _ _ h => .inl h),
    ((HF1.out.1.kept k2 (fun k hk => by omega)).mono (Nat.le_succ _)).or (has_kn q3 HF1.out.2.2.2.size), hb2⟩
set_option maxRecDepth 100000 in
theorem so_mp {E0 : TypeId} (f : Nat) (v : Value) (l : List By.Pt) (H : Knows) (lo : Nat) (w : World) (hv : rowIs repPt E0 H v l) (hH : Has lo H w) (hn : l.length ≤ 2147483647) : Calls Tryz.prog 12 #[.iface 77 v] w (GaveS (f + 1) (.mp l) w) := by
  obtain ⟨W0, hW0⟩ : ∃ W, W = w.alloc (.cells #[.int .i64 0, .slice none 0 0, .slice none 0 0] 26) := ⟨_, rfl⟩
  have b0 : Below w.heap.size w W0 := by rw [hW0]; exact (Below.refl _ _).alloc (Nat.le_refl _) _
  have r0 : Blk W0 w.heap.size #[.int .i64 0, .slice none 0 0, .slice none 0 0] 26 := by rw [hW0]; exact Blk.new w _ _
  have hcall := lof_any v l H lo W0 hv (hH.below b0) hn
  have HF := Lib.hid (⟨b0, r0⟩ : _ ∧ _)
  have HW0 := Lib.hid hW0
  clear hv hH hW0 b0 r0
  go_enter Tryz.func12, Tryz.ntmps12
  go_wp2_with fail
  rw [← HW0.out]
  refine hcall.mono ?_
  rintro e w1 ⟨u, rfl, hR, hb⟩
  obtain ⟨K, hK, hI⟩ := hR.is
  obtain ⟨g3, cap3, rfl, _⟩ := hR.formN
  have r1 := HF.out.2.below hb HF.out.2.lt
  have c0 := fun o => ((r1.alloc o).cell (i := 0) (v := .int .i64 0) rfl).1
  have f0 := fun o => ((r1.alloc o).cell (i := 0) (v := .int .i64 0) rfl).2
  have c1 := fun o => ((r1.alloc o).cell (i := 1) (v := .slice none 0 0) rfl).1
  have f1 := fun o => ((r1.alloc o).cell (i := 1) (v := .slice none 0 0) rfl).2
  have c2 := fun o => ((r1.alloc o).cell (i := 2) (v := .slice none 0 0) rfl).1
  have f2 := fun o => ((r1.alloc o).cell (i := 2) (v := .slice none 0 0) rfl).2
  have HF1 := Lib.hid (⟨hK.mono HF.out.2.lt, hI, r1, HF.out.1.trans (hb.mono HF.out.1.size)⟩ : Has (w.heap.size + 1) K w1 ∧ rowIs repPt 70 K _ l ∧ _ ∧ _)
  clear hR hb hK hI r1 hcall
  go_wp2_with fail
  obtain ⟨W2, hW2⟩ : ∃ W, W = (((w1.alloc (.cells #[.slice (some ⟨g3, 0, none⟩) l.length cap3] 52)).setCell ⟨w.heap.size, 0, none⟩ (.int .i64 4)).setCell ⟨w.heap.size, 1, none⟩ (.slice (some ⟨w1.heap.size, 0, none⟩) 1 1)).setCell ⟨w.heap.size, 2, none⟩ (.slice none 0 0) := ⟨_, rfl⟩
  have k2 : Kept (fun b => b = w.heap.size) w1 W2 := by rw [hW2]; exact (((((Kept.refl (fun b => b = w.heap.size) w1).alloc _).setCell ⟨w.heap.size, 0, none⟩ _ (.inr rfl)).setCell ⟨w.heap.size, 1, none⟩ _ (.inr rfl)).setCell ⟨w.heap.size, 2, none⟩ _ (.inr rfl))
  have q2 : Blk W2 w.heap.size #[.int .i64 4, .slice (some ⟨w1.heap.size, 0, none⟩) 1 1, .slice none 0 0] 26 := by
    rw [hW2]
    exact (((HF1.out.2.2.1.alloc (.cells #[.slice (some ⟨g3, 0, none⟩) l.length cap3] 52)).set 0 (.int .i64 4)).set 1 (.slice (some ⟨w1.heap.size, 0, none⟩) 1 1)).set 2 (.slice none 0 0)
  have hlt := HF1.out.2.2.1.lt
  have q3 : Blk W2 w1.heap.size #[.slice (some ⟨g3, 0, none⟩) l.length cap3] 52 := by
    have h0 := Blk.new w1 #[.slice (some ⟨g3, 0, none⟩) l.length cap3] 52
    have kk : Kept (fun b => b = w.heap.size) (w1.alloc (.cells #[.slice (some ⟨g3, 0, none⟩) l.length cap3] 52)) W2 := by rw [hW2]; exact (((Kept.refl (fun b => b = w.heap.size) _).setCell ⟨w.heap.size, 0, none⟩ _ (.inr rfl)).setCell ⟨w.heap.size, 1, none⟩ _ (.inr rfl)).setCell ⟨w.heap.size, 2, none⟩ _ (.inr rfl)
    exact (kk.block _ h0.lt (by omega)).trans h0
  rw [← hW2]
  refine bodyPost_ret (results_cell_row Tryz.results12 _ _ w.heap.size 26 _ (0, 0) _ rfl q2 Tryz.underlying26 rfl size26) rfl ?_
  have hb2 := HF1.out.2.2.2.trans (k2.to_below (fun k hk => by omega) HF1.out.2.2.2.size)
  exact ⟨[.int .i64 4, .slice (some ⟨w1.heap.size, 0, none⟩) 1 1, .slice none 0 0], fun b o => K b o ∨ kn w1.heap.size (.cells #[.slice (some ⟨g3, 0, none⟩) l.length cap3] 52) b o, rfl, ln_shape (.inr ⟨rfl, rfl⟩) (HF1.out.2.1.mono fun _ _ h => .inl h),
    ((HF1.out.1.kept k2 (fun k hk => by omega)).mono (Nat.le_succ _)).or (has_kn q3 HF1.out.2.2.2.size), hb2⟩


set_option maxRecDepth 100000 in
theorem so_pg {E0 E1 : TypeId} (f : Nat) (v : Value) (pss : List (List By.Pt)) (H : Knows) (lo : Nat) (w : World) (hv : rowIs (repRow repPt E0) E1 H v pss) (hH : Has lo H w) (hn : pss.length ≤ 2147483647) (hm : ∀ ps ∈ pss, ps.length ≤ 2147483647) : Calls Tryz.prog 12 #[.iface 75 v] w (GaveS (f + 1) (.pg pss) w) := by
  obtain ⟨W0, hW0⟩ : ∃ W, W = w.alloc (.cells #[.int .i64 0, .slice none 0 0, .slice none 0 0] 26) := ⟨_, rfl⟩
  have b0 : Below w.heap.size w W0 := by rw [hW0]; exact (Below.refl _ _).alloc (Nat.le_refl _) _
  have r0 : Blk W0 w.heap.size #[.int .i64 0, .slice none 0 0, .slice none 0 0] 26 := by rw [hW0]; exact Blk.new w _ _
  have hcall := pgs_any v pss H lo W0 hv (hH.below b0) hn hm
  have HF := Lib.hid (⟨b0, r0⟩ : _ ∧ _)
  have HW0 := Lib.hid hW0
  clear hv hH hW0 b0 r0
  go_enter Tryz.func12, Tryz.ntmps12
  go_wp2_with fail
  rw [← HW0.out]
  refine hcall.mono ?_
  rintro e w1 ⟨u, rfl, hR, hb⟩
  obtain ⟨K, hK, hI⟩ := hR.is
  obtain ⟨ao, uc, rfl, _⟩ := hR.form
  have r1 := HF.out.2.below hb HF.out.2.lt
  obtain ⟨c0, f0⟩ := r1.cell (i := 0) (v := .int .i64 0) rfl
  obtain ⟨c1, f1⟩ := r1.cell (i := 1) (v := .slice none 0 0) rfl
  obtain ⟨c2, f2⟩ := r1.cell (i := 2) (v := .slice none 0 0) rfl
  have HF1 := Lib.hid (⟨hK.mono HF.out.2.lt, hI, r1, HF.out.1.trans (hb.mono HF.out.1.size)⟩ : Has (w.heap.size + 1) K w1 ∧ RowIs True 1 (repRow repPt 70).rel 52 K _ pss ∧ _ ∧ _)
  clear hR hb hK hI r1 hcall
  go_wp2_with fail
  have k2 : Kept (fun b => b = w.heap.size) w1 (((w1.setCell ⟨w.heap.size, 0, none⟩ (.int .i64 3)).setCell ⟨w.heap.size, 1, none⟩ (.slice ao pss.length uc)).setCell ⟨w.heap.size, 2, none⟩ (.slice none 0 0)) := ((((Kept.refl (fun b => b = w.heap.size) w1)).setCell ⟨w.heap.size, 0, none⟩ _ (.inr rfl)).setCell ⟨w.heap.size, 1, none⟩ _ (.inr rfl)).setCell ⟨w.heap.size, 2, none⟩ _ (.inr rfl)
  have q2 := ((HF1.out.2.2.1.set 0 (.int .i64 3)).set 1 (.slice ao pss.length uc)).set 2 (.slice none 0 0)
  refine bodyPost_ret (results_cell_row Tryz.results12 _ _ w.heap.size 26 _ (0, 0) _ rfl q2 Tryz.underlying26 rfl size26) rfl ?_
  have hb2 := HF1.out.2.2.2.trans (k2.to_below (fun k hk => by omega) HF1.out.2.2.2.size)
  exact ⟨[.int .i64 3, .slice ao pss.length uc, .slice none 0 0], K, rfl, ⟨_, _, rfl, HF1.out.2.1, .inl ⟨trivial, rfl, rfl⟩⟩, (HF1.out.1.kept k2 (fun k hk => by omega)).mono (Nat.le_succ _), hb2⟩
theorem map_take_succ {α β : Type} {l : List α} {j : Nat} {x : α} (F : α → β) (h : l[j]? = some x) : (l.take (j + 1)).map F = (l.take j).map F ++ [F x] := by
  rw [List.take_succ_of h, List.map_append]; rfl

set_option maxRecDepth 100000 in
set_option maxHeartbeats 1000000 in
theorem so_ml (f : Nat) (v : Value) (gs : List (List By.Pt)) (H : Knows) (lo : Nat) (w : World) (hv : rowIs (repRow repPt 68) 72 H v gs) (hH : Has lo H w) (hsz0 : By.size (.ml gs) ≤ 2147483647) : Calls Tryz.prog 12 #[.iface 79 v] w (GaveS (f + 1) (.ml gs) w) := by
  obtain ⟨i0, hi, hz0, hz1, hz2⟩ := info_parts info52
  obtain ⟨hn, hm⟩ := size_ml hsz0
  obtain ⟨g, cap, rfl, hcap⟩ := RowIs.form hv
  have HRW := Lib.hid (rows_at hv hH)
  have HHH := Lib.hid hH
  obtain ⟨n, hne⟩ : ∃ n, n = gs.length := ⟨_, rfl⟩
  rw [← hne] at hn hcap ⊢
  have HNE := Lib.hid (⟨hne, hm⟩ : _ ∧ _)
  have HI := Lib.hid (⟨hi, hz0, hz1, hz2⟩ : _ ∧ _ ∧ _ ∧ _)
  obtain ⟨W0, hW0⟩ : ∃ W, W = (w.alloc (.cells #[.int .i64 0, .slice none 0 0, .slice none 0 0] 26)).alloc (.cells #[.int .i64 5, .slice none 0 0, .slice none 0 0] 26) := ⟨_, rfl⟩
  have r0 : Blk W0 w.heap.size #[.int .i64 0, .slice none 0 0, .slice none 0 0] 26 := by rw [hW0]; exact (Blk.new w _ _).alloc _
  have s0 : Blk W0 (w.heap.size + 1) #[.int .i64 5, .slice none 0 0, .slice none 0 0] 26 := by
    have := Blk.new (w.alloc (.cells #[.int .i64 0, .slice none 0 0, .slice none 0 0] 26)) #[.int .i64 5, .slice none 0 0, .slice none 0 0] 26
    rw [World.size_alloc] at this
    rw [hW0]; exact this
  have z0 : w.heap.size + 2 ≤ W0.heap.size := by rw [hW0]; simp
  have b0 : Below w.heap.size w W0 := by rw [hW0]; exact ((Below.refl _ _).alloc (Nat.le_refl _) _).alloc (by simp) _
  have HS0 := Lib.hid (⟨r0, s0, b0, z0⟩ : _ ∧ _ ∧ _ ∧ _)
  have HW0 := Lib.hid hW0
  clear hv hH hne hi hz0 hz1 hz2 hm hW0 r0 s0 b0 z0 hsz0
  go_enter Tryz.func12, Tryz.ntmps12
  go_wp2_with fail
  rw [← HW0.out]
  go_loopw [56] (fun jv wr => ∃ (j : Nat) (u : Value), j ≤ n ∧ jv = .int .i64 j ∧ Hid (Blk wr w.heap.size #[.int .i64 0, .slice none 0 0, .slice none 0 0] 26) ∧ Hid (Blk wr (w.heap.size + 1) #[.int .i64 5, u, .slice none 0 0] 26) ∧ Rowed True (repRow repPt 70) (w.heap.size + 2) 52 wr u (gs.take j) ∧ Hid (Below w.heap.size w wr ∧ w.heap.size + 2 ≤ wr.heap.size)) (fun jv _ => n - (intOf jv).toNat)
  case atStart => exact ⟨0, .slice none 0 0, Nat.zero_le _, rfl, Lib.hid HS0.out.1, Lib.hid HS0.out.2.1, Rowed.nil _ _ _ _, Lib.hid HS0.out.2.2⟩
  case round =>
    clear HS0
    obtain ⟨j, u, hj, rfl, HR0, HS, hR, HB⟩ := hrel
    by_cases hlt : j < n
    · have hp : gs[j]? = some (gs[j]'(by have := HNE.out.1; omega)) := List.getElem?_eq_getElem (by have := HNE.out.1; omega)
      obtain ⟨ps, hpe⟩ : ∃ ps, ps = gs[j]'(by have := HNE.out.1; omega) := ⟨_, rfl⟩
      rw [← hpe] at hp
      obtain ⟨x, c0, hx⟩ := HRW.out j ps hp
      have hps := HNE.out.2 ps (List.mem_of_getElem? hp)
      have d0 := cell_later HB.out.1 c0
      have hcall := fun (W : World) (hb : Below wr.heap.size wr W) => lof_any x ps H lo W hx ((HHH.out.below HB.out.1).below hb) hps
      obtain ⟨s1, f1⟩ := HS.out.cf (i := 1) (v := u) rfl
      have hsne : u.ownBlock ≠ some (w.heap.size + 1) := fun e => by have := (hR.lt _ e).1; omega
      have hrne : u.ownBlock ≠ some w.heap.size := fun e => by have := (hR.lt _ e).1; omega
      have HP := Lib.hid hp
      have htl : ((gs.take j)).length = j := by rw [List.length_take]; have := HNE.out.1; omega
      have HTL := Lib.hid htl
      have HC := Lib.hid hcall
      have HRR := Lib.hid hR
      have hsz := HB.out.2
      have hjn : (j : Int) < n := by omega
      obtain ⟨ao, uc, huf, _⟩ := hR.form
      have HUF := Lib.hid huf
      clear c0 hp htl hcall hR huf hpe hps hx
      go_wp2_with fail
      go_region_law
        ((first
          | (refine step_append_rowed (r := (repRow repPt 70)) rfl (.tmp 61) (.tmp 64) 23 rfl (lo := wr.heap.size) 52 52 i0 (.slice none 0 0) 24 Tryz.underlying23 HI.out.1 HI.out.2.1 HI.out.2.2.1 HI.out.2.2.2 rfl (by decide) u (gs.take j) rfl (HRR.out.below hb3) [.slice (some ⟨g3, 0, none⟩) ps.length cap3] ps K HK3.out ⟨_, rfl, HI3.out⟩ hsz (fun k hk => (HRR.out.lt k hk).2) #[.slice (some ⟨g3, 0, none⟩) ps.length cap3] rfl _ rfl (by simp) (by rw [HTL.out]; unfold maxLen; omega) (by rw [HTL.out]; omega) (by have := hb3.size; omega) ?_; intro v4 w4 hR4 hg4; obtain ⟨ao4, cap4, hv4, _⟩ := hR4.form; rw [List.length_append, HTL.out, List.length_cons, List.length_nil, Nat.zero_add] at hv4; subst hv4; have S4 := cf_grown (cf_below (HS.out.cf (i := 1) (v := u) rfl) hb3) hg4 hsne; obtain ⟨s4, f4⟩ := S4)
          | (go_simp; go_at_call 24; refine (HC.out _ ?_).mono ?_; exact (Below.refl _ _).drew; rintro e w3 ⟨y, rfl, hRy, hb3'⟩; have hb3 := below_drew_un hb3'; obtain ⟨K, hK3, hI3⟩ := hRy.is; obtain ⟨g3, cap3, hy3, _⟩ := hRy.formN; subst hy3; have HK3 := Lib.hid hK3; have HI3 := Lib.hid hI3; clear hb3' hK3 hI3 hRy; have s3 := (cf_below (HS.out.cf (i := 1) (v := u) rfl) hb3).1; have s3a := cell_alloc s3)))
      all_goals
        have s5 : Blk w4 (w.heap.size + 1) #[.int .i64 5, u, .slice none 0 0] 26 := (HS.out.below hb3 HS.out.lt).grown hg4 hsne
        have r4 : Blk w4 w.heap.size #[.int .i64 0, .slice none 0 0, .slice none 0 0] 26 := (HR0.out.below hb3 HR0.out.lt).grown hg4 hrne
        have b4 := HB.out.1.trans (hb3.mono HB.out.1.size)
        have b5 := (HRR.out.below hb3).grownKeep b4 hg4 (by omega) b4.size
        have z5 : w.heap.size + 2 ≤ w4.heap.size := by have := hb3.size; have := hg4.size; omega
        have kf : Kept (fun b => b = w.heap.size + 1) w4 (w4.setCell ⟨w.heap.size + 1, 1, none⟩ (.slice ao4 (j + 1) cap4)) := (Kept.refl _ w4).setCell _ _ (.inr rfl)
        have R5 := Lib.hid (⟨(kf.block _ r4.lt (by omega)).trans r4, s5.set 1 (.slice ao4 (j + 1) cap4), b5.setCell (p := ⟨w.heap.size + 1, 1, none⟩) (by show w.heap.size ≤ w.heap.size + 1; omega) (.slice ao4 (j + 1) cap4), by simpa using z5⟩ : Blk _ w.heap.size #[.int .i64 0, .slice none 0 0, .slice none 0 0] 26 ∧ Blk _ (w.heap.size + 1) #[.int .i64 5, .slice ao4 (j + 1) cap4, .slice none 0 0] 26 ∧ _ ∧ w.heap.size + 2 ≤ (w4.setCell ⟨w.heap.size + 1, 1, none⟩ (.slice ao4 (j + 1) cap4)).heap.size)
        have hR5 := hR4.kept kf (fun k hk => by omega)
        rw [← List.take_succ_of HP.out] at hR5
        clear s5 r4 b4 b5 z5 kf hR4 hg4 s4 f4 hb3 s3 s3a s1 f1 hsne hrne d0 hsz
        go_wp2_with fail
        go_roundw
        case rel => exact ⟨j + 1, _, by omega, by go_num, Lib.hid R5.out.1, Lib.hid R5.out.2.1, hR5, Lib.hid R5.out.2.2⟩
        case measure => simp [intOf]; omega
    · obtain rfl : j = n := by omega
      have hle : gs.take j = gs := List.take_of_length_le (by have := HNE.out.1; omega)
      rw [hle] at hR
      obtain ⟨ao, uc, huf, _⟩ := hR.form
      rw [← HNE.out.1] at huf
      subst huf
      have HR := Lib.hid hR
      obtain ⟨s0, _⟩ := HS.out.cell (i := 0) rfl
      obtain ⟨s1, _⟩ := HS.out.cell (i := 1) rfl
      obtain ⟨s2, _⟩ := HS.out.cell (i := 2) rfl
      obtain ⟨r0, f0⟩ := HR0.out.cell (i := 0) rfl
      obtain ⟨r1, f1⟩ := HR0.out.cell (i := 1) rfl
      obtain ⟨r2, f2⟩ := HR0.out.cell (i := 2) rfl
      clear hR hle hlt
      go_wp2_with fail
      have kf : Kept (fun b => b = w.heap.size) wr (((wr.setCell ⟨w.heap.size, 0, none⟩ (.int .i64 5)).setCell ⟨w.heap.size, 1, none⟩ (.slice ao j uc)).setCell ⟨w.heap.size, 2, none⟩ (.slice none 0 0)) := (((Kept.refl (fun b => b = w.heap.size) wr).setCell ⟨w.heap.size, 0, none⟩ _ (.inr rfl)).setCell ⟨w.heap.size, 1, none⟩ _ (.inr rfl)).setCell ⟨w.heap.size, 2, none⟩ _ (.inr rfl)
      refine bodyPost_ret (results_cell_row Tryz.results12 _ _ w.heap.size 26 #[.int .i64 5, (.slice ao j uc), (.slice none 0 0)] (0, 0) _ rfl ?hg Tryz.underlying26 rfl size26) rfl ?_
      case hg => exact (((HR0.out.set 0 (.int .i64 5)).set 1 ((.slice ao j uc))).set 2 ((.slice none 0 0)))
      have hRf := HR.out.kept kf (fun k hk => by omega)
      have hbf : Below w.heap.size w _ := HB.out.1.trans (kf.to_below (fun k hk => by omega) HB.out.1.size)
      obtain ⟨K, hK, hI⟩ := hRf.is
      exact ⟨[.int .i64 5, .slice ao j uc, .slice none 0 0], K, rfl, ⟨_, _, rfl, hI, .inl ⟨trivial, rfl, rfl⟩⟩, hK.mono (by omega), hbf⟩

set_option maxRecDepth 100000 in
set_option maxHeartbeats 1000000 in
theorem so_mg (f : Nat) (v : Value) (gs : List (List (List By.Pt))) (H : Knows) (lo : Nat) (w : World) (hv : rowIs (repRow (repRow repPt 68) 127) 75 H v gs) (hH : Has lo H w) (hsz0 : By.size (.mg gs) ≤ 2147483647) : Calls Tryz.prog 12 #[.iface 81 v] w (GaveS (f + 1) (.mg gs) w) := by
  obtain ⟨i0, hi, hz0, hz1, hz2⟩ := info_parts info26
  obtain ⟨hn, hm⟩ := size_mg hsz0
  obtain ⟨g, cap, rfl, hcap⟩ := RowIs.form hv
  have HRW := Lib.hid (rows_at hv hH)
  have HHH := Lib.hid hH
  obtain ⟨n, hne⟩ : ∃ n, n = gs.length := ⟨_, rfl⟩
  rw [← hne] at hn hcap ⊢
  have HNE := Lib.hid (⟨hne, hm⟩ : _ ∧ _)
  have HI := Lib.hid (⟨hi, hz0, hz1, hz2⟩ : _ ∧ _ ∧ _ ∧ _)
  obtain ⟨W0, hW0⟩ : ∃ W, W = (w.alloc (.cells #[.int .i64 0, .slice none 0 0, .slice none 0 0] 26)).alloc (.cells #[.int .i64 6, .slice none 0 0, .slice none 0 0] 26) := ⟨_, rfl⟩
  have r0 : Blk W0 w.heap.size #[.int .i64 0, .slice none 0 0, .slice none 0 0] 26 := by rw [hW0]; exact (Blk.new w _ _).alloc _
  have s0 : Blk W0 (w.heap.size + 1) #[.int .i64 6, .slice none 0 0, .slice none 0 0] 26 := by
    have := Blk.new (w.alloc (.cells #[.int .i64 0, .slice none 0 0, .slice none 0 0] 26)) #[.int .i64 6, .slice none 0 0, .slice none 0 0] 26
    rw [World.size_alloc] at this
    rw [hW0]; exact this
  have z0 : w.heap.size + 2 ≤ W0.heap.size := by rw [hW0]; simp
  have b0 : Below w.heap.size w W0 := by rw [hW0]; exact ((Below.refl _ _).alloc (Nat.le_refl _) _).alloc (by simp) _
  have HS0 := Lib.hid (⟨r0, s0, b0, z0⟩ : _ ∧ _ ∧ _ ∧ _)
  have HW0 := Lib.hid hW0
  clear hv hH hne hi hz0 hz1 hz2 hm hW0 r0 s0 b0 z0 hsz0
  go_enter Tryz.func12, Tryz.ntmps12
  go_wp2_with fail
  rw [← HW0.out]
  go_loopw [75] (fun jv wr => ∃ (j : Nat) (u : Value), j ≤ n ∧ jv = .int .i64 j ∧ Hid (Blk wr w.heap.size #[.int .i64 0, .slice none 0 0, .slice none 0 0] 26) ∧ Hid (Blk wr (w.heap.size + 1) #[.int .i64 6, .slice none 0 0, u] 26) ∧ Rowed True (repS (f + 1)) (w.heap.size + 2) 26 wr u ((gs.take j).map fun rs => Sh.mk 3 rs []) ∧ Hid (Below w.heap.size w wr ∧ w.heap.size + 2 ≤ wr.heap.size)) (fun jv _ => n - (intOf jv).toNat)
  case atStart => exact ⟨0, .slice none 0 0, Nat.zero_le _, rfl, Lib.hid HS0.out.1, Lib.hid HS0.out.2.1, Rowed.nil _ _ _ _, Lib.hid HS0.out.2.2⟩
  case round =>
    clear HS0
    obtain ⟨j, u, hj, rfl, HR0, HS, hR, HB⟩ := hrel
    by_cases hlt : j < n
    · have hp : gs[j]? = some (gs[j]'(by have := HNE.out.1; omega)) := List.getElem?_eq_getElem (by have := HNE.out.1; omega)
      obtain ⟨ps, hpe⟩ : ∃ ps, ps = gs[j]'(by have := HNE.out.1; omega) := ⟨_, rfl⟩
      rw [← hpe] at hp
      obtain ⟨x, c0, hx⟩ := HRW.out j ps hp
      have hps := HNE.out.2 ps (List.mem_of_getElem? hp)
      have d0 := cell_later HB.out.1 c0
      have hcall := fun (W : World) (hb : Below wr.heap.size wr W) => pgs_any x ps H lo W hx ((HHH.out.below HB.out.1).below hb) hps.1 hps.2
      obtain ⟨s1, f1⟩ := HS.out.cf (i := 2) (v := u) rfl
      have hsne : u.ownBlock ≠ some (w.heap.size + 1) := fun e => by have := (hR.lt _ e).1; omega
      have hrne : u.ownBlock ≠ some w.heap.size := fun e => by have := (hR.lt _ e).1; omega
      have HP := Lib.hid hp
      have htl : (((gs.take j).map fun rs => Sh.mk 3 rs [])).length = j := by rw [List.length_map, List.length_take]; have := HNE.out.1; omega
      have HTL := Lib.hid htl
      have HC := Lib.hid hcall
      have HRR := Lib.hid hR
      have hsz := HB.out.2
      have hjn : (j : Int) < n := by omega
      obtain ⟨ao, uc, huf, _⟩ := hR.form
      have HUF := Lib.hid huf
      clear c0 hp htl hcall hR huf hpe hps hx
      go_wp2_with fail
      go_region_law
        ((first
          | (refine step_append_rowed (r := (repS (f + 1))) rfl (.tmp 80) (.tmp 83) 24 rfl (lo := wr.heap.size) 26 26 i0 (.agg #[.int .i64 0, .slice none 0 0, .slice none 0 0]) 56 Tryz.underlying24 HI.out.1 HI.out.2.1 HI.out.2.2.1 HI.out.2.2.2 rfl (Nat.succ_pos _) u ((gs.take j).map fun rs => Sh.mk 3 rs []) rfl (HRR.out.below hb3) [.int .i64 3, .slice ao3 ps.length cap3, .slice none 0 0] (Sh.mk 3 ps []) K HK3.out ⟨_, _, rfl, HI3.out, .inl ⟨trivial, rfl, rfl⟩⟩ hsz (fun k hk => (HRR.out.lt k hk).2) #[.int .i64 3, .slice ao3 ps.length cap3, .slice none 0 0] rfl _ rfl (by simp) (by rw [HTL.out]; unfold maxLen; omega) (by rw [HTL.out]; omega) (by have := hb3.size; omega) ?_; intro v4 w4 hR4 hg4; obtain ⟨ao4, cap4, hv4, _⟩ := hR4.form; rw [List.length_append, HTL.out, List.length_cons, List.length_nil, Nat.zero_add] at hv4; subst hv4; have S4 := cf_grown (cf_below (HS.out.cf (i := 2) (v := u) rfl) hb3) hg4 hsne; obtain ⟨s4, f4⟩ := S4)
          | (go_simp; go_at_call 25; refine (HC.out _ ?_).mono ?_; exact (Below.refl _ _).drew; rintro e w3 ⟨y, rfl, hRy, hb3'⟩; have hb3 := below_drew_un hb3'; obtain ⟨K, hK3, hI3⟩ := hRy.is; obtain ⟨ao3, cap3, hy3, _⟩ := hRy.form; subst hy3; have HK3 := Lib.hid hK3; have HI3 := Lib.hid hI3; clear hb3' hK3 hI3 hRy; have s3 := (cf_below (HS.out.cf (i := 2) (v := u) rfl) hb3).1; have s3a := cell_alloc s3)))
      all_goals
        have s5 : Blk w4 (w.heap.size + 1) #[.int .i64 6, .slice none 0 0, u] 26 := (HS.out.below hb3 HS.out.lt).grown hg4 hsne
        have r4 : Blk w4 w.heap.size #[.int .i64 0, .slice none 0 0, .slice none 0 0] 26 := (HR0.out.below hb3 HR0.out.lt).grown hg4 hrne
        have b4 := HB.out.1.trans (hb3.mono HB.out.1.size)
        have b5 := (HRR.out.below hb3).grownKeep b4 hg4 (by omega) b4.size
        have z5 : w.heap.size + 2 ≤ w4.heap.size := by have := hb3.size; have := hg4.size; omega
        have kf : Kept (fun b => b = w.heap.size + 1) w4 (w4.setCell ⟨w.heap.size + 1, 2, none⟩ (.slice ao4 (j + 1) cap4)) := (Kept.refl _ w4).setCell _ _ (.inr rfl)
        have R5 := Lib.hid (⟨(kf.block _ r4.lt (by omega)).trans r4, s5.set 2 (.slice ao4 (j + 1) cap4), b5.setCell (p := ⟨w.heap.size + 1, 2, none⟩) (by show w.heap.size ≤ w.heap.size + 1; omega) (.slice ao4 (j + 1) cap4), by simpa using z5⟩ : Blk _ w.heap.size #[.int .i64 0, .slice none 0 0, .slice none 0 0] 26 ∧ Blk _ (w.heap.size + 1) #[.int .i64 6, .slice none 0 0, .slice ao4 (j + 1) cap4] 26 ∧ _ ∧ w.heap.size + 2 ≤ (w4.setCell ⟨w.heap.size + 1, 2, none⟩ (.slice ao4 (j + 1) cap4)).heap.size)
        have hR5 := hR4.kept kf (fun k hk => by omega)
        rw [← map_take_succ (fun rs => Sh.mk 3 rs []) HP.out] at hR5
        clear s5 r4 b4 b5 z5 kf hR4 hg4 s4 f4 hb3 s3 s3a s1 f1 hsne hrne d0 hsz
        go_wp2_with fail
        go_roundw
        case rel => exact ⟨j + 1, _, by omega, by go_num, Lib.hid R5.out.1, Lib.hid R5.out.2.1, hR5, Lib.hid R5.out.2.2⟩
        case measure => simp [intOf]; omega
    · obtain rfl : j = n := by omega
      have hle : gs.take j = gs := List.take_of_length_le (by have := HNE.out.1; omega)
      rw [hle] at hR
      obtain ⟨ao, uc, huf, _⟩ := hR.form
      rw [List.length_map, ← HNE.out.1] at huf
      subst huf
      have HR := Lib.hid hR
      obtain ⟨s0, _⟩ := HS.out.cell (i := 0) rfl
      obtain ⟨s1, _⟩ := HS.out.cell (i := 1) rfl
      obtain ⟨s2, _⟩ := HS.out.cell (i := 2) rfl
      obtain ⟨r0, f0⟩ := HR0.out.cell (i := 0) rfl
      obtain ⟨r1, f1⟩ := HR0.out.cell (i := 1) rfl
      obtain ⟨r2, f2⟩ := HR0.out.cell (i := 2) rfl
      clear hR hle hlt
      go_wp2_with fail
      have kf : Kept (fun b => b = w.heap.size) wr (((wr.setCell ⟨w.heap.size, 0, none⟩ (.int .i64 6)).setCell ⟨w.heap.size, 1, none⟩ (.slice none 0 0)).setCell ⟨w.heap.size, 2, none⟩ (.slice ao j uc)) := (((Kept.refl (fun b => b = w.heap.size) wr).setCell ⟨w.heap.size, 0, none⟩ _ (.inr rfl)).setCell ⟨w.heap.size, 1, none⟩ _ (.inr rfl)).setCell ⟨w.heap.size, 2, none⟩ _ (.inr rfl)
      refine bodyPost_ret (results_cell_row Tryz.results12 _ _ w.heap.size 26 #[.int .i64 6, (.slice none 0 0), (.slice ao j uc)] (0, 0) _ rfl ?hg Tryz.underlying26 rfl size26) rfl ?_
      case hg => exact (((HR0.out.set 0 (.int .i64 6)).set 1 ((.slice none 0 0))).set 2 ((.slice ao j uc)))
      have hRf := HR.out.kept kf (fun k hk => by omega)
      have hbf : Below w.heap.size w _ := HB.out.1.trans (kf.to_below (fun k hk => by omega) HB.out.1.size)
      obtain ⟨K, hK, hI⟩ := hRf.is
      exact ⟨[.int .i64 6, .slice none 0 0, .slice ao j uc], K, rfl, ⟨_, _, rfl, .inl ⟨trivial, rfl, rfl⟩, hI⟩, hK.mono (by omega), hbf⟩

theorem geos_at {f : Nat} {H : Knows} {g cap : Nat} {gs : List By.G} {w : World} {lo : Nat} (hu : rowIs (repG f) 39 H (.slice (some ⟨g, 0, none⟩) gs.length cap) gs) (hH : Has lo H w) :
    ∀ (i : Nat) q, gs[i]? = some q → ∃ v, w.cell? ⟨g, i, none⟩ = some v ∧ IsG f H v q := by
  intro i ps hp
  obtain ⟨g', cap', hv, _, _, _, hget⟩ := RowIs.get hu hH (by intro h; subst h; simp at hp)
  simp only [Value.slice.injEq, Option.some.injEq, Addr.mk.injEq] at hv
  obtain ⟨us, _, ⟨v, rfl, hr⟩, hc⟩ := hget i ps hp
  rw [hv.1.1]
  exact ⟨v, by simpa [repG] using hc 0 _ rfl, hr⟩
/-- shapeOf as it should be, of shapes of a depth. -/
def Shapes (f : Nat) : Prop := ∀ (v : Value) (g : By.G) (H : Knows) (lo : Nat) (w : World), IsG f H v g → Has lo H w → By.size g ≤ 2147483647 → Calls Tryz.prog 12 #[v] w (GaveS f g w)

set_option maxRecDepth 100000 in
set_option maxHeartbeats 1000000 in
theorem so_co (f : Nat) (ih : Shapes f) (v : Value) (gs : List By.G) (H : Knows) (lo : Nat) (w : World) (hv : rowIs (repG f) 39 H v gs) (hH : Has lo H w) (hsz0 : By.size (.co gs) ≤ 2147483647) : Calls Tryz.prog 12 #[.iface 83 v] w (GaveS (f + 1) (.co gs) w) := by
  obtain ⟨i0, hi, hz0, hz1, hz2⟩ := info_parts info26
  obtain ⟨hn, hm⟩ := size_co hsz0
  obtain ⟨g, cap, rfl, hcap⟩ := RowIs.form hv
  have HRW := Lib.hid (geos_at hv hH)
  have IH := Lib.hid ih
  have HHH := Lib.hid hH
  obtain ⟨n, hne⟩ : ∃ n, n = gs.length := ⟨_, rfl⟩
  rw [← hne] at hn hcap ⊢
  have HNE := Lib.hid (⟨hne, hm⟩ : _ ∧ _)
  have HI := Lib.hid (⟨hi, hz0, hz1, hz2⟩ : _ ∧ _ ∧ _ ∧ _)
  obtain ⟨W0, hW0⟩ : ∃ W, W = (w.alloc (.cells #[.int .i64 0, .slice none 0 0, .slice none 0 0] 26)).alloc (.cells #[.int .i64 7, .slice none 0 0, .slice none 0 0] 26) := ⟨_, rfl⟩
  have r0 : Blk W0 w.heap.size #[.int .i64 0, .slice none 0 0, .slice none 0 0] 26 := by rw [hW0]; exact (Blk.new w _ _).alloc _
  have s0 : Blk W0 (w.heap.size + 1) #[.int .i64 7, .slice none 0 0, .slice none 0 0] 26 := by
    have := Blk.new (w.alloc (.cells #[.int .i64 0, .slice none 0 0, .slice none 0 0] 26)) #[.int .i64 7, .slice none 0 0, .slice none 0 0] 26
    rw [World.size_alloc] at this
    rw [hW0]; exact this
  have z0 : w.heap.size + 2 ≤ W0.heap.size := by rw [hW0]; simp
  have b0 : Below w.heap.size w W0 := by rw [hW0]; exact ((Below.refl _ _).alloc (Nat.le_refl _) _).alloc (by simp) _
  have HS0 := Lib.hid (⟨r0, s0, b0, z0⟩ : _ ∧ _ ∧ _ ∧ _)
  have HW0 := Lib.hid hW0
  clear hv hH hne hi hz0 hz1 hz2 hm hW0 r0 s0 b0 z0 hsz0 ih
  go_enter Tryz.func12, Tryz.ntmps12
  go_wp2_with fail
  rw [← HW0.out]
  go_loopw [94] (fun jv wr => ∃ (j : Nat) (u : Value), j ≤ n ∧ jv = .int .i64 j ∧ Hid (Blk wr w.heap.size #[.int .i64 0, .slice none 0 0, .slice none 0 0] 26) ∧ Hid (Blk wr (w.heap.size + 1) #[.int .i64 7, .slice none 0 0, u] 26) ∧ Rowed True (repS (f + 1)) (w.heap.size + 2) 26 wr u ((gs.take j).map shG) ∧ Hid (Below w.heap.size w wr ∧ w.heap.size + 2 ≤ wr.heap.size)) (fun jv _ => n - (intOf jv).toNat)
  case atStart => exact ⟨0, .slice none 0 0, Nat.zero_le _, rfl, Lib.hid HS0.out.1, Lib.hid HS0.out.2.1, Rowed.nil _ _ _ _, Lib.hid HS0.out.2.2⟩
  case round =>
    clear HS0
    obtain ⟨j, u, hj, rfl, HR0, HS, hR, HB⟩ := hrel
    by_cases hlt : j < n
    · have hp : gs[j]? = some (gs[j]'(by have := HNE.out.1; omega)) := List.getElem?_eq_getElem (by have := HNE.out.1; omega)
      obtain ⟨ps, hpe⟩ : ∃ ps, ps = gs[j]'(by have := HNE.out.1; omega) := ⟨_, rfl⟩
      rw [← hpe] at hp
      obtain ⟨x, c0, hx⟩ := HRW.out j ps hp
      have hps := HNE.out.2 ps (List.mem_of_getElem? hp)
      have d0 := cell_later HB.out.1 c0
      have hcall := fun (W : World) (hb : Below wr.heap.size wr W) => IH.out x ps H lo W hx ((HHH.out.below HB.out.1).below hb) hps
      obtain ⟨s1, f1⟩ := HS.out.cf (i := 2) (v := u) rfl
      have hsne : u.ownBlock ≠ some (w.heap.size + 1) := fun e => by have := (hR.lt _ e).1; omega
      have hrne : u.ownBlock ≠ some w.heap.size := fun e => by have := (hR.lt _ e).1; omega
      have HP := Lib.hid hp
      have htl : (((gs.take j).map shG)).length = j := by rw [List.length_map, List.length_take]; have := HNE.out.1; omega
      have HTL := Lib.hid htl
      have HC := Lib.hid hcall
      have HRR := Lib.hid hR
      have hsz := HB.out.2
      have hjn : (j : Int) < n := by omega
      obtain ⟨ao, uc, huf, _⟩ := hR.form
      have HUF := Lib.hid huf
      clear c0 hp htl hcall hR huf hpe hps hx
      go_wp2_with fail
      go_region_law
        ((first
          | (refine step_append_rowed (r := (repS (f + 1))) rfl (.tmp 99) (.tmp 102) 24 rfl (lo := wr.heap.size) 26 26 i0 (.agg #[.int .i64 0, .slice none 0 0, .slice none 0 0]) 56 Tryz.underlying24 HI.out.1 HI.out.2.1 HI.out.2.2.1 HI.out.2.2.2 rfl (Nat.succ_pos _) u ((gs.take j).map shG) rfl (HRR.out.below hb3) [.int .i64 k3, .slice ao3 n3 cap3, .slice bo3 m3 cap4] (shG ps) K HK3.out HI3.out hsz (fun k hk => (HRR.out.lt k hk).2) #[.int .i64 k3, .slice ao3 n3 cap3, .slice bo3 m3 cap4] rfl _ rfl (by simp) (by rw [HTL.out]; unfold maxLen; omega) (by rw [HTL.out]; omega) (by have := hb3.size; omega) ?_; intro v4 w4 hR4 hg4; obtain ⟨ao4, cap4, hv4, _⟩ := hR4.form; rw [List.length_append, HTL.out, List.length_cons, List.length_nil, Nat.zero_add] at hv4; subst hv4; have S4 := cf_grown (cf_below (HS.out.cf (i := 2) (v := u) rfl) hb3) hg4 hsne; obtain ⟨s4, f4⟩ := S4)
          | (go_simp; go_at_call 12; refine (HC.out _ ?_).mono ?_; exact (Below.refl _ _).drew; rintro e w3 ⟨us3, K, rfl, hI3, hK3, hb3'⟩; have hb3 := below_drew_un hb3'; obtain ⟨k3, ao3, n3, cap3, bo3, m3, cap4, hy3⟩ := hI3.form; subst hy3; have HK3 := Lib.hid hK3; have HI3 := Lib.hid hI3; clear hb3' hK3 hI3; have s3 := (cf_below (HS.out.cf (i := 2) (v := u) rfl) hb3).1; have s3a := cell_alloc s3)))
      all_goals
        have s5 : Blk w4 (w.heap.size + 1) #[.int .i64 7, .slice none 0 0, u] 26 := (HS.out.below hb3 HS.out.lt).grown hg4 hsne
        have r4 : Blk w4 w.heap.size #[.int .i64 0, .slice none 0 0, .slice none 0 0] 26 := (HR0.out.below hb3 HR0.out.lt).grown hg4 hrne
        have b4 := HB.out.1.trans (hb3.mono HB.out.1.size)
        have b5 := (HRR.out.below hb3).grownKeep b4 hg4 (by omega) b4.size
        have z5 : w.heap.size + 2 ≤ w4.heap.size := by have := hb3.size; have := hg4.size; omega
        have kf : Kept (fun b => b = w.heap.size + 1) w4 (w4.setCell ⟨w.heap.size + 1, 2, none⟩ (.slice ao4 (j + 1) cap4)) := (Kept.refl _ w4).setCell _ _ (.inr rfl)
        have R5 := Lib.hid (⟨(kf.block _ r4.lt (by omega)).trans r4, s5.set 2 (.slice ao4 (j + 1) cap4), b5.setCell (p := ⟨w.heap.size + 1, 2, none⟩) (by show w.heap.size ≤ w.heap.size + 1; omega) (.slice ao4 (j + 1) cap4), by simpa using z5⟩ : Blk _ w.heap.size #[.int .i64 0, .slice none 0 0, .slice none 0 0] 26 ∧ Blk _ (w.heap.size + 1) #[.int .i64 7, .slice none 0 0, .slice ao4 (j + 1) cap4] 26 ∧ _ ∧ w.heap.size + 2 ≤ (w4.setCell ⟨w.heap.size + 1, 2, none⟩ (.slice ao4 (j + 1) cap4)).heap.size)
        have hR5 := hR4.kept kf (fun k hk => by omega)
        rw [← map_take_succ shG HP.out] at hR5
        clear s5 r4 b4 b5 z5 kf hR4 hg4 s4 f4 hb3 s3 s3a s1 f1 hsne hrne d0 hsz
        go_wp2_with fail
        go_roundw
        case rel => exact ⟨j + 1, _, by omega, by go_num, Lib.hid R5.out.1, Lib.hid R5.out.2.1, hR5, Lib.hid R5.out.2.2⟩
        case measure => simp [intOf]; omega
    · obtain rfl : j = n := by omega
      have hle : gs.take j = gs := List.take_of_length_le (by have := HNE.out.1; omega)
      rw [hle] at hR
      obtain ⟨ao, uc, huf, _⟩ := hR.form
      rw [List.length_map, ← HNE.out.1] at huf
      subst huf
      have HR := Lib.hid hR
      obtain ⟨s0, _⟩ := HS.out.cell (i := 0) rfl
      obtain ⟨s1, _⟩ := HS.out.cell (i := 1) rfl
      obtain ⟨s2, _⟩ := HS.out.cell (i := 2) rfl
      obtain ⟨r0, f0⟩ := HR0.out.cell (i := 0) rfl
      obtain ⟨r1, f1⟩ := HR0.out.cell (i := 1) rfl
      obtain ⟨r2, f2⟩ := HR0.out.cell (i := 2) rfl
      clear hR hle hlt
      go_wp2_with fail
      have kf : Kept (fun b => b = w.heap.size) wr (((wr.setCell ⟨w.heap.size, 0, none⟩ (.int .i64 7)).setCell ⟨w.heap.size, 1, none⟩ (.slice none 0 0)).setCell ⟨w.heap.size, 2, none⟩ (.slice ao j uc)) := (((Kept.refl (fun b => b = w.heap.size) wr).setCell ⟨w.heap.size, 0, none⟩ _ (.inr rfl)).setCell ⟨w.heap.size, 1, none⟩ _ (.inr rfl)).setCell ⟨w.heap.size, 2, none⟩ _ (.inr rfl)
      refine bodyPost_ret (results_cell_row Tryz.results12 _ _ w.heap.size 26 #[.int .i64 7, (.slice none 0 0), (.slice ao j uc)] (0, 0) _ rfl ?hg Tryz.underlying26 rfl size26) rfl ?_
      case hg => exact (((HR0.out.set 0 (.int .i64 7)).set 1 ((.slice none 0 0))).set 2 ((.slice ao j uc)))
      have hRf := HR.out.kept kf (fun k hk => by omega)
      have hbf : Below w.heap.size w _ := HB.out.1.trans (kf.to_below (fun k hk => by omega) HB.out.1.size)
      obtain ⟨K, hK, hI⟩ := hRf.is
      exact ⟨[.int .i64 7, .slice none 0 0, .slice ao j uc], K, rfl, ⟨_, _, rfl, .inl ⟨trivial, rfl, rfl⟩, by rw [shGs_map]; exact hI⟩, hK.mono (by omega), hbf⟩


theorem so_any : ∀ f, Shapes f
  | 0 => fun v g H lo w h _ _ => h.elim
  | f + 1 => fun v g H lo w h hH hs => by
    cases g with
    | pt p => obtain ⟨x, rfl, rfl⟩ := h; exact so_pt f p w
    | ln l => obtain ⟨x, rfl, h⟩ := h; exact so_ln f x l H lo w h hH (size_ln hs)
    | mp l => obtain ⟨x, rfl, h⟩ := h; exact so_mp f x l H lo w h hH (size_mp hs)
    | pg l => obtain ⟨x, rfl, h⟩ := h; exact so_pg f x l H lo w h hH (size_pg hs).1 (size_pg hs).2
    | ml l => obtain ⟨x, rfl, h⟩ := h; exact so_ml f x l H lo w h hH hs
    | mg l => obtain ⟨x, rfl, h⟩ := h; exact so_mg f x l H lo w h hH hs
    | co l => obtain ⟨x, rfl, h⟩ := h; exact so_co f (so_any f) x l H lo w h hH hs

end Go.Proofs.YtjbjjphgnilhmaaGreatDoor
