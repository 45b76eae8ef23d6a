/- The walks of spec's (*reader).shape, spec.Parse. -/
import Derived.Test.YtjbjjphgnilhmaaGreatDoorEh
import Derived.Test.YtjbjjphgnilhmaaGreatDoorEp
set_option linter.unusedVariables false
set_option linter.unusedSimpArgs false
namespace Go.Proofs.YtjbjjphgnilhmaaGreatDoor
open Go.RowKit

theorem endL {k sb d j : Nat} {W : World} {s : Sh} (h : AtL k sb j W s) : ∃ us K, Blk W sb us.toArray 26 ∧ IsS (d + 1) K us s ∧ Has (sb + 1) K W := by
  obtain ⟨ls, v, rfl, _, hB, hR⟩ := h
  obtain ⟨K, hK, hI⟩ := hR.is
  exact ⟨[.int .i64 k, v, .slice none 0 0], K, hB, ⟨_, _, rfl, hI, .inl ⟨trivial, rfl, rfl⟩⟩, hK⟩
theorem endS {k sb d j : Nat} {W : World} {s : Sh} (h : AtS d k sb j W s) : ∃ us K, Blk W sb us.toArray 26 ∧ IsS (d + 1) K us s ∧ Has (sb + 1) K W := by
  obtain ⟨ls, v, rfl, _, hB, hR⟩ := h
  obtain ⟨K, hK, hI⟩ := hR.is
  exact ⟨[.int .i64 k, .slice none 0 0, v], K, hB, ⟨_, _, rfl, .inl ⟨trivial, rfl, rfl⟩, hI⟩, hK⟩
theorem endP {sb d j : Nat} {W : World} {s : Sh} (h : AtP sb j W s) : ∃ us K, Blk W sb us.toArray 26 ∧ IsS (d + 1) K us s ∧ Has (sb + 1) K W := by
  obtain ⟨ps, v, lb, rfl, _, hB, hL, hlb, hR⟩ := h
  obtain ⟨K, hK, hI⟩ := hR.is
  exact ⟨[.int .i64 4, .slice (some ⟨lb, 0, none⟩) 1 1, .slice none 0 0], fun b o => K b o ∨ kn lb (.cells #[v] 52) b o, hB, ln_shape (k := 4) (.inr ⟨rfl, rfl⟩) (RowIs.mono (fun _ _ => repPt.mono fun _ _ h => .inl h) (fun _ _ h => .inl h) hI), hK.or (has_kn hL hlb)⟩
set_option maxRecDepth 100000 in
theorem body_any (S : Psr) (d k : Nat) (D : Int) (hD : D = (d : Int) + 1) (hd : d ≤ 1000) (hk1 : 1 ≤ k) (hk7 : k ≤ 7) (sub : SubOk d S) (le : Bool) (w : World) (l : By.Bs) (h : Prs S w l) :
    Calls Tryz.prog 38 #[.pointer (some ⟨S.rb, 0, none⟩), .int .i64 k, .bool (!le), .int .i64 D] w (GaveB (d + 1) S (pBody (pShape d) k le l) w) := by
  have hlt := h.lt
  by_cases k1 : k = 1
  · subst k1; exact body_one S d D _ le w l h
  by_cases h4 : l.length < 4
  · exact body_short S d k D _ le w l h (by omega) h4
  have h4' : 4 ≤ l.length := by omega
  rcases (by omega : k = 2 ∨ k = 3 ∨ k = 4 ∨ k = 5 ∨ k = 6 ∨ k = 7) with rfl | rfl | rfl | rfl | rfl | rfl
  · exact body_line S d D _ le w l h h4'
  · exact body_rest S d 3 D sub le w l h h4' (by omega) (by omega) (fun j => AtL 3 (w.heap.size + 1) j) (fun W hB => ⟨[], _, rfl, rfl, hB, Rowed.nil _ _ _ _⟩)
      (fun j W s r hA hP hj => part_ring S _ j _ le _ W s r hA hP (by omega) hj) (fun j W s hA => endL hA)
  · exact body_pts S d D sub le w l h h4' (fun j => AtP (w.heap.size + 1) j) (fun W b hB hL hI hb => ⟨[], _, b + 1, rfl, rfl, hB, hL, by omega, rowed_pt.2 ⟨⟨rfl, .inr ⟨b, 0, #[], rfl, hb, hI, Nat.zero_le _, Nat.zero_le _, rfl, rfl⟩⟩, fun h => by cases h⟩⟩)
      (fun j W s r hA hP hj => part_pt S _ j d D hD hd le sub W s r hA hP (by omega) hj) (fun j W s hA => endP hA)
  · exact body_rest S d 5 D sub le w l h h4' (by omega) (by omega) (fun j => AtL 5 (w.heap.size + 1) j) (fun W hB => ⟨[], _, rfl, rfl, hB, Rowed.nil _ _ _ _⟩)
      (fun j W s r hA hP hj => part_ln S _ j d D hD hd le sub W s r hA hP (by omega) hj) (fun j W s hA => endL hA)
  · exact body_rest S d 6 D sub le w l h h4' (by omega) (by omega) (fun j => AtS d 6 (w.heap.size + 1) j) (fun W hB => ⟨[], _, rfl, rfl, hB, Rowed.nil _ _ _ _⟩)
      (fun j W s r hA hP hj => part_six S _ j d D hD hd le sub W s r hA hP (by omega) hj) (fun j W s hA => endS hA)
  · exact body_rest S d 7 D sub le w l h h4' (by omega) (by omega) (fun j => AtS d 7 (w.heap.size + 1) j) (fun W hB => ⟨[], _, rfl, rfl, hB, Rowed.nil _ _ _ _⟩)
      (fun j W s r hA hP hj => part_seven S _ j d D hD hd le sub W s r hA hP (by omega) hj) (fun j W s hA => endS hA)

/-! ### shape -/

set_option maxRecDepth 100000 in
theorem shape_zero (S : Psr) : SubOk 0 S := by
  intro only l w ho h
  have hP : Prs S (w.alloc (.cells zeroSh 26)) l := h.below ((Below.refl _ _).alloc (Nat.le_refl _) _)
  obtain ⟨D, hD⟩ : ∃ D : Int, D = ((0 : Nat) : Int) := ⟨_, rfl⟩
  rw [← hD]
  have hD0 : D = 0 := hD
  subst hD0
  have e : pShape 0 only l = .unsaid := rfl
  rw [e]
  clear h hD e
  go_enter Tryz.func18, Tryz.ntmps18
  go_wp2_with fail
  refine bodyPost_ret (results_row3 Tryz.results18 _ _ w.heap.size 26 _ (0, 0) _ rfl (Blk.new w _ _) Tryz.underlying26 rfl size26) rfl ?_
  exact ⟨(Kept.refl _ _).alloc _, 0, none, 0, 0, none, 0, 0, rfl, l, hP⟩
set_option maxRecDepth 100000 in
set_option maxHeartbeats 1000000 in
theorem shape_succ (S : Psr) (d : Nat) (hd : d ≤ 999) (sub : SubOk d S) : SubOk (d + 1) S := by
  intro only l w ho h
  have hlt := h.lt
  obtain ⟨W0, hW0⟩ : ∃ W, W = w.alloc (.cells zeroSh 26) := ⟨_, rfl⟩
  have b0 : Below w.heap.size w W0 := by rw [hW0]; exact (Below.refl _ _).alloc (Nat.le_refl _) _
  have r0 : Blk W0 w.heap.size zeroSh 26 := by rw [hW0]; exact Blk.new w _ _
  have z0 : W0.heap.size = w.heap.size + 1 := by rw [hW0]; simp
  obtain ⟨D, hD⟩ : ∃ D : Int, D = ((d + 1 : Nat) : Int) := ⟨_, rfl⟩
  rw [← hD]
  have hDz : (D == 0) = false := by simp; omega
  have hD1 : D = (d : Int) + 1 := by omega
  have hcall := head_any S only W0 l (h.below b0) ho
  have e : pShape (d + 1) only l = match pHead only l with
    | .fine (le, k) r => pBody (pShape d) k le r
    | .wrong => .wrong
    | .unsaid => .unsaid := rfl
  obtain ⟨x, hx⟩ : ∃ x, x = pHead only l := ⟨_, rfl⟩
  rw [← hx] at e hcall
  rw [e]
  have HX := Lib.hid hx
  have HB0 := Lib.hid (⟨b0, r0⟩ : _ ∧ _)
  have HW0 := Lib.hid hW0
  have HBODY := Lib.hid (fun k hk1 hk7 le w r hP => body_any S d k D hD1 (by omega) hk1 hk7 sub le w r hP)
  clear h hx e b0 r0 hW0 sub hD hD1
  go_enter Tryz.func18, Tryz.ntmps18
  go_wp2_with fail
  rw [← HW0.out]
  refine hcall.mono ?_
  rintro e w1 ⟨hK, hg⟩
  clear hcall
  have hR := HB0.out.2.kept hK (by show ¬ w.heap.size = S.rb; omega)
  have hsz := hK.size
  have HK := Lib.hid ((Kept.of_below HB0.out.1 (Rb S)).same hK)
  have HR := Lib.hid hR
  clear hK hR
  rcases x with ⟨⟨le, k⟩, r⟩ | _ | _
  · obtain ⟨rfl, hP1⟩ := hg
    obtain ⟨_, hk1, hk7, _⟩ := pHead_fine HX.out.symm
    have hcall2 := HBODY.out k hk1 hk7 le w1 r hP1
    obtain ⟨y, hy⟩ : ∃ y, y = pBody (pShape d) k le r := ⟨_, rfl⟩
    have HY : Hid (pBody (pShape d) k le r = y) := Lib.hid hy.symm
    rw [← hy] at hcall2
    clear hP1 hy HX
    go_wp2_with fail
    refine hcall2.mono ?_
    rintro e w2 ⟨hK2, hg2⟩
    clear hcall2
    have hR2 := HR.out.kept hK2 (by show ¬ w.heap.size = S.rb; omega)
    have hsz2 := hK2.size
    have HK2 := Lib.hid (HK.out.same hK2)
    clear hK2
    rcases y with ⟨s, r2⟩ | _ | _
    · obtain ⟨us, K, rfl, hI, hKs, hP2⟩ := hg2
      obtain ⟨k3, ao3, n3, c3, bo3, m3, d3, rfl⟩ := hI.form
      have hb3 : Below w2.heap.size w2 (w2.alloc (.cells #[.int .i64 k3, .slice ao3 n3 c3, .slice bo3 m3 d3] 26)) := (Below.refl _ _).alloc (Nat.le_refl _) _
      have hR3 := hR2.alloc (.cells #[.int .i64 k3, .slice ao3 n3 c3, .slice bo3 m3 d3] 26)
      obtain ⟨⟨p0, _⟩, ⟨p1, _⟩, ⟨p2, _⟩⟩ := Blk.cf3 (Blk.new w2 #[.int .i64 k3, .slice ao3 n3 c3, .slice bo3 m3 d3] 26)
      have HKB := Lib.hid (HK2.out.below hb3)
      have HP3 := Lib.hid (hP2.below hb3)
      have HF := Lib.hid (⟨hI, hKs.below hb3⟩ : _ ∧ _)
      clear hR2 hI hKs hP2 hb3
      obtain ⟨⟨r0, q0⟩, ⟨r1, q1⟩, ⟨r2, q2⟩⟩ := Blk.cf3 hR3
      have HRS := Lib.hid hR3
      go_wp2_with fail
      have kf : Kept (fun b => b = w.heap.size) (w2.alloc (.cells #[.int .i64 k3, .slice ao3 n3 c3, .slice bo3 m3 d3] 26)) ((((w2.alloc (.cells #[.int .i64 k3, .slice ao3 n3 c3, .slice bo3 m3 d3] 26)).setCell ⟨w.heap.size, 0, none⟩ (.int .i64 k3)).setCell ⟨w.heap.size, 1, none⟩ (.slice ao3 n3 c3)).setCell ⟨w.heap.size, 2, none⟩ (.slice bo3 m3 d3)) := (((Kept.refl (fun b => b = w.heap.size) (w2.alloc (.cells #[.int .i64 k3, .slice ao3 n3 c3, .slice bo3 m3 d3] 26))).setCell ⟨w.heap.size, 0, none⟩ _ (.inr rfl)).setCell ⟨w.heap.size, 1, none⟩ _ (.inr rfl)).setCell ⟨w.heap.size, 2, none⟩ _ (.inr rfl)
      have qf := ((HRS.out.set 0 (.int .i64 k3)).set 1 (.slice ao3 n3 c3)).set 2 (.slice bo3 m3 d3)
      refine bodyPost_ret (results_row3 Tryz.results18 _ _ w.heap.size 26 _ (0, 0) _ rfl qf Tryz.underlying26 rfl size26) rfl ?_
      rw [HY.out]
      exact ⟨HKB.out.trans kf (fun k hk hx => by omega), _, K, rfl, HF.out.1, (HF.out.2.kept kf (fun k hk => by omega)).mono (by omega), HP3.out.kept kf (fun k hk => by omega)⟩
    · obtain ⟨k3, ao3, n3, c3, bo3, m3, d3, rfl, l2, hP2⟩ := hg2
      have hb3 : Below w2.heap.size w2 (w2.alloc (.cells #[.int .i64 k3, .slice ao3 n3 c3, .slice bo3 m3 d3] 26)) := (Below.refl _ _).alloc (Nat.le_refl _) _
      have hR3 := hR2.alloc (.cells #[.int .i64 k3, .slice ao3 n3 c3, .slice bo3 m3 d3] 26)
      obtain ⟨⟨p0, _⟩, ⟨p1, _⟩, ⟨p2, _⟩⟩ := Blk.cf3 (Blk.new w2 #[.int .i64 k3, .slice ao3 n3 c3, .slice bo3 m3 d3] 26)
      have HKB := Lib.hid (HK2.out.below hb3)
      have HP3 := Lib.hid (hP2.below hb3)
      clear hR2 hP2 hb3
      obtain ⟨⟨r0, q0⟩, ⟨r1, q1⟩, ⟨r2, q2⟩⟩ := Blk.cf3 hR3
      have HRS := Lib.hid hR3
      go_wp2_with fail
      have kf : Kept (fun b => b = w.heap.size) (w2.alloc (.cells #[.int .i64 k3, .slice ao3 n3 c3, .slice bo3 m3 d3] 26)) ((((w2.alloc (.cells #[.int .i64 k3, .slice ao3 n3 c3, .slice bo3 m3 d3] 26)).setCell ⟨w.heap.size, 0, none⟩ (.int .i64 k3)).setCell ⟨w.heap.size, 1, none⟩ (.slice ao3 n3 c3)).setCell ⟨w.heap.size, 2, none⟩ (.slice bo3 m3 d3)) := (((Kept.refl (fun b => b = w.heap.size) (w2.alloc (.cells #[.int .i64 k3, .slice ao3 n3 c3, .slice bo3 m3 d3] 26))).setCell ⟨w.heap.size, 0, none⟩ _ (.inr rfl)).setCell ⟨w.heap.size, 1, none⟩ _ (.inr rfl)).setCell ⟨w.heap.size, 2, none⟩ _ (.inr rfl)
      have qf := ((HRS.out.set 0 (.int .i64 k3)).set 1 (.slice ao3 n3 c3)).set 2 (.slice bo3 m3 d3)
      refine bodyPost_ret (results_row3 Tryz.results18 _ _ w.heap.size 26 _ (0, 0) _ rfl qf Tryz.underlying26 rfl size26) rfl ?_
      rw [HY.out]
      exact ⟨HKB.out.trans kf (fun k hk hx => by omega), _, _, _, _, _, _, _, rfl, _, HP3.out.kept kf (fun k hk => by omega)⟩
    · obtain ⟨k3, ao3, n3, c3, bo3, m3, d3, rfl, l2, hP2⟩ := hg2
      have hb3 : Below w2.heap.size w2 (w2.alloc (.cells #[.int .i64 k3, .slice ao3 n3 c3, .slice bo3 m3 d3] 26)) := (Below.refl _ _).alloc (Nat.le_refl _) _
      have hR3 := hR2.alloc (.cells #[.int .i64 k3, .slice ao3 n3 c3, .slice bo3 m3 d3] 26)
      obtain ⟨⟨p0, _⟩, ⟨p1, _⟩, ⟨p2, _⟩⟩ := Blk.cf3 (Blk.new w2 #[.int .i64 k3, .slice ao3 n3 c3, .slice bo3 m3 d3] 26)
      have HKB := Lib.hid (HK2.out.below hb3)
      have HP3 := Lib.hid (hP2.below hb3)
      clear hR2 hP2 hb3
      obtain ⟨⟨r0, q0⟩, ⟨r1, q1⟩, ⟨r2, q2⟩⟩ := Blk.cf3 hR3
      have HRS := Lib.hid hR3
      go_wp2_with fail
      have kf : Kept (fun b => b = w.heap.size) (w2.alloc (.cells #[.int .i64 k3, .slice ao3 n3 c3, .slice bo3 m3 d3] 26)) ((((w2.alloc (.cells #[.int .i64 k3, .slice ao3 n3 c3, .slice bo3 m3 d3] 26)).setCell ⟨w.heap.size, 0, none⟩ (.int .i64 k3)).setCell ⟨w.heap.size, 1, none⟩ (.slice ao3 n3 c3)).setCell ⟨w.heap.size, 2, none⟩ (.slice bo3 m3 d3)) := (((Kept.refl (fun b => b = w.heap.size) (w2.alloc (.cells #[.int .i64 k3, .slice ao3 n3 c3, .slice bo3 m3 d3] 26))).setCell ⟨w.heap.size, 0, none⟩ _ (.inr rfl)).setCell ⟨w.heap.size, 1, none⟩ _ (.inr rfl)).setCell ⟨w.heap.size, 2, none⟩ _ (.inr rfl)
      have qf := ((HRS.out.set 0 (.int .i64 k3)).set 1 (.slice ao3 n3 c3)).set 2 (.slice bo3 m3 d3)
      refine bodyPost_ret (results_row3 Tryz.results18 _ _ w.heap.size 26 _ (0, 0) _ rfl qf Tryz.underlying26 rfl size26) rfl ?_
      rw [HY.out]
      exact ⟨HKB.out.trans kf (fun k hk hx => by omega), _, _, _, _, _, _, _, rfl, _, HP3.out.kept kf (fun k hk => by omega)⟩
  · obtain ⟨rfl, l2, hP2⟩ := hg
    have HP2 := Lib.hid hP2
    clear hP2
    obtain ⟨⟨r0, q0⟩, ⟨r1, q1⟩, ⟨r2, q2⟩⟩ := Blk.cf3 HR.out
    have HRS := Lib.hid HR.out
    go_wp2_with fail
    have kf : Kept (fun b => b = w.heap.size) w1 (((w1.setCell ⟨w.heap.size, 0, none⟩ (.int .i64 0)).setCell ⟨w.heap.size, 1, none⟩ (.slice none 0 0)).setCell ⟨w.heap.size, 2, none⟩ (.slice none 0 0)) := (((Kept.refl (fun b => b = w.heap.size) w1).setCell ⟨w.heap.size, 0, none⟩ _ (.inr rfl)).setCell ⟨w.heap.size, 1, none⟩ _ (.inr rfl)).setCell ⟨w.heap.size, 2, none⟩ _ (.inr rfl)
    have qf := ((HRS.out.set 0 (.int .i64 0)).set 1 (.slice none 0 0)).set 2 (.slice none 0 0)
    refine bodyPost_ret (results_row3 Tryz.results18 _ _ w.heap.size 26 _ (0, 0) _ rfl qf Tryz.underlying26 rfl size26) rfl ?_
    exact ⟨HK.out.trans kf (fun k hk hx => by omega), _, _, _, _, _, _, _, rfl, _, HP2.out.kept kf (fun k hk => by omega)⟩
  · obtain ⟨rfl, l2, hP2⟩ := hg
    have HP2 := Lib.hid hP2
    clear hP2
    obtain ⟨⟨r0, q0⟩, ⟨r1, q1⟩, ⟨r2, q2⟩⟩ := Blk.cf3 HR.out
    have HRS := Lib.hid HR.out
    go_wp2_with fail
    have kf : Kept (fun b => b = w.heap.size) w1 (((w1.setCell ⟨w.heap.size, 0, none⟩ (.int .i64 0)).setCell ⟨w.heap.size, 1, none⟩ (.slice none 0 0)).setCell ⟨w.heap.size, 2, none⟩ (.slice none 0 0)) := (((Kept.refl (fun b => b = w.heap.size) w1).setCell ⟨w.heap.size, 0, none⟩ _ (.inr rfl)).setCell ⟨w.heap.size, 1, none⟩ _ (.inr rfl)).setCell ⟨w.heap.size, 2, none⟩ _ (.inr rfl)
    have qf := ((HRS.out.set 0 (.int .i64 0)).set 1 (.slice none 0 0)).set 2 (.slice none 0 0)
    refine bodyPost_ret (results_row3 Tryz.results18 _ _ w.heap.size 26 _ (0, 0) _ rfl qf Tryz.underlying26 rfl size26) rfl ?_
    exact ⟨HK.out.trans kf (fun k hk hx => by omega), _, _, _, _, _, _, _, rfl, _, HP2.out.kept kf (fun k hk => by omega)⟩
theorem shape_any (S : Psr) : ∀ d, d ≤ 1000 → SubOk d S
  | 0, _ => shape_zero S
  | d + 1, h => shape_succ S d (by omega) (shape_any S d (by omega))
end Go.Proofs.YtjbjjphgnilhmaaGreatDoor


/- The walk of spec.Parse. -/
set_option linter.unusedVariables false
set_option linter.unusedSimpArgs false
namespace Go.Proofs.YtjbjjphgnilhmaaGreatDoor
open Go.RowKit

/-- What Parse gives. -/
def GaveP (l : By.Bs) (o : Res Sh) (w : World) (e : Ending) (w' : World) : Prop := Below w.heap.size w w' ∧ match o with
  | .fine s r => ∃ us K, ∃ i : Nat, e = .returned (.tuple #[.agg us.toArray, .int .i64 0, .int .i64 0, .int .i64 i]) ∧ IsS 8 K us s ∧ Has w.heap.size K w' ∧ i ≤ l.length ∧ r = l.drop i
  | .wrong => ∃ (k : Int) (ao : Option Addr) (n c : Nat) (bo : Option Addr) (m d : Nat) (i : Int), e = .returned (.tuple #[.agg #[.int .i64 k, .slice ao n c, .slice bo m d], .int .i64 0, .int .i64 1, .int .i64 i])
  | .unsaid => ∃ (k : Int) (ao : Option Addr) (n c : Nat) (bo : Option Addr) (m d : Nat) (i : Int), e = .returned (.tuple #[.agg #[.int .i64 k, .slice ao n c, .slice bo m d], .int .i64 0, .int .i64 2, .int .i64 i])
theorem results_row4 {P : Program} {fn : Func} {p u u2 u3 : Tmp} {ty : TypeId} (h : fn.results = #[.cell p ty, .tmp u, .tmp u2, .tmp u3]) (tmps : Array Value) (w : World) (g : Nat) (t : TypeId) (cs : Array Value) (fr : Nat × Nat) (d : TypeDesc)
    (hp : tmps.getD p undef = .pointer (some ⟨g, 0, none⟩)) (hg : w.heap[g]? = some (.cells cs t fr))
    (hu : P.underlying ty = some d) (hd : (match d with | .struct _ | .array _ _ => true | _ => false) = true) (hi : (P.info? ty).map (·.size) = some cs.size) :
    (results fn tmps).run P w = .ok (.tuple #[.agg cs, tmps.getD u undef, tmps.getD u2 undef, tmps.getD u3 undef]) w := by
  have e : (results fn tmps).run P w = ((asAddr (tmps.getD p undef)).run P w).andThen fun a w₁ => ((loadVar ty a).run P w₁).andThen fun v w₂ => .ok (.tuple #[v, tmps.getD u undef, tmps.getD u2 undef, tmps.getD u3 undef]) w₂ := by
    simp only [results, h]
    simp [Sem.run_bind, Result.andThen]
  rw [e, hp]
  simp [asAddr, run_loadVar_row w g t ty cs fr d hg hu hd hi]
theorem Blk.cf2 {w : World} {b : Nat} {x y : Value} {T : TypeId} (h : Blk w b #[x, y] T) : (w.cell? ⟨b, 0, none⟩ = some x ∧ w.frozen? ⟨b, 0, none⟩ = false) ∧ (w.cell? ⟨b, 1, none⟩ = some y ∧ w.frozen? ⟨b, 1, none⟩ = false) := ⟨h.cell rfl, h.cell rfl⟩
set_option maxRecDepth 100000 in
set_option maxHeartbeats 1000000 in
theorem parse_any (b off n c : Nat) (l : By.Bs) (w : World) (hl : l.length = n) (hc : n ≤ c) (h31 : n ≤ 2147483647) (hne : l ≠ []) (hx : BytesAt w b off l) :
    Calls Tryz.prog 9 #[.slice (some ⟨b, off, none⟩) n c, .bool false] w (GaveP l (pShape 8 0 l) w) := by
  have hbw := hx.lt hne
  obtain ⟨W0, hW0⟩ : ∃ W, W = (w.alloc (.cells zeroSh 26)).alloc (.cells #[.slice (some ⟨b, off, none⟩) n c, .int .i64 0] 55) := ⟨_, rfl⟩
  have b0 : Below w.heap.size w W0 := by rw [hW0]; exact ((Below.refl _ _).alloc (Nat.le_refl _) _).alloc (by simp) _
  have r0 : Blk W0 w.heap.size zeroSh 26 := by rw [hW0]; exact (Blk.new w _ _).alloc _
  have s0 : Blk W0 (w.heap.size + 1) #[.slice (some ⟨b, off, none⟩) n c, .int .i64 0] 55 := by
    have := Blk.new (w.alloc (.cells zeroSh 26)) #[.slice (some ⟨b, off, none⟩) n c, .int .i64 0] 55
    rw [World.size_alloc] at this
    rw [hW0]; exact this
  obtain ⟨S, hS⟩ : ∃ S : Psr, S = ⟨w.heap.size + 1, b, off, n, c, l⟩ := ⟨_, rfl⟩
  have hSr : S.rb = w.heap.size + 1 := by rw [hS]
  have hSb : S.db = b := by rw [hS]
  have hSo : S.off = off := by rw [hS]
  have hSn : S.n = n := by rw [hS]
  have hSc : S.c = c := by rw [hS]
  have hSd : S.data = l := by rw [hS]
  have hP0 : Prs S W0 l := by
    rw [hS]
    exact ⟨⟨hl, hc, h31, by show b < w.heap.size + 1; omega, hx.below b0⟩, 0, Nat.zero_le _, rfl, s0⟩
  have hcall : Calls Tryz.prog 18 #[.pointer (some ⟨w.heap.size + 1, 0, none⟩), .int .i64 0, .bool false, .int .i64 8] W0 (GaveSh 8 S (pShape 8 0 l) W0) := by
    have := shape_any S 8 (by omega) 0 l W0 (by omega) hP0
    rw [hSr] at this
    exact this
  obtain ⟨o, ho⟩ : ∃ o, o = pShape 8 0 l := ⟨_, rfl⟩
  rw [← ho] at hcall ⊢
  have HB0 := Lib.hid (⟨b0, r0⟩ : _ ∧ _)
  have HW0 := Lib.hid hW0
  have HS := Lib.hid (⟨hSr, hSb, hSo, hSn, hSc, hSd⟩ : _ ∧ _ ∧ _ ∧ _ ∧ _ ∧ _)
  have HL := Lib.hid hl
  have hz0 : w.heap.size + 2 ≤ W0.heap.size := by rw [hW0]; simp
  clear hl hx hbw b0 r0 s0 hP0 hW0 ho hS hSr hSb hSo hSn hSc hSd
  go_enter Tryz.func9, Tryz.ntmps9
  go_wp2_with fail
  rw [← HW0.out]
  refine hcall.mono ?_
  rintro e w1 ⟨hK, hg⟩
  clear hcall
  have hR1 := HB0.out.2.kept hK (by show ¬ w.heap.size = S.rb; rw [HS.out.1]; omega)
  have hsz := hK.size
  have HB1 : Hid (Below w.heap.size w w1) := Lib.hid (HB0.out.1.trans (hK.to_below (fun k hk => by rw [hk, HS.out.1]; omega) (by omega)))
  clear hK
  rcases o with ⟨s, r⟩ | _ | _
  · obtain ⟨us, K, rfl, hI, hKs, hP2⟩ := hg
    obtain ⟨k3, ao3, n3, c3, bo3, m3, d3, rfl⟩ := hI.form
    obtain ⟨ho, i, hi, hr, hB⟩ := hP2
    rw [HS.out.1] at hB
    rw [HS.out.2.2.2.1] at hi
    rw [HS.out.2.2.2.2.2] at hr
    have hb3 : Below w1.heap.size w1 (w1.alloc (.cells #[.int .i64 k3, .slice ao3 n3 c3, .slice bo3 m3 d3] 26)) := (Below.refl _ _).alloc (Nat.le_refl _) _
    obtain ⟨W2, hW2⟩ : ∃ W, W = w1.alloc (.cells #[.int .i64 k3, .slice ao3 n3 c3, .slice bo3 m3 d3] 26) := ⟨_, rfl⟩
    have hp := Blk.new w1 #[.int .i64 k3, .slice ao3 n3 c3, .slice bo3 m3 d3] 26
    have hR2 := hR1.alloc (.cells #[.int .i64 k3, .slice ao3 n3 c3, .slice bo3 m3 d3] 26)
    have hB2 := hB.below hb3 hB.lt
    rw [← hW2] at hp hR2 hB2 hb3
    obtain ⟨⟨p0, _⟩, ⟨p1, _⟩, ⟨p2, _⟩⟩ := Blk.cf3 hp
    obtain ⟨⟨r0, q0⟩, ⟨r1, q1⟩, ⟨r2, q2⟩⟩ := Blk.cf3 hR2
    obtain ⟨_, ⟨a1, _⟩⟩ := Blk.cf2 hB2
    have HW2 := Lib.hid hW2
    have HR2 := Lib.hid hR2
    have HB2 := Lib.hid (HB1.out.trans (hb3.mono HB1.out.size))
    have HF := Lib.hid (⟨hI, (hKs.mono (lo' := w.heap.size + 2) hz0).below hb3, hi, hr⟩ : _ ∧ Has (w.heap.size + 2) K W2 ∧ _ ∧ _)
    clear ho hr hB hb3 hW2 hp hR1 hR2 hB2 hI hKs
    go_wp2_with fail
    rw [← HW2.out]
    go_region
    all_goals
      go_wp2_with fail
      have kf : Kept (fun b => b = w.heap.size) W2 (((W2.setCell ⟨w.heap.size, 0, none⟩ (.int .i64 k3)).setCell ⟨w.heap.size, 1, none⟩ (.slice ao3 n3 c3)).setCell ⟨w.heap.size, 2, none⟩ (.slice bo3 m3 d3)) := (((Kept.refl (fun b => b = w.heap.size) W2).setCell ⟨w.heap.size, 0, none⟩ _ (.inr rfl)).setCell ⟨w.heap.size, 1, none⟩ _ (.inr rfl)).setCell ⟨w.heap.size, 2, none⟩ _ (.inr rfl)
      have kz := kf.drewN 1
      have qf := (((HR2.out.set 0 (.int .i64 k3)).set 1 (.slice ao3 n3 c3)).set 2 (.slice bo3 m3 d3)).drewN 1
      refine bodyPost_ret (results_row4 Tryz.results9 _ _ w.heap.size 26 _ (0, 0) _ rfl qf Tryz.underlying26 rfl size26) rfl ?_
      have hbz := HB2.out.trans (kz.to_below (fun k hk => by omega) HB2.out.size)
      exact ⟨hbz, _, K, i, rfl, HF.out.1, (HF.out.2.1.kept kz (fun k hk => by omega)).mono (by omega), by rw [HL.out]; exact HF.out.2.2.1, HF.out.2.2.2⟩
  · obtain ⟨k3, ao3, n3, c3, bo3, m3, d3, rfl, r, hP2⟩ := hg
    obtain ⟨ho, i, hi, hr, hB⟩ := hP2
    rw [HS.out.1] at hB
    rw [HS.out.2.2.2.1] at hi
    rw [HS.out.2.2.2.2.2] at hr
    have hb3 : Below w1.heap.size w1 (w1.alloc (.cells #[.int .i64 k3, .slice ao3 n3 c3, .slice bo3 m3 d3] 26)) := (Below.refl _ _).alloc (Nat.le_refl _) _
    obtain ⟨W2, hW2⟩ : ∃ W, W = w1.alloc (.cells #[.int .i64 k3, .slice ao3 n3 c3, .slice bo3 m3 d3] 26) := ⟨_, rfl⟩
    have hp := Blk.new w1 #[.int .i64 k3, .slice ao3 n3 c3, .slice bo3 m3 d3] 26
    have hR2 := hR1.alloc (.cells #[.int .i64 k3, .slice ao3 n3 c3, .slice bo3 m3 d3] 26)
    have hB2 := hB.below hb3 hB.lt
    rw [← hW2] at hp hR2 hB2 hb3
    obtain ⟨⟨p0, _⟩, ⟨p1, _⟩, ⟨p2, _⟩⟩ := Blk.cf3 hp
    obtain ⟨⟨r0, q0⟩, ⟨r1, q1⟩, ⟨r2, q2⟩⟩ := Blk.cf3 hR2
    obtain ⟨_, ⟨a1, _⟩⟩ := Blk.cf2 hB2
    have HW2 := Lib.hid hW2
    have HR2 := Lib.hid hR2
    have HB2 := Lib.hid (HB1.out.trans (hb3.mono HB1.out.size))
    clear ho hr hB hb3 hW2 hp hR1 hR2 hB2
    go_wp2_with fail
    rw [← HW2.out]
    go_region
    all_goals
      go_wp2_with fail
      have kf : Kept (fun b => b = w.heap.size) W2 (((W2.setCell ⟨w.heap.size, 0, none⟩ (.int .i64 k3)).setCell ⟨w.heap.size, 1, none⟩ (.slice ao3 n3 c3)).setCell ⟨w.heap.size, 2, none⟩ (.slice bo3 m3 d3)) := (((Kept.refl (fun b => b = w.heap.size) W2).setCell ⟨w.heap.size, 0, none⟩ _ (.inr rfl)).setCell ⟨w.heap.size, 1, none⟩ _ (.inr rfl)).setCell ⟨w.heap.size, 2, none⟩ _ (.inr rfl)
      have kz := kf.drewN 1
      have qf := (((HR2.out.set 0 (.int .i64 k3)).set 1 (.slice ao3 n3 c3)).set 2 (.slice bo3 m3 d3)).drewN 1
      refine bodyPost_ret (results_row4 Tryz.results9 _ _ w.heap.size 26 _ (0, 0) _ rfl qf Tryz.underlying26 rfl size26) rfl ?_
      have hbz := HB2.out.trans (kz.to_below (fun k hk => by omega) HB2.out.size)
      exact ⟨hbz, _, _, _, _, _, _, _, _, rfl⟩
  · obtain ⟨k3, ao3, n3, c3, bo3, m3, d3, rfl, r, hP2⟩ := hg
    obtain ⟨ho, i, hi, hr, hB⟩ := hP2
    rw [HS.out.1] at hB
    rw [HS.out.2.2.2.1] at hi
    rw [HS.out.2.2.2.2.2] at hr
    have hb3 : Below w1.heap.size w1 (w1.alloc (.cells #[.int .i64 k3, .slice ao3 n3 c3, .slice bo3 m3 d3] 26)) := (Below.refl _ _).alloc (Nat.le_refl _) _
    obtain ⟨W2, hW2⟩ : ∃ W, W = w1.alloc (.cells #[.int .i64 k3, .slice ao3 n3 c3, .slice bo3 m3 d3] 26) := ⟨_, rfl⟩
    have hp := Blk.new w1 #[.int .i64 k3, .slice ao3 n3 c3, .slice bo3 m3 d3] 26
    have hR2 := hR1.alloc (.cells #[.int .i64 k3, .slice ao3 n3 c3, .slice bo3 m3 d3] 26)
    have hB2 := hB.below hb3 hB.lt
    rw [← hW2] at hp hR2 hB2 hb3
    obtain ⟨⟨p0, _⟩, ⟨p1, _⟩, ⟨p2, _⟩⟩ := Blk.cf3 hp
    obtain ⟨⟨r0, q0⟩, ⟨r1, q1⟩, ⟨r2, q2⟩⟩ := Blk.cf3 hR2
    obtain ⟨_, ⟨a1, _⟩⟩ := Blk.cf2 hB2
    have HW2 := Lib.hid hW2
    have HR2 := Lib.hid hR2
    have HB2 := Lib.hid (HB1.out.trans (hb3.mono HB1.out.size))
    clear ho hr hB hb3 hW2 hp hR1 hR2 hB2
    go_wp2_with fail
    rw [← HW2.out]
    go_region
    all_goals
      go_wp2_with fail
      have kf : Kept (fun b => b = w.heap.size) W2 (((W2.setCell ⟨w.heap.size, 0, none⟩ (.int .i64 k3)).setCell ⟨w.heap.size, 1, none⟩ (.slice ao3 n3 c3)).setCell ⟨w.heap.size, 2, none⟩ (.slice bo3 m3 d3)) := (((Kept.refl (fun b => b = w.heap.size) W2).setCell ⟨w.heap.size, 0, none⟩ _ (.inr rfl)).setCell ⟨w.heap.size, 1, none⟩ _ (.inr rfl)).setCell ⟨w.heap.size, 2, none⟩ _ (.inr rfl)
      have kz := kf.drewN 1
      have qf := (((HR2.out.set 0 (.int .i64 k3)).set 1 (.slice ao3 n3 c3)).set 2 (.slice bo3 m3 d3)).drewN 1
      refine bodyPost_ret (results_row4 Tryz.results9 _ _ w.heap.size 26 _ (0, 0) _ rfl qf Tryz.underlying26 rfl size26) rfl ?_
      have hbz := HB2.out.trans (kz.to_below (fun k hk => by omega) HB2.out.size)
      exact ⟨hbz, _, _, _, _, _, _, _, _, rfl⟩
end Go.Proofs.YtjbjjphgnilhmaaGreatDoor
