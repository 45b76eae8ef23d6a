/- The walks of spec's (*reader).body, (*reader).shape. -/
import Derived.Test.YtjbjjphgnilhmaaGreatDoorEg
set_option linter.unusedVariables false
set_option linter.unusedSimpArgs false
namespace Go.Proofs.YtjbjjphgnilhmaaGreatDoor
open Go.RowKit

/-! ### Nothing is read twice -/

theorem rLine_lt {le : Bool} {l r : By.Bs} {x : List By.Pt} (h : By.rLine le l = some (x, r)) : r.length + 4 ≤ l.length := by
  rw [pts_times] at h
  split at h
  · cases h
  · have := (times_pts h).2
    rw [List.length_drop] at this
    omega
theorem pPart_lt {sub : Nat → By.Bs → Res Sh} (hs : ∀ only l s r, sub only l = .fine s r → r.length + 4 ≤ l.length) {le : Bool} {s s' : Sh} {l r : By.Bs} (h : pPart sub le s l = .fine s' r) : r.length + 4 ≤ l.length := by
  unfold pPart at h
  split at h
  · cases e : By.rLine le l with
    | none => rw [e] at h; cases h
    | some x => rw [e] at h; cases h; exact rLine_lt e
  · cases e : sub (onlyOf s.kind) l with
    | wrong => rw [e] at h; cases h
    | unsaid => rw [e] at h; cases h
    | fine p r1 => rw [e] at h; cases h; exact hs _ _ _ _ e
theorem pLoop_le {part : Sh → By.Bs → Res Sh} (hp : ∀ s l s' r, part s l = .fine s' r → r.length ≤ l.length) : ∀ (n : Nat) {s s' : Sh} {l r : By.Bs}, pLoop part n s l = .fine s' r → r.length ≤ l.length
  | 0, s, s', l, r, h => by cases h; exact Nat.le_refl _
  | n + 1, s, s', l, r, h => by
    simp only [pLoop] at h
    cases e : part s l with
    | wrong => rw [e] at h; cases h
    | unsaid => rw [e] at h; cases h
    | fine s1 r1 =>
      rw [e] at h
      exact Nat.le_trans (pLoop_le hp n h) (hp _ _ _ _ e)
theorem pBody_le {sub : Nat → By.Bs → Res Sh} (hs : ∀ only l s r, sub only l = .fine s r → r.length + 4 ≤ l.length) {k : Nat} {le : Bool} {s : Sh} {l r : By.Bs} (h : pBody sub k le l = .fine s r) : r.length ≤ l.length := by
  unfold pBody at h
  split at h
  · cases e : By.rPoint le l with
    | none => rw [e] at h; cases h
    | some x =>
      rw [e] at h
      unfold By.rPoint at e
      split at e
      · cases e
      · cases e; cases h; simp
  · cases e : By.rU32 le l with
    | none => rw [e] at h; cases h
    | some x =>
      obtain ⟨n, r1⟩ := x
      have h4 := By.rU32_some e
      simp only at h4
      have hr1 : r1.length ≤ l.length := by rw [h4.2.2]; simp
      rw [e] at h
      simp only at h
      split at h
      · cases e2 : By.times (By.rPoint le) n r1 with
        | none => rw [e2] at h; cases h
        | some y => rw [e2] at h; cases h; have := (times_pts e2).2; omega
      · exact Nat.le_trans (pLoop_le (fun s l s' r h => by have := pPart_lt hs h; omega) _ h) hr1
theorem pShape_lt : ∀ (d only : Nat) (l : By.Bs) (s : Sh) (r : By.Bs), pShape d only l = .fine s r → r.length + 4 ≤ l.length
  | 0, only, l, s, r, h => by cases h
  | d + 1, only, l, s, r, h => by
    simp only [pShape] at h
    cases e : pHead only l with
    | wrong => rw [e] at h; cases h
    | unsaid => rw [e] at h; cases h
    | fine x r1 =>
      obtain ⟨le, k⟩ := x
      rw [e] at h
      have h1 := By.rHead_some (pHead_fine e).1
      simp only at h1
      have h2 := pBody_le (fun only l s r h => pShape_lt d only l s r h) h
      omega

/-! ### body -/

/-- What body gives. -/
def GaveB (d : Nat) (S : Psr) (o : Res Sh) (w : World) (e : Ending) (w' : World) : Prop := Kept (Rb S) w w' ∧ match o with
  | .fine s r => ∃ us K, e = .returned (.tuple #[.agg us.toArray, .int .i64 0]) ∧ IsS d K us s ∧ Has w.heap.size K w' ∧ Prs S w' r
  | .wrong => ∃ (k : Int) (ao : Option Addr) (n c : Nat) (bo : Option Addr) (m d : Nat), e = .returned (.tuple #[.agg #[.int .i64 k, .slice ao n c, .slice bo m d], .int .i64 1]) ∧ ∃ l2, Prs S w' l2
  | .unsaid => ∃ (k : Int) (ao : Option Addr) (n c : Nat) (bo : Option Addr) (m d : Nat), e = .returned (.tuple #[.agg #[.int .i64 k, .slice ao n c, .slice bo m d], .int .i64 2]) ∧ ∃ l2, Prs S w' l2
theorem Blk.cf3 {w : World} {b : Nat} {x y z : Value} {T : TypeId} (h : Blk w b #[x, y, z] T) : (w.cell? ⟨b, 0, none⟩ = some x ∧ w.frozen? ⟨b, 0, none⟩ = false) ∧ (w.cell? ⟨b, 1, none⟩ = some y ∧ w.frozen? ⟨b, 1, none⟩ = false) ∧ (w.cell? ⟨b, 2, none⟩ = some z ∧ w.frozen? ⟨b, 2, none⟩ = false) :=
  ⟨h.cell rfl, h.cell rfl, h.cell rfl⟩
abbrev zeroSh : Array Value := #[.int .i64 0, .slice none 0 0, .slice none 0 0]
/-- Where body begins: two new blocks. -/
structure BSt (S : Psr) (w W : World) (k : Nat) (l : By.Bs) : Prop where
  rd : Prs S W l
  res : Blk W w.heap.size zeroSh 26
  own : Blk W (w.heap.size + 1) #[.int .i64 k, .slice none 0 0, .slice none 0 0] 26
  kept : Kept (Rb S) w W
  size : W.heap.size = w.heap.size + 2
  lt : S.rb < w.heap.size
theorem BSt.start {S : Psr} {w : World} {l : By.Bs} (k : Nat) (h : Prs S w l) : BSt S w ((w.alloc (.cells zeroSh 26)).alloc (.cells #[.int .i64 k, .slice none 0 0, .slice none 0 0] 26)) k l := by
  have b0 : Below w.heap.size w ((w.alloc (.cells zeroSh 26)).alloc (.cells #[.int .i64 k, .slice none 0 0, .slice none 0 0] 26)) := ((Below.refl _ _).alloc (Nat.le_refl _) _).alloc (by simp) _
  refine ⟨h.below b0, (Blk.new w _ _).alloc _, ?_, Kept.of_below b0 _, by simp, h.lt⟩
  have := Blk.new (w.alloc (.cells zeroSh 26)) #[.int .i64 k, .slice none 0 0, .slice none 0 0] 26
  rw [World.size_alloc] at this
  exact this


set_option maxRecDepth 100000 in
set_option maxHeartbeats 1000000 in
theorem body_one (S : Psr) (d : Nat) (D : Int) (sub : Nat → By.Bs → Res Sh) (le : Bool) (w : World) (l : By.Bs) (h : Prs S w l) :
    Calls Tryz.prog 38 #[.pointer (some ⟨S.rb, 0, none⟩), .int .i64 1, .bool (!le), .int .i64 D] w (GaveB (d + 1) S (pBody sub 1 le l) w) := by
  have e : pBody sub 1 le l = match By.rPoint le l with | none => .wrong | some (p, r) => .fine (.mk 1 [[p]] []) r := rfl
  have e1 : By.times (By.rPoint le) 1 l = (By.rPoint le l).map fun x => ([x.1], x.2) := by
    simp only [By.times]
    cases By.rPoint le l <;> rfl
  obtain ⟨o, ho⟩ : ∃ o, o = By.rPoint le l := ⟨_, rfl⟩
  rw [e, ← ho]
  rw [← ho] at e1
  have hst : BSt S w ((w.alloc (.cells zeroSh 26)).alloc (.cells #[.int .i64 1, .slice none 0 0, .slice none 0 0] 26)) 1 l := BSt.start 1 h
  obtain ⟨W0, hW0⟩ : ∃ W, W = (w.alloc (.cells zeroSh 26)).alloc (.cells #[.int .i64 1, .slice none 0 0, .slice none 0 0] 26) := ⟨_, rfl⟩
  rw [← hW0] at hst
  have HST := Lib.hid hst
  have HW0 := Lib.hid hW0
  have hcall := points_any S 1 le W0 l hst.rd (by omega)
  rw [e1] at hcall
  clear h hst hW0 e e1 ho
  go_enter Tryz.func38, Tryz.ntmps38
  go_wp2_with fail
  rw [← HW0.out]
  refine hcall.mono ?_
  intro e w1 hg
  clear hcall
  rcases o with _ | ⟨p, r⟩
  · obtain ⟨rfl, ⟨l2, hP2⟩, hK⟩ := hg
    have HP2 := Lib.hid hP2
    have HK := Lib.hid (HST.out.kept.same hK)
    have hlt := HST.out.lt
    have hR := HST.out.res.kept hK (by have := HST.out.lt; show ¬ w.heap.size = S.rb; omega)
    clear hK hP2
    obtain ⟨⟨r0, q0⟩, ⟨r1, q1⟩, ⟨r2, q2⟩⟩ := Blk.cf3 hR
    have HRS := Lib.hid hR
    go_wp2_with fail
    have kf : Kept (fun b => b = w.heap.size) w1 (((w1.setCell ⟨w.heap.size, 0, none⟩ (.int .i64 0)).setCell ⟨w.heap.size, 1, none⟩ (.slice none 0 0)).setCell ⟨w.heap.size, 2, none⟩ (.slice none 0 0)) := (((Kept.refl (fun b => b = w.heap.size) w1).setCell ⟨w.heap.size, 0, none⟩ _ (.inr rfl)).setCell ⟨w.heap.size, 1, none⟩ _ (.inr rfl)).setCell ⟨w.heap.size, 2, none⟩ _ (.inr rfl)
    have qf := ((HRS.out.set 0 (.int .i64 0)).set 1 (.slice none 0 0)).set 2 (.slice none 0 0)
    refine bodyPost_ret (results_row2 Tryz.results38 _ _ w.heap.size 26 _ (0, 0) _ rfl qf Tryz.underlying26 rfl size26) rfl ?_
    exact ⟨(HK.out.trans kf (fun k hk hx => by omega)), _, _, _, _, _, _, _, rfl, _, HP2.out.kept kf (fun k hk => by omega)⟩
  · obtain ⟨v, rfl, hR, hP, hK⟩ := hg
    obtain ⟨K, hKv, hIv⟩ := hR.is
    obtain ⟨g, cap, hv, _⟩ := hR.formN
    have hv : v = .slice (some ⟨g, 0, none⟩) 1 cap := hv
    subst hv
    have hlt := HST.out.lt
    have hs0 := HST.out.size
    have hsz := hK.size
    have b2 : Below w1.heap.size w1 (w1.alloc (.cells #[.slice (some ⟨g, 0, none⟩) 1 cap] 52)) := (Below.refl _ _).alloc (Nat.le_refl _) _
    have hRS := (HST.out.res.kept hK (by show ¬ w.heap.size = S.rb; omega)).alloc (.cells #[.slice (some ⟨g, 0, none⟩) 1 cap] 52)
    have hOW := (HST.out.own.kept hK (by show ¬ w.heap.size + 1 = S.rb; omega)).alloc (.cells #[.slice (some ⟨g, 0, none⟩) 1 cap] 52)
    have hNB := Blk.new w1 #[.slice (some ⟨g, 0, none⟩) 1 cap] 52
    obtain ⟨_, ⟨c1, f1⟩, _⟩ := Blk.cf3 hOW
    have ks : Kept (fun b => b = w.heap.size + 1) (w1.alloc (.cells #[.slice (some ⟨g, 0, none⟩) 1 cap] 52)) ((w1.alloc (.cells #[.slice (some ⟨g, 0, none⟩) 1 cap] 52)).setCell ⟨w.heap.size + 1, 1, none⟩ (.slice (some ⟨w1.heap.size, 0, none⟩) 1 1)) := (Kept.refl (fun b => b = w.heap.size + 1) _).setCell ⟨w.heap.size + 1, 1, none⟩ _ (.inr rfl)
    have hOW2 := hOW.set 1 (.slice (some ⟨w1.heap.size, 0, none⟩) 1 1)
    have hRS2 := Blk.kept hRS ks (by omega)
    obtain ⟨⟨s0, _⟩, ⟨s1, _⟩, ⟨s2, _⟩⟩ := Blk.cf3 hOW2
    have HF := Lib.hid (⟨hKv.below b2, hP.below b2, (HST.out.kept.same hK).below b2, hIv, hNB⟩ : Has W0.heap.size K _ ∧ _ ∧ Kept (Rb S) w _ ∧ rowIs repPt 70 K (.slice (some ⟨g, 0, none⟩) 1 cap) [p] ∧ _)
    have HKS := Lib.hid ks
    clear hKv hP hK hR hIv hNB b2 hRS hOW ks hOW2
    obtain ⟨⟨r0, q0⟩, ⟨r1, q1⟩, ⟨r2, q2⟩⟩ := Blk.cf3 hRS2
    have HRS := Lib.hid hRS2
    go_wp2_with fail
    have kf : Kept (fun b => b = w.heap.size) ((w1.alloc (.cells #[.slice (some ⟨g, 0, none⟩) 1 cap] 52)).setCell ⟨w.heap.size + 1, 1, none⟩ (.slice (some ⟨w1.heap.size, 0, none⟩) 1 1)) (((((w1.alloc (.cells #[.slice (some ⟨g, 0, none⟩) 1 cap] 52)).setCell ⟨w.heap.size + 1, 1, none⟩ (.slice (some ⟨w1.heap.size, 0, none⟩) 1 1)).setCell ⟨w.heap.size, 0, none⟩ (.int .i64 1)).setCell ⟨w.heap.size, 1, none⟩ (.slice (some ⟨w1.heap.size, 0, none⟩) 1 1)).setCell ⟨w.heap.size, 2, none⟩ (.slice none 0 0)) := (((Kept.refl (fun b => b = w.heap.size) ((w1.alloc (.cells #[.slice (some ⟨g, 0, none⟩) 1 cap] 52)).setCell ⟨w.heap.size + 1, 1, none⟩ (.slice (some ⟨w1.heap.size, 0, none⟩) 1 1))).setCell ⟨w.heap.size, 0, none⟩ _ (.inr rfl)).setCell ⟨w.heap.size, 1, none⟩ _ (.inr rfl)).setCell ⟨w.heap.size, 2, none⟩ _ (.inr rfl)
    have qf := ((HRS.out.set 0 (.int .i64 1)).set 1 (.slice (some ⟨w1.heap.size, 0, none⟩) 1 1)).set 2 (.slice none 0 0)
    refine bodyPost_ret (results_row2 Tryz.results38 _ _ w.heap.size 26 _ (0, 0) _ rfl qf Tryz.underlying26 rfl size26) rfl ?_
    have kz := HKS.out.weaken (Y := fun b => b = w.heap.size + 1 ∨ b = w.heap.size) (fun k _ h => .inl h) |>.trans kf (fun k _ h => .inr h)
    refine ⟨HF.out.2.2.1.trans kz (fun k hk hx => by omega), [.int .i64 1, .slice (some ⟨w1.heap.size, 0, none⟩) 1 1, .slice none 0 0], fun b o => K b o ∨ kn w1.heap.size (.cells #[.slice (some ⟨g, 0, none⟩) 1 cap] 52) b o, rfl, ln_shape (k := 1) (.inr ⟨rfl, rfl⟩) (RowIs.mono (fun _ _ => repPt.mono fun _ _ h => .inl h) (fun _ _ h => .inl h) HF.out.2.2.2.1), ?_, HF.out.2.1.kept kz (fun k hk => by omega)⟩
    exact ((HF.out.1.mono (lo' := w.heap.size + 2) (by omega)).or (has_kn HF.out.2.2.2.2 (by omega))).kept kz (fun k hk => by omega) |>.mono (by omega)


set_option maxRecDepth 100000 in
theorem body_short (S : Psr) (d k : Nat) (D : Int) (sub : Nat → By.Bs → Res Sh) (le : Bool) (w : World) (l : By.Bs) (h : Prs S w l) (hk : 2 ≤ k) (hl : l.length < 4) :
    Calls Tryz.prog 38 #[.pointer (some ⟨S.rb, 0, none⟩), .int .i64 k, .bool (!le), .int .i64 D] w (GaveB (d + 1) S (pBody sub k le l) w) := by
  have e : pBody sub k le l = .wrong := by
    unfold pBody By.rU32
    rw [if_neg (by omega), if_pos hl]
  rw [e]
  have hst : BSt S w ((w.alloc (.cells zeroSh 26)).alloc (.cells #[.int .i64 k, .slice none 0 0, .slice none 0 0] 26)) k l := BSt.start k h
  obtain ⟨W0, hW0⟩ : ∃ W, W = (w.alloc (.cells zeroSh 26)).alloc (.cells #[.int .i64 k, .slice none 0 0, .slice none 0 0] 26) := ⟨_, rfl⟩
  rw [← hW0] at hst
  have HST := Lib.hid hst
  have HW0 := Lib.hid hW0
  have hcall := number_none S (!le) W0 l hst.rd hl
  have k1 : ((k : Int) == 1) = false := by simp; omega
  clear h hst hW0 e
  go_enter Tryz.func38, Tryz.ntmps38
  go_wp2_with fail
  rw [← HW0.out]
  refine hcall.mono ?_
  rintro e w1 ⟨rfl, hex⟩
  clear hcall
  have hK : Kept (Rb S) W0 w1 := by obtain ⟨q, rfl⟩ := hex; exact (Kept.refl _ _).drewN q
  have hR : Blk w1 w.heap.size zeroSh 26 := HST.out.res.kept hK (by have := HST.out.lt; show ¬ w.heap.size = S.rb; omega)
  have HK := Lib.hid (HST.out.kept.same hK)
  have hlt := HST.out.lt
  have HP2 : Hid (Prs S w1 l) := Lib.hid (by obtain ⟨q, rfl⟩ := hex; exact HST.out.rd.below (below_drewN (Below.refl _ _) _))
  clear hex hK
  obtain ⟨⟨r0, q0⟩, ⟨r1, q1⟩, ⟨r2, q2⟩⟩ := Blk.cf3 hR
  have HRS := Lib.hid hR
  go_wp2_with fail
  have kf : Kept (fun b => b = w.heap.size) w1 (((w1.setCell ⟨w.heap.size, 0, none⟩ (.int .i64 0)).setCell ⟨w.heap.size, 1, none⟩ (.slice none 0 0)).setCell ⟨w.heap.size, 2, none⟩ (.slice none 0 0)) := (((Kept.refl (fun b => b = w.heap.size) w1).setCell ⟨w.heap.size, 0, none⟩ _ (.inr rfl)).setCell ⟨w.heap.size, 1, none⟩ _ (.inr rfl)).setCell ⟨w.heap.size, 2, none⟩ _ (.inr rfl)
  have qf := ((HRS.out.set 0 (.int .i64 0)).set 1 (.slice none 0 0)).set 2 (.slice none 0 0)
  refine bodyPost_ret (results_row2 Tryz.results38 _ _ w.heap.size 26 _ (0, 0) _ rfl qf Tryz.underlying26 rfl size26) rfl ?_
  exact ⟨(HK.out.trans kf (fun k hk hx => by omega)), _, _, _, _, _, _, _, rfl, _, HP2.out.kept kf (fun k hk => by omega)⟩

set_option maxRecDepth 100000 in
set_option maxHeartbeats 1000000 in
theorem body_line (S : Psr) (d : Nat) (D : Int) (sub : Nat → By.Bs → Res Sh) (le : Bool) (w : World) (l : By.Bs) (h : Prs S w l) (h4 : 4 ≤ l.length) :
    Calls Tryz.prog 38 #[.pointer (some ⟨S.rb, 0, none⟩), .int .i64 2, .bool (!le), .int .i64 D] w (GaveB (d + 1) S (pBody sub 2 le l) w) := by
  have e : pBody sub 2 le l = match By.times (By.rPoint le) (By.u32 le l) (l.drop 4) with | none => .wrong | some (x, r) => .fine (.mk 2 [x] []) r := by
    have e0 : By.rU32 le l = some (By.u32 le l, l.drop 4) := by unfold By.rU32; rw [if_neg (by omega)]
    unfold pBody
    rw [if_neg (by omega), e0]
    rfl
  rw [e]
  have hst : BSt S w ((w.alloc (.cells zeroSh 26)).alloc (.cells #[.int .i64 2, .slice none 0 0, .slice none 0 0] 26)) 2 l := BSt.start 2 h
  obtain ⟨W0, hW0⟩ : ∃ W, W = (w.alloc (.cells zeroSh 26)).alloc (.cells #[.int .i64 2, .slice none 0 0, .slice none 0 0] 26) := ⟨_, rfl⟩
  rw [← hW0] at hst
  have HST := Lib.hid hst
  have HW0 := Lib.hid hW0
  have hcall := number_some S le W0 l hst.rd h4
  have hu := By.u32_lt le l
  obtain ⟨m, hm⟩ : ∃ m, m = By.u32 le l := ⟨_, rfl⟩
  rw [← hm] at hcall hu ⊢
  obtain ⟨o, ho⟩ : ∃ o, o = By.times (By.rPoint le) m (l.drop 4) := ⟨_, rfl⟩
  have HP := Lib.hid (fun W hP => points_any S m le W (l.drop 4) hP hu)
  rw [← ho] at HP ⊢
  clear h hst hW0 e hm ho
  go_enter Tryz.func38, Tryz.ntmps38
  go_wp2_with fail
  rw [← HW0.out]
  refine hcall.mono ?_
  rintro e w0 ⟨rfl, hP0, hK0⟩
  have hcall2 := HP.out w0 hP0
  have HK0 := Lib.hid (HST.out.kept.same hK0)
  have HK0' := Lib.hid hK0
  clear hcall hP0 hK0
  go_wp2_with fail
  refine hcall2.mono ?_
  intro e w1 hg
  clear hcall2
  rcases o with _ | ⟨ps, r⟩
  · obtain ⟨rfl, ⟨l2, hP2⟩, hK⟩ := hg
    have hlt := HST.out.lt
    have hs0 := HST.out.size
    have hsz := hK.size
    have hsz0 := HK0'.out.size
    have b2 : Below w1.heap.size w1 (w1.alloc (.cells #[.slice none 0 0] 52)) := (Below.refl _ _).alloc (Nat.le_refl _) _
    have hRS := ((HST.out.res.kept HK0'.out (by show ¬ w.heap.size = S.rb; omega)).kept hK (by show ¬ w.heap.size = S.rb; omega)).alloc (.cells #[.slice none 0 0] 52)
    have hOW := ((HST.out.own.kept HK0'.out (by show ¬ w.heap.size + 1 = S.rb; omega)).kept hK (by show ¬ w.heap.size + 1 = S.rb; omega)).alloc (.cells #[.slice none 0 0] 52)
    have hNB := Blk.new w1 #[.slice none 0 0] 52
    obtain ⟨_, ⟨c1, f1⟩, _⟩ := Blk.cf3 hOW
    have ks : Kept (fun b => b = w.heap.size + 1) (w1.alloc (.cells #[.slice none 0 0] 52)) ((w1.alloc (.cells #[.slice none 0 0] 52)).setCell ⟨w.heap.size + 1, 1, none⟩ (.slice (some ⟨w1.heap.size, 0, none⟩) 1 1)) := (Kept.refl (fun b => b = w.heap.size + 1) _).setCell ⟨w.heap.size + 1, 1, none⟩ _ (.inr rfl)
    have hOW2 := hOW.set 1 (.slice (some ⟨w1.heap.size, 0, none⟩) 1 1)
    have hRS2 := Blk.kept hRS ks (by omega)
    obtain ⟨⟨s0, _⟩, ⟨s1, _⟩, ⟨s2, _⟩⟩ := Blk.cf3 hOW2
    obtain ⟨⟨r0, q0⟩, ⟨r1, q1⟩, ⟨r2, q2⟩⟩ := Blk.cf3 hRS2
    have HP2 := Lib.hid (hP2.below b2)
    have HF := Lib.hid ((HK0.out.same hK).below b2 : Kept (Rb S) w _)
    clear hK hNB b2 hRS hOW hOW2 hP2
    have HKS := Lib.hid ks
    have HRS := Lib.hid hRS2
    clear ks hRS2
    go_wp2_with fail
    obtain ⟨W3, hW3⟩ : ∃ W, W = ((w1.alloc (.cells #[.slice none 0 0] 52)).setCell ⟨w.heap.size + 1, 1, none⟩ (.slice (some ⟨w1.heap.size, 0, none⟩) 1 1)) := ⟨_, rfl⟩
    rw [← hW3] at s0 s1 s2 r0 r1 r2 q0 q1 q2 HKS HRS ⊢
    clear c1 f1 hW3
    go_region_law ((go_simp; go_at_call 55; refine (verdict_any _ _).mono ?_; rintro e w5 ⟨rfl, rfl⟩))
    all_goals
      go_wp2_with fail
      have kf : Kept (fun b => b = w.heap.size) W3 (((W3.setCell ⟨w.heap.size, 0, none⟩ (.int .i64 2)).setCell ⟨w.heap.size, 1, none⟩ (.slice (some ⟨w1.heap.size, 0, none⟩) 1 1)).setCell ⟨w.heap.size, 2, none⟩ (.slice none 0 0)) := (((Kept.refl (fun b => b = w.heap.size) W3).setCell ⟨w.heap.size, 0, none⟩ _ (.inr rfl)).setCell ⟨w.heap.size, 1, none⟩ _ (.inr rfl)).setCell ⟨w.heap.size, 2, none⟩ _ (.inr rfl)
      have qf := (((HRS.out.set 0 (.int .i64 2)).set 1 (.slice (some ⟨w1.heap.size, 0, none⟩) 1 1)).set 2 (.slice none 0 0)).drewN 1
      refine bodyPost_ret (results_row2 Tryz.results38 _ _ w.heap.size 26 _ (0, 0) _ rfl qf Tryz.underlying26 rfl size26) rfl ?_
      have kz := (HKS.out.weaken (Y := fun b => b = w.heap.size + 1 ∨ b = w.heap.size) (fun k _ h => .inl h) |>.trans kf (fun k _ h => .inr h)).drewN 1
      exact ⟨HF.out.trans kz (fun k hk hx => by omega), _, _, _, _, _, _, _, rfl, _, HP2.out.kept kz (fun k hk => by omega)⟩
  · obtain ⟨v, rfl, hR, hP, hK⟩ := hg
    obtain ⟨K, hKv, hIv⟩ := hR.is
    obtain ⟨g, cap, hv, _⟩ := hR.formN
    obtain ⟨n, hn⟩ : ∃ n, n = ps.length := ⟨_, rfl⟩
    rw [← hn] at hv
    subst hv
    clear hn
    have hlt := HST.out.lt
    have hs0 := HST.out.size
    have hsz := hK.size
    have hsz0 := HK0'.out.size
    have b2 : Below w1.heap.size w1 (w1.alloc (.cells #[.slice (some ⟨g, 0, none⟩) n cap] 52)) := (Below.refl _ _).alloc (Nat.le_refl _) _
    have hRS := ((HST.out.res.kept HK0'.out (by show ¬ w.heap.size = S.rb; omega)).kept hK (by show ¬ w.heap.size = S.rb; omega)).alloc (.cells #[.slice (some ⟨g, 0, none⟩) n cap] 52)
    have hOW := ((HST.out.own.kept HK0'.out (by show ¬ w.heap.size + 1 = S.rb; omega)).kept hK (by show ¬ w.heap.size + 1 = S.rb; omega)).alloc (.cells #[.slice (some ⟨g, 0, none⟩) n cap] 52)
    have hNB := Blk.new w1 #[.slice (some ⟨g, 0, none⟩) n cap] 52
    obtain ⟨_, ⟨c1, f1⟩, _⟩ := Blk.cf3 hOW
    have ks : Kept (fun b => b = w.heap.size + 1) (w1.alloc (.cells #[.slice (some ⟨g, 0, none⟩) n cap] 52)) ((w1.alloc (.cells #[.slice (some ⟨g, 0, none⟩) n cap] 52)).setCell ⟨w.heap.size + 1, 1, none⟩ (.slice (some ⟨w1.heap.size, 0, none⟩) 1 1)) := (Kept.refl (fun b => b = w.heap.size + 1) _).setCell ⟨w.heap.size + 1, 1, none⟩ _ (.inr rfl)
    have hOW2 := hOW.set 1 (.slice (some ⟨w1.heap.size, 0, none⟩) 1 1)
    have hRS2 := Blk.kept hRS ks (by omega)
    obtain ⟨⟨s0, _⟩, ⟨s1, _⟩, ⟨s2, _⟩⟩ := Blk.cf3 hOW2
    obtain ⟨⟨r0, q0⟩, ⟨r1, q1⟩, ⟨r2, q2⟩⟩ := Blk.cf3 hRS2
    have HF := Lib.hid (⟨hKv.below b2, hP.below b2, (HK0.out.same hK).below b2, hIv, hNB⟩ : Has w0.heap.size K _ ∧ _ ∧ Kept (Rb S) w _ ∧ rowIs repPt 70 K (.slice (some ⟨g, 0, none⟩) n cap) ps ∧ _)
    clear hKv hP hK hR hIv hNB b2 hRS hOW hOW2
    have HKS := Lib.hid ks
    have HRS := Lib.hid hRS2
    clear ks hRS2
    go_wp2_with fail
    obtain ⟨W3, hW3⟩ : ∃ W, W = ((w1.alloc (.cells #[.slice (some ⟨g, 0, none⟩) n cap] 52)).setCell ⟨w.heap.size + 1, 1, none⟩ (.slice (some ⟨w1.heap.size, 0, none⟩) 1 1)) := ⟨_, rfl⟩
    rw [← hW3] at s0 s1 s2 r0 r1 r2 q0 q1 q2 HKS HRS ⊢
    clear c1 f1 hW3
    go_region_law ((go_simp; go_at_call 55; refine (verdict_any _ _).mono ?_; rintro e w5 ⟨rfl, rfl⟩))
    all_goals
      go_wp2_with fail
      have kf : Kept (fun b => b = w.heap.size) W3 (((W3.setCell ⟨w.heap.size, 0, none⟩ (.int .i64 2)).setCell ⟨w.heap.size, 1, none⟩ (.slice (some ⟨w1.heap.size, 0, none⟩) 1 1)).setCell ⟨w.heap.size, 2, none⟩ (.slice none 0 0)) := (((Kept.refl (fun b => b = w.heap.size) W3).setCell ⟨w.heap.size, 0, none⟩ _ (.inr rfl)).setCell ⟨w.heap.size, 1, none⟩ _ (.inr rfl)).setCell ⟨w.heap.size, 2, none⟩ _ (.inr rfl)
      have qf := (((HRS.out.set 0 (.int .i64 2)).set 1 (.slice (some ⟨w1.heap.size, 0, none⟩) 1 1)).set 2 (.slice none 0 0)).drewN 1
      refine bodyPost_ret (results_row2 Tryz.results38 _ _ w.heap.size 26 _ (0, 0) _ rfl qf Tryz.underlying26 rfl size26) rfl ?_
      have kz := (HKS.out.weaken (Y := fun b => b = w.heap.size + 1 ∨ b = w.heap.size) (fun k _ h => .inl h) |>.trans kf (fun k _ h => .inr h)).drewN 1
      refine ⟨HF.out.2.2.1.trans kz (fun k hk hx => by omega), [.int .i64 2, .slice (some ⟨w1.heap.size, 0, none⟩) 1 1, .slice none 0 0], fun b o => K b o ∨ kn w1.heap.size (.cells #[.slice (some ⟨g, 0, none⟩) n cap] 52) b o, rfl, ln_shape (k := 2) (.inr ⟨rfl, rfl⟩) (RowIs.mono (fun _ _ => repPt.mono fun _ _ h => .inl h) (fun _ _ h => .inl h) HF.out.2.2.2.1), ?_, HF.out.2.1.kept kz (fun k hk => by omega)⟩
      exact ((HF.out.1.mono (lo' := w.heap.size + 2) (by omega)).or (has_kn HF.out.2.2.2.2 (by omega))).kept kz (fun k hk => by omega) |>.mono (by omega)


set_option maxRecDepth 100000 in
set_option maxHeartbeats 1000000 in
theorem body_rest (S : Psr) (d k : Nat) (D : Int) (sub : SubOk d S) (le : Bool) (w : World) (l : By.Bs) (h : Prs S w l) (h4 : 4 ≤ l.length) (hk3 : 3 ≤ k) (hk4 : k ≠ 4) (At : Nat → World → Sh → Prop) (hstart : ∀ W, Blk W (w.heap.size + 1) #[.int .i64 k, .slice none 0 0, .slice none 0 0] 26 → At 0 W (.mk k [] []))
    (hpart : ∀ j W s r, At j W s → Prs S W r → j ≤ 2147483647 → Calls Tryz.prog 56 #[.pointer (some ⟨S.rb, 0, none⟩), .pointer (some ⟨w.heap.size + 1, 0, none⟩), .bool (!le), .int .i64 D] W (GavePt S (w.heap.size + 1) (At (j + 1)) (pPart (pShape d) le s r) W))
    (hend : ∀ j W s, At j W s → ∃ us K, Blk W (w.heap.size + 1) us.toArray 26 ∧ IsS (d + 1) K us s ∧ Has (w.heap.size + 2) K W) :
    Calls Tryz.prog 38 #[.pointer (some ⟨S.rb, 0, none⟩), .int .i64 k, .bool (!le), .int .i64 D] w (GaveB (d + 1) S (pBody (pShape d) k le l) w) := by
  have e : pBody (pShape d) k le l = pLoop (pPart (pShape d) le) (By.u32 le l) (.mk k [] []) (l.drop 4) := by
    have e0 : By.rU32 le l = some (By.u32 le l, l.drop 4) := by unfold By.rU32; rw [if_neg (by omega)]
    unfold pBody
    rw [if_neg (by omega), e0]
    simp only
    rw [if_neg (by omega), if_neg hk4]
  have hlen := h.len
  have hst : BSt S w ((w.alloc (.cells zeroSh 26)).alloc (.cells #[.int .i64 k, .slice none 0 0, .slice none 0 0] 26)) k l := BSt.start k h
  obtain ⟨W0, hW0⟩ : ∃ W, W = (w.alloc (.cells zeroSh 26)).alloc (.cells #[.int .i64 k, .slice none 0 0, .slice none 0 0] 26) := ⟨_, rfl⟩
  rw [← hW0] at hst
  have HST := Lib.hid hst
  have HW0 := Lib.hid hW0
  have hcall := number_some S le W0 l hst.rd h4
  have hu := By.u32_lt le l
  obtain ⟨n, hn⟩ : ∃ n, n = By.u32 le l := ⟨_, rfl⟩
  rw [← hn] at hcall hu e
  obtain ⟨o, ho⟩ : ∃ o, o = pBody (pShape d) k le l := ⟨_, rfl⟩
  rw [← ho] at e ⊢
  have HO := Lib.hid e
  have HPART := Lib.hid hpart
  have HEND := Lib.hid hend
  have HSTART := Lib.hid hstart
  have hsz0 := hst.size
  have hrb := hst.lt
  have k1 : ((k : Int) == 1) = false := by simp; omega
  have k2 : ((k : Int) == 2) = false := by simp; omega
  have k4 : ((k : Int) == 4) = false := by simp; omega
  clear h hst hW0 e hn ho hpart hend hstart sub
  go_enter Tryz.func38, Tryz.ntmps38
  go_wp2_with fail
  rw [← HW0.out]
  refine hcall.mono ?_
  rintro e w0 ⟨rfl, hP0, hK0⟩
  have hR0 := HST.out.res.kept hK0 (by show ¬ w.heap.size = S.rb; omega)
  have hO0 := HST.out.own.kept hK0 (by show ¬ w.heap.size + 1 = S.rb; omega)
  have HK0 := Lib.hid (HST.out.kept.same hK0)
  have hszw := hK0.size
  clear hcall hK0
  have HA0 := Lib.hid (HSTART.out w0 hO0)
  have HP0 := Lib.hid hP0
  have HR0 := Lib.hid hR0
  clear hP0 hR0 hO0 HSTART
  go_wp2_with fail
  have HW : Hid (w.heap.size + 2 ≤ w0.heap.size) := Lib.hid (by omega)
  go_loopw [65] (fun jv wr => ∃ (j : Nat) (s : Sh) (r : By.Bs), j ≤ n ∧ jv = .int .u32 j ∧ j + r.length ≤ l.length ∧ Hid (o = pLoop (pPart (pShape d) le) (n - j) s r) ∧ Hid (At j wr s) ∧ Hid (Prs S wr r) ∧ Hid (Kept (Rb S) w wr) ∧ Hid (Blk wr w.heap.size zeroSh 26) ∧ Hid (w.heap.size + 2 ≤ wr.heap.size)) (fun jv _ => n - (intOf jv).toNat)
  case atStart => exact ⟨0, _, _, Nat.zero_le _, rfl, by rw [List.length_drop]; omega, HO, HA0, HP0, HK0, HR0, HW⟩
  case round =>
    clear HA0 HP0 HR0 HK0 HW
    obtain ⟨j, s, r, hj, rfl, hjr, HO2, HA, HP, HK, HR, HW⟩ := hrel
    by_cases hlt : j < n
    · have hjn : (j : Int) < n := by omega
      have hwr : IntKind.u32.wrap ((j : Int) + 1) = (j : Int) + 1 := IntWalk.u32_in _ (by omega)
      have hcall := HPART.out j wr s r HA.out HP.out (by omega)
      have ho2 := HO2.out
      rw [show n - j = (n - (j + 1)) + 1 by omega] at ho2
      simp only [pLoop] at ho2
      obtain ⟨x, hx⟩ : ∃ x, x = pPart (pShape d) le s r := ⟨_, rfl⟩
      rw [← hx] at ho2 hcall
      have HX := Lib.hid hx
      have HO3 := Lib.hid ho2
      clear ho2 hx
      go_wp2_with fail
      refine hcall.mono ?_
      rintro e w1 ⟨hK, hg⟩
      have hsz := hK.size
      have HW1 : Hid (w.heap.size + 2 ≤ w1.heap.size) := Lib.hid (Nat.le_trans HW.out hsz)
      have hR1 := HR.out.kept hK (by rintro (h | h) <;> omega)
      have HK1 := Lib.hid (HK.out.trans hK (fun k hk hx => by rcases hx with hx | hx; exact hx; omega))
      have HR1 := Lib.hid hR1
      clear hcall hK hR1
      rcases x with ⟨s1, r1⟩ | _ | _
      · obtain ⟨rfl, hA1, hP1⟩ := hg
        have hlt1 := pPart_lt (fun only l s r h => pShape_lt d only l s r h) HX.out.symm
        have HO4 := Lib.hid (show o = pLoop (pPart (pShape d) le) (n - (j + 1)) s1 r1 from HO3.out)
        have HA1 := Lib.hid hA1
        have HP1 := Lib.hid hP1
        clear hA1 hP1
        go_wp2_with fail
        go_roundw
        case rel => exact ⟨j + 1, s1, r1, by omega, by go_num, by omega, HO4, HA1, HP1, HK1, HR1, HW1⟩
        case measure => simp [intOf]; omega
      · obtain ⟨rfl, l2, hP2⟩ := hg
        have HP2 := Lib.hid hP2
        clear hP2
        have hoe : o = .wrong := HO3.out
        subst hoe
        obtain ⟨⟨r0, q0⟩, ⟨r1, q1⟩, ⟨r2, q2⟩⟩ := Blk.cf3 HR1.out
        have HRS := Lib.hid HR1.out
        go_wp2_with fail
        have kf : Kept (fun b => b = w.heap.size) w1 (((w1.setCell ⟨w.heap.size, 0, none⟩ (.int .i64 0)).setCell ⟨w.heap.size, 1, none⟩ (.slice none 0 0)).setCell ⟨w.heap.size, 2, none⟩ (.slice none 0 0)) := (((Kept.refl (fun b => b = w.heap.size) w1).setCell ⟨w.heap.size, 0, none⟩ _ (.inr rfl)).setCell ⟨w.heap.size, 1, none⟩ _ (.inr rfl)).setCell ⟨w.heap.size, 2, none⟩ _ (.inr rfl)
        have qf := ((HRS.out.set 0 (.int .i64 0)).set 1 (.slice none 0 0)).set 2 (.slice none 0 0)
        refine bodyPost_ret (results_row2 Tryz.results38 _ _ w.heap.size 26 _ (0, 0) _ rfl qf Tryz.underlying26 rfl size26) rfl ?_
        exact ⟨(HK1.out.trans kf (fun k hk hx => by omega)), _, _, _, _, _, _, _, rfl, _, HP2.out.kept kf (fun k hk => by omega)⟩
      · obtain ⟨rfl, l2, hP2⟩ := hg
        have HP2 := Lib.hid hP2
        clear hP2
        have hoe : o = .unsaid := HO3.out
        subst hoe
        obtain ⟨⟨r0, q0⟩, ⟨r1, q1⟩, ⟨r2, q2⟩⟩ := Blk.cf3 HR1.out
        have HRS := Lib.hid HR1.out
        go_wp2_with fail
        have kf : Kept (fun b => b = w.heap.size) w1 (((w1.setCell ⟨w.heap.size, 0, none⟩ (.int .i64 0)).setCell ⟨w.heap.size, 1, none⟩ (.slice none 0 0)).setCell ⟨w.heap.size, 2, none⟩ (.slice none 0 0)) := (((Kept.refl (fun b => b = w.heap.size) w1).setCell ⟨w.heap.size, 0, none⟩ _ (.inr rfl)).setCell ⟨w.heap.size, 1, none⟩ _ (.inr rfl)).setCell ⟨w.heap.size, 2, none⟩ _ (.inr rfl)
        have qf := ((HRS.out.set 0 (.int .i64 0)).set 1 (.slice none 0 0)).set 2 (.slice none 0 0)
        refine bodyPost_ret (results_row2 Tryz.results38 _ _ w.heap.size 26 _ (0, 0) _ rfl qf Tryz.underlying26 rfl size26) rfl ?_
        exact ⟨(HK1.out.trans kf (fun k hk hx => by omega)), _, _, _, _, _, _, _, rfl, _, HP2.out.kept kf (fun k hk => by omega)⟩
    · obtain rfl : j = n := by omega
      have hoe := HO2.out
      rw [Nat.sub_self] at hoe
      simp only [pLoop] at hoe
      subst hoe
      obtain ⟨us, K, hB, hI, hKs⟩ := HEND.out j wr s HA.out
      obtain ⟨k5, ao5, n5, c5, bo5, m5, d5, rfl⟩ := hI.form
      obtain ⟨⟨s0, _⟩, ⟨s1, _⟩, ⟨s2, _⟩⟩ := Blk.cf3 hB
      have HF := Lib.hid (⟨hI, hKs⟩ : _ ∧ _)
      clear hB hI hKs hlt
      obtain ⟨⟨r0, q0⟩, ⟨r1, q1⟩, ⟨r2, q2⟩⟩ := Blk.cf3 HR.out
      have HRS := Lib.hid HR.out
      go_wp2_with fail
      have kf : Kept (fun b => b = w.heap.size) wr (((wr.setCell ⟨w.heap.size, 0, none⟩ (.int .i64 k5)).setCell ⟨w.heap.size, 1, none⟩ (.slice ao5 n5 c5)).setCell ⟨w.heap.size, 2, none⟩ (.slice bo5 m5 d5)) := (((Kept.refl (fun b => b = w.heap.size) wr).setCell ⟨w.heap.size, 0, none⟩ _ (.inr rfl)).setCell ⟨w.heap.size, 1, none⟩ _ (.inr rfl)).setCell ⟨w.heap.size, 2, none⟩ _ (.inr rfl)
      have qf := ((HRS.out.set 0 (.int .i64 k5)).set 1 (.slice ao5 n5 c5)).set 2 (.slice bo5 m5 d5)
      refine bodyPost_ret (results_row2 Tryz.results38 _ _ w.heap.size 26 _ (0, 0) _ rfl qf Tryz.underlying26 rfl size26) rfl ?_
      exact ⟨(HK.out.trans kf (fun k hk hx => by omega)), _, K, rfl, HF.out.1, (HF.out.2.kept kf (fun k hk => by omega)).mono (by omega), HP.out.kept kf (fun k hk => by omega)⟩


set_option maxRecDepth 100000 in
set_option maxHeartbeats 1000000 in
theorem body_pts (S : Psr) (d : Nat) (D : Int) (sub : SubOk d S) (le : Bool) (w : World) (l : By.Bs) (h : Prs S w l) (h4 : 4 ≤ l.length) (At : Nat → World → Sh → Prop) (hstart : ∀ W b, Blk W (w.heap.size + 1) #[.int .i64 4, .slice (some ⟨b + 1, 0, none⟩) 1 1, .slice none 0 0] 26 → Blk W (b + 1) #[.slice (some ⟨b, 0, none⟩) 0 0] 52 → Blk W b #[] 70 → w.heap.size + 2 ≤ b → At 0 W (.mk 4 [[]] []))
    (hpart : ∀ j W s r, At j W s → Prs S W r → j ≤ 2147483647 → Calls Tryz.prog 56 #[.pointer (some ⟨S.rb, 0, none⟩), .pointer (some ⟨w.heap.size + 1, 0, none⟩), .bool (!le), .int .i64 D] W (GavePt S (w.heap.size + 1) (At (j + 1)) (pPart (pShape d) le s r) W))
    (hend : ∀ j W s, At j W s → ∃ us K, Blk W (w.heap.size + 1) us.toArray 26 ∧ IsS (d + 1) K us s ∧ Has (w.heap.size + 2) K W) :
    Calls Tryz.prog 38 #[.pointer (some ⟨S.rb, 0, none⟩), .int .i64 4, .bool (!le), .int .i64 D] w (GaveB (d + 1) S (pBody (pShape d) 4 le l) w) := by
  have e : pBody (pShape d) 4 le l = pLoop (pPart (pShape d) le) (By.u32 le l) (.mk 4 [[]] []) (l.drop 4) := by
    have e0 : By.rU32 le l = some (By.u32 le l, l.drop 4) := by unfold By.rU32; rw [if_neg (by omega)]
    unfold pBody
    rw [if_neg (by omega), e0]
    rfl
  have hlen := h.len
  have hst : BSt S w ((w.alloc (.cells zeroSh 26)).alloc (.cells #[.int .i64 4, .slice none 0 0, .slice none 0 0] 26)) 4 l := BSt.start 4 h
  obtain ⟨W0, hW0⟩ : ∃ W, W = (w.alloc (.cells zeroSh 26)).alloc (.cells #[.int .i64 4, .slice none 0 0, .slice none 0 0] 26) := ⟨_, rfl⟩
  rw [← hW0] at hst
  have HST := Lib.hid hst
  have HW0 := Lib.hid hW0
  have hcall := number_some S le W0 l hst.rd h4
  have hu := By.u32_lt le l
  obtain ⟨n, hn⟩ : ∃ n, n = By.u32 le l := ⟨_, rfl⟩
  rw [← hn] at hcall hu e
  obtain ⟨o, ho⟩ : ∃ o, o = pBody (pShape d) 4 le l := ⟨_, rfl⟩
  rw [← ho] at e ⊢
  have HO := Lib.hid e
  have HPART := Lib.hid hpart
  have HEND := Lib.hid hend
  have HSTART := Lib.hid hstart
  have hsz0 := hst.size
  have hrb := hst.lt
  clear h hst hW0 e hn ho hpart hend hstart sub
  go_enter Tryz.func38, Tryz.ntmps38
  go_wp2_with fail
  rw [← HW0.out]
  refine hcall.mono ?_
  rintro e w0 ⟨rfl, hP0, hK0⟩
  have hR0 := HST.out.res.kept hK0 (by show ¬ w.heap.size = S.rb; omega)
  have hO0 := HST.out.own.kept hK0 (by show ¬ w.heap.size + 1 = S.rb; omega)
  have HK0 := Lib.hid (HST.out.kept.same hK0)
  have hszw := hK0.size
  clear hcall hK0
  have b1 : Below w0.heap.size w0 (w0.alloc (.cells #[] 70)) := (Below.refl _ _).alloc (Nat.le_refl _) _
  have b2 : Below w0.heap.size w0 ((w0.alloc (.cells #[] 70)).alloc (.cells #[.slice (some ⟨w0.heap.size, 0, none⟩) 0 0] 52)) := b1.alloc (by simp) _
  obtain ⟨_, ⟨c1, f1⟩, _⟩ := Blk.cf3 (hO0.below b2 hO0.lt)
  obtain ⟨W3, hW3⟩ : ∃ W, W = (((w0.alloc (.cells #[] 70)).alloc (.cells #[.slice (some ⟨w0.heap.size, 0, none⟩) 0 0] 52)).setCell ⟨w.heap.size + 1, 1, none⟩ (.slice (some ⟨w0.heap.size + 1, 0, none⟩) 1 1)) := ⟨_, rfl⟩
  have ks : Kept (fun b => b = w.heap.size + 1) ((w0.alloc (.cells #[] 70)).alloc (.cells #[.slice (some ⟨w0.heap.size, 0, none⟩) 0 0] 52)) W3 := by rw [hW3]; exact (Kept.refl (fun b => b = w.heap.size + 1) _).setCell ⟨w.heap.size + 1, 1, none⟩ _ (.inr rfl)
  have hO3 := (hO0.below b2 hO0.lt).set 1 (.slice (some ⟨w0.heap.size + 1, 0, none⟩) 1 1)
  rw [← hW3] at hO3
  have hin := ((Blk.new w0 #[] 70).alloc (.cells #[.slice (some ⟨w0.heap.size, 0, none⟩) 0 0] 52)).kept ks (by omega)
  have hli := Blk.new (w0.alloc (.cells #[] 70)) #[.slice (some ⟨w0.heap.size, 0, none⟩) 0 0] 52
  rw [World.size_alloc] at hli
  have hli := Blk.kept hli ks (by omega)
  have HA0 := Lib.hid (HSTART.out W3 w0.heap.size hO3 hli hin (by omega))
  have HP0 := Lib.hid ((hP0.below b2).kept ks (fun k hk => by omega))
  have HR0 := Lib.hid (Blk.kept (hR0.below b2 hR0.lt) ks (by omega))
  have HK0 := Lib.hid ((HK0.out.below b2).trans ks (fun k hk hx => by omega))
  have HW : Hid (w.heap.size + 2 ≤ W3.heap.size) := Lib.hid (by rw [hW3]; simp; omega)
  have HW3 := Lib.hid hW3
  clear hP0 hR0 hO0 HSTART b1 b2 ks hO3 hin hli hW3
  go_wp2_with fail
  rw [← HW3.out]
  go_loopw [65] (fun jv wr => ∃ (j : Nat) (s : Sh) (r : By.Bs), j ≤ n ∧ jv = .int .u32 j ∧ j + r.length ≤ l.length ∧ Hid (o = pLoop (pPart (pShape d) le) (n - j) s r) ∧ Hid (At j wr s) ∧ Hid (Prs S wr r) ∧ Hid (Kept (Rb S) w wr) ∧ Hid (Blk wr w.heap.size zeroSh 26) ∧ Hid (w.heap.size + 2 ≤ wr.heap.size)) (fun jv _ => n - (intOf jv).toNat)
  case atStart => exact ⟨0, _, _, Nat.zero_le _, rfl, by rw [List.length_drop]; omega, HO, HA0, HP0, HK0, HR0, HW⟩
  case round =>
    clear HA0 HP0 HR0 HK0 HW HW3
    obtain ⟨j, s, r, hj, rfl, hjr, HO2, HA, HP, HK, HR, HW⟩ := hrel
    by_cases hlt : j < n
    · have hjn : (j : Int) < n := by omega
      have hwr : IntKind.u32.wrap ((j : Int) + 1) = (j : Int) + 1 := IntWalk.u32_in _ (by omega)
      have hcall := HPART.out j wr s r HA.out HP.out (by omega)
      have ho2 := HO2.out
      rw [show n - j = (n - (j + 1)) + 1 by omega] at ho2
      simp only [pLoop] at ho2
      obtain ⟨x, hx⟩ : ∃ x, x = pPart (pShape d) le s r := ⟨_, rfl⟩
      rw [← hx] at ho2 hcall
      have HX := Lib.hid hx
      have HO3 := Lib.hid ho2
      clear ho2 hx
      go_wp2_with fail
      refine hcall.mono ?_
      rintro e w1 ⟨hK, hg⟩
      have hsz := hK.size
      have HW1 : Hid (w.heap.size + 2 ≤ w1.heap.size) := Lib.hid (Nat.le_trans HW.out hsz)
      have hR1 := HR.out.kept hK (by rintro (h | h) <;> omega)
      have HK1 := Lib.hid (HK.out.trans hK (fun k hk hx => by rcases hx with hx | hx; exact hx; omega))
      have HR1 := Lib.hid hR1
      clear hcall hK hR1
      rcases x with ⟨s1, r1⟩ | _ | _
      · obtain ⟨rfl, hA1, hP1⟩ := hg
        have hlt1 := pPart_lt (fun only l s r h => pShape_lt d only l s r h) HX.out.symm
        have HO4 := Lib.hid (show o = pLoop (pPart (pShape d) le) (n - (j + 1)) s1 r1 from HO3.out)
        have HA1 := Lib.hid hA1
        have HP1 := Lib.hid hP1
        clear hA1 hP1
        go_wp2_with fail
        go_roundw
        case rel => exact ⟨j + 1, s1, r1, by omega, by go_num, by omega, HO4, HA1, HP1, HK1, HR1, HW1⟩
        case measure => simp [intOf]; omega
      · obtain ⟨rfl, l2, hP2⟩ := hg
        have HP2 := Lib.hid hP2
        clear hP2
        have hoe : o = .wrong := HO3.out
        subst hoe
        obtain ⟨⟨r0, q0⟩, ⟨r1, q1⟩, ⟨r2, q2⟩⟩ := Blk.cf3 HR1.out
        have HRS := Lib.hid HR1.out
        go_wp2_with fail
        have kf : Kept (fun b => b = w.heap.size) w1 (((w1.setCell ⟨w.heap.size, 0, none⟩ (.int .i64 0)).setCell ⟨w.heap.size, 1, none⟩ (.slice none 0 0)).setCell ⟨w.heap.size, 2, none⟩ (.slice none 0 0)) := (((Kept.refl (fun b => b = w.heap.size) w1).setCell ⟨w.heap.size, 0, none⟩ _ (.inr rfl)).setCell ⟨w.heap.size, 1, none⟩ _ (.inr rfl)).setCell ⟨w.heap.size, 2, none⟩ _ (.inr rfl)
        have qf := ((HRS.out.set 0 (.int .i64 0)).set 1 (.slice none 0 0)).set 2 (.slice none 0 0)
        refine bodyPost_ret (results_row2 Tryz.results38 _ _ w.heap.size 26 _ (0, 0) _ rfl qf Tryz.underlying26 rfl size26) rfl ?_
        exact ⟨(HK1.out.trans kf (fun k hk hx => by omega)), _, _, _, _, _, _, _, rfl, _, HP2.out.kept kf (fun k hk => by omega)⟩
      · obtain ⟨rfl, l2, hP2⟩ := hg
        have HP2 := Lib.hid hP2
        clear hP2
        have hoe : o = .unsaid := HO3.out
        subst hoe
        obtain ⟨⟨r0, q0⟩, ⟨r1, q1⟩, ⟨r2, q2⟩⟩ := Blk.cf3 HR1.out
        have HRS := Lib.hid HR1.out
        go_wp2_with fail
        have kf : Kept (fun b => b = w.heap.size) w1 (((w1.setCell ⟨w.heap.size, 0, none⟩ (.int .i64 0)).setCell ⟨w.heap.size, 1, none⟩ (.slice none 0 0)).setCell ⟨w.heap.size, 2, none⟩ (.slice none 0 0)) := (((Kept.refl (fun b => b = w.heap.size) w1).setCell ⟨w.heap.size, 0, none⟩ _ (.inr rfl)).setCell ⟨w.heap.size, 1, none⟩ _ (.inr rfl)).setCell ⟨w.heap.size, 2, none⟩ _ (.inr rfl)
        have qf := ((HRS.out.set 0 (.int .i64 0)).set 1 (.slice none 0 0)).set 2 (.slice none 0 0)
        refine bodyPost_ret (results_row2 Tryz.results38 _ _ w.heap.size 26 _ (0, 0) _ rfl qf Tryz.underlying26 rfl size26) rfl ?_
        exact ⟨(HK1.out.trans kf (fun k hk hx => by omega)), _, _, _, _, _, _, _, rfl, _, HP2.out.kept kf (fun k hk => by omega)⟩
    · obtain rfl : j = n := by omega
      have hoe := HO2.out
      rw [Nat.sub_self] at hoe
      simp only [pLoop] at hoe
      subst hoe
      obtain ⟨us, K, hB, hI, hKs⟩ := HEND.out j wr s HA.out
      obtain ⟨k5, ao5, n5, c5, bo5, m5, d5, rfl⟩ := hI.form
      obtain ⟨⟨s0, _⟩, ⟨s1, _⟩, ⟨s2, _⟩⟩ := Blk.cf3 hB
      have HF := Lib.hid (⟨hI, hKs⟩ : _ ∧ _)
      clear hB hI hKs hlt
      obtain ⟨⟨r0, q0⟩, ⟨r1, q1⟩, ⟨r2, q2⟩⟩ := Blk.cf3 HR.out
      have HRS := Lib.hid HR.out
      go_wp2_with fail
      have kf : Kept (fun b => b = w.heap.size) wr (((wr.setCell ⟨w.heap.size, 0, none⟩ (.int .i64 k5)).setCell ⟨w.heap.size, 1, none⟩ (.slice ao5 n5 c5)).setCell ⟨w.heap.size, 2, none⟩ (.slice bo5 m5 d5)) := (((Kept.refl (fun b => b = w.heap.size) wr).setCell ⟨w.heap.size, 0, none⟩ _ (.inr rfl)).setCell ⟨w.heap.size, 1, none⟩ _ (.inr rfl)).setCell ⟨w.heap.size, 2, none⟩ _ (.inr rfl)
      have qf := ((HRS.out.set 0 (.int .i64 k5)).set 1 (.slice ao5 n5 c5)).set 2 (.slice bo5 m5 d5)
      refine bodyPost_ret (results_row2 Tryz.results38 _ _ w.heap.size 26 _ (0, 0) _ rfl qf Tryz.underlying26 rfl size26) rfl ?_
      exact ⟨(HK.out.trans kf (fun k hk hx => by omega)), _, K, rfl, HF.out.1, (HF.out.2.kept kf (fun k hk => by omega)).mono (by omega), HP.out.kept kf (fun k hk => by omega)⟩

end Go.Proofs.YtjbjjphgnilhmaaGreatDoor
