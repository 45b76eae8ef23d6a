/- The walks of unmarshalMultiPoint and ScanPoint, unmarshalMultiLineString and ScanLineString, unmarshalPolygon, unmarshalMultiPolygon and ScanPolygon. -/
import Derived.Test.YtjbjjphgnilhmaaGreatDoorBu
import Derived.Test.YtjbjjphgnilhmaaGreatDoorBq
set_option linter.unusedVariables false
namespace Go.Proofs.YtjbjjphgnilhmaaGreatDoor
open Go.RowKit
variable {A : Addr → Prop}

theorem rings_take_le : ∀ (a : List (List By.Pt)) (j : Nat), By.ringsSize (a.take j) ≤ By.ringsSize a
  | [], j => by simp
  | r :: a, 0 => by simp [By.ringsSize]
  | r :: a, j + 1 => by
    have := rings_take_le a j
    simp only [List.take_succ_cons, By.ringsSize]
    omega
theorem rings_take_succ : ∀ (a : List (List By.Pt)) (j : Nat) (r : List By.Pt), a[j]? = some r → By.ringsSize (a.take (j + 1)) = By.ringsSize (a.take j) + (4 + 16 * r.length)
  | [], j, r, h => by simp at h
  | x :: a, 0, r, h => by simp at h; subst h; simp [By.ringsSize]
  | x :: a, j + 1, r, h => by
    have := rings_take_succ a j r (by simpa using h)
    simp only [List.take_succ_cons, By.ringsSize] at this ⊢
    omega
theorem rings_count : ∀ (a : List (List By.Pt)), a.length ≤ By.ringsSize a
  | [] => by simp
  | r :: a => by have := rings_count a; simp only [List.length_cons, By.ringsSize]; omega
def repRow {α : Type} (r : Rep α) (E : TypeId) : Rep (List α) where
  size := 1
  rel := fun H us ls => ∃ v, us = [v] ∧ RowIs False r.size r.rel E H v ls
  mono := fun hk ⟨v, h, hr⟩ => ⟨v, h, hr.mono (fun _ _ => r.mono hk) hk⟩
  len := fun ⟨v, h, _⟩ => by rw [h]; rfl
  one := fun ⟨v, h, hr⟩ u hu => by
    subst h
    simp at hu
    subst hu
    rcases hr with ⟨_, rfl, _⟩ | ⟨g, cap, cur, uss, rfl, _⟩ <;> rfl
theorem info127 : (Tryz.prog.info? 127).map (fun i => (i.zero, i.size, i.bytes)) = some (some (.slice none 0 0), 1, 24) := by kernel_rfl
theorem info72 : (Tryz.prog.info? 72).map (fun i => (i.zero, i.size, i.bytes)) = some (some (.slice none 0 0), 1, 24) := by kernel_rfl
theorem info75 : (Tryz.prog.info? 75).map (fun i => (i.zero, i.size, i.bytes)) = some (some (.slice none 0 0), 1, 24) := by kernel_rfl

/-- What an unmarshaller of a row gives. -/
def Many (A : Addr → Prop) {α : Type} (r : Rep α) (E : TypeId) (o : Option (List α)) (w : World) (e : Ending) (w' : World) : Prop := match o with
  | some ls => ∃ v, e = .returned (.tuple #[v, .nilIface]) ∧ Rowed False r w.heap.size E w' v ls ∧ Below w.heap.size w w'
  | none => NoPts A w e w'
/-- What a scanner gives. -/
def One (A : Addr → Prop) {α : Type} (zv : Value) (is : Knows → Value → α → Prop) (o : Option α) (w : World) (e : Ending) (w' : World) : Prop := match o with
  | some a => ∃ u s K, e = .returned (.tuple #[u, .int .i64 s, .nilIface]) ∧ is K u a ∧ Has w.heap.size K w' ∧ Below w.heap.size w w'
  | none => ∃ s err, IsErr A err ∧ e = .returned (.tuple #[zv, .int .i64 s, err]) ∧ Below w.heap.size w w'
/-- A scanner as it should be, of bytes of so many. -/
def Scanner (A : Addr → Prop) {α : Type} (F : FuncId) (zv : Value) (is : Knows → Value → α → Prop) (sc : By.Bs → Option α) (f : Nat) : Prop :=
  ∀ (b off n c : Nat) (l : By.Bs) (w : World), l.length = n → n ≤ c → n ≤ 2147483647 → n ≤ f → Errs A w → BytesAt w b off l → Calls Tryz.prog F #[.slice (some ⟨b, off, none⟩) n c] w (One A zv is (sc l) w)
def ptIs (_ : Knows) (u : Value) (p : By.Pt) : Prop := u = .agg #[.float .f64 p.1, .float .f64 p.2]
def rowIs {α : Type} (r : Rep α) (E : TypeId) (H : Knows) (u : Value) (ls : List α) : Prop := RowIs False r.size r.rel E H u ls
theorem RowIs.form {α : Type} {size : Nat} {rel : Knows → List Value → α → Prop} {E : TypeId} {H : Knows} {v : Value} {ls : List α} (h : RowIs False size rel E H v ls) : ∃ g cap, v = .slice (some ⟨g, 0, none⟩) ls.length cap ∧ ls.length ≤ cap := by
  rcases h with ⟨h, _⟩ | ⟨g, cap, cur, uss, h1, h2, _⟩
  · exact h.elim
  · exact ⟨g, cap, h1, h2⟩
theorem ring_at {H : Knows} {g cap : Nat} {a : List (List By.Pt)} {E E2 : TypeId} {w : World} {lo : Nat} (hu : rowIs (repRow repPt E) E2 H (.slice (some ⟨g, 0, none⟩) a.length cap) a) (hH : Has lo H w) :
    ∀ j, j < a.length → ∃ c0 cp aj, w.cell? ⟨g, j, none⟩ = some (.slice (some c0) aj cp) ∧ By.ringsSize (a.take (j + 1)) = By.ringsSize (a.take j) + (4 + 16 * aj) := by
  intro j hj
  obtain ⟨g', cap', hv, _, _, _, hget⟩ := RowIs.get hu hH (by intro h; subst h; simp at hj)
  simp only [Value.slice.injEq, Option.some.injEq, Addr.mk.injEq] at hv
  obtain ⟨us, _, ⟨v, rfl, hr⟩, hc⟩ := hget j a[j] (List.getElem?_eq_getElem hj)
  obtain ⟨g2, cap2, rfl, _⟩ := RowIs.form hr
  refine ⟨⟨g2, 0, none⟩, cap2, a[j].length, ?_, rings_take_succ a j _ (List.getElem?_eq_getElem hj)⟩
  rw [hv.1.1]
  simpa [repRow] using hc 0 _ rfl
theorem Rowed.grownKeep {α : Type} {z : Prop} {r : Rep α} {base : Nat} {E : TypeId} {w w1 : World} {v : Value} {ls : List α} (h : Rowed z r base E w v ls) {B : Nat} {w0 : World} (hb : Below B w0 w) (hg : w.grownBy w1 v.ownBlock) (hB : B ≤ base) (hs : B ≤ w.heap.size) : Below B w0 w1 :=
  hb.grown hg hs fun k hk => Nat.le_trans hB (h.lt k hk).1


theorem ump_short (ao : Option Addr) (n c : Nat) (w : World) (he : Errs A w) (hn : n < 4) (x : Int) :
    Calls Tryz.prog 43 #[.int .i64 x, .slice ao n c] w (NoPts A w) := by
  obtain ⟨a, ha⟩ := he 2 (by omega) (by omega)
  clear he
  go_enter Tryz.func43, Tryz.ntmps43
  go_wp2_with fail
  go_quiet (fail)
  go_wp2_with fail
  go_ret2
  exact ⟨_, ⟨a, rfl⟩, rfl, below_drewN (Below.refl _ _) _⟩


set_option maxRecDepth 100000 in
set_option maxHeartbeats 2000000 in
theorem ump_long (f : Nat) (hsc : Scanner A 70 (.agg #[.float .f64 0, .float .f64 0]) ptIs (By.sPoint f) f) (le : Bool) (b off n c : Nat) (l : By.Bs) (w : World) (he : Errs A w) (hl : l.length = n) (hn : 4 ≤ n) (hc : n ≤ c) (h31 : n ≤ 2147483647) (hf : n ≤ f + 4) (hx : BytesAt w b off l) :
    Calls Tryz.prog 43 #[.int .i64 (ordI le), .slice (some ⟨b, off, none⟩) n c] w (Many A repPt 68 (By.uRow le (By.sPoint f) (fun _ => 21) l) w) := by
  rw [By.uRow_times (by omega : ¬ l.length < 4)]
  obtain ⟨i0, hi, hz0, hz1, hz2⟩ := info_parts info68
  have hcall := u32_call le b off n c l w hl hn hx
  have hb := By.u32_lt le l
  obtain ⟨m, hme⟩ : ∃ m, m = By.u32 le l := ⟨_, rfl⟩
  rw [← hme] at hcall hb ⊢
  obtain ⟨o4, hsl, ho4⟩ := from_run b off n c 4 4 rfl hn hc
  have S4 := from_bytes hx hl hc hn ho4
  obtain ⟨d, hd⟩ : ∃ d, d = l.drop 4 := ⟨_, rfl⟩
  rw [← hd] at S4 ⊢
  have hlt4 := decide_eq_false (show ¬ (n : Int) < 4 by omega)
  have HS := Lib.hid S4
  have HN := Lib.hid (⟨hn, hc, h31, hf⟩ : _ ∧ _ ∧ _ ∧ _)
  have HE := Lib.hid he
  have HI := Lib.hid (⟨hi, hz0, hz1, hz2⟩ : _ ∧ _ ∧ _ ∧ _)
  have HP := Lib.hid (By.Prog.start (By.skip (By.sPoint f) (fun _ => 21)) m d)
  clear hl hx hme hd S4 he hi hz0 hz1 hz2 hn ho4 hc h31 hf
  go_enter Tryz.func43, Tryz.ntmps43
  go_wp2_with fail
  refine hcall.mono ?_
  rintro e w1 ⟨rfl, q, rfl⟩
  clear hcall
  by_cases hbig : 100 < m
  all_goals
    go_wp2_with (at_make; refine wpList_make_own _ rfl _ _ 77 rfl w.heap.size 68 i0 (.agg #[.float .f64 0, .float .f64 0]) 2 Tryz.underlying77 HI.out.1 HI.out.2.1 HI.out.2.2.1 .i64 .u32 _ (min m 100) rfl rfl (by omega) ?b2 ?b3 (Nat.le_refl _) ?_)
    case b2 => rw [HI.out.2.2.2]; omega
    case b3 => unfold maxLen; omega
    intro w2 hown hgrow
    have hR := Rowed.of_made (r := repPt) hown False
    have HB : Hid (Below w.heap.size w w2) := Lib.hid ((below_drewN (Below.refl _ _) q).grown hgrow (Nat.le_refl _) (fun _ h => by cases h))
    clear hown hgrow
    go_wp2_with fail
    go_loopw [1, 8, 9] (fun dv v iv wr => ∃ (i : Nat) (done : List By.Pt) (rest : By.Bs) (o' n' c' : Nat), i ≤ m ∧ iv = .int .i64 i ∧ dv = .slice (some ⟨b, o', none⟩) n' c' ∧ Hid (rest.length = n' ∧ n' ≤ c' ∧ n' ≤ n - 4 ∧ BytesAt w b o' rest) ∧ Hid (By.Prog (By.skip (By.sPoint f) (fun _ => 21)) m d i done rest) ∧ Rowed False repPt w.heap.size 68 wr v done ∧ Hid (Below w.heap.size w wr)) (fun _ _ iv _ => m - (intOf iv).toNat)
    case atStart => exact ⟨0, [], d, o4, n - 4, c - 4, Nat.zero_le _, rfl, rfl, Lib.hid ⟨HS.out.1, HS.out.2.1, Nat.le_refl _, HS.out.2.2⟩, HP, hR, HB⟩
    case round =>
      clear hR HB HP
      obtain ⟨i, done, rest, o', n', c', hk, rfl, rfl, HX, HP, hR, HB⟩ := hrel
      by_cases hlt : i < m
      · have him : (i : Int) < m := by omega
        have hdl := HP.out.1
        have HDL := Lib.hid hdl
        have HRL := Lib.hid hR.lt
        have HSZ := Lib.hid HB.out.size
        have hEr := HE.out.below HB.out
        have hXr := HX.out.2.2.2.below HB.out
        have hcel := hsc b o' n' c' rest wr HX.out.1 HX.out.2.1 (by have := HX.out.2.2.1; have := HN.out.2.2.1; omega) (by have := HX.out.2.2.1; have := HN.out.2.2.2; omega) hEr hXr
        have HPN := Lib.hid HP.out
        clear hdl hEr hXr
        rcases hs : (By.sPoint f) rest with _ | a
        · rw [hs] at hcel
          have HFail : Hid (By.times (By.skip (By.sPoint f) (fun _ => 21)) m d = none) := Lib.hid (HPN.out.fail hlt (By.skip_none hs))
          clear hs
          go_wp2_with fail
          refine hcel.mono ?_
          rintro e w3 ⟨s, err, ⟨ad, rfl⟩, rfl, hb3⟩
          have HB3 := Lib.hid (HB.out.trans (hb3.mono HB.out.size))
          clear hb3 hcel
          go_wp2_with fail
          go_ret2
          rw [HFail.out]
          exact ⟨_, ⟨ad, rfl⟩, rfl, HB3.out.alloc HB3.out.size _⟩
        · rw [hs] at hcel
          have hst := HPN.out.step hlt (By.skip_some hs)
          have hkl := (By.sPoint_scans f _ _ hs).2
          clear hs
          go_wp2_with fail
          refine hcel.mono ?_
          rintro e w3 ⟨u, s, H, rfl, rfl, hH, hb3⟩
          obtain ⟨o2, hs2, ho2⟩ := from_run b o' n' c' 21 21 rfl (by have := HX.out.1; omega) HX.out.2.1
          have FB := Lib.hid (from_bytes HX.out.2.2.2 HX.out.1 HX.out.2.1 (by have := HX.out.1; omega) ho2)
          have hR3 := hR.below hb3
          have HB3 := Lib.hid (HB.out.trans (hb3.mono HB.out.size))
          clear hb3 hcel hR ho2 hkl
          go_wp2_with (at_builtin; refine wpList_append_rowed (r := repPt) rfl _ _ 77 rfl (lo := w3.heap.size) 68 68 i0 (.agg #[.float .f64 0, .float .f64 0]) 16 Tryz.underlying77 HI.out.1 HI.out.2.1 HI.out.2.2.1 HI.out.2.2.2 rfl (by decide) _ _ rfl (hR3.alloc _) (ptCells a) a (fun _ _ => False) ?c0 rfl ?c4 ?c1 #[.float .f64 a.1, .float .f64 a.2] rfl _ rfl ?c6 ?c2 ?c3 ?c5 ?_)
          case c0 => exact fun _ _ h => h.elim
          case c4 => exact HB3.out.size
          case c1 => exact fun k hk => (hR3.lt k hk).2
          case c2 => rw [HDL.out]; unfold maxLen; omega
          case c3 => rw [HDL.out]; omega
          case c5 => exact by have := HB3.out.size; simp; omega
          case c6 => simp
          intro v2 w4 hR2 hg
          have hb4 : Below w.heap.size w w4 := (hR3.alloc _).grownKeep (HB3.out.alloc HB3.out.size _) hg (Nat.le_refl _) (by have := HB3.out.size; simp; omega)
          have HB4 := Lib.hid hb4
          have HX4 := Lib.hid (show (rest.drop 21).length = n' - 21 ∧ n' - 21 ≤ c' - 21 ∧ n' - 21 ≤ n - 4 ∧ BytesAt w b o2 (rest.drop 21) from ⟨FB.out.1, FB.out.2.1, by have := HX.out.2.2.1; omega, FB.out.2.2⟩)
          have HST := Lib.hid hst
          clear hg hb4 hst hR3
          go_wp2_with fail
          go_roundw
          case rel => exact ⟨i + 1, done ++ [a], _, o2, _, _, by omega, by go_num, rfl, HX4, HST, hR2, HB4⟩
          case measure => simp [intOf]; omega
      · obtain rfl : i = m := by omega
        have HF : Hid (By.times (By.skip (By.sPoint f) (fun _ => 21)) i d = some (done, rest)) := Lib.hid HP.out.done
        have HR := Lib.hid hR
        clear hR hlt
        go_wp2_with fail
        go_ret2
        rw [HF.out]
        exact ⟨_, rfl, HR.out, HB.out⟩


theorem uml_short (ao : Option Addr) (n c : Nat) (w : World) (he : Errs A w) (hn : n < 4) (x : Int) :
    Calls Tryz.prog 45 #[.int .i64 x, .slice ao n c] w (NoPts A w) := by
  obtain ⟨a, ha⟩ := he 2 (by omega) (by omega)
  clear he
  go_enter Tryz.func45, Tryz.ntmps45
  go_wp2_with fail
  go_quiet (fail)
  go_wp2_with fail
  go_ret2
  exact ⟨_, ⟨a, rfl⟩, rfl, below_drewN (Below.refl _ _) _⟩


set_option maxRecDepth 100000 in
set_option maxHeartbeats 2000000 in
theorem uml_long (f : Nat) (hsc : Scanner A 72 (.slice none 0 0) (rowIs repPt 68) (By.sLine f) f) (le : Bool) (b off n c : Nat) (l : By.Bs) (w : World) (he : Errs A w) (hl : l.length = n) (hn : 4 ≤ n) (hc : n ≤ c) (h31 : n ≤ 2147483647) (hf : n ≤ f + 4) (hx : BytesAt w b off l) :
    Calls Tryz.prog 45 #[.int .i64 (ordI le), .slice (some ⟨b, off, none⟩) n c] w (Many A (repRow repPt 68) 72 (By.uRow le (By.sLine f) (fun l => 16 * l.length + 9) l) w) := by
  rw [By.uRow_times (by omega : ¬ l.length < 4)]
  obtain ⟨i0, hi, hz0, hz1, hz2⟩ := info_parts info72
  have hcall := u32_call le b off n c l w hl hn hx
  have hb := By.u32_lt le l
  obtain ⟨m, hme⟩ : ∃ m, m = By.u32 le l := ⟨_, rfl⟩
  rw [← hme] at hcall hb ⊢
  obtain ⟨o4, hsl, ho4⟩ := from_run b off n c 4 4 rfl hn hc
  have S4 := from_bytes hx hl hc hn ho4
  obtain ⟨d, hd⟩ : ∃ d, d = l.drop 4 := ⟨_, rfl⟩
  rw [← hd] at S4 ⊢
  have hlt4 := decide_eq_false (show ¬ (n : Int) < 4 by omega)
  have HS := Lib.hid S4
  have HN := Lib.hid (⟨hn, hc, h31, hf⟩ : _ ∧ _ ∧ _ ∧ _)
  have HE := Lib.hid he
  have HI := Lib.hid (⟨hi, hz0, hz1, hz2⟩ : _ ∧ _ ∧ _ ∧ _)
  have HP := Lib.hid (By.Prog.start (By.skip (By.sLine f) (fun l => 16 * l.length + 9)) m d)
  clear hl hx hme hd S4 he hi hz0 hz1 hz2 hn ho4 hc h31 hf
  go_enter Tryz.func45, Tryz.ntmps45
  go_wp2_with fail
  refine hcall.mono ?_
  rintro e w1 ⟨rfl, q, rfl⟩
  clear hcall
  by_cases hbig : 100 < m
  all_goals
    go_wp2_with (at_make; refine wpList_make_own _ rfl _ _ 79 rfl w.heap.size 72 i0 (.slice none 0 0) 1 Tryz.underlying79 HI.out.1 HI.out.2.1 HI.out.2.2.1 .i64 .u32 _ (min m 100) rfl rfl (by omega) ?b2 ?b3 (Nat.le_refl _) ?_)
    case b2 => rw [HI.out.2.2.2]; omega
    case b3 => unfold maxLen; omega
    intro w2 hown hgrow
    have hR := Rowed.of_made (r := (repRow repPt 68)) hown False
    have HB : Hid (Below w.heap.size w w2) := Lib.hid ((below_drewN (Below.refl _ _) q).grown hgrow (Nat.le_refl _) (fun _ h => by cases h))
    clear hown hgrow
    go_wp2_with fail
    go_loopw [1, 8, 9] (fun dv v iv wr => ∃ (i : Nat) (done : List (List By.Pt)) (rest : By.Bs) (o' n' c' : Nat), i ≤ m ∧ iv = .int .i64 i ∧ dv = .slice (some ⟨b, o', none⟩) n' c' ∧ Hid (rest.length = n' ∧ n' ≤ c' ∧ n' ≤ n - 4 ∧ BytesAt w b o' rest) ∧ Hid (By.Prog (By.skip (By.sLine f) (fun l => 16 * l.length + 9)) m d i done rest) ∧ Rowed False (repRow repPt 68) w.heap.size 72 wr v done ∧ Hid (Below w.heap.size w wr)) (fun _ _ iv _ => m - (intOf iv).toNat)
    case atStart => exact ⟨0, [], d, o4, n - 4, c - 4, Nat.zero_le _, rfl, rfl, Lib.hid ⟨HS.out.1, HS.out.2.1, Nat.le_refl _, HS.out.2.2⟩, HP, hR, HB⟩
    case round =>
      clear hR HB HP
      obtain ⟨i, done, rest, o', n', c', hk, rfl, rfl, HX, HP, hR, HB⟩ := hrel
      by_cases hlt : i < m
      · have him : (i : Int) < m := by omega
        have hdl := HP.out.1
        have HDL := Lib.hid hdl
        have HRL := Lib.hid hR.lt
        have HSZ := Lib.hid HB.out.size
        have hEr := HE.out.below HB.out
        have hXr := HX.out.2.2.2.below HB.out
        have hcel := hsc b o' n' c' rest wr HX.out.1 HX.out.2.1 (by have := HX.out.2.2.1; have := HN.out.2.2.1; omega) (by have := HX.out.2.2.1; have := HN.out.2.2.2; omega) hEr hXr
        have HPN := Lib.hid HP.out
        clear hdl hEr hXr
        rcases hs : (By.sLine f) rest with _ | a
        · rw [hs] at hcel
          have HFail : Hid (By.times (By.skip (By.sLine f) (fun l => 16 * l.length + 9)) m d = none) := Lib.hid (HPN.out.fail hlt (By.skip_none hs))
          clear hs
          go_wp2_with fail
          refine hcel.mono ?_
          rintro e w3 ⟨s, err, ⟨ad, rfl⟩, rfl, hb3⟩
          have HB3 := Lib.hid (HB.out.trans (hb3.mono HB.out.size))
          clear hb3 hcel
          go_wp2_with fail
          go_ret2
          rw [HFail.out]
          exact ⟨_, ⟨ad, rfl⟩, rfl, HB3.out⟩
        · rw [hs] at hcel
          have hst := HPN.out.step hlt (By.skip_some hs)
          have hkl := (By.sLine_scans f _ _ hs).2
          clear hs
          go_wp2_with fail
          refine hcel.mono ?_
          rintro e w3 ⟨u, s, H, rfl, hu, hH, hb3⟩
          obtain ⟨g2, cap2, hv2, _⟩ := RowIs.form hu
          subst hv2
          have hR3 := hR.below hb3
          have HB3 := Lib.hid (HB.out.trans (hb3.mono HB.out.size))
          have HU := Lib.hid hu
          have HH := Lib.hid hH
          have hsz3 := hb3.size
          clear hb3 hcel hR hu hH
          have hkn : 16 * a.length + 9 ≤ n' := by have := HX.out.1; omega
          have hn4 : n' ≤ 2147483647 := by have := HX.out.2.2.1; have := HN.out.2.2.1; omega
          obtain ⟨o2, hs2, ho2⟩ := from_run b o' n' c' (16 * a.length + 9) (16 * (a.length : Int) + 9) (by omega) hkn HX.out.2.1
          have FB := Lib.hid (from_bytes HX.out.2.2.2 HX.out.1 HX.out.2.1 hkn ho2)
          have hj1 : IntKind.i64.wrap (16 * (a.length : Int)) = 16 * (a.length : Int) := IntWalk.i64_in _ (by omega)
          have hj2 : IntKind.i64.wrap (16 * (a.length : Int) + 9) = 16 * (a.length : Int) + 9 := IntWalk.i64_in _ (by omega)
          have HZ := Lib.hid hsz3
          clear ho2 hkl hkn hn4 hsz3
          go_wp2_with (at_builtin; refine wpList_append_rowed (r := (repRow repPt 68)) rfl _ _ 79 rfl (lo := wr.heap.size) 72 72 i0 (.slice none 0 0) 24 Tryz.underlying79 HI.out.1 HI.out.2.1 HI.out.2.2.1 HI.out.2.2.2 rfl (by decide) _ _ rfl hR3 [.slice (some ⟨g2, 0, none⟩) a.length cap2] a H ?c0 ⟨_, rfl, HU.out⟩ ?c4 ?c1 #[.slice (some ⟨g2, 0, none⟩) a.length cap2] rfl _ rfl ?c6 ?c2 ?c3 ?c5 ?_)
          case c0 => exact HH.out
          case c4 => exact HB.out.size
          case c1 => exact fun k hk => (HRL.out k hk).2
          case c2 => rw [HDL.out]; unfold maxLen; omega
          case c3 => rw [HDL.out]; omega
          case c5 => exact HB3.out.size
          case c6 => simp
          intro v2 w4 hR2 hg
          have hb4 : Below w.heap.size w w4 := hR3.grownKeep HB3.out hg (Nat.le_refl _) HB3.out.size
          have HB4 := Lib.hid hb4
          have HX4 := Lib.hid (show (rest.drop (16 * a.length + 9)).length = n' - (16 * a.length + 9) ∧ n' - (16 * a.length + 9) ≤ c' - (16 * a.length + 9) ∧ n' - (16 * a.length + 9) ≤ n - 4 ∧ BytesAt w b o2 (rest.drop (16 * a.length + 9)) from ⟨FB.out.1, FB.out.2.1, by have := HX.out.2.2.1; omega, FB.out.2.2⟩)
          have HST := Lib.hid hst
          clear hg hb4 hst hR3
          go_wp2_with fail
          go_roundw
          case rel => exact ⟨i + 1, done ++ [a], _, o2, _, _, by omega, by go_num, rfl, HX4, HST, hR2, HB4⟩
          case measure => simp [intOf]; omega
      · obtain rfl : i = m := by omega
        have HF : Hid (By.times (By.skip (By.sLine f) (fun l => 16 * l.length + 9)) i d = some (done, rest)) := Lib.hid HP.out.done
        have HR := Lib.hid hR
        clear hR hlt
        go_wp2_with fail
        go_ret2
        rw [HF.out]
        exact ⟨_, rfl, HR.out, HB.out⟩


theorem upg_short (ao : Option Addr) (n c : Nat) (w : World) (he : Errs A w) (hn : n < 4) (x : Int) :
    Calls Tryz.prog 46 #[.int .i64 x, .slice ao n c] w (NoPts A w) := by
  obtain ⟨a, ha⟩ := he 2 (by omega) (by omega)
  clear he
  go_enter Tryz.func46, Tryz.ntmps46
  go_wp2_with fail
  go_quiet (fail)
  go_wp2_with fail
  go_ret2
  exact ⟨_, ⟨a, rfl⟩, rfl, below_drewN (Below.refl _ _) _⟩


set_option maxRecDepth 100000 in
set_option maxHeartbeats 2000000 in
theorem upg_long (le : Bool) (b off n c : Nat) (l : By.Bs) (w : World) (he : Errs A w) (hl : l.length = n) (hn : 4 ≤ n) (hc : n ≤ c) (h31 : n ≤ 2147483647) (hx : BytesAt w b off l) :
    Calls Tryz.prog 46 #[.int .i64 (ordI le), .slice (some ⟨b, off, none⟩) n c] w (Many A (repRow repPt 68) 127 (By.uRow le (By.uPoints le) (fun l => 16 * l.length + 4) l) w) := by
  rw [By.uRow_times (by omega : ¬ l.length < 4)]
  obtain ⟨i0, hi, hz0, hz1, hz2⟩ := info_parts info127
  have hcall := u32_call le b off n c l w hl hn hx
  have hb := By.u32_lt le l
  obtain ⟨m, hme⟩ : ∃ m, m = By.u32 le l := ⟨_, rfl⟩
  rw [← hme] at hcall hb ⊢
  obtain ⟨o4, hsl, ho4⟩ := from_run b off n c 4 4 rfl hn hc
  have S4 := from_bytes hx hl hc hn ho4
  obtain ⟨d, hd⟩ : ∃ d, d = l.drop 4 := ⟨_, rfl⟩
  rw [← hd] at S4 ⊢
  have hlt4 := decide_eq_false (show ¬ (n : Int) < 4 by omega)
  have HS := Lib.hid S4
  have HN := Lib.hid (⟨hn, hc, h31⟩ : _ ∧ _ ∧ _)
  have HE := Lib.hid he
  have HI := Lib.hid (⟨hi, hz0, hz1, hz2⟩ : _ ∧ _ ∧ _ ∧ _)
  have HP := Lib.hid (By.Prog.start (By.skip (By.uPoints le) (fun l => 16 * l.length + 4)) m d)
  clear hl hx hme hd S4 he hi hz0 hz1 hz2 hn ho4 hc h31
  go_enter Tryz.func46, Tryz.ntmps46
  go_wp2_with fail
  refine hcall.mono ?_
  rintro e w1 ⟨rfl, q, rfl⟩
  clear hcall
  by_cases hbig : 100 < m
  all_goals
    go_wp2_with (at_make; refine wpList_make_own _ rfl _ _ 75 rfl w.heap.size 127 i0 (.slice none 0 0) 1 Tryz.underlying75 HI.out.1 HI.out.2.1 HI.out.2.2.1 .i64 .u32 _ (min m 100) rfl rfl (by omega) ?b2 ?b3 (Nat.le_refl _) ?_)
    case b2 => rw [HI.out.2.2.2]; omega
    case b3 => unfold maxLen; omega
    intro w2 hown hgrow
    have hR := Rowed.of_made (r := (repRow repPt 68)) hown False
    have HB : Hid (Below w.heap.size w w2) := Lib.hid ((below_drewN (Below.refl _ _) q).grown hgrow (Nat.le_refl _) (fun _ h => by cases h))
    clear hown hgrow
    go_wp2_with fail
    go_loopw [1, 8, 9] (fun dv v iv wr => ∃ (i : Nat) (done : List (List By.Pt)) (rest : By.Bs) (o' n' c' : Nat), i ≤ m ∧ iv = .int .i64 i ∧ dv = .slice (some ⟨b, o', none⟩) n' c' ∧ Hid (rest.length = n' ∧ n' ≤ c' ∧ n' ≤ n - 4 ∧ BytesAt w b o' rest) ∧ Hid (By.Prog (By.skip (By.uPoints le) (fun l => 16 * l.length + 4)) m d i done rest) ∧ Rowed False (repRow repPt 68) w.heap.size 127 wr v done ∧ Hid (Below w.heap.size w wr)) (fun _ _ iv _ => m - (intOf iv).toNat)
    case atStart => exact ⟨0, [], d, o4, n - 4, c - 4, Nat.zero_le _, rfl, rfl, Lib.hid ⟨HS.out.1, HS.out.2.1, Nat.le_refl _, HS.out.2.2⟩, HP, hR, HB⟩
    case round =>
      clear hR HB HP
      obtain ⟨i, done, rest, o', n', c', hk, rfl, rfl, HX, HP, hR, HB⟩ := hrel
      by_cases hlt : i < m
      · have him : (i : Int) < m := by omega
        have hdl := HP.out.1
        have HDL := Lib.hid hdl
        have HRL := Lib.hid hR.lt
        have HSZ := Lib.hid HB.out.size
        have hEr := HE.out.below HB.out
        have hXr := HX.out.2.2.2.below HB.out
        have hcel : Calls Tryz.prog 71 #[.int .i64 (ordI le), .slice (some ⟨b, o', none⟩) n' c'] wr (Many A repPt 68 (By.uPoints le rest) wr) := by
          rcases hs : By.uPoints le rest with _ | ps
          · exact ups_none le b o' n' c' rest wr hs hEr HX.out.1 HX.out.2.1 (by have := HX.out.2.2.1; have := HN.out.2.2; omega) hXr
          · exact ups_some le b o' n' c' rest ps wr hs HX.out.1 HX.out.2.1 (by have := HX.out.2.2.1; have := HN.out.2.2; omega) hXr
        have HPN := Lib.hid HP.out
        clear hdl hEr hXr
        rcases hs : (By.uPoints le) rest with _ | a
        · rw [hs] at hcel
          have HFail : Hid (By.times (By.skip (By.uPoints le) (fun l => 16 * l.length + 4)) m d = none) := Lib.hid (HPN.out.fail hlt (By.skip_none hs))
          clear hs
          go_wp2_with fail
          refine hcel.mono ?_
          rintro e w3 ⟨err, ⟨ad, rfl⟩, rfl, hb3⟩
          have HB3 := Lib.hid (HB.out.trans (hb3.mono HB.out.size))
          clear hb3 hcel
          go_wp2_with fail
          go_ret2
          rw [HFail.out]
          exact ⟨_, ⟨ad, rfl⟩, rfl, HB3.out⟩
        · rw [hs] at hcel
          have hst := HPN.out.step hlt (By.skip_some hs)
          have hkl := (By.uPoints_scans le _ _ hs).2
          clear hs
          go_wp2_with fail
          refine hcel.mono ?_
          rintro e w3 ⟨u, rfl, hRu, hb3⟩
          obtain ⟨H, hH, hu⟩ := hRu.is
          clear hRu
          obtain ⟨g2, cap2, hv2, _⟩ := RowIs.form hu
          subst hv2
          have hR3 := hR.below hb3
          have HB3 := Lib.hid (HB.out.trans (hb3.mono HB.out.size))
          have HU := Lib.hid hu
          have HH := Lib.hid hH
          have hsz3 := hb3.size
          clear hb3 hcel hR hu hH
          have hkn : 16 * a.length + 4 ≤ n' := by have := HX.out.1; omega
          have hn4 : n' ≤ 2147483647 := by have := HX.out.2.2.1; have := HN.out.2.2; omega
          obtain ⟨o2, hs2, ho2⟩ := from_run b o' n' c' (16 * a.length + 4) (16 * (a.length : Int) + 4) (by omega) hkn HX.out.2.1
          have FB := Lib.hid (from_bytes HX.out.2.2.2 HX.out.1 HX.out.2.1 hkn ho2)
          have hj1 : IntKind.i64.wrap (16 * (a.length : Int)) = 16 * (a.length : Int) := IntWalk.i64_in _ (by omega)
          have hj2 : IntKind.i64.wrap (16 * (a.length : Int) + 4) = 16 * (a.length : Int) + 4 := IntWalk.i64_in _ (by omega)
          have HZ := Lib.hid hsz3
          clear ho2 hkl hkn hn4 hsz3
          go_wp2_with (at_builtin; refine wpList_append_rowed (r := (repRow repPt 68)) rfl _ _ 75 rfl (lo := wr.heap.size) 127 127 i0 (.slice none 0 0) 24 Tryz.underlying75 HI.out.1 HI.out.2.1 HI.out.2.2.1 HI.out.2.2.2 rfl (by decide) _ _ rfl hR3 [.slice (some ⟨g2, 0, none⟩) a.length cap2] a H ?c0 ⟨_, rfl, HU.out⟩ ?c4 ?c1 #[.slice (some ⟨g2, 0, none⟩) a.length cap2] rfl _ rfl ?c6 ?c2 ?c3 ?c5 ?_)
          case c0 => exact HH.out
          case c4 => exact HB.out.size
          case c1 => exact fun k hk => (HRL.out k hk).2
          case c2 => rw [HDL.out]; unfold maxLen; omega
          case c3 => rw [HDL.out]; omega
          case c5 => exact HB3.out.size
          case c6 => simp
          intro v2 w4 hR2 hg
          have hb4 : Below w.heap.size w w4 := hR3.grownKeep HB3.out hg (Nat.le_refl _) HB3.out.size
          have HB4 := Lib.hid hb4
          have HX4 := Lib.hid (show (rest.drop (16 * a.length + 4)).length = n' - (16 * a.length + 4) ∧ n' - (16 * a.length + 4) ≤ c' - (16 * a.length + 4) ∧ n' - (16 * a.length + 4) ≤ n - 4 ∧ BytesAt w b o2 (rest.drop (16 * a.length + 4)) from ⟨FB.out.1, FB.out.2.1, by have := HX.out.2.2.1; omega, FB.out.2.2⟩)
          have HST := Lib.hid hst
          clear hg hb4 hst hR3
          go_wp2_with fail
          go_roundw
          case rel => exact ⟨i + 1, done ++ [a], _, o2, _, _, by omega, by go_num, rfl, HX4, HST, hR2, HB4⟩
          case measure => simp [intOf]; omega
      · obtain rfl : i = m := by omega
        have HF : Hid (By.times (By.skip (By.uPoints le) (fun l => 16 * l.length + 4)) i d = some (done, rest)) := Lib.hid HP.out.done
        have HR := Lib.hid hR
        clear hR hlt
        go_wp2_with fail
        go_ret2
        rw [HF.out]
        exact ⟨_, rfl, HR.out, HB.out⟩


theorem umg_short (ao : Option Addr) (n c : Nat) (w : World) (he : Errs A w) (hn : n < 4) (x : Int) :
    Calls Tryz.prog 47 #[.int .i64 x, .slice ao n c] w (NoPts A w) := by
  obtain ⟨a, ha⟩ := he 2 (by omega) (by omega)
  clear he
  go_enter Tryz.func47, Tryz.ntmps47
  go_wp2_with fail
  go_quiet (fail)
  go_wp2_with fail
  go_ret2
  exact ⟨_, ⟨a, rfl⟩, rfl, below_drewN (Below.refl _ _) _⟩


set_option maxRecDepth 100000 in
set_option maxHeartbeats 2000000 in
theorem umg_long (f : Nat) (hsc : Scanner A 73 (.slice none 0 0) (rowIs (repRow repPt 68) 127) (By.sPoly f) f) (le : Bool) (b off n c : Nat) (l : By.Bs) (w : World) (he : Errs A w) (hl : l.length = n) (hn : 4 ≤ n) (hc : n ≤ c) (h31 : n ≤ 2147483647) (hf : n ≤ f + 4) (hx : BytesAt w b off l) :
    Calls Tryz.prog 47 #[.int .i64 (ordI le), .slice (some ⟨b, off, none⟩) n c] w (Many A (repRow (repRow repPt 68) 127) 75 (By.uRow le (By.sPoly f) (fun l => 9 + By.ringsSize l) l) w) := by
  rw [By.uRow_times (by omega : ¬ l.length < 4)]
  obtain ⟨i0, hi, hz0, hz1, hz2⟩ := info_parts info75
  have hcall := u32_call le b off n c l w hl hn hx
  have hb := By.u32_lt le l
  obtain ⟨m, hme⟩ : ∃ m, m = By.u32 le l := ⟨_, rfl⟩
  rw [← hme] at hcall hb ⊢
  obtain ⟨o4, hsl, ho4⟩ := from_run b off n c 4 4 rfl hn hc
  have S4 := from_bytes hx hl hc hn ho4
  obtain ⟨d, hd⟩ : ∃ d, d = l.drop 4 := ⟨_, rfl⟩
  rw [← hd] at S4 ⊢
  have hlt4 := decide_eq_false (show ¬ (n : Int) < 4 by omega)
  have HS := Lib.hid S4
  have HN := Lib.hid (⟨hn, hc, h31, hf⟩ : _ ∧ _ ∧ _ ∧ _)
  have HE := Lib.hid he
  have HI := Lib.hid (⟨hi, hz0, hz1, hz2⟩ : _ ∧ _ ∧ _ ∧ _)
  have HP := Lib.hid (By.Prog.start (By.skip (By.sPoly f) (fun l => 9 + By.ringsSize l)) m d)
  clear hl hx hme hd S4 he hi hz0 hz1 hz2 hn ho4 hc h31 hf
  go_enter Tryz.func47, Tryz.ntmps47
  go_wp2_with fail
  refine hcall.mono ?_
  rintro e w1 ⟨rfl, q, rfl⟩
  clear hcall
  by_cases hbig : 100 < m
  all_goals
    go_wp2_with (at_make; refine wpList_make_own _ rfl _ _ 81 rfl w.heap.size 75 i0 (.slice none 0 0) 1 Tryz.underlying81 HI.out.1 HI.out.2.1 HI.out.2.2.1 .i64 .u32 _ (min m 100) rfl rfl (by omega) ?b2 ?b3 (Nat.le_refl _) ?_)
    case b2 => rw [HI.out.2.2.2]; omega
    case b3 => unfold maxLen; omega
    intro w2 hown hgrow
    have hR := Rowed.of_made (r := (repRow (repRow repPt 68) 127)) hown False
    have HB : Hid (Below w.heap.size w w2) := Lib.hid ((below_drewN (Below.refl _ _) q).grown hgrow (Nat.le_refl _) (fun _ h => by cases h))
    clear hown hgrow
    go_wp2_with fail
    go_loopw [1, 8, 9] (fun dv v iv wr => ∃ (i : Nat) (done : List (List (List By.Pt))) (rest : By.Bs) (o' n' c' : Nat), i ≤ m ∧ iv = .int .i64 i ∧ dv = .slice (some ⟨b, o', none⟩) n' c' ∧ Hid (rest.length = n' ∧ n' ≤ c' ∧ n' ≤ n - 4 ∧ BytesAt w b o' rest) ∧ Hid (By.Prog (By.skip (By.sPoly f) (fun l => 9 + By.ringsSize l)) m d i done rest) ∧ Rowed False (repRow (repRow repPt 68) 127) w.heap.size 75 wr v done ∧ Hid (Below w.heap.size w wr)) (fun _ _ iv _ => m - (intOf iv).toNat)
    case atStart => exact ⟨0, [], d, o4, n - 4, c - 4, Nat.zero_le _, rfl, rfl, Lib.hid ⟨HS.out.1, HS.out.2.1, Nat.le_refl _, HS.out.2.2⟩, HP, hR, HB⟩
    case round =>
      clear hR HB HP
      obtain ⟨i, done, rest, o', n', c', hk, rfl, rfl, HX, HP, hR, HB⟩ := hrel
      by_cases hlt : i < m
      · have him : (i : Int) < m := by omega
        have hdl := HP.out.1
        have HDL := Lib.hid hdl
        have HRL := Lib.hid hR.lt
        have HSZ := Lib.hid HB.out.size
        have hEr := HE.out.below HB.out
        have hXr := HX.out.2.2.2.below HB.out
        have hcel := hsc b o' n' c' rest wr HX.out.1 HX.out.2.1 (by have := HX.out.2.2.1; have := HN.out.2.2.1; omega) (by have := HX.out.2.2.1; have := HN.out.2.2.2; omega) hEr hXr
        have HPN := Lib.hid HP.out
        clear hdl hEr hXr
        rcases hs : (By.sPoly f) rest with _ | a
        · rw [hs] at hcel
          have HFail : Hid (By.times (By.skip (By.sPoly f) (fun l => 9 + By.ringsSize l)) m d = none) := Lib.hid (HPN.out.fail hlt (By.skip_none hs))
          clear hs
          go_wp2_with fail
          refine hcel.mono ?_
          rintro e w3 ⟨s, err, ⟨ad, rfl⟩, rfl, hb3⟩
          have HB3 := Lib.hid (HB.out.trans (hb3.mono HB.out.size))
          clear hb3 hcel
          go_wp2_with fail
          go_ret2
          rw [HFail.out]
          exact ⟨_, ⟨ad, rfl⟩, rfl, HB3.out⟩
        · rw [hs] at hcel
          have hst := HPN.out.step hlt (By.skip_some hs)
          have hkl := (By.sPoly_scans f _ _ hs).2
          clear hs
          go_wp2_with fail
          refine hcel.mono ?_
          rintro e w3 ⟨u, s, H, rfl, hu, hH, hb3⟩
          obtain ⟨g2, cap2, hv2, _⟩ := RowIs.form hu
          subst hv2
          have hR3 := hR.below hb3
          have HB3 := Lib.hid (HB.out.trans (hb3.mono HB.out.size))
          have HU := Lib.hid hu
          have HH := Lib.hid hH
          have hsz3 := hb3.size
          clear hb3 hcel hR hu hH
          have hkn : 9 + By.ringsSize a ≤ n' := by have := HX.out.1; omega
          have hn4 : n' ≤ 2147483647 := by have := HX.out.2.2.1; have := HN.out.2.2.1; omega
          have hkb : By.ringsSize a ≤ 2147483647 := by omega
          obtain ⟨Z, hZ⟩ : ∃ Z, Z = 9 + By.ringsSize a := ⟨_, rfl⟩
          rw [← hZ] at hkn hst
          obtain ⟨o2, hs2, ho2⟩ := from_run b o' n' c' Z (Z : Int) rfl hkn HX.out.2.1
          have HZE := Lib.hid hZ
          have FB := Lib.hid (from_bytes HX.out.2.2.2 HX.out.1 HX.out.2.1 hkn ho2)
          have HGET := Lib.hid (ring_at HU.out HH.out)
          have HZ := Lib.hid hsz3
          have HKB := Lib.hid hkb
          have hal : a.length ≤ 2147483647 := Nat.le_trans (rings_count a) hkb
          clear ho2 hkl hkn hn4 hsz3 hkb hZ
          go_wp2_with fail
          go_loop [13, 47] (fun lv jv => ∃ j : Nat, j ≤ a.length ∧ jv = .int .i64 j ∧ lv = .int .i64 ((9 + By.ringsSize (a.take j) : Nat) : Int)) (fun _ jv => a.length - (intOf jv).toNat)
          case atStart => exact ⟨0, Nat.zero_le _, rfl, rfl⟩
          case round =>
          obtain ⟨j, hj, rfl, rfl⟩ := hrel
          by_cases hjl : j < a.length
          · obtain ⟨c0, cp, aj, hc0, hrs⟩ := HGET.out j hjl
            have hr1 := rings_take_le a (j + 1)
            rw [hrs] at hr1
            have hkb2 := HKB.out
            have hj1 : IntKind.i64.wrap (16 * (aj : Int)) = 16 * (aj : Int) := IntWalk.i64_in _ (by omega)
            have hj2 : IntKind.i64.wrap (4 + 16 * (aj : Int)) = 4 + 16 * (aj : Int) := IntWalk.i64_in _ (by omega)
            obtain ⟨R, hR0⟩ : ∃ R, R = 9 + By.ringsSize (a.take j) := ⟨_, rfl⟩
            rw [← hR0]
            have hj3 : IntKind.i64.wrap ((R : Int) + (4 + 16 * (aj : Int))) = (R : Int) + (4 + 16 * (aj : Int)) := IntWalk.i64_in _ (by omega)
            have hjj : (j : Int) < a.length := by omega
            have HRS := Lib.hid (show ((R : Int) + (4 + 16 * (aj : Int))) = ((9 + By.ringsSize (a.take (j + 1)) : Nat) : Int) by rw [hrs]; omega)
            clear hr1 hkb2 hrs hR0
            go_wp2_with fail
            go_round
            case rel => exact ⟨j + 1, by omega, by go_num, congrArg (Value.int .i64) HRS.out⟩
            case measure => simp [intOf]; omega
          obtain rfl : j = a.length := by omega
          rw [List.take_of_length_le (Nat.le_refl _), ← HZE.out]
          clear hj
          go_wp2_with (at_builtin; refine wpList_append_rowed (r := (repRow (repRow repPt 68) 127)) rfl _ _ 81 rfl (lo := wr.heap.size) 75 75 i0 (.slice none 0 0) 24 Tryz.underlying81 HI.out.1 HI.out.2.1 HI.out.2.2.1 HI.out.2.2.2 rfl (by decide) _ _ rfl hR3 [.slice (some ⟨g2, 0, none⟩) a.length cap2] a H ?c0 ⟨_, rfl, HU.out⟩ ?c4 ?c1 #[.slice (some ⟨g2, 0, none⟩) a.length cap2] rfl _ rfl ?c6 ?c2 ?c3 ?c5 ?_)
          case c0 => exact HH.out
          case c4 => exact HB.out.size
          case c1 => exact fun k hk => (HRL.out k hk).2
          case c2 => rw [HDL.out]; unfold maxLen; omega
          case c3 => rw [HDL.out]; omega
          case c5 => exact HB3.out.size
          case c6 => simp
          intro v2 w4 hR2 hg
          have hb4 : Below w.heap.size w w4 := hR3.grownKeep HB3.out hg (Nat.le_refl _) HB3.out.size
          have HB4 := Lib.hid hb4
          have HX4 := Lib.hid (show (rest.drop Z).length = n' - Z ∧ n' - Z ≤ c' - Z ∧ n' - Z ≤ n - 4 ∧ BytesAt w b o2 (rest.drop Z) from ⟨FB.out.1, FB.out.2.1, by have := HX.out.2.2.1; omega, FB.out.2.2⟩)
          have HST := Lib.hid hst
          clear hg hb4 hst hR3
          go_wp2_with fail
          go_roundw
          case rel => exact ⟨i + 1, done ++ [a], _, o2, _, _, by omega, by go_num, rfl, HX4, HST, hR2, HB4⟩
          case measure => simp [intOf]; omega
      · obtain rfl : i = m := by omega
        have HF : Hid (By.times (By.skip (By.sPoly f) (fun l => 9 + By.ringsSize l)) i d = some (done, rest)) := Lib.hid HP.out.done
        have HR := Lib.hid hR
        clear hR hlt
        go_wp2_with fail
        go_ret2
        rw [HF.out]
        exact ⟨_, rfl, HR.out, HB.out⟩

end Go.Proofs.YtjbjjphgnilhmaaGreatDoor
