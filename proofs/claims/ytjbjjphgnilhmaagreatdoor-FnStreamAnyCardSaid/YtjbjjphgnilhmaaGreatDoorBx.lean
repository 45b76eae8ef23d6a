/- The walks of readLineString, readPolygon, readMultiPoint, readMultiLineString, readMultiPolygon. -/
import Derived.Test.YtjbjjphgnilhmaaGreatDoorBw
set_option linter.unusedVariables false
namespace Go.Proofs.YtjbjjphgnilhmaaGreatDoor
open Go.RowKit
variable {A : Addr → Prop}

/-- Where an error lies: a known one, or one that was made. -/
def EAt (A : Addr → Prop) (w : World) (a : Addr) : Prop := A a ∨ ∃ c, w.heap[a.block]? = some (.cells c 205 (0, 0))
theorem EAt.below {w w' : World} {a : Addr} (h : EAt A w a) (hb : Below w.heap.size w w') : EAt A w' a :=
  h.imp id fun ⟨c, hc⟩ => ⟨c, (hb.block a.block (Array.getElem?_eq_some_iff.1 hc).1).trans hc⟩
/-- What a reader gives. -/
def Gets (A : Addr → Prop) (S : Src) (bb : Nat) {α : Type} (zv : Value) (is : Knows → Value → α → Prop) (o : Option (α × By.Bs)) (w : World) (e : Ending) (w' : World) : Prop := match o with
  | some (a, r) => ∃ u K, e = .returned (.tuple #[u, .nilIface]) ∧ is K u a ∧ Has w.heap.size K w' ∧ Rd S w' r ∧ (∃ cur, Buf w' bb cur) ∧ Kept (Two S bb) w w'
  | none => ∃ a : Addr, EAt A w' a ∧ e = .returned (.tuple #[zv, .iface 203 (.pointer (some a))]) ∧ Kept (Two S bb) w w'
theorem Gets.none_of {S : Src} {bb : Nat} {α : Type} {zv : Value} {is : Knows → Value → α → Prop} {o : Option (α × By.Bs)} {w w' : World} {e : Ending} (h : Gets A S bb zv is o w e w') (ho : o = none) :
    ∃ a : Addr, EAt A w' a ∧ e = .returned (.tuple #[zv, .iface 203 (.pointer (some a))]) ∧ Kept (Two S bb) w w' := by
  subst ho; exact h
theorem Gets.some_of {S : Src} {bb : Nat} {α : Type} {zv : Value} {is : Knows → Value → α → Prop} {o : Option (α × By.Bs)} {w w' : World} {e : Ending} {a : α} {r : By.Bs} (h : Gets A S bb zv is o w e w') (ho : o = some (a, r)) :
    ∃ u K, e = .returned (.tuple #[u, .nilIface]) ∧ is K u a ∧ Has w.heap.size K w' ∧ Rd S w' r ∧ (∃ cur, Buf w' bb cur) ∧ Kept (Two S bb) w w' := by
  subst ho; exact h
/-- A reader as it should be, with an order of bytes told. -/
def Reader (A : Addr → Prop) {α : Type} (F : FuncId) (zv : Value) (is : Knows → Value → α → Prop) (rd : Bool → By.Bs → Option (α × By.Bs)) : Prop :=
  ∀ (S : Src) (bb : Nat) (cur : List Value) (w : World) (l : By.Bs) (le : Bool), Rd S w l → Buf w bb cur → S.rb < bb → Errs A w → 13 ≤ S.rb →
    Calls Tryz.prog F #[.iface 60 (.pointer (some ⟨S.rb, 0, none⟩)), .int .i64 (ordI le), .slice (some ⟨bb, 0, none⟩) 8 8] w (Gets A S bb zv is (rd le l) w)
theorem rp_reader : Reader A 58 (.agg #[.float .f64 0, .float .f64 0]) ptIs By.rPoint := by
  intro S bb cur w l le h hb hbb he h13
  rcases hp : By.rPoint le l with _ | ⟨p, r⟩
  · refine (rp_none S bb cur w l le hp h hb hbb he h13).mono ?_
    rintro e w' ⟨a, he, hk⟩
    exact ⟨a.1, .inl a.2, he, hk⟩
  · refine (rp_some S bb cur w l r le p hp h hb hbb).mono ?_
    rintro e w' ⟨he, h1, h2, h3⟩
    exact ⟨_, fun _ _ => False, he, rfl, fun _ _ h => h.elim, h1, h2, h3⟩
theorem new_err (s : ByteArray) (w : World) : Calls Tryz.prog 85 #[.string s] w fun e w' => ∃ a : Addr, (∃ c, w'.heap[a.block]? = some (.cells c 205 (0, 0))) ∧ e = .returned (.iface 203 (.pointer (some a))) ∧ Below w.heap.size w w' := by
  go_enter Tryz.func85, Tryz.ntmps85
  go_wp2_with fail
  go_ret
  exact ⟨⟨w.heap.size, 0, none⟩, ⟨_, heap_alloc_new w _⟩, rfl, (Below.refl _ _).alloc (Nat.le_refl _) _⟩
theorem Rd.below {S : Src} {w w' : World} {l : By.Bs} (h : Rd S w l) (hb : Below w.heap.size w w') : Rd S w' l := h.kept (Kept.of_below hb (fun _ => False)) fun _ h => h.elim
theorem Buf.below {w w' : World} {bb : Nat} {cur : List Value} (h : Buf w bb cur) (hb : Below w.heap.size w w') : Buf w' bb cur := h.kept (Kept.of_below hb (fun _ => False)) id
theorem grown_below {w w1 : World} {g : Nat} (hg : w.grownBy w1 (some g)) : Kept (fun b => b = g) w w1 := ⟨hg.os, hg.tape, hg.output, hg.size, fun k hk hX => hg.block k hk (fun e => hX (by simpa using e))⟩
/-- What stays through an append to a row of the call's own. -/
theorem Rowed.keep {α : Type} {r : Rep α} {base : Nat} {E : TypeId} {w w1 : World} {v : Value} {ls : List α} (h : Rowed False r base E w v ls) (hg : w.grownBy w1 v.ownBlock) : ∃ g, base ≤ g ∧ g < w.heap.size ∧ Kept (fun b => b = g) w w1 := by
  obtain ⟨g, cap, rfl, _, _, h1, h2⟩ := h.formN
  exact ⟨g, h1, h2, grown_below hg⟩


def rMP (le : Bool) : By.Bs → Option (List By.Pt × By.Bs) := By.row le (By.under 1 By.rPoint)
def rML (le : Bool) : By.Bs → Option (List (List By.Pt) × By.Bs) := By.row le (By.under 2 By.rLine)
def rMG (le : Bool) : By.Bs → Option (List (List (List By.Pt)) × By.Bs) := By.row le (By.under 3 By.rPoly)


set_option maxRecDepth 100000 in
theorem rls_short (S : Src) (bb : Nat) (cur : List Value) (w : World) (l : By.Bs) (le : Bool) (h : Rd S w l) (hb : Buf w bb cur) (hbb : S.rb < bb) (he : Errs A w) (h13 : 13 ≤ S.rb) (hl : l.length < 4) :
    Calls Tryz.prog 60 #[.iface 60 (.pointer (some ⟨S.rb, 0, none⟩)), .int .i64 (ordI le), .slice (some ⟨bb, 0, none⟩) 8 8] w (Gets A S bb (.slice none 0 0) (rowIs repPt 68) none w) := by
  have hcall := r32_none S bb 8 le cur w l (by omega) hl h hb hbb he h13
  clear h hb he hl
  go_enter Tryz.func60, Tryz.ntmps60
  go_wp2_with fail
  refine hcall.mono ?_
  rintro e w1 ⟨a, rfl, hK⟩
  have HK := Lib.hid hK
  clear hK hcall
  go_wp2_with fail
  go_ret2
  exact ⟨a.1, .inl a.2, rfl, HK.out⟩
set_option maxRecDepth 100000 in
set_option maxHeartbeats 2000000 in
theorem rls_long (S : Src) (bb : Nat) (cur : List Value) (w : World) (l : By.Bs) (le : Bool) (h : Rd S w l) (hb : Buf w bb cur) (hbb : S.rb < bb) (he : Errs A w) (h13 : 13 ≤ S.rb) (hl : 4 ≤ l.length) :
    Calls Tryz.prog 60 #[.iface 60 (.pointer (some ⟨S.rb, 0, none⟩)), .int .i64 (ordI le), .slice (some ⟨bb, 0, none⟩) 8 8] w (Gets A S bb (.slice none 0 0) (rowIs repPt 68) (By.times (By.rPoint le) (By.u32 le l) (l.drop 4)) w) := by
  obtain ⟨i0, hi, hz0, hz1, hz2⟩ := info_parts info68
  have hcall := r32_some S bb 8 le cur w l (by omega) hl h hb hbb
  have hs : bb < w.heap.size := (Array.getElem?_eq_some_iff.1 hb.2).1
  have HS0 := Lib.hid hs
  have hm := By.u32_lt le l
  obtain ⟨m, hme⟩ : ∃ m, m = By.u32 le l := ⟨_, rfl⟩
  rw [← hme] at hcall hm ⊢
  obtain ⟨d, hd⟩ : ∃ d, d = l.drop 4 := ⟨_, rfl⟩
  rw [← hd] at hcall ⊢
  have HE := Lib.hid he
  have HI := Lib.hid (⟨hi, hz0, hz1, hz2⟩ : _ ∧ _ ∧ _ ∧ _)
  have HP := Lib.hid (By.Prog.start (By.rPoint le) m d)
  clear h hb hl hme hd he hi hz0 hz1 hz2
  go_enter Tryz.func60, Tryz.ntmps60
  go_wp2_with fail
  refine hcall.mono ?_
  rintro e w1 ⟨rfl, hR1, hB1, hK1⟩
  have HK1 := Lib.hid hK1
  have HR1 := Lib.hid (⟨hR1, hB1⟩ : _ ∧ _)
  clear hcall hR1 hB1 hK1
  by_cases hbig : 10000 < m
  all_goals
    go_wp2_with (at_make; refine wpList_make_own _ rfl _ _ 72 rfl w.heap.size 68 i0 (.agg #[.float .f64 0, .float .f64 0]) 2 Tryz.underlying72 HI.out.1 HI.out.2.1 HI.out.2.2.1 .i64 .u32 _ (min m 10000) rfl rfl (by omega) ?b2 ?b3 HK1.out.size ?_)
    case b2 => rw [HI.out.2.2.2]; omega
    case b3 => unfold maxLen; omega
    intro w2 hown hgrow
    have hR := Rowed.of_made (r := repPt) hown False
    have hk2 : Kept (fun _ => False) w1 w2 := ⟨hgrow.os, hgrow.tape, hgrow.output, hgrow.size, fun k hk _ => hgrow.block k hk (by simp)⟩
    have HK2 : Hid (Kept (Two S bb) w w2) := Lib.hid (HK1.out.trans hk2 (fun _ _ h => h.elim))
    have HR2 : Hid (Rd S w2 d ∧ ∃ cur, Buf w2 bb cur) := Lib.hid ⟨HR1.out.1.kept hk2 (fun _ h => h.elim), HR1.out.2.imp fun _ h => h.kept hk2 id⟩
    clear hown hgrow hk2
    go_wp2_with fail
    go_loopw [11, 12] (fun v iv wr => ∃ (i : Nat) (done : List By.Pt) (rest : By.Bs), i ≤ m ∧ iv = .int .i64 i ∧ Hid (By.Prog (By.rPoint le) m d i done rest) ∧ Rowed False repPt w.heap.size 68 wr v done ∧ Hid (Rd S wr rest ∧ ∃ cur, Buf wr bb cur) ∧ Hid (Kept (Two S bb) w wr)) (fun _ iv _ => m - (intOf iv).toNat)
    case atStart => exact ⟨0, [], d, Nat.zero_le _, rfl, HP, hR, HR2, HK2⟩
    case round =>
      clear hR HP HR2 HK2 HR1 HK1
      obtain ⟨i, done, rest, hk, rfl, HP, hR, HRB, HK⟩ := hrel
      by_cases hlt : i < m
      · have him : (i : Int) < m := by omega
        have HDL := Lib.hid HP.out.1
        have HRL := Lib.hid hR.lt
        have HSZ := Lib.hid HK.out.size
        have hEr := HE.out.kept HK.out (fun b hb => by rcases hb with rfl | rfl <;> omega)
        obtain ⟨cur1, hcur1⟩ := HRB.out.2
        have hcel := rp_reader S bb cur1 wr rest le HRB.out.1 hcur1 hbb hEr h13
        have HPN := Lib.hid HP.out
        clear hEr hcur1
        rcases hs : By.rPoint le rest with _ | ⟨a, r⟩
        · have HFail : Hid (By.times (By.rPoint le) m d = none) := Lib.hid (HPN.out.fail hlt hs)
          go_wp2_with fail
          refine hcel.mono ?_
          intro e w3 hg
          obtain ⟨ad, hea, rfl, hk3⟩ := hg.none_of hs
          have HK3 := Lib.hid (show Kept (Two S bb) w (w3.alloc ZZ) from (HK.out.same hk3).alloc _)
          have HEA := Lib.hid (show EAt A (w3.alloc ZZ) ad from hea.below ((Below.refl _ _).alloc (Nat.le_refl _) _))
          clear hk3 hcel hg hea hs
          go_wp2_with fail
          go_ret2
          rw [HFail.out]
          exact ⟨ad, HEA.out, rfl, HK3.out⟩
        · have hst := HPN.out.step hlt hs
          go_wp2_with fail
          refine hcel.mono ?_
          intro e w3 hg
          obtain ⟨u, H, rfl, hu, hH, hr3, hb3, hk3⟩ := hg.some_of hs
          obtain rfl : u = .agg #[.float .f64 a.1, .float .f64 a.2] := hu
          have hR3 := (hR.kept (hk3) (fun b hb => by rcases hb with rfl | rfl <;> omega))
          have hk3' := HK.out.same hk3
          have HK3 := Lib.hid hk3'
          have HRB3 := Lib.hid (⟨hr3, hb3⟩ : _ ∧ _)
          have HH := Lib.hid hH
          have HWS := Lib.hid HK.out.size
          have HST := Lib.hid hst
          clear hk3 hk3' hcel hg hs hR hr3 hb3 hH hst
          go_wp2_with (at_builtin; refine wpList_append_rowed (r := repPt) rfl _ _ 72 rfl (lo := w3.heap.size) 68 68 i0 (.agg #[.float .f64 0, .float .f64 0]) 16 Tryz.underlying72 HI.out.1 HI.out.2.1 HI.out.2.2.1 HI.out.2.2.2 rfl (by decide) _ _ rfl (hR3.alloc _) (ptCells a) a (fun _ _ => False) ?c0 rfl ?c4 ?c1 #[.float .f64 a.1, .float .f64 a.2] rfl _ rfl ?c6 ?c2 ?c3 ?c5 ?_)
          case c0 => exact fun _ _ h => h.elim
          case c4 => exact HK3.out.size
          case c1 => exact fun k hk => (hR3.lt k hk).2
          case c2 => rw [HDL.out]; unfold maxLen; omega
          case c3 => rw [HDL.out]; omega
          case c5 => exact by have := HK3.out.size; simp; omega
          case c6 => simp
          intro v2 w4 hR2 hg
          obtain ⟨gg, hg1, hg2, hk4⟩ := (hR3.alloc _).keep hg
          have hk4' : Kept (Two S bb) w w4 := (HK3.out.alloc _).trans hk4 (fun b hb he => by omega)
          have HK4 := Lib.hid hk4'
          have HRB4 := Lib.hid (⟨((show Rd S (w3.alloc (.cells #[.float .f64 a.1, .float .f64 a.2] 68)) r ∧ ∃ cur, Buf (w3.alloc (.cells #[.float .f64 a.1, .float .f64 a.2] 68)) bb cur from ⟨HRB3.out.1.below ((Below.refl _ _).alloc (Nat.le_refl _) _), HRB3.out.2.imp fun _ h => h.below ((Below.refl _ _).alloc (Nat.le_refl _) _)⟩).1).kept hk4 (fun b hb => by have := HS0.out; omega), ((show Rd S (w3.alloc (.cells #[.float .f64 a.1, .float .f64 a.2] 68)) r ∧ ∃ cur, Buf (w3.alloc (.cells #[.float .f64 a.1, .float .f64 a.2] 68)) bb cur from ⟨HRB3.out.1.below ((Below.refl _ _).alloc (Nat.le_refl _) _), HRB3.out.2.imp fun _ h => h.below ((Below.refl _ _).alloc (Nat.le_refl _) _)⟩).2).imp fun _ h => h.kept hk4 (by have := HS0.out; omega)⟩ : Rd S w4 r ∧ ∃ cur, Buf w4 bb cur)
          clear hg hk4 hk4' hR3
          go_wp2_with fail
          go_roundw
          case rel => exact ⟨i + 1, done ++ [a], r, by omega, by go_num, HST, hR2, HRB4, HK4⟩
          case measure => simp [intOf]; omega
      · obtain rfl : i = m := by omega
        have HF : Hid (By.times (By.rPoint le) i d = some (done, rest)) := Lib.hid HP.out.done
        obtain ⟨K, hK, hI⟩ := hR.is
        have HR := Lib.hid (⟨hK, hI⟩ : _ ∧ _)
        clear hR hlt hK hI
        go_wp2_with fail
        go_ret2
        rw [HF.out]
        exact ⟨_, K, rfl, HR.out.2, HR.out.1, HRB.out.1, HRB.out.2, HK.out⟩
theorem rls_reader : Reader A 60 (.slice none 0 0) (rowIs repPt 68) By.rLine := by
  intro S bb cur w l le h hb hbb he h13
  by_cases hl : 4 ≤ l.length
  · have e : By.rLine le l = By.times (By.rPoint le) (By.u32 le l) (l.drop 4) := by
      simp only [By.rLine, By.row, By.rU32, if_neg (show ¬ l.length < 4 by omega)]
    rw [e]
    exact rls_long S bb cur w l le h hb hbb he h13 hl
  · have e : By.rLine le l = none := by
      simp only [By.rLine, By.row, By.rU32, if_pos (show l.length < 4 by omega)]
    rw [e]
    exact rls_short S bb cur w l le h hb hbb he h13 (by omega)


set_option maxRecDepth 100000 in
theorem rpl_short (S : Src) (bb : Nat) (cur : List Value) (w : World) (l : By.Bs) (le : Bool) (h : Rd S w l) (hb : Buf w bb cur) (hbb : S.rb < bb) (he : Errs A w) (h13 : 13 ≤ S.rb) (hl : l.length < 4) :
    Calls Tryz.prog 62 #[.iface 60 (.pointer (some ⟨S.rb, 0, none⟩)), .int .i64 (ordI le), .slice (some ⟨bb, 0, none⟩) 8 8] w (Gets A S bb (.slice none 0 0) (rowIs (repRow repPt 68) 127) none w) := by
  have hcall := r32_none S bb 8 le cur w l (by omega) hl h hb hbb he h13
  clear h hb he hl
  go_enter Tryz.func62, Tryz.ntmps62
  go_wp2_with fail
  refine hcall.mono ?_
  rintro e w1 ⟨a, rfl, hK⟩
  have HK := Lib.hid hK
  clear hK hcall
  go_wp2_with fail
  go_ret2
  exact ⟨a.1, .inl a.2, rfl, HK.out⟩
set_option maxRecDepth 100000 in
set_option maxHeartbeats 2000000 in
theorem rpl_long (S : Src) (bb : Nat) (cur : List Value) (w : World) (l : By.Bs) (le : Bool) (h : Rd S w l) (hb : Buf w bb cur) (hbb : S.rb < bb) (he : Errs A w) (h13 : 13 ≤ S.rb) (hl : 4 ≤ l.length) :
    Calls Tryz.prog 62 #[.iface 60 (.pointer (some ⟨S.rb, 0, none⟩)), .int .i64 (ordI le), .slice (some ⟨bb, 0, none⟩) 8 8] w (Gets A S bb (.slice none 0 0) (rowIs (repRow repPt 68) 127) (By.times (By.rLine le) (By.u32 le l) (l.drop 4)) w) := by
  obtain ⟨i0, hi, hz0, hz1, hz2⟩ := info_parts info127
  have hcall := r32_some S bb 8 le cur w l (by omega) hl h hb hbb
  have hs : bb < w.heap.size := (Array.getElem?_eq_some_iff.1 hb.2).1
  have HS0 := Lib.hid hs
  have hm := By.u32_lt le l
  obtain ⟨m, hme⟩ : ∃ m, m = By.u32 le l := ⟨_, rfl⟩
  rw [← hme] at hcall hm ⊢
  obtain ⟨d, hd⟩ : ∃ d, d = l.drop 4 := ⟨_, rfl⟩
  rw [← hd] at hcall ⊢
  have HE := Lib.hid he
  have HI := Lib.hid (⟨hi, hz0, hz1, hz2⟩ : _ ∧ _ ∧ _ ∧ _)
  have HP := Lib.hid (By.Prog.start (By.rLine le) m d)
  clear h hb hl hme hd he hi hz0 hz1 hz2
  go_enter Tryz.func62, Tryz.ntmps62
  go_wp2_with fail
  refine hcall.mono ?_
  rintro e w1 ⟨rfl, hR1, hB1, hK1⟩
  have HK1 := Lib.hid hK1
  have HR1 := Lib.hid (⟨hR1, hB1⟩ : _ ∧ _)
  clear hcall hR1 hB1 hK1
  by_cases hbig : 100 < m
  all_goals
    go_wp2_with (at_make; refine wpList_make_own _ rfl _ _ 75 rfl w.heap.size 127 i0 (.slice none 0 0) 1 Tryz.underlying75 HI.out.1 HI.out.2.1 HI.out.2.2.1 .i64 .u32 _ (min m 100) rfl rfl (by omega) ?b2 ?b3 HK1.out.size ?_)
    case b2 => rw [HI.out.2.2.2]; omega
    case b3 => unfold maxLen; omega
    intro w2 hown hgrow
    have hR := Rowed.of_made (r := (repRow repPt 68)) hown False
    have hk2 : Kept (fun _ => False) w1 w2 := ⟨hgrow.os, hgrow.tape, hgrow.output, hgrow.size, fun k hk _ => hgrow.block k hk (by simp)⟩
    have HK2 : Hid (Kept (Two S bb) w w2) := Lib.hid (HK1.out.trans hk2 (fun _ _ h => h.elim))
    have HR2 : Hid (Rd S w2 d ∧ ∃ cur, Buf w2 bb cur) := Lib.hid ⟨HR1.out.1.kept hk2 (fun _ h => h.elim), HR1.out.2.imp fun _ h => h.kept hk2 id⟩
    clear hown hgrow hk2
    go_wp2_with fail
    go_loopw [11, 12] (fun v iv wr => ∃ (i : Nat) (done : List (List By.Pt)) (rest : By.Bs), i ≤ m ∧ iv = .int .i64 i ∧ Hid (By.Prog (By.rLine le) m d i done rest) ∧ Rowed False (repRow repPt 68) w.heap.size 127 wr v done ∧ Hid (Rd S wr rest ∧ ∃ cur, Buf wr bb cur) ∧ Hid (Kept (Two S bb) w wr)) (fun _ iv _ => m - (intOf iv).toNat)
    case atStart => exact ⟨0, [], d, Nat.zero_le _, rfl, HP, hR, HR2, HK2⟩
    case round =>
      clear hR HP HR2 HK2 HR1 HK1
      obtain ⟨i, done, rest, hk, rfl, HP, hR, HRB, HK⟩ := hrel
      by_cases hlt : i < m
      · have him : (i : Int) < m := by omega
        have HDL := Lib.hid HP.out.1
        have HRL := Lib.hid hR.lt
        have HSZ := Lib.hid HK.out.size
        have hEr := HE.out.kept HK.out (fun b hb => by rcases hb with rfl | rfl <;> omega)
        obtain ⟨cur1, hcur1⟩ := HRB.out.2
        have hcel := rls_reader S bb cur1 wr rest le HRB.out.1 hcur1 hbb hEr h13
        have HPN := Lib.hid HP.out
        clear hEr hcur1
        rcases hs : By.rLine le rest with _ | ⟨a, r⟩
        · have HFail : Hid (By.times (By.rLine le) m d = none) := Lib.hid (HPN.out.fail hlt hs)
          go_wp2_with fail
          refine hcel.mono ?_
          intro e w3 hg
          obtain ⟨ad, hea, rfl, hk3⟩ := hg.none_of hs
          have HK3 := Lib.hid (show Kept (Two S bb) w (w3) from (HK.out.same hk3))
          have HEA := Lib.hid (show EAt A (w3) ad from hea)
          clear hk3 hcel hg hea hs
          go_wp2_with fail
          go_ret2
          rw [HFail.out]
          exact ⟨ad, HEA.out, rfl, HK3.out⟩
        · have hst := HPN.out.step hlt hs
          go_wp2_with fail
          refine hcel.mono ?_
          intro e w3 hg
          obtain ⟨u, H, rfl, hu, hH, hr3, hb3, hk3⟩ := hg.some_of hs
          obtain ⟨g2, cap2, hv2, _⟩ := RowIs.form hu
          subst hv2
          have hR3 := (hR.kept (hk3) (fun b hb => by rcases hb with rfl | rfl <;> omega))
          have hk3' := HK.out.same hk3
          have HK3 := Lib.hid hk3'
          have HRB3 := Lib.hid (⟨hr3, hb3⟩ : _ ∧ _)
          have HH := Lib.hid hH
          have HWS := Lib.hid HK.out.size
          have HU := Lib.hid hu
          have HST := Lib.hid hst
          clear hk3 hk3' hcel hg hs hR hr3 hb3 hH hst
          go_wp2_with (at_builtin; refine wpList_append_rowed (r := (repRow repPt 68)) rfl _ _ 75 rfl (lo := wr.heap.size) 127 127 i0 (.slice none 0 0) 24 Tryz.underlying75 HI.out.1 HI.out.2.1 HI.out.2.2.1 HI.out.2.2.2 rfl (by decide) _ _ rfl hR3 [.slice (some ⟨g2, 0, none⟩) a.length cap2] a H ?c0 ⟨_, rfl, HU.out⟩ ?c4 ?c1 #[.slice (some ⟨g2, 0, none⟩) a.length cap2] rfl _ rfl ?c6 ?c2 ?c3 ?c5 ?_)
          case c0 => exact HH.out
          case c4 => exact HSZ.out
          case c1 => exact fun k hk => (HRL.out k hk).2
          case c2 => rw [HDL.out]; unfold maxLen; omega
          case c3 => rw [HDL.out]; omega
          case c5 => exact HK3.out.size
          case c6 => simp
          intro v2 w4 hR2 hg
          obtain ⟨gg, hg1, hg2, hk4⟩ := hR3.keep hg
          have hk4' : Kept (Two S bb) w w4 := (HK3.out).trans hk4 (fun b hb he => by omega)
          have HK4 := Lib.hid hk4'
          have HRB4 := Lib.hid (⟨(HRB3.out.1).kept hk4 (fun b hb => by have := HS0.out; omega), (HRB3.out.2).imp fun _ h => h.kept hk4 (by have := HS0.out; omega)⟩ : Rd S w4 r ∧ ∃ cur, Buf w4 bb cur)
          clear hg hk4 hk4' hR3
          go_wp2_with fail
          go_roundw
          case rel => exact ⟨i + 1, done ++ [a], r, by omega, by go_num, HST, hR2, HRB4, HK4⟩
          case measure => simp [intOf]; omega
      · obtain rfl : i = m := by omega
        have HF : Hid (By.times (By.rLine le) i d = some (done, rest)) := Lib.hid HP.out.done
        obtain ⟨K, hK, hI⟩ := hR.is
        have HR := Lib.hid (⟨hK, hI⟩ : _ ∧ _)
        clear hR hlt hK hI
        go_wp2_with fail
        go_ret2
        rw [HF.out]
        exact ⟨_, K, rfl, HR.out.2, HR.out.1, HRB.out.1, HRB.out.2, HK.out⟩
theorem rpl_reader : Reader A 62 (.slice none 0 0) (rowIs (repRow repPt 68) 127) By.rPoly := by
  intro S bb cur w l le h hb hbb he h13
  by_cases hl : 4 ≤ l.length
  · have e : By.rPoly le l = By.times (By.rLine le) (By.u32 le l) (l.drop 4) := by
      simp only [By.rPoly, By.row, By.rU32, if_neg (show ¬ l.length < 4 by omega)]
    rw [e]
    exact rpl_long S bb cur w l le h hb hbb he h13 hl
  · have e : By.rPoly le l = none := by
      simp only [By.rPoly, By.row, By.rU32, if_pos (show l.length < 4 by omega)]
    rw [e]
    exact rpl_short S bb cur w l le h hb hbb he h13 (by omega)


set_option maxRecDepth 100000 in
theorem rmp_short (S : Src) (bb : Nat) (cur : List Value) (w : World) (l : By.Bs) (le : Bool) (h : Rd S w l) (hb : Buf w bb cur) (hbb : S.rb < bb) (he : Errs A w) (h13 : 13 ≤ S.rb) (hl : l.length < 4) :
    Calls Tryz.prog 59 #[.iface 60 (.pointer (some ⟨S.rb, 0, none⟩)), .int .i64 (ordI le), .slice (some ⟨bb, 0, none⟩) 8 8] w (Gets A S bb (.slice none 0 0) (rowIs repPt 68) none w) := by
  have hcall := r32_none S bb 8 le cur w l (by omega) hl h hb hbb he h13
  clear h hb he hl
  go_enter Tryz.func59, Tryz.ntmps59
  go_wp2_with fail
  refine hcall.mono ?_
  rintro e w1 ⟨a, rfl, hK⟩
  have HK := Lib.hid hK
  clear hK hcall
  go_wp2_with fail
  go_ret2
  exact ⟨a.1, .inl a.2, rfl, HK.out⟩
set_option maxRecDepth 100000 in
set_option maxHeartbeats 2000000 in
theorem rmp_long (S : Src) (bb : Nat) (cur : List Value) (w : World) (l : By.Bs) (le : Bool) (h : Rd S w l) (hb : Buf w bb cur) (hbb : S.rb < bb) (he : Errs A w) (h13 : 13 ≤ S.rb) (hl : 4 ≤ l.length) :
    Calls Tryz.prog 59 #[.iface 60 (.pointer (some ⟨S.rb, 0, none⟩)), .int .i64 (ordI le), .slice (some ⟨bb, 0, none⟩) 8 8] w (Gets A S bb (.slice none 0 0) (rowIs repPt 68) (By.times (By.under 1 By.rPoint) (By.u32 le l) (l.drop 4)) w) := by
  obtain ⟨i0, hi, hz0, hz1, hz2⟩ := info_parts info68
  have hcall := r32_some S bb 8 le cur w l (by omega) hl h hb hbb
  have hs : bb < w.heap.size := (Array.getElem?_eq_some_iff.1 hb.2).1
  have HS0 := Lib.hid hs
  have hm := By.u32_lt le l
  obtain ⟨m, hme⟩ : ∃ m, m = By.u32 le l := ⟨_, rfl⟩
  rw [← hme] at hcall hm ⊢
  obtain ⟨d, hd⟩ : ∃ d, d = l.drop 4 := ⟨_, rfl⟩
  rw [← hd] at hcall ⊢
  have HE := Lib.hid he
  have HI := Lib.hid (⟨hi, hz0, hz1, hz2⟩ : _ ∧ _ ∧ _ ∧ _)
  have HP := Lib.hid (By.Prog.start (By.under 1 By.rPoint) m d)
  clear h hb hl hme hd he hi hz0 hz1 hz2
  go_enter Tryz.func59, Tryz.ntmps59
  go_wp2_with fail
  refine hcall.mono ?_
  rintro e w1 ⟨rfl, hR1, hB1, hK1⟩
  have HK1 := Lib.hid hK1
  have HR1 := Lib.hid (⟨hR1, hB1⟩ : _ ∧ _)
  clear hcall hR1 hB1 hK1
  by_cases hbig : 10000 < m
  all_goals
    go_wp2_with (at_make; refine wpList_make_own _ rfl _ _ 77 rfl w.heap.size 68 i0 (.agg #[.float .f64 0, .float .f64 0]) 2 Tryz.underlying77 HI.out.1 HI.out.2.1 HI.out.2.2.1 .i64 .u32 _ (min m 10000) rfl rfl (by omega) ?b2 ?b3 HK1.out.size ?_)
    case b2 => rw [HI.out.2.2.2]; omega
    case b3 => unfold maxLen; omega
    intro w2 hown hgrow
    have hR := Rowed.of_made (r := repPt) hown False
    have hk2 : Kept (fun _ => False) w1 w2 := ⟨hgrow.os, hgrow.tape, hgrow.output, hgrow.size, fun k hk _ => hgrow.block k hk (by simp)⟩
    have HK2 : Hid (Kept (Two S bb) w w2) := Lib.hid (HK1.out.trans hk2 (fun _ _ h => h.elim))
    have HR2 : Hid (Rd S w2 d ∧ ∃ cur, Buf w2 bb cur) := Lib.hid ⟨HR1.out.1.kept hk2 (fun _ h => h.elim), HR1.out.2.imp fun _ h => h.kept hk2 id⟩
    clear hown hgrow hk2
    go_wp2_with fail
    go_loopw [11, 12] (fun v iv wr => ∃ (i : Nat) (done : List By.Pt) (rest : By.Bs), i ≤ m ∧ iv = .int .i64 i ∧ Hid (By.Prog (By.under 1 By.rPoint) m d i done rest) ∧ Rowed False repPt w.heap.size 68 wr v done ∧ Hid (Rd S wr rest ∧ ∃ cur, Buf wr bb cur) ∧ Hid (Kept (Two S bb) w wr)) (fun _ iv _ => m - (intOf iv).toNat)
    case atStart => exact ⟨0, [], d, Nat.zero_le _, rfl, HP, hR, HR2, HK2⟩
    case round =>
      clear hR HP HR2 HK2 HR1 HK1
      obtain ⟨i, done, rest, hk, rfl, HP, hR, HRB, HK⟩ := hrel
      by_cases hlt : i < m
      · have him : (i : Int) < m := by omega
        have HDL := Lib.hid HP.out.1
        have HRL := Lib.hid hR.lt
        have HSZ := Lib.hid HK.out.size
        have hEr := HE.out.kept HK.out (fun b hb => by rcases hb with rfl | rfl <;> omega)
        obtain ⟨cur1, hcur1⟩ := HRB.out.2
        rcases hh : By.rHead rest with _ | ⟨le2, kk, r2⟩
        · have hcal := rh_fail S bb cur1 wr rest hh HRB.out.1 hcur1 hbb hEr h13
          have HFail : Hid (By.times (By.under 1 By.rPoint) m d = none) := Lib.hid (HP.out.fail hlt (by unfold By.under; rw [hh]))
          clear hEr hcur1 hh
          go_wp2_with fail
          refine hcal.mono ?_
          rintro e w3 ⟨ad, rfl, hk3⟩
          have HK3 := Lib.hid (HK.out.same hk3)
          clear hk3 hcal
          go_wp2_with fail
          go_ret2
          rw [HFail.out]
          exact ⟨ad.1, .inl ad.2, rfl, HK3.out⟩
        have hcal := rh_some S bb cur1 wr rest r2 le2 kk hh HRB.out.1 hcur1 hbb hEr h13
        have HH2 := Lib.hid hh
        clear hEr hcur1 hh
        go_wp2_with fail
        refine hcal.mono ?_
        rintro e wh ⟨sr, rfl, hr2, ⟨cur2, hcur2⟩, hk2⟩
        have HK2 := Lib.hid (HK.out.same hk2)
        have HKH := Lib.hid hk2
        have HRB2 := Lib.hid (⟨hr2, ⟨cur2, hcur2⟩⟩ : Rd S wh r2 ∧ ∃ cur, Buf wh bb cur)
        have hE2 := HE.out.kept HK2.out (fun b hb => by rcases hb with rfl | rfl <;> omega)
        clear hcal hr2 hk2
        by_cases hkk : kk = 1
        · subst hkk
          have hcel := rp_reader S bb cur2 wh r2 le2 HRB2.out.1 hcur2 hbb hE2 h13
          have HPN := Lib.hid HP.out
          clear hE2 hcur2
          rcases hs : By.rPoint le2 r2 with _ | ⟨a, r⟩
          · have HFail : Hid (By.times (By.under 1 By.rPoint) m d = none) := Lib.hid (HPN.out.fail hlt (by unfold By.under; rw [HH2.out]; simp only [if_true]; exact hs))
            go_wp2_with fail
            refine hcel.mono ?_
            intro e w3 hg
            obtain ⟨ad, hea, rfl, hk3⟩ := hg.none_of hs
            have HK3 := Lib.hid (show Kept (Two S bb) w (w3.alloc ZZ) from (HK2.out.same hk3).alloc _)
            have HEA := Lib.hid (show EAt A (w3.alloc ZZ) ad from hea.below ((Below.refl _ _).alloc (Nat.le_refl _) _))
            clear hk3 hcel hg hea hs
            go_wp2_with fail
            go_ret2
            rw [HFail.out]
            exact ⟨ad, HEA.out, rfl, HK3.out⟩
          · have hst := HPN.out.step hlt (by unfold By.under; rw [HH2.out]; simp only [if_true]; exact hs)
            go_wp2_with fail
            refine hcel.mono ?_
            intro e w3 hg
            obtain ⟨u, H, rfl, hu, hH, hr3, hb3, hk3⟩ := hg.some_of hs
            obtain rfl : u = .agg #[.float .f64 a.1, .float .f64 a.2] := hu
            have hR3 := (hR.kept (HKH.out.same hk3) (fun b hb => by rcases hb with rfl | rfl <;> omega))
            have hk3' := HK2.out.same hk3
            have HK3 := Lib.hid hk3'
            have HRB3 := Lib.hid (⟨hr3, hb3⟩ : _ ∧ _)
            have HH := Lib.hid hH
            have HWS := Lib.hid HK2.out.size
            have HST := Lib.hid hst
            clear hk3 hk3' hcel hg hs hR hr3 hb3 hH hst
            go_wp2_with (at_builtin; refine wpList_append_rowed (r := repPt) rfl _ _ 77 rfl (lo := w3.heap.size) 68 68 i0 (.agg #[.float .f64 0, .float .f64 0]) 16 Tryz.underlying77 HI.out.1 HI.out.2.1 HI.out.2.2.1 HI.out.2.2.2 rfl (by decide) _ _ rfl (hR3.alloc _) (ptCells a) a (fun _ _ => False) ?c0 rfl ?c4 ?c1 #[.float .f64 a.1, .float .f64 a.2] rfl _ rfl ?c6 ?c2 ?c3 ?c5 ?_)
            case c0 => exact fun _ _ h => h.elim
            case c4 => exact HK3.out.size
            case c1 => exact fun k hk => (hR3.lt k hk).2
            case c2 => rw [HDL.out]; unfold maxLen; omega
            case c3 => rw [HDL.out]; omega
            case c5 => exact by have := HK3.out.size; simp; omega
            case c6 => simp
            intro v2 w4 hR2 hg
            obtain ⟨gg, hg1, hg2, hk4⟩ := (hR3.alloc _).keep hg
            have hk4' : Kept (Two S bb) w w4 := (HK3.out.alloc _).trans hk4 (fun b hb he => by omega)
            have HK4 := Lib.hid hk4'
            have HRB4 := Lib.hid (⟨((show Rd S (w3.alloc (.cells #[.float .f64 a.1, .float .f64 a.2] 68)) r ∧ ∃ cur, Buf (w3.alloc (.cells #[.float .f64 a.1, .float .f64 a.2] 68)) bb cur from ⟨HRB3.out.1.below ((Below.refl _ _).alloc (Nat.le_refl _) _), HRB3.out.2.imp fun _ h => h.below ((Below.refl _ _).alloc (Nat.le_refl _) _)⟩).1).kept hk4 (fun b hb => by have := HS0.out; omega), ((show Rd S (w3.alloc (.cells #[.float .f64 a.1, .float .f64 a.2] 68)) r ∧ ∃ cur, Buf (w3.alloc (.cells #[.float .f64 a.1, .float .f64 a.2] 68)) bb cur from ⟨HRB3.out.1.below ((Below.refl _ _).alloc (Nat.le_refl _) _), HRB3.out.2.imp fun _ h => h.below ((Below.refl _ _).alloc (Nat.le_refl _) _)⟩).2).imp fun _ h => h.kept hk4 (by have := HS0.out; omega)⟩ : Rd S w4 r ∧ ∃ cur, Buf w4 bb cur)
            clear hg hk4 hk4' hR3
            go_wp2_with fail
            go_roundw
            case rel => exact ⟨i + 1, done ++ [a], r, by omega, by go_num, HST, hR2, HRB4, HK4⟩
            case measure => simp [intOf]; omega
        · have hne : ((kk : Int) == 1) = false := by simp; omega
          have hne2 : ((kk : Int) != 1) = true := by simp; omega
          have HFail : Hid (By.times (By.under 1 By.rPoint) m d = none) := Lib.hid (HP.out.fail hlt (by unfold By.under; rw [HH2.out]; simp only [if_neg hkk]))
          clear hE2 hcur2 hkk
          go_wp2_with fail
          refine (new_err _ _).mono ?_
          rintro e w3 ⟨ad, hc, rfl, hb3⟩
          have HK3 := Lib.hid (HK2.out.below hb3)
          have HC := Lib.hid hc
          clear hb3 hc
          go_wp2_with fail
          go_ret2
          rw [HFail.out]
          exact ⟨ad, .inr HC.out, rfl, HK3.out⟩
      · obtain rfl : i = m := by omega
        have HF : Hid (By.times (By.under 1 By.rPoint) i d = some (done, rest)) := Lib.hid HP.out.done
        obtain ⟨K, hK, hI⟩ := hR.is
        have HR := Lib.hid (⟨hK, hI⟩ : _ ∧ _)
        clear hR hlt hK hI
        go_wp2_with fail
        go_ret2
        rw [HF.out]
        exact ⟨_, K, rfl, HR.out.2, HR.out.1, HRB.out.1, HRB.out.2, HK.out⟩
theorem rmp_reader : Reader A 59 (.slice none 0 0) (rowIs repPt 68) rMP := by
  intro S bb cur w l le h hb hbb he h13
  by_cases hl : 4 ≤ l.length
  · have e : rMP le l = By.times (By.under 1 By.rPoint) (By.u32 le l) (l.drop 4) := by
      simp only [rMP, By.row, By.rU32, if_neg (show ¬ l.length < 4 by omega)]
    rw [e]
    exact rmp_long S bb cur w l le h hb hbb he h13 hl
  · have e : rMP le l = none := by
      simp only [rMP, By.row, By.rU32, if_pos (show l.length < 4 by omega)]
    rw [e]
    exact rmp_short S bb cur w l le h hb hbb he h13 (by omega)


set_option maxRecDepth 100000 in
theorem rml_short (S : Src) (bb : Nat) (cur : List Value) (w : World) (l : By.Bs) (le : Bool) (h : Rd S w l) (hb : Buf w bb cur) (hbb : S.rb < bb) (he : Errs A w) (h13 : 13 ≤ S.rb) (hl : l.length < 4) :
    Calls Tryz.prog 61 #[.iface 60 (.pointer (some ⟨S.rb, 0, none⟩)), .int .i64 (ordI le), .slice (some ⟨bb, 0, none⟩) 8 8] w (Gets A S bb (.slice none 0 0) (rowIs (repRow repPt 68) 72) none w) := by
  have hcall := r32_none S bb 8 le cur w l (by omega) hl h hb hbb he h13
  clear h hb he hl
  go_enter Tryz.func61, Tryz.ntmps61
  go_wp2_with fail
  refine hcall.mono ?_
  rintro e w1 ⟨a, rfl, hK⟩
  have HK := Lib.hid hK
  clear hK hcall
  go_wp2_with fail
  go_ret2
  exact ⟨a.1, .inl a.2, rfl, HK.out⟩
set_option maxRecDepth 100000 in
set_option maxHeartbeats 2000000 in
theorem rml_long (S : Src) (bb : Nat) (cur : List Value) (w : World) (l : By.Bs) (le : Bool) (h : Rd S w l) (hb : Buf w bb cur) (hbb : S.rb < bb) (he : Errs A w) (h13 : 13 ≤ S.rb) (hl : 4 ≤ l.length) :
    Calls Tryz.prog 61 #[.iface 60 (.pointer (some ⟨S.rb, 0, none⟩)), .int .i64 (ordI le), .slice (some ⟨bb, 0, none⟩) 8 8] w (Gets A S bb (.slice none 0 0) (rowIs (repRow repPt 68) 72) (By.times (By.under 2 By.rLine) (By.u32 le l) (l.drop 4)) w) := by
  obtain ⟨i0, hi, hz0, hz1, hz2⟩ := info_parts info72
  have hcall := r32_some S bb 8 le cur w l (by omega) hl h hb hbb
  have hs : bb < w.heap.size := (Array.getElem?_eq_some_iff.1 hb.2).1
  have HS0 := Lib.hid hs
  have hm := By.u32_lt le l
  obtain ⟨m, hme⟩ : ∃ m, m = By.u32 le l := ⟨_, rfl⟩
  rw [← hme] at hcall hm ⊢
  obtain ⟨d, hd⟩ : ∃ d, d = l.drop 4 := ⟨_, rfl⟩
  rw [← hd] at hcall ⊢
  have HE := Lib.hid he
  have HI := Lib.hid (⟨hi, hz0, hz1, hz2⟩ : _ ∧ _ ∧ _ ∧ _)
  have HP := Lib.hid (By.Prog.start (By.under 2 By.rLine) m d)
  clear h hb hl hme hd he hi hz0 hz1 hz2
  go_enter Tryz.func61, Tryz.ntmps61
  go_wp2_with fail
  refine hcall.mono ?_
  rintro e w1 ⟨rfl, hR1, hB1, hK1⟩
  have HK1 := Lib.hid hK1
  have HR1 := Lib.hid (⟨hR1, hB1⟩ : _ ∧ _)
  clear hcall hR1 hB1 hK1
  by_cases hbig : 100 < m
  all_goals
    go_wp2_with (at_make; refine wpList_make_own _ rfl _ _ 79 rfl w.heap.size 72 i0 (.slice none 0 0) 1 Tryz.underlying79 HI.out.1 HI.out.2.1 HI.out.2.2.1 .i64 .u32 _ (min m 100) rfl rfl (by omega) ?b2 ?b3 HK1.out.size ?_)
    case b2 => rw [HI.out.2.2.2]; omega
    case b3 => unfold maxLen; omega
    intro w2 hown hgrow
    have hR := Rowed.of_made (r := (repRow repPt 68)) hown False
    have hk2 : Kept (fun _ => False) w1 w2 := ⟨hgrow.os, hgrow.tape, hgrow.output, hgrow.size, fun k hk _ => hgrow.block k hk (by simp)⟩
    have HK2 : Hid (Kept (Two S bb) w w2) := Lib.hid (HK1.out.trans hk2 (fun _ _ h => h.elim))
    have HR2 : Hid (Rd S w2 d ∧ ∃ cur, Buf w2 bb cur) := Lib.hid ⟨HR1.out.1.kept hk2 (fun _ h => h.elim), HR1.out.2.imp fun _ h => h.kept hk2 id⟩
    clear hown hgrow hk2
    go_wp2_with fail
    go_loopw [11, 12] (fun v iv wr => ∃ (i : Nat) (done : List (List By.Pt)) (rest : By.Bs), i ≤ m ∧ iv = .int .i64 i ∧ Hid (By.Prog (By.under 2 By.rLine) m d i done rest) ∧ Rowed False (repRow repPt 68) w.heap.size 72 wr v done ∧ Hid (Rd S wr rest ∧ ∃ cur, Buf wr bb cur) ∧ Hid (Kept (Two S bb) w wr)) (fun _ iv _ => m - (intOf iv).toNat)
    case atStart => exact ⟨0, [], d, Nat.zero_le _, rfl, HP, hR, HR2, HK2⟩
    case round =>
      clear hR HP HR2 HK2 HR1 HK1
      obtain ⟨i, done, rest, hk, rfl, HP, hR, HRB, HK⟩ := hrel
      by_cases hlt : i < m
      · have him : (i : Int) < m := by omega
        have HDL := Lib.hid HP.out.1
        have HRL := Lib.hid hR.lt
        have HSZ := Lib.hid HK.out.size
        have hEr := HE.out.kept HK.out (fun b hb => by rcases hb with rfl | rfl <;> omega)
        obtain ⟨cur1, hcur1⟩ := HRB.out.2
        rcases hh : By.rHead rest with _ | ⟨le2, kk, r2⟩
        · have hcal := rh_fail S bb cur1 wr rest hh HRB.out.1 hcur1 hbb hEr h13
          have HFail : Hid (By.times (By.under 2 By.rLine) m d = none) := Lib.hid (HP.out.fail hlt (by unfold By.under; rw [hh]))
          clear hEr hcur1 hh
          go_wp2_with fail
          refine hcal.mono ?_
          rintro e w3 ⟨ad, rfl, hk3⟩
          have HK3 := Lib.hid (HK.out.same hk3)
          clear hk3 hcal
          go_wp2_with fail
          go_ret2
          rw [HFail.out]
          exact ⟨ad.1, .inl ad.2, rfl, HK3.out⟩
        have hcal := rh_some S bb cur1 wr rest r2 le2 kk hh HRB.out.1 hcur1 hbb hEr h13
        have HH2 := Lib.hid hh
        clear hEr hcur1 hh
        go_wp2_with fail
        refine hcal.mono ?_
        rintro e wh ⟨sr, rfl, hr2, ⟨cur2, hcur2⟩, hk2⟩
        have HK2 := Lib.hid (HK.out.same hk2)
        have HKH := Lib.hid hk2
        have HRB2 := Lib.hid (⟨hr2, ⟨cur2, hcur2⟩⟩ : Rd S wh r2 ∧ ∃ cur, Buf wh bb cur)
        have hE2 := HE.out.kept HK2.out (fun b hb => by rcases hb with rfl | rfl <;> omega)
        clear hcal hr2 hk2
        by_cases hkk : kk = 2
        · subst hkk
          have hcel := rls_reader S bb cur2 wh r2 le2 HRB2.out.1 hcur2 hbb hE2 h13
          have HPN := Lib.hid HP.out
          clear hE2 hcur2
          rcases hs : By.rLine le2 r2 with _ | ⟨a, r⟩
          · have HFail : Hid (By.times (By.under 2 By.rLine) m d = none) := Lib.hid (HPN.out.fail hlt (by unfold By.under; rw [HH2.out]; simp only [if_true]; exact hs))
            go_wp2_with fail
            refine hcel.mono ?_
            intro e w3 hg
            obtain ⟨ad, hea, rfl, hk3⟩ := hg.none_of hs
            have HK3 := Lib.hid (show Kept (Two S bb) w (w3) from (HK2.out.same hk3))
            have HEA := Lib.hid (show EAt A (w3) ad from hea)
            clear hk3 hcel hg hea hs
            go_wp2_with fail
            go_ret2
            rw [HFail.out]
            exact ⟨ad, HEA.out, rfl, HK3.out⟩
          · have hst := HPN.out.step hlt (by unfold By.under; rw [HH2.out]; simp only [if_true]; exact hs)
            go_wp2_with fail
            refine hcel.mono ?_
            intro e w3 hg
            obtain ⟨u, H, rfl, hu, hH, hr3, hb3, hk3⟩ := hg.some_of hs
            obtain ⟨g2, cap2, hv2, _⟩ := RowIs.form hu
            subst hv2
            have hR3 := (hR.kept (HKH.out.same hk3) (fun b hb => by rcases hb with rfl | rfl <;> omega))
            have hk3' := HK2.out.same hk3
            have HK3 := Lib.hid hk3'
            have HRB3 := Lib.hid (⟨hr3, hb3⟩ : _ ∧ _)
            have HH := Lib.hid hH
            have HWS := Lib.hid HK2.out.size
            have HU := Lib.hid hu
            have HST := Lib.hid hst
            clear hk3 hk3' hcel hg hs hR hr3 hb3 hH hst
            go_wp2_with (at_builtin; refine wpList_append_rowed (r := (repRow repPt 68)) rfl _ _ 79 rfl (lo := wh.heap.size) 72 72 i0 (.slice none 0 0) 24 Tryz.underlying79 HI.out.1 HI.out.2.1 HI.out.2.2.1 HI.out.2.2.2 rfl (by decide) _ _ rfl hR3 [.slice (some ⟨g2, 0, none⟩) a.length cap2] a H ?c0 ⟨_, rfl, HU.out⟩ ?c4 ?c1 #[.slice (some ⟨g2, 0, none⟩) a.length cap2] rfl _ rfl ?c6 ?c2 ?c3 ?c5 ?_)
            case c0 => exact HH.out
            case c4 => exact HK2.out.size
            case c1 => exact fun k hk => Nat.lt_of_lt_of_le (HRL.out k hk).2 HKH.out.size
            case c2 => rw [HDL.out]; unfold maxLen; omega
            case c3 => rw [HDL.out]; omega
            case c5 => exact HK3.out.size
            case c6 => simp
            intro v2 w4 hR2 hg
            obtain ⟨gg, hg1, hg2, hk4⟩ := hR3.keep hg
            have hk4' : Kept (Two S bb) w w4 := (HK3.out).trans hk4 (fun b hb he => by omega)
            have HK4 := Lib.hid hk4'
            have HRB4 := Lib.hid (⟨(HRB3.out.1).kept hk4 (fun b hb => by have := HS0.out; omega), (HRB3.out.2).imp fun _ h => h.kept hk4 (by have := HS0.out; omega)⟩ : Rd S w4 r ∧ ∃ cur, Buf w4 bb cur)
            clear hg hk4 hk4' hR3
            go_wp2_with fail
            go_roundw
            case rel => exact ⟨i + 1, done ++ [a], r, by omega, by go_num, HST, hR2, HRB4, HK4⟩
            case measure => simp [intOf]; omega
        · have hne : ((kk : Int) == 2) = false := by simp; omega
          have hne2 : ((kk : Int) != 2) = true := by simp; omega
          have HFail : Hid (By.times (By.under 2 By.rLine) m d = none) := Lib.hid (HP.out.fail hlt (by unfold By.under; rw [HH2.out]; simp only [if_neg hkk]))
          clear hE2 hcur2 hkk
          go_wp2_with fail
          refine (new_err _ _).mono ?_
          rintro e w3 ⟨ad, hc, rfl, hb3⟩
          have HK3 := Lib.hid (HK2.out.below hb3)
          have HC := Lib.hid hc
          clear hb3 hc
          go_wp2_with fail
          go_ret2
          rw [HFail.out]
          exact ⟨ad, .inr HC.out, rfl, HK3.out⟩
      · obtain rfl : i = m := by omega
        have HF : Hid (By.times (By.under 2 By.rLine) i d = some (done, rest)) := Lib.hid HP.out.done
        obtain ⟨K, hK, hI⟩ := hR.is
        have HR := Lib.hid (⟨hK, hI⟩ : _ ∧ _)
        clear hR hlt hK hI
        go_wp2_with fail
        go_ret2
        rw [HF.out]
        exact ⟨_, K, rfl, HR.out.2, HR.out.1, HRB.out.1, HRB.out.2, HK.out⟩
theorem rml_reader : Reader A 61 (.slice none 0 0) (rowIs (repRow repPt 68) 72) rML := by
  intro S bb cur w l le h hb hbb he h13
  by_cases hl : 4 ≤ l.length
  · have e : rML le l = By.times (By.under 2 By.rLine) (By.u32 le l) (l.drop 4) := by
      simp only [rML, By.row, By.rU32, if_neg (show ¬ l.length < 4 by omega)]
    rw [e]
    exact rml_long S bb cur w l le h hb hbb he h13 hl
  · have e : rML le l = none := by
      simp only [rML, By.row, By.rU32, if_pos (show l.length < 4 by omega)]
    rw [e]
    exact rml_short S bb cur w l le h hb hbb he h13 (by omega)


set_option maxRecDepth 100000 in
theorem rmg_short (S : Src) (bb : Nat) (cur : List Value) (w : World) (l : By.Bs) (le : Bool) (h : Rd S w l) (hb : Buf w bb cur) (hbb : S.rb < bb) (he : Errs A w) (h13 : 13 ≤ S.rb) (hl : l.length < 4) :
    Calls Tryz.prog 63 #[.iface 60 (.pointer (some ⟨S.rb, 0, none⟩)), .int .i64 (ordI le), .slice (some ⟨bb, 0, none⟩) 8 8] w (Gets A S bb (.slice none 0 0) (rowIs (repRow (repRow repPt 68) 127) 75) none w) := by
  have hcall := r32_none S bb 8 le cur w l (by omega) hl h hb hbb he h13
  clear h hb he hl
  go_enter Tryz.func63, Tryz.ntmps63
  go_wp2_with fail
  refine hcall.mono ?_
  rintro e w1 ⟨a, rfl, hK⟩
  have HK := Lib.hid hK
  clear hK hcall
  go_wp2_with fail
  go_ret2
  exact ⟨a.1, .inl a.2, rfl, HK.out⟩
set_option maxRecDepth 100000 in
set_option maxHeartbeats 2000000 in
theorem rmg_long (S : Src) (bb : Nat) (cur : List Value) (w : World) (l : By.Bs) (le : Bool) (h : Rd S w l) (hb : Buf w bb cur) (hbb : S.rb < bb) (he : Errs A w) (h13 : 13 ≤ S.rb) (hl : 4 ≤ l.length) :
    Calls Tryz.prog 63 #[.iface 60 (.pointer (some ⟨S.rb, 0, none⟩)), .int .i64 (ordI le), .slice (some ⟨bb, 0, none⟩) 8 8] w (Gets A S bb (.slice none 0 0) (rowIs (repRow (repRow repPt 68) 127) 75) (By.times (By.under 3 By.rPoly) (By.u32 le l) (l.drop 4)) w) := by
  obtain ⟨i0, hi, hz0, hz1, hz2⟩ := info_parts info75
  have hcall := r32_some S bb 8 le cur w l (by omega) hl h hb hbb
  have hs : bb < w.heap.size := (Array.getElem?_eq_some_iff.1 hb.2).1
  have HS0 := Lib.hid hs
  have hm := By.u32_lt le l
  obtain ⟨m, hme⟩ : ∃ m, m = By.u32 le l := ⟨_, rfl⟩
  rw [← hme] at hcall hm ⊢
  obtain ⟨d, hd⟩ : ∃ d, d = l.drop 4 := ⟨_, rfl⟩
  rw [← hd] at hcall ⊢
  have HE := Lib.hid he
  have HI := Lib.hid (⟨hi, hz0, hz1, hz2⟩ : _ ∧ _ ∧ _ ∧ _)
  have HP := Lib.hid (By.Prog.start (By.under 3 By.rPoly) m d)
  clear h hb hl hme hd he hi hz0 hz1 hz2
  go_enter Tryz.func63, Tryz.ntmps63
  go_wp2_with fail
  refine hcall.mono ?_
  rintro e w1 ⟨rfl, hR1, hB1, hK1⟩
  have HK1 := Lib.hid hK1
  have HR1 := Lib.hid (⟨hR1, hB1⟩ : _ ∧ _)
  clear hcall hR1 hB1 hK1
  by_cases hbig : 100 < m
  all_goals
    go_wp2_with (at_make; refine wpList_make_own _ rfl _ _ 81 rfl w.heap.size 75 i0 (.slice none 0 0) 1 Tryz.underlying81 HI.out.1 HI.out.2.1 HI.out.2.2.1 .i64 .u32 _ (min m 100) rfl rfl (by omega) ?b2 ?b3 HK1.out.size ?_)
    case b2 => rw [HI.out.2.2.2]; omega
    case b3 => unfold maxLen; omega
    intro w2 hown hgrow
    have hR := Rowed.of_made (r := (repRow (repRow repPt 68) 127)) hown False
    have hk2 : Kept (fun _ => False) w1 w2 := ⟨hgrow.os, hgrow.tape, hgrow.output, hgrow.size, fun k hk _ => hgrow.block k hk (by simp)⟩
    have HK2 : Hid (Kept (Two S bb) w w2) := Lib.hid (HK1.out.trans hk2 (fun _ _ h => h.elim))
    have HR2 : Hid (Rd S w2 d ∧ ∃ cur, Buf w2 bb cur) := Lib.hid ⟨HR1.out.1.kept hk2 (fun _ h => h.elim), HR1.out.2.imp fun _ h => h.kept hk2 id⟩
    clear hown hgrow hk2
    go_wp2_with fail
    go_loopw [11, 12] (fun v iv wr => ∃ (i : Nat) (done : List (List (List By.Pt))) (rest : By.Bs), i ≤ m ∧ iv = .int .i64 i ∧ Hid (By.Prog (By.under 3 By.rPoly) m d i done rest) ∧ Rowed False (repRow (repRow repPt 68) 127) w.heap.size 75 wr v done ∧ Hid (Rd S wr rest ∧ ∃ cur, Buf wr bb cur) ∧ Hid (Kept (Two S bb) w wr)) (fun _ iv _ => m - (intOf iv).toNat)
    case atStart => exact ⟨0, [], d, Nat.zero_le _, rfl, HP, hR, HR2, HK2⟩
    case round =>
      clear hR HP HR2 HK2 HR1 HK1
      obtain ⟨i, done, rest, hk, rfl, HP, hR, HRB, HK⟩ := hrel
      by_cases hlt : i < m
      · have him : (i : Int) < m := by omega
        have HDL := Lib.hid HP.out.1
        have HRL := Lib.hid hR.lt
        have HSZ := Lib.hid HK.out.size
        have hEr := HE.out.kept HK.out (fun b hb => by rcases hb with rfl | rfl <;> omega)
        obtain ⟨cur1, hcur1⟩ := HRB.out.2
        rcases hh : By.rHead rest with _ | ⟨le2, kk, r2⟩
        · have hcal := rh_fail S bb cur1 wr rest hh HRB.out.1 hcur1 hbb hEr h13
          have HFail : Hid (By.times (By.under 3 By.rPoly) m d = none) := Lib.hid (HP.out.fail hlt (by unfold By.under; rw [hh]))
          clear hEr hcur1 hh
          go_wp2_with fail
          refine hcal.mono ?_
          rintro e w3 ⟨ad, rfl, hk3⟩
          have HK3 := Lib.hid (HK.out.same hk3)
          clear hk3 hcal
          go_wp2_with fail
          go_ret2
          rw [HFail.out]
          exact ⟨ad.1, .inl ad.2, rfl, HK3.out⟩
        have hcal := rh_some S bb cur1 wr rest r2 le2 kk hh HRB.out.1 hcur1 hbb hEr h13
        have HH2 := Lib.hid hh
        clear hEr hcur1 hh
        go_wp2_with fail
        refine hcal.mono ?_
        rintro e wh ⟨sr, rfl, hr2, ⟨cur2, hcur2⟩, hk2⟩
        have HK2 := Lib.hid (HK.out.same hk2)
        have HKH := Lib.hid hk2
        have HRB2 := Lib.hid (⟨hr2, ⟨cur2, hcur2⟩⟩ : Rd S wh r2 ∧ ∃ cur, Buf wh bb cur)
        have hE2 := HE.out.kept HK2.out (fun b hb => by rcases hb with rfl | rfl <;> omega)
        clear hcal hr2 hk2
        by_cases hkk : kk = 3
        · subst hkk
          have hcel := rpl_reader S bb cur2 wh r2 le2 HRB2.out.1 hcur2 hbb hE2 h13
          have HPN := Lib.hid HP.out
          clear hE2 hcur2
          rcases hs : By.rPoly le2 r2 with _ | ⟨a, r⟩
          · have HFail : Hid (By.times (By.under 3 By.rPoly) m d = none) := Lib.hid (HPN.out.fail hlt (by unfold By.under; rw [HH2.out]; simp only [if_true]; exact hs))
            go_wp2_with fail
            refine hcel.mono ?_
            intro e w3 hg
            obtain ⟨ad, hea, rfl, hk3⟩ := hg.none_of hs
            have HK3 := Lib.hid (show Kept (Two S bb) w (w3) from (HK2.out.same hk3))
            have HEA := Lib.hid (show EAt A (w3) ad from hea)
            clear hk3 hcel hg hea hs
            go_wp2_with fail
            go_ret2
            rw [HFail.out]
            exact ⟨ad, HEA.out, rfl, HK3.out⟩
          · have hst := HPN.out.step hlt (by unfold By.under; rw [HH2.out]; simp only [if_true]; exact hs)
            go_wp2_with fail
            refine hcel.mono ?_
            intro e w3 hg
            obtain ⟨u, H, rfl, hu, hH, hr3, hb3, hk3⟩ := hg.some_of hs
            obtain ⟨g2, cap2, hv2, _⟩ := RowIs.form hu
            subst hv2
            have hR3 := (hR.kept (HKH.out.same hk3) (fun b hb => by rcases hb with rfl | rfl <;> omega))
            have hk3' := HK2.out.same hk3
            have HK3 := Lib.hid hk3'
            have HRB3 := Lib.hid (⟨hr3, hb3⟩ : _ ∧ _)
            have HH := Lib.hid hH
            have HWS := Lib.hid HK2.out.size
            have HU := Lib.hid hu
            have HST := Lib.hid hst
            clear hk3 hk3' hcel hg hs hR hr3 hb3 hH hst
            go_wp2_with (at_builtin; refine wpList_append_rowed (r := (repRow (repRow repPt 68) 127)) rfl _ _ 81 rfl (lo := wh.heap.size) 75 75 i0 (.slice none 0 0) 24 Tryz.underlying81 HI.out.1 HI.out.2.1 HI.out.2.2.1 HI.out.2.2.2 rfl (by decide) _ _ rfl hR3 [.slice (some ⟨g2, 0, none⟩) a.length cap2] a H ?c0 ⟨_, rfl, HU.out⟩ ?c4 ?c1 #[.slice (some ⟨g2, 0, none⟩) a.length cap2] rfl _ rfl ?c6 ?c2 ?c3 ?c5 ?_)
            case c0 => exact HH.out
            case c4 => exact HK2.out.size
            case c1 => exact fun k hk => Nat.lt_of_lt_of_le (HRL.out k hk).2 HKH.out.size
            case c2 => rw [HDL.out]; unfold maxLen; omega
            case c3 => rw [HDL.out]; omega
            case c5 => exact HK3.out.size
            case c6 => simp
            intro v2 w4 hR2 hg
            obtain ⟨gg, hg1, hg2, hk4⟩ := hR3.keep hg
            have hk4' : Kept (Two S bb) w w4 := (HK3.out).trans hk4 (fun b hb he => by omega)
            have HK4 := Lib.hid hk4'
            have HRB4 := Lib.hid (⟨(HRB3.out.1).kept hk4 (fun b hb => by have := HS0.out; omega), (HRB3.out.2).imp fun _ h => h.kept hk4 (by have := HS0.out; omega)⟩ : Rd S w4 r ∧ ∃ cur, Buf w4 bb cur)
            clear hg hk4 hk4' hR3
            go_wp2_with fail
            go_roundw
            case rel => exact ⟨i + 1, done ++ [a], r, by omega, by go_num, HST, hR2, HRB4, HK4⟩
            case measure => simp [intOf]; omega
        · have hne : ((kk : Int) == 3) = false := by simp; omega
          have hne2 : ((kk : Int) != 3) = true := by simp; omega
          have HFail : Hid (By.times (By.under 3 By.rPoly) m d = none) := Lib.hid (HP.out.fail hlt (by unfold By.under; rw [HH2.out]; simp only [if_neg hkk]))
          clear hE2 hcur2 hkk
          go_wp2_with fail
          refine (new_err _ _).mono ?_
          rintro e w3 ⟨ad, hc, rfl, hb3⟩
          have HK3 := Lib.hid (HK2.out.below hb3)
          have HC := Lib.hid hc
          clear hb3 hc
          go_wp2_with fail
          go_ret2
          rw [HFail.out]
          exact ⟨ad, .inr HC.out, rfl, HK3.out⟩
      · obtain rfl : i = m := by omega
        have HF : Hid (By.times (By.under 3 By.rPoly) i d = some (done, rest)) := Lib.hid HP.out.done
        obtain ⟨K, hK, hI⟩ := hR.is
        have HR := Lib.hid (⟨hK, hI⟩ : _ ∧ _)
        clear hR hlt hK hI
        go_wp2_with fail
        go_ret2
        rw [HF.out]
        exact ⟨_, K, rfl, HR.out.2, HR.out.1, HRB.out.1, HRB.out.2, HK.out⟩
theorem rmg_reader : Reader A 63 (.slice none 0 0) (rowIs (repRow (repRow repPt 68) 127) 75) rMG := by
  intro S bb cur w l le h hb hbb he h13
  by_cases hl : 4 ≤ l.length
  · have e : rMG le l = By.times (By.under 3 By.rPoly) (By.u32 le l) (l.drop 4) := by
      simp only [rMG, By.row, By.rU32, if_neg (show ¬ l.length < 4 by omega)]
    rw [e]
    exact rmg_long S bb cur w l le h hb hbb he h13 hl
  · have e : rMG le l = none := by
      simp only [rMG, By.row, By.rU32, if_pos (show l.length < 4 by omega)]
    rw [e]
    exact rmg_short S bb cur w l le h hb hbb he h13 (by omega)

end Go.Proofs.YtjbjjphgnilhmaaGreatDoor
