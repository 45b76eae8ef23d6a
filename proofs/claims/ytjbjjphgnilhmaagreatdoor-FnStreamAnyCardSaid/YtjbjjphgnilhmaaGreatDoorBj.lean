/- How shapes lie in memory; the walks of readCollection and of (*Decoder).Decode. -/
import Derived.Test.YtjbjjphgnilhmaaGreatDoorBx
set_option linter.unusedVariables false
namespace Go.Proofs.YtjbjjphgnilhmaaGreatDoor
open Go.RowKit
variable {A : Addr → Prop}

/-- A shape, as a value of the package; f is at least its depth. -/
def IsG : Nat → Knows → Value → By.G → Prop
  | 0, _, _, _ => False
  | f + 1, H, v, g => match g with
    | .pt p => ∃ x, v = .iface 68 x ∧ ptIs H x p
    | .ln l => ∃ x, v = .iface 72 x ∧ rowIs repPt 68 H x l
    | .pg l => ∃ x, v = .iface 75 x ∧ rowIs (repRow repPt 68) 127 H x l
    | .mp l => ∃ x, v = .iface 77 x ∧ rowIs repPt 68 H x l
    | .ml l => ∃ x, v = .iface 79 x ∧ rowIs (repRow repPt 68) 72 H x l
    | .mg l => ∃ x, v = .iface 81 x ∧ rowIs (repRow (repRow repPt 68) 127) 75 H x l
    | .co l => ∃ x, v = .iface 83 x ∧ RowIs False 1 (fun H us g => ∃ u, us = [u] ∧ IsG f H u g) 39 H x l
theorem rowIs.mono {α : Type} {r : Rep α} {E : TypeId} {H K : Knows} {v : Value} {ls : List α} (hk : ∀ b o, H b o → K b o) (h : rowIs r E H v ls) : rowIs r E K v ls := RowIs.mono (fun _ _ => r.mono hk) hk h
theorem IsG.mono : ∀ {f : Nat} {H K : Knows} {v : Value} {g : By.G}, (∀ b o, H b o → K b o) → IsG f H v g → IsG f K v g
  | 0, _, _, _, _, _, h => h.elim
  | f + 1, H, K, v, g, hk, h => by
    cases g with
    | pt p => exact h
    | ln l => obtain ⟨x, h1, h2⟩ := h; exact ⟨x, h1, h2.mono hk⟩
    | pg l => obtain ⟨x, h1, h2⟩ := h; exact ⟨x, h1, h2.mono hk⟩
    | mp l => obtain ⟨x, h1, h2⟩ := h; exact ⟨x, h1, h2.mono hk⟩
    | ml l => obtain ⟨x, h1, h2⟩ := h; exact ⟨x, h1, h2.mono hk⟩
    | mg l => obtain ⟨x, h1, h2⟩ := h; exact ⟨x, h1, h2.mono hk⟩
    | co l => obtain ⟨x, h1, h2⟩ := h; exact ⟨x, h1, RowIs.mono (fun us g ⟨u, e, hu⟩ => ⟨u, e, IsG.mono hk hu⟩) hk h2⟩
theorem IsG.iface : ∀ {f : Nat} {H : Knows} {v : Value} {g : By.G}, IsG f H v g → ∃ t x, v = .iface t x
  | 0, _, _, _, h => h.elim
  | f + 1, H, v, g, h => by
    cases g with
    | pt p => obtain ⟨x, h1, h2⟩ := h; exact ⟨_, x, h1⟩
    | ln l => obtain ⟨x, h1, h2⟩ := h; exact ⟨_, x, h1⟩
    | pg l => obtain ⟨x, h1, h2⟩ := h; exact ⟨_, x, h1⟩
    | mp l => obtain ⟨x, h1, h2⟩ := h; exact ⟨_, x, h1⟩
    | ml l => obtain ⟨x, h1, h2⟩ := h; exact ⟨_, x, h1⟩
    | mg l => obtain ⟨x, h1, h2⟩ := h; exact ⟨_, x, h1⟩
    | co l => obtain ⟨x, h1, h2⟩ := h; exact ⟨_, x, h1⟩
def repG (f : Nat) : Rep By.G where
  size := 1
  rel := fun H us g => ∃ u, us = [u] ∧ IsG f H u g
  mono := fun hk ⟨u, e, h⟩ => ⟨u, e, h.mono hk⟩
  len := fun ⟨u, e, _⟩ => by rw [e]; rfl
  one := fun ⟨v, e, h⟩ u hu => by
    subst e
    simp at hu
    subst hu
    obtain ⟨t, x, rfl⟩ := h.iface
    rfl
theorem info39 : (Tryz.prog.info? 39).map (fun i => (i.zero, i.size, i.bytes)) = some (some .nilIface, 1, 16) := by kernel_rfl

theorem Rowed.keep2 {α : Type} {r : Rep α} {base : Nat} {E : TypeId} {w w1 : World} {v : Value} {ls : List α} (h : Rowed False r base E w v ls) (hg : w.grownBy w1 v.ownBlock) : ∃ g, v.ownBlock = some g ∧ base ≤ g ∧ g < w.heap.size ∧ Kept (fun b => b = g) w w1 := by
  obtain ⟨g, cap, rfl, _, _, h1, h2⟩ := h.formN
  exact ⟨g, rfl, h1, h2, grown_below hg⟩
theorem Rowed.blk_ne {α : Type} {z : Prop} {r : Rep α} {base b : Nat} {E T : TypeId} {w : World} {v : Value} {ls : List α} {cs : Array Value} (h : Rowed z r base E w v ls) (hb : Blk w b cs T) (hT : T ≠ E) : v.ownBlock ≠ some b := by
  obtain ⟨uss, H, ho, _⟩ := h
  rcases ho.2 with ⟨rfl, _⟩ | ⟨g, cap, cur, rfl, _, hg, _⟩
  · simp [Value.ownBlock]
  · intro he
    simp only [Value.ownBlock, Option.some.injEq] at he
    subst he
    unfold Blk at hb
    rw [hg] at hb
    simp at hb
    exact hT hb.2.symm
/-- What a decoder gives. -/
def GetsD (A : Addr → Prop) (S : Src) (f : Nat) (o : Option (By.G × By.Bs)) (w : World) (e : Ending) (w' : World) : Prop := match o with
  | some (g, r) => ∃ u s K, e = .returned (.tuple #[u, .int .i64 s, .nilIface]) ∧ IsG f K u g ∧ Has w.heap.size K w' ∧ Rd S w' r ∧ Kept (fun b => b = S.rb) w w'
  | none => ∃ a : Addr, EAt A w' a ∧ e = .returned (.tuple #[.nilIface, .int .i64 0, .iface 203 (.pointer (some a))]) ∧ Kept (fun b => b = S.rb) w w'
theorem GetsD.none_of {S : Src} {f : Nat} {o : Option (By.G × By.Bs)} {w w' : World} {e : Ending} (h : GetsD A S f o w e w') (ho : o = none) :
    ∃ a : Addr, EAt A w' a ∧ e = .returned (.tuple #[.nilIface, .int .i64 0, .iface 203 (.pointer (some a))]) ∧ Kept (fun b => b = S.rb) w w' := by
  subst ho; exact h
theorem GetsD.some_of {S : Src} {f : Nat} {o : Option (By.G × By.Bs)} {w w' : World} {e : Ending} {g : By.G} {r : By.Bs} (h : GetsD A S f o w e w') (ho : o = some (g, r)) :
    ∃ u s K, e = .returned (.tuple #[u, .int .i64 s, .nilIface]) ∧ IsG f K u g ∧ Has w.heap.size K w' ∧ Rd S w' r ∧ Kept (fun b => b = S.rb) w w' := by
  subst ho; exact h
/-- A decoder. -/
def Dec (w : World) (dk : Nat) (S : Src) : Prop := Blk w dk #[.iface 60 (.pointer (some ⟨S.rb, 0, none⟩))] 151
/-- Decode as it should be, of bytes of so many. -/
def Decodes (A : Addr → Prop) (f : Nat) : Prop := ∀ (S : Src) (dk : Nat) (w : World) (l : By.Bs), Rd S w l → Dec w dk S → S.rb < dk → Errs A w → 13 ≤ S.rb → l.length ≤ f →
    Calls Tryz.prog 40 #[.pointer (some ⟨dk, 0, none⟩)] w (GetsD A S f (By.rG f l) w)
theorem newDec (S : Src) (w : World) : Calls Tryz.prog 39 #[.iface 60 (.pointer (some ⟨S.rb, 0, none⟩))] w fun e w' => e = .returned (.pointer (some ⟨w.heap.size, 0, none⟩)) ∧ Dec w' w.heap.size S ∧ Below w.heap.size w w' := by
  go_enter Tryz.func39, Tryz.ntmps39
  go_wp2_with fail
  go_ret
  exact ⟨rfl, Blk.new w _ _, (Below.refl _ _).alloc (Nat.le_refl _) _⟩
theorem Dec.kept {w w' : World} {dk : Nat} {S : Src} {X : Nat → Prop} (h : Dec w dk S) (hk : Kept X w w') (hX : ¬ X dk) : Dec w' dk S := (hk.block dk (Blk.lt h) hX).trans h

set_option maxRecDepth 100000 in
theorem rco_short (f : Nat) (S : Src) (bb : Nat) (cur : List Value) (w : World) (l : By.Bs) (le : Bool) (h : Rd S w l) (hb : Buf w bb cur) (hbb : S.rb < bb) (he : Errs A w) (h13 : 13 ≤ S.rb) (hl : l.length < 4) :
    Calls Tryz.prog 64 #[.iface 60 (.pointer (some ⟨S.rb, 0, none⟩)), .int .i64 (ordI le), .slice (some ⟨bb, 0, none⟩) 8 8] w (Gets A S bb (.slice none 0 0) (rowIs (repG f) 39) none w) := by
  have hcall := r32_none S bb 8 le cur w l (by omega) hl h hb hbb he h13
  clear h hb he hl
  go_enter Tryz.func64, Tryz.ntmps64
  go_wp2_with fail
  refine hcall.mono ?_
  rintro e w1 ⟨a, rfl, hK⟩
  have HK := Lib.hid hK
  clear hK hcall
  go_wp2_with fail
  go_ret2
  exact ⟨a.1, .inl a.2, rfl, HK.out⟩
set_option maxRecDepth 100000 in
set_option maxHeartbeats 2000000 in
theorem rco_long (f : Nat) (ih : Decodes A f) (S : Src) (bb : Nat) (cur : List Value) (w : World) (l : By.Bs) (le : Bool) (h : Rd S w l) (hb : Buf w bb cur) (hbb : S.rb < bb) (he : Errs A w) (h13 : 13 ≤ S.rb) (hl : 4 ≤ l.length) (hf : l.length ≤ f + 4) :
    Calls Tryz.prog 64 #[.iface 60 (.pointer (some ⟨S.rb, 0, none⟩)), .int .i64 (ordI le), .slice (some ⟨bb, 0, none⟩) 8 8] w (Gets A S bb (.slice none 0 0) (rowIs (repG f) 39) (By.times (By.rG f) (By.u32 le l) (l.drop 4)) w) := by
  obtain ⟨i0, hi, hz0, hz1, hz2⟩ := info_parts info39
  have hcall := r32_some S bb 8 le cur w l (by omega) hl h hb hbb
  have hs : bb < w.heap.size := (Array.getElem?_eq_some_iff.1 hb.2).1
  have HS0 := Lib.hid hs
  have hm := By.u32_lt le l
  obtain ⟨m, hme⟩ : ∃ m, m = By.u32 le l := ⟨_, rfl⟩
  rw [← hme] at hcall hm ⊢
  have hdl : (l.drop 4).length ≤ f := by rw [List.length_drop]; omega
  obtain ⟨d, hd⟩ : ∃ d, d = l.drop 4 := ⟨_, rfl⟩
  rw [← hd] at hcall hdl ⊢
  have HE := Lib.hid he
  have HI := Lib.hid (⟨hi, hz0, hz1, hz2⟩ : _ ∧ _ ∧ _ ∧ _)
  have HP := Lib.hid (By.Prog.start (By.rG f) m d)
  have HDF := Lib.hid hdl
  have IH := Lib.hid ih
  clear h hb hl hme hd he hi hz0 hz1 hz2 hf ih hdl
  go_enter Tryz.func64, Tryz.ntmps64
  go_wp2_with fail
  refine hcall.mono ?_
  rintro e w1 ⟨rfl, hR1, hB1, hK1⟩
  have HK1 := Lib.hid hK1
  have HR1 := Lib.hid (⟨hR1, hB1⟩ : _ ∧ _)
  clear hcall hR1 hB1 hK1
  by_cases hbig : 100 < m
  all_goals
    go_wp2_with (at_make; refine wpList_make_own _ rfl _ _ 83 rfl w.heap.size 39 i0 .nilIface 1 Tryz.underlying83 HI.out.1 HI.out.2.1 HI.out.2.2.1 .i64 .u32 _ (min m 100) rfl rfl (by omega) ?b2 ?b3 HK1.out.size ?_)
    case b2 => rw [HI.out.2.2.2]; omega
    case b3 => unfold maxLen; omega
    intro w2 hown hgrow
    have hR := Rowed.of_made (r := repG f) hown False
    have hk2 : Kept (fun _ => False) w1 w2 := ⟨hgrow.os, hgrow.tape, hgrow.output, hgrow.size, fun k hk _ => hgrow.block k hk (by simp)⟩
    have HK2 : Hid (Kept (Two S bb) w w2) := Lib.hid (HK1.out.trans hk2 (fun _ _ h => h.elim))
    have HR2 : Hid (Rd S w2 d ∧ ∃ cur, Buf w2 bb cur) := Lib.hid ⟨HR1.out.1.kept hk2 (fun _ h => h.elim), HR1.out.2.imp fun _ h => h.kept hk2 id⟩
    have HRW := Lib.hid hR
    clear hown hgrow hk2 hR
    go_wp2_with fail
    refine (newDec S w2).mono ?_
    rintro e w3 ⟨rfl, hD, hb3⟩
    have hR := HRW.out.below hb3
    have HD := Lib.hid hD
    have HK3 := Lib.hid (HK2.out.below hb3)
    have HR3 : Hid (Rd S w3 d ∧ ∃ cur, Buf w3 bb cur) := Lib.hid ⟨HR2.out.1.below hb3, HR2.out.2.imp fun _ h => h.below hb3⟩
    obtain ⟨dk, hdk⟩ : ∃ dk, dk = w2.heap.size := ⟨_, rfl⟩
    rw [← hdk] at HD ⊢
    have HDK := Lib.hid (show w.heap.size ≤ dk ∧ dk < w3.heap.size from ⟨by rw [hdk]; exact HK2.out.size, Blk.lt HD.out⟩)
    clear hD hb3 HRW HK2 HR2 hdk
    go_wp2_with fail
    go_loopw [11, 13] (fun v iv wr => ∃ (i : Nat) (done : List By.G) (rest : By.Bs), i ≤ m ∧ iv = .int .i64 i ∧ Hid (By.Prog (By.rG f) m d i done rest) ∧ Hid (rest.length ≤ f) ∧ Rowed False (repG f) w.heap.size 39 wr v done ∧ Hid (Dec wr dk S) ∧ Hid (Rd S wr rest ∧ ∃ cur, Buf wr bb cur) ∧ Hid (Kept (Two S bb) w wr)) (fun _ iv _ => m - (intOf iv).toNat)
    case atStart => exact ⟨0, [], d, Nat.zero_le _, rfl, HP, HDF, hR, HD, HR3, HK3⟩
    case round =>
      clear hR HP HR1 HK1 HD HR3 HK3 HDF
      obtain ⟨i, done, rest, hk, rfl, HP, HRF, hR, HD, HRB, HK⟩ := hrel
      by_cases hlt : i < m
      · have him : (i : Int) < m := by omega
        have HDL := Lib.hid HP.out.1
        have HRL := Lib.hid hR.lt
        have HSZ := Lib.hid HK.out.size
        have hEr := HE.out.kept HK.out (fun b hb => by rcases hb with rfl | rfl <;> omega)
        have hcel := IH.out S dk wr rest HRB.out.1 HD.out (by have := HDK.out.1; have := HS0.out; omega) hEr h13 HRF.out
        have HPN := Lib.hid HP.out
        clear hEr
        rcases hs : By.rG f rest with _ | ⟨a, r⟩
        · have HFail : Hid (By.times (By.rG f) m d = none) := Lib.hid (HPN.out.fail hlt hs)
          go_wp2_with fail
          refine hcel.mono ?_
          intro e w4 hg
          obtain ⟨ad, hea, rfl, hk3⟩ := hg.none_of hs
          have HK4 := Lib.hid (HK.out.trans hk3 (fun b _ hb => .inl hb))
          have HEA := Lib.hid hea
          clear hk3 hcel hg hea hs
          go_wp2_with fail
          go_ret2
          rw [HFail.out]
          exact ⟨ad, HEA.out, rfl, HK4.out⟩
        · have hst := HPN.out.step hlt hs
          have hrl := (By.rG_fits f _ _ _ hs).2
          go_wp2_with fail
          refine hcel.mono ?_
          intro e w4 hg
          obtain ⟨u, s, H, rfl, hu, hH, hr4, hk4⟩ := hg.some_of hs
          obtain ⟨tt, xx, hux⟩ := hu.iface
          subst hux
          have hR4 := (hR.kept hk4 (fun b hb => by have := HS0.out; omega))
          have hkk4 := HK.out.trans hk4 (fun b _ hb => .inl hb)
          have HK4 := Lib.hid hkk4
          have HRB4 := Lib.hid (⟨hr4, HRB.out.2.imp fun _ h => h.kept hk4 (by omega), HD.out.kept hk4 (by have := HDK.out.1; have := HS0.out; omega)⟩ : Rd S w4 r ∧ (∃ cur, Buf w4 bb cur) ∧ Dec w4 dk S)
          have HH := Lib.hid hH
          have HU := Lib.hid hu
          have HST := Lib.hid hst
          have HRF4 := Lib.hid (show r.length ≤ f by have := HRF.out; omega)
          have HDW := Lib.hid (show dk < w4.heap.size from Blk.lt HRB4.out.2.2)
          clear hk4 hkk4 hcel hg hs hR hr4 hH hst hrl hu
          go_wp2_with (at_builtin; refine wpList_append_rowed (r := repG f) rfl _ _ 83 rfl (lo := wr.heap.size) 39 39 i0 .nilIface 16 Tryz.underlying83 HI.out.1 HI.out.2.1 HI.out.2.2.1 HI.out.2.2.2 rfl Nat.one_pos _ _ rfl hR4 [.iface tt xx] a H ?c0 ⟨_, rfl, HU.out⟩ ?c4 ?c1 #[.iface tt xx] rfl _ rfl ?c6 ?c2 ?c3 ?c5 ?_)
          case c0 => exact HH.out
          case c4 => exact HSZ.out
          case c1 => exact fun k hk => (HRL.out k hk).2
          case c2 => rw [HDL.out]; unfold maxLen; omega
          case c3 => rw [HDL.out]; omega
          case c5 => exact HK4.out.size
          case c6 => rfl
          intro v2 w5 hR5 hg
          obtain ⟨gg, hgv, hg1, hg2, hk5⟩ := hR4.keep2 hg
          have hgd : gg ≠ dk := fun e => hR4.blk_ne HRB4.out.2.2 (by decide) (by rw [← e]; exact hgv)
          have hk5' : Kept (Two S bb) w w5 := HK4.out.trans hk5 (fun b hb he => by omega)
          have HK5 := Lib.hid hk5'
          have HRB5 := Lib.hid (⟨HRB4.out.1.kept hk5 (fun b hb => by have := HS0.out; omega), HRB4.out.2.1.imp fun _ h => h.kept hk5 (by have := HS0.out; omega)⟩ : Rd S w5 r ∧ ∃ cur, Buf w5 bb cur)
          have HD5 := Lib.hid (HRB4.out.2.2.kept hk5 (fun e => hgd e.symm))
          clear hg hk5 hk5' hR4 hgv hgd
          go_wp2_with fail
          go_roundw
          case rel => exact ⟨i + 1, done ++ [a], r, by omega, by go_num, HST, HRF4, hR5, HD5, HRB5, HK5⟩
          case measure => simp [intOf]; omega
      · obtain rfl : i = m := by omega
        have HF : Hid (By.times (By.rG f) i d = some (done, rest)) := Lib.hid HP.out.done
        obtain ⟨K, hK, hI⟩ := hR.is
        have HR := Lib.hid (⟨hK, hI⟩ : _ ∧ _)
        clear hR hlt hK hI
        go_wp2_with fail
        go_ret2
        rw [HF.out]
        exact ⟨_, K, rfl, HR.out.2, HR.out.1, HRB.out.1, HRB.out.2, HK.out⟩


theorem rco_any (f : Nat) (ih : Decodes A f) (S : Src) (bb : Nat) (cur : List Value) (w : World) (l : By.Bs) (le : Bool) (h : Rd S w l) (hb : Buf w bb cur) (hbb : S.rb < bb) (he : Errs A w) (h13 : 13 ≤ S.rb) (hf : l.length ≤ f + 4) :
    Calls Tryz.prog 64 #[.iface 60 (.pointer (some ⟨S.rb, 0, none⟩)), .int .i64 (ordI le), .slice (some ⟨bb, 0, none⟩) 8 8] w (Gets A S bb (.slice none 0 0) (rowIs (repG f) 39) (By.row le (By.rG f) l) w) := by
  by_cases hl : 4 ≤ l.length
  · have e : By.row le (By.rG f) l = By.times (By.rG f) (By.u32 le l) (l.drop 4) := by
      simp only [By.row, By.rU32, if_neg (show ¬ l.length < 4 by omega)]
    rw [e]
    exact rco_long f ih S bb cur w l le h hb hbb he h13 hl hf
  · have e : By.row le (By.rG f) l = none := by
      simp only [By.row, By.rU32, if_pos (show l.length < 4 by omega)]
    rw [e]
    exact rco_short f S bb cur w l le h hb hbb he h13 (by omega)

/-- The buffer that Decode makes. -/
abbrev W8 (w : World) : World := w.alloc (.cells #[.int .u8 0, .int .u8 0, .int .u8 0, .int .u8 0, .int .u8 0, .int .u8 0, .int .u8 0, .int .u8 0] 5)
theorem make8 (w : World) : (Instr.makeSlice 22 (.int .i64 8) (.int .i64 8)).run Tryz.prog w = .ok (.slice (some ⟨w.heap.size, 0, none⟩) 8 8) (W8 w) := by kernel_rfl
theorem w8_buf (w : World) : Buf (W8 w) w.heap.size [.int .u8 0, .int .u8 0, .int .u8 0, .int .u8 0, .int .u8 0, .int .u8 0, .int .u8 0, .int .u8 0] := ⟨rfl, heap_alloc_new w _⟩
theorem w8_below (w : World) : Below w.heap.size w (W8 w) := (Below.refl _ _).alloc (Nat.le_refl _) _
theorem kept_w8 {S : Src} {w w' : World} (h : Kept (Two S w.heap.size) (W8 w) w') : Kept (fun b => b = S.rb) w w' :=
  (Kept.of_below (w8_below w) (fun b => b = S.rb)).trans h (fun b hb he => he.elim id (fun e => by omega))
theorem has_w8 {K : Knows} {w w' : World} (h : Has (W8 w).heap.size K w') : Has w.heap.size K w' := h.mono (w8_below w).size
set_option maxRecDepth 100000 in
theorem de_fail (f : Nat) (S : Src) (dk : Nat) (w : World) (l : By.Bs) (h : Rd S w l) (hd : Dec w dk S) (hdk : S.rb < dk) (he : Errs A w) (h13 : 13 ≤ S.rb) (hh : By.rHead l = none) :
    Calls Tryz.prog 40 #[.pointer (some ⟨dk, 0, none⟩)] w (GetsD A S f none w) := by
  have hcall := rh_fail S w.heap.size _ (W8 w) l hh (h.below (w8_below w)) (w8_buf w) h.lt (he.below (w8_below w)) h13
  obtain ⟨d0, _⟩ := Blk.cell (hd.kept (Kept.of_below (w8_below w) (fun _ => False)) id) (i := 0) (v := .iface 60 (.pointer (some ⟨S.rb, 0, none⟩))) rfl
  have hmk := make8
  clear h hd he hh
  go_enter Tryz.func40, Tryz.ntmps40
  go_wp2_with fail
  refine hcall.mono ?_
  rintro e w1 ⟨a, rfl, hk⟩
  have HK := Lib.hid (kept_w8 hk)
  clear hcall hk d0
  go_wp2_with fail
  go_ret3
  exact ⟨a.1, .inl a.2, rfl, HK.out⟩
set_option maxRecDepth 100000 in
theorem de_else (f : Nat) (S : Src) (dk : Nat) (w : World) (l r : By.Bs) (le : Bool) (kk : Nat) (h : Rd S w l) (hd : Dec w dk S) (hdk : S.rb < dk) (he : Errs A w) (h13 : 13 ≤ S.rb) (hh : By.rHead l = some (le, kk, r))
    (h1 : ¬ kk = 1) (h2 : ¬ kk = 2) (h3 : ¬ kk = 3) (h4 : ¬ kk = 4) (h5 : ¬ kk = 5) (h6 : ¬ kk = 6) (h7 : ¬ kk = 7) :
    Calls Tryz.prog 40 #[.pointer (some ⟨dk, 0, none⟩)] w (GetsD A S f none w) := by
  have hcall := rh_some S w.heap.size _ (W8 w) l r le kk hh (h.below (w8_below w)) (w8_buf w) h.lt (he.below (w8_below w)) h13
  obtain ⟨d0, _⟩ := Blk.cell (hd.kept (Kept.of_below (w8_below w) (fun _ => False)) id) (i := 0) (v := .iface 60 (.pointer (some ⟨S.rb, 0, none⟩))) rfl
  have g1 : ((kk : Int) == 1) = false := by simp; omega
  have g2 : ((kk : Int) == 2) = false := by simp; omega
  have g3 : ((kk : Int) == 3) = false := by simp; omega
  have g4 : ((kk : Int) == 4) = false := by simp; omega
  have g5 : ((kk : Int) == 5) = false := by simp; omega
  have g6 : ((kk : Int) == 6) = false := by simp; omega
  have g7 : ((kk : Int) == 7) = false := by simp; omega
  have HE := Lib.hid he
  have hmk := make8
  clear h hd he hh h1 h2 h3 h4 h5 h6 h7
  go_enter Tryz.func40, Tryz.ntmps40
  go_wp2_with fail
  refine hcall.mono ?_
  rintro e w1 ⟨s, rfl, hr, hb, hk⟩
  have hk0 := kept_w8 hk
  obtain ⟨a3, ha3⟩ := (HE.out.kept hk0 (fun b hb => by omega)) 3 (by omega) (by omega)
  have HK := Lib.hid hk0
  clear hcall hk d0 hr hb hk0
  go_wp2_with fail
  go_quiet (fail)
  go_wp2_with fail
  go_ret3
  exact ⟨a3.1, .inl a3.2, rfl, HK.out.drewN _⟩


set_option maxRecDepth 100000 in
set_option maxHeartbeats 1000000 in
theorem de_1 (f : Nat) (S : Src) (dk : Nat) (w : World) (l r : By.Bs) (le : Bool) (h : Rd S w l) (hd : Dec w dk S) (hdk : S.rb < dk) (he : Errs A w) (h13 : 13 ≤ S.rb) (hh : By.rHead l = some (le, 1, r)) :
    Calls Tryz.prog 40 #[.pointer (some ⟨dk, 0, none⟩)] w (GetsD A S (f + 1) (By.as .pt (By.rPoint le r)) w) := by
  have hcall := rh_some S w.heap.size _ (W8 w) l r le 1 hh (h.below (w8_below w)) (w8_buf w) h.lt (he.below (w8_below w)) h13
  have HD0 := Lib.hid (hd.kept (Kept.of_below (w8_below w) (fun _ => False)) id)
  obtain ⟨d0, _⟩ := Blk.cell HD0.out (i := 0) (v := .iface 60 (.pointer (some ⟨S.rb, 0, none⟩))) rfl
  have HE := Lib.hid (he.below (w8_below w))
  have HLT := Lib.hid h.lt
  have HDL := Lib.hid (Blk.lt hd)
  have hmk := make8
  clear h hd he hh
  go_enter Tryz.func40, Tryz.ntmps40
  go_wp2_with fail
  refine hcall.mono ?_
  rintro e w1 ⟨s, rfl, hr, ⟨cur1, hcur1⟩, hk⟩
  have hE1 := HE.out.kept hk (fun b hb => by have := HLT.out; omega)
  have hcall2 := rp_reader S w.heap.size cur1 w1 r le hr hcur1 HLT.out hE1 h13
  obtain ⟨d1, _⟩ := Blk.cell (HD0.out.kept hk (by have := HDL.out; omega)) (i := 0) (v := .iface 60 (.pointer (some ⟨S.rb, 0, none⟩))) rfl
  have HK := Lib.hid hk
  clear hcall hk d0 hr hcur1 hE1
  rcases hs : (By.rPoint le r) with _ | ⟨a, r2⟩
  · have HFail : Hid (By.as .pt (By.rPoint le r) = none) := Lib.hid (by unfold By.as; rw [hs]; rfl)
    go_wp2_with fail
    refine hcall2.mono ?_
    intro e w2 hg
    obtain ⟨ad, hea, rfl, hk2⟩ := hg.none_of hs
    have HK2 := Lib.hid (kept_w8 (HK.out.same hk2))
    have HEA := Lib.hid hea
    clear hcall2 hg hea hk2 hs d1
    go_wp2_with fail
    go_ret3
    rw [HFail.out]
    exact ⟨ad, HEA.out, rfl, HK2.out⟩
  · have HS : Hid (By.as .pt (By.rPoint le r) = some (.pt a, r2)) := Lib.hid (by unfold By.as; rw [hs]; rfl)
    go_wp2_with fail
    refine hcall2.mono ?_
    intro e w2 hg
    obtain ⟨u, H, rfl, hu, hH, hr2, hb2, hk2⟩ := hg.some_of hs
    have HK2 := Lib.hid (kept_w8 (HK.out.same hk2))
    have HU := Lib.hid hu
    have HH := Lib.hid (⟨has_w8 (hH.mono HK.out.size), hr2⟩ : Has w.heap.size H w2 ∧ _)
    clear hcall2 hg hk2 hs d1 hu hH hr2 hb2
    go_wp2_with fail
    go_ret3
    rw [HS.out]
    exact ⟨_, s, H, rfl, ⟨u, rfl, HU.out⟩, HH.out.1, HH.out.2, HK2.out⟩


set_option maxRecDepth 100000 in
set_option maxHeartbeats 1000000 in
theorem de_4 (f : Nat) (S : Src) (dk : Nat) (w : World) (l r : By.Bs) (le : Bool) (h : Rd S w l) (hd : Dec w dk S) (hdk : S.rb < dk) (he : Errs A w) (h13 : 13 ≤ S.rb) (hh : By.rHead l = some (le, 4, r)) :
    Calls Tryz.prog 40 #[.pointer (some ⟨dk, 0, none⟩)] w (GetsD A S (f + 1) (By.as .mp (rMP le r)) w) := by
  have hcall := rh_some S w.heap.size _ (W8 w) l r le 4 hh (h.below (w8_below w)) (w8_buf w) h.lt (he.below (w8_below w)) h13
  have HD0 := Lib.hid (hd.kept (Kept.of_below (w8_below w) (fun _ => False)) id)
  obtain ⟨d0, _⟩ := Blk.cell HD0.out (i := 0) (v := .iface 60 (.pointer (some ⟨S.rb, 0, none⟩))) rfl
  have HE := Lib.hid (he.below (w8_below w))
  have HLT := Lib.hid h.lt
  have HDL := Lib.hid (Blk.lt hd)
  have hmk := make8
  clear h hd he hh
  go_enter Tryz.func40, Tryz.ntmps40
  go_wp2_with fail
  refine hcall.mono ?_
  rintro e w1 ⟨s, rfl, hr, ⟨cur1, hcur1⟩, hk⟩
  have hE1 := HE.out.kept hk (fun b hb => by have := HLT.out; omega)
  have hcall2 := rmp_reader S w.heap.size cur1 w1 r le hr hcur1 HLT.out hE1 h13
  obtain ⟨d1, _⟩ := Blk.cell (HD0.out.kept hk (by have := HDL.out; omega)) (i := 0) (v := .iface 60 (.pointer (some ⟨S.rb, 0, none⟩))) rfl
  have HK := Lib.hid hk
  clear hcall hk d0 hr hcur1 hE1
  rcases hs : (rMP le r) with _ | ⟨a, r2⟩
  · have HFail : Hid (By.as .mp (rMP le r) = none) := Lib.hid (by unfold By.as; rw [hs]; rfl)
    go_wp2_with fail
    refine hcall2.mono ?_
    intro e w2 hg
    obtain ⟨ad, hea, rfl, hk2⟩ := hg.none_of hs
    have HK2 := Lib.hid (kept_w8 (HK.out.same hk2))
    have HEA := Lib.hid hea
    clear hcall2 hg hea hk2 hs d1
    go_wp2_with fail
    go_ret3
    rw [HFail.out]
    exact ⟨ad, HEA.out, rfl, HK2.out⟩
  · have HS : Hid (By.as .mp (rMP le r) = some (.mp a, r2)) := Lib.hid (by unfold By.as; rw [hs]; rfl)
    go_wp2_with fail
    refine hcall2.mono ?_
    intro e w2 hg
    obtain ⟨u, H, rfl, hu, hH, hr2, hb2, hk2⟩ := hg.some_of hs
    have HK2 := Lib.hid (kept_w8 (HK.out.same hk2))
    have HU := Lib.hid hu
    have HH := Lib.hid (⟨has_w8 (hH.mono HK.out.size), hr2⟩ : Has w.heap.size H w2 ∧ _)
    clear hcall2 hg hk2 hs d1 hu hH hr2 hb2
    go_wp2_with fail
    go_ret3
    rw [HS.out]
    exact ⟨_, s, H, rfl, ⟨u, rfl, HU.out⟩, HH.out.1, HH.out.2, HK2.out⟩


set_option maxRecDepth 100000 in
set_option maxHeartbeats 1000000 in
theorem de_2 (f : Nat) (S : Src) (dk : Nat) (w : World) (l r : By.Bs) (le : Bool) (h : Rd S w l) (hd : Dec w dk S) (hdk : S.rb < dk) (he : Errs A w) (h13 : 13 ≤ S.rb) (hh : By.rHead l = some (le, 2, r)) :
    Calls Tryz.prog 40 #[.pointer (some ⟨dk, 0, none⟩)] w (GetsD A S (f + 1) (By.as .ln (By.rLine le r)) w) := by
  have hcall := rh_some S w.heap.size _ (W8 w) l r le 2 hh (h.below (w8_below w)) (w8_buf w) h.lt (he.below (w8_below w)) h13
  have HD0 := Lib.hid (hd.kept (Kept.of_below (w8_below w) (fun _ => False)) id)
  obtain ⟨d0, _⟩ := Blk.cell HD0.out (i := 0) (v := .iface 60 (.pointer (some ⟨S.rb, 0, none⟩))) rfl
  have HE := Lib.hid (he.below (w8_below w))
  have HLT := Lib.hid h.lt
  have HDL := Lib.hid (Blk.lt hd)
  have hmk := make8
  clear h hd he hh
  go_enter Tryz.func40, Tryz.ntmps40
  go_wp2_with fail
  refine hcall.mono ?_
  rintro e w1 ⟨s, rfl, hr, ⟨cur1, hcur1⟩, hk⟩
  have hE1 := HE.out.kept hk (fun b hb => by have := HLT.out; omega)
  have hcall2 := rls_reader S w.heap.size cur1 w1 r le hr hcur1 HLT.out hE1 h13
  obtain ⟨d1, _⟩ := Blk.cell (HD0.out.kept hk (by have := HDL.out; omega)) (i := 0) (v := .iface 60 (.pointer (some ⟨S.rb, 0, none⟩))) rfl
  have HK := Lib.hid hk
  clear hcall hk d0 hr hcur1 hE1
  rcases hs : (By.rLine le r) with _ | ⟨a, r2⟩
  · have HFail : Hid (By.as .ln (By.rLine le r) = none) := Lib.hid (by unfold By.as; rw [hs]; rfl)
    go_wp2_with fail
    refine hcall2.mono ?_
    intro e w2 hg
    obtain ⟨ad, hea, rfl, hk2⟩ := hg.none_of hs
    have HK2 := Lib.hid (kept_w8 (HK.out.same hk2))
    have HEA := Lib.hid hea
    clear hcall2 hg hea hk2 hs d1
    go_wp2_with fail
    go_ret3
    rw [HFail.out]
    exact ⟨ad, HEA.out, rfl, HK2.out⟩
  · have HS : Hid (By.as .ln (By.rLine le r) = some (.ln a, r2)) := Lib.hid (by unfold By.as; rw [hs]; rfl)
    go_wp2_with fail
    refine hcall2.mono ?_
    intro e w2 hg
    obtain ⟨u, H, rfl, hu, hH, hr2, hb2, hk2⟩ := hg.some_of hs
    have HK2 := Lib.hid (kept_w8 (HK.out.same hk2))
    have HU := Lib.hid hu
    have HH := Lib.hid (⟨has_w8 (hH.mono HK.out.size), hr2⟩ : Has w.heap.size H w2 ∧ _)
    clear hcall2 hg hk2 hs d1 hu hH hr2 hb2
    go_wp2_with fail
    go_ret3
    rw [HS.out]
    exact ⟨_, s, H, rfl, ⟨u, rfl, HU.out⟩, HH.out.1, HH.out.2, HK2.out⟩


set_option maxRecDepth 100000 in
set_option maxHeartbeats 1000000 in
theorem de_5 (f : Nat) (S : Src) (dk : Nat) (w : World) (l r : By.Bs) (le : Bool) (h : Rd S w l) (hd : Dec w dk S) (hdk : S.rb < dk) (he : Errs A w) (h13 : 13 ≤ S.rb) (hh : By.rHead l = some (le, 5, r)) :
    Calls Tryz.prog 40 #[.pointer (some ⟨dk, 0, none⟩)] w (GetsD A S (f + 1) (By.as .ml (rML le r)) w) := by
  have hcall := rh_some S w.heap.size _ (W8 w) l r le 5 hh (h.below (w8_below w)) (w8_buf w) h.lt (he.below (w8_below w)) h13
  have HD0 := Lib.hid (hd.kept (Kept.of_below (w8_below w) (fun _ => False)) id)
  obtain ⟨d0, _⟩ := Blk.cell HD0.out (i := 0) (v := .iface 60 (.pointer (some ⟨S.rb, 0, none⟩))) rfl
  have HE := Lib.hid (he.below (w8_below w))
  have HLT := Lib.hid h.lt
  have HDL := Lib.hid (Blk.lt hd)
  have hmk := make8
  clear h hd he hh
  go_enter Tryz.func40, Tryz.ntmps40
  go_wp2_with fail
  refine hcall.mono ?_
  rintro e w1 ⟨s, rfl, hr, ⟨cur1, hcur1⟩, hk⟩
  have hE1 := HE.out.kept hk (fun b hb => by have := HLT.out; omega)
  have hcall2 := rml_reader S w.heap.size cur1 w1 r le hr hcur1 HLT.out hE1 h13
  obtain ⟨d1, _⟩ := Blk.cell (HD0.out.kept hk (by have := HDL.out; omega)) (i := 0) (v := .iface 60 (.pointer (some ⟨S.rb, 0, none⟩))) rfl
  have HK := Lib.hid hk
  clear hcall hk d0 hr hcur1 hE1
  rcases hs : (rML le r) with _ | ⟨a, r2⟩
  · have HFail : Hid (By.as .ml (rML le r) = none) := Lib.hid (by unfold By.as; rw [hs]; rfl)
    go_wp2_with fail
    refine hcall2.mono ?_
    intro e w2 hg
    obtain ⟨ad, hea, rfl, hk2⟩ := hg.none_of hs
    have HK2 := Lib.hid (kept_w8 (HK.out.same hk2))
    have HEA := Lib.hid hea
    clear hcall2 hg hea hk2 hs d1
    go_wp2_with fail
    go_ret3
    rw [HFail.out]
    exact ⟨ad, HEA.out, rfl, HK2.out⟩
  · have HS : Hid (By.as .ml (rML le r) = some (.ml a, r2)) := Lib.hid (by unfold By.as; rw [hs]; rfl)
    go_wp2_with fail
    refine hcall2.mono ?_
    intro e w2 hg
    obtain ⟨u, H, rfl, hu, hH, hr2, hb2, hk2⟩ := hg.some_of hs
    have HK2 := Lib.hid (kept_w8 (HK.out.same hk2))
    have HU := Lib.hid hu
    have HH := Lib.hid (⟨has_w8 (hH.mono HK.out.size), hr2⟩ : Has w.heap.size H w2 ∧ _)
    clear hcall2 hg hk2 hs d1 hu hH hr2 hb2
    go_wp2_with fail
    go_ret3
    rw [HS.out]
    exact ⟨_, s, H, rfl, ⟨u, rfl, HU.out⟩, HH.out.1, HH.out.2, HK2.out⟩


set_option maxRecDepth 100000 in
set_option maxHeartbeats 1000000 in
theorem de_3 (f : Nat) (S : Src) (dk : Nat) (w : World) (l r : By.Bs) (le : Bool) (h : Rd S w l) (hd : Dec w dk S) (hdk : S.rb < dk) (he : Errs A w) (h13 : 13 ≤ S.rb) (hh : By.rHead l = some (le, 3, r)) :
    Calls Tryz.prog 40 #[.pointer (some ⟨dk, 0, none⟩)] w (GetsD A S (f + 1) (By.as .pg (By.rPoly le r)) w) := by
  have hcall := rh_some S w.heap.size _ (W8 w) l r le 3 hh (h.below (w8_below w)) (w8_buf w) h.lt (he.below (w8_below w)) h13
  have HD0 := Lib.hid (hd.kept (Kept.of_below (w8_below w) (fun _ => False)) id)
  obtain ⟨d0, _⟩ := Blk.cell HD0.out (i := 0) (v := .iface 60 (.pointer (some ⟨S.rb, 0, none⟩))) rfl
  have HE := Lib.hid (he.below (w8_below w))
  have HLT := Lib.hid h.lt
  have HDL := Lib.hid (Blk.lt hd)
  have hmk := make8
  clear h hd he hh
  go_enter Tryz.func40, Tryz.ntmps40
  go_wp2_with fail
  refine hcall.mono ?_
  rintro e w1 ⟨s, rfl, hr, ⟨cur1, hcur1⟩, hk⟩
  have hE1 := HE.out.kept hk (fun b hb => by have := HLT.out; omega)
  have hcall2 := rpl_reader S w.heap.size cur1 w1 r le hr hcur1 HLT.out hE1 h13
  obtain ⟨d1, _⟩ := Blk.cell (HD0.out.kept hk (by have := HDL.out; omega)) (i := 0) (v := .iface 60 (.pointer (some ⟨S.rb, 0, none⟩))) rfl
  have HK := Lib.hid hk
  clear hcall hk d0 hr hcur1 hE1
  rcases hs : (By.rPoly le r) with _ | ⟨a, r2⟩
  · have HFail : Hid (By.as .pg (By.rPoly le r) = none) := Lib.hid (by unfold By.as; rw [hs]; rfl)
    go_wp2_with fail
    refine hcall2.mono ?_
    intro e w2 hg
    obtain ⟨ad, hea, rfl, hk2⟩ := hg.none_of hs
    have HK2 := Lib.hid (kept_w8 (HK.out.same hk2))
    have HEA := Lib.hid hea
    clear hcall2 hg hea hk2 hs d1
    go_wp2_with fail
    go_ret3
    rw [HFail.out]
    exact ⟨ad, HEA.out, rfl, HK2.out⟩
  · have HS : Hid (By.as .pg (By.rPoly le r) = some (.pg a, r2)) := Lib.hid (by unfold By.as; rw [hs]; rfl)
    go_wp2_with fail
    refine hcall2.mono ?_
    intro e w2 hg
    obtain ⟨u, H, rfl, hu, hH, hr2, hb2, hk2⟩ := hg.some_of hs
    have HK2 := Lib.hid (kept_w8 (HK.out.same hk2))
    have HU := Lib.hid hu
    have HH := Lib.hid (⟨has_w8 (hH.mono HK.out.size), hr2⟩ : Has w.heap.size H w2 ∧ _)
    clear hcall2 hg hk2 hs d1 hu hH hr2 hb2
    go_wp2_with fail
    go_ret3
    rw [HS.out]
    exact ⟨_, s, H, rfl, ⟨u, rfl, HU.out⟩, HH.out.1, HH.out.2, HK2.out⟩


set_option maxRecDepth 100000 in
set_option maxHeartbeats 1000000 in
theorem de_6 (f : Nat) (S : Src) (dk : Nat) (w : World) (l r : By.Bs) (le : Bool) (h : Rd S w l) (hd : Dec w dk S) (hdk : S.rb < dk) (he : Errs A w) (h13 : 13 ≤ S.rb) (hh : By.rHead l = some (le, 6, r)) :
    Calls Tryz.prog 40 #[.pointer (some ⟨dk, 0, none⟩)] w (GetsD A S (f + 1) (By.as .mg (rMG le r)) w) := by
  have hcall := rh_some S w.heap.size _ (W8 w) l r le 6 hh (h.below (w8_below w)) (w8_buf w) h.lt (he.below (w8_below w)) h13
  have HD0 := Lib.hid (hd.kept (Kept.of_below (w8_below w) (fun _ => False)) id)
  obtain ⟨d0, _⟩ := Blk.cell HD0.out (i := 0) (v := .iface 60 (.pointer (some ⟨S.rb, 0, none⟩))) rfl
  have HE := Lib.hid (he.below (w8_below w))
  have HLT := Lib.hid h.lt
  have HDL := Lib.hid (Blk.lt hd)
  have hmk := make8
  clear h hd he hh
  go_enter Tryz.func40, Tryz.ntmps40
  go_wp2_with fail
  refine hcall.mono ?_
  rintro e w1 ⟨s, rfl, hr, ⟨cur1, hcur1⟩, hk⟩
  have hE1 := HE.out.kept hk (fun b hb => by have := HLT.out; omega)
  have hcall2 := rmg_reader S w.heap.size cur1 w1 r le hr hcur1 HLT.out hE1 h13
  obtain ⟨d1, _⟩ := Blk.cell (HD0.out.kept hk (by have := HDL.out; omega)) (i := 0) (v := .iface 60 (.pointer (some ⟨S.rb, 0, none⟩))) rfl
  have HK := Lib.hid hk
  clear hcall hk d0 hr hcur1 hE1
  rcases hs : (rMG le r) with _ | ⟨a, r2⟩
  · have HFail : Hid (By.as .mg (rMG le r) = none) := Lib.hid (by unfold By.as; rw [hs]; rfl)
    go_wp2_with fail
    refine hcall2.mono ?_
    intro e w2 hg
    obtain ⟨ad, hea, rfl, hk2⟩ := hg.none_of hs
    have HK2 := Lib.hid (kept_w8 (HK.out.same hk2))
    have HEA := Lib.hid hea
    clear hcall2 hg hea hk2 hs d1
    go_wp2_with fail
    go_ret3
    rw [HFail.out]
    exact ⟨ad, HEA.out, rfl, HK2.out⟩
  · have HS : Hid (By.as .mg (rMG le r) = some (.mg a, r2)) := Lib.hid (by unfold By.as; rw [hs]; rfl)
    go_wp2_with fail
    refine hcall2.mono ?_
    intro e w2 hg
    obtain ⟨u, H, rfl, hu, hH, hr2, hb2, hk2⟩ := hg.some_of hs
    have HK2 := Lib.hid (kept_w8 (HK.out.same hk2))
    have HU := Lib.hid hu
    have HH := Lib.hid (⟨has_w8 (hH.mono HK.out.size), hr2⟩ : Has w.heap.size H w2 ∧ _)
    clear hcall2 hg hk2 hs d1 hu hH hr2 hb2
    go_wp2_with fail
    go_ret3
    rw [HS.out]
    exact ⟨_, s, H, rfl, ⟨u, rfl, HU.out⟩, HH.out.1, HH.out.2, HK2.out⟩


set_option maxRecDepth 100000 in
set_option maxHeartbeats 1000000 in
theorem de_7 (f : Nat) (S : Src) (dk : Nat) (w : World) (l r : By.Bs) (le : Bool) (h : Rd S w l) (hd : Dec w dk S) (hdk : S.rb < dk) (he : Errs A w) (h13 : 13 ≤ S.rb) (hh : By.rHead l = some (le, 7, r)) (ih : Decodes A f) (hf : r.length ≤ f + 4) :
    Calls Tryz.prog 40 #[.pointer (some ⟨dk, 0, none⟩)] w (GetsD A S (f + 1) (By.as .co (By.row le (By.rG f) r)) w) := by
  have hcall := rh_some S w.heap.size _ (W8 w) l r le 7 hh (h.below (w8_below w)) (w8_buf w) h.lt (he.below (w8_below w)) h13
  have HD0 := Lib.hid (hd.kept (Kept.of_below (w8_below w) (fun _ => False)) id)
  obtain ⟨d0, _⟩ := Blk.cell HD0.out (i := 0) (v := .iface 60 (.pointer (some ⟨S.rb, 0, none⟩))) rfl
  have HE := Lib.hid (he.below (w8_below w))
  have HLT := Lib.hid h.lt
  have HDL := Lib.hid (Blk.lt hd)
  have IH := Lib.hid ih
  have hmk := make8
  clear h hd he hh ih
  go_enter Tryz.func40, Tryz.ntmps40
  go_wp2_with fail
  refine hcall.mono ?_
  rintro e w1 ⟨s, rfl, hr, ⟨cur1, hcur1⟩, hk⟩
  have hE1 := HE.out.kept hk (fun b hb => by have := HLT.out; omega)
  have hcall2 := rco_any f IH.out S w.heap.size cur1 w1 r le hr hcur1 HLT.out hE1 h13 hf
  obtain ⟨d1, _⟩ := Blk.cell (HD0.out.kept hk (by have := HDL.out; omega)) (i := 0) (v := .iface 60 (.pointer (some ⟨S.rb, 0, none⟩))) rfl
  have HK := Lib.hid hk
  clear hcall hk d0 hr hcur1 hE1
  rcases hs : (By.row le (By.rG f) r) with _ | ⟨a, r2⟩
  · have HFail : Hid (By.as .co (By.row le (By.rG f) r) = none) := Lib.hid (by unfold By.as; rw [hs]; rfl)
    go_wp2_with fail
    refine hcall2.mono ?_
    intro e w2 hg
    obtain ⟨ad, hea, rfl, hk2⟩ := hg.none_of hs
    have HK2 := Lib.hid (kept_w8 (HK.out.same hk2))
    have HEA := Lib.hid hea
    clear hcall2 hg hea hk2 hs d1
    go_wp2_with fail
    go_ret3
    rw [HFail.out]
    exact ⟨ad, HEA.out, rfl, HK2.out⟩
  · have HS : Hid (By.as .co (By.row le (By.rG f) r) = some (.co a, r2)) := Lib.hid (by unfold By.as; rw [hs]; rfl)
    go_wp2_with fail
    refine hcall2.mono ?_
    intro e w2 hg
    obtain ⟨u, H, rfl, hu, hH, hr2, hb2, hk2⟩ := hg.some_of hs
    have HK2 := Lib.hid (kept_w8 (HK.out.same hk2))
    have HU := Lib.hid hu
    have HH := Lib.hid (⟨has_w8 (hH.mono HK.out.size), hr2⟩ : Has w.heap.size H w2 ∧ _)
    clear hcall2 hg hk2 hs d1 hu hH hr2 hb2
    go_wp2_with fail
    go_ret3
    rw [HS.out]
    exact ⟨_, s, H, rfl, ⟨u, rfl, HU.out⟩, HH.out.1, HH.out.2, HK2.out⟩


theorem decodes_all : ∀ f, Decodes A f
  | 0 => fun S dk w l h hd hdk he h13 hf => by
    obtain rfl : l = [] := List.eq_nil_of_length_eq_zero (by omega)
    exact de_fail 0 S dk w [] h hd hdk he h13 rfl
  | f + 1 => fun S dk w l h hd hdk he h13 hf => by
    rcases hh : By.rHead l with _ | ⟨le, kk, r⟩
    · have e : By.rG (f + 1) l = none := by simp only [By.rG, hh]
      rw [e]
      exact de_fail (f + 1) S dk w l h hd hdk he h13 hh
    · by_cases h1 : kk = 1
      · subst h1
        have e : By.rG (f + 1) l = By.as .pt (By.rPoint le r) := by simp only [By.rG, hh, if_true]
        rw [e]; exact de_1 f S dk w l r le h hd hdk he h13 hh
      by_cases h4 : kk = 4
      · subst h4
        have e : By.rG (f + 1) l = By.as .mp (rMP le r) := by simp only [By.rG, hh]; rfl
        rw [e]; exact de_4 f S dk w l r le h hd hdk he h13 hh
      by_cases h2 : kk = 2
      · subst h2
        have e : By.rG (f + 1) l = By.as .ln (By.rLine le r) := by simp only [By.rG, hh]; rfl
        rw [e]; exact de_2 f S dk w l r le h hd hdk he h13 hh
      by_cases h5 : kk = 5
      · subst h5
        have e : By.rG (f + 1) l = By.as .ml (rML le r) := by simp only [By.rG, hh]; rfl
        rw [e]; exact de_5 f S dk w l r le h hd hdk he h13 hh
      by_cases h3 : kk = 3
      · subst h3
        have e : By.rG (f + 1) l = By.as .pg (By.rPoly le r) := by simp only [By.rG, hh]; rfl
        rw [e]; exact de_3 f S dk w l r le h hd hdk he h13 hh
      by_cases h6 : kk = 6
      · subst h6
        have e : By.rG (f + 1) l = By.as .mg (rMG le r) := by simp only [By.rG, hh]; rfl
        rw [e]; exact de_6 f S dk w l r le h hd hdk he h13 hh
      by_cases h7 : kk = 7
      · subst h7
        have e : By.rG (f + 1) l = By.as .co (By.row le (By.rG f) r) := by simp only [By.rG, hh]; rfl
        have hl5 := By.rHead_some hh
        simp only at hl5
        rw [e]; exact de_7 f S dk w l r le h hd hdk he h13 hh (decodes_all f) (by omega)
      have e : By.rG (f + 1) l = none := by simp only [By.rG, hh, if_neg h1, if_neg h4, if_neg h2, if_neg h5, if_neg h3, if_neg h6, if_neg h7]
      rw [e]
      exact de_else (f + 1) S dk w l r le kk h hd hdk he h13 hh h1 h2 h3 h4 h5 h6 h7

end Go.Proofs.YtjbjjphgnilhmaaGreatDoor
