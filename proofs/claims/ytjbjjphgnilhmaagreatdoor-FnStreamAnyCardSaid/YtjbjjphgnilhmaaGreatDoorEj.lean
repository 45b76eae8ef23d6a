/- The walk of impl.DecodeAll. -/
import Derived.Test.YtjbjjphgnilhmaaGreatDoorBz
set_option linter.unusedVariables false
set_option linter.unusedSimpArgs false
namespace Go.Proofs.YtjbjjphgnilhmaaGreatDoor
open Go.RowKit
variable {A : Addr → Prop}

/-- Shapes that a stream reads one behind the other, and what is left. -/
def Reads (f : Nat) : List By.G → By.Bs → By.Bs → Prop
  | [], a, b => a = b
  | g :: gs, a, b => ∃ r, By.rG f a = some (g, r) ∧ Reads f gs r b
theorem Reads.snoc {f : Nat} : ∀ {gs : List By.G} {a b c : By.Bs} {g : By.G}, Reads f gs a b → By.rG f b = some (g, c) → Reads f (gs ++ [g]) a c
  | [], a, b, c, g, h, h2 => by
    have h : a = b := h
    subst h; exact ⟨c, h2, rfl⟩
  | x :: gs, a, b, c, g, ⟨r, h1, h⟩, h2 => ⟨r, h1, Reads.snoc h h2⟩
theorem Rowed.apartBlk {α : Type} {z : Prop} {r : Rep α} {base : Nat} {E T : TypeId} {w : World} {v : Value} {ls : List α} {b : Nat} {cs : Array Value} (h : Rowed z r base E w v ls) (hb : Blk w b cs T) (hne : E ≠ T) : v.ownBlock ≠ some b := by
  intro e
  obtain ⟨uss, H, ho, _⟩ := h
  rcases ho.2 with ⟨rfl, hn⟩ | ⟨g, cap, cur, rfl, _, hg, _⟩
  · simp [Value.ownBlock] at e
  · simp only [Value.ownBlock, Option.some.injEq] at e
    subst e
    unfold Blk at hb
    rw [hb] at hg
    simp only [Option.some.injEq, Obj.cells.injEq] at hg
    exact hne hg.2.1.symm
theorem WDec.kept {w w' : World} {dw dk : Nat} {S : Src} {X : Nat → Prop} (h : WDec w dw dk S) (hk : Kept X w w') (h1 : ¬ X dw) (h2 : ¬ X dk) : WDec w' dw dk S :=
  ⟨(hk.block dw h.1.lt h1).trans h.1, h.2.kept hk h2⟩
def sliceLen : Value → Nat
  | .slice _ n _ => n
  | _ => 0
set_option maxRecDepth 100000 in
set_option maxHeartbeats 1000000 in
theorem all_any (f n c m : Nat) (ao0 : Option Addr) (l lend : By.Bs) (gs : List By.G) (w : World) (he : EK A w) (hl : l.length = n) (hc : n ≤ c) (h31 : n ≤ 2147483647) (hx : n = 0 ∨ ∃ b off, ao0 = some ⟨b, off, none⟩ ∧ b < w.heap.size ∧ BytesAt w b off l) (hf : n ≤ f) (hm : m = gs.length + 1) (hgs : gs.length ≤ n)
    (hreads : Reads f gs l lend) (hlast : By.rG f lend = none) :
    Calls Tryz.prog 10 #[.slice ao0 n c, .int .i64 m] w fun e w' => ∃ v, e = .returned v ∧ Rowed True (repS (f + 1)) w.heap.size 26 w' v (gs.map shG) ∧ Below w.heap.size w w' := by
  obtain ⟨i0, hi, hz0, hz1, hz2⟩ := info_parts info26
  have HI := Lib.hid (⟨hi, hz0, hz1, hz2⟩ : _ ∧ _ ∧ _ ∧ _)
  have h13 : 13 ≤ w.heap.size := he.errs.lt
  have hRB : ∀ a, A a → a.block ≠ w.heap.size := fun a ha => by
    obtain ⟨cc, hcc⟩ := he.known a ha
    have := (Array.getElem?_eq_some_iff.1 hcc).1
    omega
  have HM := Lib.hid (⟨hm, hgs⟩ : _ ∧ _)
  have HE := Lib.hid he
  have HX := Lib.hid (⟨hl, hc, h31, hx⟩ : _ ∧ _ ∧ _ ∧ _)
  have HG := Lib.hid (⟨hreads, hlast, hRB, hf, h13⟩ : _ ∧ _ ∧ _ ∧ _ ∧ _)
  clear he hm hgs hl hc hx hreads hlast hRB hi hz0 hz1 hz2 hf h13
  go_enter Tryz.func10, Tryz.ntmps10
  go_wp2_with fail
  refine (newReader ao0 n c w).mono ?_
  rintro e w1 ⟨rfl, hB1, hb1⟩
  have hR1 : Rd ⟨w.heap.size, n, c, ao0, l⟩ w1 l := reader_start (w := w) HX.out.1 HX.out.2.1 HX.out.2.2.1 HX.out.2.2.2 hB1 hb1
  have HR1 := Lib.hid hR1
  have HB1 := Lib.hid hb1
  clear hB1 hb1 hR1
  go_wp2_with fail
  obtain ⟨S, hS⟩ : ∃ S : Src, S = ⟨w.heap.size, n, c, ao0, l⟩ := ⟨_, rfl⟩
  have hSr : S.rb = w.heap.size := by rw [hS]
  rw [← hS] at HR1
  have hcall := newWDec S w1
  rw [hSr] at hcall
  refine hcall.mono ?_
  rintro e w2 ⟨dw, dk, rfl, hdw, hdk, hD2, hb2⟩
  have HR2 := Lib.hid (HR1.out.below hb2)
  have HB2 := Lib.hid (HB1.out.trans (hb2.mono HB1.out.size))
  have hdk2 : S.rb < dk := by have := HR1.out.lt; omega
  have hdw2 : S.rb < dw := by have := HR1.out.lt; omega
  have HD2 := Lib.hid hD2
  have HRow := Lib.hid (Rowed.made (r := repS (f + 1)) (E := 26) (base := w.heap.size + 1) w2 #[] 0 (by have := HR2.out.lt; omega) (Nat.zero_le _) rfl True)
  have hb3 : Below w2.heap.size w2 (w2.alloc (.cells #[] 26)) := (Below.refl _ _).alloc (Nat.le_refl _) _
  have HR3 := Lib.hid (HR2.out.below hb3)
  have HB3 := Lib.hid (HB2.out.trans (hb3.mono HB2.out.size))
  have HD3 : Hid (WDec (w2.alloc (.cells #[] 26)) dw dk S) := Lib.hid ⟨HD2.out.1.below hb3 HD2.out.1.lt, HD2.out.2.kept (Kept.of_below hb3 (fun _ => False)) id⟩
  clear hcall hD2 hb2 HR1 HB1 hb3
  go_wp2_with fail
  go_loopw [6] (fun v wr => ∃ (j : Nat) (l' : By.Bs), j ≤ gs.length ∧ Hid (Reads f (gs.drop j) l' lend) ∧ l'.length ≤ n ∧ Rowed True (repS (f + 1)) (w.heap.size + 1) 26 wr v ((gs.take j).map shG) ∧ Hid (Rd S wr l') ∧ Hid (WDec wr dw dk S) ∧ Hid (Below w.heap.size w wr)) (fun v _ => m - sliceLen v)
  case atStart => exact ⟨0, l, Nat.zero_le _, Lib.hid HG.out.1, by have := HX.out.1; omega, HRow.out, HR3, HD3, HB3⟩
  case round =>
    clear HRow HR2 HB2 HD2 HR3 HB3 HD3
    obtain ⟨j, l', hj, HRE, hl', hR, HR, HD, HB⟩ := hrel
    have htl : (((gs.take j).map shG)).length = j := by rw [List.length_map, List.length_take]; omega
    obtain ⟨ao, uc, huf, _⟩ := hR.form
    rw [htl] at huf
    subst huf
    have hjm : (j : Int) < m := by have := HM.out.1; omega
    have hsz := HB.out.size
    have HEr := Lib.hid (HE.out.below HB.out)
    have hcall := wdec_any (A := A) f S dw dk wr l' HR.out HD.out hdk2 HEr.out (by rw [hSr]; exact HG.out.2.2.2.2) (by rw [hSr]; exact HG.out.2.2.1) (by have := HG.out.2.2.2.1; omega)
    have HRR := Lib.hid hR
    have HTL := Lib.hid htl
    clear hR htl
    by_cases hlt : j < gs.length
    · have hd : gs.drop j = gs[j] :: gs.drop (j + 1) := (List.getElem_cons_drop hlt).symm
      have hre := HRE.out
      rw [hd] at hre
      obtain ⟨r, hr1, hr2⟩ := hre
      obtain ⟨g, hg⟩ : ∃ g, g = gs[j] := ⟨_, rfl⟩
      have hgj : gs[j]? = some g := by rw [hg]; exact List.getElem?_eq_getElem hlt
      rw [← hg] at hr1
      rw [hr1] at hcall
      have hfit := By.rG_fits f l' g r hr1
      have HGJ := Lib.hid hgj
      have HR2' := Lib.hid hr2
      have HFIT := Lib.hid hfit
      clear hd hg hgj hr1 hr2 hfit
      go_wp2_with fail
      refine hcall.mono ?_
      rintro e w4 ⟨u, K, rfl, hu, hK, hrd, hk4⟩
      obtain ⟨T, x, rfl⟩ := hu.iface
      have hcall2 := so_any f (.iface T x) g K wr.heap.size w4 hu hK (by have := HFIT.out.2; omega)
      have HK4 := Lib.hid hk4
      have HRD := Lib.hid hrd
      clear hcall hu hK hrd hk4
      go_wp2_with fail
      refine hcall2.mono ?_
      rintro e w5 ⟨us5, K5, rfl, hI5, hK5, hb5⟩
      obtain ⟨k3, ao3, n3, c3, bo3, m3, d3, rfl⟩ := hI5.form
      have hR5 := (HRR.out.kept HK4.out (fun k hk => by rw [hk, hSr]; omega)).below hb5
      have HRL := Lib.hid HRR.out.lt
      have hsz4 := HK4.out.size
      have hsz5 := hb5.size
      have HF5 := Lib.hid (⟨hI5, hK5, hb5⟩ : _ ∧ _ ∧ _)
      have hlt2 := HRD.out.lt
      clear hcall2 hI5 hK5 hb5
      go_wp2_with (at_builtin; refine wpList_append_rowed (r := repS (f + 1)) rfl _ _ 24 rfl (lo := w4.heap.size) 26 26 i0 (.agg #[.int .i64 0, .slice none 0 0, .slice none 0 0]) 56 Tryz.underlying24 HI.out.1 HI.out.2.1 HI.out.2.2.1 HI.out.2.2.2 rfl (Nat.succ_pos _) _ _ rfl hR5 [.int .i64 k3, .slice ao3 n3 c3, .slice bo3 m3 d3] (shG g) K5 HF5.out.2.1 HF5.out.1 ?c4 ?c1 #[.int .i64 k3, .slice ao3 n3 c3, .slice bo3 m3 d3] rfl _ rfl ?c6 ?c2 ?c3 ?c5 ?_)
      case c4 => omega
      case c1 => exact fun k hk => by have := (HRL.out k hk).2; omega
      case c2 => rw [HTL.out]; unfold maxLen; have := HM.out.2; omega
      case c3 => rw [HTL.out]; have := HM.out.2; omega
      case c5 => omega
      case c6 => rfl
      intro v2 w6 hR6 hg6
      have e6 : (gs.take j).map shG ++ [shG g] = (gs.take (j + 1)).map shG := by rw [List.take_succ_of HGJ.out, List.map_append]; rfl
      have e7 : List.take j (List.map shG gs) ++ [shG g] = (gs.take (j + 1)).map shG := by rw [← List.map_take]; exact e6
      rw [e7] at hR6
      clear e6 e7
      have kb : Kept (fun b => b = S.rb) wr w5 := HK4.out.below HF5.out.2.2
      have hD5 := WDec.kept HD.out kb (by omega) (by omega)
      have hRd5 := HRD.out.below HF5.out.2.2
      have kg : Kept (fun b => (Value.slice ao j uc).ownBlock = some b) w5 w6 := (Kept.refl (fun b => (Value.slice ao j uc).ownBlock = some b) w5).grown hg6 (fun k hk => .inr hk)
      have hB6 : Below w.heap.size w w6 := (HB.out.trans (kb.to_below (fun k hk => by rw [hk, hSr]; exact Nat.le_refl _) hsz)).trans (kg.to_below (fun k hk => by have := (HRL.out k hk).1; omega) (by omega))
      have HZ := Lib.hid (⟨hRd5.kept kg (fun k hk => by have := (HRL.out k hk).1; omega), WDec.kept hD5 kg (hR5.apartBlk hD5.1 (by decide)) (hR5.apartBlk hD5.2 (by decide)), hB6⟩ : Rd S w6 r ∧ WDec w6 dw dk S ∧ Below w.heap.size w w6)
      obtain ⟨ao6, cap6, hv6, _⟩ := hR6.form
      have htl6 : (((gs.take (j + 1)).map shG)).length = j + 1 := by rw [List.length_map, List.length_take]; omega
      rw [htl6] at hv6
      subst hv6
      have hrl : r.length ≤ n := by have := HFIT.out.2; omega
      clear hg6 kb hD5 hRd5 kg hB6 hR5
      go_wp2_with fail
      go_roundw
      case rel => exact ⟨j + 1, r, by omega, HR2', hrl, hR6, Lib.hid HZ.out.1, Lib.hid HZ.out.2.1, Lib.hid HZ.out.2.2⟩
      case measure => simp [sliceLen]; have := HM.out.1; omega
    · have hjn : j = gs.length := by omega
      have hre := HRE.out
      rw [hjn, List.drop_length] at hre
      have hre : l' = lend := hre
      rw [hre, HG.out.2.1] at hcall
      have HJ := Lib.hid hjn
      clear hlt hre hjn
      go_wp2_with fail
      refine hcall.mono ?_
      rintro e w4 ⟨a, rfl, hk4⟩
      have hR4 := HRR.out.kept hk4 (fun k hk => by rw [hk, hSr]; omega)
      have hB4 : Below w.heap.size w w4 := HB.out.trans (hk4.to_below (fun k hk => by rw [hk, hSr]; exact Nat.le_refl _) hsz)
      have HZ := Lib.hid (⟨hR4, hB4⟩ : _ ∧ _)
      clear hcall hk4 hR4 hB4
      go_wp2_with fail
      go_ret
      refine ⟨_, rfl, ?_, HZ.out.2⟩
      have := HZ.out.1.mono (Nat.le_succ w.heap.size)
      rw [HJ.out, List.take_length] at this
      rw [← HJ.out] at this
      exact this
end Go.Proofs.YtjbjjphgnilhmaaGreatDoor
