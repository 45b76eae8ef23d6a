/- The walks of ScanPoint, ScanLineString, ScanPolygon. -/
import Derived.Test.YtjbjjphgnilhmaaGreatDoorBv
set_option linter.unusedVariables false
namespace Go.Proofs.YtjbjjphgnilhmaaGreatDoor
open Go.RowKit
variable {A : Addr → Prop}

theorem below_un {w w' : World} {q : Nat} (h : Below (w.drewN q).heap.size (w.drewN q) w') : Below w.heap.size w w' := ⟨h.os, h.tape, h.output, h.size, h.block⟩
theorem Many.none_of {α : Type} {r : Rep α} {E : TypeId} {o : Option (List α)} {w w' : World} {e : Ending} (h : Many A r E o w e w') (ho : o = none) : ∃ a : {a // A a}, e = .returned (.tuple #[.slice none 0 0, .iface 203 (.pointer (some a))]) ∧ Below w.heap.size w w' := by
  subst ho
  obtain ⟨err, ⟨a, rfl⟩, h1, h2⟩ := h
  exact ⟨a, h1, h2⟩
theorem Many.some_of {α : Type} {r : Rep α} {E : TypeId} {o : Option (List α)} {w w' : World} {e : Ending} {ls : List α} (h : Many A r E o w e w') (ho : o = some ls) : ∃ v, e = .returned (.tuple #[v, .nilIface]) ∧ Rowed False r w.heap.size E w' v ls ∧ Below w.heap.size w w' := by
  subst ho
  exact h
theorem uls_any (le : Bool) (b off n c : Nat) (l : By.Bs) (w : World) (he : Errs A w) (hl : l.length = n) (hc : n ≤ c) (h31 : n ≤ 2147483647) (hx : BytesAt w b off l) :
    Calls Tryz.prog 44 #[.int .i64 (ordI le), .slice (some ⟨b, off, none⟩) n c] w (Many A repPt 68 (By.uPoints le l) w) := by
  rcases hs : By.uPoints le l with _ | ps
  · exact uls_none le b off n c l w hs he hl hc h31 hx
  · exact uls_some le b off n c l ps w hs hl hc h31 hx

theorem ump_any (f : Nat) (hsc : Scanner A 70 (.agg #[.float .f64 0, .float .f64 0]) ptIs (By.sPoint f) f) (le : Bool) (b off n c : Nat) (l : By.Bs) (w : World) (he : Errs A w) (hl : l.length = n) (hc : n ≤ c) (h31 : n ≤ 2147483647) (hf : n ≤ f + 4) (hx : BytesAt w b off l) :
    Calls Tryz.prog 43 #[.int .i64 (ordI le), .slice (some ⟨b, off, none⟩) n c] w (Many A repPt 68 (By.uRow le (By.sPoint f) (fun _ => 21) l) w) := by
  by_cases hn : 4 ≤ n
  · exact ump_long f hsc le b off n c l w he hl hn hc h31 hf hx
  · rw [By.uRow_short (by omega)]
    exact ump_short _ n c w he (by omega) _

theorem uml_any (f : Nat) (hsc : Scanner A 72 (.slice none 0 0) (rowIs repPt 68) (By.sLine f) f) (le : Bool) (b off n c : Nat) (l : By.Bs) (w : World) (he : Errs A w) (hl : l.length = n) (hc : n ≤ c) (h31 : n ≤ 2147483647) (hf : n ≤ f + 4) (hx : BytesAt w b off l) :
    Calls Tryz.prog 45 #[.int .i64 (ordI le), .slice (some ⟨b, off, none⟩) n c] w (Many A (repRow repPt 68) 72 (By.uRow le (By.sLine f) (fun l => 16 * l.length + 9) l) w) := by
  by_cases hn : 4 ≤ n
  · exact uml_long f hsc le b off n c l w he hl hn hc h31 hf hx
  · rw [By.uRow_short (by omega)]
    exact uml_short _ n c w he (by omega) _

theorem upg_any (le : Bool) (b off n c : Nat) (l : By.Bs) (w : World) (he : Errs A w) (hl : l.length = n) (hc : n ≤ c) (h31 : n ≤ 2147483647) (hx : BytesAt w b off l) :
    Calls Tryz.prog 46 #[.int .i64 (ordI le), .slice (some ⟨b, off, none⟩) n c] w (Many A (repRow repPt 68) 127 (By.uRow le (By.uPoints le) (fun l => 16 * l.length + 4) l) w) := by
  by_cases hn : 4 ≤ n
  · exact upg_long le b off n c l w he hl hn hc h31 hx
  · rw [By.uRow_short (by omega)]
    exact upg_short _ n c w he (by omega) _

theorem umg_any (f : Nat) (hsc : Scanner A 73 (.slice none 0 0) (rowIs (repRow repPt 68) 127) (By.sPoly f) f) (le : Bool) (b off n c : Nat) (l : By.Bs) (w : World) (he : Errs A w) (hl : l.length = n) (hc : n ≤ c) (h31 : n ≤ 2147483647) (hf : n ≤ f + 4) (hx : BytesAt w b off l) :
    Calls Tryz.prog 47 #[.int .i64 (ordI le), .slice (some ⟨b, off, none⟩) n c] w (Many A (repRow (repRow repPt 68) 127) 75 (By.uRow le (By.sPoly f) (fun l => 9 + By.ringsSize l) l) w) := by
  by_cases hn : 4 ≤ n
  · exact umg_long f hsc le b off n c l w he hl hn hc h31 hf hx
  · rw [By.uRow_short (by omega)]
    exact umg_short _ n c w he (by omega) _


theorem sln_nohead (b off n c : Nat) (l : By.Bs) (w : World) (he : Errs A w) (hl : l.length = n) (hc : n ≤ c) (hx : BytesAt w b off l) (hu : By.uHead l = none) :
    Calls Tryz.prog 72 #[.slice (some ⟨b, off, none⟩) n c] w (One A (.slice none 0 0) (rowIs repPt 68) none w) := by
  have hcall := ubot_none b off n c l w hu he hl hc hx
  clear he hl hc hx hu
  go_enter Tryz.func72, Tryz.ntmps72
  go_wp2_with fail
  refine hcall.mono ?_
  rintro e w1 ⟨err, ⟨a, rfl⟩, rfl, q, rfl⟩
  clear hcall
  go_wp2_with fail
  go_ret3
  exact ⟨_, _, ⟨a, rfl⟩, rfl, below_drewN (Below.refl _ _) _⟩
set_option maxRecDepth 100000 in
theorem sln_one (b off n c : Nat) (l d : By.Bs) (le : Bool) (w : World) (he : Errs A w) (hl : l.length = n) (hc : n ≤ c) (h31 : n ≤ 2147483647) (hx : BytesAt w b off l) (hu : By.uHead l = some (le, 2, d)) :
    Calls Tryz.prog 72 #[.slice (some ⟨b, off, none⟩) n c] w (One A (.slice none 0 0) (rowIs repPt 68) (By.uPoints le d) w) := by
  have hcall := ubot_some b off n c l d le 2 w hu hl hc hx
  have hdl := By.uHead_some hu
  simp only at hdl
  have HE := Lib.hid he
  have HL := Lib.hid (⟨hl, hc, h31, hdl⟩ : _ ∧ _ ∧ _ ∧ _)
  clear he hl hc h31 hdl hx hu
  go_enter Tryz.func72, Tryz.ntmps72
  go_wp2_with fail
  refine hcall.mono ?_
  rintro e w1 ⟨s, off', n', c', rfl, hl', hc', hx', q, rfl⟩
  have HX := Lib.hid (⟨hl', hc', bytes_drewN hx' q⟩ : _ ∧ _ ∧ _)
  clear hcall hl' hc' hx'
  have hcall2 := uls_any le b off' n' c' d (w.drewN q) (errs_drewN HE.out q) HX.out.1 HX.out.2.1 (by have := HX.out.1; have := HL.out; omega) HX.out.2.2
  clear HX HL
  go_wp2_with fail
  refine hcall2.mono ?_
  intro e w2 hm
  clear hcall2
  rcases hs : By.uPoints le d with _ | ls
  · obtain ⟨a, rfl, hb⟩ := hm.none_of hs
    have HB := Lib.hid (below_un hb)
    have HS := Lib.hid hs
    clear hm hb hs
    go_wp2_with fail
    go_ret3
    rw [HS.out]
    exact ⟨_, _, ⟨a, rfl⟩, rfl, HB.out⟩
  · obtain ⟨v, rfl, hR, hb⟩ := hm.some_of hs
    obtain ⟨K, hK, hI⟩ := hR.is
    have HB := Lib.hid (below_un hb)
    have HK := Lib.hid hK
    have HI := Lib.hid hI
    have HS := Lib.hid hs
    clear hm hb hs hR hK hI
    go_wp2_with fail
    go_ret3
    rw [HS.out]
    exact ⟨_, _, K, rfl, HI.out, HK.out, HB.out⟩
set_option maxRecDepth 100000 in
theorem sln_many (f : Nat) (hsc : Scanner A 72 (.slice none 0 0) (rowIs repPt 68) (By.sLine f) f) (b off n c : Nat) (l d : By.Bs) (le : Bool) (w : World) (he : Errs A w) (hl : l.length = n) (hc : n ≤ c) (h31 : n ≤ 2147483647) (hx : BytesAt w b off l) (hf : n ≤ f + 1) (hu : By.uHead l = some (le, 5, d)) :
    Calls Tryz.prog 72 #[.slice (some ⟨b, off, none⟩) n c] w (One A (.slice none 0 0) (rowIs repPt 68) (By.single (By.uRow le (By.sLine f) (fun l => 16 * l.length + 9) d)) w) := by
  have hcall := ubot_some b off n c l d le 5 w hu hl hc hx
  have hdl := By.uHead_some hu
  simp only at hdl
  have HE := Lib.hid he
  have HL := Lib.hid (⟨hl, hc, h31, hdl⟩ : _ ∧ _ ∧ _ ∧ _)
  clear he hl hc h31 hdl hx hu
  go_enter Tryz.func72, Tryz.ntmps72
  go_wp2_with fail
  refine hcall.mono ?_
  rintro e w1 ⟨s, off', n', c', rfl, hl', hc', hx', q, rfl⟩
  have HX := Lib.hid (⟨hl', hc', bytes_drewN hx' q⟩ : _ ∧ _ ∧ _)
  clear hcall hl' hc' hx'
  have hcall2 := uml_any f hsc le b off' n' c' d (w.drewN q) (errs_drewN HE.out q) HX.out.1 HX.out.2.1 (by have := HX.out.1; have := HL.out; omega) (by have := HX.out.1; have := HL.out; omega) HX.out.2.2
  clear HX HL hsc
  go_wp2_with fail
  refine hcall2.mono ?_
  intro e w2 hm
  clear hcall2
  rcases hs : By.uRow le (By.sLine f) (fun l => 16 * l.length + 9) d with _ | ls
  · obtain ⟨a, rfl, hb⟩ := hm.none_of hs
    have HB := Lib.hid (below_un hb)
    have HS := Lib.hid hs
    clear hm hb hs
    go_wp2_with fail
    go_ret3
    rw [HS.out]
    exact ⟨_, _, ⟨a, rfl⟩, rfl, HB.out⟩
  · obtain ⟨v, rfl, hR, hb⟩ := hm.some_of hs
    obtain ⟨K, hK, hI⟩ := hR.is
    have HB := Lib.hid (below_un hb)
    have HK := Lib.hid hK
    have HS := Lib.hid hs
    by_cases h1 : ls.length = 1
    · obtain ⟨a, rfl⟩ := List.length_eq_one_iff.1 h1
      obtain ⟨g, cap, rfl, _, _, _, hget⟩ := RowIs.get hI hK (by simp)
      obtain ⟨us, _, ⟨u, rfl, hr⟩, hcell⟩ := hget 0 a rfl
      have c0 : w2.cell? ⟨g, 0, none⟩ = some u := by simpa [repRow] using hcell 0 u rfl
      have HI := Lib.hid hr
      obtain ⟨g2, cap2, rfl, _⟩ := RowIs.form hr
      clear hm hb hs hR hK hI hget hcell h1 hr
      go_wp2_with fail
      go_ret3
      rw [HS.out]
      exact ⟨_, _, K, rfl, HI.out, HK.out, HB.out⟩
    · obtain ⟨g, cap, rfl, _⟩ := hR.formN
      obtain ⟨a8, h8⟩ := (HE.out.below HB.out) 8 (by omega) (by omega)
      have hne : ((ls.length : Int) == 1) = false := by simp; omega
      have hsn : By.single (some ls) = none := by
        match ls, h1 with
        | [], _ => rfl
        | a :: b :: r, _ => rfl
      have HSN := Lib.hid hsn
      clear hm hb hs hR h1 hsn
      go_wp2_with fail
      go_quiet (fail)
      go_wp2_with fail
      go_ret3
      rw [HS.out, HSN.out]
      exact ⟨_, _, ⟨a8, rfl⟩, rfl, below_drewN HB.out _⟩
theorem sln_else (kk : Nat) (b off n c : Nat) (l d : By.Bs) (le : Bool) (w : World) (he : Errs A w) (hl : l.length = n) (hc : n ≤ c) (h31 : n ≤ 2147483647) (hx : BytesAt w b off l) (h1 : ¬ kk = 2) (h2 : ¬ kk = 5) (hu : By.uHead l = some (le, kk, d)) :
    Calls Tryz.prog 72 #[.slice (some ⟨b, off, none⟩) n c] w (One A (.slice none 0 0) (rowIs repPt 68) none w) := by
  have g1 : ((kk : Int) == 2) = false := by simp; omega
  have g2 : ((kk : Int) == 5) = false := by simp; omega
  obtain ⟨a8, h8⟩ := he 8 (by omega) (by omega)
  clear h1 h2
  have hcall := ubot_some b off n c l d le kk w hu hl hc hx
  have hdl := By.uHead_some hu
  simp only at hdl
  have HE := Lib.hid he
  have HL := Lib.hid (⟨hl, hc, h31, hdl⟩ : _ ∧ _ ∧ _ ∧ _)
  clear he hl hc h31 hdl hx hu
  go_enter Tryz.func72, Tryz.ntmps72
  go_wp2_with fail
  refine hcall.mono ?_
  rintro e w1 ⟨s, off', n', c', rfl, hl', hc', hx', q, rfl⟩
  have HX := Lib.hid (⟨hl', hc', bytes_drewN hx' q⟩ : _ ∧ _ ∧ _)
  clear hcall hl' hc' hx'
  clear HX HL
  go_wp2_with fail
  go_quiet (fail)
  go_wp2_with fail
  go_ret3
  exact ⟨_, _, ⟨a8, rfl⟩, rfl, below_drewN (below_drewN (Below.refl _ _) _) _⟩
theorem sln_scanner : ∀ f, Scanner A 72 (.slice none 0 0) (rowIs repPt 68) (By.sLine f) f
  | 0 => fun b off n c l w hl hc h31 hf he hx => by
    have hu : By.uHead l = none := by unfold By.uHead; rw [if_pos (by omega)]
    exact sln_nohead b off n c l w he hl hc hx hu
  | f + 1 => fun b off n c l w hl hc h31 hf he hx => by
    rcases hu : By.uHead l with _ | ⟨le, kk, d⟩
    · have e : By.sLine (f + 1) l = none := by simp only [By.sLine, By.scan, hu]
      rw [e]
      exact sln_nohead b off n c l w he hl hc hx hu
    · by_cases h1 : kk = 2
      · subst h1
        have e : By.sLine (f + 1) l = By.uPoints le d := by simp only [By.sLine, By.scan, hu, if_true]
        rw [e]
        exact sln_one b off n c l d le w he hl hc h31 hx hu
      · by_cases h2 : kk = 5
        · subst h2
          have e : By.sLine (f + 1) l = By.single (By.uRow le (By.sLine f) (fun l => 16 * l.length + 9) d) := by simp only [By.sLine, By.scan, hu]; rfl
          rw [e]
          exact sln_many f (sln_scanner f) b off n c l d le w he hl hc h31 hx hf hu
        · have e : By.sLine (f + 1) l = none := by simp only [By.sLine, By.scan, hu, if_neg h1, if_neg h2]
          rw [e]
          exact sln_else kk b off n c l d le w he hl hc h31 hx h1 h2 hu


theorem spg_nohead (b off n c : Nat) (l : By.Bs) (w : World) (he : Errs A w) (hl : l.length = n) (hc : n ≤ c) (hx : BytesAt w b off l) (hu : By.uHead l = none) :
    Calls Tryz.prog 73 #[.slice (some ⟨b, off, none⟩) n c] w (One A (.slice none 0 0) (rowIs (repRow repPt 68) 127) none w) := by
  have hcall := ubot_none b off n c l w hu he hl hc hx
  clear he hl hc hx hu
  go_enter Tryz.func73, Tryz.ntmps73
  go_wp2_with fail
  refine hcall.mono ?_
  rintro e w1 ⟨err, ⟨a, rfl⟩, rfl, q, rfl⟩
  clear hcall
  go_wp2_with fail
  go_ret3
  exact ⟨_, _, ⟨a, rfl⟩, rfl, below_drewN (Below.refl _ _) _⟩
set_option maxRecDepth 100000 in
theorem spg_one (b off n c : Nat) (l d : By.Bs) (le : Bool) (w : World) (he : Errs A w) (hl : l.length = n) (hc : n ≤ c) (h31 : n ≤ 2147483647) (hx : BytesAt w b off l) (hu : By.uHead l = some (le, 3, d)) :
    Calls Tryz.prog 73 #[.slice (some ⟨b, off, none⟩) n c] w (One A (.slice none 0 0) (rowIs (repRow repPt 68) 127) (By.uPoly le d) w) := by
  have hcall := ubot_some b off n c l d le 3 w hu hl hc hx
  have hdl := By.uHead_some hu
  simp only at hdl
  have HE := Lib.hid he
  have HL := Lib.hid (⟨hl, hc, h31, hdl⟩ : _ ∧ _ ∧ _ ∧ _)
  clear he hl hc h31 hdl hx hu
  go_enter Tryz.func73, Tryz.ntmps73
  go_wp2_with fail
  refine hcall.mono ?_
  rintro e w1 ⟨s, off', n', c', rfl, hl', hc', hx', q, rfl⟩
  have HX := Lib.hid (⟨hl', hc', bytes_drewN hx' q⟩ : _ ∧ _ ∧ _)
  clear hcall hl' hc' hx'
  have hcall2 := upg_any le b off' n' c' d (w.drewN q) (errs_drewN HE.out q) HX.out.1 HX.out.2.1 (by have := HX.out.1; have := HL.out; omega) HX.out.2.2
  clear HX HL
  go_wp2_with fail
  refine hcall2.mono ?_
  intro e w2 hm
  clear hcall2
  rcases hs : By.uPoly le d with _ | ls
  · obtain ⟨a, rfl, hb⟩ := hm.none_of hs
    have HB := Lib.hid (below_un hb)
    have HS := Lib.hid hs
    clear hm hb hs
    go_wp2_with fail
    go_ret3
    rw [HS.out]
    exact ⟨_, _, ⟨a, rfl⟩, rfl, HB.out⟩
  · obtain ⟨v, rfl, hR, hb⟩ := hm.some_of hs
    obtain ⟨K, hK, hI⟩ := hR.is
    have HB := Lib.hid (below_un hb)
    have HK := Lib.hid hK
    have HI := Lib.hid hI
    have HS := Lib.hid hs
    clear hm hb hs hR hK hI
    go_wp2_with fail
    go_ret3
    rw [HS.out]
    exact ⟨_, _, K, rfl, HI.out, HK.out, HB.out⟩
set_option maxRecDepth 100000 in
theorem spg_many (f : Nat) (hsc : Scanner A 73 (.slice none 0 0) (rowIs (repRow repPt 68) 127) (By.sPoly f) f) (b off n c : Nat) (l d : By.Bs) (le : Bool) (w : World) (he : Errs A w) (hl : l.length = n) (hc : n ≤ c) (h31 : n ≤ 2147483647) (hx : BytesAt w b off l) (hf : n ≤ f + 1) (hu : By.uHead l = some (le, 6, d)) :
    Calls Tryz.prog 73 #[.slice (some ⟨b, off, none⟩) n c] w (One A (.slice none 0 0) (rowIs (repRow repPt 68) 127) (By.single (By.uRow le (By.sPoly f) (fun l => 9 + By.ringsSize l) d)) w) := by
  have hcall := ubot_some b off n c l d le 6 w hu hl hc hx
  have hdl := By.uHead_some hu
  simp only at hdl
  have HE := Lib.hid he
  have HL := Lib.hid (⟨hl, hc, h31, hdl⟩ : _ ∧ _ ∧ _ ∧ _)
  clear he hl hc h31 hdl hx hu
  go_enter Tryz.func73, Tryz.ntmps73
  go_wp2_with fail
  refine hcall.mono ?_
  rintro e w1 ⟨s, off', n', c', rfl, hl', hc', hx', q, rfl⟩
  have HX := Lib.hid (⟨hl', hc', bytes_drewN hx' q⟩ : _ ∧ _ ∧ _)
  clear hcall hl' hc' hx'
  have hcall2 := umg_any f hsc le b off' n' c' d (w.drewN q) (errs_drewN HE.out q) HX.out.1 HX.out.2.1 (by have := HX.out.1; have := HL.out; omega) (by have := HX.out.1; have := HL.out; omega) HX.out.2.2
  clear HX HL hsc
  go_wp2_with fail
  refine hcall2.mono ?_
  intro e w2 hm
  clear hcall2
  rcases hs : By.uRow le (By.sPoly f) (fun l => 9 + By.ringsSize l) d with _ | ls
  · obtain ⟨a, rfl, hb⟩ := hm.none_of hs
    have HB := Lib.hid (below_un hb)
    have HS := Lib.hid hs
    clear hm hb hs
    go_wp2_with fail
    go_ret3
    rw [HS.out]
    exact ⟨_, _, ⟨a, rfl⟩, rfl, HB.out⟩
  · obtain ⟨v, rfl, hR, hb⟩ := hm.some_of hs
    obtain ⟨K, hK, hI⟩ := hR.is
    have HB := Lib.hid (below_un hb)
    have HK := Lib.hid hK
    have HS := Lib.hid hs
    by_cases h1 : ls.length = 1
    · obtain ⟨a, rfl⟩ := List.length_eq_one_iff.1 h1
      obtain ⟨g, cap, rfl, _, _, _, hget⟩ := RowIs.get hI hK (by simp)
      obtain ⟨us, _, ⟨u, rfl, hr⟩, hcell⟩ := hget 0 a rfl
      have c0 : w2.cell? ⟨g, 0, none⟩ = some u := by simpa [repRow] using hcell 0 u rfl
      have HI := Lib.hid hr
      obtain ⟨g2, cap2, rfl, _⟩ := RowIs.form hr
      clear hm hb hs hR hK hI hget hcell h1 hr
      go_wp2_with fail
      go_ret3
      rw [HS.out]
      exact ⟨_, _, K, rfl, HI.out, HK.out, HB.out⟩
    · obtain ⟨g, cap, rfl, _⟩ := hR.formN
      obtain ⟨a8, h8⟩ := (HE.out.below HB.out) 8 (by omega) (by omega)
      have hne : ((ls.length : Int) == 1) = false := by simp; omega
      have hsn : By.single (some ls) = none := by
        match ls, h1 with
        | [], _ => rfl
        | a :: b :: r, _ => rfl
      have HSN := Lib.hid hsn
      clear hm hb hs hR h1 hsn
      go_wp2_with fail
      go_quiet (fail)
      go_wp2_with fail
      go_ret3
      rw [HS.out, HSN.out]
      exact ⟨_, _, ⟨a8, rfl⟩, rfl, below_drewN HB.out _⟩
theorem spg_else (kk : Nat) (b off n c : Nat) (l d : By.Bs) (le : Bool) (w : World) (he : Errs A w) (hl : l.length = n) (hc : n ≤ c) (h31 : n ≤ 2147483647) (hx : BytesAt w b off l) (h1 : ¬ kk = 3) (h2 : ¬ kk = 6) (hu : By.uHead l = some (le, kk, d)) :
    Calls Tryz.prog 73 #[.slice (some ⟨b, off, none⟩) n c] w (One A (.slice none 0 0) (rowIs (repRow repPt 68) 127) none w) := by
  have g1 : ((kk : Int) == 3) = false := by simp; omega
  have g2 : ((kk : Int) == 6) = false := by simp; omega
  obtain ⟨a8, h8⟩ := he 8 (by omega) (by omega)
  clear h1 h2
  have hcall := ubot_some b off n c l d le kk w hu hl hc hx
  have hdl := By.uHead_some hu
  simp only at hdl
  have HE := Lib.hid he
  have HL := Lib.hid (⟨hl, hc, h31, hdl⟩ : _ ∧ _ ∧ _ ∧ _)
  clear he hl hc h31 hdl hx hu
  go_enter Tryz.func73, Tryz.ntmps73
  go_wp2_with fail
  refine hcall.mono ?_
  rintro e w1 ⟨s, off', n', c', rfl, hl', hc', hx', q, rfl⟩
  have HX := Lib.hid (⟨hl', hc', bytes_drewN hx' q⟩ : _ ∧ _ ∧ _)
  clear hcall hl' hc' hx'
  clear HX HL
  go_wp2_with fail
  go_quiet (fail)
  go_wp2_with fail
  go_ret3
  exact ⟨_, _, ⟨a8, rfl⟩, rfl, below_drewN (below_drewN (Below.refl _ _) _) _⟩
theorem spg_scanner : ∀ f, Scanner A 73 (.slice none 0 0) (rowIs (repRow repPt 68) 127) (By.sPoly f) f
  | 0 => fun b off n c l w hl hc h31 hf he hx => by
    have hu : By.uHead l = none := by unfold By.uHead; rw [if_pos (by omega)]
    exact spg_nohead b off n c l w he hl hc hx hu
  | f + 1 => fun b off n c l w hl hc h31 hf he hx => by
    rcases hu : By.uHead l with _ | ⟨le, kk, d⟩
    · have e : By.sPoly (f + 1) l = none := by simp only [By.sPoly, By.scan, hu]
      rw [e]
      exact spg_nohead b off n c l w he hl hc hx hu
    · by_cases h1 : kk = 3
      · subst h1
        have e : By.sPoly (f + 1) l = By.uPoly le d := by simp only [By.sPoly, By.scan, hu, if_true]
        rw [e]
        exact spg_one b off n c l d le w he hl hc h31 hx hu
      · by_cases h2 : kk = 6
        · subst h2
          have e : By.sPoly (f + 1) l = By.single (By.uRow le (By.sPoly f) (fun l => 9 + By.ringsSize l) d) := by simp only [By.sPoly, By.scan, hu]; rfl
          rw [e]
          exact spg_many f (spg_scanner f) b off n c l d le w he hl hc h31 hx hf hu
        · have e : By.sPoly (f + 1) l = none := by simp only [By.sPoly, By.scan, hu, if_neg h1, if_neg h2]
          rw [e]
          exact spg_else kk b off n c l d le w he hl hc h31 hx h1 h2 hu


theorem results_row3 {P : Program} {fn : Func} {p u u2 : Tmp} {ty : TypeId} (h : fn.results = #[.cell p ty, .tmp u, .tmp u2]) (tmps : Array Value) (w : World) (g : Nat) (t : TypeId) (cs : Array Value) (fr : Nat × Nat) (d : TypeDesc)
    (hp : tmps.getD p undef = .pointer (some ⟨g, 0, none⟩)) (hg : w.heap[g]? = some (.cells cs t fr))
    (hu : P.underlying ty = some d) (hd : (match d with | .struct _ | .array _ _ => true | _ => false) = true) (hi : (P.info? ty).map (·.size) = some cs.size) :
    (results fn tmps).run P w = .ok (.tuple #[.agg cs, tmps.getD u undef, tmps.getD u2 undef]) w := by
  have e : (results fn tmps).run P w = ((asAddr (tmps.getD p undef)).run P w).andThen fun a w₁ => ((loadVar ty a).run P w₁).andThen fun v w₂ => .ok (.tuple #[v, tmps.getD u undef, tmps.getD u2 undef]) w₂ := by
    simp only [results, h]
    simp [Sem.run_bind, Result.andThen]
  rw [e, hp]
  simp [asAddr, run_loadVar_row w g t ty cs fr d hg hu hd hi]
/-- A block of cells, whole. -/
def Blk (w : World) (b : Nat) (cs : Array Value) (T : TypeId) : Prop := w.heap[b]? = some (.cells cs T (0, 0))
theorem Blk.cell {w : World} {b : Nat} {cs : Array Value} {T : TypeId} (h : Blk w b cs T) {i : Nat} {v : Value} (hi : cs[i]? = some v) : w.cell? ⟨b, i, none⟩ = some v ∧ w.frozen? ⟨b, i, none⟩ = false := by
  unfold Blk at h
  exact ⟨by simp [World.cell?, h, hi], by simp [World.frozen?, h]⟩
theorem Blk.set {w : World} {b : Nat} {cs : Array Value} {T : TypeId} (h : Blk w b cs T) (i : Nat) (u : Value) : Blk (w.setCell ⟨b, i, none⟩ u) b (cs.setIfInBounds i u) T := heap_setCell_same w b i cs T u h
theorem Blk.below {w w' : World} {b B : Nat} {cs : Array Value} {T : TypeId} (h : Blk w b cs T) (hb : Below B w w') (hB : b < B) : Blk w' b cs T := (hb.block b hB).trans h
theorem Blk.new (w : World) (cs : Array Value) (T : TypeId) : Blk (w.alloc (.cells cs T)) w.heap.size cs T := heap_alloc_new w _
theorem Blk.lt {w : World} {b : Nat} {cs : Array Value} {T : TypeId} (h : Blk w b cs T) : b < w.heap.size := (Array.getElem?_eq_some_iff.1 h).1
theorem Blk.alloc {w : World} {b : Nat} {cs : Array Value} {T : TypeId} (h : Blk w b cs T) (o : Obj) : Blk (w.alloc o) b cs T := h.below ((Below.refl w.heap.size w).alloc (Nat.le_refl _) o) h.lt
theorem Blk.drewN {w : World} {b : Nat} {cs : Array Value} {T : TypeId} (h : Blk w b cs T) (n : Nat) : Blk (w.drewN n) b cs T := h
theorem size68 : (Tryz.prog.info? 68).map (·.size) = some 2 := by kernel_rfl


theorem spt_nohead (b off n c : Nat) (l : By.Bs) (w : World) (he : Errs A w) (hl : l.length = n) (hc : n ≤ c) (hx : BytesAt w b off l) (hu : By.uHead l = none) :
    Calls Tryz.prog 70 #[.slice (some ⟨b, off, none⟩) n c] w (One A (.agg #[.float .f64 0, .float .f64 0]) ptIs none w) := by
  have L0 := (Below.refl w.heap.size w).alloc (Nat.le_refl _) (.cells #[.float .f64 0, .float .f64 0] 68)
  have hcall := ubot_none b off n c l (w.alloc (.cells #[.float .f64 0, .float .f64 0] 68)) hu (he.below L0) hl hc (hx.below L0)
  have HB := Lib.hid L0
  clear he hl hc hx hu L0
  go_enter Tryz.func70, Tryz.ntmps70
  go_wp2_with fail
  refine hcall.mono ?_
  rintro e w1 ⟨err, ⟨a, rfl⟩, rfl, q, rfl⟩
  clear hcall
  go_wp2_with fail
  exact bodyPost_ret (v := .tuple #[.agg #[.float .f64 0, .float .f64 0], .int .i64 0, .iface 203 (.pointer (some a))]) (by simp [results, Tryz.results70, go_sem]) rfl ⟨_, _, ⟨a, rfl⟩, rfl, below_drewN HB.out _⟩


set_option maxRecDepth 100000 in
theorem spt_one (b off n c : Nat) (l d : By.Bs) (le : Bool) (w : World) (he : Errs A w) (hl : l.length = n) (hc : n ≤ c) (h31 : n ≤ 2147483647) (hx : BytesAt w b off l) (hu : By.uHead l = some (le, 1, d)) :
    Calls Tryz.prog 70 #[.slice (some ⟨b, off, none⟩) n c] w (One A (.agg #[.float .f64 0, .float .f64 0]) ptIs (By.uPoint le d) w) := by
  have L0 := (Below.refl w.heap.size w).alloc (Nat.le_refl _) (.cells #[.float .f64 0, .float .f64 0] 68)
  have hcall := ubot_some b off n c l d le 1 (w.alloc (.cells #[.float .f64 0, .float .f64 0] 68)) hu hl hc (hx.below L0)
  have hdl := By.uHead_some hu
  simp only at hdl
  have hlt := he.lt
  have HE := Lib.hid (he.below L0)
  have HB := Lib.hid L0
  have HL := Lib.hid (⟨hl, hc, h31, hdl⟩ : _ ∧ _ ∧ _ ∧ _)
  have HR := Lib.hid (Blk.new w #[.float .f64 0, .float .f64 0] 68)
  clear he hl hc h31 hdl hx hu L0
  go_enter Tryz.func70, Tryz.ntmps70
  go_wp2_with fail
  refine hcall.mono ?_
  rintro e w1 ⟨s, off', n', c', rfl, hl', hc', hx', q, rfl⟩
  have HX := Lib.hid (⟨hl', hc', bytes_drewN hx' q⟩ : _ ∧ _ ∧ _)
  clear hcall hl' hc' hx'
  rcases hs : By.uPoint le d with _ | p
  · have hcall2 := upt_none le (some ⟨b, off', none⟩) n' c' d ((w.alloc (.cells #[.float .f64 0, .float .f64 0] 68)).drewN q) hs (errs_drewN HE.out q) HX.out.1 (ordI le)
    have HS := Lib.hid hs
    clear HX HL hs
    go_wp2_with fail
    refine hcall2.mono ?_
    rintro e w2 ⟨a, rfl, hb⟩
    clear hcall2
    have hb1 := below_un hb
    have hR2 := HR.out.below hb1 (by simp)
    obtain ⟨r0, f0⟩ := hR2.cell (i := 0) rfl
    obtain ⟨r1, f1⟩ := hR2.cell (i := 1) rfl
    have HB2 := Lib.hid (HB.out.trans (hb1.mono HB.out.size))
    have HR2 := Lib.hid hR2
    have hz : w.heap.size < w2.heap.size := hR2.lt
    clear hR2 hb hb1
    go_wp2_with fail
    refine bodyPost_ret (results_row3 Tryz.results70 _ _ w.heap.size 68 #[.float .f64 0, .float .f64 0] (0, 0) _ rfl ?hg Tryz.underlying68 rfl size68) rfl ?_
    case hg => exact (((HR2.out.set 0 (.float .f64 0)).set 1 (.float .f64 0)).alloc _)
    have hbf := ((HB2.out.setCell (p := ⟨w.heap.size, 0, none⟩) (Nat.le_refl _) (.float .f64 0)).setCell (p := ⟨w.heap.size, 1, none⟩) (Nat.le_refl _) (.float .f64 0)).alloc (by simp; omega) (.cells #[.float .f64 0, .float .f64 0] 68)
    rw [HS.out]
    exact ⟨_, _, ⟨a, rfl⟩, rfl, hbf⟩

  · have hcall2 := upt_some le b off' n' c' d p ((w.alloc (.cells #[.float .f64 0, .float .f64 0] 68)).drewN q) hs HX.out.1 HX.out.2.1 HX.out.2.2
    have HS := Lib.hid hs
    clear HX HL hs
    go_wp2_with fail
    refine hcall2.mono ?_
    rintro e w2 ⟨rfl, hb⟩
    clear hcall2
    have hb1 := below_un hb
    have hR2 := HR.out.below hb1 (by simp)
    obtain ⟨r0, f0⟩ := hR2.cell (i := 0) rfl
    obtain ⟨r1, f1⟩ := hR2.cell (i := 1) rfl
    have HB2 := Lib.hid (HB.out.trans (hb1.mono HB.out.size))
    have HR2 := Lib.hid hR2
    have hz : w.heap.size < w2.heap.size := hR2.lt
    clear hR2 hb hb1
    go_wp2_with fail
    refine bodyPost_ret (results_row3 Tryz.results70 _ _ w.heap.size 68 #[.float .f64 p.1, .float .f64 p.2] (0, 0) _ rfl ?hg Tryz.underlying68 rfl size68) rfl ?_
    case hg => exact (((HR2.out.set 0 (.float .f64 p.1)).set 1 (.float .f64 p.2)).alloc _)
    have hbf := ((HB2.out.setCell (p := ⟨w.heap.size, 0, none⟩) (Nat.le_refl _) (.float .f64 p.1)).setCell (p := ⟨w.heap.size, 1, none⟩) (Nat.le_refl _) (.float .f64 p.2)).alloc (by simp; omega) (.cells #[.float .f64 p.1, .float .f64 p.2] 68)
    rw [HS.out]
    exact ⟨_, _, fun _ _ => False, rfl, rfl, fun _ _ h => h.elim, hbf⟩

set_option maxRecDepth 100000 in
theorem spt_many (f : Nat) (hsc : Scanner A 70 (.agg #[.float .f64 0, .float .f64 0]) ptIs (By.sPoint f) f) (b off n c : Nat) (l d : By.Bs) (le : Bool) (w : World) (he : Errs A w) (hl : l.length = n) (hc : n ≤ c) (h31 : n ≤ 2147483647) (hx : BytesAt w b off l) (hf : n ≤ f + 1) (hu : By.uHead l = some (le, 4, d)) :
    Calls Tryz.prog 70 #[.slice (some ⟨b, off, none⟩) n c] w (One A (.agg #[.float .f64 0, .float .f64 0]) ptIs (By.single (By.uRow le (By.sPoint f) (fun _ => 21) d)) w) := by
  have L0 := (Below.refl w.heap.size w).alloc (Nat.le_refl _) (.cells #[.float .f64 0, .float .f64 0] 68)
  have hcall := ubot_some b off n c l d le 4 (w.alloc (.cells #[.float .f64 0, .float .f64 0] 68)) hu hl hc (hx.below L0)
  have hdl := By.uHead_some hu
  simp only at hdl
  have hlt := he.lt
  have HE := Lib.hid (he.below L0)
  have HB := Lib.hid L0
  have HL := Lib.hid (⟨hl, hc, h31, hdl⟩ : _ ∧ _ ∧ _ ∧ _)
  have HR := Lib.hid (Blk.new w #[.float .f64 0, .float .f64 0] 68)
  clear he hl hc h31 hdl hx hu L0
  go_enter Tryz.func70, Tryz.ntmps70
  go_wp2_with fail
  refine hcall.mono ?_
  rintro e w1 ⟨s, off', n', c', rfl, hl', hc', hx', q, rfl⟩
  have HX := Lib.hid (⟨hl', hc', bytes_drewN hx' q⟩ : _ ∧ _ ∧ _)
  clear hcall hl' hc' hx'
  have hcall2 := ump_any f hsc le b off' n' c' d ((w.alloc (.cells #[.float .f64 0, .float .f64 0] 68)).drewN q) (errs_drewN HE.out q) HX.out.1 HX.out.2.1 (by have := HX.out.1; have := HL.out; omega) (by have := HX.out.1; have := HL.out; omega) HX.out.2.2
  clear HX HL hsc
  go_wp2_with fail
  refine hcall2.mono ?_
  intro e w2 hm
  clear hcall2
  rcases hs : (By.uRow le (By.sPoint f) (fun _ => 21) d) with _ | ls
  · obtain ⟨a, rfl, hb⟩ := hm.none_of hs
    have HS := Lib.hid hs
    have hb1 := below_un hb
    have hR2 := HR.out.below hb1 (by simp)
    obtain ⟨r0, f0⟩ := hR2.cell (i := 0) rfl
    obtain ⟨r1, f1⟩ := hR2.cell (i := 1) rfl
    have HB2 := Lib.hid (HB.out.trans (hb1.mono HB.out.size))
    have HR2 := Lib.hid hR2
    have hz : w.heap.size < w2.heap.size := hR2.lt
    clear hR2 hb hb1 hm hs
    go_wp2_with fail
    refine bodyPost_ret (results_row3 Tryz.results70 _ _ w.heap.size 68 #[.float .f64 0, .float .f64 0] (0, 0) _ rfl ?hg Tryz.underlying68 rfl size68) rfl ?_
    case hg => exact (((HR2.out.set 0 (.float .f64 0)).set 1 (.float .f64 0)))
    have hbf := (HB2.out.setCell (p := ⟨w.heap.size, 0, none⟩) (Nat.le_refl _) (.float .f64 0)).setCell (p := ⟨w.heap.size, 1, none⟩) (Nat.le_refl _) (.float .f64 0)
    rw [HS.out]
    exact ⟨_, _, ⟨a, rfl⟩, rfl, hbf⟩

  · obtain ⟨v, rfl, hR, hb⟩ := hm.some_of hs
    obtain ⟨K, hK, hI⟩ := hR.is
    have HS := Lib.hid hs
    have hb1 := below_un hb
    have hR2 := HR.out.below hb1 (by simp)
    obtain ⟨r0, f0⟩ := hR2.cell (i := 0) rfl
    obtain ⟨r1, f1⟩ := hR2.cell (i := 1) rfl
    have HB2 := Lib.hid (HB.out.trans (hb1.mono HB.out.size))
    have HR2 := Lib.hid hR2
    have hz : w.heap.size < w2.heap.size := hR2.lt
    by_cases h1 : ls.length = 1
    · obtain ⟨p, rfl⟩ := List.length_eq_one_iff.1 h1
      obtain ⟨g, cap, rfl, _, _, _, hget⟩ := RowIs.get hI hK (by simp)
      obtain ⟨us, _, hus, hcell⟩ := hget 0 p rfl
      have c0 : w2.cell? ⟨g, 0, none⟩ = some (.float .f64 p.1) := by rw [show us = ptCells p from hus] at hcell; simpa [repPt] using hcell 0 _ rfl
      have c1 : w2.cell? ⟨g, 1, none⟩ = some (.float .f64 p.2) := by rw [show us = ptCells p from hus] at hcell; simpa [repPt] using hcell 1 _ rfl
      clear hm hb hb1 hs hR hR2 hK hI hget hcell h1 hus
      go_wp2_with fail
      refine bodyPost_ret (results_row3 Tryz.results70 _ _ w.heap.size 68 #[.float .f64 p.1, .float .f64 p.2] (0, 0) _ rfl ?hg Tryz.underlying68 rfl size68) rfl ?_
      case hg => exact (((HR2.out.set 0 (.float .f64 p.1)).set 1 (.float .f64 p.2)))
      have hbf := (HB2.out.setCell (p := ⟨w.heap.size, 0, none⟩) (Nat.le_refl _) (.float .f64 p.1)).setCell (p := ⟨w.heap.size, 1, none⟩) (Nat.le_refl _) (.float .f64 p.2)
      rw [HS.out]
      exact ⟨_, _, fun _ _ => False, rfl, rfl, fun _ _ h => h.elim, hbf⟩

    · clear hI hK
      obtain ⟨g, cap, rfl, _⟩ := hR.formN
      obtain ⟨a8, h8⟩ := (HE.out.below hb1) 8 (by omega) (by omega)
      have hne : ((ls.length : Int) == 1) = false := by simp; omega
      have hsn : By.single (some ls) = none := by
        match ls, h1 with
        | [], _ => rfl
        | a :: b :: r, _ => rfl
      have HSN := Lib.hid hsn
      have hz8 : ¬ w.heap.size = 8 := by omega
      have hz8' : ¬ 8 = w.heap.size := fun h => hz8 h.symm
      clear hm hb hb1 hs hR hR2 h1 hsn
      go_wp2_with fail
      go_region
      all_goals
        go_wp2_with fail
        refine bodyPost_ret (results_row3 Tryz.results70 _ _ w.heap.size 68 #[.float .f64 0, .float .f64 0] (0, 0) _ rfl ?hg Tryz.underlying68 rfl size68) rfl ?_
        case hg => exact ((HR2.out.set 0 (.float .f64 0)).set 1 (.float .f64 0))
        have hbf := (HB2.out.setCell (p := ⟨w.heap.size, 0, none⟩) (Nat.le_refl _) (.float .f64 0)).setCell (p := ⟨w.heap.size, 1, none⟩) (Nat.le_refl _) (.float .f64 0)
        rw [HS.out, HSN.out]
        exact ⟨_, _, ⟨a8, rfl⟩, rfl, hbf.drew⟩
theorem spt_else (kk : Nat) (b off n c : Nat) (l d : By.Bs) (le : Bool) (w : World) (he : Errs A w) (hl : l.length = n) (hc : n ≤ c) (h31 : n ≤ 2147483647) (hx : BytesAt w b off l) (h1 : ¬ kk = 1) (h2 : ¬ kk = 4) (hu : By.uHead l = some (le, kk, d)) :
    Calls Tryz.prog 70 #[.slice (some ⟨b, off, none⟩) n c] w (One A (.agg #[.float .f64 0, .float .f64 0]) ptIs none w) := by
  have g1 : ((kk : Int) == 1) = false := by simp; omega
  have g2 : ((kk : Int) == 4) = false := by simp; omega
  obtain ⟨a8, h8⟩ := he 8 (by omega) (by omega)
  have h8a := cell_alloc h8
  clear h1 h2
  have L0 := (Below.refl w.heap.size w).alloc (Nat.le_refl _) (.cells #[.float .f64 0, .float .f64 0] 68)
  have hcall := ubot_some b off n c l d le kk (w.alloc (.cells #[.float .f64 0, .float .f64 0] 68)) hu hl hc (hx.below L0)
  have hdl := By.uHead_some hu
  simp only at hdl
  have hlt := he.lt
  have HE := Lib.hid (he.below L0)
  have HB := Lib.hid L0
  have HL := Lib.hid (⟨hl, hc, h31, hdl⟩ : _ ∧ _ ∧ _ ∧ _)
  have HR := Lib.hid (Blk.new w #[.float .f64 0, .float .f64 0] 68)
  clear he hl hc h31 hdl hx hu L0
  go_enter Tryz.func70, Tryz.ntmps70
  go_wp2_with fail
  refine hcall.mono ?_
  rintro e w1 ⟨s, off', n', c', rfl, hl', hc', hx', q, rfl⟩
  have HX := Lib.hid (⟨hl', hc', bytes_drewN hx' q⟩ : _ ∧ _ ∧ _)
  clear hcall hl' hc' hx'
  have hz8 : ¬ w.heap.size = 8 := by omega
  have hz8' : ¬ 8 = w.heap.size := fun h => hz8 h.symm
  clear HX HL
  go_wp2_with fail
  go_region
  all_goals
    go_wp2_with fail
    exact bodyPost_ret (v := .tuple #[.agg #[.float .f64 0, .float .f64 0], .int .i64 0, .iface 203 (.pointer (some a8))]) (by simp [results, Tryz.results70, go_sem]) rfl ⟨_, _, ⟨a8, rfl⟩, rfl, (below_drewN HB.out _).drew⟩
theorem spt_scanner : ∀ f, Scanner A 70 (.agg #[.float .f64 0, .float .f64 0]) ptIs (By.sPoint f) f
  | 0 => fun b off n c l w hl hc h31 hf he hx => by
    have hu : By.uHead l = none := by unfold By.uHead; rw [if_pos (by omega)]
    exact spt_nohead b off n c l w he hl hc hx hu
  | f + 1 => fun b off n c l w hl hc h31 hf he hx => by
    rcases hu : By.uHead l with _ | ⟨le, kk, d⟩
    · have e : By.sPoint (f + 1) l = none := by simp only [By.sPoint, By.scan, hu]
      rw [e]
      exact spt_nohead b off n c l w he hl hc hx hu
    · by_cases h1 : kk = 1
      · subst h1
        have e : By.sPoint (f + 1) l = By.uPoint le d := by simp only [By.sPoint, By.scan, hu, if_true]
        rw [e]
        exact spt_one b off n c l d le w he hl hc h31 hx hu
      · by_cases h2 : kk = 4
        · subst h2
          have e : By.sPoint (f + 1) l = By.single (By.uRow le (By.sPoint f) (fun _ => 21) d) := by simp only [By.sPoint, By.scan, hu]; rfl
          rw [e]
          exact spt_many f (spt_scanner f) b off n c l d le w he hl hc h31 hx hf hu
        · have e : By.sPoint (f + 1) l = none := by simp only [By.sPoint, By.scan, hu, if_neg h1, if_neg h2]
          rw [e]
          exact spt_else kk b off n c l d le w he hl hc h31 hx h1 h2 hu

end Go.Proofs.YtjbjjphgnilhmaaGreatDoor
