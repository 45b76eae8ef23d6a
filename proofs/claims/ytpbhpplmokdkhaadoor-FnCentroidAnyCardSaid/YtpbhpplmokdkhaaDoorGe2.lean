/- The walks of impl.polygonOf and impl.geometry: a line, a polygon, lines. -/
import Derived.Test.YtpbhpplmokdkhaaDoorGe1
set_option linter.unusedVariables false
namespace Go.Proofs.YtpbhpplmokdkhaaDoor
open Go.RowKit Go.WideShapes Fl


set_option maxRecDepth 100000 in
set_option maxHeartbeats 2000000 in
theorem polyOf_any (g cap : Nat) (vs : List Value) (pss : List (List (Nat × Nat))) (n : Nat) (kind : Int) (parts : Value) (w : World) (hn : vs.length = n) (h100 : n ≤ 100) (hl : Lists w g vs pss) :
    Calls Tryd.prog 72 #[.agg #[.int .i64 kind, .slice (some ⟨g, 0, none⟩) n cap, parts]] w fun e w' => ∃ v us, e = .returned v ∧ w'.ownsRow w.heap.size 64 1 v n us ∧ Rows2 w' w.heap.size us pss ∧ Below w.heap.size w w' := by
  obtain ⟨i0, hi, hz0, hz1, hz2⟩ := info_parts info_ring
  have hnn : (n : Int) ≤ 100 := by omega
  have h0 := World.ownsRow_made (base := w.heap.size) (e := 64) (size := 1) (w.alloc (.cells #[.int .i64 kind, .slice (some ⟨g, 0, none⟩) n cap, parts] 50)) #[] 0 (by simp) (Nat.zero_le _) rfl
  have HB0 : Hid (Below w.heap.size w ((w.alloc (.cells #[.int .i64 kind, .slice (some ⟨g, 0, none⟩) n cap, parts] 50)).alloc (.cells #[] 64))) := Lib.hid (((Below.refl _ _).alloc (Nat.le_refl _) _).alloc (by simp) _)
  rw [World.size_alloc] at h0
  have H0 := Lib.hid h0
  have HLI := Lib.hid hl
  have HN := Lib.hid hn
  clear h0 hl hn
  go_enter Tryd.func72, Tryd.ntmps72
  go_wp2
  go_loopw [3, 5, 10] (fun v u iv wr => ∃ (k : Nat) (us : List Value), k ≤ n ∧ iv = .int .i64 k ∧ wr.ownsRow w.heap.size 64 1 v k us ∧ Hid (Rows2 wr w.heap.size us (pss.take k)) ∧ Below w.heap.size w wr) (fun v u iv _ => n - (intOf iv).toNat)
  case atStart => exact ⟨0, [], Nat.zero_le _, rfl, H0.out, Lib.hid (Rows2.nil _ _), HB0.out⟩
  case round =>
    obtain ⟨k, us, hk, rfl, hown, HR, hb⟩ := hrel
    by_cases hlt : k < n
    · have hil : k < vs.length := by have := HN.out; omega
      have hjl : k < pss.length := by have := HN.out; have := HLI.out.len; omega
      have hvk : vs[k]? = some vs[k] := List.getElem?_eq_getElem hil
      have hpk : pss[k]? = some pss[k] := List.getElem?_eq_getElem hjl
      obtain ⟨x, hx⟩ : ∃ x, x = vs[k] := ⟨_, rfl⟩
      obtain ⟨ps, hps⟩ : ∃ x, x = pss[k] := ⟨_, rfl⟩
      rw [← hx] at hvk
      rw [← hps] at hpk
      have c0 := cell_later hb (HLI.out.at' k x hvk)
      obtain ⟨p1, p2⟩ := HLI.out.pts k x ps hvk hpk
      have hcall := points_any (p1.below hb) p2
      have HPK := Lib.hid hpk
      have HB := Lib.hid hb
      have hki : (k : Int) < n := by omega
      have hk0 : (0 : Int) ≤ k := by omega
      clear hb hx hps hvk hpk p1 p2 hil hjl
      go_wp2_with fail
      refine hcall.mono ?_
      rintro e w1 ⟨u, rfl, hu, hb1⟩
      obtain ⟨ao, cap', rfl, _⟩ := owns_form hu
      have hown1 := own_below hown hb1
      have HR1 := Lib.hid (HR.out.below hb1)
      have HU := Lib.hid hu
      have HB1 := Lib.hid (HB.out.trans (hb1.mono HB.out.size))
      have hbase := HB.out.size
      clear hcall hb1 hown c0
      go_wp2_with (at_builtin; refine wpList_append_own _ rfl _ _ 96 rfl w.heap.size 64 i0 (.slice none 0 0) 1 24 Tryd.underlying96 hi hz0 hz1 hz2 rfl (by decide) _ _ _ rfl (hown1.alloc _) ⟨w1.heap.size, 0, none⟩ 1 1 [.slice ao ps.length cap'] rfl rfl ?c1 ?c2 ?c3 ?c4 ?c5 ?_)
      case c1 =>
        intro j z hj
        match j, hj with
        | 0, hj => simp at hj; subst hj; simp [Addr.add]
      case c2 => intro z hz; simp at hz; subst hz; rfl
      case c3 => unfold maxLen; omega
      case c4 => omega
      case c5 => have := HB1.out.size; simp; omega
      · intro v' w2 hown' hgrow _
        have L2 := (HB1.out.alloc HB1.out.size (.cells #[.slice ao ps.length cap'] 64)).grown hgrow (by have := HB1.out.size; simp; omega) (fun k hk => (hown1.lt k hk).1)
        have R1 : Rows2 (w1.alloc (.cells #[.slice ao ps.length cap'] 64)) w.heap.size (us ++ [.slice ao ps.length cap']) (pss.take (k + 1)) := by
          rw [take_snoc pss k ps HPK.out]
          exact (HR1.out.below ((Below.refl _ _).alloc (Nat.le_refl _) _)).snoc (own_below HU.out ((Below.refl _ _).alloc (Nat.le_refl _) _)) hbase
        have R2 := R1.kept hgrow (hown1.alloc (.cells #[.slice ao ps.length cap'] 64)) (by decide)
        have HL2 := Lib.hid L2
        have HR2 := Lib.hid R2
        clear hgrow hown1 L2 R1 R2
        go_wp2
        go_roundw
        case rel => exact ⟨k + 1, us ++ [.slice ao ps.length cap'], by omega, by go_num, hown', HR2, HL2.out⟩
        case measure => simp [intOf]; omega
    · obtain rfl : k = n := by omega
      have hle : pss.take k = pss := List.take_of_length_le (by have := HN.out; have := HLI.out.len; omega)
      have HR3 : Hid (Rows2 wr w.heap.size us pss) := Lib.hid (by have := HR.out; rwa [hle] at this)
      clear hle HR
      go_wp2
      go_ret
      exact ⟨_, _, rfl, hown, HR3.out, hb⟩


set_option maxRecDepth 100000 in
theorem geom_line (g m cap : Nat) (v parts : Value) (ps : List (Nat × Nat)) (w : World) (hm : 1 ≤ m) (hv : w.cell? ⟨g, 0, none⟩ = some v) (hp : IsPts w v ps) (hn : ps.length * 16 ≤ 140737488351232) :
    Calls Tryd.prog 56 #[.agg #[.int .i64 2, .slice (some ⟨g, 0, none⟩) m cap, parts]] w fun e w' => ∃ u, e = .returned (.iface 70 u) ∧ IsPts w' u ps ∧ Below w.heap.size w w' := by
  have h0 := cell_alloc hv (.cells #[.int .i64 2, .slice (some ⟨g, 0, none⟩) m cap, parts] 50)
  have L0 := (Below.refl w.heap.size w).alloc (Nat.le_refl _) (.cells #[.int .i64 2, .slice (some ⟨g, 0, none⟩) m cap, parts] 50)
  have hcall1 := first_any g m cap 2 parts v _ hm h0
  have H2 := Lib.hid (fun W (h : Below w.heap.size w W) => points_any (hp.below h) hn)
  have HL0 := Lib.hid L0
  clear hv hp hn L0 h0 hm
  go_enter Tryd.func56, Tryd.ntmps56
  go_wp2_with fail
  refine hcall1.mono ?_
  rintro e w1 ⟨rfl, hb1⟩
  have HL1 := Lib.hid (HL0.out.trans (hb1.mono HL0.out.size))
  clear hb1 hcall1 HL0
  go_wp2_with fail
  refine (H2.out _ HL1.out).mono ?_
  rintro e w2 ⟨u, rfl, hu, hb2⟩
  have HU := Lib.hid (pts_of_owns hu).2
  have HL2 := Lib.hid (HL1.out.trans (hb2.mono HL1.out.size))
  clear hb2 hu H2 HL1
  go_wp2
  go_ret
  exact ⟨u, rfl, HU.out, HL2.out⟩
theorem own_mono {w : World} {base base' e size n : Nat} {v : Value} {xs : List Value} (h : w.ownsRow base e size v n xs) (hb : base' ≤ base) : w.ownsRow base' e size v n xs := by
  obtain ⟨h1, h2⟩ := h
  refine ⟨h1, ?_⟩
  rcases h2 with h2 | ⟨g, cap, cur, e, hg, hc⟩
  · exact .inl h2
  · exact .inr ⟨g, cap, cur, e, Nat.le_trans hb hg, hc⟩
theorem Rows2.mono {w : World} {base base' : Nat} {us : List Value} {pss : List (List (Nat × Nat))} (h : Rows2 w base us pss) (hb : base' ≤ base) : Rows2 w base' us pss :=
  ⟨h.1, fun i u ps hu hp => own_mono (h.2 i u ps hu hp) hb⟩
set_option maxRecDepth 100000 in
theorem geom_poly (g cap : Nat) (vs : List Value) (pss : List (List (Nat × Nat))) (n : Nat) (parts : Value) (w : World) (hn : vs.length = n) (h100 : n ≤ 100) (hl : Lists w g vs pss) :
    Calls Tryd.prog 56 #[.agg #[.int .i64 3, .slice (some ⟨g, 0, none⟩) n cap, parts]] w fun e w' => ∃ v us, e = .returned (.iface 96 v) ∧ w'.ownsRow w.heap.size 64 1 v n us ∧ Rows2 w' w.heap.size us pss ∧ Below w.heap.size w w' := by
  have L0 := (Below.refl w.heap.size w).alloc (Nat.le_refl _) (.cells #[.int .i64 3, .slice (some ⟨g, 0, none⟩) n cap, parts] 50)
  have hcall1 := polyOf_any g cap vs pss n 3 parts (w.alloc (.cells #[.int .i64 3, .slice (some ⟨g, 0, none⟩) n cap, parts] 50)) hn h100 (hl.below ((Below.refl _ _).alloc (Nat.le_refl _) _))
  have hsz : w.heap.size ≤ (w.alloc (.cells #[.int .i64 3, .slice (some ⟨g, 0, none⟩) n cap, parts] 50)).heap.size := by simp
  have HL0 := Lib.hid L0
  have HSZ := Lib.hid hsz
  clear hl L0 hsz
  go_enter Tryd.func56, Tryd.ntmps56
  go_wp2_with fail
  refine hcall1.mono ?_
  rintro e w1 ⟨v, us, rfl, hown, hr, hb1⟩
  have HO := Lib.hid (own_mono hown HSZ.out)
  have HR := Lib.hid (hr.mono HSZ.out)
  have HL1 := Lib.hid (HL0.out.trans (hb1.mono HL0.out.size))
  clear hb1 hcall1 HL0 hown hr
  go_wp2
  go_ret
  exact ⟨v, us, rfl, HO.out, HR.out, HL1.out⟩


set_option maxRecDepth 100000 in
set_option maxHeartbeats 2000000 in
theorem geom_lines_any (g cap : Nat) (vs : List Value) (pss : List (List (Nat × Nat))) (n : Nat) (parts : Value) (w : World) (hn : vs.length = n) (h100 : n ≤ 100) (hl : Lists w g vs pss) :
    Calls Tryd.prog 56 #[.agg #[.int .i64 5, .slice (some ⟨g, 0, none⟩) n cap, parts]] w fun e w' => ∃ v us, e = .returned (.iface 100 v) ∧ w'.ownsRow w.heap.size 70 1 v n us ∧ Rows2 w' w.heap.size us pss ∧ Below w.heap.size w w' := by
  obtain ⟨i0, hi, hz0, hz1, hz2⟩ := info_parts info_line
  have hnn : (n : Int) ≤ 100 := by omega
  have h0 := World.ownsRow_made (base := w.heap.size) (e := 70) (size := 1) (w.alloc (.cells #[.int .i64 5, .slice (some ⟨g, 0, none⟩) n cap, parts] 50)) #[] 0 (by simp) (Nat.zero_le _) rfl
  have HB0 : Hid (Below w.heap.size w ((w.alloc (.cells #[.int .i64 5, .slice (some ⟨g, 0, none⟩) n cap, parts] 50)).alloc (.cells #[] 70))) := Lib.hid (((Below.refl _ _).alloc (Nat.le_refl _) _).alloc (by simp) _)
  rw [World.size_alloc] at h0
  have H0 := Lib.hid h0
  have HLI := Lib.hid hl
  have HN := Lib.hid hn
  clear h0 hl hn
  go_enter Tryd.func56, Tryd.ntmps56
  go_wp2
  go_loopw [3, 5, 50] (fun v u iv wr => ∃ (k : Nat) (us : List Value), k ≤ n ∧ iv = .int .i64 k ∧ wr.ownsRow w.heap.size 70 1 v k us ∧ Hid (Rows2 wr w.heap.size us (pss.take k)) ∧ Below w.heap.size w wr) (fun v u iv _ => n - (intOf iv).toNat)
  case atStart => exact ⟨0, [], Nat.zero_le _, rfl, H0.out, Lib.hid (Rows2.nil _ _), HB0.out⟩
  case round =>
    obtain ⟨k, us, hk, rfl, hown, HR, hb⟩ := hrel
    by_cases hlt : k < n
    · have hil : k < vs.length := by have := HN.out; omega
      have hjl : k < pss.length := by have := HN.out; have := HLI.out.len; omega
      have hvk : vs[k]? = some vs[k] := List.getElem?_eq_getElem hil
      have hpk : pss[k]? = some pss[k] := List.getElem?_eq_getElem hjl
      obtain ⟨x, hx⟩ : ∃ x, x = vs[k] := ⟨_, rfl⟩
      obtain ⟨ps, hps⟩ : ∃ x, x = pss[k] := ⟨_, rfl⟩
      rw [← hx] at hvk
      rw [← hps] at hpk
      have c0 := cell_later hb (HLI.out.at' k x hvk)
      obtain ⟨p1, p2⟩ := HLI.out.pts k x ps hvk hpk
      have hcall := points_any (p1.below hb) p2
      have HPK := Lib.hid hpk
      have HB := Lib.hid hb
      have hki : (k : Int) < n := by omega
      have hk0 : (0 : Int) ≤ k := by omega
      clear hb hx hps hvk hpk p1 p2 hil hjl
      go_wp2_with fail
      refine hcall.mono ?_
      rintro e w1 ⟨u, rfl, hu, hb1⟩
      obtain ⟨ao, cap', rfl, _⟩ := owns_form hu
      have hown1 := own_below hown hb1
      have HR1 := Lib.hid (HR.out.below hb1)
      have HU := Lib.hid hu
      have HB1 := Lib.hid (HB.out.trans (hb1.mono HB.out.size))
      have hbase := HB.out.size
      clear hcall hb1 hown c0
      go_wp2_with (at_builtin; refine wpList_append_own _ rfl _ _ 100 rfl w.heap.size 70 i0 (.slice none 0 0) 1 24 Tryd.underlying100 hi hz0 hz1 hz2 rfl (by decide) _ _ _ rfl (hown1.alloc _) ⟨w1.heap.size, 0, none⟩ 1 1 [.slice ao ps.length cap'] rfl rfl ?c1 ?c2 ?c3 ?c4 ?c5 ?_)
      case c1 =>
        intro j z hj
        match j, hj with
        | 0, hj => simp at hj; subst hj; simp [Addr.add]
      case c2 => intro z hz; simp at hz; subst hz; rfl
      case c3 => unfold maxLen; omega
      case c4 => omega
      case c5 => have := HB1.out.size; simp; omega
      · intro v' w2 hown' hgrow _
        have L2 := (HB1.out.alloc HB1.out.size (.cells #[.slice ao ps.length cap'] 70)).grown hgrow (by have := HB1.out.size; simp; omega) (fun k hk => (hown1.lt k hk).1)
        have R1 : Rows2 (w1.alloc (.cells #[.slice ao ps.length cap'] 70)) w.heap.size (us ++ [.slice ao ps.length cap']) (pss.take (k + 1)) := by
          rw [take_snoc pss k ps HPK.out]
          exact (HR1.out.below ((Below.refl _ _).alloc (Nat.le_refl _) _)).snoc (own_below HU.out ((Below.refl _ _).alloc (Nat.le_refl _) _)) hbase
        have R2 := R1.kept hgrow (hown1.alloc (.cells #[.slice ao ps.length cap'] 70)) (by decide)
        have HL2 := Lib.hid L2
        have HR2 := Lib.hid R2
        clear hgrow hown1 L2 R1 R2
        go_wp2
        go_roundw
        case rel => exact ⟨k + 1, us ++ [.slice ao ps.length cap'], by omega, by go_num, hown', HR2, HL2.out⟩
        case measure => simp [intOf]; omega
    · obtain rfl : k = n := by omega
      have hle : pss.take k = pss := List.take_of_length_le (by have := HN.out; have := HLI.out.len; omega)
      have HR3 : Hid (Rows2 wr w.heap.size us pss) := Lib.hid (by have := HR.out; rwa [hle] at this)
      clear hle HR
      go_wp2
      go_ret
      exact ⟨_, _, rfl, hown, HR3.out, hb⟩

end Go.Proofs.YtpbhpplmokdkhaaDoor
