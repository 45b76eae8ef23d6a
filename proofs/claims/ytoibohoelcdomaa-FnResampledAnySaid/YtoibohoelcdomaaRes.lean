/- laws.FnResampledAny returns true for every line and every number of parts, and leaves its arguments as they were: no condition. -/
import Derived.Test.YtoibohoelcdomaaRe8
import Derived.Test.YtoibohoelcdomaaOpen
namespace Go.Proofs.Ytoibohoelcdomaa
open Go.ChangeShapes Go.WideShapes Go.ChangeAt Go.RowKit Go.Deep Fl

def duo : List (Nat × Nat) := [(0, 0), (4616189618054758400, 0)]
theorem duo_pts (w : World) (T : TypeId) : PtsAt (w.alloc (.cells #[.float .f64 0, .float .f64 0, .float .f64 4616189618054758400, .float .f64 0] T)) w.heap.size 0 duo := by
  intro i p hp
  unfold duo at hp
  match i, hp with
  | 0, hp => simp at hp; subst hp; simp
  | 1, hp => simp at hp; subst hp; simp
def duoX (i : Nat) : Int := if i = 0 then 0 else 4
theorem isI_lit4 : IsI 4616189618054758400 4 := isI_nearest 4 (by decide)
theorem duo_dat : Dat duo duoX (fun _ => 0) := by
  intro i p hp
  unfold duo at hp
  match i, hp with
  | 0, hp => simp at hp; subst hp; exact ⟨⟨isI_lit0, isI_lit0⟩, by unfold Small duoX; decide, by unfold Small; decide⟩
  | 1, hp => simp at hp; subst hp; exact ⟨⟨isI_lit4, isI_lit0⟩, by unfold Small duoX; decide, by unfold Small; decide⟩

theorem far_facts {T S parts k : Nat} (hT : IsI T S) (bT : T < 18446744073709551616) (hS : 1 ≤ S) (hS3 : S ≤ 262144) (hp1 : 1 ≤ parts) (hp2 : parts ≤ 100) (hk : k ≤ parts) :
    IsFin (Re.fi (k : Int)) ∧ Ieee.double.div (fmul T (Re.fi (k : Int))) (Re.fi parts) = some (fdiv (fmul T (Re.fi (k : Int))) (Re.fi parts)) ∧ fdiv (fmul T (Re.fi (k : Int))) (Re.fi parts) = Re.cur T parts k := by
  have hb : ((S : Int) * (k : Int)).natAbs ≤ 26476544 := by
    have : S * k ≤ 262144 * 101 := Nat.mul_le_mul (by omega) (by omega)
    have e : ((S : Int) * (k : Int)).natAbs = S * k := by rw [Int.natAbs_mul]; congr 1
    omega
  have hm := isI_mul hT (Re.fi_isI (n := (k : Int)) (by omega)) (by omega)
  exact ⟨(Re.fi_isI (n := (k : Int)) (by omega)).1, (bd_div (k := 30) hm (Re.fi_isI (n := parts) (by omega)) (by omega) (by omega) (by omega)).1, Re.far_eq hT bT hS hS3 hp1 hp2 k⟩
theorem sn_small {ps : List (Nat × Nat)} {X Y : Nat → Int} {n : Nat} (hn : ps.length = n) (h2 : 2 ≤ n) (h40 : n ≤ 40) (hd : Dat ps X Y) : Re.SN X Y (n - 1) ≤ 262144 := by
  have hsm : ∀ i, i < n → Small (X i) ∧ Small (Y i) := by
    intro i hi
    have := hd i _ (List.getElem?_eq_getElem (show i < ps.length by omega))
    exact ⟨this.2.1, this.2.2⟩
  have := Re.SN_le hsm (n - 1) (by omega)
  omega
theorem two_new (w : World) (u v : Value) (T : TypeId) : (w.alloc (.cells #[u, v] T)).cell? ⟨w.heap.size, 0, none⟩ = some u ∧ (w.alloc (.cells #[u, v] T)).cell? ⟨w.heap.size, 1, none⟩ = some v :=
  ⟨(blk_cell (heap_alloc_new w (.cells #[u, v] T)) (i := 0) rfl).1, (blk_cell (heap_alloc_new w (.cells #[u, v] T)) (i := 1) rfl).1⟩

set_option maxRecDepth 100000 in
set_option maxHeartbeats 1000000 in
theorem res_walk (v : Value) (ps : List (Nat × Nat)) (parts : Int) (w : World) (hv : IsPts w v ps) (hwf : Wf ps) (hn : ps.length * 16 ≤ 140737488351232) :
    Calls Try.prog 3 #[v, .int .i64 parts] w fun e w' => e = .returned (.bool true) ∧ Below w.heap.size w w' := by
  obtain ⟨ao, cap, rfl, hv'⟩ := hv
  obtain ⟨n, hl⟩ : ∃ n, n = ps.length := ⟨_, rfl⟩
  rw [← hl]
  by_cases hbig : (2147483647 : Int) < n
  · clear hv' hl
    go_enter Try.func3, Try.ntmps3
    go_wp2
    go_ret
    exact ⟨rfl, Below.refl _ _⟩
  · have hv : IsPts w (.slice ao n cap) ps := ⟨ao, cap, by rw [hl], hv'⟩
    have hb0 : Below w.heap.size w (w.alloc (.cells #[.float .f64 0, .float .f64 0, .float .f64 4616189618054758400, .float .f64 0] 26)) := (Below.refl _ _).alloc (Nat.le_refl _) _
    have hcall0 := resampled_any (v := .slice (some ⟨w.heap.size, 0, none⟩) 2 2) 2 2 duoX (fun _ => 0) ⟨_, _, rfl, .inr ⟨_, _, rfl, duo_pts w 26⟩⟩ rfl (by decide) (by decide) duo_dat (fun _ _ => .inr rfl) (by decide) (by decide) (by decide)
    have e3 : (((2 : Nat) : Int) + 1) = 3 := rfl
    rw [e3] at hcall0
    have HB0 := Lib.hid hb0
    have HV := Lib.hid hv
    have HL := Lib.hid hl
    have HWF := Lib.hid hwf
    clear hb0 hv hl e3
    go_enter Try.func3, Try.ntmps3
    go_wp2_with fail
    refine hcall0.mono ?_
    rintro e w1 ⟨T1, v1, outs1, pl1, rfl, _, _, _, hown1, _, _, hb1⟩
    obtain ⟨ao1, cap1, rfl, _⟩ := owns_form hown1
    have hB1 : Below w.heap.size w w1 := HB0.out.trans (hb1.mono (by simp))
    have HB1 := Lib.hid hB1
    have hax := axes_any (HV.out.below hB1) hwf hn
    clear hown1 hb1 hB1 hcall0
    go_wp2_with fail
    refine hax.mono ?_
    rintro e w2 ⟨hb2, h⟩
    clear hax
    have hB2 := HB1.out.trans (hb2.mono HB1.out.size)
    rcases h with ⟨x, rfl⟩ | ⟨T, X, Y, rfl, h2, h40, hd, haxis, hT, bT⟩
    · have HB2 := Lib.hid hB2
      clear hB2 hb2 hv'
      go_wp2
      go_ret
      exact ⟨rfl, HB2.out⟩
    · have hz : (FloatKind.f64.format.order T 0 == some .eq) = decide ((Re.SN X Y (ps.length - 1) : Int) = 0) := isI_eq hT isI_lit0
      rw [← HL.out] at hz h2 h40 hT haxis
      by_cases hS : Re.SN X Y (n - 1) = 0
      · have HB2 := Lib.hid hB2
        rw [decide_eq_true (by omega)] at hz
        clear hB2 hb2 hv' hd haxis hT hS
        go_wp2
        go_ret
        exact ⟨rfl, HB2.out⟩
      · rw [decide_eq_false (by omega)] at hz
        by_cases hp1 : parts < 1
        · have HB2 := Lib.hid hB2
          clear hB2 hb2 hv' hd haxis hT hS
          go_wp2
          go_ret
          exact ⟨rfl, HB2.out⟩
        · by_cases hp2 : (100 : Int) < parts
          · have HB2 := Lib.hid hB2
            clear hB2 hb2 hv' hd haxis hT hS
            go_wp2
            go_ret
            exact ⟨rfl, HB2.out⟩
          · obtain ⟨m, rfl⟩ : ∃ m : Nat, parts = m := ⟨parts.toNat, by omega⟩
            have hm1 : 1 ≤ m := by omega
            have hm2 : m ≤ 100 := by omega
            have hS1 : 1 ≤ Re.SN X Y (n - 1) := by omega
            have hcall1 := resampled_any n m X Y (HV.out.below hB2) HL.out.symm h2 h40 hd haxis hS1 hm1 hm2
            have HB2 := Lib.hid hB2
            have HD := Lib.hid hd
            have HT := Lib.hid hT
            have HS := Lib.hid hS1
            have hwm : IntKind.i64.wrap ((m : Int) + 1) = (m : Int) + 1 := IntWalk.i64_in _ (by omega)
            clear hB2 hb2 hd haxis hT hS1 hS
            go_wp2_with fail
            refine hcall1.mono ?_
            rintro e w3 ⟨T', v3, outs, pl, rfl, hT', bT', hpl, hown3, hol, hou, hb3⟩
            have hTT : T' = T := isI_unique hT' HT.out bT' bT (by have := HS.out; omega)
            subst hTT
            have hv3 := (pts_of_owns hown3).2
            obtain ⟨ao3, cap3, rfl, hown4⟩ := owns_form hown3
            have HOU := Lib.hid (And.intro hol hou)
            have HPL := Lib.hid hpl
            have HB3 := Lib.hid (HB2.out.trans (hb3.mono HB2.out.size))
            have hn2 : (outs.set m pl).length = m + 1 := by rw [List.length_set]; exact hol
            obtain ⟨g, rfl, hg1, hg2, _, _⟩ := hown4 (by omega)
            have hq : PtsAt w3 g 0 (outs.set m pl) := by
              obtain ⟨ao', cap', he, h⟩ := hv3
              rcases h with h | ⟨b', off', h1, h2⟩
              · rw [h] at hn2; simp at hn2
              · simp only [Value.slice.injEq] at he
                have h3 := he.1.trans h1
                simp only [Option.some.injEq] at h3
                injection h3 with i1 i2 i3
                rw [i1, i2]; exact h2
            have hqs : ∃ b off, ao = some ⟨b, off, none⟩ ∧ PtsAt w b off ps := by
              rcases hv' with h | h
              · have h9 := HL.out; rw [h] at h9; simp at h9; omega
              · exact h
            obtain ⟨b, off, rfl, hps⟩ := hqs
            have HPS := Lib.hid hps
            have HQ := Lib.hid hq
            have HG := Lib.hid (And.intro hg1 hg2)
            clear hown3 hcall1 hol hou hpl hb3 hbig hT' bT' hq hps hv' hg1 hg2 hown4 hv3 hn2
            go_wp2
            go_loopw [52] (fun iv wr => ∃ k : Nat, k ≤ m + 1 ∧ iv = .int .i64 k ∧ Hid (Below w3.heap.size w3 wr)) (fun iv _ => m + 1 - (intOf iv).toNat)
            case atStart => exact ⟨0, Nat.zero_le _, rfl, Lib.hid (Below.refl _ _)⟩
            case round =>
              obtain ⟨k, hk, rfl, HBW⟩ := hrel
              by_cases hlt : k < m + 1
              · obtain ⟨i, q, o, ho, hi1, hU, hq1, hq2, hd0, hl0, hl1, hsk, hnear⟩ := res_one HL.out.symm h2 h40 HD.out HT.out HS.out hm1 hm2 HPL.out HOU.out.1 HOU.out.2 (show k ≤ m by omega)
                obtain ⟨c0, c1⟩ := HQ.out k _ ho
                simp only [Nat.zero_add] at c0 c1
                have c0' := cell_later HBW.out c0
                have c1' := cell_later HBW.out c1
                have hki : (k : Int) < (m : Int) + 1 := by omega
                obtain ⟨f1, f2, f3⟩ := far_facts HT.out bT HS.out (sn_small HL.out.symm h2 h40 HD.out) hm1 hm2 (show k ≤ m by omega)
                have rml := run_fmul (P := Try.prog) HT.out.1 f1 24
                have rdv := run_fdiv (P := Try.prog) f2 24
                rw [f3] at rdv
                have hfi : ∀ z : Int, floatOfInt FloatKind.f64 z = Re.fi z := fun _ => rfl
                have hBW : Below w.heap.size w wr := HB3.out.trans (HBW.out.mono HB3.out.size)
                have hBA := hBW.alloc hBW.size (.cells #[.float .f64 o.1, .float .f64 o.2] 26)
                have hcall := along_any n cap b off (Re.cur T' m k) i q ps X Y (wr.alloc (.cells #[.float .f64 o.1, .float .f64 o.2] 26)) HL.out.symm h40 (fun j p hp => ⟨cell_later hBA (HPS.out j p hp).1, cell_later hBA (HPS.out j p hp).2⟩) HD.out hi1 hU hq1 hq2 hd0 hl0 hl1 hsk
                obtain ⟨k0, k1⟩ := two_new wr (.float .f64 o.1) (.float .f64 o.2) 26
                have K0 := Lib.hid (And.intro k0 k1)
                have HNE := Lib.hid hnear
                have HBA := Lib.hid hBA
                clear c0 c1 f1 f2 f3 hBW hBA hnear hU hl0 hl1 hsk k0 k1 ho hi1
                go_wp2_with fail
                refine hcall.mono ?_
                rintro e w5 ⟨p, r, f, D, rfl, e1, e2, e3, e4, e5, hb5⟩
                obtain ⟨⟨n1, n2, _, n4⟩, m1, m2, _, m4⟩ := HNE.out p r f D e1 e2 e3 e4 e5
                have rs1 := run_fsub (P := Try.prog) n1 n2 24
                have rs2 := run_fsub (P := Try.prog) m1 m2 24
                have a1 := fun w => (abs_any (fsub o.1 (Re.ptB p.1 r.1 f D)) (fsub_lt _ _) w).mono (R' := fun e w' => e = .returned (.float .f64 (fabs (fsub o.1 (Re.ptB p.1 r.1 f D)))) ∧ w' = w) (fun _ _ h => ⟨h.1, h.2.symm⟩)
                have a2 := fun w => (abs_any (fsub o.2 (Re.ptB p.2 r.2 f D)) (fsub_lt _ _) w).mono (R' := fun e w' => e = .returned (.float .f64 (fabs (fsub o.2 (Re.ptB p.2 r.2 f D)))) ∧ w' = w) (fun _ _ h => ⟨h.1, h.2.symm⟩)
                have hbb := HBW.out.alloc HBW.out.size (.cells #[.float .f64 o.1, .float .f64 o.2] 26)
                have hbc := hbb.trans (hb5.mono hbb.size)
                have HB5 := Lib.hid (hbc.alloc hbc.size (.cells #[.float .f64 (Re.ptB p.1 r.1 f D), .float .f64 (Re.ptB p.2 r.2 f D)] 26))
                clear hbb hbc
                have n4' : (FloatKind.f64.format.order (fabs (fsub o.1 (Re.ptB p.1 r.1 f D))) 4517329193108106637 == some .gt) = false := n4
                have m4' : (FloatKind.f64.format.order (fabs (fsub o.2 (Re.ptB p.2 r.2 f D))) 4517329193108106637 == some .gt) = false := m4
                clear n4 m4 n1 n2 m1 m2
                clear e1 e2 e3 e4 e5 hcall
                have k0' := cell_later hb5 K0.out.1
                have k1' := cell_later hb5 K0.out.2
                have z0 := cell_later ((Below.refl w5.heap.size w5).alloc (Nat.le_refl _) (.cells #[.float .f64 (Re.ptB p.1 r.1 f D), .float .f64 (Re.ptB p.2 r.2 f D)] 26)) k0'
                have z1 := cell_later ((Below.refl w5.heap.size w5).alloc (Nat.le_refl _) (.cells #[.float .f64 (Re.ptB p.1 r.1 f D), .float .f64 (Re.ptB p.2 r.2 f D)] 26)) k1'
                clear k0' k1' hb5
                go_wp2_with fail
                refine (a1 _).mono ?_
                rintro e w6 ⟨rfl, rfl⟩
                go_wp2_with fail
                refine (a2 _).mono ?_
                rintro e w7 ⟨rfl, rfl⟩
                go_wp2
                go_roundw
                case rel => exact ⟨k + 1, hlt, by go_num, HB5⟩
                case measure => simp [intOf]; omega
              · obtain rfl : k = m + 1 := by omega
                go_wp2
                go_ret
                exact ⟨rfl, HB3.out.trans (HBW.out.mono HB3.out.size)⟩

set_option maxRecDepth 100000 in
theorem res_lifted (os : Os) (started : os.Started) (H : Type) (enc : TypeId × Value → H) :
    ReturnsInHanded {} Try.checked os 3 .any (Rows.fnResampledAnySpec.pre6 enc Try.prog Try.f3 Rows.fnResampledAnyRow.domain false) (Rows.fnResampledAnySpec.post enc Try.prog Try.f3 false true false false) := by
  refine returnsInHanded_of_change_sized (C := Try.checked) Try.own started (by kernel_rfl) Try.func3
    (ChangeSpec.witness6 (enc := enc) (C := Try.checked) false ⟨#[], #[.slice none 0 0, .int .i64 0], []⟩ 8 (by kernel_rfl) (by kernel_rfl) (by kernel_rfl) (by kernel_rfl)) ?_
  intro W base args ds gs before hval0 hW _ hsz0 _
  have hsz : (DataW.weightsEach Try.prog (Try.f3.params.toList ++ Rows.fnResampledAnySpec.plain.varTypes Try.prog) (ds ++ gs)).all (· ≤ reachBytes) = true := hsz0
  clear hsz0
  have hval : ∀ (j : Nat) t v, Try.f3.params[j]? = some t → args[j]? = some v → Value.okWide Try.prog W .any base t v := hval0
  have hW' := hW
  obtain ⟨p, q, hA0, hV, rfl, _, _⟩ := hW
  have hA : DataW.TrodAll enc Try.prog W 0 (fun _ => true) true Try.f3.params.toList args.toList ds p := hA0
  rw [Try.params3] at hA hval hsz
  obtain ⟨v0, v1, d0, d1, p0, p1, rfl, rfl, rfl, h0, h1⟩ := trodAll_two hA
  obtain ⟨rfl, rfl⟩ := trodVars_none hV
  obtain ⟨parts, rfl, rfl, rfl, wm⟩ := open_int Try.underlying3 (hval 1 3 v1 rfl rfl) h1
  obtain ⟨ps, hps, hwf, hd⟩ := open_pts (hval 0 22 v0 rfl rfl) h0
  clear hA0 hval0
  simp only [List.append_nil] at hW'
  have hlt : ∀ x ∈ p0, x.block < W.heap.size := fun x hx => by simpa using hW'.lt x hx
  have hreach : ps.length * 16 ≤ 140737488351232 := by
    rcases hd with ⟨_, hz⟩ | ⟨es, ss, rfl, hl⟩
    · omega
    · have := sized_slice hsz (j := 0) (t := 22) (e := 26) rfl rfl Try.underlying22
      rw [bytes_ipoint] at this
      simp only [reachBytes] at this
      omega
  refine (res_walk v0 ps parts W hps hwf hreach).mono fun e W' ⟨he, hnx⟩ => ?_
  subst he
  have hargs : DataW.Trod enc Try.prog W' 0 (fun b => decide (b < W.heap.size)) true 22 v0 d0 p0 :=
    Below.trod Try.laidOut (by kernel_rfl) (of_decide_eq_true (by kernel_rfl)) h0 hnx hlt
  exact ⟨_, rfl, _, _, _, [], p0 ++ [], [], hW', trodAll_mk1 (shut_bool Try.underlying4 true), trodAll_mk2 hargs (shut_int Try.underlying3 wm), rfl, hnx.frame _, fun h => by cases h⟩

theorem resampledAny_holds : Rows.FnResampledAnySaid :=
  OpenClaim.holds_of_wide 3 Try.f3 rfl rfl rfl rfl rfl rfl rfl ⟨rfl, rfl, rfl, rfl, rfl⟩ rfl rfl rfl rfl rfl (by kernel_rfl) Try.func3 (by kernel_rfl)
    (of_decide_eq_true (by kernel_rfl)) (by unfold Func.isWrapper; first | (rw [if_pos (by decide +kernel)]; kernel_rfl) | (rw [if_neg (by decide +kernel)]; exact ⟨rfl, rfl⟩))
    (fun os started H enc _ => res_lifted os started H enc)
end Go.Proofs.Ytoibohoelcdomaa
