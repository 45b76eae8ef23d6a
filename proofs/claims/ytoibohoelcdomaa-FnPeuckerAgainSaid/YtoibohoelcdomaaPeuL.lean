/- The walk of laws.FnPeuckerAgain. -/
import Derived.Test.YtoibohoelcdomaaDpQ
import Derived.Test.YtoibohoelcdomaaSame
namespace Go.Proofs.Ytoibohoelcdomaa
open Go.RowKit Fl

/-- The small line of the law's first call. -/
def tri : List (Nat × Nat) := [(0, 0), (4607182418800017408, 0), (4611686018427387904, 0)]
theorem tri_out : (peuOut tri (fmul 4607182418800017408 4607182418800017408)).length = 2 := by kernel_rfl
theorem tri_whole : ∀ p ∈ tri, ptB p = true := by
  intro p hp
  simp only [tri, List.mem_cons, List.not_mem_nil, or_false] at hp
  rcases hp with rfl | rfl | rfl <;> kernel_rfl
theorem one_sq : IsFin (fmul 4607182418800017408 4607182418800017408) ∧ 0 ≤ val (fmul 4607182418800017408 4607182418800017408) :=
  sq_thr isI_lit1.1 (by rw [isI_lit1.2]; decide) (by rw [isI_lit1.2]; decide)

theorem tri_pts (w : World) (T : TypeId) : PtsAt (w.alloc (.cells #[.float .f64 0, .float .f64 0, .float .f64 4607182418800017408, .float .f64 0, .float .f64 4611686018427387904, .float .f64 0] T)) w.heap.size 0 tri := by
  intro i p hp
  unfold tri at hp
  match i, hp with
  | 0, hp => simp at hp; subst hp; simp
  | 1, hp => simp at hp; subst hp; simp
  | 2, hp => simp at hp; subst hp; simp

set_option maxRecDepth 100000 in
set_option maxHeartbeats 1000000 in
theorem peu_walk (v : Value) (ps : List (Nat × Nat)) (thr : Nat) (w : World) (hv : IsPts w v ps) (hwf : Wf ps) (hn : ps.length * 16 ≤ 140737488351232) :
    Calls Try.prog 4 #[v, .float .f64 thr] w fun e w' => e = .returned (.bool true) ∧ Below w.heap.size w w' := by
  obtain ⟨ao, cap, rfl, hv'⟩ := hv
  obtain ⟨n, hl⟩ : ∃ n, n = ps.length := ⟨_, rfl⟩
  rw [← hl]
  by_cases hbig : (2147483647 : Int) < n
  · clear hv' hl
    go_enter Try.func4, Try.ntmps4
    go_wp2
    go_ret
    exact ⟨rfl, Below.refl _ _⟩
  · have hv : IsPts w (.slice ao n cap) ps := ⟨ao, cap, by rw [hl], hv'⟩
    have hb0 : Below w.heap.size w (w.alloc (.cells #[.float .f64 0, .float .f64 0, .float .f64 4607182418800017408, .float .f64 0, .float .f64 4611686018427387904, .float .f64 0] 26)) := (Below.refl _ _).alloc (Nat.le_refl _) _
    have hcall0 := peucker_any (v := .slice (some ⟨w.heap.size, 0, none⟩) 3 3) 4607182418800017408 ⟨_, _, rfl, .inr ⟨_, _, rfl, tri_pts w 26⟩⟩ (by decide) (by decide) isI_lit1.1 one_sq.1 one_sq.2 tri_whole
    have HB0 := Lib.hid hb0
    have HV := Lib.hid hv
    have HL := Lib.hid hl
    clear hb0 hv hv' hl
    go_enter Try.func4, Try.ntmps4
    go_wp2_with fail
    refine hcall0.mono ?_
    rintro e w1 ⟨v1, rfl, hown1, hb1⟩
    rw [tri_out] at hown1
    obtain ⟨ao1, cap1, rfl, _⟩ := owns_form hown1
    have hB1 : Below w.heap.size w w1 := HB0.out.trans (hb1.mono (by simp))
    have HB1 := Lib.hid hB1
    have hare := are_any (HV.out.below hB1) hwf hn 60
    clear hown1 hb1 hB1 hcall0
    go_wp2_with fail
    refine hare.mono ?_
    rintro e w2 ⟨rfl, hb2⟩
    have HB2 := Lib.hid hb2
    clear hb2 hare
    by_cases hA : areB ps 60 = true
    · by_cases h2 : (n : Int) < 2
      · rw [hA]
        go_wp2
        go_ret
        exact ⟨rfl, HB1.out.trans (HB2.out.mono HB1.out.size)⟩
      · by_cases t1 : (FloatKind.f64.format.order thr 0 == some .gt || FloatKind.f64.format.order thr 0 == some .eq) = true
        · by_cases t2 : (FloatKind.f64.format.order thr 4652007308841189376 == some .lt || FloatKind.f64.format.order thr 4652007308841189376 == some .eq) = true
          · have hthr := thr_fin t1 t2
            have hsq := sq_thr hthr.1 hthr.2.1 hthr.2.2
            have hwh : ∀ p ∈ ps, ptB p = true := by
              unfold areB at hA
              rw [Bool.and_eq_true, List.all_eq_true] at hA
              exact hA.1
            have h60 : ps.length ≤ 60 := by
              unfold areB at hA
              rw [Bool.and_eq_true] at hA
              have := of_decide_eq_true hA.2
              omega
            have h2' : 2 ≤ ps.length := by have := HL.out; omega
            have hB2 := HB1.out.trans (HB2.out.mono HB1.out.size)
            have hcall1 := peucker_any thr (HV.out.below hB2) h2' (by omega) hthr.1 hsq.1 hsq.2 hwh
            have HS := Lib.hid hB2
            rw [hA]
            clear hA hB2
            go_wp2_with fail
            refine hcall1.mono ?_
            rintro e w3 ⟨v3, rfl, hown3, hb3⟩
            have hq2 := peuOut_two h2' hwh hsq.1 hsq.2
            have hqw : ∀ p ∈ peuOut ps (fmul thr thr), ptB p = true := fun p hp => hwh p (peuOut_mem p hp)
            have hql := keptTo_len_le ps (fmul thr thr)
            have hag := peu_again h2' hwh hsq.1 hsq.2
            obtain ⟨qs, hqs⟩ : ∃ qs, qs = peuOut ps (fmul thr thr) := ⟨_, rfl⟩
            rw [← hqs] at hq2 hqw hql hag hown3
            have hv3 := (pts_of_owns hown3).2
            have hcall2 := peucker_any thr hv3 hq2 (by omega) hthr.1 hsq.1 hsq.2 hqw
            rw [hag] at hcall2
            have HB3 := Lib.hid hb3
            have HV3 := Lib.hid hv3
            clear hag hqs hown3 hb3 hv3 hcall1 hwh
            go_wp2_with fail
            refine hcall2.mono ?_
            rintro e w4 ⟨v4, rfl, hown4, hb4⟩
            have hv4 := (pts_of_owns hown4).2
            have hcall3 := same_any hv4 (HV3.out.below hb4) (by omega)
            have HB4 := Lib.hid hb4
            clear hown4 hb4 hv4 hcall2 hthr hsq hqw
            go_wp2_with fail
            refine hcall3.mono ?_
            rintro e w5 ⟨rfl, hb5⟩
            have HB5 := Lib.hid hb5
            clear hb5 hcall3
            go_wp2
            go_ret
            have s2 := HS.out.size
            have s3 := HB3.out.size
            have s4 := HB4.out.size
            exact ⟨rfl, ((HS.out.trans (HB3.out.mono s2)).trans (HB4.out.mono (by omega))).trans (HB5.out.mono (by omega))⟩
          · have t2' : (FloatKind.f64.format.order thr 4652007308841189376 == some .lt || FloatKind.f64.format.order thr 4652007308841189376 == some .eq) = false := by simpa using t2
            clear t2
            rw [hA]
            go_wp2
            go_ret
            exact ⟨rfl, HB1.out.trans (HB2.out.mono HB1.out.size)⟩
        · have t1' : (FloatKind.f64.format.order thr 0 == some .gt || FloatKind.f64.format.order thr 0 == some .eq) = false := by simpa using t1
          clear t1
          rw [hA]
          go_wp2
          go_ret
          exact ⟨rfl, HB1.out.trans (HB2.out.mono HB1.out.size)⟩
    · have hA' : areB ps 60 = false := by simpa using hA
      rw [hA']
      clear hA
      go_wp2
      go_ret
      exact ⟨rfl, HB1.out.trans (HB2.out.mono HB1.out.size)⟩
end Go.Proofs.Ytoibohoelcdomaa
