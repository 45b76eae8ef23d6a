/- FnResampledAny, the plain law: each point given out is near the one that the law reckons. -/
import Derived.Test.YtoibohoelcdomaaRe7
namespace Re
open Fl Ieee
theorem near_ok' {x y : Nat} (hx : IsFin x) (hy : IsFin y) {e : Rat} (he : e ≤ p2 (-24)) (h : Nr (val x) (val y) e) :
    IsFin (fsub x y) ∧ (double.order (fabs (fsub x y)) 4517329193108106637 == some .gt) = false := by
  have h24 : p2 (-24) ≤ p2 (-22) := p2_mono (by omega)
  have s := nr_sub hx hy (k := -22) (by omega) (by omega) (by have := h.1; grind) (by have := h.2; grind)
  refine ⟨s.1, ?_⟩
  rw [gt_iff (fabs_fin s.1) lit6.1]
  simp only [decide_eq_false_iff_not]
  have hl := lit6.2
  have e1 : p2 (-22 - 52) ≤ p2 (-22) := p2_mono (by omega)
  have e2 : p2 (-21) = 2 * p2 (-22) := by rw [← p2_succ]; congr 1
  have e3 : p2 (-20) = 2 * p2 (-21) := by rw [← p2_succ]; congr 1
  have hp := p2_pos (-22)
  have a1 := s.2.1
  have a2 := s.2.2
  have a3 := h.1
  have a4 := h.2
  rcases val_fabs s.1 with ⟨_, h2⟩ | ⟨_, h2⟩ <;> rw [h2] <;> grind

theorem t_eq {t u d v : Rat} (hd : 0 < d) (h1 : t * d = v) (h2 : u * d = v) : t = u := by
  have a := le_of_mul_le (a := t) (b := u) (c := d) (by grind) hd
  have b := le_of_mul_le (a := u) (b := t) (c := d) (by grind) hd
  grind

theorem first_pos {X Y : Nat → Int} : ∀ m, 1 ≤ SN X Y m → ∃ i, i < m ∧ 0 < dN X Y i ∧ SN X Y i = 0 := by
  intro m
  induction m with
  | zero => intro h; simp [SN] at h
  | succ m ih =>
    intro h
    by_cases h0 : 1 ≤ SN X Y m
    · obtain ⟨i, h1, h2, h3⟩ := ih h0
      exact ⟨i, by omega, h2, h3⟩
    · have : SN X Y (m + 1) = SN X Y m + dN X Y m := rfl
      exact ⟨m, by omega, by omega, by omega⟩
theorem last_pos {X Y : Nat → Int} : ∀ m, 1 ≤ SN X Y m → ∃ i, i < m ∧ 0 < dN X Y i ∧ SN X Y (i + 1) = SN X Y m := by
  intro m
  induction m with
  | zero => intro h; simp [SN] at h
  | succ m ih =>
    intro h
    have e : SN X Y (m + 1) = SN X Y m + dN X Y m := rfl
    by_cases h0 : 0 < dN X Y m
    · exact ⟨m, by omega, h0, rfl⟩
    · obtain ⟨i, h1, h2, h3⟩ := ih (by omega)
      exact ⟨i, by omega, h2, by omega⟩

section
variable {a b f D f' D' : Nat} {A B : Int} {d : Nat}
theorem p26_24 : p2 (-35) + p2 (-26) ≤ p2 (-24) := by
  have e1 : p2 (-35) ≤ p2 (-26) := p2_mono (by omega)
  have e2 : p2 (-25) = 2 * p2 (-26) := by rw [← p2_succ]; congr 1
  have e3 : p2 (-25) ≤ p2 (-24) := p2_mono (by omega)
  grind
theorem near_mid (h : Seg a b f D A B d) (h' : Seg a b f' D' A B d) (hv : val f' = val f) :
    IsFin (ptA a b f D) ∧ IsFin (ptB a b f' D') ∧ IsFin (fsub (ptA a b f D) (ptB a b f' D')) ∧ (double.order (fabs (fsub (ptA a b f D) (ptB a b f' D'))) 4517329193108106637 == some .gt) = false := by
  obtain ⟨t, h1, _, _, _, h2, h3⟩ := ptA_near h
  obtain ⟨u, g1, _, _, _, _, g2, g3⟩ := ptB_near h'
  have hd : (0 : Rat) < (d : Rat) := natr_lt h.d0
  have e := t_eq hd h1 (g1.trans hv)
  subst e
  exact ⟨h2, g2, near_ok' h2 g2 p26_24 (h3.trans g3.symm)⟩
theorem p26_24' : p2 (-26) ≤ p2 (-24) := p2_mono (by omega)
theorem near_end (h : Seg a b f D A B d) (hv : val f = (d : Rat)) {x : Nat} (hx : IsI x B) :
    IsFin x ∧ IsFin (ptB a b f D) ∧ IsFin (fsub x (ptB a b f D)) ∧ (double.order (fabs (fsub x (ptB a b f D))) 4517329193108106637 == some .gt) = false := by
  obtain ⟨u, g1, _, _, _, _, g2, g3⟩ := ptB_near h
  have hd : (0 : Rat) < (d : Rat) := natr_lt h.d0
  have e := t_eq (t := u) (u := 1) hd (g1.trans hv) (by grind)
  subst e
  refine ⟨hx.1, g2, near_ok' hx.1 g2 p26_24' ?_⟩
  have e2 : ((B - A : Int) : Rat) = (B : Rat) - (A : Rat) := by rw [Int.sub_eq_add_neg, Rat.intCast_add, Rat.intCast_neg]; grind
  rw [e2] at g3
  have e3 : (A : Rat) + ((B : Rat) - (A : Rat)) * 1 = (B : Rat) := by grind
  rw [e3, ← hx.2] at g3
  exact g3.symm
theorem near_start (h : Seg a b f D A B d) (hv : val f = 0) {x : Nat} (hx : IsI x A) :
    IsFin x ∧ IsFin (ptB a b f D) ∧ IsFin (fsub x (ptB a b f D)) ∧ (double.order (fabs (fsub x (ptB a b f D))) 4517329193108106637 == some .gt) = false := by
  obtain ⟨u, g1, _, _, _, _, g2, g3⟩ := ptB_near h
  have hd : (0 : Rat) < (d : Rat) := natr_lt h.d0
  have e := t_eq (t := u) (u := 0) hd (g1.trans hv) (by grind)
  subst e
  refine ⟨hx.1, g2, near_ok' hx.1 g2 p26_24' ?_⟩
  have e3 : (A : Rat) + ((B - A : Int) : Rat) * 0 = (A : Rat) := by grind
  rw [e3, ← hx.2] at g3
  exact g3.symm
end
end Re

namespace Go.Proofs.Ytoibohoelcdomaa
open Go.RowKit Fl Ieee

theorem segs_of {ps : List (Nat × Nat)} {X Y : Nat → Int} {i : Nat} {p r : Nat × Nat} {f D : Nat} (hd : Dat ps X Y) (hp : ps[i]? = some p) (hr : ps[i + 1]? = some r) (hD : IsI D (Re.dN X Y i : Int)) (hd0 : 0 < Re.dN X Y i) (hf : IsFin f) (f0 : 0 ≤ val f) (f1 : val f ≤ ((Re.dN X Y i : Nat) : Rat)) :
    Re.Seg p.1 r.1 f D (X i) (X (i + 1)) (Re.dN X Y i) ∧ Re.Seg p.2 r.2 f D (Y i) (Y (i + 1)) (Re.dN X Y i) := by
  obtain ⟨ip, s1⟩ := hd _ _ hp
  obtain ⟨ir, s2⟩ := hd _ _ hr
  have hd1 : Re.dN X Y i ≤ 4000 := by
    unfold Small at s1 s2
    unfold Re.dN
    omega
  exact ⟨⟨ip.1, ir.1, s1.1, s2.1, hD, hd0, hd1, by unfold Re.dN; omega, hf, f0, f1⟩, ⟨ip.2, ir.2, s1.2, s2.2, hD, hd0, hd1, by unfold Re.dN; omega, hf, f0, f1⟩⟩

/-- Both tests of one point. -/
def NearPt (o p r : Nat × Nat) (f D : Nat) : Prop :=
  (IsFin o.1 ∧ IsFin (Re.ptB p.1 r.1 f D) ∧ IsFin (fsub o.1 (Re.ptB p.1 r.1 f D)) ∧ (double.order (fabs (fsub o.1 (Re.ptB p.1 r.1 f D))) 4517329193108106637 == some .gt) = false) ∧
  (IsFin o.2 ∧ IsFin (Re.ptB p.2 r.2 f D) ∧ IsFin (fsub o.2 (Re.ptB p.2 r.2 f D)) ∧ (double.order (fabs (fsub o.2 (Re.ptB p.2 r.2 f D))) 4517329193108106637 == some .gt) = false)

theorem f_between {X Y : Nat → Int} {i : Nat} {v c : Rat} (hv : v = c - ((Re.SN X Y i : Nat) : Rat)) (h0 : ((Re.SN X Y i : Nat) : Rat) ≤ c) (h1 : c ≤ ((Re.SN X Y (i + 1) : Nat) : Rat)) : 0 ≤ v ∧ v ≤ ((Re.dN X Y i : Nat) : Rat) := by
  have h2 : ((Re.SN X Y (i + 1) : Nat) : Rat) = ((Re.SN X Y i : Nat) : Rat) + ((Re.dN X Y i : Nat) : Rat) := Rat.natCast_add _ _
  constructor <;> grind

theorem res_one {n parts T k : Nat} {ps outs : List (Nat × Nat)} {X Y : Nat → Int} {pl : Nat × Nat} (hn : ps.length = n) (h2 : 2 ≤ n) (hn60 : n ≤ 40) (hd : Dat ps X Y)
    (hT : IsI T (Re.SN X Y (n - 1) : Int)) (hS : 1 ≤ Re.SN X Y (n - 1)) (hp1 : 1 ≤ parts) (hp2 : parts ≤ 100) (hpl : ps[n - 1]? = some pl) (hol : outs.length = parts + 1) (ho : Outs ps X Y T parts outs) (hk : k ≤ parts) :
    ∃ i q o, (outs.set parts pl)[k]? = some o ∧ i + 1 < n ∧ Re.Un (Re.cur T parts k) q ∧ -1074 ≤ q ∧ q ≤ 0 ∧ 0 < Re.dN X Y i ∧ ((Re.SN X Y i : Nat) : Rat) ≤ val (Re.cur T parts k) ∧ val (Re.cur T parts k) ≤ ((Re.SN X Y (i + 1) : Nat) : Rat) ∧
      (∀ j, j < i → Re.dN X Y j = 0 ∨ ((Re.SN X Y (j + 1) : Nat) : Rat) < val (Re.cur T parts k)) ∧
      ∀ p r f D, ps[i]? = some p → ps[i + 1]? = some r → IsI D (Re.dN X Y i : Int) → IsFin f → val f = val (Re.cur T parts k) - ((Re.SN X Y i : Nat) : Rat) → NearPt o p r f D := by
  have hsm : ∀ i, i < n → Small (X i) ∧ Small (Y i) := by
    intro i hi
    have := hd i _ (List.getElem?_eq_getElem (show i < ps.length by omega))
    exact ⟨this.2.1, this.2.2⟩
  have hS2 : Re.SN X Y (n - 1) ≤ 160000 := by have := Re.SN_le hsm (n - 1) (by omega); omega
  have hS3 : Re.SN X Y (n - 1) ≤ 262144 := by omega
  have hcf := (Re.cur_near hT hS3 hp1 hp2 (k := k) (by omega)).1
  have hc1 := Re.cur_le hT hS hS3 hp1 hp2 (parts - k) (k := k) (by omega)
  have hz := Re.cur_zero hT hS3 hp1 hp2
  have e0 : ((0 : Int) : Rat) = 0 := rfl
  have e0' : ((0 : Nat) : Rat) = 0 := rfl
  have hc0 : 0 ≤ val (Re.cur T parts k) := by
    by_cases h : k = 0
    · rw [h, hz.2, e0]; grind
    · exact Rat.le_of_lt (Re.cur_pos hT hS hS3 hp1 hp2 (k := k) (by omega) (by omega))
  have hSr : ((Re.SN X Y (n - 1) : Nat) : Rat) ≤ ((4503599627370496 : Nat) : Rat) := natr_le (by omega)
  have hbig : ((4503599627370496 : Nat) : Rat) = 4503599627370496 := rfl
  obtain ⟨q, hq1, hq2, hU⟩ := Re.un_of hcf hc0 (by grind)
  by_cases hk0 : k = 0
  · subst hk0
    obtain ⟨i, i1, i2, i3⟩ := Re.first_pos _ hS
    have hsame := Re.SN_same (X := X) (Y := Y) (Nat.zero_le i) (by rw [i3]; rfl)
    have hp0 : ps[0]? = some ps[0] := List.getElem?_eq_getElem (by omega)
    have ip0 := (hd 0 _ hp0).1
    have hv0 : val (Re.cur T parts 0) = 0 := by rw [hz.2, e0]
    have hmono := natr_le (Re.SN_mono (X := X) (Y := Y) (Nat.le_succ i))
    refine ⟨i, q, ps[0], ?_, by omega, hU, hq1, hq2, i2, by rw [i3, e0', hv0]; grind, by rw [hv0]; exact natr_nonneg _, ?_, ?_⟩
    · rw [List.getElem?_set_ne (by omega), ho.1]; exact hp0
    · intro j hj
      left
      have h3 : Re.SN X Y (j + 1) = Re.SN X Y j + Re.dN X Y j := rfl
      have h4 := Re.SN_mono (X := X) (Y := Y) (show j + 1 ≤ i by omega)
      omega
    · intro p r f D g1 g2 g3 g4 g5
      have hf := f_between g5 (by rw [i3, e0', hv0]; grind) (by rw [hv0]; exact natr_nonneg _)
      obtain ⟨sx, sy⟩ := segs_of hd g1 g2 g3 i2 g4 hf.1 hf.2
      have hfv : val f = 0 := by rw [g5, hv0, i3, e0']; grind
      exact ⟨Re.near_start sx hfv (by rw [hsame.1]; exact ip0.1), Re.near_start sy hfv (by rw [hsame.2]; exact ip0.2)⟩
  · by_cases hkp : k = parts
    · subst hkp
      obtain ⟨i, i1, i2, i3⟩ := Re.last_pos _ hS
      have hsame := Re.SN_same (X := X) (Y := Y) (show i + 1 ≤ n - 1 by omega) i3.symm
      have ipl := (hd _ _ hpl).1
      rw [hsame.1, hsame.2] at ipl
      have hv0 : val (Re.cur T k k) = ((Re.SN X Y (n - 1) : Nat) : Rat) := by unfold Re.cur; rw [if_pos rfl, hT.2]; rfl
      have hle : ((Re.SN X Y i : Nat) : Rat) ≤ val (Re.cur T k k) := by rw [hv0]; exact natr_le (Re.SN_mono (by omega))
      have hle2 : val (Re.cur T k k) ≤ ((Re.SN X Y (i + 1) : Nat) : Rat) := by rw [hv0, i3]; grind
      refine ⟨i, q, pl, ?_, by omega, hU, hq1, hq2, i2, hle, hle2, ?_, ?_⟩
      · rw [List.getElem?_set_self (by omega)]
      · intro j hj
        right
        rw [hv0]
        have h3 : Re.SN X Y (i + 1) = Re.SN X Y i + Re.dN X Y i := rfl
        have h4 := Re.SN_mono (X := X) (Y := Y) (show j + 1 ≤ i by omega)
        exact natr_lt (by omega)
      · intro p r f D g1 g2 g3 g4 g5
        have hf := f_between g5 hle hle2
        obtain ⟨sx, sy⟩ := segs_of hd g1 g2 g3 i2 g4 hf.1 hf.2
        have hfv : val f = ((Re.dN X Y i : Nat) : Rat) := by
          have h3 : ((Re.SN X Y (i + 1) : Nat) : Rat) = ((Re.SN X Y i : Nat) : Rat) + ((Re.dN X Y i : Nat) : Rat) := Rat.natCast_add _ _
          rw [g5, hv0, ← i3, h3]; grind
        exact ⟨Re.near_end sx hfv ipl.1, Re.near_end sy hfv ipl.2⟩
    · obtain ⟨i, a, b, f', D', i1, ha, hb, hD', hf', hv', hl1, hl2, hout⟩ := ho.2 k (by omega) (by omega)
      have hd0 : 0 < Re.dN X Y i := by
        have h3 : ((Re.SN X Y (i + 1) : Nat) : Rat) = ((Re.SN X Y i : Nat) : Rat) + ((Re.dN X Y i : Nat) : Rat) := Rat.natCast_add _ _
        by_cases hz0 : Re.dN X Y i = 0
        · rw [hz0, e0'] at h3; grind
        · omega
      refine ⟨i, q, (Re.ptA a.1 b.1 f' D', Re.ptA a.2 b.2 f' D'), ?_, by omega, hU, hq1, hq2, hd0, Rat.le_of_lt hl1, hl2, ?_, ?_⟩
      · rw [List.getElem?_set_ne (by omega)]; exact hout
      · intro j hj
        right
        have h4 := natr_le (Re.SN_mono (X := X) (Y := Y) (show j + 1 ≤ i by omega))
        grind
      · intro p r f D g1 g2 g3 g4 g5
        rw [ha] at g1
        rw [hb] at g2
        obtain rfl := Option.some.inj g1
        obtain rfl := Option.some.inj g2
        have hf := f_between g5 (Rat.le_of_lt hl1) hl2
        have hf2 := f_between hv' (Rat.le_of_lt hl1) hl2
        obtain ⟨sx, sy⟩ := segs_of hd ha hb g3 hd0 g4 hf.1 hf.2
        obtain ⟨sx', sy'⟩ := segs_of hd ha hb hD' hd0 hf' hf2.1 hf2.2
        exact ⟨Re.near_mid sx' sx (g5.trans hv'.symm), Re.near_mid sy' sy (g5.trans hv'.symm)⟩
end Go.Proofs.Ytoibohoelcdomaa
