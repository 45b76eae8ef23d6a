/- Plain laws for points along a line: lengths, the places of the points, and that both ways to reckon a point are near. -/
import Derived.Test.YtpbhpplmokdkhaaDoorFlF
import Derived.KernelRfl
set_option linter.unusedVariables false
namespace Re
open Fl Ieee

/-- The word of a whole number. -/
def fi (n : Int) : Nat := double.nearest (decide (n < 0)) n.natAbs 0
theorem fi_isI {n : Int} (h : n.natAbs ≤ 9007199254740992) : IsI (fi n) n := isI_nearest n h
theorem fi_lt (n : Int) : fi n < 18446744073709551616 := double.nearest_lt _ _ _

section
variable (X Y : Nat → Int)
def dN (i : Nat) : Nat := (X (i + 1) - X i).natAbs + (Y (i + 1) - Y i).natAbs
def SN : Nat → Nat
  | 0 => 0
  | k + 1 => SN k + dN X Y k
variable {X Y}
theorem SN_mono {i j : Nat} (h : i ≤ j) : SN X Y i ≤ SN X Y j := by
  induction j with
  | zero => obtain rfl : i = 0 := by omega
            exact Nat.le_refl _
  | succ j ih =>
    by_cases hij : i = j + 1
    · subst hij; exact Nat.le_refl _
    · have := ih (by omega); simp only [SN]; omega
theorem SN_same {i j : Nat} (h : i ≤ j) (hS : SN X Y j = SN X Y i) : X j = X i ∧ Y j = Y i := by
  induction j with
  | zero => obtain rfl : i = 0 := by omega
            exact ⟨rfl, rfl⟩
  | succ j ih =>
    by_cases hij : i = j + 1
    · subst hij; exact ⟨rfl, rfl⟩
    · have h1 := SN_mono (X := X) (Y := Y) (show i ≤ j by omega)
      simp only [SN] at hS
      have h2 := ih (by omega) (by omega)
      have h3 : dN X Y j = 0 := by omega
      unfold dN at h3
      omega
theorem SN_le {n : Nat} (hs : ∀ i, i < n → Small (X i) ∧ Small (Y i)) : ∀ k, k + 1 ≤ n → SN X Y k ≤ k * 4000 := by
  intro k
  induction k with
  | zero => intro _; simp [SN]
  | succ k ih =>
    intro hk
    have h1 := ih (by omega)
    have h2 := hs k (by omega)
    have h3 := hs (k + 1) (by omega)
    unfold Small at h2 h3
    simp only [SN, dN]
    omega
theorem seg_unique {i j : Nat} {v : Rat} (h1 : ((SN X Y i : Nat) : Rat) < v) (h2 : v ≤ ((SN X Y (i + 1) : Nat) : Rat)) (h3 : ((SN X Y j : Nat) : Rat) < v) (h4 : v ≤ ((SN X Y (j + 1) : Nat) : Rat)) : i = j := by
  rcases Nat.lt_trichotomy i j with h | h | h
  · have := natr_le (SN_mono (X := X) (Y := Y) (show i + 1 ≤ j by omega)); grind
  · exact h
  · have := natr_le (SN_mono (X := X) (Y := Y) (show j + 1 ≤ i by omega)); grind
end

/-- How far the k-th of so many points lies. -/
def cur (T parts k : Nat) : Nat := if k = parts then T else fdiv (fmul T (fi k)) (fi parts)

section
variable {T S parts : Nat}
theorem cur_one (hT : IsI T S) (bT : T < 18446744073709551616) (hS : 1 ≤ S) (hS2 : S ≤ 262144) (hp : 1 ≤ parts) (hp2 : parts ≤ 100) : fdiv T (fi parts) = cur T parts 1 := by
  have hm := isI_mul hT (fi_isI (n := 1) (by decide)) (by omega)
  rw [Int.mul_one] at hm
  have e : fmul T (fi 1) = T := isI_unique hm hT (fmul_lt _ _) bT (by omega)
  unfold cur
  by_cases h : 1 = parts
  · rw [if_pos h, ← h]
    have hd := bd_div (k := 18) hT (fi_isI (n := 1) (by decide)) (by omega) (by omega) (by omega)
    have hv : ((S : Int) : Rat) / ((1 : Int) : Rat) = ((S : Int) : Rat) := by
      have e1 : ((1 : Int) : Rat) = 1 := rfl
      rw [e1]; grind
    rw [hv] at hd
    have h1 := isI_of_rnd hd.2.2 rfl (by omega)
    exact isI_unique h1 hT (fdiv_lt _ _) bT (by omega)
  · rw [if_neg h]
    have e1 : ((1 : Nat) : Int) = 1 := rfl
    rw [e1, e]
theorem far_eq (hT : IsI T S) (bT : T < 18446744073709551616) (hS : 1 ≤ S) (hS2 : S ≤ 262144) (hp : 1 ≤ parts) (hp2 : parts ≤ 100) (k : Nat) : fdiv (fmul T (fi k)) (fi parts) = cur T parts k := by
  unfold cur
  by_cases h : k = parts
  · rw [if_pos h, h]
    have hsm : S * parts ≤ 262144 * 100 := Nat.mul_le_mul hS2 hp2
    have hm := isI_mul hT (fi_isI (n := parts) (by omega)) (by omega)
    have hd := bd_div (k := 30) hm (fi_isI (n := parts) (by omega)) (by omega) (by omega) (by omega)
    have hv : ((((S : Nat) : Int) * ((parts : Nat) : Int) : Int) : Rat) / (((parts : Nat) : Int) : Rat) = ((S : Int) : Rat) := by
      rw [Rat.intCast_mul]
      exact Rat.mul_div_cancel (by
        intro h0
        have : ((parts : Nat) : Int) = 0 := Rat.intCast_inj.1 h0
        omega)
    rw [hv] at hd
    have h1 := isI_of_rnd hd.2.2 rfl (by omega)
    exact isI_unique h1 hT (fdiv_lt _ _) bT (by omega)
  · rw [if_neg h]

/-- What is known of these places. -/
theorem cur_near (hT : IsI T S) (hS2 : S ≤ 262144) (hp : 1 ≤ parts) (hp2 : parts ≤ 100) {k : Nat} (hk : k ≤ 101) :
    IsFin (cur T parts k) ∧ ∃ q : Rat, q * (parts : Rat) = (S : Rat) * (k : Rat) ∧ Nr (val (cur T parts k)) q (p2 (-26)) := by
  have hpr : (0 : Rat) < (parts : Rat) := natr_lt (show 0 < parts by omega)
  unfold cur
  by_cases h : k = parts
  · rw [if_pos h, h]
    exact ⟨hT.1, (S : Rat), rfl, by rw [hT.2]; exact Nr.refl (Rat.le_of_lt (p2_pos _))⟩
  · rw [if_neg h]
    have hsm : S * k ≤ 262144 * 101 := Nat.mul_le_mul hS2 hk
    have hm := isI_mul hT (fi_isI (n := k) (by omega)) (by omega)
    have hd := bd_div (k := 25) hm (fi_isI (n := parts) (by omega)) (by omega) (by omega) (by omega)
    obtain ⟨q, hq⟩ : ∃ q, q = ((((S : Nat) : Int) * ((k : Nat) : Int) : Int) : Rat) / (((parts : Nat) : Int) : Rat) := ⟨_, rfl⟩
    have hqm : q * (parts : Rat) = (S : Rat) * (k : Rat) := by
      have e1 : (((parts : Nat) : Int) : Rat) = (parts : Rat) := rfl
      rw [hq, e1, Rat.div_mul_cancel (by grind), Rat.intCast_mul]; rfl
    rw [← hq] at hd
    refine ⟨hd.2.1.1, q, hqm, ?_⟩
    have hq0 : 0 ≤ q := by
      have h1 := Rat.mul_nonneg (natr_nonneg S) (natr_nonneg k)
      exact le_of_mul_le (c := (parts : Rat)) (by grind) hpr
    have hq1 : q ≤ p2 25 := by
      have e : p2 25 = ((33554432 : Nat) : Rat) := p2_nat 25
      rw [e]
      refine le_of_mul_le (c := (parts : Rat)) ?_ hpr
      rw [hqm, ← natr_mul, ← natr_mul]
      exact natr_le (by have : 33554432 * 1 ≤ 33554432 * parts := Nat.mul_le_mul_left _ hp
                        omega)
    have hp25 := p2_pos 25
    have := rnd_near hd.2.2 (k := 25) (by omega) hq1 (by grind)
    exact Nr.mono this (p2_mono (by omega))

theorem p26 : p2 (-26) * 67108864 = 1 := by
  have := p2_val 26
  simpa using this
theorem cur_step (hT : IsI T S) (hS : 1 ≤ S) (hS2 : S ≤ 262144) (hp : 1 ≤ parts) (hp2 : parts ≤ 100) {k : Nat} (hk : k + 1 ≤ 101) : val (cur T parts k) < val (cur T parts (k + 1)) := by
  obtain ⟨_, q, hq, n1, n2⟩ := cur_near hT hS2 hp hp2 (k := k) (by omega)
  obtain ⟨_, r, hr, m1, m2⟩ := cur_near hT hS2 hp hp2 (k := k + 1) hk
  have h26 := p26
  have e1 : ((1 : Nat) : Rat) = 1 := rfl
  rw [Rat.natCast_add, e1] at hr
  have hpr : (1 : Rat) ≤ (parts : Rat) := natr_le hp
  have hpr2 : (parts : Rat) ≤ ((100 : Nat) : Rat) := natr_le hp2
  have e100 : ((100 : Nat) : Rat) = 100 := rfl
  rw [e100] at hpr2
  have hSr : (1 : Rat) ≤ (S : Rat) := natr_le hS
  -- (r - q) * parts = S >= 1
  have hd : (r - q) * (parts : Rat) = (S : Rat) := by grind
  have hge : (1 : Rat) ≤ (r - q) * 100 := by
    by_cases h0 : 0 ≤ r - q
    · have := Rat.mul_le_mul_of_nonneg_left hpr2 h0; grind
    · have := Rat.mul_le_mul_of_nonneg_left hpr (show 0 ≤ -(r - q) by grind); grind
  grind
theorem cur_le (hT : IsI T S) (hS : 1 ≤ S) (hS2 : S ≤ 262144) (hp : 1 ≤ parts) (hp2 : parts ≤ 100) : ∀ j {k : Nat}, k + j = parts → val (cur T parts k) ≤ (S : Rat) := by
  intro j
  induction j with
  | zero =>
    intro k h
    unfold cur
    rw [if_pos (by omega), hT.2]
    exact Rat.le_refl
  | succ j ih =>
    intro k h
    have h1 := ih (k := k + 1) (by omega)
    have h2 := cur_step hT hS hS2 hp hp2 (k := k) (by omega)
    grind
theorem cur_zero (hT : IsI T S) (hS2 : S ≤ 262144) (hp : 1 ≤ parts) (hp2 : parts ≤ 100) : IsI (cur T parts 0) 0 := by
  unfold cur
  rw [if_neg (by omega)]
  have hm := isI_mul hT (fi_isI (n := 0) (by decide)) (by omega)
  rw [Int.mul_zero] at hm
  have hd := bd_div (k := 1) hm (fi_isI (n := parts) (by omega)) (by omega) (by omega) (by omega)
  have hv : ((0 : Int) : Rat) / (((parts : Nat) : Int) : Rat) = ((0 : Int) : Rat) := by
    have : ((0 : Int) : Rat) = 0 := rfl
    rw [this, Rat.div_def, Rat.zero_mul]
  rw [hv] at hd
  exact isI_of_rnd hd.2.2 rfl (by omega)
theorem cur_pos (hT : IsI T S) (hS : 1 ≤ S) (hS2 : S ≤ 262144) (hp : 1 ≤ parts) (hp2 : parts ≤ 100) {k : Nat} (hk : 1 ≤ k) (hk2 : k ≤ 101) : 0 < val (cur T parts k) := by
  have h0 := cur_zero hT hS2 hp hp2
  have e : ((0 : Int) : Rat) = 0 := rfl
  have key : ∀ j, j + 1 ≤ 101 → 0 < val (cur T parts (j + 1)) := by
    intro j
    induction j with
    | zero => intro h; have := cur_step hT hS hS2 hp hp2 (k := 0) (by omega); rw [h0.2, e] at this; exact this
    | succ j ih => intro h; have h1 := ih (by omega); have := cur_step hT hS hS2 hp hp2 (k := j + 1) (by omega); grind
  obtain ⟨j, rfl⟩ : ∃ j, k = j + 1 := ⟨k - 1, by omega⟩
  exact key j hk2
theorem cur_gt (hT : IsI T S) (hS : 1 ≤ S) (hS2 : S ≤ 262144) (hp : 1 ≤ parts) (hp2 : parts ≤ 100) : (S : Rat) < val (cur T parts (parts + 1)) := by
  have h1 := cur_step hT hS hS2 hp hp2 (k := parts) (by omega)
  have h2 : val (cur T parts parts) = (S : Rat) := by unfold cur; rw [if_pos rfl, hT.2]; rfl
  rw [h2] at h1; exact h1
end

/-- A number as so many units. -/
def Un (x : Nat) (q : Int) : Prop := IsFin x ∧ ∃ c : Nat, c ≤ 9007199254740992 ∧ val x = c * p2 q
theorem un_of {x : Nat} (h : IsFin x) (h0 : 0 ≤ val x) (h1 : val x ≤ 4503599627370496) : ∃ q : Int, -1074 ≤ q ∧ q ≤ 0 ∧ Un x q := by
  have hf := h
  obtain ⟨s, m, e, h⟩ := h
  have hb := fin_bounds h
  have hv := val_of h
  have hpe := p2_pos e
  have hm0 := Rat.mul_nonneg (natr_nonneg m) (Rat.le_of_lt hpe)
  have hv2 : val x = m * p2 e := by cases s <;> simp only [sg] at hv <;> grind
  by_cases he : e ≤ 0
  · exact ⟨e, hb.2.1, he, hf, m, by omega, hv2⟩
  · have hee : e = ((e.toNat : Nat) : Int) := by omega
    rw [hee, p2_nat, ← natr_mul] at hv2
    refine ⟨0, by omega, by omega, hf, m * 2 ^ e.toNat, ?_, by rw [hv2, p2_zero]; grind⟩
    rw [hv2] at h1
    have : ((m * 2 ^ e.toNat : Nat) : Rat) ≤ ((4503599627370496 : Nat) : Rat) := h1
    have := Rat.natCast_le_natCast.1 this
    omega
theorem un_sub {x w d : Nat} {q : Int} (hx : Un x q) (hq : -1074 ≤ q) (hq0 : q ≤ 0) (hw : IsI w d) (hd : (d : Rat) ≤ val x) : Un (fsub x w) q ∧ val (fsub x w) = val x - (d : Rat) := by
  obtain ⟨hf, c, hc, hv⟩ := hx
  have hpq := p2_pos q
  have hwd : val w = (d : Rat) := hw.2
  -- d in units
  have hdu : (d : Rat) = ((d * 2 ^ (0 - q).toNat : Nat) : Rat) * p2 q := by
    have h1 := p2_split hq0
    rw [p2_zero] at h1
    rw [natr_mul]; grind
  obtain ⟨D, hD⟩ : ∃ D, D = d * 2 ^ (0 - q).toNat := ⟨_, rfl⟩
  rw [← hD] at hdu
  have hDc : D ≤ c := by
    rw [hv, hdu] at hd
    exact Rat.natCast_le_natCast.1 (le_of_mul_le hd hpq)
  have hsub : val x - val w = ((c - D : Nat) : Rat) * p2 q := by
    have h2 : ((c - D : Nat) : Rat) + (D : Rat) = (c : Rat) := by rw [← Rat.natCast_add]; congr 1; omega
    rw [hwd, hdu, hv]; grind
  have hlt : ((c - D : Nat) : Rat) * p2 q < p2 1023 := by
    have h1 : ((c - D : Nat) : Rat) ≤ ((9007199254740992 : Nat) : Rat) := natr_le (by omega)
    have h2 := Rat.mul_le_mul_of_nonneg_right h1 (Rat.le_of_lt hpq)
    have h3 : p2 53 = ((9007199254740992 : Nat) : Rat) := p2_nat 53
    rw [← h3, ← p2_add] at h2
    have h4 : p2 (53 + q) < p2 1023 := p2_lt (by omega)
    grind
  have h0 : 0 ≤ ((c - D : Nat) : Rat) * p2 q := Rat.mul_nonneg (natr_nonneg _) (Rat.le_of_lt hpq)
  have hp3 := p2_pos 1023
  have hr := fsub_rnd hf hw.1 (by rw [hsub]; exact hlt) (by rw [hsub]; grind)
  have hex := rnd_exact hr (c := ((c - D : Nat) : Int)) (q := q) (by rw [hsub]; rfl) (by omega) hq
  refine ⟨⟨hr.1, c - D, by omega, by rw [hex, hsub]⟩, by rw [hex, hwd]⟩
theorem un_zero {x : Nat} (h : IsI x 0) : Un x 0 := by
  refine ⟨h.1, 0, by omega, ?_⟩
  have e1 : ((0 : Int) : Rat) = 0 := rfl
  have e2 : ((0 : Nat) : Rat) = 0 := rfl
  rw [h.2, e1, e2]; grind

/-- A coordinate of the point that lies f along a segment of length d, as the program reckons it and as the law does. -/
def ptA (a b f D : Nat) : Nat := fadd a (fmul (fdiv f D) (fsub b a))
def ptB (a b f D : Nat) : Nat := fadd a (fdiv (fmul (fsub b a) f) D)

theorem p2_le_of {k : Int} {n : Nat} (e : p2 k = ((2 ^ n : Nat) : Rat)) {x : Rat} (h : x ≤ ((2 ^ n : Nat) : Rat)) : x ≤ p2 k := by rw [e]; exact h

section
variable {a b f D : Nat} {A B : Int} {d : Nat}
/-- The setting: whole ends, the length, how far. -/
structure Seg (a b f D : Nat) (A B : Int) (d : Nat) : Prop where
  ha : IsI a A
  hb : IsI b B
  sa : Small A
  sb : Small B
  hD : IsI D d
  d0 : 0 < d
  d1 : d ≤ 4000
  hAB : (B - A).natAbs ≤ d
  hf : IsFin f
  f0 : 0 ≤ val f
  f1 : val f ≤ (d : Rat)
theorem Seg.basic (h : Seg a b f D A B d) : IsI (fsub b a) (B - A) ∧ -(d : Rat) ≤ ((B - A : Int) : Rat) ∧ ((B - A : Int) : Rat) ≤ (d : Rat) ∧ (1 : Rat) ≤ (d : Rat) ∧ (d : Rat) ≤ 4096 ∧ -1024 ≤ (A : Rat) ∧ (A : Rat) ≤ 1024 := by
  have h1 := isI_sub h.hb h.ha (by have := h.sa; have := h.sb; unfold Small at *; omega)
  have h2 : ((-(d : Int) : Int) : Rat) ≤ ((B - A : Int) : Rat) := Rat.intCast_le_intCast.2 (by have := h.hAB; omega)
  have h3 : ((B - A : Int) : Rat) ≤ ((d : Int) : Rat) := Rat.intCast_le_intCast.2 (by have := h.hAB; omega)
  have h4 : ((1 : Nat) : Rat) ≤ (d : Rat) := natr_le h.d0
  have h5 : (d : Rat) ≤ ((4096 : Nat) : Rat) := natr_le (by have := h.d1; omega)
  have h6 : ((-1024 : Int) : Rat) ≤ (A : Rat) := Rat.intCast_le_intCast.2 (by have := h.sa; unfold Small at this; omega)
  have h7 : (A : Rat) ≤ ((1024 : Int) : Rat) := Rat.intCast_le_intCast.2 (by have := h.sa; unfold Small at this; omega)
  rw [Rat.intCast_neg] at h2
  exact ⟨h1, h2, h3, h4, h5, h6, h7⟩
theorem p2_12 : p2 12 = 4096 := p2_nat 12
theorem p2_13 : p2 13 = 8192 := p2_nat 13
theorem p2_24 : p2 24 = 16777216 := p2_nat 24
theorem ptA_near (h : Seg a b f D A B d) : ∃ t : Rat, t * (d : Rat) = val f ∧ IsFin (fdiv f D) ∧ IsFin (fsub b a) ∧ IsFin (fmul (fdiv f D) (fsub b a)) ∧ IsFin (ptA a b f D) ∧ Nr (val (ptA a b f D)) ((A : Rat) + ((B - A : Int) : Rat) * t) (p2 (-35)) := by
  obtain ⟨hs, b1, b2, b3, b4, b5, b6⟩ := h.basic
  have hd0 : (0 : Rat) < (d : Rat) := by grind
  obtain ⟨t, ht⟩ : ∃ t, t = val f / (d : Rat) := ⟨_, rfl⟩
  have htd : t * (d : Rat) = val f := by rw [ht]; exact Rat.div_mul_cancel (by grind)
  have t0 : 0 ≤ t := le_of_mul_le (c := (d : Rat)) (by have := h.f0; grind) hd0
  have t1 : t ≤ 1 := le_of_mul_le (c := (d : Rat)) (by have := h.f1; grind) hd0
  have hDv : val D = (d : Rat) := h.hD.2
  have q := nr_div h.hf h.hD.1 (by rw [hDv]; grind) (v := t) (by rw [hDv]; exact htd) (k := 0) (by omega) (by omega) (by rw [p2_zero]; exact t1) (by rw [p2_zero]; grind)
  have e52 := p2_val 52
  have e51 : p2 (0 - 52) = p2 (-((52 : Nat) : Int)) := by congr 1
  rw [e51] at q
  obtain ⟨E, hE⟩ : ∃ E, E = p2 (-((52 : Nat) : Int)) := ⟨_, rfl⟩
  rw [← hE] at q e52
  have c52 : ((2 ^ 52 : Nat) : Rat) = 4503599627370496 := rfl
  rw [c52] at e52
  obtain ⟨qf, q1, q2⟩ := q
  -- the product
  obtain ⟨P, hP⟩ : ∃ P, P = val (fdiv f D) := ⟨_, rfl⟩
  rw [← hP] at q1 q2
  have hbv := hs.2
  obtain ⟨G, hG⟩ : ∃ G : Rat, G = ((B - A : Int) : Rat) := ⟨_, rfl⟩
  rw [← hG] at b1 b2 hbv ⊢
  have m := abs_mul_le (a := P) (b := G) (A := 2) (B := 4096) (by grind) (by grind) (by grind) (by grind)
  have pm := nr_mul qf hs.1 (k := 13) (by omega) (by omega) (by rw [← hP, hbv, p2_13]; grind) (by rw [← hP, hbv, p2_13]; grind)
  rw [← hP, hbv] at pm
  have m2 := abs_mul_le (a := P - t) (b := G) (A := E) (B := 4096) (by grind) (by grind) (by grind) (by grind)
  have e39 := p2_val 39
  have e40 : p2 (13 - 52) = p2 (-((39 : Nat) : Int)) := by congr 1
  rw [e40] at pm
  have c39 : ((2 ^ 39 : Nat) : Rat) = 549755813888 := rfl
  rw [c39] at e39
  obtain ⟨F, hF⟩ : ∃ F, F = p2 (-((39 : Nat) : Int)) := ⟨_, rfl⟩
  rw [← hF] at pm e39
  obtain ⟨pf, p1, p3⟩ := pm
  obtain ⟨Q, hQ⟩ : ∃ Q, Q = val (fmul (fdiv f D) (fsub b a)) := ⟨_, rfl⟩
  rw [← hQ] at p1 p3
  have m3 := abs_mul_le (a := t) (b := G) (A := 1) (B := 4096) (by grind) (by grind) (by grind) (by grind)
  -- the sum
  have ps := nr_add h.ha.1 pf (k := 13) (by omega) (by omega) (by rw [← hQ, h.ha.2, p2_13]; grind) (by rw [← hQ, h.ha.2, p2_13]; grind)
  rw [← hQ, h.ha.2, e40, ← hF] at ps
  have e35 := p2_val 35
  have c35 : ((2 ^ 35 : Nat) : Rat) = 34359738368 := rfl
  rw [c35] at e35
  have e36 : p2 (-35) = p2 (-((35 : Nat) : Int)) := rfl
  rw [e36]
  obtain ⟨R, hR⟩ : ∃ R, R = p2 (-((35 : Nat) : Int)) := ⟨_, rfl⟩
  rw [← hR] at e35 ⊢
  refine ⟨t, htd, qf, hs.1, pf, ps.1, ?_⟩
  have s1 := ps.2.1
  have s2 := ps.2.2
  unfold ptA
  obtain ⟨V, hV⟩ : ∃ V, V = val (fadd a (fmul (fdiv f D) (fsub b a))) := ⟨_, rfl⟩
  rw [← hV] at s1 s2 ⊢
  constructor <;> grind
theorem ptB_near (h : Seg a b f D A B d) : ∃ t : Rat, t * (d : Rat) = val f ∧ IsFin (fsub b a) ∧ IsFin (fmul (fsub b a) f) ∧ Ieee.double.div (fmul (fsub b a) f) D = some (fdiv (fmul (fsub b a) f) D) ∧ IsFin (fdiv (fmul (fsub b a) f) D) ∧ IsFin (ptB a b f D) ∧ Nr (val (ptB a b f D)) ((A : Rat) + ((B - A : Int) : Rat) * t) (p2 (-26)) := by
  obtain ⟨hs, b1, b2, b3, b4, b5, b6⟩ := h.basic
  have hd0 : (0 : Rat) < (d : Rat) := by grind
  obtain ⟨t, ht⟩ : ∃ t, t = val f / (d : Rat) := ⟨_, rfl⟩
  have htd : t * (d : Rat) = val f := by rw [ht]; exact Rat.div_mul_cancel (by grind)
  have t0 : 0 ≤ t := le_of_mul_le (c := (d : Rat)) (by have := h.f0; grind) hd0
  have t1 : t ≤ 1 := le_of_mul_le (c := (d : Rat)) (by have := h.f1; grind) hd0
  have hDv : val D = (d : Rat) := h.hD.2
  have hf0 := h.f0
  have hf1 := h.f1
  have hbv := hs.2
  obtain ⟨G, hG⟩ : ∃ G : Rat, G = ((B - A : Int) : Rat) := ⟨_, rfl⟩
  rw [← hG] at b1 b2 hbv ⊢
  -- the product
  have m := abs_mul_le (a := G) (b := val f) (A := 4096) (B := 4096) (by grind) (by grind) (by grind) (by grind)
  have pm := nr_mul hs.1 h.hf (k := 24) (by omega) (by omega) (by rw [hbv, p2_24]; grind) (by rw [hbv, p2_24]; grind)
  rw [hbv] at pm
  have e28 := p2_val 28
  have e29 : p2 (24 - 52) = p2 (-((28 : Nat) : Int)) := by congr 1
  rw [e29] at pm
  have c28 : ((2 ^ 28 : Nat) : Rat) = 268435456 := rfl
  rw [c28] at e28
  obtain ⟨E, hE⟩ : ∃ E, E = p2 (-((28 : Nat) : Int)) := ⟨_, rfl⟩
  rw [← hE] at pm e28
  obtain ⟨pf, p1, p3⟩ := pm
  obtain ⟨Q, hQ⟩ : ∃ Q, Q = val (fmul (fsub b a) f) := ⟨_, rfl⟩
  rw [← hQ] at p1 p3
  -- the quotient: u * d = Q
  obtain ⟨u, hu⟩ : ∃ u, u = Q / (d : Rat) := ⟨_, rfl⟩
  have hud : u * (d : Rat) = Q := by rw [hu]; exact Rat.div_mul_cancel (by grind)
  have hE0 : 0 ≤ E := by grind
  have hud2 : (u - G * t) * (d : Rat) = Q - G * val f := by rw [← htd]; grind
  have u1 : u - G * t ≤ E := by
    by_cases h0 : u - G * t ≤ E
    · exact h0
    · have := Rat.mul_le_mul_of_nonneg_left b3 (show 0 ≤ u - G * t by grind); grind
  have u2 : -E ≤ u - G * t := by
    by_cases h0 : -E ≤ u - G * t
    · exact h0
    · have := Rat.mul_le_mul_of_nonneg_left b3 (show 0 ≤ -(u - G * t) by grind); grind
  have m3 := abs_mul_le (a := G) (b := t) (A := 4096) (B := 1) (by grind) (by grind) (by grind) (by grind)
  have hD0 : val D ≠ 0 := by rw [hDv]; grind
  have q := nr_div pf h.hD.1 hD0 (v := u) (by rw [hDv, ← hQ]; exact hud) (k := 13) (by omega) (by omega) (by rw [p2_13]; grind) (by rw [p2_13]; grind)
  have e39 := p2_val 39
  have e40 : p2 (13 - 52) = p2 (-((39 : Nat) : Int)) := by congr 1
  rw [e40] at q
  have c39 : ((2 ^ 39 : Nat) : Rat) = 549755813888 := rfl
  rw [c39] at e39
  obtain ⟨F, hF⟩ : ∃ F, F = p2 (-((39 : Nat) : Int)) := ⟨_, rfl⟩
  rw [← hF] at q e39
  obtain ⟨qf, q1, q2⟩ := q
  obtain ⟨W, hW⟩ : ∃ W, W = val (fdiv (fmul (fsub b a) f) D) := ⟨_, rfl⟩
  rw [← hW] at q1 q2
  have ps := nr_add h.ha.1 qf (k := 13) (by omega) (by omega) (by rw [← hW, h.ha.2, p2_13]; grind) (by rw [← hW, h.ha.2, p2_13]; grind)
  rw [← hW, h.ha.2, e40, ← hF] at ps
  have h26 := p26
  obtain ⟨R, hR⟩ : ∃ R, R = p2 (-26) := ⟨_, rfl⟩
  rw [← hR] at h26 ⊢
  refine ⟨t, htd, hs.1, pf, div_some pf h.hD.1 hD0, qf, ps.1, ?_⟩
  have s1 := ps.2.1
  have s2 := ps.2.2
  unfold ptB
  obtain ⟨V, hV⟩ : ∃ V, V = val (fadd a (fdiv (fmul (fsub b a) f) D)) := ⟨_, rfl⟩
  rw [← hV] at s1 s2 ⊢
  constructor <;> grind
end

/-- The law's bound, 1e-6, is more than 2 ^ -20. -/
theorem lit6 : IsFin 4517329193108106637 ∧ p2 (-20) ≤ val 4517329193108106637 := by
  have hr : Ieee.double.read 4517329193108106637 = .number false 4722366482869645 (-72) := by kernel_rfl
  refine ⟨⟨_, _, _, hr⟩, ?_⟩
  rw [val_of hr]
  have h1 : p2 (-20) = p2 52 * p2 (-72) := by rw [← p2_add]; rfl
  have h2 : p2 52 = ((4503599627370496 : Nat) : Rat) := p2_nat 52
  have h3 : ((4503599627370496 : Nat) : Rat) ≤ ((4722366482869645 : Nat) : Rat) := natr_le (by omega)
  have h4 := Rat.mul_le_mul_of_nonneg_right h3 (Rat.le_of_lt (p2_pos (-72)))
  rw [h1, h2]; simp only [sg]; grind
/-- Two numbers that are near differ by no more than the law's bound. -/
theorem near_ok {x y : Nat} (hx : IsFin x) (hy : IsFin y) (bx : Bd x 13) (by' : Bd y 13) {e : Rat} (he : e ≤ p2 (-24)) (h : Nr (val x) (val y) e) :
    IsFin (fsub x y) ∧ (double.order (fabs (fsub x y)) 4517329193108106637 == some .gt) = false := by
  have h24 : p2 (-24) ≤ p2 (-22) := p2_mono (by omega)
  have s := nr_sub hx hy (k := -22) (by omega) (by omega) (by have := h.1; grind) (by have := h.2; grind)
  refine ⟨s.1, ?_⟩
  rw [gt_iff (fabs_fin s.1) lit6.1]
  simp only [decide_eq_false_iff_not]
  have hl := lit6.2
  have e1 : p2 (-22 - 52) ≤ p2 (-22) := p2_mono (by omega)
  have e2 : p2 (-21) = 2 * p2 (-22) := by rw [← p2_succ]; congr 1
  have e3 : p2 (-20) = 2 * p2 (-21) := by rw [← p2_succ]; congr 1
  have hp := p2_pos (-22)
  have a1 := s.2.1
  have a2 := s.2.2
  have a3 := h.1
  have a4 := h.2
  rcases val_fabs s.1 with ⟨_, h2⟩ | ⟨_, h2⟩ <;> rw [h2] <;> grind
end Re
