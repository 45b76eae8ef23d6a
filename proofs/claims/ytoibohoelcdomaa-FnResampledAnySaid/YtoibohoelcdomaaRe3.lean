/- The walk of resample. -/
import Derived.Test.YtoibohoelcdomaaRe2
namespace Go.Proofs.Ytoibohoelcdomaa
open Go.RowKit Fl

/-- A block of cells, whole. -/
def Blk (w : World) (b : Nat) (cs : Array Value) (T : TypeId) : Prop := w.heap[b]? = some (.cells cs T (0, 0))
theorem blk_cell {w : World} {b : Nat} {cs : Array Value} {T : TypeId} (h : Blk w b cs T) {i : Nat} {v : Value} (hi : cs[i]? = some v) : w.cell? ⟨b, i, none⟩ = some v ∧ w.frozen? ⟨b, i, none⟩ = false := by
  unfold Blk at h
  exact ⟨by simp [World.cell?, h, hi], by simp [World.frozen?, h]⟩
theorem blk_set {w : World} {b : Nat} {cs : Array Value} {T : TypeId} (h : Blk w b cs T) (i : Nat) (u : Value) : Blk (w.setCell ⟨b, i, none⟩ u) b (cs.setIfInBounds i u) T := heap_setCell_same w b i cs T u h
theorem cell_other' {w : World} {b i j : Nat} {u : Value} (h : i ≠ j) : (w.setCell ⟨b, i, none⟩ u).cell? ⟨b, j, none⟩ = w.cell? ⟨b, j, none⟩ := by
  unfold World.setCell World.cell?
  simp only [Array.getElem?_modify]
  cases hh : w.heap[b]? with
  | none => simp
  | some ob =>
    cases ob <;> simp only [if_true, Option.map_some]
    simp [h]
theorem blk_below {w w' : World} {b B : Nat} {cs : Array Value} {T : TypeId} (h : Blk w b cs T) (hb : Below B w w') (hB : b < B) : Blk w' b cs T := (hb.block b hB).trans h
theorem blk_ne {w : World} {base e : Nat} {size : Nat} {v : Value} {n : Nat} {xs : List Value} {b : Nat} {cs : Array Value} {T : TypeId} (h : Blk w b cs T) (ho : w.ownsRow base e size v n xs) (hT : T ≠ e) : v.ownBlock ≠ some b := by
  rcases ho.2 with ⟨rfl, _⟩ | ⟨g, cap, cur, rfl, _, hg, _⟩
  · simp [Value.ownBlock]
  · simp only [Value.ownBlock]
    intro he
    have : g = b := by simpa using he
    subst this
    unfold Blk at h
    rw [hg] at h
    simp at h
    exact hT h.2.symm

theorem blk4 {w : World} {b : Nat} {cs : Array Value} {T : TypeId} (h : Blk w b cs T) (hs : cs.size = 4) (x y x1 y1 : Value) :
    (∃ v, w.cell? ⟨b, 0, none⟩ = some v) ∧ w.frozen? ⟨b, 0, none⟩ = false ∧
    (∃ v, (w.setCell ⟨b, 0, none⟩ x).cell? ⟨b, 1, none⟩ = some v) ∧ (w.setCell ⟨b, 0, none⟩ x).frozen? ⟨b, 1, none⟩ = false ∧
    (∃ v, ((w.setCell ⟨b, 0, none⟩ x).setCell ⟨b, 1, none⟩ y).cell? ⟨b, 2, none⟩ = some v) ∧ ((w.setCell ⟨b, 0, none⟩ x).setCell ⟨b, 1, none⟩ y).frozen? ⟨b, 2, none⟩ = false ∧
    (∃ v, (((w.setCell ⟨b, 0, none⟩ x).setCell ⟨b, 1, none⟩ y).setCell ⟨b, 2, none⟩ x1).cell? ⟨b, 3, none⟩ = some v) ∧ (((w.setCell ⟨b, 0, none⟩ x).setCell ⟨b, 1, none⟩ y).setCell ⟨b, 2, none⟩ x1).frozen? ⟨b, 3, none⟩ = false ∧
    Blk ((((w.setCell ⟨b, 0, none⟩ x).setCell ⟨b, 1, none⟩ y).setCell ⟨b, 2, none⟩ x1).setCell ⟨b, 3, none⟩ y1) b #[x, y, x1, y1] T := by
  obtain ⟨l⟩ := cs
  match l, hs with
  | [c0, c1, c2, c3], _ =>
    have h1 := blk_set h 0 x
    have h2 := blk_set h1 1 y
    have h3 := blk_set h2 2 x1
    have h4 := blk_set h3 3 y1
    have k0 := blk_cell h (i := 0) (v := c0) rfl
    have k1 := blk_cell h1 (i := 1) (v := c1) rfl
    have k2 := blk_cell h2 (i := 2) (v := c2) rfl
    have k3 := blk_cell h3 (i := 3) (v := c3) rfl
    exact ⟨⟨_, k0.1⟩, k0.2, ⟨_, k1.1⟩, k1.2, ⟨_, k2.1⟩, k2.2, ⟨_, k3.1⟩, k3.2, h4⟩
theorem pc_set (ps : List (Nat × Nat)) (p : Nat × Nat) : ∀ k, ((pc ps).set (k * 2) (.float .f64 p.1)).set (k * 2 + 1) (.float .f64 p.2) = pc (ps.set k p) := by
  induction ps with
  | nil => intro k; rfl
  | cons q ps ih =>
    intro k
    have e2 : ∀ (r : Nat × Nat) l, pc (r :: l) = .float .f64 r.1 :: .float .f64 r.2 :: pc l := fun _ _ => rfl
    cases k with
    | zero => rfl
    | succ k =>
      have e1 : (k + 1) * 2 = k * 2 + 1 + 1 := by omega
      rw [e1, e2, List.set_cons_succ, List.set_cons_succ, List.set_cons_succ, List.set_cons_succ, List.set_cons_succ, ih k, e2]

/-- What the points are, so far. -/
def Outs (ps : List (Nat × Nat)) (X Y : Nat → Int) (T parts : Nat) (outs : List (Nat × Nat)) : Prop :=
  outs[0]? = ps[0]? ∧ ∀ k, 1 ≤ k → k < outs.length → ∃ i a b f D, i + 1 < ps.length ∧ ps[i]? = some a ∧ ps[i + 1]? = some b ∧ IsI D (Re.dN X Y i : Int) ∧ IsFin f ∧ val f = val (Re.cur T parts k) - ((Re.SN X Y i : Nat) : Rat) ∧
    ((Re.SN X Y i : Nat) : Rat) < val (Re.cur T parts k) ∧ val (Re.cur T parts k) ≤ ((Re.SN X Y (i + 1) : Nat) : Rat) ∧ outs[k]? = some (Re.ptA a.1 b.1 f D, Re.ptA a.2 b.2 f D)

theorem conv_fi (src : TypeId) (n : Int) (w : World) (hs : (Try.prog.underlying src).isSome = true) : (convert src 24 (.int .i64 n)).run Try.prog w = .ok (.float .f64 (Re.fi n)) w :=
  run_convert_int_float w src 24 .i64 .f64 n hs Try.underlying24

theorem le_test {c nx : Nat} {N : Nat} (hc : IsFin c) (hn : IsI nx (N : Int)) : (FloatKind.f64.format.order c nx == some .lt || FloatKind.f64.format.order c nx == some .eq) = decide (val c ≤ (N : Rat)) := by
  have e1 : (FloatKind.f64.format.order c nx == some .lt) = _ := lt_iff hc hn.1
  have e2 : (FloatKind.f64.format.order c nx == some .eq) = _ := eq_iff hc hn.1
  have e3 : val nx = (N : Rat) := hn.2
  rw [e1, e2, e3, ← Bool.decide_or]
  congr 1
  apply propext
  constructor <;> intro h <;> grind
theorem st_le {T S parts st c N : Nat} (hT : IsI T S) (hS : 1 ≤ S) (hS3 : S ≤ 262144) (hp1 : 1 ≤ parts) (hp2 : parts ≤ 100) (hst : st ≤ parts + 1) (hN : N ≤ S) (hce : c = Re.cur T parts st) (hle : val c ≤ (N : Rat)) : st ≤ parts := by
  by_cases h : st ≤ parts
  · exact h
  · have h1 := Re.cur_gt hT hS hS3 hp1 hp2
    obtain rfl : st = parts + 1 := by omega
    have h2 : (N : Rat) ≤ (S : Rat) := natr_le hN
    rw [hce] at hle
    exact absurd h1 (by grind)
theorem next_facts {T S parts st : Nat} (hT : IsI T S) (bT : T < 18446744073709551616) (hS : 1 ≤ S) (hS3 : S ≤ 262144) (hp1 : 1 ≤ parts) (hp2 : parts ≤ 100) (hst : st ≤ parts) :
    IsFin (Re.fi ((st : Int) + 1)) ∧ Ieee.double.div (fmul T (Re.fi ((st : Int) + 1))) (Re.fi parts) = some (fdiv (fmul T (Re.fi ((st : Int) + 1))) (Re.fi parts)) ∧ fdiv (fmul T (Re.fi ((st : Int) + 1))) (Re.fi parts) = Re.cur T parts (st + 1) := by
  have hb : ((S : Int) * ((st : Int) + 1)).natAbs ≤ 26476544 := by
    have : S * (st + 1) ≤ 262144 * 101 := Nat.mul_le_mul (by omega) (by omega)
    have e : ((S : Int) * ((st : Int) + 1)).natAbs = S * (st + 1) := by rw [Int.natAbs_mul]; congr 1
    omega
  have hm := isI_mul hT (Re.fi_isI (n := (st : Int) + 1) (by omega)) (by omega)
  have hfar := Re.far_eq hT bT hS hS3 hp1 hp2 (st + 1)
  have est : ((st + 1 : Nat) : Int) = (st : Int) + 1 := by omega
  rw [est] at hfar
  exact ⟨(Re.fi_isI (n := (st : Int) + 1) (by omega)).1, (bd_div (k := 30) hm (Re.fi_isI (n := parts) (by omega)) (by omega) (by omega) (by omega)).1, hfar⟩
theorem step_facts {x y x1 y1 P c D : Nat} {X Y : Nat → Int} {i : Nat} (hx : IsI x (X i)) (hy : IsI y (Y i)) (hx1 : IsI x1 (X (i + 1))) (hy1 : IsI y1 (Y (i + 1))) (s1 : Small (X i) ∧ Small (Y i)) (s2 : Small (X (i + 1)) ∧ Small (Y (i + 1)))
    (hP : IsI P (Re.SN X Y i : Int)) (hc : IsFin c) (h1 : ((Re.SN X Y i : Nat) : Rat) < val c) (h2 : val c ≤ ((Re.SN X Y (i + 1) : Nat) : Rat)) (hD : IsI D (Re.dN X Y i : Int)) (hS : Re.SN X Y (i + 1) ≤ 262144) :
    IsFin (fsub c P) ∧ val (fsub c P) = val c - ((Re.SN X Y i : Nat) : Rat) ∧ Ieee.double.div (fsub c P) D = some (fdiv (fsub c P) D) ∧ IsFin (fdiv (fsub c P) D) ∧ IsFin (fsub x1 x) ∧ IsFin (fmul (fdiv (fsub c P) D) (fsub x1 x)) ∧ IsFin (fsub y1 y) ∧ IsFin (fmul (fdiv (fsub c P) D) (fsub y1 y)) ∧
      Re.Seg x x1 (fsub c P) D (X i) (X (i + 1)) (Re.dN X Y i) ∧ Re.Seg y y1 (fsub c P) D (Y i) (Y (i + 1)) (Re.dN X Y i) := by
  have hSir : ((Re.SN X Y (i + 1) : Nat) : Rat) = ((Re.SN X Y i : Nat) : Rat) + ((Re.dN X Y i : Nat) : Rat) := Rat.natCast_add _ _
  have hSi0 : (0 : Rat) ≤ ((Re.SN X Y i : Nat) : Rat) := natr_nonneg _
  have hSmax : ((Re.SN X Y (i + 1) : Nat) : Rat) ≤ ((4503599627370496 : Nat) : Rat) := natr_le (by omega)
  have e52 : ((4503599627370496 : Nat) : Rat) = 4503599627370496 := rfl
  rw [e52] at hSmax
  obtain ⟨q, hq1, hq2, hun⟩ := Re.un_of hc (by grind) (by grind)
  obtain ⟨hunf, hvf⟩ := Re.un_sub hun hq1 hq2 hP (by grind)
  have hf0 : 0 ≤ val (fsub c P) := by grind
  have hfd : val (fsub c P) ≤ ((Re.dN X Y i : Nat) : Rat) := by grind
  have e0 : ((0 : Nat) : Rat) = 0 := rfl
  have hd0 : 0 < Re.dN X Y i := by
    rcases Nat.eq_zero_or_pos (Re.dN X Y i) with h | h
    · exfalso
      rw [h, e0] at hSir
      grind
    · exact h
  have hd1 : Re.dN X Y i ≤ 4000 := by
    unfold Small at s1 s2
    unfold Re.dN
    omega
  have sgx : Re.Seg x x1 (fsub c P) D (X i) (X (i + 1)) (Re.dN X Y i) := ⟨hx, hx1, s1.1, s2.1, hD, hd0, hd1, by unfold Re.dN; omega, hunf.1, hf0, hfd⟩
  have sgy : Re.Seg y y1 (fsub c P) D (Y i) (Y (i + 1)) (Re.dN X Y i) := ⟨hy, hy1, s1.2, s2.2, hD, hd0, hd1, by unfold Re.dN; omega, hunf.1, hf0, hfd⟩
  obtain ⟨_, _, fq, fsx, fmx, fax, _⟩ := Re.ptA_near sgx
  obtain ⟨_, _, _, fsy, fmy, fay, _⟩ := Re.ptA_near sgy
  have hDv : val D ≠ 0 := by
    have h1 : val D = ((Re.dN X Y i : Nat) : Rat) := hD.2
    have h2 : ((0 : Nat) : Rat) < ((Re.dN X Y i : Nat) : Rat) := natr_lt hd0
    grind
  exact ⟨hunf.1, hvf, div_some hunf.1 hD.1 hDv, fq, fsx, fmx, fsy, fmy, sgx, sgy⟩

theorem outs_snoc {ps : List (Nat × Nat)} {X Y : Nat → Int} {T parts : Nat} {outs : List (Nat × Nat)} {st i : Nat} {a b : Nat × Nat} {f D : Nat} (hs : 1 ≤ st) (ho : outs.length = st ∧ Outs ps X Y T parts outs) (hi : i + 1 < ps.length) (ha : ps[i]? = some a) (hb : ps[i + 1]? = some b)
    (hD : IsI D (Re.dN X Y i : Int)) (hf : IsFin f) (hv : val f = val (Re.cur T parts st) - ((Re.SN X Y i : Nat) : Rat)) (h1 : ((Re.SN X Y i : Nat) : Rat) < val (Re.cur T parts st)) (h2 : val (Re.cur T parts st) ≤ ((Re.SN X Y (i + 1) : Nat) : Rat)) :
    (outs ++ [(Re.ptA a.1 b.1 f D, Re.ptA a.2 b.2 f D)]).length = st + 1 ∧ Outs ps X Y T parts (outs ++ [(Re.ptA a.1 b.1 f D, Re.ptA a.2 b.2 f D)]) := by
  refine ⟨by simp [ho.1], ?_, ?_⟩
  · rw [List.getElem?_append_left (by omega)]; exact ho.2.1
  · intro k k1 k2
    simp only [List.length_append, List.length_cons, List.length_nil] at k2
    by_cases hk : k < outs.length
    · rw [List.getElem?_append_left hk]; exact ho.2.2 k k1 hk
    · obtain rfl : k = st := by omega
      refine ⟨i, a, b, f, D, hi, ha, hb, hD, hf, hv, h1, h2, ?_⟩
      rw [List.getElem?_append_right (by omega), ho.1]
      simp
theorem rat_lt_trans {a b c : Rat} (h1 : a < b) (h2 : b < c) : a < c := by grind
theorem inner_rel {w wr w1 : World} {E T2 : TypeId} {v v' : Value} {o : Obj} {cs : Array Value} {st : Nat} {outs : List (Nat × Nat)} {p : Nat × Nat}
    (hb : Below w.heap.size w wr) (hbk : Blk wr (w.heap.size + 1) cs T2) (hne : T2 ≠ E) (how : wr.ownsRow w.heap.size E 2 v st (pc outs))
    (hown : w1.ownsRow w.heap.size E 2 v' (st + 1) (pc outs ++ [.float .f64 p.1, .float .f64 p.2])) (hgr : (wr.alloc o).grownBy w1 v.ownBlock) :
    Blk w1 (w.heap.size + 1) cs T2 ∧ w1.ownsRow w.heap.size E 2 v' (st + 1) (pc (outs ++ [p])) ∧ Below w.heap.size w w1 := by
  have h1 := blk_ne hbk how hne
  have hlt : w.heap.size + 1 < wr.heap.size := (Array.getElem?_eq_some_iff.1 hbk).1
  refine ⟨(hgr.block (w.heap.size + 1) (by simp; omega) h1.symm).trans ((Below.heap_alloc wr o (w.heap.size + 1) hlt).trans hbk), by rw [pc_append]; exact hown, ?_⟩
  exact (hb.alloc hb.size o).grown hgr (by have := hb.size; simp; omega) (fun b hb2 => (how.lt b hb2).1)

theorem st_top {T S parts st N : Nat} (hT : IsI T S) (hS : 1 ≤ S) (hS3 : S ≤ 262144) (hp1 : 1 ≤ parts) (hp2 : parts ≤ 100) (hst : st ≤ parts + 1) (hN : S = N) (h : (N : Rat) < val (Re.cur T parts st)) : st = parts + 1 := by
  by_cases h1 : st ≤ parts
  · have := Re.cur_le hT hS hS3 hp1 hp2 (parts - st) (k := st) (by omega)
    rw [← hN] at h
    exact absurd h (by grind)
  · omega

set_option maxRecDepth 100000 in
set_option maxHeartbeats 4000000 in
theorem resample_any (g n cap gd parts T : Nat) (ps : List (Nat × Nat)) (X Y : Nat → Int) (w : World) (hn : ps.length = n) (h2 : 2 ≤ n) (hn60 : n ≤ 40) (hps : PtsAt w g 0 ps) (hd : Dat ps X Y)
    (hdis : DisAt w gd X Y (n - 1)) (hT : IsI T (Re.SN X Y (n - 1) : Int)) (bT : T < 18446744073709551616) (hS : 1 ≤ Re.SN X Y (n - 1)) (hp1 : 1 ≤ parts) (hp2 : parts ≤ 100) :
    Calls Try.prog 24 #[.slice (some ⟨g, 0, none⟩) n cap, .slice (some ⟨gd, 0, none⟩) (n - 1) (n - 1), .float .f64 T, .int .i64 ((parts : Int) + 1)] w
      fun e w' => ∃ v outs pl, e = .returned v ∧ ps[n - 1]? = some pl ∧ w'.ownsRow w.heap.size 50 2 v (parts + 1) (pc (outs.set parts pl)) ∧ outs.length = parts + 1 ∧ Outs ps X Y T parts outs ∧ Below w.heap.size w w' := by
  obtain ⟨i0, hi, hz0, hz1, hz2⟩ := info_parts info_opoint
  obtain ⟨blk, hblk, hbs⟩ : ∃ blk : Array Value, (∀ w : World, (Instr.makeSlice 36 (.int .i64 1) (.int .i64 ((parts : Int) + 1))).run Try.prog w = .ok (.slice (some ⟨w.heap.size, 0, none⟩) 1 (parts + 1)) (w.alloc (.cells blk 50))) ∧ blk.size = (parts + 1) * 2 := by
    refine ⟨_, fun w => run_make w 36 50 i0 _ Try.underlying36 hi hz0 .i64 .i64 1 ((parts : Int) + 1) (by omega) (by omega) (by rw [hz2]; omega) (by omega), ?_⟩
    rw [size_madeCells, hz1]
    omega
  have HPS := Lib.hid hps
  have HD := Lib.hid hd
  have HN := Lib.hid hn
  have HDIS := Lib.hid hdis
  have h1n : (1 : Int) < n := by omega
  have h0n : 0 < n := by omega
  have hnn : (n : Int) ≤ 40 := by omega
  have hp1i : (1 : Int) ≤ parts := by omega
  have hp2i : (parts : Int) ≤ 100 := by omega
  have hpar0 : (0 : Int) < (parts : Int) + 1 := by omega
  have q0 := (HPS.out).get (i := 0) (by omega)
  have hp0 : ps[0]? = some ps[0] := List.getElem?_eq_getElem (by omega)
  obtain ⟨⟨x0, y0⟩, hpe0⟩ : ∃ p, p = ps[0] := ⟨_, rfl⟩
  rw [← hpe0] at q0 hp0
  simp only [Nat.zero_add, Nat.zero_mul] at q0
  obtain ⟨z0, z1⟩ := q0
  have hsz : 0 < blk.size ∧ 1 < blk.size := by omega
  obtain ⟨W0, hW0⟩ : ∃ W0, W0 = w.alloc (.cells blk 50) := ⟨_, rfl⟩
  have bW0 : Blk W0 w.heap.size blk 50 := by rw [hW0]; exact heap_alloc_new w _
  obtain ⟨u0, e0⟩ : ∃ v, blk[0]? = some v := ⟨_, Array.getElem?_eq_getElem hsz.1⟩
  obtain ⟨u1, e1⟩ : ∃ v, blk[1]? = some v := ⟨_, Array.getElem?_eq_getElem hsz.2⟩
  obtain ⟨k0, l0⟩ := blk_cell bW0 e0
  obtain ⟨k1, l1⟩ := blk_cell bW0 e1
  have bW1 := blk_set bW0 0 (.float .f64 x0)
  have k1' : (W0.setCell ⟨w.heap.size, 0, none⟩ (.float .f64 x0)).cell? ⟨w.heap.size, 1, none⟩ = some u1 := by rw [cell_other' (by omega)]; exact k1
  have l1' := (blk_cell bW1 (i := 1) (v := u1) (by rw [Array.getElem?_setIfInBounds, if_neg (by omega)]; exact e1)).2
  have bW2 := blk_set bW1 1 (.float .f64 y0)
  have hbW0 : Below w.heap.size w W0 := by rw [hW0]; exact (Below.refl _ _).alloc (Nat.le_refl _) _
  have hbW2 : Below w.heap.size w ((W0.setCell ⟨w.heap.size, 0, none⟩ (.float .f64 x0)).setCell ⟨w.heap.size, 1, none⟩ (.float .f64 y0)) := (hbW0.setCell (by simp) _).setCell (by simp) _
  have hsm : ∀ i, i < n → Small (X i) ∧ Small (Y i) := by
    intro i hi
    have := hd i _ (List.getElem?_eq_getElem (show i < ps.length by omega))
    exact ⟨this.2.1, this.2.2⟩
  have hS2 : Re.SN X Y (n - 1) ≤ 160000 := by have := Re.SN_le hsm (n - 1) (by omega); omega
  obtain ⟨S, hSe⟩ : ∃ S, S = Re.SN X Y (n - 1) := ⟨_, rfl⟩
  rw [← hSe] at hT hS hS2
  have HSE := Lib.hid hSe
  have hS3 : S ≤ 262144 := by omega
  have hdiv1 := run_fdiv (P := Try.prog) (bd_div (k := 18) hT (Re.fi_isI (n := parts) (by omega)) (by omega) (by omega) (by omega)).1 24
  have hcur1 := Re.cur_one hT bT hS (by omega) hp1 hp2
  rw [hcur1] at hdiv1
  clear hSe hcur1
  have z0' := cell_later hbW0 z0
  have z1' := cell_later hbW0 z1
  have hmake := hblk w
  rw [← hW0] at hmake
  have hsz0 : W0.heap.size = w.heap.size + 1 := by rw [hW0]; simp
  have HW0 := Lib.hid hW0
  clear hblk
  have HB1 := Lib.hid bW1
  have HB2 := Lib.hid bW2
  have HBW2 := Lib.hid hbW2
  have HBLK := Lib.hid hbs
  clear e0 e1 hsz hW0 bW0 bW1 bW2 hbW0 hbW2 hbs hps hd hdis z0 z1 hpe0 hn
  have hbb : Hid (∃ cs, Blk (((W0.setCell ⟨w.heap.size, 0, none⟩ (.float .f64 x0)).setCell ⟨w.heap.size, 1, none⟩ (.float .f64 y0)).alloc (.cells #[.float .f64 0, .float .f64 0, .float .f64 0, .float .f64 0] 63)) (w.heap.size + 1) cs 63 ∧ cs.size = 4) :=
    Lib.hid ⟨_, by have := heap_alloc_new ((W0.setCell ⟨w.heap.size, 0, none⟩ (.float .f64 x0)).setCell ⟨w.heap.size, 1, none⟩ (.float .f64 y0)) (.cells #[.float .f64 0, .float .f64 0, .float .f64 0, .float .f64 0] 63); simpa [Blk, hsz0] using this, rfl⟩
  have hoo : Hid ((((W0.setCell ⟨w.heap.size, 0, none⟩ (.float .f64 x0)).setCell ⟨w.heap.size, 1, none⟩ (.float .f64 y0)).alloc (.cells #[.float .f64 0, .float .f64 0, .float .f64 0, .float .f64 0] 63)).ownsRow w.heap.size 50 2 (.slice (some ⟨w.heap.size, 0, none⟩) 1 (parts + 1)) 1 (pc [(x0, y0)])) := Lib.hid (by
    refine World.ownsRow.alloc ⟨rfl, .inr ⟨w.heap.size, parts + 1, _, rfl, Nat.le_refl _, HB2.out, by omega, by unfold maxLen; omega, by simp; exact HBLK.out, ?_⟩⟩ _
    have hb4 : 2 ≤ blk.size := by rw [HBLK.out]; omega
    obtain ⟨l⟩ := blk
    match l, hb4 with
    | c0 :: c1 :: l, _ => rfl)
  have hc1 := Re.cur_pos hT hS (by omega) hp1 hp2 (k := 1) (Nat.le_refl _) (by omega)
  have hfi : ∀ z : Int, floatOfInt FloatKind.f64 z = Re.fi z := fun _ => rfl
  go_enter Try.func24, Try.ntmps24
  go_wp2
  go_loopw [9, 10, 11, 12, 14] (fun v sv pv cv iv wr => ∃ (i st P : Nat) (outs : List (Nat × Nat)), i + 1 ≤ n ∧ iv = .int .i64 i ∧ sv = .int .i64 st ∧ (1 ≤ st ∧ st ≤ parts + 1) ∧ pv = .float .f64 P ∧ cv = .float .f64 (Re.cur T parts st) ∧
      Hid (IsI P (Re.SN X Y i : Int)) ∧ Hid (outs.length = st ∧ Outs ps X Y T parts outs) ∧ Hid (((Re.SN X Y i : Nat) : Rat) < val (Re.cur T parts st)) ∧ Hid (∃ cs, Blk wr (w.heap.size + 1) cs 63 ∧ cs.size = 4) ∧
      Hid (wr.ownsRow w.heap.size 50 2 v st (pc outs)) ∧ Below w.heap.size w wr) (fun _ _ _ _ iv _ => n - (intOf iv).toNat)
  case atStart =>
    refine ⟨0, 1, 0, [(x0, y0)], by omega, rfl, rfl, ⟨Nat.le_refl _, by omega⟩, rfl, rfl, Lib.hid isI_lit0, Lib.hid ⟨rfl, ?_, ?_⟩, Lib.hid ?_, hbb, hoo, HBW2.out.alloc (by simp [hsz0]) _⟩
    · rw [hp0]; rfl
    · intro k h1 h2; simp at h2; omega
    · exact hc1
  case round =>
    obtain ⟨i, st, P, outs, hi1, rfl, rfl, hst, rfl, rfl, HP, HOU, HC, HBK, HOW, hb⟩ := hrel
    obtain ⟨wo, rfl⟩ : ∃ wo : World, wo = wr := ⟨_, rfl⟩
    by_cases hlt : i + 1 < n
    · have hil : i < ps.length := by have := HN.out; omega
      have hjl : i + 1 < ps.length := by have := HN.out; omega
      have hpi : ps[i]? = some ps[i] := List.getElem?_eq_getElem hil
      have hpj : ps[i + 1]? = some ps[i + 1] := List.getElem?_eq_getElem hjl
      obtain ⟨ia, sa⟩ := HD.out i _ hpi
      obtain ⟨ib, sb⟩ := HD.out (i + 1) _ hpj
      obtain ⟨c0, c1⟩ := HPS.out i _ hpi
      obtain ⟨d0, d1⟩ := HPS.out (i + 1) _ hpj
      obtain ⟨D, dc, dI⟩ := HDIS.out i (by omega)
      obtain ⟨⟨x, y⟩, hpe⟩ : ∃ p, p = ps[i] := ⟨_, rfl⟩
      obtain ⟨⟨x1, y1⟩, hpe1⟩ : ∃ p, p = ps[i + 1] := ⟨_, rfl⟩
      rw [← hpe] at ia c0 c1 hpi
      rw [← hpe1] at ib d0 d1 hpj
      simp only [Nat.zero_add] at c0 c1 d0 d1
      have hgw : g < w.heap.size := World.block_lt_of_cell? w ⟨g, _, none⟩ c0
      have hgdw : gd < w.heap.size := World.block_lt_of_cell? w ⟨gd, _, none⟩ dc
      have c0' := cell_later hb c0
      have c1' := cell_later hb c1
      obtain ⟨cs, hbk, hcs⟩ := HBK.out
      obtain ⟨⟨v0, s0⟩, f0, ⟨v1, s1⟩, f1, ⟨v2, s2⟩, f2, ⟨v3, s3⟩, f3, hbk4⟩ := blk4 hbk hcs (.float .f64 x) (.float .f64 y) (.float .f64 x1) (.float .f64 y1)
      have hb2 := (hb.setCell (p := ⟨w.heap.size + 1, 0, none⟩) (by simp) (.float .f64 x)).setCell (p := ⟨w.heap.size + 1, 1, none⟩) (by simp) (.float .f64 y)
      have hb4 := (hb2.setCell (p := ⟨w.heap.size + 1, 2, none⟩) (by simp) (.float .f64 x1)).setCell (p := ⟨w.heap.size + 1, 3, none⟩) (by simp) (.float .f64 y1)
      have d0' := cell_later hb2 d0
      have d1' := cell_later hb2 d1
      have dc' := cell_later hb4 dc
      have hne := blk_ne hbk HOW.out (by decide)
      have how4 := ownsRow_setCell_other (ownsRow_setCell_other (ownsRow_setCell_other (ownsRow_setCell_other HOW.out (a := ⟨w.heap.size + 1, 0, none⟩) hne (.float .f64 x)) (a := ⟨w.heap.size + 1, 1, none⟩) hne (.float .f64 y)) (a := ⟨w.heap.size + 1, 2, none⟩) hne (.float .f64 x1)) (a := ⟨w.heap.size + 1, 3, none⟩) hne (.float .f64 y1)
      have hSi : Re.SN X Y (i + 1) = Re.SN X Y i + Re.dN X Y i := rfl
      have hSle : Re.SN X Y (i + 1) ≤ S := by rw [HSE.out]; exact Re.SN_mono (by omega)
      have nI0 := isI_add HP.out dI (by omega)
      have nI : IsI (fadd P D) ((Re.SN X Y (i + 1) : Nat) : Int) := by rw [hSi]; exact nI0
      have hadd := run_fadd (P := Try.prog) HP.out.1 dI.1 24
      obtain ⟨nx, hnx⟩ : ∃ nx, nx = fadd P D := ⟨_, rfl⟩
      rw [← hnx] at nI hadd
      have HNI := Lib.hid nI
      have HDI := Lib.hid dI
      have HIA := Lib.hid (And.intro ia sa)
      have HIB := Lib.hid (And.intro ib sb)
      have HPI := Lib.hid hpi
      have HPJ := Lib.hid hpj
      have HBK4 := Lib.hid hbk4
      have HOW4 := Lib.hid how4
      have HB4 := Lib.hid hb4
      have HSI := Lib.hid hSi
      have hii : (i : Int) < n := by omega
      have hij : (i : Int) + 1 < n := by omega
      have hik : (i : Int) < ((n - 1 : Nat) : Int) := by omega
      clear hpe hpe1 ia sa ib sb c0 c1 d0 d1 dc dI hb hb2 hb4 hbk hcs hbk4 hne how4 hSi nI0 nI hnx hpi hpj hil
      have HJL := Lib.hid hjl
      clear hjl
      go_wp2
      rw [show decide ((i : Int) < (n : Int) - 1) = true from decide_eq_true (by omega)]
      go_loopw [9, 10, 12] (fun v sv cv wi => ∃ (st : Nat) (outs : List (Nat × Nat)), sv = .int .i64 st ∧ (1 ≤ st ∧ st ≤ parts + 1) ∧ cv = .float .f64 (Re.cur T parts st) ∧
        Hid (outs.length = st ∧ Outs ps X Y T parts outs) ∧ Hid (((Re.SN X Y i : Nat) : Rat) < val (Re.cur T parts st)) ∧ Hid (Blk wi (w.heap.size + 1) #[.float .f64 x, .float .f64 y, .float .f64 x1, .float .f64 y1] 63) ∧
        Hid (wi.ownsRow w.heap.size 50 2 v st (pc outs)) ∧ Below w.heap.size w wi) (fun _ sv _ _ => parts + 1 - (intOf sv).toNat)
      case atStart => exact ⟨st, outs, rfl, hst, rfl, HOU, HC, HBK4, HOW4, HB4.out⟩
      case round =>
        clear hst HOU HC HBK HOW HBK4 HOW4 HB4
        obtain ⟨st, outs, rfl, hst, rfl, HOU, HC, HBK, HOW, hb⟩ := hrel
        obtain ⟨c, hce⟩ : ∃ c, c = Re.cur T parts st := ⟨_, rfl⟩
        have hcn := (Re.cur_near hT (by omega) hp1 hp2 (k := st) (by omega)).1
        have hHC := HC.out
        rw [← hce] at hcn hHC ⊢
        have htest := le_test hcn HNI.out
        have HCE := Lib.hid hce
        have HCN := Lib.hid hcn
        have HHC := Lib.hid hHC
        clear hce hcn hHC
        by_cases hle : val c ≤ ((Re.SN X Y (i + 1) : Nat) : Rat)
        · rw [decide_eq_true hle] at htest
          have HLE := Lib.hid hle
          have hstp : st ≤ parts := st_le hT hS hS3 hp1 hp2 hst.2 hSle HCE.out hle
          have hle2 : Re.SN X Y (i + 1) ≤ 262144 := by clear hdiv1 hmake; omega
          obtain ⟨ff, hvf, hdv, fq, fsx, fmx, fsy, fmy, _, _⟩ := step_facts HIA.out.1.1 HIA.out.1.2 HIB.out.1.1 HIB.out.1.2 (hsm i (by omega)) (hsm (i + 1) (by omega)) HP.out HCN.out HHC.out hle HDI.out hle2
          have rsub := run_fsub (P := Try.prog) HCN.out HP.out.1 24
          obtain ⟨f, hfe⟩ : ∃ f, f = fsub c P := ⟨_, rfl⟩
          rw [← hfe] at ff hvf hdv rsub fq fmx fmy
          have rquo := run_fdiv (P := Try.prog) hdv 24
          have rsx := run_fsub (P := Try.prog) HIB.out.1.1.1 HIA.out.1.1.1 24
          have rmx := run_fmul (P := Try.prog) fq fsx 24
          have rax := run_fadd (P := Try.prog) HIA.out.1.1.1 fmx 24
          have rsy := run_fsub (P := Try.prog) HIB.out.1.2.1 HIA.out.1.2.1 24
          have rmy := run_fmul (P := Try.prog) fq fsy 24
          have ray := run_fadd (P := Try.prog) HIA.out.1.2.1 fmy 24
          obtain ⟨nf1, nf2, nf3⟩ := next_facts hT bT hS hS3 hp1 hp2 (st := st) hstp
          have rmt := run_fmul (P := Try.prog) hT.1 nf1 24
          have rdt := run_fdiv (P := Try.prog) nf2 24
          rw [nf3] at rdt
          have HVF := Lib.hid hvf
          have HFF := Lib.hid ff
          have HFE := Lib.hid hfe
          have hst1 : (st : Int) ≤ parts := by omega
          have hst0 : (0 : Int) ≤ st := by omega
          obtain ⟨m0, n0⟩ := blk_cell HBK.out (i := 0) (v := .float .f64 x) rfl
          obtain ⟨m1, n1⟩ := blk_cell HBK.out (i := 1) (v := .float .f64 y) rfl
          obtain ⟨m2, n2⟩ := blk_cell HBK.out (i := 2) (v := .float .f64 x1) rfl
          obtain ⟨m3, n3⟩ := blk_cell HBK.out (i := 3) (v := .float .f64 y1) rfl
          have HB := Lib.hid hb
          clear hb hle hvf ff hfe hdv fq fsx fmx fsy fmy nf1 nf2 nf3 hle2
          have how := HOW.out
          go_wp2_with (at_builtin; refine wpList_append_own _ rfl _ _ 36 rfl w.heap.size 50 i0 (.agg #[.float .f64 0, .float .f64 0]) 2 16 Try.underlying36 hi hz0 hz1 hz2 rfl (by decide) _ _ _ rfl (how.alloc _) ⟨wr.heap.size, 0, none⟩ 1 1 [.float .f64 (Re.ptA x x1 f D), .float .f64 (Re.ptA y y1 f D)] rfl rfl ?c1 ?c2 ?c3 ?c4 ?c5 ?_)
          case c1 =>
            intro j u hj
            match j, hj with
            | 0, hj => simp at hj; subst hj; simp [Re.ptA]
            | 1, hj => simp at hj; subst hj; simp [Re.ptA]
          case c2 => simp [Value.oneCell']
          case c3 => unfold maxLen; omega
          case c4 => omega
          case c5 => have := HB.out.size; simp; omega
          intro v' w1 hown' hgrow _
          have HOWN := Lib.hid hown'
          have HGR := Lib.hid hgrow
          clear hown' hgrow how m0 m1 m2 m3 n0 n1 n2 n3 rsub rquo rsx rmx rax rsy rmy ray
          have HST := Lib.hid hstp
          have hst100 : st + 1 ≤ 101 := by omega
          have hst' : 1 ≤ st + 1 ∧ st + 1 ≤ parts + 1 := by omega
          by_cases hsp : st + 1 = parts
          · have hspi : ((st : Int) + 1 = parts) := by omega
            have HSP := Lib.hid hsp
            clear hsp
            have hcT : Hid (Re.cur T parts (st + 1) = T) := Lib.hid (by rw [HSP.out]; unfold Re.cur; rw [if_pos rfl])
            rw [hspi] at rmt rdt
            go_wp2
            go_roundw
            case rel =>
              have hr := inner_rel (p := (Re.ptA x x1 f D, Re.ptA y y1 f D)) HB.out HBK.out (by decide) HOW.out HOWN.out HGR.out
              have h := HCE.out
              have h1 := HVF.out
              have h2 := HHC.out
              have h3 := HLE.out
              rw [h] at h1 h2 h3
              have hs := outs_snoc hst.1 HOU.out HJL.out HPI.out HPJ.out HDI.out HFF.out h1 h2 h3
              have hs1 := Re.cur_step hT hS hS3 hp1 hp2 (k := st) hst100
              have hs2 := rat_lt_trans h2 hs1
              have hz : (.int .i64 (parts : Int) : Value) = .int .i64 ((st + 1 : Nat) : Int) := by rw [HSP.out]
              exact ⟨st + 1, _, hz, hst', by rw [hcT.out], Lib.hid hs, Lib.hid hs2, Lib.hid hr.1, Lib.hid hr.2.1, hr.2.2⟩
            case measure => simp [intOf]; omega
          · have hspi : ¬ ((st : Int) + 1 = parts) := by omega
            go_wp2
            go_roundw
            case rel =>
              have hr := inner_rel (p := (Re.ptA x x1 f D, Re.ptA y y1 f D)) HB.out HBK.out (by decide) HOW.out HOWN.out HGR.out
              have h := HCE.out
              have h1 := HVF.out
              have h2 := HHC.out
              have h3 := HLE.out
              rw [h] at h1 h2 h3
              have hs := outs_snoc hst.1 HOU.out HJL.out HPI.out HPJ.out HDI.out HFF.out h1 h2 h3
              have hs1 := Re.cur_step hT hS hS3 hp1 hp2 (k := st) hst100
              have hs2 := rat_lt_trans h2 hs1
              exact ⟨st + 1, _, by go_num, hst', by go_num, Lib.hid hs, Lib.hid hs2, Lib.hid hr.1, Lib.hid hr.2.1, hr.2.2⟩
            case measure => simp [intOf]; omega
        · rw [decide_eq_false hle] at htest
          have HLE := Lib.hid hle
          clear hle
          have HB := Lib.hid hb
          clear hb
          go_wp2
          go_roundw
          case rel =>
            have hci := HCE.out
            have hle' := HLE.out
            rw [hci] at hle' ⊢
            have hlt' : ((Re.SN X Y (i + 1) : Nat) : Rat) < val (Re.cur T parts st) := Rat.not_le.1 hle'
            have HLT := Lib.hid hlt'
            have hij2 : i + 1 + 1 ≤ n := Nat.succ_le_of_lt hlt
            have hbk : Hid (∃ cs, Blk wr (w.heap.size + 1) cs 63 ∧ cs.size = 4) := Lib.hid ⟨_, HBK.out, rfl⟩
            exact ⟨i + 1, st, nx, outs, hij2, by go_num, rfl, hst, rfl, rfl, HNI, HOU, HLT, hbk, HOW, HB.out⟩
          case measure => simp [intOf]; omega
    · have hin : i = n - 1 := by omega
      have htop := st_top hT hS hS3 hp1 hp2 hst.2 (by rw [HSE.out, hin]) HC.out
      subst htop
      subst hin
      have hown := HOW.out
      obtain ⟨ao, capv, rfl, hf⟩ := owns_form hown
      obtain ⟨gs, rfl, hgs, hgsz, hcap, hcm⟩ := hf (by omega)
      have hil : n - 1 < ps.length := by have := HN.out; omega
      have hpl : ps[n - 1]? = some ps[n - 1] := List.getElem?_eq_getElem hil
      obtain ⟨c0, c1⟩ := HPS.out (n - 1) _ hpl
      obtain ⟨⟨x, y⟩, hpe⟩ : ∃ p, p = ps[n - 1] := ⟨_, rfl⟩
      rw [← hpe] at hpl c0 c1
      simp only [Nat.zero_add] at c0 c1
      have c0' := cell_later hb c0
      have c1' := cell_later hb c1
      have hlen : (pc outs).length = (parts + 1) * 2 := by rw [pc_length, HOU.out.1]
      obtain ⟨v0, e0⟩ : ∃ v0, wo.cell? ⟨gs, parts * 2, none⟩ = some v0 := ⟨_, by rw [hown.cellAt (parts * 2) (by omega)]; exact List.getElem?_eq_getElem (by omega)⟩
      have f0 : wo.frozen? ⟨gs, parts * 2, none⟩ = false := hown.frozenAt _
      obtain ⟨hown1, _⟩ := hown.stored (parts * 2) (.float .f64 x)
      obtain ⟨v1, e1⟩ : ∃ v1, (wo.setCell ⟨gs, parts * 2, none⟩ (.float .f64 x)).cell? ⟨gs, parts * 2 + 1, none⟩ = some v1 := ⟨_, by rw [hown1.cellAt (parts * 2 + 1) (by omega)]; exact List.getElem?_eq_getElem (by simp; omega)⟩
      have f1 : (wo.setCell ⟨gs, parts * 2, none⟩ (.float .f64 x)).frozen? ⟨gs, parts * 2 + 1, none⟩ = false := hown1.frozenAt _
      obtain ⟨hown2, _⟩ := hown1.stored (parts * 2 + 1) (.float .f64 y)
      rw [pc_set outs (x, y) parts] at hown2
      have HFIN := Lib.hid hown2
      have HPL := Lib.hid hpl
      have HBF := Lib.hid ((hb.setCell (p := ⟨gs, parts * 2, none⟩) hgs (.float .f64 x)).setCell (p := ⟨gs, parts * 2 + 1, none⟩) hgs (.float .f64 y))
      have hnc : (n : Int) - 1 = ((n - 1 : Nat) : Int) := by omega
      clear hown hown1 hown2 hpl hpe c0 c1 hb hlen hf hcm hgsz hi1
      go_wp2
      go_ret
      exact ⟨_, outs, (x, y), rfl, HPL.out, HFIN.out, HOU.out.1, HOU.out.2, HBF.out⟩
end Go.Proofs.Ytoibohoelcdomaa
