/- Memory of the walks: blocks of cells, what stays. -/
import Derived.Test.YtpbhpplmokdkhaaDoorAre
import Derived.StillTailTactics
import Derived.Deep.LoopGhost
import Derived.Deep.RegionHeld3
import Derived.IntWalk
import Derived.Deep.QuietTactic
import Derived.BigQuiet
import Derived.Laws.ResultCell
import Derived.Laws.Rows
namespace Go.Proofs.YtpbhpplmokdkhaaDoor
open Go.RowKit Fl

section
variable {w wr w1 : World} {r : Option Nat}
theorem gb_alloc (h : w.grownBy wr r) (o : Obj) : w.grownBy (wr.alloc o) r :=
  ⟨h.os, h.tape, h.output, by have := h.size; simp; omega, fun k hk hr => (Below.heap_alloc wr o k (by have := h.size; omega)).trans (h.block k hk hr)⟩
theorem gb_below (h : w.grownBy wr r) (hb : Below wr.heap.size wr w1) : w.grownBy w1 r :=
  ⟨hb.os.trans h.os, hb.tape.trans h.tape, hb.output.trans h.output, Nat.le_trans h.size hb.size, fun k hk hr => (hb.block k (Nat.lt_of_lt_of_le hk h.size)).trans (h.block k hk hr)⟩
theorem gb_own {r2 : Option Nat} (h : w.grownBy wr r) (hg : wr.grownBy w1 r2) (hr2 : ∀ k, r2 = some k → w.heap.size ≤ k) : w.grownBy w1 r :=
  ⟨hg.os.trans h.os, hg.tape.trans h.tape, hg.output.trans h.output, Nat.le_trans h.size hg.size, fun k hk hr => (hg.block k (Nat.lt_of_lt_of_le hk h.size) (fun e => by have := hr2 k e.symm; omega)).trans (h.block k hk hr)⟩
theorem gb_set {gm : Nat} (h : w.grownBy wr (some gm)) (o : Nat) (u : Value) : w.grownBy (wr.setCell ⟨gm, o, none⟩ u) (some gm) :=
  ⟨h.os, h.tape, h.output, by have := h.size; simpa using this, fun k hk hr => (Below.heap_setCell wr ⟨gm, o, none⟩ u k (fun e => hr (by rw [e]))).trans (h.block k hk hr)⟩
theorem gb_refl (w : World) (r : Option Nat) : w.grownBy w r := ⟨rfl, rfl, rfl, Nat.le_refl _, fun _ _ _ => rfl⟩
theorem gb_drew (h : w.grownBy wr r) : w.grownBy wr.drew r := ⟨h.os, h.tape, h.output, h.size, h.block⟩
theorem pts_grown {g : Nat} {ps : List (Nat × Nat)} (hps : PtsAt w g 0 ps) (h : w.grownBy wr r) (hr : some g ≠ r) : PtsAt wr g 0 ps := by
  intro i p hp
  have := hps i p hp
  exact ⟨h.cell this.1 hr, h.cell this.2 hr⟩
theorem owns_form {base : Nat} {e : TypeId} {size : Nat} {v : Value} {n : Nat} {xs : List Value} (h : w.ownsRow base e size v n xs) :
    ∃ ao cap, v = .slice ao n cap ∧ (0 < n → ∃ g, ao = some ⟨g, 0, none⟩ ∧ base ≤ g ∧ g < w.heap.size ∧ n ≤ cap ∧ cap ≤ maxLen) := by
  rcases h.2 with ⟨rfl, rfl⟩ | ⟨g, cap, cur, rfl, hb, hg, hn, hc, _⟩
  · exact ⟨_, _, rfl, fun h => by omega⟩
  · exact ⟨_, _, rfl, fun _ => ⟨g, rfl, hb, (Array.getElem?_eq_some_iff.1 hg).1, hn, hc⟩⟩
end
theorem keep4 {w w2 : World} {a b c d : Addr} {va vb vc vd : Value} (hb : Below w.heap.size w w2) (h : w.cell? a = some va ∧ w.cell? b = some vb ∧ w.cell? c = some vc ∧ w.cell? d = some vd) :
    w2.cell? a = some va ∧ w2.cell? b = some vb ∧ w2.cell? c = some vc ∧ w2.cell? d = some vd :=
  ⟨cell_later hb h.1, cell_later hb h.2.1, cell_later hb h.2.2.1, cell_later hb h.2.2.2⟩
theorem cell_other {w : World} {a b : Addr} {u v : Value} (hne : a.block ≠ b.block) (h : w.cell? b = some v) : (w.setCell a u).cell? b = some v :=
  (World.cell?_of_block (Below.heap_setCell w a u b.block (fun e => hne e.symm))).trans h
theorem cell_set_eq' {w : World} {g o : Nat} {v : Value} (h : w.cell? ⟨g, o, none⟩ = some v) (u : Value) : (w.setCell ⟨g, o, none⟩ u).cell? ⟨g, o, none⟩ = some u := by
  unfold World.cell? at h
  unfold World.setCell World.cell?
  simp only [Array.getElem?_modify]
  cases hh : w.heap[g]? with
  | none => simp [hh] at h
  | some ob =>
    cases ob with
    | cells cc ee ff =>
      simp only [hh] at h
      simp at h
      obtain ⟨hlt, _⟩ := Array.getElem?_eq_some_iff.1 h
      simp [hlt]
    | _ => simp [hh] at h
theorem keep4s {w : World} {g gd k : Nat} {o1 o2 o3 o4 : Nat} {u va vb vc vd : Value} (hne : gd ≠ g) (h : w.cell? ⟨g, o1, none⟩ = some va ∧ w.cell? ⟨g, o2, none⟩ = some vb ∧ w.cell? ⟨g, o3, none⟩ = some vc ∧ w.cell? ⟨g, o4, none⟩ = some vd) :
    (w.setCell ⟨gd, k, none⟩ u).cell? ⟨g, o1, none⟩ = some va ∧ (w.setCell ⟨gd, k, none⟩ u).cell? ⟨g, o2, none⟩ = some vb ∧ (w.setCell ⟨gd, k, none⟩ u).cell? ⟨g, o3, none⟩ = some vc ∧ (w.setCell ⟨gd, k, none⟩ u).cell? ⟨g, o4, none⟩ = some vd :=
  ⟨cell_other hne h.1, cell_other hne h.2.1, cell_other hne h.2.2.1, cell_other hne h.2.2.2⟩
theorem cell_alloc {w : World} {a : Addr} {v : Value} (h : w.cell? a = some v) (o : Obj) : (w.alloc o).cell? a = some v := cell_later ((Below.refl w.heap.size w).alloc (Nat.le_refl _) o) h
/-- A block of cells, whole. -/
def Blk (w : World) (b : Nat) (cs : Array Value) (T : TypeId) : Prop := w.heap[b]? = some (.cells cs T (0, 0))
theorem blk_cell {w : World} {b : Nat} {cs : Array Value} {T : TypeId} (h : Blk w b cs T) {i : Nat} {v : Value} (hi : cs[i]? = some v) : w.cell? ⟨b, i, none⟩ = some v ∧ w.frozen? ⟨b, i, none⟩ = false := by
  unfold Blk at h
  exact ⟨by simp [World.cell?, h, hi], by simp [World.frozen?, h]⟩
theorem blk_set {w : World} {b : Nat} {cs : Array Value} {T : TypeId} (h : Blk w b cs T) (i : Nat) (u : Value) : Blk (w.setCell ⟨b, i, none⟩ u) b (cs.setIfInBounds i u) T := heap_setCell_same w b i cs T u h
theorem cell_other' {w : World} {b i j : Nat} {u : Value} (h : i ≠ j) : (w.setCell ⟨b, i, none⟩ u).cell? ⟨b, j, none⟩ = w.cell? ⟨b, j, none⟩ := by
  unfold World.setCell World.cell?
  simp only [Array.getElem?_modify]
  cases hh : w.heap[b]? with
  | none => simp
  | some ob =>
    cases ob <;> simp only [if_true, Option.map_some]
    simp [h]
theorem blk_below {w w' : World} {b B : Nat} {cs : Array Value} {T : TypeId} (h : Blk w b cs T) (hb : Below B w w') (hB : b < B) : Blk w' b cs T := (hb.block b hB).trans h
theorem blk_ne {w : World} {base e : Nat} {size : Nat} {v : Value} {n : Nat} {xs : List Value} {b : Nat} {cs : Array Value} {T : TypeId} (h : Blk w b cs T) (ho : w.ownsRow base e size v n xs) (hT : T ≠ e) : v.ownBlock ≠ some b := by
  rcases ho.2 with ⟨rfl, _⟩ | ⟨g, cap, cur, rfl, _, hg, _⟩
  · simp [Value.ownBlock]
  · simp only [Value.ownBlock]
    intro he
    have : g = b := by simpa using he
    subst this
    unfold Blk at h
    rw [hg] at h
    simp at h
    exact hT h.2.symm

theorem two_new (w : World) (u v : Value) (T : TypeId) : (w.alloc (.cells #[u, v] T)).cell? ⟨w.heap.size, 0, none⟩ = some u ∧ (w.alloc (.cells #[u, v] T)).cell? ⟨w.heap.size, 1, none⟩ = some v :=
  ⟨(blk_cell (heap_alloc_new w (.cells #[u, v] T)) (i := 0) rfl).1, (blk_cell (heap_alloc_new w (.cells #[u, v] T)) (i := 1) rfl).1⟩
theorem blk_drewN {w : World} {b m : Nat} {cs : Array Value} {T : TypeId} (h : Blk w b cs T) : Blk (w.drewN m) b cs T := h
theorem blk_drew {w : World} {b : Nat} {cs : Array Value} {T : TypeId} (h : Blk w b cs T) : Blk w.drew b cs T := h
theorem blk_other {w : World} {b g i : Nat} {u : Value} {cs : Array Value} {T : TypeId} (h : Blk w b cs T) (hne : b ≠ g) : Blk (w.setCell ⟨g, i, none⟩ u) b cs T := (Below.heap_setCell w ⟨g, i, none⟩ u b hne).trans h
/-- Four cells of one place. -/
def Four (w : World) (b o1 o2 o3 o4 : Nat) (x y x1 y1 : Nat) : Prop :=
  w.cell? ⟨b, o1, none⟩ = some (.float .f64 x) ∧ w.cell? ⟨b, o2, none⟩ = some (.float .f64 y) ∧ w.cell? ⟨b, o3, none⟩ = some (.float .f64 x1) ∧ w.cell? ⟨b, o4, none⟩ = some (.float .f64 y1)
theorem Four.drewN {w : World} {b o1 o2 o3 o4 x y x1 y1 m : Nat} (h : Four w b o1 o2 o3 o4 x y x1 y1) : Four (w.drewN m) b o1 o2 o3 o4 x y x1 y1 := h
theorem Four.drew {w : World} {b o1 o2 o3 o4 x y x1 y1 : Nat} (h : Four w b o1 o2 o3 o4 x y x1 y1) : Four w.drew b o1 o2 o3 o4 x y x1 y1 := h
theorem Four.set {w : World} {b o1 o2 o3 o4 x y x1 y1 g i : Nat} {u : Value} (h : Four w b o1 o2 o3 o4 x y x1 y1) (hne : g ≠ b) : Four (w.setCell ⟨g, i, none⟩ u) b o1 o2 o3 o4 x y x1 y1 := keep4s hne h
theorem results_row_tmp {P : Program} {fn : Func} {p u : Tmp} {ty : TypeId} (h : fn.results = #[.cell p ty, .tmp u]) (tmps : Array Value) (w : World) (g : Nat) (t : TypeId) (cs : Array Value) (fr : Nat × Nat) (d : TypeDesc)
    (hp : tmps.getD p undef = .pointer (some ⟨g, 0, none⟩)) (hg : w.heap[g]? = some (.cells cs t fr))
    (hu : P.underlying ty = some d) (hd : (match d with | .struct _ | .array _ _ => true | _ => false) = true) (hi : (P.info? ty).map (·.size) = some cs.size) :
    (results fn tmps).run P w = .ok (.tuple #[.agg cs, tmps.getD u undef]) w := by
  rw [results_cell_tmp h, hp]
  simp [asAddr, run_loadVar_row w g t ty cs fr d hg hu hd hi]
theorem owns_pts {base : Nat} {e : TypeId} {w : World} {v : Value} {n : Nat} {ps : List (Nat × Nat)} (h : w.ownsRow base e 2 v n (pc ps)) (h1 : 1 ≤ n) :
    ∃ g cap, v = .slice (some ⟨g, 0, none⟩) n cap ∧ base ≤ g ∧ g < w.heap.size ∧ n = ps.length ∧ PtsAt w g 0 ps := by
  obtain ⟨hn, hv⟩ := pts_of_owns h
  obtain ⟨ao, cap, rfl, hf⟩ := owns_form h
  obtain ⟨g, rfl, hg1, hg2, _, _⟩ := hf (by omega)
  refine ⟨g, cap, rfl, hg1, hg2, hn, ?_⟩
  obtain ⟨ao', cap', he, h⟩ := hv
  rcases h with h | ⟨b', off', h1, h2⟩
  · rw [h] at hn; simp at hn; omega
  · simp only [Value.slice.injEq] at he
    have h3 := he.1.trans h1
    simp only [Option.some.injEq] at h3
    injection h3 with i1 i2 i3
    rw [i1, i2]; exact h2
theorem size_ipoint : (Tryd.prog.info? 31).map (·.size) = some 2 := by kernel_rfl
theorem size_opoint : (Tryd.prog.info? 69).map (·.size) = some 2 := by kernel_rfl
end Go.Proofs.YtpbhpplmokdkhaaDoor
