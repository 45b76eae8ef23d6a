/- A list of points among the arguments, opened. -/
import Derived.Test.YtpbhpplmokdkhaaDoorAre
import Derived.ProofKit
import Derived.SizedLaws
import Derived.Deep.SlicePairs
namespace Go.Proofs.YtpbhpplmokdkhaaDoor
open Go.ChangeShapes Go.WideShapes Go.ChangeAt Go.RowKit Go.Deep Fl

theorem Tryd.own : ownKnob Tryd.prog.godebug = none := by kernel_rfl
theorem Tryd.laidOut : laidOutB Tryd.prog = true := by kernel_rfl
theorem cells_ipoint : Tryd.prog.cellsOf 31 = 2 := by kernel_rfl
theorem bytes_ipoint : Tryd.prog.bytesOf 31 = 16 := by kernel_rfl
theorem cells_f64 : Tryd.prog.cellsOf 27 = 1 := by kernel_rfl
theorem fields_ipoint : ∃ f0 f1 : Field, Tryd.prog.underlying 31 = some (.struct #[f0, f1]) ∧ f0.offset = 0 ∧ f1.offset = 1 ∧ f0.type = 27 ∧ f1.type = 27 :=
  ⟨_, _, Tryd.underlying31, rfl, rfl, rfl, rfl⟩

section
variable {H : Type} {enc : TypeId × Value → H} {P : Program} {w : World} {base : Nat} {spare : Nat → Bool} {held : Bool}
theorem trod_float {t : TypeId} {k : FloatKind} {fuel : Nat} {cs : List Value} {x : DataW H × List MemPlace} (ht : P.underlying t = some (.float k)) (h : DataW.trod enc P w base spare held fuel t cs = some x) :
    ∃ b, cs = [.float k b] ∧ x = (.lit (.float k b), []) ∧ (Lit.float k b).wf = true := by
  cases fuel with
  | zero => simp [DataW.trod] at h
  | succ n =>
    unfold DataW.trod at h
    rw [ht] at h
    split at h <;> simp_all
theorem wf_lt {b : Nat} (h : (Lit.float .f64 b).wf = true) : b < 18446744073709551616 := by simpa [Lit.wf] using h
end

set_option maxRecDepth 100000 in
/-- A list of points: what it reads as, and how large it may be. -/
theorem open_pts {H : Type} {enc : TypeId × Value → H} {W : World} {b0 : Nat} {r : Reach} {v : Value} {d : DataW H} {p : List MemPlace} {held : Bool}
    (hval : Value.okWide Tryd.prog W r b0 22 v) (h : DataW.Trod enc Tryd.prog W 0 (fun _ => true) held 22 v d p) :
    ∃ ps, IsPts W v ps ∧ Wf ps ∧ (d = .nil ∧ ps.length = 0 ∨ ∃ es ss, d = .slice es ss ∧ es.length = ps.length) := by
  obtain ⟨ao, len, cap, rfl⟩ := okWide_slice Tryd.underlying22 hval
  obtain ⟨fuel, hf⟩ := h
  obtain ⟨f0, f1, hu, o0, o1, t0, t1⟩ := fields_ipoint
  rcases open_slice_pairs Tryd.underlying22 hu cells_ipoint o0 o1 (by rw [t0]; exact cells_f64) (by rw [t1]; exact cells_f64) hf with ⟨hcs, hx⟩ | ⟨a, len', cap', m, n, V0, V1, D0, D1, P0, P1, hcs, _, hl, hm, hmm, hx, hi⟩
  · simp [Value.cells] at hcs
    obtain ⟨rfl, rfl, rfl⟩ := hcs
    simp only [Prod.mk.injEq] at hx
    exact ⟨[], ⟨_, _, rfl, .inl rfl⟩, by intro p hp; simp at hp, .inl ⟨hx.1, rfl⟩⟩
  · simp [Value.cells] at hcs
    obtain ⟨rfl, rfl, rfl⟩ := hcs
    simp only [if_true] at hmm
    subst hmm
    simp only [Prod.mk.injEq] at hx
    have each : ∀ i, i < m → ∃ q : Nat × Nat, W.cell? (a.add (i * 2)) = some (.float .f64 q.1) ∧ W.cell? (a.add (i * 2 + 1)) = some (.float .f64 q.2) ∧ q.1 < 18446744073709551616 ∧ q.2 < 18446744073709551616 := by
      intro i him
      obtain ⟨h1, h2, h3, h4⟩ := hi i him
      rw [t0] at h3
      rw [t1] at h4
      obtain ⟨x, e1, _, w1⟩ := trod_float Tryd.underlying27 h3
      obtain ⟨y, e2, _, w2⟩ := trod_float Tryd.underlying27 h4
      simp only [List.cons.injEq, and_true] at e1 e2
      rw [e1] at h1
      rw [e2] at h2
      exact ⟨(x, y), h1, h2, wf_lt w1, wf_lt w2⟩
    obtain ⟨q, hq⟩ := choose_lt each
    refine ⟨(List.range len).map q, ?_, ?_, .inr ⟨_, _, hx.1, by simp⟩⟩
    · refine ⟨some a, m, by simp, ?_⟩
      by_cases h0 : len = 0
      · left; subst h0; rfl
      · right
        obtain ⟨b, off, spot⟩ := a
        have hspot : spot = none := by simpa [Addr.add] using World.cell?_spot (hq 0 (by omega)).1
        subst hspot
        refine ⟨b, off, rfl, ?_⟩
        intro i p hp
        have hil : i < len := by
          have := (List.getElem?_eq_some_iff.1 hp).1
          simpa using this
        have hpi : p = q i := by
          have : ((List.range len).map q)[i]? = some (q i) := by simp [hil]
          rw [hp] at this
          exact Option.some.inj this
        subst hpi
        have := hq i (by omega)
        rw [add_plain, add_plain] at this
        exact ⟨this.1, by rw [Nat.add_assoc]; exact this.2.1⟩
    · intro p hp
      rw [List.mem_map] at hp
      obtain ⟨i, hi, rfl⟩ := hp
      have := hq i (by have := List.mem_range.1 hi; omega)
      exact ⟨this.2.2.1, this.2.2.2⟩
end Go.Proofs.YtpbhpplmokdkhaaDoor
