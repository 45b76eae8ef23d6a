/- The rows with the laid variable: what each of them shares. -/
import Derived.Test.YtpbhpplmokdkhaaDoorCards
import Derived.Test.YtpbhpplmokdkhaaDoorTie
import Derived.Test.YtpbhpplmokdkhaaDoorOpen
import Derived.WalkKit
import Derived.ProofKit
import Derived.OpenShut
import Derived.OpenVars
import Derived.Deep.DeepHandedRow
namespace Go.Proofs.YtpbhpplmokdkhaaDoor
open Go.ChangeShapes Go.WideShapes Go.ChangeAt Go.RowKit Go.Deep Fl

section
variable {H : Type} {enc : TypeId × Value → H}
theorem trodAll_below {P : Program} (hl : laidOutB P = true) {W W' : World} (hb : Below W.heap.size W W') : ∀ {ts : List TypeId} {vs : List Value} {ds : List (DataW H)} {ps : List MemPlace}, (ts.all fun t => P.readableRec t && decide (t < P.types.size)) = true →
    DataW.TrodAll enc P W 0 (fun _ => true) true ts vs ds ps → (∀ x ∈ ps, x.block < W.heap.size) → DataW.TrodAll enc P W' 0 (fun b => decide (b < W.heap.size)) true ts vs ds ps
  | [], vs, ds, ps, _, h, _ => by
    obtain ⟨rfl, rfl, rfl⟩ := trodAll_nil h
    exact trodAll_mk0
  | t :: ts, vs, ds, ps, hr, h, hlt => by
    obtain ⟨v, vs', d, ds', p, q, rfl, rfl, rfl, h0, h1⟩ := trodAll_cons h
    simp only [List.all_cons, Bool.and_eq_true, decide_eq_true_eq] at hr
    exact trodAll_cons_mk (Below.trod hl hr.1.1 hr.1.2 h0 hb (fun x hx => hlt x (by simp [hx]))) (trodAll_below hl hb hr.2 h1 (fun x hx => hlt x (by simp [hx])))
/-- What is behind a call that answers true and has turned nothing. -/
theorem door_post {P : Program} (hl : laidOutB P = true) {f : Func} {s : ChangeSpec} {W W' : World} {args : Array Value} {ds gs : List (DataW H)} {before : List MemPlace} {tb : TypeId} (hub : P.underlying tb = some .bool)
    (hrt : f.resultTypes = #[tb]) (hpr : (f.params.toList.all fun t => P.readableRec t && decide (t < P.types.size)) = true) (hvr : varsRowed P s.vars = true)
    (hs : s.fn H (ds ++ gs) = ({ results := [.lit (.bool true)], args := ds, vars := gs } : Left H))
    (hW : DataW.Whole enc P f.params.toList s.vars false W args.toList ds gs before) (hb : Below W.heap.size W W') : s.post enc P f false true false false W args (.bool true) W' := by
  have hlt : ∀ x ∈ before, x.block < W.heap.size := fun x hx => by simpa using hW.lt x hx
  have hW' := hW
  obtain ⟨p, q, hA, hV, rfl, _, _⟩ := hW
  refine ⟨ds, gs, p ++ q, [], p, q, hW', ?_, ?_, ?_, hb.frame _, fun h => by cases h⟩
  · rw [hs, hrt]; exact trodAll_mk1 (shut_bool hub true)
  · rw [hs]; exact trodAll_below hl hb hpr hA (fun x hx => hlt x (by simp [hx]))
  · rw [hs]; exact Below.trodVars hl hb hvr hV
theorem one_var {P : Program} {W : World} {sp : Nat → Bool} {n : String} {gs : List (DataW H)} {ps : List MemPlace} (h : DataW.TrodVars enc P W sp [n] gs ps) : ∃ g, gs = [g] := by
  cases gs with
  | nil => exact h.elim
  | cons g gs =>
    obtain ⟨_, _, _, _, _, _, _, _, _, _, hs, _⟩ := h
    exact ⟨g, by rw [(trodVars_none hs).1]⟩
end

/-- A world for the witness: the variable holds what its initialiser lays. -/
noncomputable def laidWorld (os : Os) : World :=
  { World.holding Tryd.prog os ⟨#[], #[], []⟩ with heap := (World.holding Tryd.prog os ⟨#[], #[], []⟩).heap.modify 1 fun
      | .cells _ t frozen => .cells #[.float .f64 4607182418800017408, .float .f64 4607182418800017408, .float .f64 13830554455654793216, .float .f64 13830554455654793216] t frozen
      | o => o }
theorem reads_of {α β γ : Type} {x : Option (α × β × γ)} {a : α} {b : β} (h1 : x.map (·.1) = some a) (h2 : x.map (·.2.1) = some b) : ∃ c, x = some (a, b, c) := by
  cases x with
  | none => cases h1
  | some y =>
    obtain ⟨p, q, r⟩ := y
    simp only [Option.map_some, Option.some.injEq] at h1 h2
    exact ⟨r, by rw [h1, h2]⟩
set_option maxRecDepth 100000 in
/-- A point among the arguments. -/
theorem open_ipoint {H : Type} {enc : TypeId × Value → H} {W : World} {b0 : Nat} {r : Reach} {v : Value} {d : DataW H} {p : List MemPlace} {held : Bool}
    (hval : Value.okWide Tryd.prog W r b0 31 v) (h : DataW.Trod enc Tryd.prog W 0 (fun _ => true) held 31 v d p) :
    ∃ q : Nat × Nat, v = .agg #[.float .f64 q.1, .float .f64 q.2] ∧ q.1 < 18446744073709551616 ∧ q.2 < 18446744073709551616 := by
  obtain ⟨cs, rfl, hsz⟩ := okWide_struct Tryd.underlying31 hval
  obtain ⟨fuel, hf⟩ := h
  obtain ⟨f0, f1, hu, o0, o1, t0, t1⟩ := fields_ipoint
  obtain ⟨y0, y1, n, _, hl, u0, u1⟩ := trod_struct2 hu hf
  rw [o0, t0, cells_f64] at u0
  rw [o1, t1, cells_f64] at u1
  obtain ⟨x, e1, _, w1⟩ := trod_float Tryd.underlying27 u0
  obtain ⟨y, e2, _, w2⟩ := trod_float Tryd.underlying27 u1
  refine ⟨(x, y), ?_, wf_lt w1, wf_lt w2⟩
  rw [cells_ipoint] at hl
  obtain ⟨l⟩ := cs
  simp only [Value.cells] at hl e1 e2
  match l, hl with
  | [a, b], _ =>
    simp at e1 e2
    rw [e1, e2]

/-- What the variable reads as there. -/
def ebD (H : Type) : DataW H := .agg [.agg [.lit (.float .f64 4607182418800017408), .lit (.float .f64 4607182418800017408)], .agg [.lit (.float .f64 13830554455654793216), .lit (.float .f64 13830554455654793216)]]
theorem row_isI {b : Nat} (h : (Lit.float .f64 b).wf = true) : b < 18446744073709551616 := wf_lt h
end Go.Proofs.YtpbhpplmokdkhaaDoor
