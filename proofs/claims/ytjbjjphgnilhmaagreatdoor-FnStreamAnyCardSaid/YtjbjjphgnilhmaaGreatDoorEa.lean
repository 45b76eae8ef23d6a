/- What the bytes seat's two cards share: the errors that are laid, a world where they lie, an argument of bytes. -/
import Derived.Test.YtjbjjphgnilhmaaGreatDoorCards
import Derived.Test.YtjbjjphgnilhmaaGreatDoorTie
import Derived.Test.YtjbjjphgnilhmaaGreatDoorBn
import Derived.WalkKit
import Derived.ProofKit
import Derived.OpenShut
import Derived.OpenVars
import Derived.SizedLaws
import Derived.ChangeSlices
import Derived.MakeChecks
import Derived.Stop.LaidErr
import Derived.RowKitTokens
import Derived.Deep.DeepHandedRow
set_option linter.unusedVariables false
namespace Go.Proofs.YtjbjjphgnilhmaaGreatDoor
open Go.ChangeShapes Go.WideShapes Go.ChangeAt Go.RowKit
set_option maxRecDepth 100000

theorem Tryz.own : ownKnob Tryz.prog.godebug = none := by kernel_rfl
theorem Tryz.laidOut : laidOutB Tryz.prog = true := by kernel_rfl
section
variable {H : Type} {enc : TypeId × Value → H}
theorem trodAll_below {P : Program} (hl : laidOutB P = true) {W W' : World} (hb : Below W.heap.size W W') : ∀ {ts : List TypeId} {vs : List Value} {ds : List (DataW H)} {ps : List MemPlace}, (ts.all fun t => P.readableRec t && decide (t < P.types.size)) = true →
    DataW.TrodAll enc P W 0 (fun _ => true) true ts vs ds ps → (∀ x ∈ ps, x.block < W.heap.size) → DataW.TrodAll enc P W' 0 (fun b => decide (b < W.heap.size)) true ts vs ds ps
  | [], vs, ds, ps, _, h, _ => by
    obtain ⟨rfl, rfl, rfl⟩ := trodAll_nil h
    exact trodAll_mk0
  | t :: ts, vs, ds, ps, hr, h, hlt => by
    obtain ⟨v, vs', d, ds', p, q, rfl, rfl, rfl, h0, h1⟩ := trodAll_cons h
    simp only [List.all_cons, Bool.and_eq_true, decide_eq_true_eq] at hr
    exact trodAll_cons_mk (Below.trod hl hr.1.1 hr.1.2 h0 hb (fun x hx => hlt x (by simp [hx]))) (trodAll_below hl hb hr.2 h1 (fun x hx => hlt x (by simp [hx])))
/-- What is behind a call that answers true and has turned nothing. -/
theorem door_post {P : Program} (hl : laidOutB P = true) {f : Func} {s : ChangeSpec} {W W' : World} {args : Array Value} {ds gs : List (DataW H)} {before : List MemPlace} {tb : TypeId} (hub : P.underlying tb = some .bool)
    (hrt : f.resultTypes = #[tb]) (hpr : (f.params.toList.all fun t => P.readableRec t && decide (t < P.types.size)) = true) (hvr : varsRowed P s.vars = true)
    (hs : s.fn H (ds ++ gs) = ({ results := [.lit (.bool true)], args := ds, vars := gs } : Left H))
    (hW : DataW.Whole enc P f.params.toList s.vars false W args.toList ds gs before) (hb : Below W.heap.size W W') : s.post enc P f false true false false W args (.bool true) W' := by
  have hlt : ∀ x ∈ before, x.block < W.heap.size := fun x hx => by simpa using hW.lt x hx
  have hW' := hW
  obtain ⟨p, q, hA, hV, rfl, _, _⟩ := hW
  refine ⟨ds, gs, p ++ q, [], p, q, hW', ?_, ?_, ?_, hb.frame _, fun h => by cases h⟩
  · rw [hs, hrt]; exact trodAll_mk1 (shut_bool hub true)
  · rw [hs]; exact trodAll_below hl hb hpr hA (fun x hx => hlt x (by simp [hx]))
  · rw [hs]; exact Below.trodVars hl hb hvr hV
theorem vars_len {P : Program} {W : World} {sp : Nat → Bool} : ∀ {ns : List String} {gs : List (DataW H)} {ps : List MemPlace}, DataW.TrodVars enc P W sp ns gs ps → gs.length = ns.length
  | [], gs, ps, h => by rw [(trodVars_none h).1]; rfl
  | n :: ns, [], ps, h => h.elim
  | n :: ns, g :: gs, ps, h => by
    obtain ⟨_, _, _, _, _, _, _, _, _, _, hs, _⟩ := h
    rw [List.length_cons, List.length_cons, vars_len hs]
theorem nine {α : Type} {gs : List α} (h : gs.length = 9) : ∃ a b c d e f g h i, gs = [a, b, c, d, e, f, g, h, i] := by
  match gs, h with
  | [a, b, c, d, e, f, g, h, i], _ => exact ⟨_, _, _, _, _, _, _, _, _, rfl⟩
end
theorem reads_of {α β γ : Type} {x : Option (α × β × γ)} {a : α} {b : β} (h1 : x.map (·.1) = some a) (h2 : x.map (·.2.1) = some b) : ∃ c, x = some (a, b, c) := by
  cases x with
  | none => cases h1
  | some y =>
    obtain ⟨p, q, r⟩ := y
    simp only [Option.map_some, Option.some.injEq] at h1 h2
    exact ⟨r, by rw [h1, h2]⟩

/-! ### The errors that are laid -/

theorem star203 : "*" ++ "errors.errorString" = "*errors.errorString" := by decide
theorem row203 (u : TypeId) (h : Tryz.prog.typeName? 3 u = some "*errors.errorString") : u = 203 :=
  typeName_ptr_named (nm := "errors.errorString") (by rw [star203]; kernel_rfl) (by kernel_rfl) (by decide) u (by rw [star203]; exact h)
theorem cells205 : Tryz.prog.cellsOf 205 = 1 := by kernel_rfl
theorem cells9 : Tryz.prog.cellsOf 9 = 1 := by kernel_rfl
/-- The head of the list: a variable that holds an error, whose block is known. -/
theorem laid_at {n : String} {text : List UInt8} {r : List (String × DataW Unit)} {W : World} {g : Nat}
    (h : laidMet Tryz.prog ((n, .iface "*errors.errorString" (.ptr (.agg [.lit (.string text)]))) :: r) W) (hg : Tryz.prog.globalNamed n = some g) (ht : (Tryz.prog.globals[g]?).map (·.type) = some 41) :
    ∃ (a : Addr) (c : Array Value × TypeId), W.cell? ⟨g, 0, none⟩ = some (.iface 203 (.pointer (some a))) ∧ W.heap[a.block]? = some (.cells c.1 c.2 (0, 0)) := by
  obtain ⟨ps, ⟨g0, t0, cs0, f0, p0, q0, hg0, ht0, hv0, hd0, _, e0⟩, _, hrows⟩ := h
  obtain rfl := Option.some.inj (hg.symm.trans hg0)
  obtain rfl := Option.some.inj (ht.symm.trans ht0)
  subst e0
  obtain ⟨l0⟩ := cs0
  have ok0 : ∀ u v, l0 = [.iface u v] → Value.okWide Tryz.prog W .any 0 u v := fun u v e => by
    subst e
    exact (hrows g 0 (by simp [MemPlace.row])).2 u v (by simpa using World.var?_cell hg0 hv0 0)
  obtain ⟨a0, s0, rfl, hc0, hs0, hz0, rfl⟩ := errorString_of_trod Tryz.underlying41 row203 Tryz.underlying203 Tryz.underlying205 rfl rfl Tryz.underlying9 cells205 cells9 hd0 ok0
  obtain ⟨c0, t0, hb0⟩ := (hrows a0.block a0.off (by simp [MemPlace.row])).1
  exact ⟨a0, (c0, t0), by simpa using World.var?_cell hg0 hv0 0, hb0⟩
/-- The addresses of the errors that variables hold. -/
def ErrAt (W : World) (a : Addr) : Prop := ∃ k, k < 13 ∧ k ≠ 11 ∧ W.cell? ⟨k, 0, none⟩ = some (.iface 203 (.pointer (some a)))
theorem ek_of {W : World} (h : ∀ k, k < 13 → k ≠ 11 → ∃ (a : Addr) (c : Array Value × TypeId), W.cell? ⟨k, 0, none⟩ = some (.iface 203 (.pointer (some a))) ∧ W.heap[a.block]? = some (.cells c.1 c.2 (0, 0))) : EK (ErrAt W) W := by
  refine ⟨fun k h1 h2 => ?_, fun a ha => ?_⟩
  · obtain ⟨a, c, hc, _⟩ := h k h1 h2
    exact ⟨⟨a, k, h1, h2, hc⟩, hc⟩
  · obtain ⟨k, h1, h2, hk⟩ := ha
    obtain ⟨b, c, hc, hb⟩ := h k h1 h2
    rw [hk] at hc
    simp only [Option.some.injEq, Value.iface.injEq, Value.pointer.injEq, true_and] at hc
    subst hc
    exact ⟨c, hb⟩

theorem gl12 : Tryz.prog.globalNamed "io.ErrShortBuffer" = some 12 := by kernel_rfl
theorem gt12 : (Tryz.prog.globals[12]?).map (·.type) = some 41 := by kernel_rfl
theorem gl0 : Tryz.prog.globalNamed "io.EOF" = some 0 := by kernel_rfl
theorem gt0 : (Tryz.prog.globals[0]?).map (·.type) = some 41 := by kernel_rfl
theorem gl1 : Tryz.prog.globalNamed "io.ErrUnexpectedEOF" = some 1 := by kernel_rfl
theorem gt1 : (Tryz.prog.globals[1]?).map (·.type) = some 41 := by kernel_rfl
theorem gl4 : Tryz.prog.globalNamed "loop.example/pub-g01495/pub/orbwkbcommon.ErrUnsupportedDataType" = some 4 := by kernel_rfl
theorem gt4 : (Tryz.prog.globals[4]?).map (·.type) = some 41 := by kernel_rfl
theorem gl2 : Tryz.prog.globalNamed "loop.example/pub-g01495/pub/orbwkbcommon.ErrNotWKB" = some 2 := by kernel_rfl
theorem gt2 : (Tryz.prog.globals[2]?).map (·.type) = some 41 := by kernel_rfl
theorem gl7 : Tryz.prog.globalNamed "loop.example/pub-g01495/pub/orbwkbcommon.ErrNotWKBHeader" = some 7 := by kernel_rfl
theorem gt7 : (Tryz.prog.globals[7]?).map (·.type) = some 41 := by kernel_rfl
theorem gl8 : Tryz.prog.globalNamed "loop.example/pub-g01495/pub/orbwkbcommon.ErrIncorrectGeometry" = some 8 := by kernel_rfl
theorem gt8 : (Tryz.prog.globals[8]?).map (·.type) = some 41 := by kernel_rfl
theorem gl3 : Tryz.prog.globalNamed "loop.example/pub-g01495/pub/orbwkbcommon.ErrUnsupportedGeometry" = some 3 := by kernel_rfl
theorem gt3 : (Tryz.prog.globals[3]?).map (·.type) = some 41 := by kernel_rfl
theorem gl5 : Tryz.prog.globalNamed "loop.example/pub-g01495/pub/orbwkb.ErrUnsupportedDataType" = some 5 := by kernel_rfl
theorem gt5 : (Tryz.prog.globals[5]?).map (·.type) = some 41 := by kernel_rfl
theorem gl6 : Tryz.prog.globalNamed "loop.example/pub-g01495/pub/orbwkb.ErrNotWKB" = some 6 := by kernel_rfl
theorem gt6 : (Tryz.prog.globals[6]?).map (·.type) = some 41 := by kernel_rfl
theorem gl9 : Tryz.prog.globalNamed "loop.example/pub-g01495/pub/orbwkb.ErrIncorrectGeometry" = some 9 := by kernel_rfl
theorem gt9 : (Tryz.prog.globals[9]?).map (·.type) = some 41 := by kernel_rfl
theorem gl10 : Tryz.prog.globalNamed "loop.example/pub-g01495/pub/orbwkb.ErrUnsupportedGeometry" = some 10 := by kernel_rfl
theorem gt10 : (Tryz.prog.globals[10]?).map (·.type) = some 41 := by kernel_rfl
/-- The condition of the row gives what the walks ask. -/
theorem ek_of_laid {W : World} (hH : laidMetH Tryz.prog Rows.fnDecodeAgainRow.laid W) : EK (ErrAt W) W := by
  have hL : laidMet Tryz.prog Rows.fnDecodeAgainRow.laid W := by
    rw [← MakeChecks.laidMetH_plain Tryz.prog Rows.fnDecodeAgainRow.laid W (by kernel_rfl)]; exact hH
  refine ek_of fun k h1 h2 => ?_
  have e12 := laid_at hL gl12 gt12
  have e0 := laid_at hL.tail gl0 gt0
  have e1 := laid_at hL.tail.tail gl1 gt1
  have e4 := laid_at hL.tail.tail.tail gl4 gt4
  have e2 := laid_at hL.tail.tail.tail.tail gl2 gt2
  have e7 := laid_at hL.tail.tail.tail.tail.tail gl7 gt7
  have e8 := laid_at hL.tail.tail.tail.tail.tail.tail gl8 gt8
  have e3 := laid_at hL.tail.tail.tail.tail.tail.tail.tail gl3 gt3
  have e5 := laid_at hL.tail.tail.tail.tail.tail.tail.tail.tail gl5 gt5
  have e6 := laid_at hL.tail.tail.tail.tail.tail.tail.tail.tail.tail gl6 gt6
  have e9 := laid_at hL.tail.tail.tail.tail.tail.tail.tail.tail.tail.tail gl9 gt9
  have e10 := laid_at hL.tail.tail.tail.tail.tail.tail.tail.tail.tail.tail.tail gl10 gt10
  match k, h1, h2 with
  | 0, _, _ => exact e0
  | 1, _, _ => exact e1
  | 2, _, _ => exact e2
  | 3, _, _ => exact e3
  | 4, _, _ => exact e4
  | 5, _, _ => exact e5
  | 6, _, _ => exact e6
  | 7, _, _ => exact e7
  | 8, _, _ => exact e8
  | 9, _, _ => exact e9
  | 10, _, _ => exact e10
  | 11, _, h2 => exact (h2 rfl).elim
  | 12, _, _ => exact e12

/-! ### A world for the witness -/

noncomputable def low : Nat := (World.holding Tryz.prog default ⟨#[], #[], []⟩).heap.size
/-- The variables hold what their initialisers lay. -/
noncomputable def laidWorld (os : Os) : World :=
  let w0 := (World.holding Tryz.prog os ⟨#[.cells #[.string { data := #[115, 104, 111, 114, 116, 32, 98, 117, 102, 102, 101, 114] }] 205, .cells #[.string { data := #[69, 79, 70] }] 205, .cells #[.string { data := #[117, 110, 101, 120, 112, 101, 99, 116, 101, 100, 32, 69, 79, 70] }] 205, .cells #[.string { data := #[119, 107, 98, 99, 111, 109, 109, 111, 110, 58, 32, 115, 99, 97, 110, 32, 118, 97, 108, 117, 101, 32, 109, 117, 115, 116, 32, 98, 101, 32, 91, 93, 98, 121, 116, 101] }] 205, .cells #[.string { data := #[119, 107, 98, 99, 111, 109, 109, 111, 110, 58, 32, 105, 110, 118, 97, 108, 105, 100, 32, 100, 97, 116, 97] }] 205, .cells #[.string { data := #[119, 107, 98, 99, 111, 109, 109, 111, 110, 58, 32, 105, 110, 118, 97, 108, 105, 100, 32, 104, 101, 97, 100, 101, 114, 32, 100, 97, 116, 97] }] 205, .cells #[.string { data := #[119, 107, 98, 99, 111, 109, 109, 111, 110, 58, 32, 105, 110, 99, 111, 114, 114, 101, 99, 116, 32, 103, 101, 111, 109, 101, 116, 114, 121] }] 205, .cells #[.string { data := #[119, 107, 98, 99, 111, 109, 109, 111, 110, 58, 32, 117, 110, 115, 117, 112, 112, 111, 114, 116, 101, 100, 32, 103, 101, 111, 109, 101, 116, 114, 121] }] 205, .cells #[.string { data := #[119, 107, 98, 58, 32, 115, 99, 97, 110, 32, 118, 97, 108, 117, 101, 32, 109, 117, 115, 116, 32, 98, 101, 32, 91, 93, 98, 121, 116, 101] }] 205, .cells #[.string { data := #[119, 107, 98, 58, 32, 105, 110, 118, 97, 108, 105, 100, 32, 100, 97, 116, 97] }] 205, .cells #[.string { data := #[119, 107, 98, 58, 32, 105, 110, 99, 111, 114, 114, 101, 99, 116, 32, 103, 101, 111, 109, 101, 116, 114, 121] }] 205, .cells #[.string { data := #[119, 107, 98, 58, 32, 117, 110, 115, 117, 112, 112, 111, 114, 116, 101, 100, 32, 103, 101, 111, 109, 101, 116, 114, 121] }] 205], #[], []⟩)
  { w0 with heap := (((((((((((w0.heap.modify 12 fun | .cells _ t frozen => .cells #[.iface 203 (.pointer (some ⟨low + 0, 0, none⟩))] t frozen | o => o).modify 0 fun | .cells _ t frozen => .cells #[.iface 203 (.pointer (some ⟨low + 1, 0, none⟩))] t frozen | o => o).modify 1 fun | .cells _ t frozen => .cells #[.iface 203 (.pointer (some ⟨low + 2, 0, none⟩))] t frozen | o => o).modify 4 fun | .cells _ t frozen => .cells #[.iface 203 (.pointer (some ⟨low + 3, 0, none⟩))] t frozen | o => o).modify 2 fun | .cells _ t frozen => .cells #[.iface 203 (.pointer (some ⟨low + 4, 0, none⟩))] t frozen | o => o).modify 7 fun | .cells _ t frozen => .cells #[.iface 203 (.pointer (some ⟨low + 5, 0, none⟩))] t frozen | o => o).modify 8 fun | .cells _ t frozen => .cells #[.iface 203 (.pointer (some ⟨low + 6, 0, none⟩))] t frozen | o => o).modify 3 fun | .cells _ t frozen => .cells #[.iface 203 (.pointer (some ⟨low + 7, 0, none⟩))] t frozen | o => o).modify 5 fun | .cells _ t frozen => .cells #[.iface 203 (.pointer (some ⟨low + 8, 0, none⟩))] t frozen | o => o).modify 6 fun | .cells _ t frozen => .cells #[.iface 203 (.pointer (some ⟨low + 9, 0, none⟩))] t frozen | o => o).modify 9 fun | .cells _ t frozen => .cells #[.iface 203 (.pointer (some ⟨low + 10, 0, none⟩))] t frozen | o => o).modify 10 fun | .cells _ t frozen => .cells #[.iface 203 (.pointer (some ⟨low + 11, 0, none⟩))] t frozen | o => o }
/-- What the nine variables read as there. -/
noncomputable def laidReads {H : Type} (enc : TypeId × Value → H) : List (DataW H) := [.held (enc (203, .pointer (some ⟨low + 4, 0, none⟩))), .held (enc (203, .pointer (some ⟨low + 7, 0, none⟩))), .held (enc (203, .pointer (some ⟨low + 5, 0, none⟩))), .held (enc (203, .pointer (some ⟨low + 6, 0, none⟩))), .held (enc (203, .pointer (some ⟨low + 3, 0, none⟩))), .held (enc (203, .pointer (some ⟨low + 8, 0, none⟩))), .held (enc (203, .pointer (some ⟨low + 9, 0, none⟩))), .held (enc (203, .pointer (some ⟨low + 10, 0, none⟩))), .held (enc (203, .pointer (some ⟨low + 11, 0, none⟩)))]

/-! ### An argument of bytes -/

theorem cells5 : Tryz.prog.cellsOf 5 = 1 := by kernel_rfl
theorem u8_back {n : Int} (h : (Lit.int .u8 n).wf = true) : ((n.toNat.toUInt8).toNat : Int) = n := by
  have h2 : 0 ≤ n ∧ n < 256 := by
    have h1 : IntKind.u8.min = 0 := rfl
    have h2 : IntKind.u8.max = 255 := rfl
    simp [Lit.wf, h1, h2] at h
    omega
  rw [show n.toNat.toUInt8.toNat = n.toNat from by simp [Nat.toUInt8]; omega]
  omega
theorem open_bytes {H : Type} {enc : TypeId × Value → H} {W : World} {b0 : Nat} {r : Reach} {v : Value} {d : DataW H} {p : List MemPlace} {held : Bool}
    (hval : Value.okWide Tryz.prog W r b0 22 v) (h : DataW.Trod enc Tryz.prog W 0 (fun _ => true) held 22 v d p) :
    ∃ ao n c, v = .slice ao n c ∧ n ≤ c ∧ n ≤ 9223372036854775807 ∧ (n = 0 ∨ ∃ b off l, ao = some ⟨b, off, none⟩ ∧ l.length = n ∧ BytesAt W b off l) := by
  obtain ⟨ao, len, cap, rfl⟩ := okWide_slice Tryz.underlying22 hval
  obtain ⟨fuel, hf⟩ := h
  rcases open_ints Tryz.underlying22 Tryz.underlying5 cells5 hf with ⟨hcs, _⟩ | ⟨a, len', cap', zs, hcs, _, hl, hm, hz, _, hget, hwf⟩
  · simp [Value.cells] at hcs
    obtain ⟨rfl, rfl, rfl⟩ := hcs
    exact ⟨_, _, _, rfl, Nat.le_refl _, by omega, .inl rfl⟩
  · simp [Value.cells] at hcs
    obtain ⟨rfl, rfl, rfl⟩ := hcs
    simp only [if_true] at hz
    refine ⟨_, _, _, rfl, hl, by unfold maxLen at hm; omega, ?_⟩
    by_cases h0 : len = 0
    · exact .inl h0
    · right
      obtain ⟨b, off, spot⟩ := a
      have hspot : spot = none := by simpa [Addr.add] using World.cell?_spot (hget 0 (by omega))
      subst hspot
      refine ⟨b, off, (zs.take len).map (fun z => z.toNat.toUInt8), rfl, by rw [List.length_map, List.length_take]; omega, fun i x hx => ?_⟩
      rw [List.getElem?_map] at hx
      have hi : i < len := by
        rcases Nat.lt_or_ge i len with h | h
        · exact h
        · rw [List.getElem?_eq_none (by rw [List.length_take]; omega)] at hx; cases hx
      have hzi : zs[i]? = some (zs[i]'(by omega)) := List.getElem?_eq_getElem _
      rw [List.getElem?_take_of_lt hi, hzi] at hx
      simp only [Option.map_some, Option.some.injEq] at hx
      subst hx
      have := hget i (by omega)
      rw [List.getD_eq_getElem?_getD, hzi] at this
      have e : (⟨b, off, none⟩ : Addr).add i = ⟨b, off + i, none⟩ := by
        unfold Addr.add
        split
        · simp_all
        · rfl
      rw [e] at this
      rw [u8_back (hwf _ (List.mem_of_getElem? hzi))]
      exact this
end Go.Proofs.YtjbjjphgnilhmaaGreatDoor
