/- append to a slice of one's own, as a step of a region that draws: the row stays, or a new one is made. -/
import Derived.Test.YtpbhpplmokdkhaaDoorUt
import Derived.Test.YtpbhpplmokdkhaaDoorPts
import Derived.ArgAppend
import Derived.OwnWalk
import Derived.WideShapes
namespace Go.Proofs.YtpbhpplmokdkhaaDoor
open Go.RowKit

theorem run_append_new {P : Program} {w : World} (base : Nat) (t ty e : TypeId) (i : TypeInfo) (z : Value) (size bytes : Nat) (ht : P.underlying t = some (.slice e)) (hi : P.info? e = some i) (hz : i.zero = some z)
    (hsize : i.size = size) (hby : i.bytes = bytes) (hzs : z.cells.size = size) (hsz : 0 < size) (v : Value) (n : Nat) (xs : List Value) (hown : w.ownsRow base e size v n xs)
    (a : Addr) (m c : Nat) (news : List Value) (hl : news.length = m * size) (hnews : ∀ j u, news[j]? = some u → w.cell? (a.add j) = some u) (h1 : ∀ u ∈ news, u.oneCell' = true)
    (h63 : n + m ≤ maxLen) (hbytes : (n + m) * bytes ≤ 140737488355328) (hbase : base ≤ w.heap.size) :
    ∃ v' w', (Builtin.append_ #[t, t] ty #[v, .slice (some a) m c]).run P w = .ok v' w' ∧ w'.ownsRow base e size v' (n + m) (xs ++ news) ∧ w.grownBy w' v.ownBlock ∧ (v'.ownBlock = v.ownBlock ∨ ∀ k, v'.ownBlock = some k → w.heap.size ≤ k) := by
  rcases hown.2 with ⟨rfl, hn0⟩ | ⟨g, cap, cur, rfl, hbg, hgh, hncap, hcm, hrest⟩
  · obtain ⟨v', w', r1, r2, r3, _⟩ := run_append_own w base t ty e i z size bytes ht hi hz hsize hby hzs hsz _ n xs hown a m c news hl hnews h1 h63 hbytes hbase
    subst hn0
    have hx : xs = [] := List.eq_nil_of_length_eq_zero (by simpa using hown.1)
    subst hx
    obtain ⟨v'', w'', q1, q2, _, _⟩ := run_append_own w w.heap.size t ty e i z size bytes ht hi hz hsize hby hzs hsz (.slice none 0 0) 0 [] (World.ownsRow_nil w _ e size) a m c news hl hnews h1 h63 hbytes (Nat.le_refl _)
    rw [r1] at q1
    injection q1 with q3 q4
    subst q3 q4
    exact ⟨v', w', r1, r2, r3, .inr fun k hk => (q2.lt k hk).1⟩
  · by_cases hfit : n + m ≤ cap
    · obtain ⟨w', r1, r2, r3⟩ := run_append_fits (P := P) w base t ty e i size ht hi hsize g n cap xs hown a m c news hl hnews h1 hfit
      exact ⟨_, w', r1, r2, r3, .inl rfl⟩
    · obtain ⟨v', w', r1, r2, r3⟩ := run_append_arg_grows (P := P) (w := w) t ty e i z size bytes ht hi hz hsize hby hzs hsz ⟨g, 0, none⟩ n cap xs hown.1 (fun j u hj => by
        have hlt : j < xs.length := (List.getElem?_eq_some_iff.1 hj).1
        have := hown.cellAt j (by rw [hown.1] at hlt; exact hlt)
        rw [show (⟨g, 0, none⟩ : Addr).add j = ⟨g, j, none⟩ by rw [Go.WideShapes.add_plain, Nat.zero_add], this]
        exact hj) a m c news hl hnews (by omega) h63 hbytes
      have hne : w'.ownsRow base e size v' (n + m) (xs ++ news) := by
        refine ⟨r2.1, ?_⟩
        rcases r2.2 with h | ⟨g', cap', cur', h1', h2', h3'⟩
        · exact .inl h
        · exact .inr ⟨g', cap', cur', h1', Nat.le_trans hbase h2', h3'⟩
      exact ⟨v', w', r1, hne, ⟨r3.os, r3.tape, r3.output, r3.size, fun k hk _ => r3.block k hk (by simp)⟩, .inr fun k hk => (r2.lt k hk).1⟩

theorem step_append_new {P : Program} {ops : Array Oper} {o : Oper} {a : Act} {w : World} {K : Act → World → Prop} {Q : Exit → Act → World → Prop} {E : Prop}
    (hg : o.guard = none) (s x : Operand) (t : TypeId) (hop : o.op = Op.call { callee := Callee.builtin Builtin.append, args := #[s, x], argTypes := #[t, t] })
    (base : Nat) (e : TypeId) (i : TypeInfo) (z : Value) (size bytes : Nat) (h1 : P.underlying t = some (.slice e)) (h2 : P.info? e = some i) (h3 : i.zero = some z) (h4 : i.size = size) (h5 : i.bytes = bytes) (h6 : z.cells.size = size) (h7 : 0 < size)
    (v : Value) (n : Nat) (xs : List Value) (hs : a.eval s = v) (hown : w.ownsRow base e size v n xs)
    (ad : Addr) (m c : Nat) (news : List Value) (hx : a.eval x = .slice (some ad) m c) (hn : news.length = m * size) (hc : ∀ j u, news[j]? = some u → w.cell? (ad.add j) = some u) (h1c : ∀ u ∈ news, u.oneCell' = true)
    (b1 : n + m ≤ maxLen) (b2 : (n + m) * bytes ≤ 140737488355328) (hb : base ≤ w.heap.size)
    (hK : ∀ v' w', w'.ownsRow base e size v' (n + m) (xs ++ news) → w.grownBy w' v.ownBlock → (v'.ownBlock = v.ownBlock ∨ ∀ k, v'.ownBlock = some k → w.heap.size ≤ k) → K (a.put o.dst v') w') :
    if Region.wanted o (yielded ops a.tmps) = true then Oper.wp P o a w K Q else E := by
  have hw : Region.wanted o (yielded ops a.tmps) = true := by simp [Region.wanted, hg]
  rw [if_pos hw]
  obtain ⟨v', w', hrun, r1, r2, r3⟩ := run_append_new (P := P) base t o.type e i z size bytes h1 h2 h3 h4 h5 h6 h7 v n xs hown ad m c news hn hc h1c b1 b2 hb
  unfold Oper.wp
  simp [execOp, hop, resolve, invoke, builtin, hs, hx, hrun, Result.andThen]
  exact hK v' w' r1 r2 r3
end Go.Proofs.YtpbhpplmokdkhaaDoor
