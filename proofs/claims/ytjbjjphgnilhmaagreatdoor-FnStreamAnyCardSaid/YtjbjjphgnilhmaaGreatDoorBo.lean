/- Plain shapes in memory; the walks of impl.listOf, impl.pointsOf, impl.polygonShape. -/
import Derived.Test.YtjbjjphgnilhmaaGreatDoorBn
set_option linter.unusedVariables false
namespace Go.Proofs.YtjbjjphgnilhmaaGreatDoor
open Go.RowKit

theorem step_append_rowed {P : Program} {ops : Array Oper} {o : Oper} {a : Act} {w : World} {K : Act → World → Prop} {Q : Exit → Act → World → Prop} {E0 : Prop} (hgd : o.guard = none) (s x : Operand) (t : TypeId)
    (ho : o.op = .call { callee := .builtin .append, args := #[s, x], argTypes := #[t, t] })
    {α : Type} {zz : Prop} {r : Rep α} {base lo : Nat} (E T : TypeId) (i : TypeInfo) (z : Value) (bytes : Nat) (ht : P.underlying t = some (.slice E)) (hi : P.info? E = some i) (hz : i.zero = some z)
    (hsize : i.size = r.size) (hby : i.bytes = bytes) (hzs : z.cells.size = r.size) (hsz : 0 < r.size) (v : Value) (ls : List α) (hs : a.eval s = v) (hrow : Rowed zz r base E w v ls) (us : List Value) (a' : α) (K0 : Knows) (hK : Has lo K0 w) (hu : r.rel K0 us a') (hlo : base ≤ lo) (hlt : ∀ k, v.ownBlock = some k → k < lo)
    (cs : Array Value) (hcs : cs.toList = us) (nb : Nat) (hx : a.eval x = .slice (some ⟨nb, 0, none⟩) 1 1) (hnb : nb = w.heap.size)
    (h63 : ls.length + 1 ≤ maxLen) (hbytes : (ls.length + 1) * bytes ≤ 140737488355328) (hbase : base ≤ w.heap.size)
    (h : ∀ v' w', Rowed zz r base E w' v' (ls ++ [a']) → w.grownBy w' v.ownBlock → K (a.put o.dst v') w') :
    if Region.wanted o (yielded ops a.tmps) = true then Oper.wp P o a (w.alloc (.cells cs T)) K Q else E0 := by
  have hw : Region.wanted o (yielded ops a.tmps) = true := by simp [Region.wanted, hgd]
  rw [if_pos hw]
  subst hnb
  obtain ⟨v', w', hr, h2, h3⟩ := run_append_rowed (P := P) w t o.type E T i z bytes ht hi hz hsize hby hzs hsz hrow hK hu hlo hlt h63 hbytes hbase hcs
  unfold Oper.wp execOp
  simp only [ho, resolve, invoke, builtin, Sem.run_bind, Sem.run_pure, Result.andThen_ok, List.map_toArray, List.map_cons, List.map_nil, hs, hx, hr]
  exact h v' w' h2 h3

/-! ### Plain shapes -/

inductive Sh where
  | mk (kind : Nat) (lists : List (List By.Pt)) (parts : List Sh)
mutual
def shG : By.G → Sh
  | .pt p => .mk 1 [[p]] []
  | .ln l => .mk 2 [l] []
  | .pg l => .mk 3 l []
  | .mp l => .mk 4 [l] []
  | .ml l => .mk 5 l []
  | .mg l => .mk 6 [] (l.map fun rs => .mk 3 rs [])
  | .co l => .mk 7 [] (shGs l)
def shGs : List By.G → List Sh
  | [] => []
  | g :: r => shG g :: shGs r
end
theorem shGs_map : ∀ l, shGs l = l.map shG
  | [] => rfl
  | g :: r => by rw [shGs, shGs_map r]; rfl
/-- A plain shape in its three cells; f is at least its depth. -/
def IsS : Nat → Knows → List Value → Sh → Prop
  | 0, _, _, _ => False
  | f + 1, H, us, .mk k ls ps => ∃ vl vp, us = [.int .i64 k, vl, vp] ∧ RowIs True 1 (repRow repPt 70).rel 52 H vl ls ∧ RowIs True 3 (IsS f) 26 H vp ps
theorem IsS.mono : ∀ {f : Nat} {H K : Knows} {us : List Value} {s : Sh}, (∀ b o, H b o → K b o) → IsS f H us s → IsS f K us s
  | 0, _, _, _, _, _, h => h.elim
  | f + 1, H, K, us, .mk k ls ps, hk, h => by
    obtain ⟨vl, vp, h1, h2, h3⟩ := h
    exact ⟨vl, vp, h1, h2.mono (fun _ _ => (repRow repPt 70).mono hk) hk, h3.mono (fun _ _ => IsS.mono hk) hk⟩
theorem IsS.form : ∀ {f : Nat} {H : Knows} {us : List Value} {s : Sh}, IsS f H us s → ∃ (k : Nat) (ao : Option Addr) (n c : Nat) (bo : Option Addr) (m d : Nat), us = [.int .i64 k, .slice ao n c, .slice bo m d]
  | 0, _, _, _, h => h.elim
  | f + 1, H, us, .mk k ls ps, h => by
    obtain ⟨vl, vp, h1, h2, h3⟩ := h
    rcases h2 with ⟨_, rfl, _⟩ | ⟨g, cap, _, _, rfl, _⟩ <;> rcases h3 with ⟨_, rfl, _⟩ | ⟨g', cap', _, _, rfl, _⟩ <;> exact ⟨_, _, _, _, _, _, _, h1⟩
def repS (f : Nat) : Rep Sh where
  size := 3
  rel := IsS f
  mono := IsS.mono
  len := fun h => by obtain ⟨k, ao, n, c, bo, m, d, rfl⟩ := h.form; rfl
  one := fun h u hu => by
    obtain ⟨k, ao, n, c, bo, m, d, rfl⟩ := h.form
    simp at hu
    rcases hu with rfl | rfl | rfl <;> rfl
theorem info70 : (Tryz.prog.info? 70).map (fun i => (i.zero, i.size, i.bytes)) = some (some (.agg #[.float .f64 0, .float .f64 0]), 2, 16) := by kernel_rfl
theorem info52 : (Tryz.prog.info? 52).map (fun i => (i.zero, i.size, i.bytes)) = some (some (.slice none 0 0), 1, 24) := by kernel_rfl
theorem info26 : (Tryz.prog.info? 26).map (fun i => (i.zero, i.size, i.bytes)) = some (some (.agg #[.int .i64 0, .slice none 0 0, .slice none 0 0]), 3, 56) := by kernel_rfl

/-- Points of a row, read. -/
theorem pts_at {H : Knows} {g cap : Nat} {ps : List By.Pt} {E : TypeId} {w : World} {lo : Nat} (hu : rowIs repPt E H (.slice (some ⟨g, 0, none⟩) ps.length cap) ps) (hH : Has lo H w) :
    ∀ (i : Nat) p, ps[i]? = some p → w.cell? ⟨g, i * 2, none⟩ = some (.float .f64 p.1) ∧ w.cell? ⟨g, i * 2 + 1, none⟩ = some (.float .f64 p.2) := by
  intro i p hp
  obtain ⟨g', cap', hv, _, _, _, hget⟩ := RowIs.get hu hH (by intro h; subst h; simp at hp)
  simp only [Value.slice.injEq, Option.some.injEq, Addr.mk.injEq] at hv
  obtain ⟨us, _, hus, hc⟩ := hget i p hp
  rw [show us = ptCells p from hus] at hc
  rw [hv.1.1]
  exact ⟨by simpa [repPt] using hc 0 _ rfl, by simpa [repPt] using hc 1 _ rfl⟩
/-- Rows of a row, read. -/
theorem rows_at {H : Knows} {g cap : Nat} {α : Type} {r : Rep α} {pss : List (List α)} {E E2 : TypeId} {w : World} {lo : Nat} {z : Prop} (hu : RowIs z 1 (repRow r E).rel E2 H (.slice (some ⟨g, 0, none⟩) pss.length cap) pss) (hH : Has lo H w) :
    ∀ (i : Nat) ps, pss[i]? = some ps → ∃ v, w.cell? ⟨g, i, none⟩ = some v ∧ rowIs r E H v ps := by
  intro i ps hp
  obtain ⟨g', cap', hv, _, _, _, hget⟩ := RowIs.get hu hH (by intro h; subst h; simp at hp)
  simp only [Value.slice.injEq, Option.some.injEq, Addr.mk.injEq] at hv
  obtain ⟨us, _, ⟨v, rfl, hr⟩, hc⟩ := hget i ps hp
  rw [hv.1.1]
  exact ⟨v, by simpa using hc 0 _ rfl, hr⟩


set_option maxRecDepth 100000 in
set_option maxHeartbeats 1000000 in
/-- impl.listOf. -/
theorem lof_any {E0 : TypeId} (v : Value) (ps : List By.Pt) (H : Knows) (lo : Nat) (w : World) (hv : rowIs repPt E0 H v ps) (hH : Has lo H w) (hn : ps.length ≤ 2147483647) :
    Calls Tryz.prog 24 #[v] w fun e w' => ∃ u, e = .returned u ∧ Rowed False repPt w.heap.size 70 w' u ps ∧ Below w.heap.size w w' := by
  obtain ⟨i0, hi, hz0, hz1, hz2⟩ := info_parts info70
  obtain ⟨g, cap, rfl, hcap⟩ := RowIs.form hv
  have HPT := Lib.hid (pts_at hv hH)
  obtain ⟨n, hne⟩ : ∃ n, n = ps.length := ⟨_, rfl⟩
  rw [← hne] at hn hcap ⊢
  have h0 := Rowed.made (r := repPt) (E := 70) (base := w.heap.size) w #[] 0 (Nat.le_refl _) (Nat.zero_le _) rfl False
  have HNE := Lib.hid hne
  have HI := Lib.hid (⟨hi, hz0, hz1, hz2⟩ : _ ∧ _ ∧ _ ∧ _)
  have H0 := Lib.hid h0
  have HB0 : Hid (Below w.heap.size w (w.alloc (.cells #[] 70))) := Lib.hid ((Below.refl _ _).alloc (Nat.le_refl _) _)
  clear hv hH hne hi hz0 hz1 hz2 h0
  go_enter Tryz.func24, Tryz.ntmps24
  go_wp2_with fail
  go_loopw [3, 9] (fun v jv wr => ∃ j : Nat, j ≤ n ∧ jv = .int .i64 j ∧ Rowed False repPt w.heap.size 70 wr v (ps.take j) ∧ Hid (Below w.heap.size w wr)) (fun _ jv _ => n - (intOf jv).toNat)
  case atStart => exact ⟨0, Nat.zero_le _, rfl, H0.out, HB0⟩
  case round =>
    clear H0 HB0
    obtain ⟨j, hj, rfl, hR, HB⟩ := hrel
    by_cases hlt : j < n
    · have hp : ps[j]? = some ps[j] := List.getElem?_eq_getElem (by have := HNE.out; omega)
      obtain ⟨p, hpe⟩ : ∃ p, p = ps[j]'(by have := HNE.out; omega) := ⟨_, rfl⟩
      rw [← hpe] at hp
      obtain ⟨c0, c1⟩ := HPT.out j p hp
      have d0 := cell_later HB.out c0
      have d1 := cell_later HB.out c1
      have HP := Lib.hid hp
      have HRL := Lib.hid hR.lt
      have htl : (ps.take j).length = j := by rw [List.length_take]; have := HNE.out; omega
      have HTL := Lib.hid htl
      have hjn : (j : Int) < n := by omega
      clear c0 c1 hpe hp htl
      go_wp2_with (at_builtin; refine wpList_append_rowed (r := repPt) rfl _ _ 52 rfl (lo := wr.heap.size + 1) 70 70 i0 (.agg #[.float .f64 0, .float .f64 0]) 16 Tryz.underlying52 HI.out.1 HI.out.2.1 HI.out.2.2.1 HI.out.2.2.2 rfl (by decide) _ _ rfl (hR.alloc _) (ptCells p) p (fun _ _ => False) ?c0 rfl ?c4 ?c1 #[.float .f64 p.1, .float .f64 p.2] rfl _ rfl ?c6 ?c2 ?c3 ?c5 ?_)
      case c0 => exact fun _ _ h => h.elim
      case c4 => have := HB.out.size; omega
      case c1 => exact fun k hk => by have := (HRL.out k hk).2; omega
      case c2 => rw [HTL.out]; unfold maxLen; omega
      case c3 => rw [HTL.out]; omega
      case c5 => have := HB.out.size; simp; omega
      case c6 => simp
      intro v2 w4 hR2 hg
      have hb4 := (hR.alloc (.cells #[.float .f64 p.1, .float .f64 p.2] 68)).grownKeep (HB.out.alloc HB.out.size _) hg (Nat.le_refl _) (by have := HB.out.size; simp; omega)
      rw [← List.take_succ_of HP.out] at hR2
      have HB4 := Lib.hid hb4
      clear hg hb4 hR d0 d1
      go_wp2_with fail
      go_roundw
      case rel => exact ⟨j + 1, by omega, by go_num, hR2, HB4⟩
      case measure => simp [intOf]; omega
    · obtain rfl : j = n := by omega
      have hle : ps.take j = ps := List.take_of_length_le (by have := HNE.out; omega)
      rw [hle] at hR
      have HR := Lib.hid hR
      clear hR hle hlt
      go_wp2_with fail
      go_ret
      exact ⟨_, rfl, HR.out, HB.out⟩

end Go.Proofs.YtjbjjphgnilhmaaGreatDoor
