/- The walk of impl.Encode. -/
import Derived.Test.YtjbjjphgnilhmaaGreatDoorDs
import Derived.Test.YtjbjjphgnilhmaaGreatDoorDq
set_option linter.unusedVariables false
set_option linter.unusedSimpArgs false
namespace Go.Proofs.YtjbjjphgnilhmaaGreatDoor
open Go.RowKit

theorem own_bytes {w : World} {base n : Nat} {v : Value} {l : By.Bs} (h : w.ownsRow base 5 1 v n (l.map byteV)) (hn : 0 < n) : ∃ g cap, v = .slice (some ⟨g, 0, none⟩) n cap ∧ n ≤ cap ∧ base ≤ g ∧ BytesAt w g 0 l := by
  have hc := fun (g : Nat) (hg : v.ownBlock = some g) (i : Nat) (x : UInt8) (hx : l[i]? = some x) => (owns_cell (i := i) (u := byteV x) h hg (by rw [List.getElem?_map, hx]; rfl)).1
  rcases h.2 with ⟨_, h0⟩ | ⟨g, cap, cur, rfl, hb, _, hnc, _⟩
  · omega
  · exact ⟨g, cap, rfl, hnc, hb, fun i x hx => by rw [Nat.zero_add]; exact hc g rfl i x hx⟩
theorem news_bytes {w : World} {b : Nat} {l : By.Bs} (h : BytesAt w b 0 l) : ∀ (j : Nat) u, (l.map byteV)[j]? = some u → w.cell? ((⟨b, 0, none⟩ : Addr).add j) = some u := by
  intro j u hj
  rw [List.getElem?_map] at hj
  cases hl : l[j]? with
  | none => rw [hl] at hj; cases hj
  | some x =>
    rw [hl] at hj
    cases hj
    have e : (⟨b, 0, none⟩ : Addr).add j = ⟨b, j, none⟩ := by
      unfold Addr.add
      split
      · simp_all
      · simp
    rw [e]
    have := h j x hl
    rw [Nat.zero_add] at this
    exact this
theorem step_append_bytes {P : Program} {ops : Array Oper} {o : Oper} {a : Act} {w w0 : World} {K : Act → World → Prop} {Q : Exit → Act → World → Prop} {E0 : Prop} (hgd : o.guard = none) (s x : Operand) (t : TypeId)
    (ho : o.op = .call { callee := .builtin .append, args := #[s, x], argTypes := #[t, t] })
    (i : TypeInfo) (ht : P.underlying t = some (.slice 5)) (hi : P.info? 5 = some i) (hz : i.zero = some (.int .u8 0))
    (hsize : i.size = 1) (hby : i.bytes = 1) (hw : w = w0.alloc (.cells #[] 5)) (hs : a.eval s = .slice (some ⟨w0.heap.size, 0, none⟩) 0 0)
    (db n c : Nat) (l : By.Bs) (hx : a.eval x = .slice (some ⟨db, 0, none⟩) n c) (hl : l.length = n) (hn : 0 < n) (h31 : n ≤ 2147483647) (hb : BytesAt w0 db 0 l)
    (h : ∀ g cap w', n ≤ cap → w0.heap.size ≤ g → BytesAt w' g 0 l → Below w0.heap.size w0 w' → K (a.put o.dst (.slice (some ⟨g, 0, none⟩) n cap)) w') :
    if Region.wanted o (yielded ops a.tmps) = true then Oper.wp P o a w K Q else E0 := by
  have hw1 : Region.wanted o (yielded ops a.tmps) = true := by simp [Region.wanted, hgd]
  rw [if_pos hw1]
  subst hw
  have hb1 : BytesAt (w0.alloc (.cells #[] 5)) db 0 l := fun i x hi => cell_alloc (hb i x hi) _
  obtain ⟨v', w', hr, h2, h3, _⟩ := run_append_own (P := P) (w0.alloc (.cells #[] 5)) w0.heap.size t o.type 5 i (.int .u8 0) 1 1 ht hi hz hsize hby rfl (by decide) (.slice (some ⟨w0.heap.size, 0, none⟩) 0 0) 0 [] (World.ownsRow_made w0 #[] 0 (Nat.le_refl _) (Nat.zero_le _) rfl) ⟨db, 0, none⟩ n c (l.map byteV) (by rw [List.length_map, hl, Nat.mul_one]) (news_bytes hb1)
    (fun u hu => by obtain ⟨x, _, rfl⟩ := List.mem_map.1 hu; rfl) (by unfold maxLen; omega) (by omega) (by simp)
  rw [List.nil_append, Nat.zero_add] at h2
  obtain ⟨g, cap, rfl, hc, hg, hby2⟩ := own_bytes h2 hn
  have hbel : Below w0.heap.size w0 w' := by
    have k0 : Below w0.heap.size w0 (w0.alloc (.cells #[] 5)) := (Below.refl _ _).alloc (Nat.le_refl _) _
    exact ⟨h3.os.trans k0.os, h3.tape.trans k0.tape, h3.output.trans k0.output, Nat.le_trans k0.size h3.size, fun k hk => (h3.block k (Nat.lt_of_lt_of_le hk k0.size) (fun e => by simp [Value.ownBlock] at e; omega)).trans (k0.block k hk)⟩
  unfold Oper.wp execOp
  simp only [ho, resolve, invoke, builtin, Sem.run_bind, Sem.run_pure, Result.andThen_ok, List.map_toArray, List.map_cons, List.map_nil, hs, hx, hr]
  exact h g cap w' hc hg hby2 hbel

set_option maxRecDepth 100000 in
set_option maxHeartbeats 1000000 in
/-- impl.Encode of a shape. -/
theorem encode_any (f : Nat) (us : List Value) (g : By.G) (H : Knows) (lo : Nat) (big : Bool) (w : World) (h : IsS f H us (shG g)) (hH : Has lo H w) (hok : By.Ok g) (hs : By.size g ≤ 2147483647) :
    Calls Tryz.prog 7 #[.agg us.toArray, .bool big] w fun e w' => ∃ db cap, e = .returned (.tuple #[.slice (some ⟨db, 0, none⟩) (By.size g) cap, .bool true]) ∧ By.size g ≤ cap ∧ w.heap.size ≤ db ∧ BytesAt w' db 0 (By.enc (!big) g) ∧ Below w.heap.size w w' := by
  obtain ⟨k, ao, n, cap, bo', m, d, rfl⟩ := h.form
  obtain ⟨i0, hi, hz0, hz1, hz2⟩ := info_parts info5
  obtain ⟨W0, hW0⟩ : ∃ W, W = w.alloc (.cells #[.int .i64 k, .slice ao n cap, .slice bo' m d] 26) := ⟨_, rfl⟩
  have b0 : Below w.heap.size w W0 := by rw [hW0]; exact (Below.refl _ _).alloc (Nat.le_refl _) _
  have hcall := geos_any f _ g H lo W0 h (hH.below b0) hs
  obtain ⟨T, hT⟩ : ∃ T, T = By.size g := ⟨_, rfl⟩
  have hpos := size_pos g
  have hlen := By.enc_length (!big) g
  rw [← hT] at hs hpos hlen ⊢
  have HT := Lib.hid (⟨hT, hlen⟩ : _ ∧ _)
  have HI := Lib.hid (⟨hi, hz0, hz1, hz2⟩ : _ ∧ _ ∧ _ ∧ _)
  have HO := Lib.hid (⟨hok, hs, hpos⟩ : _ ∧ _ ∧ _)
  have HF := Lib.hid b0
  have HW0 := Lib.hid hW0
  clear h hH hok hi hz0 hz1 hz2 hs hpos hlen b0 hW0 hT
  go_enter Tryz.func7, Tryz.ntmps7
  go_wp2_with fail
  rw [← HW0.out]
  refine hcall.mono ?_
  rintro e w1 ⟨x, K, rfl, hx, hK, hb1⟩
  obtain ⟨tt, xx, rfl⟩ := hx.iface
  have H1 := Lib.hid (⟨hx, hK, HF.out.trans (hb1.mono HF.out.size)⟩ : _ ∧ _ ∧ _)
  clear hcall hx hK hb1
  have hcall2 := order_call big w1
  go_wp2_with fail
  refine hcall2.mono ?_
  rintro e w2 ⟨rfl, rfl⟩
  obtain ⟨z, hz⟩ : ∃ z : Int, bo (!big) = .int .u8 z := by cases big <;> exact ⟨_, rfl⟩
  rw [hz]
  obtain ⟨W3, hW3⟩ : ∃ W, W = w2.alloc (.cells #[.int .u8 z] 49) := ⟨_, rfl⟩
  have b3 : Below w2.heap.size w2 W3 := by rw [hW3]; exact (Below.refl _ _).alloc (Nat.le_refl _) _
  have o3 : Blk W3 w2.heap.size #[bo (!big)] 49 := by rw [hW3, hz]; exact Blk.new _ _ _
  have hcall3 := marshal_any f (.iface tt xx) g K _ w2.heap.size (!big) W3 H1.out.1 (H1.out.2.1.below b3) o3 HO.out.1 (by rw [← HT.out.1]; exact HO.out.2.1)
  rw [← HT.out.1] at hcall3
  have HB3 := Lib.hid (H1.out.2.2.trans (b3.mono H1.out.2.2.size))
  have HW3 := Lib.hid hW3
  clear hcall2 b3 o3 hW3 hz
  go_wp2_with fail
  try rw [← HW3.out]
  refine hcall3.mono ?_
  rintro e w4 ⟨db, rfl, hdb, hby, hb4⟩
  have B4 := Lib.hid (HB3.out.trans (hb4.mono HB3.out.size))
  have HY := Lib.hid hby
  clear hcall3 hdb hby hb4
  go_wp2_with fail
  go_region_law (refine step_append_bytes (w0 := w4.drew) rfl (.tmp 21) (.tmp 22) 22 rfl i0 Tryz.underlying22 HI.out.1 HI.out.2.1 HI.out.2.2.1 HI.out.2.2.2 rfl rfl db T T (By.enc (!big) g) rfl HT.out.2 HO.out.2.2 HO.out.2.1 HY.out ?_; intro gb cb w5 hcb hgb hB5 hb5; have HE := Lib.hid (⟨hcb, hgb, hB5, hb5⟩ : _ ∧ _ ∧ _ ∧ _); clear hcb hgb hB5 hb5)
  all_goals
    go_wp2_with fail
    go_ret2
    have hb6 : Below w4.heap.size w4 w5 := below_drew_un HE.out.2.2.2
    exact ⟨gb, cb, rfl, HE.out.1, Nat.le_trans B4.out.size HE.out.2.1, HE.out.2.2.1, B4.out.trans (hb6.mono B4.out.size)⟩
end Go.Proofs.YtjbjjphgnilhmaaGreatDoor
